import PyProof.Rows.All
import Wide.All
import OpenK.AllK
import Wide.FinOn
import PySem.Challenge.RW_pg0291_01
set_option Elab.async false
set_option linter.unusedVariables false
section
open PySem PySem.W PyProof.Rows
set_option maxRecDepth 100000
namespace Mine
abbrev q (s : String) : Str := Str.ofString s
abbrev de (P : Params) (s : String) (t : Tok) (v : Value) : DictEntry := DictEntry.mk (PyData.keyHash P (q s)) (Value.str (q s) t) v
noncomputable def stAt (i : Nat) : Stmt := (Program.main PySem.Challenge.pw_pg0291_01).body.getD i (.Pass ⟨0, 0, 0, 0⟩)
noncomputable def inAt (i j : Nat) : Stmt := match stAt i with
  | .ClassDef _ _ _ body _ _ _ _ _ _ _ => body.getD j (.Pass ⟨0, 0, 0, 0⟩)
  | s => s
noncomputable def psOf (s : Stmt) : Arguments := match s with
  | .FunctionDef _ ps _ _ _ _ _ _ _ _ => ps
  | _ => ⟨[], [], none, [], [], none, []⟩
noncomputable def bodyOf (s : Stmt) : List Stmt := match s with
  | .FunctionDef _ _ b _ _ _ _ _ _ _ => b
  | _ => []
noncomputable def scOf (s : Stmt) : PySem.Scope := match s with
  | .FunctionDef _ _ _ _ _ _ sc _ _ _ => sc
  | _ => (Program.main PySem.Challenge.pw_pg0291_01).scope
noncomputable def hd.heap_39 : Params → Frag := fun P => [(2, Obj.mk Value.none Option.none (Data.dict #[]) #[]),
  (3, Obj.mk (Value.type "dict") Option.none (Data.dict #[de P "__name__" 165 (Value.str (q "law_pg0291_01") 390), de P "__doc__" 166 Value.none, de P "__package__" 167 Value.none, de P "__loader__" 168 (Value.builtin "__main__.__loader__#opaque"), de P "__spec__" 169 Value.none, de P "__annotations__" 170 (Value.ref 6), de P "__builtins__" 171 (Value.ref 4), de P "__file__" 173 (Value.str (q "/claim/cut.py") 172), de P "__cached__" 174 Value.none, de P "_wall" 193 (Value.ref 21), de P "ELLIPSIS_MARKER" 197 (Value.str (q "...") 196), de P "_ellipsis_match" 209 (Value.ref 28), de P "_DIV_LIMIT" 213 (Value.int 4000 212), de P "_div2n1n" 230 (Value.ref 35), de P "_div3n2n" 244 (Value.ref 42), de P "_int2digits" 255 (Value.ref 49), de P "_digits2int" 266 (Value.ref 56), de P "_divmod_pos" 281 (Value.ref 63), de P "int_divmod" 291 (Value.ref 70), de P "Whitespace" 389 (Value.ref 132), de P "_law_leads" 397 (Value.ref 141), de P "_law_text" 404 (Value.ref 148), de P "_law_runs" 410 (Value.ref 153), de P "_law_fraction" 429 (Value.ref 160), de P "_law_trimmed" 437 (Value.ref 167), de P "law" 443 (Value.ref 172)] 26) #[]),
  (15, Obj.mk (Value.type "tuple") Option.none (Data.seq #[]) #[]),
  (17, Obj.mk (Value.type "tuple") Option.none (Data.seq #[Value.str (q "k") 190]) #[]),
  (18, Obj.mk (Value.type "tuple") Option.none (Data.seq #[]) #[]),
  (20, Obj.mk (Value.type "code") Option.none (Data.fields #[Value.str (q "_wall") 187, Value.str (q "_wall") 188, Value.str (q "/claim/cut.py") 189, Value.int 1 0, Value.int 1 0, Value.int 0 0, Value.int 0 0, Value.int 3 0, Value.ref 15, Value.bool Bool.true, Value.int 181 0, Value.ref 16, Value.none, Value.ref 17, Value.ref 18, Value.ref 19, Value.int 191 0, Value.int 1 0, Value.str (q "/claim/cut.py") 192]) #[]),
  (21, Obj.mk (Value.type "function") Option.none (Data.func (FuncData.mk (q "_wall") (q "_wall") (psOf (stAt 0)) (FuncBody.stmts (bodyOf (stAt 0))) (scOf (stAt 0)) 3 [] Value.none Value.none Value.none (Value.str (q "__main__") 164) Option.none (Value.ref 20) Value.none 0)) #[]),
  (22, Obj.mk (Value.type "tuple") Option.none (Data.seq #[]) #[]),
  (24, Obj.mk (Value.type "tuple") Option.none (Data.seq #[Value.str (q "want") 201, Value.str (q "got") 202, Value.str (q "ws") 203, Value.str (q "startpos") 204, Value.str (q "endpos") 205, Value.str (q "w") 206]) #[]),
  (25, Obj.mk (Value.type "tuple") Option.none (Data.seq #[]) #[]),
  (27, Obj.mk (Value.type "code") Option.none (Data.fields #[Value.str (q "_ellipsis_match") 198, Value.str (q "_ellipsis_match") 199, Value.str (q "/claim/cut.py") 200, Value.int 6 0, Value.int 2 0, Value.int 0 0, Value.int 0 0, Value.int 3 0, Value.ref 22, Value.bool Bool.true, Value.int 181 0, Value.ref 23, Value.none, Value.ref 24, Value.ref 25, Value.ref 26, Value.int 207 0, Value.int 6 0, Value.str (q "/claim/cut.py") 208]) #[]),
  (28, Obj.mk (Value.type "function") Option.none (Data.func (FuncData.mk (q "_ellipsis_match") (q "_ellipsis_match") (psOf (stAt 3)) (FuncBody.stmts (bodyOf (stAt 3))) (scOf (stAt 3)) 3 [] Value.none Value.none Value.none (Value.str (q "cpy313.doctest") 194) Option.none (Value.ref 27) Value.none 0)) #[]),
  (29, Obj.mk (Value.type "tuple") Option.none (Data.seq #[]) #[]),
  (31, Obj.mk (Value.type "tuple") Option.none (Data.seq #[Value.str (q "a") 217, Value.str (q "b") 218, Value.str (q "n") 219, Value.str (q "pad") 220, Value.str (q "half_n") 221, Value.str (q "mask") 222, Value.str (q "b1") 223, Value.str (q "b2") 224, Value.str (q "q1") 225, Value.str (q "r") 226, Value.str (q "q2") 227]) #[]),
  (32, Obj.mk (Value.type "tuple") Option.none (Data.seq #[]) #[]),
  (34, Obj.mk (Value.type "code") Option.none (Data.fields #[Value.str (q "_div2n1n") 214, Value.str (q "_div2n1n") 215, Value.str (q "/claim/cut.py") 216, Value.int 36 0, Value.int 3 0, Value.int 0 0, Value.int 0 0, Value.int 3 0, Value.ref 29, Value.bool Bool.true, Value.int 181 0, Value.ref 30, Value.none, Value.ref 31, Value.ref 32, Value.ref 33, Value.int 228 0, Value.int 36 0, Value.str (q "/claim/cut.py") 229]) #[]),
  (35, Obj.mk (Value.type "function") Option.none (Data.func (FuncData.mk (q "_div2n1n") (q "_div2n1n") (psOf (stAt 6)) (FuncBody.stmts (bodyOf (stAt 6))) (scOf (stAt 6)) 3 [] Value.none Value.none Value.none (Value.str (q "cpy313._pylong") 210) Option.none (Value.ref 34) Value.none 0)) #[]),
  (36, Obj.mk (Value.type "tuple") Option.none (Data.seq #[]) #[]),
  (38, Obj.mk (Value.type "tuple") Option.none (Data.seq #[Value.str (q "a12") 234, Value.str (q "a3") 235, Value.str (q "b") 236, Value.str (q "b1") 237, Value.str (q "b2") 238, Value.str (q "n") 239, Value.str (q "q") 240, Value.str (q "r") 241]) #[]),
  (39, Obj.mk (Value.type "tuple") Option.none (Data.seq #[]) #[]),
  (41, Obj.mk (Value.type "code") Option.none (Data.fields #[Value.str (q "_div3n2n") 231, Value.str (q "_div3n2n") 232, Value.str (q "/claim/cut.py") 233, Value.int 52 0, Value.int 6 0, Value.int 0 0, Value.int 0 0, Value.int 3 0, Value.ref 36, Value.bool Bool.true, Value.int 181 0, Value.ref 37, Value.none, Value.ref 38, Value.ref 39, Value.ref 40, Value.int 242 0, Value.int 52 0, Value.str (q "/claim/cut.py") 243]) #[]),
  (42, Obj.mk (Value.type "function") Option.none (Data.func (FuncData.mk (q "_div3n2n") (q "_div3n2n") (psOf (stAt 7)) (FuncBody.stmts (bodyOf (stAt 7))) (scOf (stAt 7)) 3 [] Value.none Value.none Value.none (Value.str (q "cpy313._pylong") 210) Option.none (Value.ref 41) Value.none 0)) #[]),
  (43, Obj.mk (Value.type "tuple") Option.none (Data.seq #[]) #[]),
  (45, Obj.mk (Value.type "tuple") Option.none (Data.seq #[Value.str (q "a") 248, Value.str (q "n") 249]) #[]),
  (46, Obj.mk (Value.type "tuple") Option.none (Data.seq #[Value.str (q "n") 250, Value.str (q "a_digits") 251, Value.str (q "inner") 252]) #[]),
  (48, Obj.mk (Value.type "code") Option.none (Data.fields #[Value.str (q "_int2digits") 245, Value.str (q "_int2digits") 246, Value.str (q "/claim/cut.py") 247, Value.int 62 0, Value.int 2 0, Value.int 0 0, Value.int 0 0, Value.int 3 0, Value.ref 43, Value.bool Bool.true, Value.int 181 0, Value.ref 44, Value.none, Value.ref 45, Value.ref 46, Value.ref 47, Value.int 253 0, Value.int 62 0, Value.str (q "/claim/cut.py") 254]) #[]),
  (49, Obj.mk (Value.type "function") Option.none (Data.func (FuncData.mk (q "_int2digits") (q "_int2digits") (psOf (stAt 8)) (FuncBody.stmts (bodyOf (stAt 8))) (scOf (stAt 8)) 3 [] Value.none Value.none Value.none (Value.str (q "cpy313._pylong") 210) Option.none (Value.ref 48) Value.none 0)) #[]),
  (50, Obj.mk (Value.type "tuple") Option.none (Data.seq #[]) #[]),
  (52, Obj.mk (Value.type "tuple") Option.none (Data.seq #[Value.str (q "digits") 259, Value.str (q "n") 260]) #[]),
  (53, Obj.mk (Value.type "tuple") Option.none (Data.seq #[Value.str (q "digits") 261, Value.str (q "n") 262, Value.str (q "inner") 263]) #[]),
  (55, Obj.mk (Value.type "code") Option.none (Data.fields #[Value.str (q "_digits2int") 256, Value.str (q "_digits2int") 257, Value.str (q "/claim/cut.py") 258, Value.int 78 0, Value.int 2 0, Value.int 0 0, Value.int 0 0, Value.int 3 0, Value.ref 50, Value.bool Bool.true, Value.int 181 0, Value.ref 51, Value.none, Value.ref 52, Value.ref 53, Value.ref 54, Value.int 264 0, Value.int 78 0, Value.str (q "/claim/cut.py") 265]) #[]),
  (56, Obj.mk (Value.type "function") Option.none (Data.func (FuncData.mk (q "_digits2int") (q "_digits2int") (psOf (stAt 9)) (FuncBody.stmts (bodyOf (stAt 9))) (scOf (stAt 9)) 3 [] Value.none Value.none Value.none (Value.str (q "cpy313._pylong") 210) Option.none (Value.ref 55) Value.none 0)) #[]),
  (57, Obj.mk (Value.type "tuple") Option.none (Data.seq #[]) #[]),
  (59, Obj.mk (Value.type "tuple") Option.none (Data.seq #[Value.str (q "a") 270, Value.str (q "b") 271, Value.str (q "n") 272, Value.str (q "a_digits") 273, Value.str (q "r") 274, Value.str (q "q_digits") 275, Value.str (q "a_digit") 276, Value.str (q "q_digit") 277, Value.str (q "q") 278]) #[]),
  (60, Obj.mk (Value.type "tuple") Option.none (Data.seq #[]) #[]),
  (62, Obj.mk (Value.type "code") Option.none (Data.fields #[Value.str (q "_divmod_pos") 267, Value.str (q "_divmod_pos") 268, Value.str (q "/claim/cut.py") 269, Value.int 87 0, Value.int 2 0, Value.int 0 0, Value.int 0 0, Value.int 3 0, Value.ref 57, Value.bool Bool.true, Value.int 181 0, Value.ref 58, Value.none, Value.ref 59, Value.ref 60, Value.ref 61, Value.int 279 0, Value.int 87 0, Value.str (q "/claim/cut.py") 280]) #[]),
  (63, Obj.mk (Value.type "function") Option.none (Data.func (FuncData.mk (q "_divmod_pos") (q "_divmod_pos") (psOf (stAt 10)) (FuncBody.stmts (bodyOf (stAt 10))) (scOf (stAt 10)) 3 [] Value.none Value.none Value.none (Value.str (q "cpy313._pylong") 210) Option.none (Value.ref 62) Value.none 0)) #[]),
  (64, Obj.mk (Value.type "tuple") Option.none (Data.seq #[]) #[]),
  (66, Obj.mk (Value.type "tuple") Option.none (Data.seq #[Value.str (q "a") 285, Value.str (q "b") 286, Value.str (q "q") 287, Value.str (q "r") 288]) #[]),
  (67, Obj.mk (Value.type "tuple") Option.none (Data.seq #[]) #[]),
  (69, Obj.mk (Value.type "code") Option.none (Data.fields #[Value.str (q "int_divmod") 282, Value.str (q "int_divmod") 283, Value.str (q "/claim/cut.py") 284, Value.int 98 0, Value.int 2 0, Value.int 0 0, Value.int 0 0, Value.int 3 0, Value.ref 64, Value.bool Bool.true, Value.int 181 0, Value.ref 65, Value.none, Value.ref 66, Value.ref 67, Value.ref 68, Value.int 289 0, Value.int 98 0, Value.str (q "/claim/cut.py") 290]) #[]),
  (70, Obj.mk (Value.type "function") Option.none (Data.func (FuncData.mk (q "int_divmod") (q "int_divmod") (psOf (stAt 11)) (FuncBody.stmts (bodyOf (stAt 11))) (scOf (stAt 11)) 3 [] Value.none Value.none Value.none (Value.str (q "cpy313._pylong") 210) Option.none (Value.ref 69) Value.none 0)) #[]),
  (81, Obj.mk (Value.type "tuple") Option.none (Data.seq #[]) #[]),
  (83, Obj.mk (Value.type "tuple") Option.none (Data.seq #[Value.str (q "self") 314, Value.str (q "ws") 315, Value.str (q "S") 316, Value.str (q "T") 317, Value.str (q "count") 318, Value.str (q "b") 319, Value.str (q "n") 320, Value.str (q "nt") 321, Value.str (q "ch") 322]) #[]),
  (84, Obj.mk (Value.type "tuple") Option.none (Data.seq #[]) #[]),
  (86, Obj.mk (Value.type "code") Option.none (Data.fields #[Value.str (q "__init__") 311, Value.str (q "Whitespace.__init__") 312, Value.str (q "/claim/cut.py") 313, Value.int 113 0, Value.int 2 0, Value.int 0 0, Value.int 0 0, Value.int 3 0, Value.ref 81, Value.bool Bool.true, Value.int 181 0, Value.ref 82, Value.none, Value.ref 83, Value.ref 84, Value.ref 85, Value.int 323 0, Value.int 113 0, Value.str (q "/claim/cut.py") 324]) #[]),
  (87, Obj.mk (Value.type "function") Option.none (Data.func (FuncData.mk (q "__init__") (q "Whitespace.__init__") (psOf (inAt 13 1)) (FuncBody.stmts (bodyOf (inAt 13 1))) (scOf (inAt 13 1)) 3 [] Value.none Value.none Value.none (Value.str (q "cpy313.tabnanny") 292) Option.none (Value.ref 86) Value.none 0)) #[]),
  (88, Obj.mk (Value.type "tuple") Option.none (Data.seq #[]) #[]),
  (90, Obj.mk (Value.type "tuple") Option.none (Data.seq #[Value.str (q "self") 329]) #[]),
  (91, Obj.mk (Value.type "tuple") Option.none (Data.seq #[]) #[]),
  (93, Obj.mk (Value.type "code") Option.none (Data.fields #[Value.str (q "longest_run_of_spaces") 326, Value.str (q "Whitespace.longest_run_of_spaces") 327, Value.str (q "/claim/cut.py") 328, Value.int 136 0, Value.int 1 0, Value.int 0 0, Value.int 0 0, Value.int 3 0, Value.ref 88, Value.bool Bool.true, Value.int 181 0, Value.ref 89, Value.none, Value.ref 90, Value.ref 91, Value.ref 92, Value.int 330 0, Value.int 136 0, Value.str (q "/claim/cut.py") 331]) #[]),
  (94, Obj.mk (Value.type "function") Option.none (Data.func (FuncData.mk (q "longest_run_of_spaces") (q "Whitespace.longest_run_of_spaces") (psOf (inAt 13 2)) (FuncBody.stmts (bodyOf (inAt 13 2))) (scOf (inAt 13 2)) 3 [] Value.none Value.none Value.none (Value.str (q "cpy313.tabnanny") 292) Option.none (Value.ref 93) Value.none 0)) #[]),
  (95, Obj.mk (Value.type "tuple") Option.none (Data.seq #[]) #[]),
  (97, Obj.mk (Value.type "tuple") Option.none (Data.seq #[Value.str (q "self") 336, Value.str (q "tabsize") 337, Value.str (q "count") 338, Value.str (q "trailing") 339, Value.str (q "il") 340, Value.str (q "i") 341]) #[]),
  (98, Obj.mk (Value.type "tuple") Option.none (Data.seq #[]) #[]),
  (100, Obj.mk (Value.type "code") Option.none (Data.fields #[Value.str (q "indent_level") 333, Value.str (q "Whitespace.indent_level") 334, Value.str (q "/claim/cut.py") 335, Value.int 139 0, Value.int 2 0, Value.int 0 0, Value.int 0 0, Value.int 3 0, Value.ref 95, Value.bool Bool.true, Value.int 181 0, Value.ref 96, Value.none, Value.ref 97, Value.ref 98, Value.ref 99, Value.int 342 0, Value.int 139 0, Value.str (q "/claim/cut.py") 343]) #[]),
  (101, Obj.mk (Value.type "function") Option.none (Data.func (FuncData.mk (q "indent_level") (q "Whitespace.indent_level") (psOf (inAt 13 3)) (FuncBody.stmts (bodyOf (inAt 13 3))) (scOf (inAt 13 3)) 3 [] Value.none Value.none Value.none (Value.str (q "cpy313.tabnanny") 292) Option.none (Value.ref 100) Value.none 0)) #[]),
  (102, Obj.mk (Value.type "tuple") Option.none (Data.seq #[]) #[]),
  (104, Obj.mk (Value.type "tuple") Option.none (Data.seq #[Value.str (q "self") 348, Value.str (q "other") 349]) #[]),
  (105, Obj.mk (Value.type "tuple") Option.none (Data.seq #[]) #[]),
  (107, Obj.mk (Value.type "code") Option.none (Data.fields #[Value.str (q "equal") 345, Value.str (q "Whitespace.equal") 346, Value.str (q "/claim/cut.py") 347, Value.int 146 0, Value.int 2 0, Value.int 0 0, Value.int 0 0, Value.int 3 0, Value.ref 102, Value.bool Bool.true, Value.int 181 0, Value.ref 103, Value.none, Value.ref 104, Value.ref 105, Value.ref 106, Value.int 350 0, Value.int 146 0, Value.str (q "/claim/cut.py") 351]) #[]),
  (108, Obj.mk (Value.type "function") Option.none (Data.func (FuncData.mk (q "equal") (q "Whitespace.equal") (psOf (inAt 13 4)) (FuncBody.stmts (bodyOf (inAt 13 4))) (scOf (inAt 13 4)) 3 [] Value.none Value.none Value.none (Value.str (q "cpy313.tabnanny") 292) Option.none (Value.ref 107) Value.none 0)) #[]),
  (109, Obj.mk (Value.type "tuple") Option.none (Data.seq #[]) #[]),
  (111, Obj.mk (Value.type "tuple") Option.none (Data.seq #[Value.str (q "self") 356, Value.str (q "other") 357]) #[]),
  (112, Obj.mk (Value.type "tuple") Option.none (Data.seq #[]) #[]),
  (114, Obj.mk (Value.type "code") Option.none (Data.fields #[Value.str (q "not_equal_witness") 353, Value.str (q "Whitespace.not_equal_witness") 354, Value.str (q "/claim/cut.py") 355, Value.int 149 0, Value.int 2 0, Value.int 0 0, Value.int 0 0, Value.int 3 0, Value.ref 109, Value.bool Bool.true, Value.int 181 0, Value.ref 110, Value.none, Value.ref 111, Value.ref 112, Value.ref 113, Value.int 358 0, Value.int 149 0, Value.str (q "/claim/cut.py") 359]) #[]),
  (115, Obj.mk (Value.type "function") Option.none (Data.func (FuncData.mk (q "not_equal_witness") (q "Whitespace.not_equal_witness") (psOf (inAt 13 5)) (FuncBody.stmts (bodyOf (inAt 13 5))) (scOf (inAt 13 5)) 3 [] Value.none Value.none Value.none (Value.str (q "cpy313.tabnanny") 292) Option.none (Value.ref 114) Value.none 0)) #[]),
  (116, Obj.mk (Value.type "tuple") Option.none (Data.seq #[]) #[]),
  (118, Obj.mk (Value.type "tuple") Option.none (Data.seq #[Value.str (q "self") 364, Value.str (q "other") 365]) #[]),
  (119, Obj.mk (Value.type "tuple") Option.none (Data.seq #[]) #[]),
  (121, Obj.mk (Value.type "code") Option.none (Data.fields #[Value.str (q "less") 361, Value.str (q "Whitespace.less") 362, Value.str (q "/claim/cut.py") 363, Value.int 152 0, Value.int 2 0, Value.int 0 0, Value.int 0 0, Value.int 3 0, Value.ref 116, Value.bool Bool.true, Value.int 181 0, Value.ref 117, Value.none, Value.ref 118, Value.ref 119, Value.ref 120, Value.int 366 0, Value.int 152 0, Value.str (q "/claim/cut.py") 367]) #[]),
  (122, Obj.mk (Value.type "function") Option.none (Data.func (FuncData.mk (q "less") (q "Whitespace.less") (psOf (inAt 13 6)) (FuncBody.stmts (bodyOf (inAt 13 6))) (scOf (inAt 13 6)) 3 [] Value.none Value.none Value.none (Value.str (q "cpy313.tabnanny") 292) Option.none (Value.ref 121) Value.none 0)) #[]),
  (123, Obj.mk (Value.type "tuple") Option.none (Data.seq #[]) #[]),
  (125, Obj.mk (Value.type "tuple") Option.none (Data.seq #[Value.str (q "self") 372, Value.str (q "other") 373]) #[]),
  (126, Obj.mk (Value.type "tuple") Option.none (Data.seq #[]) #[]),
  (128, Obj.mk (Value.type "code") Option.none (Data.fields #[Value.str (q "not_less_witness") 369, Value.str (q "Whitespace.not_less_witness") 370, Value.str (q "/claim/cut.py") 371, Value.int 155 0, Value.int 2 0, Value.int 0 0, Value.int 0 0, Value.int 3 0, Value.ref 123, Value.bool Bool.true, Value.int 181 0, Value.ref 124, Value.none, Value.ref 125, Value.ref 126, Value.ref 127, Value.int 374 0, Value.int 155 0, Value.str (q "/claim/cut.py") 375]) #[]),
  (129, Obj.mk (Value.type "function") Option.none (Data.func (FuncData.mk (q "not_less_witness") (q "Whitespace.not_less_witness") (psOf (inAt 13 7)) (FuncBody.stmts (bodyOf (inAt 13 7))) (scOf (inAt 13 7)) 3 [] Value.none Value.none Value.none (Value.str (q "cpy313.tabnanny") 292) Option.none (Value.ref 128) Value.none 0)) #[]),
  (130, Obj.mk (Value.type "tuple") Option.none (Data.seq #[Value.str (q "is_simple") 377, Value.str (q "n") 378, Value.str (q "norm") 379, Value.str (q "nt") 380, Value.str (q "raw") 381]) #[]),
  (131, Obj.mk (Value.type "dict") Option.none (Data.dict #[de P "__module__" 301 (Value.str (q "cpy313.tabnanny") 292), de P "__firstlineno__" 305 (Value.int 110 304), de P "S" 309 (Value.str (q " ") 307), de P "T" 310 (Value.str (q "\t") 308), de P "__init__" 325 (Value.ref 87), de P "longest_run_of_spaces" 332 (Value.ref 94), de P "indent_level" 344 (Value.ref 101), de P "equal" 352 (Value.ref 108), de P "not_equal_witness" 360 (Value.ref 115), de P "less" 368 (Value.ref 122), de P "not_less_witness" 376 (Value.ref 129), de P "__static_attributes__" 382 (Value.ref 130), de P "__dict__" 384 (Value.ref 133), de P "__weakref__" 386 (Value.ref 134), de P "__doc__" 387 Value.none] 4) #[]),
  (132, Obj.mk (Value.type "type") Option.none (Data.cls (ClassData.mk (q "Whitespace") [Value.type "object"] [Value.ref 132, Value.type "object"] 131 (q "Whitespace") Bool.true [] [] Bool.false Option.none Bool.false)) #[Option.none, Option.none, Option.some (Value.str (q "Whitespace") 294), Option.some (Value.str (q "Whitespace") 302), Option.some (Value.builtin "object.__new__"), Option.some (Value.bool Bool.true)]),
  (133, Obj.mk (Value.type "getset_descriptor") Option.none (Data.fields #[Value.str (q "__dict__") 383, Value.ref 132, Value.builtin "function.__dict__", Value.builtin "function.__dict__#set"]) #[]),
  (134, Obj.mk (Value.type "getset_descriptor") Option.none (Data.fields #[Value.str (q "__weakref__") 385, Value.ref 132, Value.builtin "ExceptionGroup.__weakref__", Value.none]) #[]),
  (137, Obj.mk (Value.type "tuple") Option.none (Data.seq #[]) #[]),
  (140, Obj.mk (Value.type "code") Option.none (Data.fields #[Value.str (q "_law_leads") 392, Value.str (q "_law_leads") 393, Value.str (q "/claim/cut.py") 394, Value.int 158 0, Value.int 2 0, Value.int 0 0, Value.int 0 0, Value.int 3 0, Value.ref 137, Value.bool Bool.true, Value.int 181 0, Value.ref 138, Value.none, Value.none, Value.none, Value.ref 139, Value.int 395 0, Value.int 158 0, Value.str (q "/claim/cut.py") 396]) #[]),
  (141, Obj.mk (Value.type "function") Option.none (Data.func (FuncData.mk (q "_law_leads") (q "_law_leads") (psOf (stAt 15)) (FuncBody.stmts (bodyOf (stAt 15))) (scOf (stAt 15)) 3 [] Value.none Value.none Value.none (Value.str (q "law_pg0291_01") 390) Option.none (Value.ref 140) Value.none 0)) #[]),
  (142, Obj.mk (Value.type "tuple") Option.none (Data.seq #[]) #[]),
  (144, Obj.mk (Value.type "tuple") Option.none (Data.seq #[Value.str (q "run") 401]) #[]),
  (145, Obj.mk (Value.type "tuple") Option.none (Data.seq #[]) #[]),
  (147, Obj.mk (Value.type "code") Option.none (Data.fields #[Value.str (q "_law_text") 398, Value.str (q "_law_text") 399, Value.str (q "/claim/cut.py") 400, Value.int 167 0, Value.int 1 0, Value.int 0 0, Value.int 0 0, Value.int 3 0, Value.ref 142, Value.bool Bool.true, Value.int 181 0, Value.ref 143, Value.none, Value.ref 144, Value.ref 145, Value.ref 146, Value.int 402 0, Value.int 167 0, Value.str (q "/claim/cut.py") 403]) #[]),
  (148, Obj.mk (Value.type "function") Option.none (Data.func (FuncData.mk (q "_law_text") (q "_law_text") (psOf (stAt 16)) (FuncBody.stmts (bodyOf (stAt 16))) (scOf (stAt 16)) 3 [] Value.none Value.none Value.none (Value.str (q "law_pg0291_01") 390) Option.none (Value.ref 147) Value.none 0)) #[]),
  (149, Obj.mk (Value.type "tuple") Option.none (Data.seq #[]) #[]),
  (152, Obj.mk (Value.type "code") Option.none (Data.fields #[Value.str (q "_law_runs") 405, Value.str (q "_law_runs") 406, Value.str (q "/claim/cut.py") 407, Value.int 169 0, Value.int 3 0, Value.int 0 0, Value.int 0 0, Value.int 3 0, Value.ref 149, Value.bool Bool.true, Value.int 181 0, Value.ref 150, Value.none, Value.none, Value.none, Value.ref 151, Value.int 408 0, Value.int 169 0, Value.str (q "/claim/cut.py") 409]) #[]),
  (153, Obj.mk (Value.type "function") Option.none (Data.func (FuncData.mk (q "_law_runs") (q "_law_runs") (psOf (stAt 17)) (FuncBody.stmts (bodyOf (stAt 17))) (scOf (stAt 17)) 3 [] Value.none Value.none Value.none (Value.str (q "law_pg0291_01") 390) Option.none (Value.ref 152) Value.none 0)) #[]),
  (154, Obj.mk (Value.type "tuple") Option.none (Data.seq #[]) #[]),
  (156, Obj.mk (Value.type "tuple") Option.none (Data.seq #[Value.str (q "first") 414, Value.str (q "middles") 415, Value.str (q "least") 416, Value.str (q "blanks") 417, Value.str (q "dots") 418, Value.str (q "size") 419, Value.str (q "base") 420, Value.str (q "unit") 421, Value.str (q "up") 422, Value.str (q "down") 423, Value.str (q "run") 424, Value.str (q "high") 425, Value.str (q "low") 426]) #[]),
  (157, Obj.mk (Value.type "tuple") Option.none (Data.seq #[]) #[]),
  (159, Obj.mk (Value.type "code") Option.none (Data.fields #[Value.str (q "_law_fraction") 411, Value.str (q "_law_fraction") 412, Value.str (q "/claim/cut.py") 413, Value.int 173 0, Value.int 7 0, Value.int 0 0, Value.int 0 0, Value.int 3 0, Value.ref 154, Value.bool Bool.true, Value.int 181 0, Value.ref 155, Value.none, Value.ref 156, Value.ref 157, Value.ref 158, Value.int 427 0, Value.int 173 0, Value.str (q "/claim/cut.py") 428]) #[]),
  (160, Obj.mk (Value.type "function") Option.none (Data.func (FuncData.mk (q "_law_fraction") (q "_law_fraction") (psOf (stAt 18)) (FuncBody.stmts (bodyOf (stAt 18))) (scOf (stAt 18)) 3 [] Value.none Value.none Value.none (Value.str (q "law_pg0291_01") 390) Option.none (Value.ref 159) Value.none 0)) #[]),
  (161, Obj.mk (Value.type "tuple") Option.none (Data.seq #[]) #[]),
  (163, Obj.mk (Value.type "tuple") Option.none (Data.seq #[Value.str (q "row") 433, Value.str (q "kept") 434]) #[]),
  (164, Obj.mk (Value.type "tuple") Option.none (Data.seq #[]) #[]),
  (166, Obj.mk (Value.type "code") Option.none (Data.fields #[Value.str (q "_law_trimmed") 430, Value.str (q "_law_trimmed") 431, Value.str (q "/claim/cut.py") 432, Value.int 192 0, Value.int 1 0, Value.int 0 0, Value.int 0 0, Value.int 3 0, Value.ref 161, Value.bool Bool.true, Value.int 181 0, Value.ref 162, Value.none, Value.ref 163, Value.ref 164, Value.ref 165, Value.int 435 0, Value.int 192 0, Value.str (q "/claim/cut.py") 436]) #[]),
  (167, Obj.mk (Value.type "function") Option.none (Data.func (FuncData.mk (q "_law_trimmed") (q "_law_trimmed") (psOf (stAt 19)) (FuncBody.stmts (bodyOf (stAt 19))) (scOf (stAt 19)) 3 [] Value.none Value.none Value.none (Value.str (q "law_pg0291_01") 390) Option.none (Value.ref 166) Value.none 0)) #[]),
  (168, Obj.mk (Value.type "tuple") Option.none (Data.seq #[]) #[]),
  (171, Obj.mk (Value.type "code") Option.none (Data.fields #[Value.str (q "law") 438, Value.str (q "law") 439, Value.str (q "/claim/cut.py") 440, Value.int 197 0, Value.int 1 0, Value.int 0 0, Value.int 0 0, Value.int 3 0, Value.ref 168, Value.bool Bool.true, Value.int 181 0, Value.ref 169, Value.none, Value.none, Value.none, Value.ref 170, Value.int 441 0, Value.int 197 0, Value.str (q "/claim/cut.py") 442]) #[]),
  (172, Obj.mk (Value.type "function") Option.none (Data.func (FuncData.mk (q "law") (q "law") (psOf (stAt 20)) (FuncBody.stmts (bodyOf (stAt 20))) (scOf (stAt 20)) 3 [] Value.none Value.none Value.none (Value.str (q "law_pg0291_01") 390) Option.none (Value.ref 171) Value.none 0)) #[])]
noncomputable def hd.view_39 : Program := { PySem.Challenge.pw_pg0291_01 with main := { (Program.main PySem.Challenge.pw_pg0291_01) with body := [0, 2, 3, 5, 6, 7, 8, 9, 10, 11, 13, 15, 16, 17, 18, 19, 20].map stAt } }
end Mine
end
section
open PySem PySem.W PyProof.Rows PySem.Calls PyProof.V PySem.Spec
namespace Mine
inductive D where
  | none
  | bool (b : Bool)
  | int (i : Int)
  | str (s : Str)
  | list (ds : List D)
  | tuple (ds : List D)
  | raw (v : Value)
  | range (a b c : Int)
  | inst (C : Addr) (ns : List Str) (ds : List D)
def KeysAre : List DictEntry → List Str → Prop
  | [], [] => True
  | e :: r, n :: ns => (∃ t, e.key = .str n t) ∧ KeysAre r ns
  | _, _ => False
mutual
def Val (av : Addr → Prop) (h : Heap) : D → Value → Prop
  | .none, v => v = .none
  | .bool b, v => v = .bool b
  | .int i, v => ∃ t, v = .int i t
  | .str x, v => ∃ t, v = .str x t
  | .raw u, v => v = u
  | .range a b c, v => ∃ r t u w, v = .ref r ∧ ¬ av r ∧ IsRange h r a b c t u w
  | .list ds, v => ∃ a vs n, v = .ref a ∧ ¬ av a ∧ h.get? a = some { cls := .type "list", data := .seq vs n } ∧ Vals av h ds vs.toList
  | .tuple ds, v => ∃ a vs n, v = .ref a ∧ ¬ av a ∧ h.get? a = some { cls := .type "tuple", data := .seq vs n } ∧ Vals av h ds vs.toList
  | .inst C ns ds, v => ∃ a da es n sl, v = .ref a ∧ ¬ av a ∧ ¬ av da ∧ h.get? a = some ⟨.ref C, some da, .plain, sl⟩ ∧ h.get? da = some (dictOf es n) ∧ KeysAre es ns ∧ Vals av h ds (es.map (·.val))
def Vals (av : Addr → Prop) (h : Heap) : List D → List Value → Prop
  | [], vs => vs = []
  | d :: ds, vs => ∃ v r, vs = v :: r ∧ Val av h d v ∧ Vals av h ds r
end
def NotCell (o : Obj) : Prop := ∀ v, o.data ≠ .cell v
def NoCode (o : Obj) : Prop := ∀ vs q t, o.data = .fields vs → vs[1]? ≠ some (Value.str q t)
section
variable {av av' : Addr → Prop} {h h' : Heap}
mutual
theorem Val.mono' (H : ∀ a o, ¬ av a → h.get? a = some o → NotCell o → h'.get? a = some o ∧ ¬ av' a) : ∀ (d : D) (v : Value), Val av h d v → Val av' h' d v
  | .none, _, x => by simpa only [Val] using x
  | .bool _, _, x => by simpa only [Val] using x
  | .int _, _, x => by simpa only [Val] using x
  | .str _, _, x => by simpa only [Val] using x
  | .raw _, _, x => by simpa only [Val] using x
  | .range a b c, v, x => by
    simp only [Val] at x ⊢
    obtain ⟨r, t, u, w, e, n, i⟩ := x
    unfold IsRange at i ⊢
    exact ⟨r, t, u, w, e, (H _ _ n i (by intro v q; cases q)).2, (H _ _ n i (by intro v q; cases q)).1⟩
  | .list ds, v, x => by
    simp only [Val] at x ⊢
    obtain ⟨a, vs, n, e, na, g, r⟩ := x
    exact ⟨a, vs, n, e, (H _ _ na g (by intro v q; cases q)).2, (H _ _ na g (by intro v q; cases q)).1, Vals.mono' H _ _ r⟩
  | .tuple ds, v, x => by
    simp only [Val] at x ⊢
    obtain ⟨a, vs, n, e, na, g, r⟩ := x
    exact ⟨a, vs, n, e, (H _ _ na g (by intro v q; cases q)).2, (H _ _ na g (by intro v q; cases q)).1, Vals.mono' H _ _ r⟩
  | .inst C ns ds, v, x => by
    simp only [Val] at x ⊢
    obtain ⟨a, da, es, n, sl, e, na, nda, g, gd, k, r⟩ := x
    exact ⟨a, da, es, n, sl, e, (H _ _ na g (by intro v q; cases q)).2, (H _ _ nda gd (by intro v q; cases q)).2, (H _ _ na g (by intro v q; cases q)).1, (H _ _ nda gd (by intro v q; cases q)).1, k, Vals.mono' H _ _ r⟩
theorem Vals.mono' (H : ∀ a o, ¬ av a → h.get? a = some o → NotCell o → h'.get? a = some o ∧ ¬ av' a) : ∀ (ds : List D) (vs : List Value), Vals av h ds vs → Vals av' h' ds vs
  | [], _, x => by simpa only [Vals] using x
  | d :: ds, vs, x => by
    simp only [Vals] at x ⊢
    obtain ⟨v, r, e, a, b⟩ := x
    exact ⟨v, r, e, Val.mono' H d v a, Vals.mono' H ds r b⟩
end
theorem Val.mono (H : ∀ a o, ¬ av a → h.get? a = some o → h'.get? a = some o ∧ ¬ av' a) (d : D) (v : Value) (x : Val av h d v) : Val av' h' d v := Val.mono' (fun a o n e _ => H a o n e) d v x
theorem Vals.mono (H : ∀ a o, ¬ av a → h.get? a = some o → h'.get? a = some o ∧ ¬ av' a) (d : List D) (v : List Value) (x : Vals av h d v) : Vals av' h' d v := Vals.mono' (fun a o n e _ => H a o n e) d v x
theorem Vals.length : ∀ {ds : List D} {vs : List Value}, Vals av h ds vs → vs.length = ds.length
  | [], _, x => by simp only [Vals] at x; simp [x]
  | d :: ds, vs, x => by
    simp only [Vals] at x
    obtain ⟨v, r, rfl, a, b⟩ := x
    simp [Vals.length b]
theorem Vals.get : ∀ {ds : List D} {vs : List Value}, Vals av h ds vs → ∀ (i : Nat) (v : Value), vs[i]? = some v → ∃ d, ds[i]? = some d ∧ Val av h d v
  | [], _, x, i, v, e => by simp only [Vals] at x; simp [x] at e
  | d :: ds, vs, x, i, v, e => by
    simp only [Vals] at x
    obtain ⟨u, r, rfl, a, b⟩ := x
    cases i with
    | zero => simp at e; subst e; exact ⟨d, by simp, a⟩
    | succ i => simp at e; obtain ⟨d', e', y⟩ := Vals.get b i v e; exact ⟨d', by simpa using e', y⟩
theorem Vals.get' : ∀ {ds : List D} {vs : List Value}, Vals av h ds vs → ∀ (i : Nat) (d : D), ds[i]? = some d → ∃ v, vs[i]? = some v ∧ Val av h d v
  | [], _, x, i, v, e => by simp at e
  | d :: ds, vs, x, i, v, e => by
    simp only [Vals] at x
    obtain ⟨u, r, rfl, a, b⟩ := x
    cases i with
    | zero => simp at e; subst e; exact ⟨u, by simp, a⟩
    | succ i => simp at e; obtain ⟨d', e', y⟩ := Vals.get' b i v e; exact ⟨d', by simpa using e', y⟩
theorem Vals.of_get : ∀ {ds : List D} {vs : List Value}, vs.length = ds.length → (∀ (i : Nat) (d : D) (v : Value), ds[i]? = some d → vs[i]? = some v → Val av h d v) → Vals av h ds vs
  | [], vs, e, H => by simp only [Vals]; exact List.eq_nil_of_length_eq_zero e
  | d :: ds, [], e, H => by simp at e
  | d :: ds, v :: vs, e, H => by
    simp only [Vals]
    exact ⟨v, vs, rfl, H 0 d v (by simp) (by simp), Vals.of_get (by simpa using e) fun i d' v' a b => H (i + 1) d' v' (by simpa using a) (by simpa using b)⟩
theorem Vals.append : ∀ {ds es : List D} {vs ws : List Value}, Vals av h ds vs → Vals av h es ws → Vals av h (ds ++ es) (vs ++ ws)
  | [], _, _, _, x, y => by simp only [Vals] at x; subst x; simpa using y
  | d :: ds, es, vs, ws, x, y => by
    simp only [Vals] at x
    obtain ⟨u, r, rfl, a, b⟩ := x
    simp only [List.cons_append, Vals]
    exact ⟨u, r ++ ws, rfl, a, Vals.append b y⟩
theorem Vals.nil : Vals av h [] [] := by simp only [Vals]
theorem Vals.cons {d : D} {v : Value} {ds : List D} {vs : List Value} (a : Val av h d v) (b : Vals av h ds vs) : Vals av h (d :: ds) (v :: vs) := by
  simp only [Vals]; exact ⟨v, vs, rfl, a, b⟩
theorem Vals.one {d : D} {v : Value} (a : Val av h d v) : Vals av h [d] [v] := Vals.cons a Vals.nil
end
structure Cx where
  prog : Program
  w : World
  K : Frag
  hw : Heap
  mg : Str → Option Value
  mb : Str → Option Value
  p : Program
  loose : List Str
  tabs : List (Addr × Addr)
  os : OsState
  tq : Addr → Nat → Nat → Str
  KX : K.In hw
  T : TopRead p loose mg mb hw
  tab0 : ∀ q ∈ tabs, hw.get? q.2 = Option.none
  code : ∀ q ∈ tabs, CodeHd hw q.1 q.2
  bm : ∃ bm ob, mg "__builtins__" = some (.ref bm) ∧ bm ≠ builtinsNs ∧ hw.get? bm = some ob ∧ ob.cls = .type "module" ∧ ob.dict = some builtinsNs ∧ ob.data = .plain
def TabOk (h : Heap) (f : Nat → Nat → Str) (ps : Array Value) : Prop := TriplesOk ps.toList ∧ ∀ pos cv, codeAmong pos ps.toList = some cv → h.CodeRec cv (f pos.line pos.col)
theorem TabOk.mono {h h' : Heap} {f : Nat → Nat → Str} {ps : Array Value} (x : TabOk h f ps) (k : ∀ a o, ¬ NoCode o → h.get? a = some o → h'.get? a = some o) : TabOk h' f ps :=
  ⟨x.1, fun pos cv e => let ⟨c, o, vs, t, e1, e2, e3, e4⟩ := x.2 pos cv e; ⟨c, o, vs, t, e1, k c o (fun n => n vs _ t e3 e4) e2, e3, e4⟩⟩
abbrev Cx.M (c : Cx) : Model := model c.prog c.w
structure WI (c : Cx) (s : Shared) : Prop where
  keep : ∀ a o, c.hw.get? a = some o → s.heap.get? a = some o
  tab : ∀ q ∈ c.tabs, ∃ ps, s.heap.get? q.2 = some (tabObj ps) ∧ TabOk s.heap (c.tq q.2) ps
  gens : s.gens = #[]
  os : s.os = c.os
structure FX where
  env : Env
  A : Around
  out : Addr → Prop
  own : List Addr
  mine : Str → Bool
abbrev Store := List (Str × D)
abbrev Owns := List (Addr × List D)
abbrev addrs (O : Owns) : List Addr := O.map (·.1)
def av (fr : FX) (O : Owns) (a : Addr) : Prop := fr.out a ∨ a ∈ fr.own ∨ a ∈ addrs O
def FX.wide (fr : FX) (I : List Addr) : FX := { fr with own := I ++ fr.own }
def FX.push (fr : FX) (I : List Addr) : FX := { fr with out := fun a => a ∈ I ∨ fr.out a }
def VarAt (env : Env) (h : Heap) (P : Value → Prop) (x : Str) : Prop :=
  match env.kindOf x with
  | some .local => ∃ m v, h.Ns env.locals m ∧ m x = some v ∧ P v
  | some .cell | some .free => ∃ a v, env.cells.lookup x = some a ∧ h.IsCell a (some v) ∧ P v
  | _ => False
structure FS (c : Cx) (fr : FX) (σ : Store) (O : Owns) (s : Shared) : Prop where
  wi : WI c s
  kind : fr.env.scope.kind = .function
  glob : fr.env.globals = mainGlobals
  blt : fr.env.builtins = builtinsNs
  hand : fr.A.handled = Option.none
  room : fr.A.units ≤ 3 * fr.A.depth ∧ fr.A.depth ≤ 900
  own0 : ∀ a ∈ fr.own, c.hw.get? a = Option.none
  o0 : ∀ a ∈ addrs O, c.hw.get? a = Option.none
  tabown : ∀ q ∈ c.tabs, q.2 ∈ fr.own
  Lown : fr.env.locals ∈ fr.own
  Lns : ∃ m, s.heap.Ns fr.env.locals m
  inj : ∀ x y a, fr.env.cells.lookup x = some a → fr.env.cells.lookup y = some a → x = y
  calive : ∀ x a, fr.env.cells.lookup x = some a → ∃ v, s.heap.IsCell a v
  cfree : ∀ x, fr.env.kindOf x = some .cell ∨ fr.env.kindOf x = some .free → ∃ a, fr.env.cells.lookup x = some a
  mown : ∀ x a, fr.mine x = true → fr.env.kindOf x = some .cell → fr.env.cells.lookup x = some a → a ∈ fr.own
  oo : ∀ a, fr.out a → a ∉ fr.own
  out0 : ∀ a, fr.out a → c.hw.get? a = Option.none
  outal : ∀ a, fr.out a → ∃ o, s.heap.get? a = some o ∧ NoCode o
  oout : ∀ a ∈ addrs O, ¬ fr.out a
  ownal : ∀ a ∈ fr.own, ∃ o, s.heap.get? a = some o ∧ NoCode o
  vars : ∀ p ∈ σ, VarAt fr.env s.heap (Val (av fr O) s.heap p.2) p.1
  owns : ∀ q ∈ O, ∃ vs n, s.heap.get? q.1 = some { cls := .type "list", data := .seq vs n } ∧ Vals (av fr O) s.heap q.2 vs.toList
  nodup : (addrs O).Nodup
  odis : ∀ a ∈ addrs O, a ∉ fr.own
def Kept (fr : FX) (O : Owns) (s : Shared) (O' : Owns) (s' : Shared) : Prop :=
  ∀ a o, a ∉ fr.own → a ∉ addrs O → s.heap.get? a = some o → s'.heap.get? a = some o ∧ a ∉ addrs O'
theorem Kept.refl {fr : FX} {O : Owns} {s : Shared} : Kept fr O s O s := fun _ _ _ h e => ⟨e, h⟩
theorem Kept.trans {fr : FX} {O O' O'' : Owns} {s s' s'' : Shared} (x : Kept fr O s O' s') (y : Kept fr O' s' O'' s'') : Kept fr O s O'' s'' :=
  fun a o h1 h2 e => y a o h1 (x a o h1 h2 e).2 (x a o h1 h2 e).1
theorem Kept.heap {fr : FX} {O O' : Owns} {s s' s'' : Shared} (x : Kept fr O s O' s') (e : s''.heap = s'.heap) : Kept fr O s O' s'' := by
  intro a o h1 h2 h3; rw [e]; exact x a o h1 h2 h3
theorem Kept.val {fr : FX} {O O' : Owns} {s s' : Shared} (x : Kept fr O s O' s') {d : D} {v : Value} (y : Val (av fr O) s.heap d v) : Val (av fr O') s'.heap d v :=
  Val.mono (fun a o h e => by
    have h1 : a ∉ fr.own := fun m => h (.inr (.inl m))
    have h2 : a ∉ addrs O := fun m => h (.inr (.inr m))
    refine ⟨(x a o h1 h2 e).1, ?_⟩
    rintro (k | k | k)
    · exact h (.inl k)
    · exact h1 k
    · exact (x a o h1 h2 e).2 k) d v y
theorem Kept.vals {fr : FX} {O O' : Owns} {s s' : Shared} (x : Kept fr O s O' s') {d : List D} {v : List Value} (y : Vals (av fr O) s.heap d v) : Vals (av fr O') s'.heap d v :=
  Vals.mono (fun a o h e => by
    have h1 : a ∉ fr.own := fun m => h (.inr (.inl m))
    have h2 : a ∉ addrs O := fun m => h (.inr (.inr m))
    refine ⟨(x a o h1 h2 e).1, ?_⟩
    rintro (k | k | k)
    · exact h (.inl k)
    · exact h1 k
    · exact (x a o h1 h2 e).2 k) d v y
def Ev (c : Cx) (fr : FX) (σ : Store) (O : Owns) (e : Expr) (d : D) : Prop :=
  ∀ s, FS c fr σ O s → ∀ (Q E : Value → Shared → Prop), (∀ v s', FS c fr σ O s' → Kept fr O s O s' → Val (av fr O) s'.heap d v → Q v s') → wpAny c.M fr.A (eval e fr.env) Q E s
def EvT (c : Cx) (fr : FX) (σ : Store) (O : Owns) (e : Expr) (b : Bool) : Prop :=
  ∀ s, FS c fr σ O s → ∀ (Q : Bool → Shared → Prop) (E : Value → Shared → Prop), (∀ s', FS c fr σ O s' → Kept fr O s O s' → Q b s') → wpAny c.M fr.A (PySem.isTrue e fr.env (eval e fr.env)) Q E s
inductive Out where
  | next
  | brk
  | cont
  | ret (d : D)
def OutV (a : Addr → Prop) (h : Heap) : Out → Flow → Prop
  | .next, f => f = .next
  | .brk, f => f = .brk
  | .cont, f => f = .cont
  | .ret d, f => ∃ v, f = .ret v ∧ Val a h d v
def Post := Out → Store → Owns → Prop
def Ex (c : Cx) (fr : FX) (σ : Store) (O : Owns) (ss : List Stmt) (P : Post) : Prop :=
  ∀ s, FS c fr σ O s → ∀ (Q : Flow → Shared → Prop) (E : Value → Shared → Prop), (∀ f out σ' O' s', FS c fr σ' O' s' → Kept fr O s O' s' → OutV (av fr O') s'.heap out f → P out σ' O' → Q f s') → wpAny c.M fr.A (execs ss fr.env) Q E s
def Ex1 (c : Cx) (fr : FX) (σ : Store) (O : Owns) (ss : Stmt) (P : Post) : Prop :=
  ∀ s, FS c fr σ O s → ∀ (Q : Flow → Shared → Prop) (E : Value → Shared → Prop), (∀ f out σ' O' s', FS c fr σ' O' s' → Kept fr O s O' s' → OutV (av fr O') s'.heap out f → P out σ' O' → Q f s') → wpAny c.M fr.A (exec ss fr.env) Q E s
section
variable {c : Cx} {fr : FX} {σ σ' : Store} {O O' : Owns} {s s' : Shared}
theorem NoCode.list {vs : Array Value} {n : Nat} {cl : Value} : NoCode { cls := cl, data := .seq vs n } := fun _ _ _ e => by cases e
theorem NoCode.dict {o : Obj} {es : Array DictEntry} {n : Nat} (h : o.data = .dict es n) : NoCode o := fun _ _ _ e => by rw [h] at e; cases e
theorem NoCode.cell {o : Obj} {v : Option Value} (h : o.data = .cell v) : NoCode o := fun _ _ _ e => by rw [h] at e; cases e
theorem NoCode.ns {h : Heap} {a : Addr} {m : Str → Option Value} (x : h.Ns a m) : ∃ o, h.get? a = some o ∧ NoCode o := by
  obtain ⟨o, es, ep, e, d, _⟩ := x; exact ⟨o, e, .dict d⟩
theorem NoCode.isCell {h : Heap} {a : Addr} {v : Option Value} (x : h.IsCell a v) : ∃ o, h.get? a = some o ∧ NoCode o := by
  obtain ⟨o, e, d⟩ := x; exact ⟨o, e, .cell d⟩
theorem NoCode.int {o : Obj} {vs : Array Value} {i : Int} {t : Tok} (h : o.data = .fields vs) (k : vs[1]? = some (.int i t)) : NoCode o := fun ws q t e e' => by
  rw [h] at e; cases e; rw [k] at e'; cases e'
theorem NoCode.seq {o : Obj} {vs : Array Value} {n : Nat} (h : o.data = .seq vs n) : NoCode o := fun ws q t e e' => by rw [h] at e; cases e
theorem NoCode.tab {ps : Array Value} (h : TriplesOk ps.toList) : NoCode (tabObj ps) := fun vs q t e k => by
  have e' : ps = vs := Data.fields.inj e
  subst e'
  exact triples_no_str h q t (by simpa using k)
theorem FS.nocode (F : FS c fr σ O s) {a : Addr} {o : Obj} (h : av fr O a) (e : s.heap.get? a = some o) : NoCode o := by
  rcases h with h | h | h
  · obtain ⟨o', e', n⟩ := F.outal a h; rw [e] at e'; cases e'; exact n
  · obtain ⟨o', e', n⟩ := F.ownal a h; rw [e] at e'; cases e'; exact n
  · obtain ⟨q, hq, rfl⟩ := List.mem_map.mp h
    obtain ⟨vs, n, e', _⟩ := F.owns q hq
    rw [e] at e'; cases e'; exact .list
theorem FS.tabs_keep {h' : Heap} (F : FS c fr σ O s) (hk : ∀ a o, ¬ av fr O a → s.heap.get? a = some o → h'.get? a = some o) (ht : ∀ q ∈ c.tabs, ∀ ps, s.heap.get? q.2 = some (tabObj ps) → h'.get? q.2 = some (tabObj ps)) :
    ∀ q ∈ c.tabs, ∃ ps, h'.get? q.2 = some (tabObj ps) ∧ TabOk h' (c.tq q.2) ps := fun q hq =>
  let ⟨ps, e, t⟩ := F.wi.tab q hq
  ⟨ps, ht q hq ps e, t.mono fun a o nc e => hk a o (fun m => nc (F.nocode m e)) e⟩
theorem WI.toks (x : WI c s) {tk : Nat} : WI c { s with toks := tk } := ⟨x.keep, x.tab, x.gens, x.os⟩
theorem FS.toks (x : FS c fr σ O s) {tk : Nat} : FS c fr σ O { s with toks := tk } :=
  ⟨x.wi.toks, x.kind, x.glob, x.blt, x.hand, x.room, x.own0, x.o0, x.tabown, x.Lown, x.Lns, x.inj, x.calive, x.cfree, x.mown, x.oo, x.out0, x.outal, x.oout, x.ownal, x.vars, x.owns, x.nodup, x.odis⟩
theorem FS.sub (x : FS c fr σ O s) (h : ∀ p ∈ σ', p ∈ σ) : FS c fr σ' O s :=
  ⟨x.wi, x.kind, x.glob, x.blt, x.hand, x.room, x.own0, x.o0, x.tabown, x.Lown, x.Lns, x.inj, x.calive, x.cfree, x.mown, x.oo, x.out0, x.outal, x.oout, x.ownal, fun p hp => x.vars p (h p hp), x.owns, x.nodup, x.odis⟩
theorem VarAt.mono {env : Env} {h h' : Heap} {P P' : Value → Prop} {x : Str} (y : VarAt env h P x)
    (hL : ∀ m, h.Ns env.locals m → h'.Ns env.locals m) (hc : ∀ y a v, env.cells.lookup y = some a → h.IsCell a v → h'.IsCell a v) (hP : ∀ v, P v → P' v) : VarAt env h' P' x := by
  unfold VarAt at y ⊢
  split at y
  · obtain ⟨m, v, a, b, d⟩ := y; exact ⟨m, v, hL _ a, b, hP _ d⟩
  · obtain ⟨a, v, e, b, d⟩ := y; exact ⟨a, v, e, hc _ _ _ e b, hP _ d⟩
  · obtain ⟨a, v, e, b, d⟩ := y; exact ⟨a, v, e, hc _ _ _ e b, hP _ d⟩
  · exact y.elim
theorem WI.grow (x : WI c s) (hk : ∀ a o, s.heap.get? a = some o → s'.heap.get? a = some o) (hg : s'.gens = s.gens) (ho : s'.os = s.os) : WI c s' :=
  ⟨fun a o e => hk _ _ (x.keep a o e), fun q hq => let ⟨ps, a, b⟩ := x.tab q hq; ⟨ps, hk _ _ a, b.mono fun a o _ e => hk a o e⟩, hg.trans x.gens, ho.trans x.os⟩
theorem FS.grow (x : FS c fr σ O s) (hk : ∀ a o, s.heap.get? a = some o → s'.heap.get? a = some o) (hg : s'.gens = s.gens) (ho : s'.os = s.os) : FS c fr σ O s' where
  wi := x.wi.grow hk hg ho
  kind := x.kind
  glob := x.glob
  blt := x.blt
  hand := x.hand
  room := x.room
  own0 := x.own0
  o0 := x.o0
  tabown := x.tabown
  Lown := x.Lown
  Lns := let ⟨m, h⟩ := x.Lns; ⟨m, h.keeps hk⟩
  inj := x.inj
  calive := fun n a e => let ⟨v, o, r1, r2⟩ := x.calive n a e; ⟨v, o, hk _ _ r1, r2⟩
  cfree := x.cfree
  mown := x.mown
  oo := x.oo
  out0 := x.out0
  outal := fun a h => let ⟨o, e, nc⟩ := x.outal a h; ⟨o, hk _ _ e, nc⟩
  oout := x.oout
  ownal := fun a h => let ⟨o, e, nc⟩ := x.ownal a h; ⟨o, hk _ _ e, nc⟩
  vars := fun p hp => (x.vars p hp).mono (fun m h => h.keeps hk) (fun _ _ _ _ ⟨o, a, b⟩ => ⟨o, hk _ _ a, b⟩) (fun v h => Val.mono (fun a o na e => ⟨hk _ _ e, na⟩) _ _ h)
  owns := fun q hq => let ⟨vs, n, a, b⟩ := x.owns q hq; ⟨vs, n, hk _ _ a, Vals.mono (fun a o na e => ⟨hk _ _ e, na⟩) _ _ b⟩
  nodup := x.nodup
  odis := x.odis
theorem Kept.grow (hk : ∀ a o, s.heap.get? a = some o → s'.heap.get? a = some o) : Kept fr O s O s' := fun a o _ h2 e => ⟨hk a o e, h2⟩
theorem FS.push (x : FS c fr σ O s) (o : Obj) {tk : Nat} : FS c fr σ O { s with heap := s.heap.push o, toks := tk } :=
  x.grow (fun a o' e => Heap.get?_push_of_some o e) rfl rfl
theorem FS.fresh (_x : FS c fr σ O s) : s.heap.get? s.heap.objs.size = Option.none := by
  cases e : s.heap.get? s.heap.objs.size with
  | none => rfl
  | some o => exact absurd (Heap.lt_size e) (Nat.lt_irrefl _)
theorem FS.hwfresh (x : FS c fr σ O s) {a : Addr} (h : s.heap.get? a = Option.none) : c.hw.get? a = Option.none := by
  cases e : c.hw.get? a with
  | none => rfl
  | some o => rw [x.wi.keep a o e] at h; cases h
theorem Ev_name {x : Str} {pos : Pos} {d : D} (hm : (x, d) ∈ σ) (hd : (x == ("__debug__" : Str)) = false := by decide) (hc : (x == ("__classdict__" : Str)) = false := by decide) : Ev c fr σ O (.Name x pos) d := by
  intro s F Q E h
  refine wpAny_Name ?_ hd
  have hv := F.vars _ hm
  unfold VarAt at hv
  split at hv
  · rename_i hk
    obtain ⟨m, v, a, b, e⟩ := hv
    exact wpAny_loadName_local F.kind hk a b (h v s F Kept.refl e)
  · rename_i hk
    obtain ⟨a, v, l, b, e⟩ := hv
    exact wpAny_loadName_cell F.kind hk l b (h v s F Kept.refl e)
  · rename_i hk
    obtain ⟨a, v, l, b, e⟩ := hv
    exact wpAny_loadName_free F.kind hk l b (h v s F Kept.refl e) hc
  · exact hv.elim
theorem Ev_int {i : Int} {k : Nat} {pos : Pos} : Ev c fr σ O (.Constant (.int i) k pos) (.int i) := by
  intro s F Q E h
  exact wpAny_Constant_int (h _ _ F.toks Kept.refl ⟨_, rfl⟩)
theorem Ev_str {x : Str} {k : Nat} {pos : Pos} : Ev c fr σ O (.Constant (.str x) k pos) (.str x) := by
  intro s F Q E h
  exact wpAny_Constant_str (h _ _ F.toks Kept.refl ⟨_, rfl⟩)
theorem Ev_bool {b : Bool} {k : Nat} {pos : Pos} : Ev c fr σ O (.Constant (.bool b) k pos) (.bool b) := by
  intro s F Q E h
  exact wpAny_Constant_bool (h _ _ F Kept.refl rfl)
theorem Ev_none {k : Nat} {pos : Pos} : Ev c fr σ O (.Constant .none k pos) .none := by
  intro s F Q E h
  exact wpAny_Constant_none (h _ _ F Kept.refl rfl)
def BinD (c : Cx) (fr : FX) (op : Operator) (a b r : D) : Prop :=
  ∀ (σ : Store) (O : Owns) s va vb, FS c fr σ O s → Val (av fr O) s.heap a va → Val (av fr O) s.heap b vb → ∀ (Q E : Value → Shared → Prop), (∀ v s', FS c fr σ O s' → Kept fr O s O s' → Val (av fr O) s'.heap r v → Q v s') → wpAny c.M fr.A (binaryOp op va vb) Q E s
theorem Ev_bin {l r : Expr} {op : Operator} {pos : Pos} {a b d : D} (hl : Ev c fr σ O l a) (hr : Ev c fr σ O r b) (h : BinD c fr op a b d) : Ev c fr σ O (.BinOp l op r pos) d := by
  intro s F Q E k
  refine wpAny_BinOp (hl s F _ _ fun v s₁ F₁ K₁ V₁ => hr s₁ F₁ _ _ fun u s₂ F₂ K₂ V₂ => ?_)
  exact h σ O s₂ v u F₂ (K₂.val V₁) V₂ _ _ fun r s₃ F₃ K₃ V₃ => k r s₃ F₃ ((K₁.trans K₂).trans K₃) V₃
end
end Mine
end
section
open PySem PySem.W PyProof.Rows PySem.Calls PyProof.V PySem.Spec
namespace Mine
inductive Drop (x : Str) : Store → Store → Prop where
  | nil : Drop x [] []
  | hit {d : D} {r r' : Store} : Drop x r r' → Drop x ((x, d) :: r) r'
  | miss {y : Str} {d : D} {r r' : Store} : (y == x) = false → Drop x r r' → Drop x ((y, d) :: r) ((y, d) :: r')
theorem Drop.spec {x : Str} {σ σ' : Store} (h : Drop x σ σ') : ∀ p ∈ σ', p ∈ σ ∧ p.1 ≠ x := by
  induction h with
  | nil => intro p hp; cases hp
  | hit _ ih => intro p hp; exact ⟨List.mem_cons_of_mem _ (ih p hp).1, (ih p hp).2⟩
  | miss hn _ ih =>
    intro p hp
    rcases List.mem_cons.mp hp with rfl | hp
    · exact ⟨List.mem_cons_self .., by simpa using hn⟩
    · exact ⟨List.mem_cons_of_mem _ (ih p hp).1, (ih p hp).2⟩
theorem Ns.same {h : Heap} {a : Addr} {m m' : Str → Option Value} (x : h.Ns a m) (y : h.Ns a m') : m = m' := by
  obtain ⟨o, es, ep, e, d, _, f⟩ := x
  obtain ⟨o', es', ep', e', d', _, f'⟩ := y
  rw [e] at e'; cases e'; rw [d] at d'; cases d'
  funext n; rw [← f n, ← f' n]
theorem Ns.notCell {h : Heap} {a : Addr} {m : Str → Option Value} {v : Option Value} (x : h.Ns a m) (y : h.IsCell a v) : False := by
  obtain ⟨o, es, ep, e, d, _, f⟩ := x
  obtain ⟨o', e', d'⟩ := y
  rw [e] at e'; cases e'; rw [d] at d'; cases d'
theorem Ns.notTab {h : Heap} {a : Addr} {m : Str → Option Value} {ps : Array Value} (x : h.Ns a m) (y : h.get? a = some (tabObj ps)) : False := by
  obtain ⟨o, es, ep, e, d, _, f⟩ := x
  rw [e] at y; cases y; cases d
theorem Cell.notTab {h : Heap} {a : Addr} {v : Option Value} {ps : Array Value} (x : h.IsCell a v) (y : h.get? a = some (tabObj ps)) : False := by
  obtain ⟨o, e, d⟩ := x
  rw [e] at y; cases y; cases d
theorem ns_ne_cell {h : Heap} {a L : Addr} {m : Str → Option Value} {v : Option Value} (x : h.Ns L m) (y : h.IsCell a v) : a ≠ L := fun k => Ns.notCell x (k ▸ y)
def Storable (fr : FX) (x : Str) : Prop := fr.env.kindOf x = some .local ∨ (fr.mine x = true ∧ fr.env.kindOf x = some .cell)
section
variable {c : Cx} {fr : FX} {σ σ' : Store} {O O' : Owns} {s s' : Shared}
theorem Kept.sameBut {b : Addr} {h' : Heap} {tk : Nat} (hb : b ∈ fr.own) (hs : Heap.SameBut b s.heap h') : Kept fr O s O { s with heap := h', toks := tk } :=
  fun a o h1 h2 e => ⟨(hs.2 a (fun q => h1 (q ▸ hb))).trans e, h2⟩
theorem FS.at_own {b : Addr} {h' : Heap} {tk : Nat} (x : FS c fr σ O s) (hb : b ∈ fr.own) (hs : Heap.SameBut b s.heap h')
    (hnt : ∀ ps, s.heap.get? b ≠ some (tabObj ps)) (hal : ∃ o, h'.get? b = some o ∧ NoCode o) (hL : ∃ m, h'.Ns fr.env.locals m)
    (hm : ∀ x a, fr.env.cells.lookup x = some a → ∃ v, h'.IsCell a v)
    (hv : ∀ p ∈ σ', VarAt fr.env h' (Val (av fr O) h' p.2) p.1) : FS c fr σ' O { s with heap := h', toks := tk } where
  wi := ⟨fun a o e => (hs.2 a (fun q => by have := x.own0 b hb; rw [q] at e; rw [e] at this; cases this)).trans (x.wi.keep a o e),
    x.tabs_keep (fun a o na e => (hs.2 a (fun q => na (.inr (.inl (q ▸ hb))))).trans e) (fun q hq ps e => (hs.2 q.2 (fun k => hnt ps (k ▸ e))).trans e), x.wi.gens, x.wi.os⟩
  kind := x.kind
  glob := x.glob
  blt := x.blt
  hand := x.hand
  room := x.room
  own0 := x.own0
  o0 := x.o0
  tabown := x.tabown
  Lown := x.Lown
  Lns := hL
  inj := x.inj
  calive := hm
  cfree := x.cfree
  mown := x.mown
  oo := x.oo
  out0 := x.out0
  outal := fun a h => let ⟨o, e, nc⟩ := x.outal a h; ⟨o, (hs.2 a (fun k => x.oo a h (k ▸ hb))).trans e, nc⟩
  oout := x.oout
  ownal := fun a h => by
    by_cases k : a = b
    · rw [k]; exact hal
    · obtain ⟨o, e, nc⟩ := x.ownal a h; exact ⟨o, (hs.2 a k).trans e, nc⟩
  vars := hv
  owns := fun q hq => let ⟨vs, n, e, w⟩ := x.owns q hq
    ⟨vs, n, (hs.2 q.1 (fun k => x.odis q.1 (List.mem_map_of_mem hq) (k ▸ hb))).trans e, Vals.mono (fun a o na e => ⟨(hs.2 a (fun k => na (.inr (.inl (k ▸ hb))))).trans e, na⟩) _ _ w⟩
  nodup := x.nodup
  odis := x.odis
theorem store_ {x : Str} {d : D} {v : Value} {Q : Unit → Shared → Prop} {E : Value → Shared → Prop} (F : FS c fr σ O s) (V : Val (av fr O) s.heap d v) (hx : Storable fr x) (hd : Drop x σ σ')
    (h : ∀ s', FS c fr ((x, d) :: σ') O s' → Kept fr O s O s' → Q () s') : wpAny c.M fr.A (storeName fr.env x v) Q E s := by
  have sp := hd.spec
  rcases hx with hx | ⟨hmine, hx⟩
  · obtain ⟨m, hm⟩ := F.Lns
    refine wpAny_storeName_local hx hm (fun h' hn hs => ?_) (by rw [F.kind]; rfl)
    have vm : ∀ d v, Val (av fr O) s.heap d v → Val (av fr O) h' d v := fun d v => Val.mono (fun a o na e => ⟨(hs.2 a (fun k => na (.inr (.inl (k ▸ F.Lown))))).trans e, na⟩) d v
    refine h _ (F.at_own F.Lown hs (fun ps e => Ns.notTab hm e) (NoCode.ns hn) ⟨_, hn⟩ ?_ ?_) (Kept.sameBut F.Lown hs)
    · intro y a e1
      obtain ⟨u, o, e3, e4⟩ := F.calive y a e1
      exact ⟨u, o, (hs.2 a (ns_ne_cell hm ⟨o, e3, e4⟩)).trans e3, e4⟩
    · intro p hp
      rcases List.mem_cons.mp hp with rfl | hp
      · unfold VarAt; rw [hx]; exact ⟨_, v, hn, by simp, vm _ _ V⟩
      · obtain ⟨hp1, hp2⟩ := sp p hp
        have y := F.vars p hp1
        unfold VarAt at y ⊢
        split at y
        · obtain ⟨m', u, a, b, e⟩ := y
          rw [Ns.same a hm] at b
          exact ⟨_, u, hn, by simp [hp2, b], vm _ _ e⟩
        · obtain ⟨a, u, l, ⟨o, e3, e4⟩, e⟩ := y
          exact ⟨a, u, l, ⟨o, (hs.2 a (ns_ne_cell hm ⟨o, e3, e4⟩)).trans e3, e4⟩, vm _ _ e⟩
        · obtain ⟨a, u, l, ⟨o, e3, e4⟩, e⟩ := y
          exact ⟨a, u, l, ⟨o, (hs.2 a (ns_ne_cell hm ⟨o, e3, e4⟩)).trans e3, e4⟩, vm _ _ e⟩
        · exact y.elim
  · obtain ⟨m, hm⟩ := F.Lns
    obtain ⟨b, hl⟩ := F.cfree x (.inl hx)
    have hb := F.mown x b hmine hx hl
    obtain ⟨u₀, hc⟩ := F.calive x b hl
    refine wpAny_storeName_cell F.kind hx hl hc (fun h' hn hs => ?_)
    have vm : ∀ d v, Val (av fr O) s.heap d v → Val (av fr O) h' d v := fun d v => Val.mono (fun a o na e => ⟨(hs.2 a (fun k => na (.inr (.inl (k ▸ hb))))).trans e, na⟩) d v
    have hLb : fr.env.locals ≠ b := fun k => Ns.notCell hm (k ▸ hc)
    have hm' : h'.Ns fr.env.locals m := hm.sameBut hs hLb
    refine h { s with heap := h', toks := s.toks } (F.at_own hb hs (fun ps e => Cell.notTab hc e) (NoCode.isCell hn) ⟨m, hm'⟩ ?_ ?_) (Kept.sameBut hb hs)
    · intro y a e1
      obtain ⟨u, e3⟩ := F.calive y a e1
      by_cases q : a = b
      · subst q; exact ⟨_, hn⟩
      · obtain ⟨o, e3, e4⟩ := e3; exact ⟨u, o, (hs.2 a q).trans e3, e4⟩
    · intro p hp
      rcases List.mem_cons.mp hp with rfl | hp
      · unfold VarAt; rw [hx]; exact ⟨b, v, hl, hn, vm _ _ V⟩
      · obtain ⟨hp1, hp2⟩ := sp p hp
        have y := F.vars p hp1
        unfold VarAt at y ⊢
        split at y
        · obtain ⟨m', w, a, e1, e⟩ := y
          exact ⟨m', w, a.sameBut hs hLb, e1, vm _ _ e⟩
        · obtain ⟨a, w, l, ⟨o, e3, e4⟩, e⟩ := y
          exact ⟨a, w, l, ⟨o, (hs.2 a (fun k => hp2 (F.inj _ _ _ l (k ▸ hl)))).trans e3, e4⟩, vm _ _ e⟩
        · obtain ⟨a, w, l, ⟨o, e3, e4⟩, e⟩ := y
          exact ⟨a, w, l, ⟨o, (hs.2 a (fun k => hp2 (F.inj _ _ _ l (k ▸ hl)))).trans e3, e4⟩, vm _ _ e⟩
        · exact y.elim
def Asg (c : Cx) (fr : FX) (σ : Store) (O : Owns) (t : Expr) (d : D) (σ' : Store) : Prop :=
  ∀ s v, FS c fr σ O s → Val (av fr O) s.heap d v → ∀ (Q : Unit → Shared → Prop) (E : Value → Shared → Prop), (∀ s', FS c fr σ' O s' → Kept fr O s O s' → Q () s') → wpAny c.M fr.A (assign t fr.env v) Q E s
theorem Asg_name {x : Str} {pos : Pos} {d : D} (hx : Storable fr x) (hd : Drop x σ σ') : Asg c fr σ O (.Name x pos) d ((x, d) :: σ') :=
  fun s v F V Q E h => wpAny_assign_Name (store_ F V hx hd h)
inductive AsgL (c : Cx) (fr : FX) (O : Owns) : Store → List Expr → List D → Store → Prop where
  | nil {σ : Store} : AsgL c fr O σ [] [] σ
  | cons {σ σ₁ σ₂ : Store} {t : Expr} {ts : List Expr} {d : D} {ds : List D} : Asg c fr σ O t d σ₁ → AsgL c fr O σ₁ ts ds σ₂ → AsgL c fr O σ (t :: ts) (d :: ds) σ₂
theorem AsgL.len {ts : List Expr} {ds : List D} (h : AsgL c fr O σ ts ds σ') : ts.length = ds.length := by
  induction h with
  | nil => rfl
  | cons _ _ ih => simp [ih]
def noStar : List Expr → Bool
  | [] => true
  | .Starred _ _ :: _ => false
  | _ :: r => noStar r
theorem assignEach_plain : ∀ {ts : List Expr} {env : Env}, noStar ts = true → assignEach ts env = ts.map fun t => (false, assign t env)
  | [], _, _ => rfl
  | t :: ts, env, h => by
    cases t <;> first | (simp [noStar] at h; done) | (simp only [noStar] at h; simp [assignEach, assignEach_plain h])
theorem AsgL.run {ts : List Expr} {ds : List D} (h : AsgL c fr O σ ts ds σ') : ∀ (s : Shared) (vs : List Value), FS c fr σ O s → Vals (av fr O) s.heap ds vs → ∀ (Q : Unit → Shared → Prop) (E : Value → Shared → Prop), (∀ s', FS c fr σ' O s' → Kept fr O s O s' → Q () s') →
    wpAny c.M fr.A (assignInOrder (ts.map fun t => assign t fr.env) vs) Q E s := by
  induction h with
  | nil =>
    intro s vs F V Q E h
    simp only [Vals] at V; subst V
    exact wpAny_assignInOrder_none (h s F Kept.refl)
  | cons a _ ih =>
    intro s vs F V Q E h
    simp only [Vals] at V
    obtain ⟨v, r, rfl, V1, V2⟩ := V
    refine wpAny_assignInOrder_more (a s v F V1 _ _ fun s₁ F₁ K₁ => ?_)
    exact ih s₁ r F₁ (K₁.vals V2) _ _ fun s₂ F₂ K₂ => h s₂ F₂ (K₁.trans K₂)
theorem FS.ext {h' : Heap} (F : FS c fr σ O s) (he : Heap.ExtBut s.heap.objs.size s.heap h') {tk : Nat} : FS c fr σ O { s with heap := h', toks := tk } :=
  F.grow (fun a o e => he a o (Nat.ne_of_lt (Heap.lt_size e)) e) rfl rfl
theorem Kept.ext {h' : Heap} (he : Heap.ExtBut s.heap.objs.size s.heap h') {tk : Nat} : Kept fr O s O { s with heap := h', toks := tk } :=
  Kept.grow (fun a o e => he a o (Nat.ne_of_lt (Heap.lt_size e)) e)
theorem findIdx_plain : ∀ {ts : List Expr} {env : Env}, List.findIdx? (fun x : Bool × (Value → Sem Unit) => x.1) (ts.map fun t => (false, assign t env)) = Option.none := by
  intro ts env
  rw [List.findIdx?_eq_none_iff]
  intro x hx
  simp at hx
  obtain ⟨t, _, rfl⟩ := hx
  rfl
theorem Asg_tuple {ts : List Expr} {k : Nat} {pos : Pos} {ds : List D} (hp : noStar ts = true) (h : AsgL c fr O σ ts ds σ') : Asg c fr σ O (.Tuple ts k pos) (.tuple ds) σ' := by
  intro s v F V Q E hq
  simp only [Val] at V
  obtain ⟨a, vs, n, rfl, na, g, V⟩ := V
  refine wpAny_assign_Tuple F.hand ⟨_, g, rfl, n, rfl⟩ ?_ ?_ fun h' he => ?_
  · rw [assignEach_plain hp, List.length_map, h.len, ← V.length, Array.length_toList]
  · rw [assignEach_plain hp]; exact findIdx_plain
  · rw [assignEach_plain hp, List.map_map]
    have K : Kept fr O s O { s with heap := h' } := Kept.ext he (tk := s.toks)
    exact h.run _ _ (F.ext he (tk := s.toks)) (K.vals V) _ _ fun s' F' K' => hq s' F' (K.trans K')
theorem Ex_nil {P : Post} (h : P .next σ O) : Ex c fr σ O [] P := fun s F Q E k => wpAny_execs_nil (k .next .next σ O s F Kept.refl rfl h)
def Then (c : Cx) (fr : FX) (rest : List Stmt) (P : Post) : Post := fun out σ' O' => match out with
  | .next => Ex c fr σ' O' rest P
  | o => P o σ' O'
theorem Ex_cons {st : Stmt} {rest : List Stmt} {P : Post} (h : Ex1 c fr σ O st (Then c fr rest P)) : Ex c fr σ O (st :: rest) P := by
  intro s F Q E k
  refine wpAny_execs_cons (h s F _ _ fun f out σ₁ O₁ s₁ F₁ K₁ V₁ p => ?_)
  cases out with
  | next =>
    cases V₁
    exact p s₁ F₁ Q E fun f' out' σ₂ O₂ s₂ F₂ K₂ V₂ p₂ => k f' out' σ₂ O₂ s₂ F₂ (K₁.trans K₂) V₂ p₂
  | brk => cases V₁; exact k .brk .brk σ₁ O₁ s₁ F₁ K₁ rfl p
  | cont => cases V₁; exact k .cont .cont σ₁ O₁ s₁ F₁ K₁ rfl p
  | ret d => obtain ⟨v, rfl, V⟩ := V₁; exact k (.ret v) (.ret d) σ₁ O₁ s₁ F₁ K₁ ⟨v, rfl, V⟩ p
theorem Ex.mono {ss : List Stmt} {P P' : Post} (h : Ex c fr σ O ss P) (hp : ∀ o σ O, P o σ O → P' o σ O) : Ex c fr σ O ss P' :=
  fun s F Q E k => h s F Q E fun f out σ' O' s' F' K' V' p => k f out σ' O' s' F' K' V' (hp _ _ _ p)
theorem Ex.weak {ss : List Stmt} {P : Post} (h : Ex c fr σ' O ss P) (hs : ∀ p ∈ σ', p ∈ σ) : Ex c fr σ O ss P :=
  fun s F Q E k => h s (F.sub hs) Q E k
end
end Mine
end
section
open PySem PySem.W PyProof.Rows PySem.Calls PyProof.V PySem.Spec
namespace Mine
section
variable {c : Cx} {fr : FX} {σ σ' : Store} {O O' : Owns} {s s' : Shared}
theorem FS.units (F : FS c fr σ O s) : fr.A.units + 64 < cLine := by
  have h1 := F.room.1
  have h2 := F.room.2
  have h3 : cLine = 9900 := rfl
  (first | lia | omega)
theorem FS.units1 (F : FS c fr σ O s) : fr.A.units < cLine := by
  have := F.units; (first | lia | omega)
theorem BinD_add {a b : Int} : BinD c fr .Add (.int a) (.int b) (.int (a + b)) := by
  rintro σ O s _ _ F ⟨t, rfl⟩ ⟨u, rfl⟩ Q E k
  exact add_int (k _ _ F.toks Kept.refl ⟨_, rfl⟩)
theorem BinD_sub {a b : Int} : BinD c fr .Sub (.int a) (.int b) (.int (a - b)) := by
  rintro σ O s _ _ F ⟨t, rfl⟩ ⟨u, rfl⟩ Q E k
  exact sub_int (k _ _ F.toks Kept.refl ⟨_, rfl⟩)
theorem BinD_mul {a b : Int} (h : IntMulOk a b) : BinD c fr .Mult (.int a) (.int b) (.int (a * b)) := by
  rintro σ O s _ _ F ⟨t, rfl⟩ ⟨u, rfl⟩ Q E k
  exact mul_int (k _ _ F.toks Kept.refl ⟨_, rfl⟩) h
theorem BinD_mod {a b : Int} (h : b ≠ 0) : BinD c fr .Mod (.int a) (.int b) (.int (a.fmod b)) := by
  rintro σ O s _ _ F ⟨t, rfl⟩ ⟨u, rfl⟩ Q E k
  exact mod_int' h (k _ _ F.toks Kept.refl ⟨_, rfl⟩)
theorem BinD_floordiv {a b : Int} (h : b ≠ 0) (hp : Builtin.divisionGoesByPylong a b = false) : BinD c fr .FloorDiv (.int a) (.int b) (.int (a.fdiv b)) := by
  rintro σ O s _ _ F ⟨t, rfl⟩ ⟨u, rfl⟩ Q E k
  exact floordiv_int h (k _ _ F.toks Kept.refl ⟨_, rfl⟩) (.inl hp)
theorem BinD_lshift {a n : Int} (h : 0 ≤ n) (hb : (Builtin.Int.intBits a : Int) + n ≤ 2 ^ 27) : BinD c fr .LShift (.int a) (.int n) (.int (a * 2 ^ n.toNat)) := by
  rintro σ O s _ _ F ⟨t, rfl⟩ ⟨u, rfl⟩ Q E k
  exact lshift_int_or F.hand (fun q => absurd h (by (first | lia | omega))) (fun _ => hb) (fun _ => k _ _ F.toks Kept.refl ⟨_, rfl⟩)
theorem BinD_rshift {a n : Int} (h : 0 ≤ n) : BinD c fr .RShift (.int a) (.int n) (.int (a.fdiv (2 ^ n.toNat))) := by
  rintro σ O s _ _ F ⟨t, rfl⟩ ⟨u, rfl⟩ Q E k
  exact rshift_int_or F.hand (fun q => absurd h (by (first | lia | omega))) (fun _ => k _ _ F.toks Kept.refl ⟨_, rfl⟩)
theorem BinD_and {a b : Int} : BinD c fr .BitAnd (.int a) (.int b) (.int (Builtin.bitAnd a b)) := by
  rintro σ O s _ _ F ⟨t, rfl⟩ ⟨u, rfl⟩ Q E k
  exact and_int (k _ _ F.toks Kept.refl ⟨_, rfl⟩)
theorem BinD_or {a b : Int} : BinD c fr .BitOr (.int a) (.int b) (.int (Builtin.bitOr a b)) := by
  rintro σ O s _ _ F ⟨t, rfl⟩ ⟨u, rfl⟩ Q E k
  exact or_int (k _ _ F.toks Kept.refl ⟨_, rfl⟩)
theorem BinD_xor {a b : Int} : BinD c fr .BitXor (.int a) (.int b) (.int (Builtin.bitXor a b)) := by
  rintro σ O s _ _ F ⟨t, rfl⟩ ⟨u, rfl⟩ Q E k
  exact xor_int (k _ _ F.toks Kept.refl ⟨_, rfl⟩)
theorem BinD_pow {a n : Int} (h : 0 ≤ n) (hb : (Builtin.Int.intBits a : Int) * n ≤ 2 ^ 27) : BinD c fr .Pow (.int a) (.int n) (.int (a ^ n.toNat)) := by
  rintro σ O s _ _ F ⟨t, rfl⟩ ⟨u, rfl⟩ Q E k
  exact pow_int h hb (k _ _ F.toks Kept.refl ⟨_, rfl⟩)
theorem BinD_adds {a b : Str} (h : a.length + b.length ≤ sizeLine) : BinD c fr .Add (.str a) (.str b) (.str (a ++ b)) := by
  rintro σ O s _ _ F ⟨t, rfl⟩ ⟨u, rfl⟩ Q E k
  exact add_str (fun t' tk => k _ _ F.toks Kept.refl ⟨_, rfl⟩) h
theorem Ev_neg {e : Expr} {pos : Pos} {a : Int} (h : Ev c fr σ O e (.int a)) : Ev c fr σ O (.UnaryOp .USub e pos) (.int (-a)) := by
  intro s F Q E k
  refine wpAny_UnaryOp (h s F _ _ ?_)
  rintro _ s₁ F₁ K₁ ⟨t, rfl⟩
  exact neg_int (k _ _ F₁.toks (K₁.heap rfl) ⟨_, rfl⟩)
theorem Ev_inv {e : Expr} {pos : Pos} {a : Int} (h : Ev c fr σ O e (.int a)) : Ev c fr σ O (.UnaryOp .Invert e pos) (.int (Builtin.bitNot a)) := by
  intro s F Q E k
  refine wpAny_UnaryOp (h s F _ _ ?_)
  rintro _ s₁ F₁ K₁ ⟨t, rfl⟩
  exact invert_int (k _ _ F₁.toks (K₁.heap rfl) ⟨_, rfl⟩)
def CmpD (c : Cx) (fr : FX) (op : CmpOp) (a b : D) (r : Bool) : Prop :=
  ∀ (σ : Store) (O : Owns) s va vb, FS c fr σ O s → Val (av fr O) s.heap a va → Val (av fr O) s.heap b vb → ∀ (Q E : Value → Shared → Prop), (∀ s', FS c fr σ O s' → Kept fr O s O s' → Q (.bool r) s') → wpAny c.M fr.A (compareOp op va vb) Q E s
theorem Ev_cmp {l r : Expr} {op : CmpOp} {pos : Pos} {a b : D} {t : Bool} (hl : Ev c fr σ O l a) (hr : Ev c fr σ O r b) (h : CmpD c fr op a b t) (hb : behindInMarks op r = false := by rfl) : Ev c fr σ O (.Compare l [op] [r] pos) (.bool t) := by
  intro s F Q E k
  refine wpAny_Compare1 (hl s F _ _ fun v s₁ F₁ K₁ V₁ => hr s₁ F₁ _ _ fun u s₂ F₂ K₂ V₂ => ?_) hb
  exact h σ O s₂ v u F₂ (K₂.val V₁) V₂ _ _ fun s₃ F₃ K₃ => k _ s₃ F₃ ((K₁.trans K₂).trans K₃) rfl
theorem EvT_cmp {l r : Expr} {op : CmpOp} {pos : Pos} {a b : D} {t : Bool} (hl : Ev c fr σ O l a) (hr : Ev c fr σ O r b) (h : CmpD c fr op a b t) (hb : behindInMarks op r = false := by rfl) : EvT c fr σ O (.Compare l [op] [r] pos) t := by
  intro s F Q E k
  refine wpAny_isTrue_Compare1 (hl s F _ _ fun v s₁ F₁ K₁ V₁ => hr s₁ F₁ _ _ fun u s₂ F₂ K₂ V₂ => ?_) hb
  exact h σ O s₂ v u F₂ (K₂.val V₁) V₂ _ _ fun s₃ F₃ K₃ => wpAny_truthy_bool (k s₃ F₃ ((K₁.trans K₂).trans K₃))
theorem CmpD_lt {a b : Int} : CmpD c fr .Lt (.int a) (.int b) (decide (a < b)) := by
  rintro σ O s _ _ F ⟨t, rfl⟩ ⟨u, rfl⟩ Q E k
  exact lt_int (k _ F Kept.refl)
theorem CmpD_le {a b : Int} : CmpD c fr .LtE (.int a) (.int b) (decide (a ≤ b)) := by
  rintro σ O s _ _ F ⟨t, rfl⟩ ⟨u, rfl⟩ Q E k
  exact le_int (k _ F Kept.refl)
theorem CmpD_gt {a b : Int} : CmpD c fr .Gt (.int a) (.int b) (decide (b < a)) := by
  rintro σ O s _ _ F ⟨t, rfl⟩ ⟨u, rfl⟩ Q E k
  exact gt_int (k _ F Kept.refl)
theorem CmpD_ge {a b : Int} : CmpD c fr .GtE (.int a) (.int b) (decide (b ≤ a)) := by
  rintro σ O s _ _ F ⟨t, rfl⟩ ⟨u, rfl⟩ Q E k
  exact ge_int (k _ F Kept.refl)
theorem CmpD_eq {a b : Int} : CmpD c fr .Eq (.int a) (.int b) (a == b) := by
  rintro σ O s _ _ F ⟨t, rfl⟩ ⟨u, rfl⟩ Q E k
  exact eq_int (k _ F Kept.refl)
theorem CmpD_ne {a b : Int} : CmpD c fr .NotEq (.int a) (.int b) (a != b) := by
  rintro σ O s _ _ F ⟨t, rfl⟩ ⟨u, rfl⟩ Q E k
  exact ne_int (k _ F Kept.refl)
theorem CmpD_eqs {a b : Str} : CmpD c fr .Eq (.str a) (.str b) (a == b) := by
  rintro σ O s _ _ F ⟨t, rfl⟩ ⟨u, rfl⟩ Q E k
  exact eq_str (k _ F Kept.refl)
theorem CmpD_is_bool {a b : Bool} : CmpD c fr .Is (.bool a) (.bool b) (a == b) := by
  rintro σ O s _ _ F rfl rfl Q E k
  refine wpAny_is_plain rfl ?_
  have : (Value.bool a == Value.bool b) = (a == b) := by cases a <;> cases b <;> rfl
  rw [this]
  exact k _ F Kept.refl
theorem CmpD_isnot_bool {a b : Bool} : CmpD c fr .IsNot (.bool a) (.bool b) (a != b) := by
  rintro σ O s _ _ F rfl rfl Q E k
  refine wpAny_isNot_plain rfl ?_
  have : (!(Value.bool a == Value.bool b)) = (a != b) := by cases a <;> cases b <;> rfl
  rw [this]
  exact k _ F Kept.refl
mutual
def D.py : D → PyData
  | .none => .none
  | .bool b => .bool b
  | .int i => .int i
  | .str x => .str x
  | .list ds => .list (D.pys ds)
  | .tuple ds => .tuple (D.pys ds)
  | _ => .none
def D.pys : List D → List PyData
  | [] => []
  | d :: r => d.py :: D.pys r
end
mutual
def D.plain : D → Bool
  | .none | .bool _ | .int _ | .str _ => true
  | .list ds | .tuple ds => D.plains ds
  | _ => false
def D.plains : List D → Bool
  | [] => true
  | d :: r => d.plain && D.plains r
end
mutual
theorem Val.reads {a : Addr → Prop} {h : Heap} : ∀ (d : D) (v : Value), d.plain = true → Val a h d v → ∃ as, Reads h v d.py as
  | .none, v, _, x => by simp only [Val] at x; subst x; exact ⟨_, .none⟩
  | .bool b, v, _, x => by simp only [Val] at x; subst x; exact ⟨_, .bool b⟩
  | .int b, v, _, x => by simp only [Val] at x; obtain ⟨t, rfl⟩ := x; exact ⟨_, .int b t⟩
  | .str b, v, _, x => by simp only [Val] at x; obtain ⟨t, rfl⟩ := x; exact ⟨_, .str b t⟩
  | .list ds, v, p, x => by
    simp only [Val] at x
    obtain ⟨b, vs, n, rfl, nb, g, V⟩ := x
    simp only [D.plain] at p
    obtain ⟨as, r⟩ := Vals.reads ds vs.toList p V
    exact ⟨_, Reads.list g rfl rfl r⟩
  | .tuple ds, v, p, x => by
    simp only [Val] at x
    obtain ⟨b, vs, n, rfl, nb, g, V⟩ := x
    simp only [D.plain] at p
    obtain ⟨as, r⟩ := Vals.reads ds vs.toList p V
    exact ⟨_, Reads.tuple g rfl rfl r⟩
theorem Vals.reads {a : Addr → Prop} {h : Heap} : ∀ (ds : List D) (vs : List Value), D.plains ds = true → Vals a h ds vs → ∃ as, ReadsAll h vs (D.pys ds) as
  | [], vs, _, x => by simp only [Vals] at x; subst x; exact ⟨_, .nil⟩
  | d :: ds, vs, p, x => by
    simp only [Vals] at x
    simp only [D.plains, Bool.and_eq_true] at p
    obtain ⟨v, r, rfl, a1, a2⟩ := x
    obtain ⟨as, r1⟩ := Val.reads d v p.1 a1
    obtain ⟨bs, r2⟩ := Vals.reads ds r p.2 a2
    exact ⟨_, .cons r1 r2⟩
end
theorem CmpD_eqD {a b : D} (ha : a.plain = true) (hb : b.plain = true) (sa : SeqAt.shaped a.py = true) (sb : SeqAt.shaped b.py = true) : CmpD c fr .Eq a b (a.py.eqv b.py) := by
  intro σ O s va vb F Va Vb Q E k
  obtain ⟨_, ra⟩ := Val.reads a va ha Va
  obtain ⟨_, rb⟩ := Val.reads b vb hb Vb
  exact eq_dataH ra rb sa sb F.units (k _ F Kept.refl)
theorem CmpD_neD {a b : D} (ha : a.plain = true) (hb : b.plain = true) (sa : SeqAt.shaped a.py = true) (sb : SeqAt.shaped b.py = true) : CmpD c fr .NotEq a b (!a.py.eqv b.py) := by
  intro σ O s va vb F Va Vb Q E k
  obtain ⟨_, ra⟩ := Val.reads a va ha Va
  obtain ⟨_, rb⟩ := Val.reads b vb hb Vb
  exact ne_dataH ra rb sa sb F.units (k _ F Kept.refl)
abbrev zs (ns : List Int) : List D := ns.map D.int
theorem pys_zs (ns : List Int) : D.pys (zs ns) = ns.map PyData.int := by
  induction ns with
  | nil => rfl
  | cons a r ih => simp only [zs, List.map_cons, D.pys, D.py] at ih ⊢; rw [ih]
theorem plains_zs (ns : List Int) : D.plains (zs ns) = true := by
  induction ns with
  | nil => rfl
  | cons a r ih => simp only [zs, List.map_cons, D.plains, D.plain] at ih ⊢; rw [ih]; rfl
theorem CmpD_eqL {a b : List Int} : CmpD c fr .Eq (.list (zs a)) (.list (zs b)) (decide (a = b)) := by
  have h := CmpD_eqD (c := c) (fr := fr) (a := .list (zs a)) (b := .list (zs b)) (by simp [D.plain, plains_zs]) (by simp [D.plain, plains_zs]) (by simp only [D.py, pys_zs]; exact ke_shaped_ints a) (by simp only [D.py, pys_zs]; exact ke_shaped_ints b)
  simpa only [D.py, pys_zs, PyData.eqv, ked_eqvAll] using h
theorem CmpD_neL {a b : List Int} : CmpD c fr .NotEq (.list (zs a)) (.list (zs b)) (!decide (a = b)) := by
  have h := CmpD_neD (c := c) (fr := fr) (a := .list (zs a)) (b := .list (zs b)) (by simp [D.plain, plains_zs]) (by simp [D.plain, plains_zs]) (by simp only [D.py, pys_zs]; exact ke_shaped_ints a) (by simp only [D.py, pys_zs]; exact ke_shaped_ints b)
  simpa only [D.py, pys_zs, PyData.eqv, ked_eqvAll] using h
theorem EvT_not {e : Expr} {pos : Pos} {b : Bool} (h : EvT c fr σ O e b) : EvT c fr σ O (.UnaryOp .Not e pos) (!b) :=
  fun s F Q E k => wpAny_isTrue_Not (h s F _ _ fun s' F' K' => k s' F' K')
theorem EvT_or {x y : Expr} {pos : Pos} {a b : Bool} (h1 : EvT c fr σ O x a) (h2 : a = false → EvT c fr σ O y b) : EvT c fr σ O (.BoolOp .Or [x, y] pos) (a || b) := by
  intro s F Q E k
  refine wpAny_isTrue_BoolOp (wpAny_allTrue_Or_cons (h1 s F _ _ fun s₁ F₁ K₁ => ?_))
  cases a with
  | true => exact k s₁ F₁ K₁
  | false =>
    simp only [Bool.false_eq_true, if_false]
    refine wpAny_allTrue_Or_cons (h2 rfl s₁ F₁ _ _ fun s₂ F₂ K₂ => ?_)
    cases b with
    | true => exact k s₂ F₂ (K₁.trans K₂)
    | false => exact wpAny_allTrue_Or_nil (k s₂ F₂ (K₁.trans K₂))
theorem EvT_or3 {x y z : Expr} {pos : Pos} {a b d : Bool} (h1 : EvT c fr σ O x a) (h2 : a = false → EvT c fr σ O y b) (h3 : a = false → b = false → EvT c fr σ O z d) : EvT c fr σ O (.BoolOp .Or [x, y, z] pos) (a || b || d) := by
  intro s F Q E k
  refine wpAny_isTrue_BoolOp (wpAny_allTrue_Or_cons (h1 s F _ _ fun s₁ F₁ K₁ => ?_))
  cases a with
  | true => exact k s₁ F₁ K₁
  | false =>
    simp only [Bool.false_eq_true, if_false]
    refine wpAny_allTrue_Or_cons (h2 rfl s₁ F₁ _ _ fun s₂ F₂ K₂ => ?_)
    cases b with
    | true => exact k s₂ F₂ (K₁.trans K₂)
    | false =>
      simp only [Bool.false_eq_true, if_false]
      refine wpAny_allTrue_Or_cons (h3 rfl rfl s₂ F₂ _ _ fun s₃ F₃ K₃ => ?_)
      cases d with
      | true => exact k s₃ F₃ ((K₁.trans K₂).trans K₃)
      | false => exact wpAny_allTrue_Or_nil (k s₃ F₃ ((K₁.trans K₂).trans K₃))
theorem EvT_and {x y : Expr} {pos : Pos} {a b : Bool} (h1 : EvT c fr σ O x a) (h2 : a = true → EvT c fr σ O y b) : EvT c fr σ O (.BoolOp .And [x, y] pos) (a && b) := by
  intro s F Q E k
  refine wpAny_isTrue_BoolOp (wpAny_allTrue_And_cons (h1 s F _ _ fun s₁ F₁ K₁ => ?_))
  cases a with
  | false => exact k s₁ F₁ K₁
  | true =>
    simp only [if_true]
    refine wpAny_allTrue_And_cons (h2 rfl s₁ F₁ _ _ fun s₂ F₂ K₂ => ?_)
    cases b with
    | false => exact k s₂ F₂ (K₁.trans K₂)
    | true => exact wpAny_allTrue_And_nil (k s₂ F₂ (K₁.trans K₂))
def TruD (c : Cx) (fr : FX) (d : D) (b : Bool) : Prop :=
  ∀ (σ : Store) (O : Owns) s v, FS c fr σ O s → Val (av fr O) s.heap d v → ∀ (Q : Bool → Shared → Prop) (E : Value → Shared → Prop), (∀ s', FS c fr σ O s' → Kept fr O s O s' → Q b s') → wpAny c.M fr.A (truthy v) Q E s
theorem EvT_val {e : Expr} {d : D} {b : Bool} (h : Ev c fr σ O e d) (ht : TruD c fr d b) (hp : PySem.isTrue e fr.env (eval e fr.env) = (do let v ← eval e fr.env; standAt e.pos; holding [v] (truthy v)) := by rfl) : EvT c fr σ O e b := by
  intro s F Q E k
  exact isTrue_plain (h s F _ _ fun v s₁ F₁ K₁ V₁ => ht σ O s₁ v F₁ V₁ _ _ fun s₂ F₂ K₂ => k s₂ F₂ (K₁.trans K₂)) hp
theorem TruD_bool {b : Bool} : TruD c fr (.bool b) b := by
  rintro σ O s _ F rfl Q E k
  exact wpAny_truthy_bool (k s F Kept.refl)
theorem Ev_ifexp {t x y : Expr} {pos : Pos} {b : Bool} {d : D} (ht : EvT c fr σ O t b) (hx : b = true → Ev c fr σ O x d) (hy : b = false → Ev c fr σ O y d) : Ev c fr σ O (.IfExp t x y pos) d := by
  intro s F Q E k
  refine wpAny_IfExp (ht s F _ _ fun s₁ F₁ K₁ => ?_)
  cases b with
  | true => simp only [if_true]; exact hx rfl s₁ F₁ _ _ fun v s₂ F₂ K₂ V₂ => k v s₂ F₂ (K₁.trans K₂) V₂
  | false => simp only [Bool.false_eq_true, if_false]; exact hy rfl s₁ F₁ _ _ fun v s₂ F₂ K₂ V₂ => k v s₂ F₂ (K₁.trans K₂) V₂
theorem Ex1_assign {x : Str} {p pos : Pos} {e : Expr} {d : D} {P : Post} (h : Ev c fr σ O e d) (hx : Storable fr x) (hd : Drop x σ σ') (k : P .next ((x, d) :: σ') O)
    (hw : swapsWith e (some (.Name x p)) pos.line fr.env = pure false := by rfl) : Ex1 c fr σ O (.Assign [.Name x p] e pos) P := by
  intro s F Q E kk
  exact wpAny_Assign_Name (h s F _ _ fun v s₁ F₁ K₁ V₁ => store_ F₁ V₁ hx hd fun s₂ F₂ K₂ => kk .next .next _ _ s₂ F₂ (K₁.trans K₂) rfl k) hw
theorem Ex1_assignT {ts : List Expr} {n : Nat} {p pos : Pos} {e : Expr} {d : D} {P : Post} (h : Ev c fr σ O e d) (ha : Asg c fr σ O (.Tuple ts n p) d σ') (k : P .next σ' O)
    (hw : swapsWithSole [.Tuple ts n p] e pos.line fr.env = pure false := by rfl) (hs : swappedStores [.Tuple ts n p] e fr.env = pure Option.none := by rfl) : Ex1 c fr σ O (.Assign [.Tuple ts n p] e pos) P := by
  intro s F Q E kk
  exact wpAny_Assign_stores (h s F _ _ fun v s₁ F₁ K₁ V₁ => ha s₁ v F₁ V₁ _ _ fun s₂ F₂ K₂ => kk .next .next _ _ s₂ F₂ (K₁.trans K₂) rfl k) hw hs
theorem Ex1_assign3 {x y z : Str} {p1 p2 p3 pos : Pos} {e : Expr} {d : D} {σ₁ σ₂ σ₃ : Store} {P : Post} (h : Ev c fr σ O e d) (hx : Asg c fr σ O (.Name x p1) d σ₁) (hy : Asg c fr σ₁ O (.Name y p2) d σ₂) (hz : Asg c fr σ₂ O (.Name z p3) d σ₃) (k : P .next σ₃ O)
    (hs : swappedStores [.Name x p1, .Name y p2, .Name z p3] e fr.env = pure Option.none := by rfl) : Ex1 c fr σ O (.Assign [.Name x p1, .Name y p2, .Name z p3] e pos) P := by
  intro s F Q E kk
  refine wpAny_Assign_three (h s F _ _ fun v s₁ F₁ K₁ V₁ => hx s₁ v F₁ V₁ _ _ fun s₂ F₂ K₂ => hy s₂ v F₂ (K₂.val V₁) _ _ fun s₃ F₃ K₃ => hz s₃ v F₃ (K₃.val (K₂.val V₁)) _ _ fun s₄ F₄ K₄ => ?_) rfl hs
  exact kk .next .next _ _ s₄ F₄ (((K₁.trans K₂).trans K₃).trans K₄) rfl k
theorem Ex1_ret {e : Expr} {pos : Pos} {d : D} {P : Post} (h : Ev c fr σ O e d) (k : P (.ret d) σ O) : Ex1 c fr σ O (.Return (some e) pos) P := by
  intro s F Q E kk
  exact wpAny_Return_some (h s F _ _ fun v s₁ F₁ K₁ V₁ => kk (.ret v) (.ret d) _ _ s₁ F₁ K₁ ⟨v, rfl, V₁⟩ k)
theorem Ex1_ret0 {pos : Pos} {P : Post} (k : P (.ret .none) σ O) : Ex1 c fr σ O (.Return Option.none pos) P := by
  intro s F Q E kk
  exact wpAny_Return_none (kk (.ret .none) (.ret .none) _ _ s F Kept.refl ⟨_, rfl, rfl⟩ k)
theorem Ex1_if {t : Expr} {b : Bool} {x y : List Stmt} {pos : Pos} {P : Post} (ht : EvT c fr σ O t b) (hx : b = true → Ex c fr σ O x P) (hy : b = false → Ex c fr σ O y P) : Ex1 c fr σ O (.If t x y pos) P := by
  intro s F Q E kk
  refine wpAny_If (ht s F _ _ fun s₁ F₁ K₁ => ?_)
  cases b with
  | true => simp only [if_true]; exact hx rfl s₁ F₁ _ _ fun f o σ' O' s₂ F₂ K₂ V₂ p => kk f o σ' O' s₂ F₂ (K₁.trans K₂) V₂ p
  | false => simp only [Bool.false_eq_true, if_false]; exact hy rfl s₁ F₁ _ _ fun f o σ' O' s₂ F₂ K₂ V₂ p => kk f o σ' O' s₂ F₂ (K₁.trans K₂) V₂ p
theorem Ex1_assert {t : Expr} {m : Option Expr} {pos : Pos} {P : Post} (ht : EvT c fr σ O t true) (k : P .next σ O) : Ex1 c fr σ O (.Assert t m pos) P := by
  intro s F Q E kk
  exact wpAny_Assert_holds (ht s F _ _ fun s₁ F₁ K₁ => ⟨rfl, kk .next .next _ _ s₁ F₁ K₁ rfl k⟩)
theorem Ex1_expr {e : Expr} {pos : Pos} {d : D} {P : Post} (h : Ev c fr σ O e d) (k : P .next σ O) (hi : interactive fr.env = false) (hw : swapsWith e Option.none pos.line fr.env = pure false := by rfl) : Ex1 c fr σ O (.Expr e pos) P := by
  intro s F Q E kk
  exact wpAny_Expr_any (h s F _ _ fun v s₁ F₁ K₁ V₁ => kk .next .next _ _ s₁ F₁ K₁ rfl k) hi hw
theorem Ex1_break {pos : Pos} {P : Post} (k : P .brk σ O) : Ex1 c fr σ O (.Break pos) P := fun s F Q E kk => wpAny_Break (kk .brk .brk σ O s F Kept.refl rfl k)
theorem Ex1_cont {pos : Pos} {P : Post} (k : P .cont σ O) : Ex1 c fr σ O (.Continue pos) P := fun s F Q E kk => wpAny_Continue (kk .cont .cont σ O s F Kept.refl rfl k)
theorem Ex1_pass {pos : Pos} {P : Post} (k : P .next σ O) : Ex1 c fr σ O (.Pass pos) P := fun s F Q E kk => wpAny_Pass (kk .next .next σ O s F Kept.refl rfl k)
def InD (c : Cx) (fr : FX) (op : Operator) (a b r : D) : Prop :=
  ∀ (σ : Store) (O : Owns) s va vb, FS c fr σ O s → Val (av fr O) s.heap a va → Val (av fr O) s.heap b vb → ∀ (Q E : Value → Shared → Prop), (∀ v s', FS c fr σ O s' → Kept fr O s O s' → Val (av fr O) s'.heap r v → Q v s') → wpAny c.M fr.A (inplaceOp op va vb) Q E s
theorem Ex1_aug {x : Str} {p pos : Pos} {op : Operator} {e : Expr} {a b d : D} {P : Post} (hm : (x, a) ∈ σ) (h : Ev c fr σ O e b) (ho : InD c fr op a b d) (hx : Storable fr x) (hd : Drop x σ σ') (k : P .next ((x, d) :: σ') O)
    (hdb : (x == ("__debug__" : Str)) = false := by decide) (hc : (x == ("__classdict__" : Str)) = false := by decide) : Ex1 c fr σ O (.AugAssign (.Name x p) op e pos) P := by
  intro s F Q E kk
  refine wpAny_AugAssign_Name ?_
  have fin : ∀ v, Val (av fr O) s.heap a v → wpAny c.M fr.A (eval e fr.env) (fun u s₂ => wpAny c.M fr.A (inplaceOp op v u) (fun r s₃ => wpAny c.M fr.A (storeName fr.env x r) (fun _ => Q .next) E s₃) E s₂) E s := fun v V => by
    refine h s F _ _ fun u s₂ F₂ K₂ V₂ => ho σ O s₂ v u F₂ (K₂.val V) V₂ _ _ fun r s₃ F₃ K₃ V₃ => store_ F₃ V₃ hx hd fun s₄ F₄ K₄ => ?_
    exact kk .next .next _ _ s₄ F₄ ((K₂.trans K₃).trans K₄) rfl k
  have hv := F.vars _ hm
  unfold VarAt at hv
  split at hv
  · rename_i hk
    obtain ⟨m, v, a, b, e⟩ := hv
    exact wpAny_loadName_local F.kind hk a b (fin v e)
  · rename_i hk
    obtain ⟨a, v, l, b, e⟩ := hv
    exact wpAny_loadName_cell F.kind hk l b (fin v e)
  · rename_i hk
    obtain ⟨a, v, l, b, e⟩ := hv
    exact wpAny_loadName_free F.kind hk l b (fin v e) hc
  · exact hv.elim
theorem Ex1_while {t : Expr} {body : List Stmt} {pos : Pos} {P : Post} (I : Nat → Store → Owns → Prop)
    (turn : ∀ n σ O, I n σ O → ∃ b, EvT c fr σ O t b ∧ (b = true → Ex c fr σ O body (fun out σ' O' => match out with
      | .next | .cont => ∃ m, m < n ∧ I m σ' O'
      | .brk => P .next σ' O'
      | .ret d => P (.ret d) σ' O')) ∧ (b = false → P .next σ O))
    (n : Nat) (h : I n σ O) : Ex1 c fr σ O (.While t body [] pos) P := by
  intro s F Q E kk
  refine wpAny_While (codeAny_whileLoop (fun n s' => ∃ σ' O', I n σ' O' ∧ FS c fr σ' O' s' ∧ Kept fr O s O' s') ?_ n ⟨σ, O, h, F, Kept.refl⟩)
  rintro n s₁ ⟨σ₁, O₁, hI, F₁, K₁⟩
  obtain ⟨b, ht, hy, hn⟩ := turn n σ₁ O₁ hI
  refine ht s₁ F₁ _ _ fun s₂ F₂ K₂ => ?_
  cases b with
  | false =>
    simp only [Bool.false_eq_true, if_false]
    exact wpAny_execs_nil (kk .next .next σ₁ O₁ s₂ F₂ (K₁.trans K₂) rfl (hn rfl))
  | true =>
    simp only [if_true]
    refine hy rfl s₂ F₂ _ _ fun f out σ₃ O₃ s₃ F₃ K₃ V₃ p => ?_
    have K := (K₁.trans K₂).trans K₃
    cases out with
    | next => cases V₃; obtain ⟨m, hm, hI'⟩ := p; exact ⟨m, hm, σ₃, O₃, hI', F₃, K⟩
    | cont => cases V₃; obtain ⟨m, hm, hI'⟩ := p; exact ⟨m, hm, σ₃, O₃, hI', F₃, K⟩
    | brk => cases V₃; exact kk .next .next σ₃ O₃ s₃ F₃ K rfl p
    | ret d => obtain ⟨v, rfl, V⟩ := V₃; exact kk (.ret v) (.ret d) σ₃ O₃ s₃ F₃ K ⟨v, rfl, V⟩ p
end
end Mine
end
section
open PySem PySem.W PyProof.Rows PySem.Calls PyProof.V PySem.Spec
namespace Mine
structure It (c : Cx) (fr : FX) (O : Owns) (ds : List D) (I : Addr) (wr : List Addr) (s₁ s' : Shared) (fp : List Addr) (P : Nat → Value → Prop) (St : Nat → Heap → Prop) : Prop where
  W : Walks c.prog c.w fr.A I fp wr ds.length P St
  st : St 0 s'.heap
  alive : ∀ i h, St i h → ∀ b ∈ fp, ∃ o, h.get? b = some o ∧ NoCode o
  new : ∀ b ∈ wr, s₁.heap.get? b = none
  apart : ∀ b ∈ fp, b ∉ fr.own ∧ b ∉ addrs O
  val : ∀ i v d O'' s'', P i v → ds[i]? = some d → Kept (fr.wide wr) O s' O'' s'' → Val (av (fr.push wr) O'') s''.heap d v
  lets : ∀ i (s : Shared) t v (Q : Unit → Shared → Prop) (E : Value → Shared → Prop), St i s.heap → Q () s → wpAny c.M fr.A (letOwnedTupleGo t (.ref I) v) Q E s
  up : ∀ a o, s₁.heap.get? a = some o → s'.heap.get? a = some o
  gens : s'.gens = s₁.gens
  os : s'.os = s₁.os
def EvIt (c : Cx) (fr : FX) (σ : Store) (O : Owns) (e : Expr) (ds : List D) : Prop :=
  ∀ s, FS c fr σ O s → ∀ (Q E : Value → Shared → Prop), (∀ I wr s₁ s' fp P St, FS c fr σ O s₁ → Kept fr O s O s₁ → It c fr O ds I wr s₁ s' fp P St → Q (.ref I) s') →
    wpAny c.M fr.A (eval e fr.env) (fun x s₁ => wpAny c.M fr.A (pyIter x) Q E s₁) E s
section
variable {c : Cx} {fr : FX} {σ σ' : Store} {O O' : Owns} {s s' : Shared} {wr : List Addr}
theorem kinds_of_letgo {I : Addr} {o : Obj} {T : String} {t : Expr} {v : Value} {Q : Unit → Shared → Prop} {E : Value → Shared → Prop} {M : Model} {A : Around} (ho : s.heap.get? I = some o) (hc : o.cls = .type T)
    (hn : (["enumerate", "zip", "dict_itemiterator", "dict_reverseitemiterator", "odict_iterator", "itertools.zip_longest", "itertools.pairwise"] : List String).contains T = false) (h : Q () s) : wpAny M A (letOwnedTupleGo t (.ref I) v) Q E s := by
  have go : wpAny M A (do
    let (.ref r, .ref a) := ((Value.ref I, v) : Value × Value) | return
    let o ← load r
    match o.cls, o.data with
    | .type n, .fields vs =>
      if ["enumerate", "zip", "dict_itemiterator", "dict_reverseitemiterator", "odict_iterator", "itertools.zip_longest", "itertools.pairwise"].contains n && vs[0]? == some (rawInt a) then
        rule "for.unpacks-the-owned-tuple"
        updateField r 0 .none
    | _, _ => pure () : Sem Unit) Q E s := by
    cases v <;> first
      | exact wpAny_pure h
      | (refine wpAny_bind (wpAny_load ho ?_)
         rw [hc]
         cases o.data <;> first
           | exact wpAny_pure h
           | (dsimp only; rw [hn]; exact wpAny_pure h))
  cases t <;> first
    | exact go
    | exact wpAny_pure h
theorem FS.pushed (F : FS c fr σ O s) (hn : ∀ b ∈ wr, s.heap.get? b = none) (up : ∀ a o, s.heap.get? a = some o → s'.heap.get? a = some o) (hg : s'.gens = s.gens) (ho : s'.os = s.os)
    (hal : ∀ b ∈ wr, ∃ o, s'.heap.get? b = some o ∧ NoCode o) : FS c (fr.push wr) σ O s' := by
  have G := F.grow up hg ho
  have dead : ∀ {a o}, s.heap.get? a = some o → a ∉ wr := fun e m => by rw [hn _ m] at e; cases e
  have vm : ∀ d v, Val (av fr O) s.heap d v → Val (av (fr.push wr) O) s'.heap d v := fun d v => Val.mono (fun a o na e => ⟨up _ _ e, by
    rintro ((k | k) | k)
    · exact dead e k
    · exact na (.inl k)
    · exact na (.inr k)⟩) d v
  have vsm : ∀ d v, Vals (av fr O) s.heap d v → Vals (av (fr.push wr) O) s'.heap d v := fun d v => Vals.mono (fun a o na e => ⟨up _ _ e, by
    rintro ((k | k) | k)
    · exact dead e k
    · exact na (.inl k)
    · exact na (.inr k)⟩) d v
  exact {
    wi := G.wi
    kind := F.kind
    glob := F.glob
    blt := F.blt
    hand := F.hand
    room := F.room
    own0 := F.own0
    o0 := F.o0
    tabown := F.tabown
    Lown := F.Lown
    Lns := G.Lns
    inj := F.inj
    calive := G.calive
    cfree := F.cfree
    mown := F.mown
    oo := fun a h m => by
      rcases h with h | h
      · obtain ⟨o, e, _⟩ := F.ownal a m; exact dead e h
      · exact F.oo a h m
    out0 := fun a h => by
      rcases h with h | h
      · exact F.hwfresh (hn a h)
      · exact F.out0 a h
    outal := fun a h => by
      rcases h with h | h
      · exact hal a h
      · exact G.outal a h
    oout := fun a m h => by
      rcases h with h | h
      · obtain ⟨q, hq, rfl⟩ := List.mem_map.mp m
        obtain ⟨vs, n, e, _⟩ := F.owns q hq
        exact dead e h
      · exact F.oout a m h
    ownal := G.ownal
    vars := fun p hp => (F.vars p hp).mono (fun m h => h.keeps up) (fun _ _ _ _ ⟨o, a, b⟩ => ⟨o, up _ _ a, b⟩) (fun v h => vm _ _ h)
    owns := fun q hq => let ⟨vs, n, a, b⟩ := F.owns q hq; ⟨vs, n, up _ _ a, vsm _ _ b⟩
    nodup := F.nodup
    odis := F.odis }
theorem FS.walk_aux {fr' : FX} {h' : Heap} {tk : Nat} (F : FS c (fr.push wr) σ O s) (hcell : ∀ x a, fr.env.cells.lookup x = some a → a ∉ wr) (hw : ∀ b ∈ wr, c.hw.get? b = none)
    (hk : ∀ b o, b ∉ wr → s.heap.get? b = some o → h'.get? b = some o) (he : fr' = fr ∨ fr' = fr.push wr) (hout : ∀ a, fr'.out a → ∃ o, h'.get? a = some o ∧ NoCode o) : FS c fr' σ O { s with heap := h', toks := tk } := by
  have henv : fr'.env = fr.env := by rcases he with rfl | rfl <;> rfl
  have hA : fr'.A = fr.A := by rcases he with rfl | rfl <;> rfl
  have hown : fr'.own = fr.own := by rcases he with rfl | rfl <;> rfl
  have hmine : fr'.mine = fr.mine := by rcases he with rfl | rfl <;> rfl
  have hsub : ∀ a, fr'.out a → (fr.push wr).out a := by rcases he with rfl | rfl; exact fun a h => .inr h; exact fun a h => h
  have Lw : fr.env.locals ∉ wr := fun m => F.oo _ (.inl m) F.Lown
  have ow : ∀ a ∈ fr.own, a ∉ wr := fun a m k => F.oo a (.inl k) m
  have Ow : ∀ a ∈ addrs O, a ∉ wr := fun a m k => F.oout a m (.inl k)
  have mm : ∀ a o, ¬ av (fr.push wr) O a → s.heap.get? a = some o → h'.get? a = some o ∧ ¬ av fr' O a := fun a o na e => ⟨hk a o (fun m => na (.inl (.inl m))) e, by
    rintro (k | k | k)
    · exact na (.inl (hsub a k))
    · rw [hown] at k; exact na (.inr (.inl k))
    · exact na (.inr (.inr k))⟩
  exact {
    wi := ⟨fun a o e => hk a o (fun m => by rw [hw a m] at e; cases e) (F.wi.keep a o e), F.tabs_keep (fun a o na e => hk a o (fun m => na (.inl (.inl m))) e) (fun q hq ps e => hk _ _ (ow _ (F.tabown q hq)) e), F.wi.gens, F.wi.os⟩
    kind := by rw [henv]; exact F.kind
    glob := by rw [henv]; exact F.glob
    blt := by rw [henv]; exact F.blt
    hand := by rw [hA]; exact F.hand
    room := by rw [hA]; exact F.room
    own0 := by rw [hown]; exact F.own0
    o0 := F.o0
    tabown := by rw [hown]; exact F.tabown
    Lown := by rw [hown, henv]; exact F.Lown
    Lns := by rw [henv]; obtain ⟨m, o, es, ep, e, r⟩ := F.Lns; exact ⟨m, o, es, ep, hk _ _ Lw e, r⟩
    inj := by rw [henv]; exact F.inj
    calive := by
      rw [henv]
      intro x a e
      obtain ⟨v, o, e1, e2⟩ := F.calive x a e
      exact ⟨v, o, hk _ _ (hcell x a e) e1, e2⟩
    cfree := by rw [henv]; exact F.cfree
    mown := by rw [henv, hown, hmine]; exact F.mown
    oo := by rw [hown]; exact fun a h => F.oo a (hsub a h)
    out0 := fun a h => F.out0 a (hsub a h)
    outal := hout
    oout := fun a m h => F.oout a m (hsub a h)
    ownal := by rw [hown]; exact fun a m => let ⟨o, e, nc⟩ := F.ownal a m; ⟨o, hk _ _ (ow a m) e, nc⟩
    vars := fun p hp => by
      have y := F.vars p hp
      rw [henv]
      unfold VarAt at y ⊢
      split at y
      · rename_i hkd
        rw [show fr.env.kindOf p.1 = _ from hkd]
        obtain ⟨m, v, ⟨o, es, ep, e, r⟩, b, d⟩ := y; exact ⟨m, v, ⟨o, es, ep, hk _ _ Lw e, r⟩, b, Val.mono mm _ _ d⟩
      · rename_i hkd
        rw [show fr.env.kindOf p.1 = _ from hkd]
        obtain ⟨a, v, e, ⟨o, e1, e2⟩, d⟩ := y; exact ⟨a, v, e, ⟨o, hk _ _ (hcell _ _ e) e1, e2⟩, Val.mono mm _ _ d⟩
      · rename_i hkd
        rw [show fr.env.kindOf p.1 = _ from hkd]
        obtain ⟨a, v, e, ⟨o, e1, e2⟩, d⟩ := y; exact ⟨a, v, e, ⟨o, hk _ _ (hcell _ _ e) e1, e2⟩, Val.mono mm _ _ d⟩
      · exact y.elim
    owns := fun q hq => let ⟨vs, n, e, w⟩ := F.owns q hq; ⟨vs, n, hk _ _ (Ow _ (List.mem_map_of_mem hq)) e, Vals.mono mm _ _ w⟩
    nodup := F.nodup
    odis := by rw [hown]; exact F.odis }
theorem Kept.wide (K : Kept (fr.push wr) O s O' s') : Kept (fr.wide wr) O s O' s' := fun a o h1 h2 e => K a o (fun m => h1 (List.mem_append_right _ m)) h2 e
theorem Kept.walk {h' : Heap} {tk : Nat} (hk : ∀ b o, b ∉ wr → s.heap.get? b = some o → h'.get? b = some o) : Kept (fr.wide wr) O s O { s with heap := h', toks := tk } :=
  fun a o h1 h2 e => ⟨hk a o (fun m => h1 (List.mem_append_left _ m)) e, h2⟩
theorem loop_facts {s₁ s₂ : Shared} {ds : List D} {I : Addr} {fp : List Addr} {P : Nat → Value → Prop} {St : Nat → Heap → Prop} (F : FS c fr σ O s₁) (T : It c fr O ds I wr s₁ s₂ fp P St) :
    FS c (fr.push wr) σ O s₂ ∧ (∀ x a, fr.env.cells.lookup x = some a → a ∉ wr) ∧ (∀ b ∈ wr, c.hw.get? b = none) ∧ (∀ a, fr.out a → a ∉ wr) := by
  refine ⟨F.pushed T.new T.up T.gens T.os (fun b hb => T.alive 0 _ T.st b (T.W.sub b hb)), fun x a e m => ?_, fun b hb => F.hwfresh (T.new b hb), fun a h m => ?_⟩
  · obtain ⟨v, o, e1, _⟩ := F.calive x a e
    rw [T.new a m] at e1; cases e1
  · obtain ⟨o, e, _⟩ := F.outal a h
    rw [T.new a m] at e; cases e
theorem Ex1_for {t iter : Expr} {body : List Stmt} {pos : Pos} {ds : List D} {P : Post} (hi : EvIt c fr σ O iter ds) (Inv : Nat → Store → Owns → Prop) (h0 : Inv 0 σ O)
    (turn : ∀ wr i d σ O, ds[i]? = some d → Inv i σ O → ∃ σ₁, Asg c (fr.push wr) σ O t d σ₁ ∧ Ex c (fr.push wr) σ₁ O body (fun out σ' O' => match out with
      | .next | .cont => Inv (i + 1) σ' O'
      | .brk => P .next σ' O'
      | .ret d => P (.ret d) σ' O'))
    (done : ∀ σ O, Inv ds.length σ O → P .next σ O) (hf : ∀ x, foldedSetIterable iter fr.env x = pure x := by intro x; rfl) : Ex1 c fr σ O (.For t iter body [] pos) P := by
  intro s F Q E kk
  refine wpAny_For (hi s F _ _ fun I wr s₁ s₂ fp PP St F₁ K₁ T => ?_) hf
  obtain ⟨F₂, hcell, hw, hout⟩ := loop_facts F₁ T
  have W := T.W
  have leave : ∀ {σ' O' s'}, FS c (fr.push wr) σ' O' s' → Kept (fr.wide wr) O s₂ O' s' → Kept fr O s O' s' := fun F' K a o h1 h2 e => by
    have e1 := K₁ a o h1 h2 e
    have nw : a ∉ wr := fun m => by have := T.new a m; rw [e1.1] at this; cases this
    exact K a o (fun m => (List.mem_append.mp m).elim nw h1) h2 (T.up a o e1.1)
  have out_ : ∀ {σ' O' s'}, FS c (fr.push wr) σ' O' s' → FS c fr σ' O' s' := fun F' =>
    F'.walk_aux (tk := _) hcell hw (fun _ _ _ e => e) (.inl rfl) (fun a h => F'.outal a (.inr h))
  have shr : ∀ {O' : Owns} {h : Heap} {d : D} {v : Value}, Val (av (fr.push wr) O') h d v → Val (av fr O') h d v := fun x => Val.mono (fun a o na e => ⟨e, fun k => na (k.elim (fun k => .inl (.inr k)) .inr)⟩) _ _ x
  refine codeAny_forLoop_any (fun k s' => ∃ i σ' O', FS c (fr.push wr) σ' O' s' ∧ St i s'.heap ∧ Kept (fr.wide wr) O s₂ O' s' ∧ Inv i σ' O' ∧ i ≤ ds.length ∧ k = ds.length + 1 - i) ?_ (ds.length + 1)
    ⟨0, σ, O, F₂, T.st, Kept.refl, h0, Nat.zero_le _, rfl⟩
  rintro k s' ⟨i, σ', O', F', hst, K', hI, hle, rfl⟩
  by_cases hlt : i < ds.length
  · refine W.item i s' _ _ hlt hst fun v h' tk hP hst' hk => ?_
    have F₃ : FS c (fr.push wr) σ' O' { s' with heap := h', toks := tk } := F'.walk_aux hcell hw hk (.inr rfl) (fun a h => by
      by_cases m : a ∈ wr
      · exact T.alive _ _ hst' a (W.sub a m)
      · obtain ⟨o, e, nc⟩ := F'.outal a h; exact ⟨o, hk a o m e, nc⟩)
    have K₃ : Kept (fr.wide wr) O s₂ O' { s' with heap := h', toks := tk } := K'.trans (Kept.walk hk)
    obtain ⟨d, hd⟩ : ∃ d, ds[i]? = some d := ⟨ds[i], by simp [hlt]⟩
    obtain ⟨σ₁, ha, hb⟩ := turn wr i d σ' O' hd hI
    refine T.lets (i + 1) { s' with heap := h', toks := tk } t v _ _ hst' ?_
    refine ha { s' with heap := h', toks := tk } v F₃ (T.val i v d O' _ hP hd K₃) _ _ fun s₄ F₄ K₄ => ?_
    refine hb s₄ F₄ _ _ fun f out σ₅ O₅ s₅ F₅ K₅ V₅ p => ?_
    have K : Kept (fr.wide wr) O s₂ O₅ s₅ := (K₃.trans K₄.wide).trans K₅.wide
    have hst₅ : St (i + 1) s₅.heap := by
      refine W.frame (i + 1) h' s₅.heap hst' fun b hb o e => ?_
      obtain ⟨nb, _⟩ := T.apart b hb
      have hO : b ∉ addrs O' := by
        by_cases m : b ∈ wr
        · exact fun k => F₃.oout b k (.inl m)
        · intro k
          obtain ⟨ob, eb, _⟩ := T.alive 0 _ T.st b hb
          exact (K' b ob (fun q => (List.mem_append.mp q).elim m nb) (T.apart b hb).2 eb).2 k
      have e4 := K₄ b o nb hO e
      exact (K₅ b o nb e4.2 e4.1).1
    cases out with
    | next => cases V₅; exact ⟨ds.length + 1 - (i + 1), by (first | lia | omega), i + 1, σ₅, O₅, F₅, hst₅, K, p, hlt, rfl⟩
    | cont => cases V₅; exact ⟨ds.length + 1 - (i + 1), by (first | lia | omega), i + 1, σ₅, O₅, F₅, hst₅, K, p, hlt, rfl⟩
    | brk => cases V₅; exact kk .next .next σ₅ O₅ s₅ (out_ F₅) (leave F₅ K) rfl p
    | ret d => obtain ⟨u, rfl, V⟩ := V₅; exact kk (.ret u) (.ret d) σ₅ O₅ s₅ (out_ F₅) (leave F₅ K) ⟨u, rfl, shr V⟩ p
  · have hi' : i = ds.length := by (first | lia | omega)
    subst hi'
    refine W.done s' _ _ hst fun h' tk hk => ?_
    have F₃ : FS c fr σ' O' { s' with heap := h', toks := tk } := F'.walk_aux hcell hw hk (.inl rfl) (fun a h => let ⟨o, e, nc⟩ := F'.outal a (.inr h); ⟨o, hk a o (hout a h) e, nc⟩)
    refine wpAny_execs_nil (kk .next .next σ' O' _ F₃ ?_ rfl (done σ' O' hI))
    have K : Kept (fr.wide wr) O s₂ O' { s' with heap := h', toks := tk } := K'.trans (Kept.walk hk)
    intro a o h1 h2 e
    have e1 := K₁ a o h1 h2 e
    have nw : a ∉ wr := fun m => by have := T.new a m; rw [e1.1] at this; cases this
    exact K a o (fun m => (List.mem_append.mp m).elim nw h1) h2 (T.up a o e1.1)
theorem FS.ne_fresh (F : FS c fr σ O s) : s.heap.objs.size ∉ fr.own ∧ s.heap.objs.size ∉ addrs O := by
  constructor
  · intro m; obtain ⟨o, e, _⟩ := F.ownal _ m; exact Nat.lt_irrefl _ (Heap.lt_size e)
  · intro m
    obtain ⟨q, hq, h⟩ := List.mem_map.mp m
    obtain ⟨vs, n, e, _⟩ := F.owns q hq
    have := Heap.lt_size e
    rw [h] at this
    exact Nat.lt_irrefl _ this
theorem EvIt_list {e : Expr} {ds : List D} (h : Ev c fr σ O e (.list ds)) : EvIt c fr σ O e ds := by
  intro s F Q E k
  refine h s F _ _ fun v s₁ F₁ K₁ V => ?_
  simp only [Val] at V
  obtain ⟨a, vs, n, rfl, na, g, V⟩ := V
  have hl : s₁.heap.IsList a vs := ⟨_, g, rfl, n, rfl⟩
  have hne : a ≠ s₁.heap.objs.size := Nat.ne_of_lt (Heap.lt_size g)
  refine wpAny_pyIter_list hl (k _ [s₁.heap.objs.size] s₁ _ [s₁.heap.objs.size, a] (fun i v => vs[i]? = some v) (fun i h => h.IsListIter s₁.heap.objs.size a i ∧ h.IsList a vs) F₁ K₁ ?_)
  have hlen : vs.size = ds.length := by rw [← V.length]; simp
  have W := Walks.list (prog := c.prog) (w := c.w) (A := fr.A) F₁.hand s₁.heap.objs.size a hne vs
  rw [hlen] at W
  exact {
    W := W
    st := ⟨⟨_, Heap.get?_push_size _ rfl, rfl, rfl⟩, ⟨_, Heap.get?_push_of_some _ g, rfl, n, rfl⟩⟩
    alive := fun i h ⟨⟨o, e, _, d⟩, ⟨o', e', _, n', d'⟩⟩ b hb => by
      rcases List.mem_cons.mp hb with rfl | hb
      · exact ⟨o, e, .int d rfl⟩
      · rw [List.mem_singleton.mp hb]; exact ⟨o', e', .seq d'⟩
    new := fun b hb => by rw [List.mem_singleton.mp hb]; exact F₁.fresh
    apart := fun b hb => by
      rcases List.mem_cons.mp hb with rfl | hb
      · exact F₁.ne_fresh
      · rw [List.mem_singleton.mp hb]; exact ⟨fun m => na (.inr (.inl m)), fun m => na (.inr (.inr m))⟩
    val := fun i v d O'' s'' hv hd K => by
      obtain ⟨v', e', V'⟩ := V.get' i d hd
      rw [show vs.toList[i]? = vs[i]? by simp, hv] at e'
      cases e'
      refine Val.mono (fun b o nb e => ?_) _ _ V'
      have nb' : b ≠ s₁.heap.objs.size := Nat.ne_of_lt (Heap.lt_size e)
      obtain ⟨r1, r2⟩ := K b o (fun m => (List.mem_append.mp m).elim (fun m => nb' (List.mem_singleton.mp m)) (fun m => nb (.inr (.inl m)))) (fun m => nb (.inr (.inr m))) (Heap.get?_push_of_some _ e)
      refine ⟨r1, ?_⟩
      rintro ((m | m) | m | m)
      · exact nb' (List.mem_singleton.mp m)
      · exact nb (.inl m)
      · exact nb (.inr (.inl m))
      · exact r2 m
    lets := fun i s t v Q E ⟨⟨o, e, hc, _⟩, _⟩ q => kinds_of_letgo e hc (by decide) q
    up := fun a o e => Heap.get?_push_of_some _ e
    gens := rfl
    os := rfl }
end
end Mine
end
section
open PySem PySem.W PyProof.Rows PySem.Calls PyProof.V PySem.Spec
namespace Mine
theorem len1 {P : List Value → Prop} (h : ∀ a, P [a]) (vs : List Value) (hl : vs.length = 1) : P vs := by
  obtain ⟨a, rfl⟩ := List.length_eq_one_iff.mp hl; exact h a
theorem lenS {n : Nat} {P : List Value → Prop} (h : ∀ a (r : List Value), r.length = n → P (a :: r)) (vs : List Value) (hl : vs.length = n + 1) : P vs := by
  cases vs with
  | nil => cases hl
  | cons a r => exact h a r (Nat.succ.inj hl)
theorem len2 {P : List Value → Prop} (h : ∀ a b, P [a, b]) (vs : List Value) (hl : vs.length = 2) : P vs := lenS (fun a => len1 (h a)) vs hl
theorem len3 {P : List Value → Prop} (h : ∀ a b c, P [a, b, c]) (vs : List Value) (hl : vs.length = 3) : P vs := lenS (fun a => len2 (h a)) vs hl
theorem len6 {P : List Value → Prop} (h : ∀ a b c d e f, P [a, b, c, d, e, f]) (vs : List Value) (hl : vs.length = 6) : P vs := lenS (fun a => lenS (fun b => lenS (fun c => len3 (h a b c)))) vs hl
abbrev Cx.ta (c : Cx) : List Addr := c.tabs.map (·.2)
def avo (c : Cx) (out : Addr → Prop) (a : Addr) : Prop := out a ∨ a ∈ c.ta
def CallSpec (c : Cx) (f : Value) (n : Nat) (ds : List D) (d : D) : Prop :=
  ∀ (A : Around) (out : Addr → Prop) (s : Shared) (vs : List Value), A.handled = none → A.units ≤ 3 * A.depth → A.depth + n ≤ 900 → WI c s → (∀ a, out a → (∃ o, s.heap.get? a = some o ∧ NoCode o) ∧ a ∉ c.ta ∧ c.hw.get? a = none) →
    Vals (avo c out) s.heap ds vs → ∀ R : Result → Shared → Prop,
    (∀ v s', WI c s' → (∀ a o, a ∉ c.ta → s.heap.get? a = some o → s'.heap.get? a = some o) → Val (avo c out) s'.heap d v → R (.ok (.ret v)) s') → codeAny c.M A (.call f ⟨vs, []⟩) R s
def RetIs (d : D) : Post := fun out _ _ => match out with
  | .ret d' => d' = d
  | .next => d = .none
  | _ => False
theorem bindL_zip (kindOf : Str → Option NameKind) : ∀ (xs : List Str) (vs : List Value) (m : Str → Option Value), xs.Nodup → (∀ x, x ∉ xs → bindL kindOf (xs.zip vs) m x = m x) ∧ ∀ x v, (x, v) ∈ xs.zip vs → kindOf x = some .local → bindL kindOf (xs.zip vs) m x = some v
  | [], _, m, _ => ⟨fun _ _ => rfl, fun _ _ h => by simp at h⟩
  | _ :: _, [], m, _ => ⟨fun _ _ => rfl, fun _ _ h => by simp at h⟩
  | y :: ys, w :: ws, m, hn => by
    obtain ⟨h1, h2⟩ := List.nodup_cons.mp hn
    obtain ⟨i1, i2⟩ := bindL_zip kindOf ys ws (if kindOf y = some .local then fun z => if z = y then some w else m z else m) h2
    refine ⟨fun x hx => ?_, fun x v hv hk => ?_⟩
    · simp only [List.zip_cons_cons, bindL]
      rw [i1 x (fun q => hx (List.mem_cons_of_mem _ q))]
      have : x ≠ y := fun q => hx (q ▸ List.mem_cons_self ..)
      split <;> simp [this]
    · simp only [List.zip_cons_cons, bindL]
      rcases List.mem_cons.mp hv with e | hv
      · cases e
        rw [i1 _ h1]; simp [hk]
      · exact i2 x v hv hk
theorem bindC_zip (kindOf : Str → Option NameKind) : ∀ (xs : List Str) (vs : List Value) (m : Str → Option Value), xs.Nodup → (∀ x, x ∉ xs → bindC kindOf (xs.zip vs) m x = m x) ∧ ∀ x v, (x, v) ∈ xs.zip vs → kindOf x ≠ some .local → bindC kindOf (xs.zip vs) m x = some v
  | [], _, m, _ => ⟨fun _ _ => rfl, fun _ _ h => by simp at h⟩
  | _ :: _, [], m, _ => ⟨fun _ _ => rfl, fun _ _ h => by simp at h⟩
  | y :: ys, w :: ws, m, hn => by
    obtain ⟨h1, h2⟩ := List.nodup_cons.mp hn
    obtain ⟨i1, i2⟩ := bindC_zip kindOf ys ws (if kindOf y = some .local then m else fun z => if z = y then some w else m z) h2
    refine ⟨fun x hx => ?_, fun x v hv hk => ?_⟩
    · simp only [List.zip_cons_cons, bindC]
      rw [i1 x (fun q => hx (List.mem_cons_of_mem _ q))]
      have : x ≠ y := fun q => hx (q ▸ List.mem_cons_self ..)
      split <;> simp [this]
    · simp only [List.zip_cons_cons, bindC]
      rcases List.mem_cons.mp hv with e | hv
      · cases e
        rw [i1 _ h1]; simp [hk]
      · exact i2 x v hv hk
theorem zip_vals {a : Addr → Prop} {h : Heap} : ∀ (xs : List Str) (ds : List D) (vs : List Value), Vals a h ds vs → ∀ x d, (x, d) ∈ xs.zip ds → ∃ v, (x, v) ∈ xs.zip vs ∧ Val a h d v
  | [], _, _, _, x, d, hm => by simp at hm
  | _ :: _, [], _, _, x, d, hm => by simp at hm
  | y :: ys, e :: es, vs, V, x, d, hm => by
    simp only [Vals] at V
    obtain ⟨v, r, rfl, V1, V2⟩ := V
    rcases List.mem_cons.mp hm with q | hm
    · cases q; exact ⟨v, List.mem_cons_self .., V1⟩
    · obtain ⟨u, h1, h2⟩ := zip_vals ys es r V2 x d hm
      exact ⟨u, List.mem_cons_of_mem _ h1, h2⟩
def cellsOf (cs : List (Str × Addr)) : List Addr := cs.filterMap fun p => cs.lookup p.1
theorem mem_cellsOf {cs : List (Str × Addr)} {x : Str} {a : Addr} (h : cs.lookup x = some a) : a ∈ cellsOf cs :=
  List.mem_filterMap.mpr ⟨(x, a), mem_of_lookup h, h⟩
theorem of_mem_cellsOf {cs : List (Str × Addr)} {a : Addr} (h : a ∈ cellsOf cs) : ∃ x, cs.lookup x = some a :=
  let ⟨p, _, e⟩ := List.mem_filterMap.mp h; ⟨p.1, e⟩
theorem not_mem_zip {α β : Type} {xs : List α} {ys : List β} {x : α} {y : β} (h : (x, y) ∈ xs.zip ys) : x ∈ xs := (List.of_mem_zip h).1
theorem call_def {c : Cx} {g : Addr} {ob : Obj} {fd : FuncData} {body : List Stmt} {xs : List Str} {n : Nat} {ds : List D} {d : D}
    (hob : c.hw.get? g = some ob) (hdata : ob.data = .func fd) (hbody : fd.body = .stmts body) (hclo : fd.closure = []) (hglob : fd.globals = mainGlobals) (hblt : fd.builtins = builtinsNs) (hcd : c.hw.CodeRec fd.code fd.qualname)
    (hco : fd.scope.isCoroutine = false) (hgen : fd.scope.isGenerator = false) (hk : fd.scope.kind = .function)
    (hbind : ∀ vs : List Value, vs.length = xs.length → bindArgs fd ⟨vs, []⟩ = pure (xs.zip vs)) (hn : xs.Nodup) (hlen : xs.length = ds.length)
    (hkx : ∀ x ∈ xs, fd.scope.names.lookup x = some .local ∨ fd.scope.names.lookup x = some .cell) (hnf : ∀ x, fd.scope.names.lookup x ≠ some .free)
    (hex : ∀ L A out own, A.depth + n ≤ 900 → Ex c ⟨callEnvC fd L g, A, out, own, fun _ => true⟩ (xs.zip ds) [] body (RetIs d)) : CallSpec c (.ref g) (n + 1) ds d := by
  intro A out s vs hh hu hd WS hout V R hR
  have hvl : vs.length = xs.length := by rw [V.length, hlen]
  refine codeAny_call_cells (fd := fd) (by have : recursionLimit = 1000 := rfl; (first | lia | omega)) (WS.keep _ _ hob) hdata (c.T.nolimit.keeps WS.keep) (hcd.keeps WS.keep) hbody (hbind vs hvl) hclo ?_ ?_ hco hgen hk
  · intro x hx
    rcases hkx x.1 (not_mem_zip (y := x.2) hx) with h | h
    · exact .inl h
    · exact .inr ⟨h, cellsFrom_some _ _ _ (.inl h)⟩
  intro s₁ X
  obtain ⟨h₁, tk, rfl, keep⟩ := X.done
  have hL := X.toInCall.fresh
  have dead : ∀ a, s.heap.objs.size ≤ a → s.heap.get? a = none := fun a ha => by
    cases e : s.heap.get? a with
    | none => rfl
    | some o => exact absurd (Heap.lt_size e) (Nat.not_lt.mpr ha)
  have hwdead : ∀ a, s.heap.objs.size ≤ a → c.hw.get? a = none := fun a ha => by
    cases e : c.hw.get? a with
    | none => rfl
    | some o => exact absurd (Heap.lt_size (WS.keep _ _ e)) (Nat.not_lt.mpr ha)
  have cellge : ∀ {a}, a ∈ cellsOf (callEnvC fd s.heap.objs.size g).cells → s.heap.objs.size ≤ a := fun h => by
    obtain ⟨x, e⟩ := of_mem_cellsOf h
    have := X.above _ _ (mem_of_lookup e)
    exact Nat.le_of_lt (Nat.lt_of_le_of_lt hL this)
  let own : List Addr := (callEnvC fd s.heap.objs.size g).locals :: (cellsOf (callEnvC fd s.heap.objs.size g).cells ++ c.ta)
  let A' := A.deeper (callEnvC fd s.heap.objs.size g)
  let fr : FX := ⟨callEnvC fd s.heap.objs.size g, A', out, own, fun _ => true⟩
  have hkind : ∀ x, fr.env.kindOf x = fd.scope.names.lookup x := fun _ => rfl
  have F : FS c fr (xs.zip ds) [] { s with heap := h₁, toks := tk } := {
    wi := WS.grow keep rfl rfl
    kind := hk
    glob := by show fd.globals = mainGlobals; exact hglob
    blt := by show fd.builtins = builtinsNs; exact hblt
    hand := hh
    room := by
      show A.units + 3 ≤ 3 * (A.depth + 1) ∧ A.depth + 1 ≤ 900
      (first | lia | omega)
    own0 := fun a h => by
      rcases List.mem_cons.mp h with rfl | h
      · exact hwdead _ hL
      · rcases List.mem_append.mp h with h | h
        · exact hwdead _ (cellge h)
        · obtain ⟨q, hq, rfl⟩ := List.mem_map.mp h; exact c.tab0 q hq
    o0 := fun a h => by simp [addrs] at h
    tabown := fun q hq => List.mem_cons_of_mem _ (List.mem_append_right _ (List.mem_map_of_mem hq))
    Lown := List.mem_cons_self ..
    Lns := ⟨_, X.toInCall.ns⟩
    inj := fun x y a h1 h2 => name_of_addr X.apart (mem_of_lookup h1) (mem_of_lookup h2)
    calive := fun x a h => ⟨_, X.cell x a h⟩
    cfree := fun x h => by
      rcases h with h | h
      · exact Option.isSome_iff_exists.mp (cellsFrom_some (x := x) fd.scope.names (s.heap.objs.size + 1) [] (.inl h))
      · exact absurd h (hnf x)
    mown := fun x a _ h ha => List.mem_cons_of_mem _ (List.mem_append_left _ (mem_cellsOf ha))
    oo := fun a h m => by
      obtain ⟨⟨o, e, _⟩, nt, _⟩ := hout a h
      rcases List.mem_cons.mp m with rfl | m
      · rw [dead _ hL] at e; cases e
      · rcases List.mem_append.mp m with m | m
        · rw [dead _ (cellge m)] at e; cases e
        · exact nt m
    out0 := fun a h => (hout a h).2.2
    outal := fun a h => let ⟨⟨o, e, nc⟩, _⟩ := hout a h; ⟨o, keep _ _ e, nc⟩
    oout := fun a h => by simp [addrs] at h
    ownal := fun a h => by
      rcases List.mem_cons.mp h with rfl | h
      · exact NoCode.ns X.toInCall.ns
      · rcases List.mem_append.mp h with h | h
        · obtain ⟨x, e⟩ := of_mem_cellsOf h
          exact NoCode.isCell (X.cell x a e)
        · obtain ⟨q, hq, rfl⟩ := List.mem_map.mp h
          obtain ⟨ps, e, tk⟩ := WS.tab q hq
          exact ⟨_, keep _ _ e, .tab tk.1⟩
    vars := fun p hp => by
      obtain ⟨v, hv, Vv⟩ := zip_vals xs ds vs V p.1 p.2 hp
      have Vv' : Val (av fr []) h₁ p.2 v := Val.mono (fun a o na e => ⟨keep _ _ e, by
        rintro (k | k | k)
        · exact na (.inl k)
        · rcases List.mem_cons.mp k with rfl | k
          · rw [dead _ hL] at e; cases e
          · rcases List.mem_append.mp k with k | k
            · rw [dead _ (cellge k)] at e; cases e
            · exact na (.inr k)
        · simp [addrs] at k⟩) _ _ Vv
      unfold VarAt
      rcases hkx p.1 (not_mem_zip (y := p.2) hp) with h | h
      · rw [hkind, h]
        exact ⟨_, v, X.toInCall.ns, (bindL_zip _ xs vs _ hn).2 p.1 v hv (by show fr.env.kindOf p.1 = _; rw [hkind, h]), Vv'⟩
      · rw [hkind, h]
        obtain ⟨a, ha⟩ := Option.isSome_iff_exists.mp (cellsFrom_some (x := p.1) fd.scope.names (s.heap.objs.size + 1) [] (.inl h))
        refine ⟨a, v, ha, ?_, Vv'⟩
        have := X.cell p.1 a ha
        rw [(bindC_zip _ xs vs _ hn).2 p.1 v hv (by show fr.env.kindOf p.1 ≠ _; rw [hkind, h]; simp)] at this
        exact this
    owns := fun q hq => by cases hq
    nodup := .nil
    odis := fun a h => by simp [addrs] at h }
  refine wpAny_mono (hex s.heap.objs.size A' out own (by show A.depth + 1 + n ≤ 900; (first | lia | omega)) _ F
    (fun f s' => R (.ok (.ret (match f with | .ret v => v | _ => .none))) s') (fun _ _ => False) (fun f o σ' O' s' F' K' V' p => ?_)) (fun _ _ x => x) (fun _ _ x => x.elim)
  have keep' : ∀ a o, a ∉ c.ta → s.heap.get? a = some o → s'.heap.get? a = some o := fun a o nt e => by
    refine (K' a o ?_ (by simp [addrs]) (keep a o e)).1
    intro m
    rcases List.mem_cons.mp m with rfl | m
    · rw [dead _ hL] at e; cases e
    · rcases List.mem_append.mp m with m | m
      · rw [dead _ (cellge m)] at e; cases e
      · exact nt m
  cases o with
  | next => cases V'; cases p; exact hR _ _ F'.wi keep' rfl
  | brk => exact p.elim
  | cont => exact p.elim
  | ret d' =>
    obtain ⟨v, rfl, V'⟩ := V'
    cases p
    refine hR v s' F'.wi keep' (Val.mono (fun a o na e => ⟨e, fun k => na (k.elim .inl fun k => .inr (.inl (List.mem_cons_of_mem _ (List.mem_append_right _ k))))⟩) _ _ V')
section
variable {c : Cx} {fr : FX} {σ σ' : Store} {O O' : Owns} {s s' : Shared}
def CallD (c : Cx) (fr : FX) (f : Value) (ds : List D) (d : D) : Prop :=
  ∀ (σ : Store) (O : Owns) s vs, FS c fr σ O s → Vals (av fr O) s.heap ds vs → ∀ (Q E : Value → Shared → Prop), (∀ v s', FS c fr σ O s' → Kept fr O s O s' → Val (av fr O) s'.heap d v → Q v s') → wpAny c.M fr.A (call f vs) Q E s
theorem FS.callee (F : FS c fr σ O s) (W : WI c s') (hk : ∀ a o, a ∉ c.ta → s.heap.get? a = some o → s'.heap.get? a = some o) : FS c fr σ O s' ∧ Kept fr O s O s' := by
  have nt : ∀ a, a ∉ fr.own → a ∉ c.ta := fun a h m => by
    obtain ⟨q, hq, rfl⟩ := List.mem_map.mp m; exact h (F.tabown q hq)
  have mm : ∀ a o, ¬ av fr O a → s.heap.get? a = some o → s'.heap.get? a = some o ∧ ¬ av fr O a := fun a o na e => ⟨hk a o (nt a (fun m => na (.inr (.inl m)))) e, na⟩
  have tabal : ∀ a, a ∈ c.ta → ∃ ps, s.heap.get? a = some (tabObj ps) := fun a m => by
    obtain ⟨q, hq, rfl⟩ := List.mem_map.mp m; obtain ⟨ps, e, _⟩ := F.wi.tab q hq; exact ⟨ps, e⟩
  have nsk : ∀ m, s.heap.Ns fr.env.locals m → s'.heap.Ns fr.env.locals m := fun m h => by
    obtain ⟨o, es, ep, e, r⟩ := id h
    exact ⟨o, es, ep, hk _ _ (fun q => let ⟨ps, e⟩ := tabal _ q; Ns.notTab h e) e, r⟩
  have ck : ∀ a v, s.heap.IsCell a v → s'.heap.IsCell a v := fun a v h => by
    obtain ⟨o, e, r⟩ := id h
    exact ⟨o, hk _ _ (fun q => let ⟨ps, e⟩ := tabal _ q; Cell.notTab h e) e, r⟩
  refine ⟨{
    wi := W
    kind := F.kind
    glob := F.glob
    blt := F.blt
    hand := F.hand
    room := F.room
    own0 := F.own0
    o0 := F.o0
    tabown := F.tabown
    Lown := F.Lown
    Lns := let ⟨m, h⟩ := F.Lns; ⟨m, nsk m h⟩
    inj := F.inj
    calive := fun x a e => let ⟨v, h⟩ := F.calive x a e; ⟨v, ck _ _ h⟩
    cfree := F.cfree
    mown := F.mown
    oo := F.oo
    out0 := F.out0
    outal := fun a h => let ⟨o, e, nc⟩ := F.outal a h; ⟨o, hk _ _ (nt a (F.oo a h)) e, nc⟩
    oout := F.oout
    ownal := fun a h => by
      by_cases m : a ∈ c.ta
      · obtain ⟨q, hq, rfl⟩ := List.mem_map.mp m; obtain ⟨ps, e, tk⟩ := W.tab q hq; exact ⟨_, e, .tab tk.1⟩
      · obtain ⟨o, e, nc⟩ := F.ownal a h; exact ⟨o, hk _ _ m e, nc⟩
    vars := fun p hp => (F.vars p hp).mono nsk (fun _ a v _ h => ck a v h) (fun v h => Val.mono mm _ _ h)
    owns := fun q hq => let ⟨vs, n, e, w⟩ := F.owns q hq; ⟨vs, n, hk _ _ (nt _ (F.odis _ (List.mem_map_of_mem hq))) e, Vals.mono mm _ _ w⟩
    nodup := F.nodup
    odis := F.odis }, fun a o h1 h2 e => ⟨hk a o (nt a h1) e, h2⟩⟩
theorem CallD_of {f : Value} {n : Nat} {ds : List D} {d : D} (h : CallSpec c f n ds d) (hn : fr.A.depth + n ≤ 900) : CallD c fr f ds d := by
  intro σ O s vs F V Q E k
  have tsub : ∀ a, a ∈ c.ta → a ∈ fr.own := fun a m => by obtain ⟨q, hq, rfl⟩ := List.mem_map.mp m; exact F.tabown q hq
  have eq : ∀ a, avo c (fun a => av fr O a ∧ a ∉ c.ta) a ↔ av fr O a := fun a => by
    constructor
    · rintro (k | k)
      · exact k.1
      · exact .inr (.inl (tsub a k))
    · intro k
      by_cases m : a ∈ c.ta
      · exact .inr m
      · exact .inl ⟨k, m⟩
  refine wpAny_call (h fr.A (fun a => av fr O a ∧ a ∉ c.ta) s vs F.hand F.room.1 hn F.wi (fun a h => ⟨?_, h.2, h.1.elim (F.out0 a) fun k => k.elim (F.own0 a) (F.o0 a)⟩) (Vals.mono (fun a o na e => ⟨e, fun q => na ((eq a).mp q)⟩) _ _ V) _ fun v s' W hk Vv => ?_)
  · rcases h.1 with q | q | q
    · exact F.outal a q
    · exact F.ownal a q
    · obtain ⟨p, hp, rfl⟩ := List.mem_map.mp q
      obtain ⟨vs, n, e, _⟩ := F.owns p hp
      exact ⟨_, e, .list⟩
  · obtain ⟨F', K'⟩ := F.callee W hk
    exact k v s' F' K' (Val.mono (fun a o na e => ⟨e, fun q => na ((eq a).mpr q)⟩) _ _ Vv)
inductive EvL (c : Cx) (fr : FX) (σ : Store) (O : Owns) : List Expr → List D → Prop where
  | nil : EvL c fr σ O [] []
  | cons {e : Expr} {es : List Expr} {d : D} {ds : List D} : Ev c fr σ O e d → EvL c fr σ O es ds → EvL c fr σ O (e :: es) (d :: ds)
theorem starEach_plain : ∀ {es : List Expr} {env : Env}, noStar es = true → starEach es env = es.map fun e => (false, eval e env)
  | [], _, _ => rfl
  | e :: es, env, h => by
    cases e <;> first | (simp [noStar] at h; done) | (simp only [noStar] at h; simp [starEach, starEach_plain h])
theorem EvL.run {es : List Expr} {ds : List D} (h : EvL c fr σ O es ds) (hs : noStar es = true) : ∀ (pos : Pos) (s : Shared), FS c fr σ O s → ∀ (Q : List Value → Shared → Prop) (E : Value → Shared → Prop),
    (∀ vs s', FS c fr σ O s' → Kept fr O s O s' → Vals (av fr O) s'.heap ds vs → Q vs s') → wpAny c.M fr.A (spliced (backTo pos (starEach es fr.env))) Q E s := by
  induction h with
  | nil => intro pos s F Q E k; exact spliced_none (k [] s F Kept.refl Vals.nil)
  | @cons e es d ds a _ ih =>
    intro pos s F Q E k
    have hs' : noStar es = true := by cases e <;> first | (simp [noStar] at hs; done) | exact hs
    refine spliced_more (a s F _ _ fun v s₁ F₁ K₁ V₁ => ih hs' pos s₁ F₁ _ _ fun vs s₂ F₂ K₂ V₂ => k _ s₂ F₂ (K₁.trans K₂) (Vals.cons (K₂.val V₁) V₂)) ?_
    rw [starEach_plain hs, starEach_plain hs']; rfl
def Keep (c : Cx) (f : Value) : Prop := ∀ h : Heap, (∀ a o, c.hw.get? a = some o → h.get? a = some o) → ∃ k, (k = Keeper.frame ∨ k = Keeper.machine ∨ k = Keeper.boundFrame) ∧ Looks c.M h (keeperOf f) k
theorem Keep_builtin {id : String} : Keep c (.builtin id) := fun h _ => ⟨.machine, .inr (.inl rfl), Looks.of_pure rfl⟩
theorem Keep_type {id : String} : Keep c (.type id) := fun h _ => ⟨.machine, .inr (.inl rfl), Looks.of_pure rfl⟩
theorem Keep_K {f : Value} (h : keepIn c.K f = true) : Keep c f := fun hp hk => keeps_K h hp (c.KX.keeps hk)
theorem callWith_ {f : Value} {first : List Value} {es : List Expr} {ds : List D} {pos : Pos} {Q E : Value → Shared → Prop} (hf : Keep c f) (h : EvL c fr σ O es ds) (hs : noStar es = true) (F : FS c fr σ O s)
    (k : ∀ vs s', FS c fr σ O s' → Kept fr O s O s' → Vals (av fr O) s'.heap ds vs → wpAny c.M fr.A (call f (first ++ vs)) Q E s') :
    wpAny c.M fr.A (callWith pos f first (backTo pos (starEach es fr.env)) []) Q E s := by
  refine callWith_of (P := fun h => ∀ a o, c.hw.get? a = some o → h.get? a = some o) ?_ (fun h p => hf h p) ?_
  · rw [starEach_plain hs]
    simp [backTo]
  · cases h with
    | nil => exact evalArgs_nil3 ⟨F.wi.keep, k [] s F Kept.refl Vals.nil⟩
    | @cons e es d ds a b =>
      have hs' : noStar es = true := by cases e <;> first | (simp [noStar] at hs; done) | exact hs
      have e1 : backTo pos (starEach (e :: es) fr.env) = (false, eval e fr.env) :: backTo pos (starEach es fr.env) := by
        rw [starEach_plain hs, starEach_plain hs']; rfl
      rw [e1]
      refine evalArgs_plain ?_
      rw [← e1]
      exact (EvL.cons a b).run hs pos s F _ _ fun vs s' F' K' V' => ⟨F'.wi.keep, k vs s' F' K' V'⟩
def GlobIs (c : Cx) (x : Str) (v : Value) : Prop := c.mg x = some v ∨ (c.mg x = none ∧ c.mb x = some v)
theorem GlobIs.top {x : Str} {v : Value} (h : nsIn c.K mainGlobals x = some (some v)) : GlobIs c x v := .inl (mg_of c.KX c.T.g h)
theorem GlobIs.blt {x : Str} {v : Value} (h : nsIn c.K mainGlobals x = some none) (hb : bootBuiltins x = some v) (hn : x ≠ "__name__" := by decide) : GlobIs c x v := .inr ⟨mg_none_of c.KX c.T.g h, (c.T.builtins x hn).trans hb⟩
theorem Ev_glob {x : Str} {pos : Pos} {v : Value} {d : D} (h : GlobIs c x v) (hv : ∀ a hp, (∀ b o, c.hw.get? b = some o → hp.get? b = some o) → Val a hp d v) (hx : fr.env.kindOf x = some .globalImplicit := by rfl) (hd : (x == ("__debug__" : Str)) = false := by decide) : Ev c fr σ O (.Name x pos) d := by
  intro s F Q E k
  refine Name_function_global F.kind hx ?_ hd
  have kk := k v s F Kept.refl (hv _ _ F.wi.keep)
  rcases h with h | ⟨h1, h2⟩
  · exact loadGlobal_global (by rw [F.glob]; exact c.T.g.keeps F.wi.keep) h kk
  · exact loadGlobal_builtin (by rw [F.glob]; exact c.T.g.keeps F.wi.keep) h1 (by rw [F.blt]; exact c.T.b.keeps F.wi.keep) h2 kk
theorem Ev_globraw {x : Str} {pos : Pos} {v : Value} (h : GlobIs c x v) (hx : fr.env.kindOf x = some .globalImplicit := by rfl) (hd : (x == ("__debug__" : Str)) = false := by decide) : Ev c fr σ O (.Name x pos) (.raw v) :=
  Ev_glob h (fun _ _ _ => by simp only [Val]) hx hd
theorem Ev_call {x : Str} {np pos : Pos} {es : List Expr} {f : Value} {ds : List D} {d : D} (hf : Ev c fr σ O (.Name x np) (.raw f)) (hk : Keep c f) (h : EvL c fr σ O es ds) (hc : CallD c fr f ds d) (hs : noStar es = true := by rfl) : Ev c fr σ O (.Call (.Name x np) es [] pos) d := by
  intro s F Q E k
  refine wpAny_Call_ofName (hf s F _ _ fun v s₁ F₁ K₁ V₁ => ?_)
  simp only [Val] at V₁; subst V₁
  exact callWith_ hk h hs F₁ fun vs s₂ F₂ K₂ V₂ => hc σ O s₂ vs F₂ V₂ _ _ fun r s₃ F₃ K₃ V₃ => k r s₃ F₃ ((K₁.trans K₂).trans K₃) V₃
def MethOn (c : Cx) (fr : FX) (d : D) (name : Str) (id : String) : Prop :=
  ∃ T, PlainAttrs T ∧ Slot T name id ∧ typeOf (Value.builtin id) = pure (Value.type "method_descriptor") ∧
    ∀ (O : Owns) (s : Shared) v, (∃ σ, FS c fr σ O s) → Val (av fr O) s.heap d v → s.TypeIs v T ∧ ∀ a, v = .ref a → ∃ ob, s.heap.get? a = some ob ∧ ob.dict = none
theorem Ev_meth {o : Expr} {name : Str} {apos pos : Pos} {es : List Expr} {id : String} {a : D} {ds : List D} {d : D} (ho : Ev c fr σ O o a) (hm : MethOn c fr a name id) (h : EvL c fr σ O es ds) (hc : CallD c fr (.builtin id) (a :: ds) d)
    (hs : noStar es = true := by rfl) (hb : attributeBase o name fr.env (eval o fr.env) = eval o fr.env := by rfl) (hl : decide (es.length < 29) = true := by rfl) (hp : (apos.endLine == pos.line) = true := by rfl) :
    Ev c fr σ O (.Call (.Attribute o name apos) es [] pos) d := by
  intro s F Q E k
  obtain ⟨T, h1, h2, h3, h4⟩ := hm
  refine wpAny_Call_method hb ?_ hp h1 h2 h3 (ho s F _ _ fun v s₁ F₁ K₁ V₁ => ?_)
  · rw [starEach_plain hs]
    have : es.length < 29 := of_decide_eq_true hl
    simp [backTo, backToKw, keywordEach]; (first | lia | omega)
  · obtain ⟨t1, t2⟩ := h4 O s₁ v ⟨σ, F₁⟩ V₁
    refine ⟨t1, t2, ?_⟩
    exact callWith_ Keep_builtin h hs F₁ fun vs s₂ F₂ K₂ V₂ => hc σ O s₂ (v :: vs) F₂ (Vals.cons (K₂.val V₁) V₂) _ _ fun r s₃ F₃ K₃ V₃ => k r s₃ F₃ ((K₁.trans K₂).trans K₃) V₃
end
end Mine
end
section
open PySem PySem.W PyProof.Rows PySem.Calls PyProof.V PySem.Spec
namespace Mine
section
variable {c : Cx} {fr : FX} {σ σ' : Store} {O O' : Owns} {s s' : Shared}
def allNews (h : Heap) (L : Addr) : List (Addr × Obj) := (List.range h.objs.size).filterMap fun a => if a = L then none else (h.get? a).map (a, ·)
theorem mem_allNews {h : Heap} {L a : Addr} {o : Obj} (ha : a ≠ L) (e : h.get? a = some o) : (a, o) ∈ allNews h L :=
  List.mem_filterMap.mpr ⟨a, List.mem_range.mpr (Heap.lt_size e), by rw [if_neg ha, e]; rfl⟩
theorem allNews_spec {h : Heap} {L : Addr} : ∀ p ∈ allNews h L, h.get? p.1 = some p.2 ∧ p.1 ≠ L := fun p hp => by
  obtain ⟨a, _, e⟩ := List.mem_filterMap.mp hp
  split at e
  · cases e
  · rename_i ne
    cases q : h.get? a with
    | none => rw [q] at e; cases e
    | some o => rw [q] at e; cases e; exact ⟨q, ne⟩
def emptyH : Heap := { objs := #[] }
theorem emptyH_get (a : Addr) : emptyH.get? a = none := by simp [emptyH, Heap.get?]
theorem FS.adapt (F : FS c fr σ O s) : ∃ m, Fr emptyH fr.env.locals s.heap m ∧ News emptyH fr.env.locals s.heap (allNews s.heap fr.env.locals) ∧
    ∀ h' tk, Fr emptyH fr.env.locals h' m → News emptyH fr.env.locals h' (allNews s.heap fr.env.locals) → FS c fr σ O { s with heap := h', toks := tk } ∧ Kept fr O s O { s with heap := h', toks := tk } ∧ ∀ d v, Val (av fr O) s.heap d v → Val (av fr O) h' d v := by
  obtain ⟨m, hm⟩ := F.Lns
  refine ⟨m, ⟨hm, fun b o e => (by rw [emptyH_get] at e; cases e), Nat.zero_le _⟩, fun p hp => ⟨(allNews_spec p hp).1, (allNews_spec p hp).2, emptyH_get _⟩, fun h' tk F' N' => ?_⟩
  have keep : ∀ a o, a ≠ fr.env.locals → s.heap.get? a = some o → h'.get? a = some o := fun a o ne e => (N' _ (mem_allNews ne e)).1
  have mm : ∀ a o, ¬ av fr O a → s.heap.get? a = some o → h'.get? a = some o ∧ ¬ av fr O a := fun a o na e => ⟨keep a o (fun q => na (.inr (.inl (q ▸ F.Lown)))) e, na⟩
  have nsk : ∀ m', s.heap.Ns fr.env.locals m' → h'.Ns fr.env.locals m' := fun m' h => by rw [Ns.same h hm]; exact F'.ns
  have ck : ∀ a v, s.heap.IsCell a v → h'.IsCell a v := fun a v h => by
    obtain ⟨o, e, r⟩ := id h; exact ⟨o, keep _ _ (ns_ne_cell hm h) e, r⟩
  refine ⟨{
    wi := ⟨fun a o e => keep a o (fun q => by have := F.own0 _ F.Lown; rw [← q, e] at this; cases this) (F.wi.keep a o e), F.tabs_keep (fun a o na e => (mm a o na e).1) (fun q hq ps e => keep _ _ (fun k => Ns.notTab hm (k ▸ e)) e), F.wi.gens, F.wi.os⟩
    kind := F.kind
    glob := F.glob
    blt := F.blt
    hand := F.hand
    room := F.room
    own0 := F.own0
    o0 := F.o0
    tabown := F.tabown
    Lown := F.Lown
    Lns := ⟨m, F'.ns⟩
    inj := F.inj
    calive := fun x a e => let ⟨v, h⟩ := F.calive x a e; ⟨v, ck _ _ h⟩
    cfree := F.cfree
    mown := F.mown
    oo := F.oo
    out0 := F.out0
    outal := fun a h => let ⟨o, e, nc⟩ := F.outal a h; ⟨o, keep _ _ (fun q => F.oo a h (q ▸ F.Lown)) e, nc⟩
    oout := F.oout
    ownal := fun a h => by
      by_cases q : a = fr.env.locals
      · rw [q]; exact NoCode.ns F'.ns
      · obtain ⟨o, e, nc⟩ := F.ownal a h; exact ⟨o, keep _ _ q e, nc⟩
    vars := fun p hp => (F.vars p hp).mono nsk (fun _ a v _ h => ck a v h) (fun v h => Val.mono mm _ _ h)
    owns := fun q hq => let ⟨vs, n, e, w⟩ := F.owns q hq; ⟨vs, n, keep _ _ (fun k => F.odis _ (List.mem_map_of_mem hq) (k ▸ F.Lown)) e, Vals.mono mm _ _ w⟩
    nodup := F.nodup
    odis := F.odis }, fun a o h1 h2 e => ⟨keep a o (fun q => h1 (q ▸ F.Lown)) e, h2⟩, fun d v => Val.mono mm d v⟩
theorem News.tl {h₀ h : Heap} {L : Addr} {p : Addr × Obj} {news : List (Addr × Obj)} (N : News h₀ L h (p :: news)) : News h₀ L h news := fun q hq => N q (List.mem_cons_of_mem _ hq)
theorem News.hd {h₀ h : Heap} {L : Addr} {p : Addr × Obj} {news : List (Addr × Obj)} (N : News h₀ L h (p :: news)) : h.get? p.1 = some p.2 := (N p (List.mem_cons_self ..)).1
theorem FS.fresh_av (F : FS c fr σ O s) : ¬ av fr O s.heap.objs.size := by
  rintro (k | k | k)
  · obtain ⟨o, e, _⟩ := F.outal _ k; exact Nat.lt_irrefl _ (Heap.lt_size e)
  · exact F.ne_fresh.1 k
  · exact F.ne_fresh.2 k
theorem FS.new_av (F : FS c fr σ O s) {a : Addr} (h : s.heap.get? a = none) : ¬ av fr O a := by
  rintro (k | k | k)
  · obtain ⟨o, e, _⟩ := F.outal _ k; rw [h] at e; cases e
  · obtain ⟨o, e, _⟩ := F.ownal _ k; rw [h] at e; cases e
  · obtain ⟨q, hq, rfl⟩ := List.mem_map.mp k
    obtain ⟨vs, n, e, _⟩ := F.owns q hq
    rw [h] at e; cases e
theorem Vals.push (V : Vals (av fr O) s.heap ds vs) (o : Obj) : Vals (av fr O) (s.heap.push o) ds vs := Vals.mono (fun a o' na e => ⟨Heap.get?_push_of_some _ e, na⟩) _ _ V
theorem Val_newList {h : Heap} {a : Addr} {vs : Array Value} {n : Nat} {ds : List D} {p : Addr → Prop} (e : h.get? a = some { cls := .type "list", data := .seq vs n }) (na : ¬ p a) (V : Vals p h ds vs.toList) : Val p h (.list ds) (.ref a) := by
  simp only [Val]; exact ⟨a, vs, n, rfl, na, e, V⟩
theorem Val_newTuple {h : Heap} {a : Addr} {vs : Array Value} {n : Nat} {ds : List D} {p : Addr → Prop} (e : h.get? a = some { cls := .type "tuple", data := .seq vs n }) (na : ¬ p a) (V : Vals p h ds vs.toList) : Val p h (.tuple ds) (.ref a) := by
  simp only [Val]; exact ⟨a, vs, n, rfl, na, e, V⟩
theorem EvL.length {es : List Expr} {ds : List D} (h : EvL c fr σ O es ds) : ds.length = es.length := by
  induction h with
  | nil => rfl
  | cons _ _ ih => simp [ih]
theorem Ev_list {es : List Expr} {pos : Pos} {ds : List D} (h : EvL c fr σ O es ds) (hs : noStar es = true := by rfl) (hz : decide (es.length ≤ 1000) = true := by rfl) : Ev c fr σ O (.List es pos) (.list ds) := by
  intro s F Q E k
  refine wpAny_List_spliced (h.run hs pos s F _ _ fun vs s₁ F₁ K₁ V₁ => ⟨?_, ?_⟩)
  · have h1 : ds.length = es.length := h.length
    have h2 := of_decide_eq_true hz
    rw [V₁.length, h1]; show es.length ≤ 2 ^ 24; (first | lia | omega)
  · exact k _ _ (F₁.push _ (tk := s₁.toks)) (K₁.trans (Kept.grow fun a o e => Heap.get?_push_of_some _ e)) (Val_newList (Heap.get?_push_size _ rfl) F₁.fresh_av (Vals.push (s := s₁) V₁ _))
theorem Ev_tuple {es : List Expr} {n : Nat} {pos : Pos} {ds : List D} (h : EvL c fr σ O es ds) (hs : noStar es = true := by rfl) (hz : decide (es.length ≤ 1000) = true := by rfl) : Ev c fr σ O (.Tuple es n pos) (.tuple ds) := by
  intro s F Q E k
  refine wpAny_Tuple_spliced (h.run hs pos s F _ _ fun vs s₁ F₁ K₁ V₁ => ⟨?_, ?_⟩)
  · have h1 : ds.length = es.length := h.length
    have h2 := of_decide_eq_true hz
    rw [V₁.length, h1]; show es.length ≤ 2 ^ 24; (first | lia | omega)
  · exact k _ _ (F₁.push _ (tk := s₁.toks)) (K₁.trans (Kept.grow fun a o e => Heap.get?_push_of_some _ e)) (Val_newTuple (Heap.get?_push_size _ rfl) F₁.fresh_av (Vals.push (s := s₁) V₁ _))
theorem Vals.one_ {a : Addr → Prop} {h : Heap} {d : D} {vs : List Value} (V : Vals a h [d] vs) : ∃ v, vs = [v] ∧ Val a h d v := by
  simp only [Vals] at V; obtain ⟨v, r, rfl, x, rfl⟩ := V; exact ⟨v, rfl, x⟩
theorem Vals.two_ {a : Addr → Prop} {h : Heap} {d e : D} {vs : List Value} (V : Vals a h [d, e] vs) : ∃ v u, vs = [v, u] ∧ Val a h d v ∧ Val a h e u := by
  simp only [Vals] at V; obtain ⟨v, r, rfl, x, u, r', rfl, y, rfl⟩ := V; exact ⟨v, u, rfl, x, y⟩
theorem Vals.three_ {a : Addr → Prop} {h : Heap} {d e f : D} {vs : List Value} (V : Vals a h [d, e, f] vs) : ∃ v u w, vs = [v, u, w] ∧ Val a h d v ∧ Val a h e u ∧ Val a h f w := by
  simp only [Vals] at V; obtain ⟨v, r, rfl, x, u, r', rfl, y, w, r'', rfl, z, rfl⟩ := V; exact ⟨v, u, w, rfl, x, y, z⟩
theorem Vals.four_ {a : Addr → Prop} {h : Heap} {d e f g : D} {vs : List Value} (V : Vals a h [d, e, f, g] vs) : ∃ v u w x, vs = [v, u, w, x] ∧ Val a h d v ∧ Val a h e u ∧ Val a h f w ∧ Val a h g x := by
  simp only [Vals] at V; obtain ⟨v, r, rfl, x, u, r', rfl, y, w, r'', rfl, z, q, r3, rfl, z4, rfl⟩ := V; exact ⟨v, u, w, q, rfl, x, y, z, z4⟩
theorem IntsAre_of {a : Addr → Prop} {h : Heap} : ∀ {ns : List Int} {vs : List Value}, Vals a h (zs ns) vs → IntsAre vs ns
  | [], vs, V => by simp only [zs, List.map_nil, Vals] at V; subst V; exact .nil
  | n :: ns, vs, V => by
    simp only [zs, List.map_cons, Vals, Val] at V
    obtain ⟨v, r, rfl, ⟨t, rfl⟩, V⟩ := V
    exact .cons _ _ (IntsAre_of V)
theorem Vals_ints {a : Addr → Prop} {h : Heap} : ∀ {ns : List Int} {vs : List Value}, IntsAre vs ns → Vals a h (zs ns) vs
  | _, _, .nil => Vals.nil
  | _, _, .cons i t r => Vals.cons (by simp only [Val]; exact ⟨_, rfl⟩) (Vals_ints r)
theorem list_of {a : Addr → Prop} {h : Heap} {ds : List D} {v : Value} (V : Val a h (.list ds) v) : ∃ l vs, v = .ref l ∧ ¬ a l ∧ h.PlainList l vs ∧ h.IsList l vs ∧ Vals a h ds vs.toList := by
  simp only [Val] at V
  obtain ⟨l, vs, n, rfl, na, g, V⟩ := V
  exact ⟨l, vs, rfl, na, ⟨n, g⟩, ⟨_, g, rfl, n, rfl⟩, V⟩
theorem tuple_of {a : Addr → Prop} {h : Heap} {ds : List D} {v : Value} (V : Val a h (.tuple ds) v) : ∃ l vs, v = .ref l ∧ ¬ a l ∧ h.IsTuple l vs ∧ Vals a h ds vs.toList ∧ ∃ n, h.get? l = some { cls := .type "tuple", data := .seq vs n } := by
  simp only [Val] at V
  obtain ⟨l, vs, n, rfl, na, g, V⟩ := V
  exact ⟨l, vs, rfl, na, ⟨_, g, rfl, n, rfl⟩, V, n, g⟩
theorem CallD_range1 {n : Int} : CallD c fr (.type "range") [.int n] (.range 0 n 1) := by
  intro σ O s vs F V Q E k
  obtain ⟨_, rfl, ⟨t, rfl⟩⟩ := V.one_
  exact call_range_1 (k _ _ (F.push _) (Kept.grow fun a o e => Heap.get?_push_of_some _ e) (by simp only [Val]; exact ⟨_, _, _, _, rfl, F.fresh_av, Heap.get?_push_size _ rfl⟩))
theorem CallD_range2 {a b : Int} : CallD c fr (.type "range") [.int a, .int b] (.range a b 1) := by
  intro σ O s vs F V Q E k
  obtain ⟨_, _, rfl, ⟨t, rfl⟩, ⟨u, rfl⟩⟩ := V.two_
  exact call_range_2 (k _ _ (F.push _) (Kept.grow fun a o e => Heap.get?_push_of_some _ e) (by simp only [Val]; exact ⟨_, _, _, _, rfl, F.fresh_av, Heap.get?_push_size _ rfl⟩))
theorem CallD_len_str {x : Str} (h : x.length ≤ 2 ^ 24) : CallD c fr (.builtin "len") [.str x] (.int x.length) := by
  intro σ O s vs F V Q E k
  obtain ⟨_, rfl, ⟨t, rfl⟩⟩ := V.one_
  exact P.len_str (by (first | lia | omega)) (k _ _ F.toks Kept.refl ⟨_, rfl⟩)
theorem CallD_len_list {ds : List D} (h : ds.length ≤ 2 ^ 24) : CallD c fr (.builtin "len") [.list ds] (.int ds.length) := by
  intro σ O s vs F V Q E k
  obtain ⟨_, rfl, W⟩ := V.one_
  obtain ⟨l, vs, rfl, na, _, hl, V⟩ := list_of W
  have e : vs.size = ds.length := by rw [← V.length]; simp
  refine call_len_list hl (by (first | lia | omega)) ?_
  rw [e]
  exact k _ _ F.toks Kept.refl ⟨_, rfl⟩
theorem CallD_len_tuple {ds : List D} (h : ds.length ≤ 2 ^ 24) : CallD c fr (.builtin "len") [.tuple ds] (.int ds.length) := by
  intro σ O s vs F V Q E k
  obtain ⟨_, rfl, W⟩ := V.one_
  obtain ⟨l, vs, rfl, na, hl, V, n, g⟩ := tuple_of W
  have e : vs.size = ds.length := by rw [← V.length]; simp
  refine len_tuple (show IsTup s.heap l vs from hl) (by (first | lia | omega)) ?_
  rw [e]
  exact k _ _ F.toks Kept.refl ⟨_, rfl⟩
theorem CallD_sum {ns : List Int} : CallD c fr (.builtin "sum") [.list (zs ns)] (.int ns.sum) := by
  intro σ O s vs F V Q E k
  obtain ⟨_, rfl, W⟩ := V.one_
  obtain ⟨l, vs, rfl, na, _, hl, V⟩ := list_of W
  obtain ⟨m, Fm, N, ad⟩ := F.adapt
  have hl' : s.heap.IsList l vs.toList.toArray := by simpa using hl
  refine sumK F.hand Fm N hl' (IntsAre_of V) fun h' tk t' F' N' => ?_
  obtain ⟨F2, K2, _⟩ := ad h' tk F' N'
  exact k _ _ F2 K2 ⟨_, rfl⟩
theorem CallD_max2 {a b : Int} : CallD c fr (.builtin "max") [.int a, .int b] (.int (if b > a then b else a)) := by
  intro σ O s vs F V Q E k
  obtain ⟨_, _, rfl, ⟨t, rfl⟩, ⟨u, rfl⟩⟩ := V.two_
  refine max_two_ints F.hand fun h' tk hk => ?_
  by_cases q : b > a
  · rw [if_pos q]
    refine k _ _ (F.grow hk rfl rfl) (Kept.grow hk) ?_
    rw [if_pos q]; exact ⟨_, rfl⟩
  · rw [if_neg q]
    refine k _ _ (F.grow hk rfl rfl) (Kept.grow hk) ?_
    rw [if_neg q]; exact ⟨_, rfl⟩
theorem CallD_divmod {a b : Int} (hb : b ≠ 0) (hp : Builtin.divisionGoesByPylong a b = false) : CallD c fr (.builtin "divmod") [.int a, .int b] (.tuple [.int (a.fdiv b), .int (a.fmod b)]) := by
  intro σ O s vs F V Q E k
  obtain ⟨_, _, rfl, ⟨t, rfl⟩, ⟨u, rfl⟩⟩ := V.two_
  refine divmod_int hb ?_ (.inl hp)
  exact k _ _ (F.push _) (Kept.grow fun a o e => Heap.get?_push_of_some _ e) (Val_newTuple (Heap.get?_push_size _ rfl) F.fresh_av (Vals.cons ⟨_, rfl⟩ (Vals.one ⟨_, rfl⟩)))
theorem CallD_list_seq {t : Bool} {ds : List D} (h : ds.length ≤ 2 ^ 24) : CallD c fr (.type "list") [if t then .tuple ds else .list ds] (.list ds) := by
  intro σ O s vs F V Q E k
  obtain ⟨v, rfl, W⟩ := V.one_
  obtain ⟨l, vs, T, n, rfl, hT, g, V⟩ : ∃ l vs T n, v = .ref l ∧ (T = "list" ∨ T = "tuple") ∧ s.heap.get? l = some { cls := .type T, data := .seq vs n } ∧ Vals (av fr O) s.heap ds vs.toList := by
    cases t with
    | true =>
      obtain ⟨l, vs, rfl, na, hl, V, n, g⟩ := tuple_of (show Val _ _ (.tuple ds) _ from W)
      exact ⟨l, vs, "tuple", n, rfl, .inr rfl, g, V⟩
    | false =>
      obtain ⟨l, vs, rfl, na, ⟨n, g⟩, hl, V⟩ := list_of (show Val _ _ (.list ds) _ from W)
      exact ⟨l, vs, "list", n, rfl, .inl rfl, g, V⟩
  have e : vs.size = ds.length := by rw [← V.length]; simp
  refine call_list_seq (hsz := by rw [e]; exact h) l hT g rfl rfl fun h' c' hk hD => ?_
  have F' : FS c fr σ O { s with heap := h' } := F.grow hk rfl rfl
  exact k _ _ F' (Kept.grow hk) (Val_newList hD F.fresh_av (Vals.mono (fun a o na e => ⟨hk _ _ e, na⟩) _ _ V))
theorem CallD_list_list {ds : List D} (h : ds.length ≤ 2 ^ 24) : CallD c fr (.type "list") [.list ds] (.list ds) := CallD_list_seq (t := false) h
theorem CallD_list_tuple {ds : List D} (h : ds.length ≤ 2 ^ 24) : CallD c fr (.type "list") [.tuple ds] (.list ds) := CallD_list_seq (t := true) h
theorem CallD_tuple_list {ds : List D} (h : ds.length ≤ 2 ^ 24) : CallD c fr (.type "tuple") [.list ds] (.tuple ds) := by
  intro σ O s vs F V Q E k
  obtain ⟨_, rfl, W⟩ := V.one_
  obtain ⟨l, vs, rfl, na, _, hl, V⟩ := list_of W
  have e : vs.size = ds.length := by rw [← V.length]; simp
  refine call_tuple_list hl (fun h' hk => ?_) (by rw [e]; exact h)
  have F' : FS c fr σ O { s with heap := h' } := F.grow hk rfl rfl
  have up : ∀ a o, s.heap.get? a = some o → (h'.push { cls := .type "tuple", data := .seq vs }).get? a = some o := fun a o e => Heap.get?_push_of_some _ (hk _ _ e)
  exact k _ _ (F'.push _ (tk := s.toks)) (Kept.grow up) (Val_newTuple (Heap.get?_push_size _ rfl) F'.fresh_av (Vals.mono (fun a o na e => ⟨up _ _ e, na⟩) _ _ V))
def rng (a c : Int) (n : Nat) : List D := (List.range n).map fun i : Nat => .int (a + (i : Int) * c)
theorem CallD_list_range {a b st : Int} {n : Nat} (hs : Builtin.Range.small a b st = true) (hn : Builtin.Range.rangeSize a b st = n) (h : n ≤ 2 ^ 24) : CallD c fr (.type "list") [.range a b st] (.list (rng a st n)) := by
  intro σ O s vs F V Q E k
  obtain ⟨_, rfl, W⟩ := V.one_
  simp only [Val] at W
  obtain ⟨r, t, u, w, rfl, na, hr⟩ := W
  refine call_list_range F.hand hr hs hn h fun h' tk acc' c' hk hD hi => ?_
  have F' : FS c fr σ O { s with heap := h', toks := tk } := F.grow hk rfl rfl
  refine k _ _ F' (Kept.grow hk) (Val_newList hD F.fresh_av ?_)
  refine Vals.of_get ?_ fun i d v e1 e2 => ?_
  · rw [Array.length_toList, hi.1]; simp [rng]
  · simp only [rng, List.getElem?_map] at e1
    have hlt : i < n := by
      cases q : (List.range n)[i]? with
      | none => rw [q] at e1; cases e1
      | some j => have := List.getElem?_eq_some_iff.mp q; simpa using this.1
    rw [List.getElem?_range hlt] at e1
    cases e1
    obtain ⟨t', rfl⟩ := hi.2 i v (by simpa using e2)
    simp only [Val]; exact ⟨t', rfl⟩
end
end Mine
end
section
open PySem PySem.W PyProof.Rows PySem.Calls PyProof.V PySem.Spec
namespace Mine
section
variable {c : Cx} {fr : FX} {σ σ' : Store} {O O' : Owns} {s s' : Shared} {a : Addr} {ds ds' : List D}
theorem av_cons {b : Addr} : av fr ((a, ds) :: O) b ↔ b = a ∨ av fr O b := by
  constructor
  · rintro (k | k | k)
    · exact .inr (.inl k)
    · exact .inr (.inr (.inl k))
    · rcases List.mem_cons.mp k with k | k
      · exact .inl k
      · exact .inr (.inr (.inr k))
  · rintro (k | k | k | k)
    · exact .inr (.inr (k ▸ List.mem_cons_self ..))
    · exact .inl k
    · exact .inr (.inl k)
    · exact .inr (.inr (List.mem_cons_of_mem _ k))
theorem FS.freeze (F : FS c fr σ ((a, ds) :: O) s) (hs : ∀ p ∈ σ', p ∈ σ ∨ (p.2 = .list ds ∧ (p.1, D.raw (.ref a)) ∈ σ)) : FS c fr σ' O s := by
  have sh : ∀ b o, ¬ av fr ((a, ds) :: O) b → s.heap.get? b = some o → s.heap.get? b = some o ∧ ¬ av fr O b := fun b o na e => ⟨e, fun k => na (av_cons.mpr (.inr k))⟩
  have na : ¬ av fr O a := by
    rintro (k | k | k)
    · exact F.oout a (List.mem_cons_self ..) k
    · exact F.odis a (List.mem_cons_self ..) k
    · exact (List.nodup_cons.mp F.nodup).1 k
  obtain ⟨vs, n, e, V⟩ := F.owns (a, ds) (List.mem_cons_self ..)
  have VA : Val (av fr O) s.heap (.list ds) (.ref a) := Val_newList e na (Vals.mono sh _ _ V)
  exact {
    wi := F.wi
    kind := F.kind
    glob := F.glob
    blt := F.blt
    hand := F.hand
    room := F.room
    own0 := F.own0
    o0 := fun b h => F.o0 b (List.mem_cons_of_mem _ h)
    tabown := F.tabown
    Lown := F.Lown
    Lns := F.Lns
    inj := F.inj
    calive := F.calive
    cfree := F.cfree
    mown := F.mown
    oo := F.oo
    out0 := F.out0
    outal := F.outal
    oout := fun b h => F.oout b (List.mem_cons_of_mem _ h)
    ownal := F.ownal
    vars := fun p hp => by
      rcases hs p hp with h | ⟨h1, h2⟩
      · exact (F.vars p h).mono (fun _ x => x) (fun _ _ _ _ x => x) (fun v x => Val.mono sh _ _ x)
      · refine (F.vars _ h2).mono (fun _ x => x) (fun _ _ _ _ x => x) (fun v x => ?_)
        simp only [Val] at x
        rw [h1, x]; exact VA
    owns := fun q hq => let ⟨vs, n, e, w⟩ := F.owns q (List.mem_cons_of_mem _ hq); ⟨vs, n, e, Vals.mono sh _ _ w⟩
    nodup := (List.nodup_cons.mp F.nodup).2
    odis := fun b h => F.odis b (List.mem_cons_of_mem _ h) }
theorem Kept.freeze (K : Kept fr O s O' s') : Kept fr ((a, ds) :: O) s O' s' := fun b o h1 h2 e => K b o h1 (fun m => h2 (List.mem_cons_of_mem _ m)) e
theorem Ex_freeze {ss : List Stmt} {P : Post} (h : Ex c fr σ' O ss P) (hs : ∀ p ∈ σ', p ∈ σ ∨ (p.2 = .list ds ∧ (p.1, D.raw (.ref a)) ∈ σ)) : Ex c fr σ ((a, ds) :: O) ss P :=
  fun s F Q E k => h s (F.freeze hs) Q E fun f o σ₁ O₁ s₁ F₁ K₁ V₁ p => k f o σ₁ O₁ s₁ F₁ K₁.freeze V₁ p
def EvN (c : Cx) (fr : FX) (σ : Store) (O : Owns) (e : Expr) (ds : List D) : Prop :=
  ∀ s, FS c fr σ O s → ∀ (Q E : Value → Shared → Prop), (∀ a s', FS c fr σ ((a, ds) :: O) s' → Kept fr O s ((a, ds) :: O) s' → Q (.ref a) s') → wpAny c.M fr.A (eval e fr.env) Q E s
theorem FS.own (F : FS c fr σ O s) (up : ∀ b o, s.heap.get? b = some o → s'.heap.get? b = some o) (hg : s'.gens = s.gens) (ho : s'.os = s.os) (dead : s.heap.get? a = none)
    {vs : Array Value} {n : Nat} (e : s'.heap.get? a = some { cls := .type "list", data := .seq vs n }) (V : Vals (av fr O) s.heap ds vs.toList) : FS c fr σ ((a, ds) :: O) s' ∧ Kept fr O s ((a, ds) :: O) s' := by
  have G := F.grow up hg ho
  have mm : ∀ b o, ¬ av fr O b → s.heap.get? b = some o → s'.heap.get? b = some o ∧ ¬ av fr ((a, ds) :: O) b := fun b o na e1 => ⟨up _ _ e1, fun k => by
    rcases av_cons.mp k with k | k
    · rw [k, dead] at e1; cases e1
    · exact na k⟩
  have na := F.new_av dead
  refine ⟨{
    wi := G.wi
    kind := F.kind
    glob := F.glob
    blt := F.blt
    hand := F.hand
    room := F.room
    own0 := F.own0
    o0 := fun b h => by
      rcases List.mem_cons.mp h with h | h
      · rw [h]; exact F.hwfresh dead
      · exact F.o0 b h
    tabown := F.tabown
    Lown := F.Lown
    Lns := G.Lns
    inj := F.inj
    calive := G.calive
    cfree := F.cfree
    mown := F.mown
    oo := F.oo
    out0 := F.out0
    outal := G.outal
    oout := fun b h k => by
      rcases List.mem_cons.mp h with h | h
      · exact na (.inl ((show b = a from h) ▸ k))
      · exact F.oout b h k
    ownal := G.ownal
    vars := fun p hp => (F.vars p hp).mono (fun m h => h.keeps up) (fun _ _ _ _ ⟨o, a, b⟩ => ⟨o, up _ _ a, b⟩) (fun v h => Val.mono mm _ _ h)
    owns := fun q hq => by
      rcases List.mem_cons.mp hq with h | h
      · rw [h]; exact ⟨vs, n, e, Vals.mono mm _ _ V⟩
      · obtain ⟨ws, k, e1, w⟩ := F.owns q h; exact ⟨ws, k, up _ _ e1, Vals.mono mm _ _ w⟩
    nodup := List.nodup_cons.mpr ⟨fun h => na (.inr (.inr h)), F.nodup⟩
    odis := fun b h k => by
      rcases List.mem_cons.mp h with h | h
      · exact na (.inr (.inl ((show b = a from h) ▸ k)))
      · exact F.odis b h k }, fun b o h1 h2 e1 => ⟨up _ _ e1, fun h => by
      rcases List.mem_cons.mp h with h | h
      · rw [h, dead] at e1; cases e1
      · exact h2 h⟩⟩
theorem EvN.ev {e : Expr} (h : EvN c fr σ O e ds) : Ev c fr σ O e (.list ds) := by
  intro s F Q E k
  refine h s F _ _ fun a s' F' K' => ?_
  have na : ¬ av fr O a := by
    rintro (k | k | k)
    · exact F'.oout a (List.mem_cons_self ..) k
    · exact F'.odis a (List.mem_cons_self ..) k
    · exact (List.nodup_cons.mp F'.nodup).1 k
  obtain ⟨vs, n, e, V⟩ := F'.owns (a, ds) (List.mem_cons_self ..)
  refine k _ s' (F'.freeze fun p hp => .inl hp) (fun b o h1 h2 e => ⟨(K' b o h1 h2 e).1, fun m => (K' b o h1 h2 e).2 (List.mem_cons_of_mem _ m)⟩) ?_
  exact Val_newList e na (Vals.mono (fun b o na e => ⟨e, fun k => na (av_cons.mpr (.inr k))⟩) _ _ V)
theorem EvN_list {es : List Expr} {pos : Pos} (h : EvL c fr σ O es ds) (hs : noStar es = true := by rfl) (hz : decide (es.length ≤ 1000) = true := by rfl) : EvN c fr σ O (.List es pos) ds := by
  intro s F Q E k
  refine wpAny_List_spliced (h.run hs pos s F _ _ fun vs s₁ F₁ K₁ V₁ => ⟨?_, ?_⟩)
  · have h2 := of_decide_eq_true hz
    rw [V₁.length, h.length]; show es.length ≤ 2 ^ 24; (first | lia | omega)
  · obtain ⟨F₂, K₂⟩ := F₁.own (s' := { s₁ with heap := s₁.heap.push { cls := .type "list", data := .seq vs.toArray } }) (fun b o e => Heap.get?_push_of_some _ e) rfl rfl F₁.fresh (Heap.get?_push_size _ rfl) (ds := ds) (by simpa using V₁)
    exact k _ _ F₂ (K₁.trans K₂)
theorem Ex1_assignN {x : Str} {p pos : Pos} {e : Expr} {P : Post} (h : EvN c fr σ O e ds) (hx : Storable fr x) (hd : Drop x σ σ') (k : ∀ a, P .next ((x, .raw (.ref a)) :: σ') ((a, ds) :: O))
    (hw : swapsWith e (some (.Name x p)) pos.line fr.env = pure false := by rfl) : Ex1 c fr σ O (.Assign [.Name x p] e pos) P := by
  intro s F Q E kk
  refine wpAny_Assign_Name (h s F _ _ fun a s₁ F₁ K₁ => store_ (d := .raw (.ref a)) F₁ (by simp only [Val]) hx hd fun s₂ F₂ K₂ => ?_) hw
  exact kk .next .next _ _ s₂ F₂ (K₁.trans K₂) rfl (k a)
theorem FS.setown {h' : Heap} {tk : Nat} (F : FS c fr σ ((a, ds) :: O) s) (hs : Heap.SameBut a s.heap h') {vs : Array Value} {n : Nat} (e : h'.get? a = some { cls := .type "list", data := .seq vs n })
    (V : Vals (av fr ((a, ds) :: O)) s.heap ds' vs.toList) : FS c fr σ ((a, ds') :: O) { s with heap := h', toks := tk } ∧ Kept fr ((a, ds) :: O) s ((a, ds') :: O) { s with heap := h', toks := tk } := by
  obtain ⟨ws, m, e0, V0⟩ := F.owns (a, ds) (List.mem_cons_self ..)
  have aeq : ∀ b, av fr ((a, ds') :: O) b ↔ av fr ((a, ds) :: O) b := fun b => av_cons.trans av_cons.symm
  have mm : ∀ b o, ¬ av fr ((a, ds) :: O) b → s.heap.get? b = some o → h'.get? b = some o ∧ ¬ av fr ((a, ds') :: O) b := fun b o na e1 => ⟨(hs.2 b (fun q => na (av_cons.mpr (.inl q)))).trans e1, fun k => na ((aeq b).mp k)⟩
  have ao : a ∉ fr.own := F.odis a (List.mem_cons_self ..)
  have La : fr.env.locals ≠ a := fun q => ao (q ▸ F.Lown)
  have ca : ∀ {b v}, s.heap.IsCell b v → b ≠ a := fun ⟨o, e1, e2⟩ q => by rw [q, e0] at e1; cases e1; cases e2
  refine ⟨{
    wi := ⟨fun b o e1 => (hs.2 b (fun q => by have := F.o0 a (List.mem_cons_self ..); rw [q, this] at e1; cases e1)).trans (F.wi.keep b o e1), F.tabs_keep (fun b o na e1 => (mm b o na e1).1) (fun q hq ps e1 => (hs.2 _ (fun k => ao (k ▸ F.tabown q hq))).trans e1), F.wi.gens, F.wi.os⟩
    kind := F.kind
    glob := F.glob
    blt := F.blt
    hand := F.hand
    room := F.room
    own0 := F.own0
    o0 := F.o0
    tabown := F.tabown
    Lown := F.Lown
    Lns := let ⟨m, h⟩ := F.Lns; ⟨m, h.sameBut hs La⟩
    inj := F.inj
    calive := fun x b e1 => let ⟨v, o, r1, r2⟩ := F.calive x b e1; ⟨v, o, (hs.2 b (ca ⟨o, r1, r2⟩)).trans r1, r2⟩
    cfree := F.cfree
    mown := F.mown
    oo := F.oo
    out0 := F.out0
    outal := fun b h => let ⟨o, e1, nc⟩ := F.outal b h; ⟨o, (hs.2 b (fun q => F.oout a (List.mem_cons_self ..) (q ▸ h))).trans e1, nc⟩
    oout := F.oout
    ownal := fun b h => let ⟨o, e1, nc⟩ := F.ownal b h; ⟨o, (hs.2 b (fun q => ao (q ▸ h))).trans e1, nc⟩
    vars := fun p hp => (F.vars p hp).mono (fun m h => h.sameBut hs La) (fun _ b v _ h => let ⟨o, r1, r2⟩ := id h; ⟨o, (hs.2 b (ca h)).trans r1, r2⟩) (fun v h => Val.mono mm _ _ h)
    owns := fun q hq => by
      rcases List.mem_cons.mp hq with h | h
      · rw [h]; exact ⟨vs, n, e, Vals.mono mm _ _ V⟩
      · obtain ⟨us, k, e1, w⟩ := F.owns q (List.mem_cons_of_mem _ h)
        exact ⟨us, k, (hs.2 _ (fun k => (List.nodup_cons.mp F.nodup).1 (by rw [← show q.1 = a from k]; exact List.mem_map_of_mem (f := fun x => x.1) h))).trans e1, Vals.mono mm _ _ w⟩
    nodup := F.nodup
    odis := F.odis }, fun b o h1 h2 e1 => ⟨(hs.2 b (fun q => h2 (q ▸ List.mem_cons_self ..))).trans e1, h2⟩⟩
theorem Ev_lenO {np ap pos : Pos} {x f : Str} (hf : Ev c fr σ O (.Name f np) (.raw (.builtin "len"))) (hx : Ev c fr σ O (.Name x ap) (.raw (.ref a))) (ha : (a, ds) ∈ O) (hz : ds.length ≤ 2 ^ 24) :
    Ev c fr σ O (.Call (.Name f np) [.Name x ap] [] pos) (.int ds.length) := by
  intro s F Q E k
  refine wpAny_Call_ofName (hf s F _ _ fun v s₁ F₁ K₁ V₁ => ?_)
  simp only [Val] at V₁; subst V₁
  refine callWith_ Keep_builtin (EvL.cons hx .nil) rfl F₁ fun vs s₂ F₂ K₂ V₂ => ?_
  obtain ⟨v, rfl, W⟩ := V₂.one_
  simp only [Val] at W; subst W
  obtain ⟨vs, n, e, V⟩ := F₂.owns _ ha
  have e1 : vs.size = ds.length := by rw [← V.length]; simp
  refine call_len_list ⟨_, e, rfl, n, rfl⟩ (by (first | lia | omega)) ?_
  rw [e1]
  exact k _ _ F₂.toks ((K₁.trans K₂).heap rfl) ⟨_, rfl⟩
def MethO (c : Cx) (fr : FX) (O : Owns) (a : Addr) (ds : List D) (id : String) (args : List D) (ds' : List D) : Prop :=
  ∀ (σ : Store) s vs, FS c fr σ ((a, ds) :: O) s → Vals (av fr ((a, ds) :: O)) s.heap args vs → ∀ (Q E : Value → Shared → Prop), (∀ v s', FS c fr σ ((a, ds') :: O) s' → Kept fr ((a, ds) :: O) s ((a, ds') :: O) s' → Q v s') → wpAny c.M fr.A (call (.builtin id) (.ref a :: vs)) Q E s
theorem Ex1_methO {x name : Str} {xp apos pos ep : Pos} {es : List Expr} {id : String} {args : List D} {P : Post} (hx : Ev c fr σ ((a, ds) :: O) (.Name x xp) (.raw (.ref a))) (h : EvL c fr σ ((a, ds) :: O) es args) (hm : MethO c fr O a ds id args ds')
    (hslot : Slot "list" name id) (hty : typeOf (Value.builtin id) = pure (Value.type "method_descriptor")) (k : P .next σ ((a, ds') :: O))
    (hi : interactive fr.env = false) (hs : noStar es = true := by rfl) (hb : attributeBase (.Name x xp) name fr.env (eval (.Name x xp) fr.env) = eval (.Name x xp) fr.env := by rfl) (hl : decide (es.length < 29) = true := by rfl) (hp : (apos.endLine == pos.line) = true := by rfl)
    (hw : swapsWith (.Call (.Attribute (.Name x xp) name apos) es [] pos) none ep.line fr.env = pure false := by rfl) :
    Ex1 c fr σ ((a, ds) :: O) (.Expr (.Call (.Attribute (.Name x xp) name apos) es [] pos) ep) P := by
  intro s F Q E kk
  refine wpAny_Expr_any (wpAny_Call_method hb ?_ hp PySem.F.plainAttrs_list hslot hty (hx s F _ _ fun v s₁ F₁ K₁ V₁ => ?_)) hi hw
  · rw [starEach_plain hs]
    have : es.length < 29 := of_decide_eq_true hl
    simp [backTo, backToKw, keywordEach]; (first | lia | omega)
  · simp only [Val] at V₁; subst V₁
    obtain ⟨vs, n, e, V⟩ := F₁.owns _ (List.mem_cons_self ..)
    refine ⟨⟨_, e, rfl⟩, fun b hb => by cases hb; exact ⟨_, e, rfl⟩, ?_⟩
    exact callWith_ Keep_builtin h hs F₁ fun vs s₂ F₂ K₂ V₂ => hm σ s₂ vs F₂ V₂ _ _ fun r s₃ F₃ K₃ => kk .next .next _ _ s₃ F₃ ((K₁.trans K₂).trans K₃) rfl k
theorem MethO_append {d : D} (hz : ds.length ≤ 2 ^ 24) : MethO c fr O a ds "list.append" [d] (ds ++ [d]) := by
  intro σ s vs F V Q E k
  obtain ⟨v, rfl, W⟩ := V.one_
  obtain ⟨ws, n, e, U⟩ := F.owns _ (List.mem_cons_self ..)
  have e1 : ws.size = ds.length := by rw [← U.length]; simp
  refine wpAny_list_append_plain (hsz := by rw [e1]; exact hz) ⟨n, e⟩ fun h' ⟨m, hl⟩ hs => ?_
  obtain ⟨F', K'⟩ := F.setown (ds' := ds ++ [d]) (tk := s.toks) hs hl (by simpa using U.append (Vals.one W))
  exact k _ _ F' K'
end
end Mine
end
section
open PySem PySem.W PyProof.Rows PySem.Calls PyProof.V PySem.Spec
namespace Mine
def clOf (cells : List (Str × Addr)) : List (Str × NameKind) → List (Str × Addr) → List (Str × Addr)
  | [], acc => acc
  | (x, k) :: r, acc => if k == .free then (match cells.lookup x with | some a => clOf cells r ((x, a) :: acc) | none => clOf cells r acc) else clOf cells r acc
theorem closureFor_eq {scope : Scope} {env : Env} (h : ∀ p ∈ scope.names, p.2 = .free → ∃ a, env.cells.lookup p.1 = some a) : closureFor scope env = pure (clOf env.cells scope.names []) := by
  unfold closureFor
  have go : ∀ (names : List (Str × NameKind)) (acc : List (Str × Addr)), (∀ p ∈ names, p.2 = .free → ∃ a, env.cells.lookup p.1 = some a) →
      (forIn names acc (fun (x : Str × NameKind) (cs : List (Str × Addr)) => (match x with
        | (name, kind) => if (kind == NameKind.free) = true then (do let a ← cellOf env name; pure (ForInStep.yield ((name, a) :: cs))) else pure (ForInStep.yield cs) : Sem (ForInStep (List (Str × Addr))))) : Sem (List (Str × Addr))) = pure (clOf env.cells names acc) := by
    intro names
    induction names with
    | nil => intro acc _; simp only [List.forIn_nil]; rfl
    | cons p r ih =>
      intro acc h
      obtain ⟨x, k⟩ := p
      simp only [List.forIn_cons]
      have hr : ∀ p ∈ r, p.2 = .free → ∃ a, env.cells.lookup p.1 = some a := fun p hp => h p (List.mem_cons_of_mem _ hp)
      cases hk : (k == NameKind.free) with
      | true =>
        obtain ⟨a, ha⟩ := h (x, k) (List.mem_cons_self ..) (eq_of_beq hk)
        simp only [if_true, clOf, hk, cellOf]
        rw [show List.lookup x env.cells = some a from ha]
        exact ih _ hr
      | false =>
        simp only [Bool.false_eq_true, if_false, clOf, hk]
        exact ih _ hr
  have := go scope.names [] h
  simp only at this ⊢
  first
    | (rw [this]; rfl)
    | (show (forIn scope.names [] _ >>= fun r => pure r) = _; rw [this]; rfl)
theorem clOf_mem {cells : List (Str × Addr)} {x : Str} {a : Addr} : ∀ (names : List (Str × NameKind)) (acc : List (Str × Addr)), (x, a) ∈ clOf cells names acc → (x, a) ∈ acc ∨ ((x, NameKind.free) ∈ names ∧ cells.lookup x = some a)
  | [], acc, h => .inl h
  | (y, k) :: r, acc, h => by
    unfold clOf at h
    split at h
    · rename_i hk
      split at h
      · rename_i b hb
        rcases clOf_mem r _ h with q | ⟨q1, q2⟩
        · rcases List.mem_cons.mp q with q | q
          · cases q; exact .inr ⟨by rw [eq_of_beq hk]; exact List.mem_cons_self .., hb⟩
          · exact .inl q
        · exact .inr ⟨List.mem_cons_of_mem _ q1, q2⟩
      · rcases clOf_mem r _ h with q | ⟨q1, q2⟩
        · exact .inl q
        · exact .inr ⟨List.mem_cons_of_mem _ q1, q2⟩
    · rcases clOf_mem r _ h with q | ⟨q1, q2⟩
      · exact .inl q
      · exact .inr ⟨List.mem_cons_of_mem _ q1, q2⟩
theorem lookup_cons_self {α : Type} {x : Str} {a : α} {l : List (Str × α)} : ((x, a) :: l).lookup x = some a := by simp [List.lookup]
theorem clOf_lookup {cells : List (Str × Addr)} {x : Str} {a : Addr} (hc : cells.lookup x = some a) : ∀ (names : List (Str × NameKind)) (acc : List (Str × Addr)), ((x, NameKind.free) ∈ names ∨ acc.lookup x = some a) → (∀ b, acc.lookup x = some b → b = a) → (clOf cells names acc).lookup x = some a
  | [], acc, h, _ => h.elim (fun q => by cases q) id
  | (y, k) :: r, acc, h, hu => by
    unfold clOf
    by_cases hy : y = x
    · subst hy
      split
      · rw [hc]
        refine clOf_lookup hc r _ (.inr lookup_cons_self) (fun b hb => by rw [lookup_cons_self] at hb; cases hb; rfl)
      · rename_i hk
        refine clOf_lookup hc r _ ?_ hu
        rcases h with h | h
        · rcases List.mem_cons.mp h with q | q
          · cases q; exact absurd rfl hk
          · exact .inl q
        · exact .inr h
    · have hne : ∀ (b : Addr) (l : List (Str × Addr)), ((y, b) :: l).lookup x = l.lookup x := fun b l => by
        have : (x == y) = false := by simpa using fun q => hy q.symm
        simp [List.lookup, this]
      have h' : (x, NameKind.free) ∈ r ∨ acc.lookup x = some a := by
        rcases h with h | h
        · rcases List.mem_cons.mp h with q | q
          · cases q; exact absurd rfl hy
          · exact .inl q
        · exact .inr h
      split
      · split
        · rename_i b _
          exact clOf_lookup hc r _ (h'.imp id fun q => by rw [hne]; exact q) (fun b' hb => hu b' (by rw [hne] at hb; exact hb))
        · exact clOf_lookup hc r _ h' hu
      · exact clOf_lookup hc r _ h' hu
theorem cellsFrom_app : ∀ (names : List (Str × NameKind)) (n : Nat) (acc : List (Str × Addr)), cellsFrom n names acc = cellsFrom n names [] ++ acc
  | [], n, acc => rfl
  | (x, k) :: r, n, acc => by
    unfold cellsFrom
    split
    · rw [cellsFrom_app r (n + 1) ((x, n) :: acc), cellsFrom_app r (n + 1) [(x, n)]]; simp
    · exact cellsFrom_app r n acc
theorem cellsFrom_cell {x : Str} {a : Addr} : ∀ (names : List (Str × NameKind)) (n : Nat) (acc : List (Str × Addr)), (x, a) ∈ cellsFrom n names acc → (x, a) ∈ acc ∨ (x, NameKind.cell) ∈ names
  | [], n, acc, h => .inl h
  | (y, k) :: r, n, acc, h => by
    unfold cellsFrom at h
    split at h
    · rename_i hk
      rcases cellsFrom_cell r _ _ h with q | q
      · rcases List.mem_cons.mp q with q | q
        · cases q; exact .inr (by rw [eq_of_beq hk]; exact List.mem_cons_self ..)
        · exact .inl q
      · exact .inr (List.mem_cons_of_mem _ q)
    · rcases cellsFrom_cell r _ _ h with q | q
      · exact .inl q
      · exact .inr (List.mem_cons_of_mem _ q)
theorem lookup_app {α : Type} {x : Str} : ∀ {l m : List (Str × α)}, (l ++ m).lookup x = (l.lookup x).or (m.lookup x)
  | [], m => by simp
  | (y, a) :: l, m => by
    simp only [List.cons_append, List.lookup]
    split
    · rfl
    · exact lookup_app
theorem names_uniq {names : List (Str × NameKind)} (hn : (names.map (·.1)).Nodup) {x : Str} {k k' : NameKind} (h1 : (x, k) ∈ names) (h2 : (x, k') ∈ names) : k = k' := by
  induction names with
  | nil => cases h1
  | cons p r ih =>
    obtain ⟨q1, q2⟩ := List.nodup_cons.mp hn
    rcases List.mem_cons.mp h1 with e1 | h1 <;> rcases List.mem_cons.mp h2 with e2 | h2
    · rw [← e1] at e2; cases e2; rfl
    · rw [← e1] at q1; exact absurd (List.mem_map_of_mem (f := fun p => p.1) h2) q1
    · rw [← e2] at q1; exact absurd (List.mem_map_of_mem (f := fun p => p.1) h1) q1
    · exact ih q2 h1 h2
theorem lookup_of_mem {names : List (Str × NameKind)} (hn : (names.map (·.1)).Nodup) {x : Str} {k : NameKind} (h : (x, k) ∈ names) : names.lookup x = some k := by
  cases e : names.lookup x with
  | none =>
    exfalso
    induction names with
    | nil => cases h
    | cons p r ih =>
      obtain ⟨y, j⟩ := p
      simp only [List.lookup] at e
      split at e
      · cases e
      · rename_i hne
        rcases List.mem_cons.mp h with q | q
        · cases q; simp at hne
        · exact ih (List.nodup_cons.mp hn).2 q e
  | some j => rw [names_uniq hn h (mem_of_lookup e)]
theorem newEnv_comp {M : Model} {A : Around} {E : Value → Shared → Prop} {s : Shared} {scope : Scope} {globals : Addr} {cl : List (Str × Addr)} {qual : Str} {outer : Env} {Q : Env → Shared → Prop}
    (h : Q (newEnv scope s.heap.objs.size globals (cellsFrom (s.heap.objs.size + 1) scope.names cl) qual none .none (some outer) builtinsNs)
      { s with heap := pushCells (s.heap.push { cls := .type "dict", data := .dict #[] }) scope.names }) : wpAny M A (newFunctionEnv scope globals cl [] qual none .none (some outer)) Q E s := by
  simp only [newFunctionEnv, Option.isSome_some, if_true]
  refine wpAny_bind (wpAny_alloc ?_)
  refine wpAny_bind (wpAny_layCells _ (fun name kind cells => by cases hkc : kind == NameKind.cell <;> simp [hkc]) _ _ _ _ ?_)
  rw [show ({ s with heap := s.heap.push { cls := .type "dict", data := .dict #[] } } : Shared).heap.objs.size = s.heap.objs.size + 1 from Heap.size_push ..]
  rw [List.forIn_nil]
  exact wpAny_bind (wpAny_pure (wpAny_pure h))
def compEnvM (env : Env) (scope : Scope) (L : Addr) (cs : List (Str × Addr)) : Env :=
  { newEnv scope L env.globals cs env.qual none .none (some env) builtinsNs with scope := relabel scope env }
def compFr (fr : FX) (scope : Scope) (L : Addr) (cs : List (Str × Addr)) (out : Addr → Prop) (own : List Addr) : FX :=
  ⟨compEnvM fr.env scope L cs, fr.A, out, own, fun x => scope.names.lookup x == some .cell⟩
theorem relabel_kind {scope : Scope} {env : Env} {x : Str} (hn : (scope.names.map (·.1)).Nodup) : (relabel scope env).names.lookup x =
    (scope.names.lookup x).map fun k => if (k == .free && env.scope.kind == .function && env.kindOf x == some .cell) = true then .cell else k := by
  unfold relabel
  simp only
  have go : ∀ names : List (Str × NameKind), List.lookup x (List.map (fun y : Str × NameKind => match y with
      | (n, k) => if (k == NameKind.free && env.scope.kind == ScopeKind.function && env.kindOf n == some NameKind.cell) = true then (n, NameKind.cell) else (n, k)) names) =
      (names.lookup x).map fun k => if (k == .free && env.scope.kind == .function && env.kindOf x == some .cell) = true then .cell else k := by
    intro names
    induction names with
    | nil => rfl
    | cons p r ih =>
      obtain ⟨y, k⟩ := p
      simp only [List.map_cons]
      by_cases hy : x = y
      · subst hy
        by_cases hc : (k == NameKind.free && env.scope.kind == ScopeKind.function && env.kindOf x == some NameKind.cell) = true
        · rw [if_pos hc]; simp only [List.lookup, beq_self_eq_true, Option.map_some]; rw [if_pos hc]
        · rw [if_neg hc]; simp only [List.lookup, beq_self_eq_true]; simp only [Option.map_some]; rw [if_neg hc]
      · have hb : (x == y) = false := by simpa using hy
        by_cases hc : (k == NameKind.free && env.scope.kind == ScopeKind.function && env.kindOf y == some NameKind.cell) = true
        · rw [if_pos hc]; simp only [List.lookup, hb]; exact ih
        · rw [if_neg hc]; simp only [List.lookup, hb]; exact ih
  exact go scope.names
section
variable {c : Cx} {fr : FX} {σ σ' : Store} {O O' : Owns} {s s' : Shared}
theorem comp_frame {scope : Scope} {σc : Store} {acc : Addr} {s₁ s₂ : Shared} {wr : List Addr} (F : FS c fr σ O s) (hn : (scope.names.map (·.1)).Nodup) (hk : scope.kind = .function)
    (hfree : ∀ p ∈ scope.names, p.2 = .free → fr.env.kindOf p.1 = some .cell ∨ fr.env.kindOf p.1 = some .free)
    (hσ : ∀ p ∈ σc, p ∈ σ ∧ (p.1, NameKind.free) ∈ scope.names) (hwr : ∀ b ∈ wr, s.heap.get? b = none ∧ (∃ o, s₁.heap.get? b = some o ∧ NoCode o) ∧ b ≠ acc)
    (hacc : s.heap.get? acc = none) {n : Nat} (eacc : s₁.heap.get? acc = some { cls := .type "list", data := .seq #[] n }) (up : ∀ b o, s.heap.get? b = some o → s₁.heap.get? b = some o) (hg : s₁.gens = s.gens) (ho : s₁.os = s.os)
    (e2 : s₂ = { s₁ with heap := pushCells (s₁.heap.push { cls := .type "dict", data := .dict #[] }) scope.names }) :
    ∃ out own, FS c ((compFr fr scope s₁.heap.objs.size (cellsFrom (s₁.heap.objs.size + 1) scope.names (clOf fr.env.cells scope.names [])) out own).push wr) σc [(acc, [])] s₂ ∧
      (∀ b, out b → av fr O b) ∧ (∀ b, av fr O b → out b ∨ b ∈ c.ta) ∧ (∀ b ∈ own, b ∈ c.ta ∨ s.heap.get? b = none) ∧ (∀ b ∈ c.ta, b ∈ own) ∧ (∀ b o, s₁.heap.get? b = some o → s₂.heap.get? b = some o) ∧ s₁.heap.objs.size ∈ own ∧ (∀ b ∈ own, b ∈ c.ta ∨ s₁.heap.get? b = none) := by
  have up12 : ∀ b o, s₁.heap.get? b = some o → s₂.heap.get? b = some o := fun b o e => by rw [e2]; exact pushCells_keeps _ _ b o (Heap.get?_push_of_some _ e)
  have up02 : ∀ b o, s.heap.get? b = some o → s₂.heap.get? b = some o := fun b o e => up12 b o (up b o e)
  have ok := cellsFrom_ok scope.names (s₁.heap.push { cls := .type "dict", data := .dict #[] }) (s₁.heap.objs.size + 1) [] ⟨fun _ _ hm => (nomatch hm), List.Pairwise.nil⟩ (by rw [Heap.size_push]; exact Nat.le_refl _)
  rw [Heap.size_push] at ok
  have e2h : s₂.heap = pushCells (s₁.heap.push { cls := .type "dict", data := .dict #[] }) scope.names := by rw [e2]
  rw [← e2h] at ok
  generalize hL : s₁.heap.objs.size = L at ok
  generalize hown : cellsFrom (L + 1) scope.names [] = owc at ok
  have dead1 : ∀ b, L ≤ b → s₁.heap.get? b = none := fun b hb => by
    cases e : s₁.heap.get? b with
    | none => rfl
    | some o => exact absurd (Heap.lt_size e) (Nat.not_lt.mpr (hL ▸ hb))
  have dead : ∀ b, L ≤ b → s.heap.get? b = none := fun b hb => by
    cases e : s.heap.get? b with
    | none => rfl
    | some o => have := up b o e; rw [dead1 b hb] at this; cases this
  have G : FS c fr σ O s₂ := F.grow up02 (by rw [e2]; exact hg) (by rw [e2]; exact ho)
  have cs_eq : cellsFrom (L + 1) scope.names (clOf fr.env.cells scope.names []) = owc ++ clOf fr.env.cells scope.names [] := by rw [cellsFrom_app, hown]
  have owge : ∀ {x a}, (x, a) ∈ owc → L + 1 ≤ a := fun h => (ok.empty _ _ h).2
  have owcell : ∀ {x a}, (x, a) ∈ owc → s₂.heap.IsCell a none := fun h => (ok.empty _ _ h).1
  have ownm : ∀ {x a}, (x, a) ∈ owc → (x, NameKind.cell) ∈ scope.names := fun h => by
    rw [← hown] at h
    rcases cellsFrom_cell _ _ _ h with q | q
    · cases q
    · exact q
  have clm : ∀ {x a}, (x, a) ∈ clOf fr.env.cells scope.names [] → (x, NameKind.free) ∈ scope.names ∧ fr.env.cells.lookup x = some a := fun h => by
    rcases clOf_mem _ _ h with q | q
    · cases q
    · exact q
  have onone : ∀ {x}, (x, NameKind.free) ∈ scope.names → owc.lookup x = none := fun {x} h => by
    cases e : owc.lookup x with
    | none => rfl
    | some a => cases names_uniq hn h (ownm (mem_of_lookup e))
  have look_free : ∀ {x a}, (x, NameKind.free) ∈ scope.names → fr.env.cells.lookup x = some a → (owc ++ clOf fr.env.cells scope.names []).lookup x = some a := fun {x a} h e => by
    rw [lookup_app, onone h]
    exact clOf_lookup e _ _ (.inl h) (fun b hb => by simp at hb)
  let out : Addr → Prop := fun b => av fr O b ∧ b ∉ c.ta
  let own : List Addr := L :: (cellsOf owc ++ c.ta)
  have nt : ∀ b, b ∈ c.ta → b ∈ fr.own := fun b m => by obtain ⟨q, hq, rfl⟩ := List.mem_map.mp m; exact F.tabown q hq
  have avout : ∀ b, av fr O b → out b ∨ b ∈ c.ta := fun b h => by
    by_cases m : b ∈ c.ta
    · exact .inr m
    · exact .inl ⟨h, m⟩
  have cellge : ∀ {b}, b ∈ cellsOf owc → L ≤ b := fun h => by
    obtain ⟨x, e⟩ := of_mem_cellsOf h
    have := owge (mem_of_lookup e); (first | lia | omega)
  have alive : ∀ b, av fr O b → ∃ o, s.heap.get? b = some o ∧ NoCode o := fun b h => by
    rcases h with q | q | q
    · exact F.outal b q
    · exact F.ownal b q
    · obtain ⟨p, hp, rfl⟩ := List.mem_map.mp q
      obtain ⟨vs, n, e, _⟩ := F.owns p hp
      exact ⟨_, e, .list⟩
  have ownd : ∀ b ∈ own, b ∈ c.ta ∨ s.heap.get? b = none := fun b h => by
    rcases List.mem_cons.mp h with rfl | h
    · exact .inr (dead _ (Nat.le_refl _))
    · rcases List.mem_append.mp h with h | h
      · exact .inr (dead _ (cellge h))
      · exact .inl h
  have ownd1 : ∀ b ∈ own, b ∈ c.ta ∨ s₁.heap.get? b = none := fun b h => by
    rcases List.mem_cons.mp h with rfl | h
    · exact .inr (dead1 _ (Nat.le_refl _))
    · rcases List.mem_append.mp h with h | h
      · exact .inr (dead1 _ (cellge h))
      · exact .inl h
  have accown : acc ∉ own := fun m => by
    rcases ownd1 _ m with h | h
    · obtain ⟨o, e, _⟩ := F.ownal _ (nt _ h); rw [hacc] at e; cases e
    · rw [eacc] at h; cases h
  have kindr : ∀ x, (relabel scope fr.env).names.lookup x = (scope.names.lookup x).map fun k => if (k == .free && fr.env.scope.kind == .function && fr.env.kindOf x == some .cell) = true then .cell else k := fun x => relabel_kind hn
  refine ⟨out, own, ?_, fun b h => h.1, avout, ownd, fun b h => List.mem_cons_of_mem _ (List.mem_append_right _ h), up12, List.mem_cons_self .., ownd1⟩
  rw [cs_eq]
  exact {
    wi := G.wi
    kind := hk
    glob := F.glob
    blt := F.blt
    hand := F.hand
    room := F.room
    own0 := fun b h => by
      rcases ownd b h with h | h
      · obtain ⟨q, hq, rfl⟩ := List.mem_map.mp h; exact c.tab0 q hq
      · exact F.hwfresh h
    o0 := fun b h => by
      simp only [addrs, List.map_cons, List.map_nil, List.mem_singleton] at h
      rw [h]; exact F.hwfresh hacc
    tabown := fun q hq => List.mem_cons_of_mem _ (List.mem_append_right _ (List.mem_map_of_mem hq))
    Lown := List.mem_cons_self ..
    Lns := by
      refine ⟨fun _ => none, ?_⟩
      show s₂.heap.Ns L _
      rw [e2h, ← hL]
      exact (Heap.Ns.new s₁.heap (.type "dict")).keeps (pushCells_keeps _ _)
    inj := fun x y a h1 h2 => by
      have m1 := mem_of_lookup h1
      have m2 := mem_of_lookup h2
      rcases List.mem_append.mp m1 with m1 | m1 <;> rcases List.mem_append.mp m2 with m2 | m2
      · exact name_of_addr ok.apart m1 m2
      · obtain ⟨v, o, e, _⟩ := F.calive _ _ (clm m2).2
        rw [dead a (by have := owge m1; (first | lia | omega))] at e; cases e
      · obtain ⟨v, o, e, _⟩ := F.calive _ _ (clm m1).2
        rw [dead a (by have := owge m2; (first | lia | omega))] at e; cases e
      · exact F.inj _ _ _ (clm m1).2 (clm m2).2
    calive := fun x a h => by
      rcases List.mem_append.mp (mem_of_lookup h) with m | m
      · exact ⟨_, owcell m⟩
      · exact G.calive _ _ (clm m).2
    cfree := fun x h => by
      have h' : (relabel scope fr.env).names.lookup x = some .cell ∨ (relabel scope fr.env).names.lookup x = some .free := h
      rw [kindr] at h'
      cases e : scope.names.lookup x with
      | none => rw [e] at h'; rcases h' with h' | h' <;> cases h'
      | some k =>
        rw [e] at h'
        cases k with
        | cell =>
          obtain ⟨a, ha⟩ := Option.isSome_iff_exists.mp (cellsFrom_some (x := x) scope.names (L + 1) [] (.inl e))
          rw [hown] at ha
          exact ⟨a, by show (owc ++ _).lookup x = _; rw [lookup_app, ha]; rfl⟩
        | free =>
          obtain ⟨a, ha⟩ := F.cfree x (hfree (x, .free) (mem_of_lookup e) rfl)
          exact ⟨a, look_free (mem_of_lookup e) ha⟩
        | _ => rcases h' with h' | h' <;> cases h'
    mown := fun x a hm _ ha => by
      have hm' : scope.names.lookup x = some .cell := by simpa [compFr, FX.push] using hm
      obtain ⟨b, hb⟩ := Option.isSome_iff_exists.mp (cellsFrom_some (x := x) scope.names (L + 1) [] (.inl hm'))
      rw [hown] at hb
      have : (owc ++ clOf fr.env.cells scope.names []).lookup x = some b := by rw [lookup_app, hb]; rfl
      have ha' : (owc ++ clOf fr.env.cells scope.names []).lookup x = some a := ha
      rw [this] at ha'; cases ha'
      exact List.mem_cons_of_mem _ (List.mem_append_left _ (mem_cellsOf hb))
    oo := fun b h m => by
      rcases h with h | h
      · rcases ownd1 b m with q | q
        · obtain ⟨o, e, _⟩ := F.ownal b (nt b q); rw [(hwr b h).1] at e; cases e
        · obtain ⟨o, e, _⟩ := (hwr b h).2.1; rw [q] at e; cases e
      · rcases ownd b m with q | q
        · exact h.2 q
        · obtain ⟨o, e, _⟩ := alive b h.1; rw [q] at e; cases e
    out0 := fun b h => by
      rcases h with h | h
      · exact F.hwfresh (hwr b h).1
      · exact h.1.elim (F.out0 b) fun k => k.elim (F.own0 b) (F.o0 b)
    outal := fun b h => by
      rcases h with h | h
      · obtain ⟨o, e, nc⟩ := (hwr b h).2.1; exact ⟨o, up12 _ _ e, nc⟩
      · obtain ⟨o, e, nc⟩ := alive b h.1; exact ⟨o, up02 _ _ e, nc⟩
    oout := fun b h k => by
      simp only [addrs, List.map_cons, List.map_nil, List.mem_singleton] at h
      rcases k with k | k
      · exact (hwr b k).2.2 h
      · obtain ⟨o, e, _⟩ := alive b k.1
        rw [h, hacc] at e; cases e
    ownal := fun b h => by
      rcases List.mem_cons.mp h with rfl | h
      · rw [e2h, ← hL]
        exact NoCode.ns ((Heap.Ns.new s₁.heap (.type "dict")).keeps (pushCells_keeps scope.names _))
      · rcases List.mem_append.mp h with h | h
        · obtain ⟨x, e⟩ := of_mem_cellsOf h
          exact NoCode.isCell (owcell (mem_of_lookup e))
        · exact G.ownal b (nt b h)
    vars := fun p hp => by
      obtain ⟨h1, h2⟩ := hσ p hp
      have y := F.vars p h1
      have mm : ∀ v, Val (av fr O) s.heap p.2 v → Val (av ((compFr fr scope L (owc ++ clOf fr.env.cells scope.names []) out own).push wr) [(acc, [])]) s₂.heap p.2 v := fun v => Val.mono (fun b o na e => ⟨up02 b o e, by
        rintro ((k | k) | k | k)
        · rw [(hwr b k).1] at e; cases e
        · exact na k.1
        · rcases ownd b k with q | q
          · exact na (.inr (.inl (nt b q)))
          · rw [q] at e; cases e
        · simp only [addrs, List.map_cons, List.map_nil, List.mem_singleton] at k
          rw [k, hacc] at e; cases e⟩) _ _
      obtain ⟨a, v, hl, ⟨o, e, d⟩, hV⟩ : ∃ a v, fr.env.cells.lookup p.1 = some a ∧ s.heap.IsCell a (some v) ∧ Val (av fr O) s.heap p.2 v := by
        unfold VarAt at y
        rcases hfree _ h2 rfl with q | q
        · simp only [q] at y; exact y
        · simp only [q] at y; exact y
      have hcl := look_free h2 hl
      have hkk : (relabel scope fr.env).names.lookup p.1 = some .cell ∨ (relabel scope fr.env).names.lookup p.1 = some .free := by
        rw [kindr, lookup_of_mem hn h2]
        simp only [Option.map_some]
        split
        · exact .inl rfl
        · exact .inr rfl
      show VarAt (compEnvM fr.env scope L (owc ++ clOf fr.env.cells scope.names [])) s₂.heap _ p.1
      unfold VarAt
      rcases hkk with q | q
      · rw [show (compEnvM fr.env scope L (owc ++ clOf fr.env.cells scope.names [])).kindOf p.1 = some .cell from q]
        exact ⟨a, v, hcl, ⟨o, up02 _ _ e, d⟩, mm v hV⟩
      · rw [show (compEnvM fr.env scope L (owc ++ clOf fr.env.cells scope.names [])).kindOf p.1 = some .free from q]
        exact ⟨a, v, hcl, ⟨o, up02 _ _ e, d⟩, mm v hV⟩
    owns := fun q hq => by
      simp only [List.mem_singleton] at hq
      rw [hq]
      exact ⟨#[], n, up12 _ _ eacc, by simp only [Array.toList_empty]; exact Vals.nil⟩
    nodup := by simp [addrs]
    odis := fun b h k => by
      simp only [addrs, List.map_cons, List.map_nil, List.mem_singleton] at h
      exact accown (h ▸ k) }
end
end Mine
end
section
open PySem PySem.W PyProof.Rows PySem.Calls PyProof.V PySem.Spec
namespace Mine
def emitE (acc : Value) (elt : Expr) (env : Env) (c : Code) : Sem PySem.Fin := do
  (do let _ ← call (.builtin "list.append") [acc, ← eval elt env] : Sem Unit)
  again c
def emitIn (e : Expr) (k : Nat) (it1 : Expr) (acc : Value) (env : Env) (c : Code) : Sem PySem.Fin := do
  let x ← eval it1 env
  standAt it1.pos
  let x ← foldedSetIterable it1 env x
  let _ ← runOwn (.compStart e k (← holding [x] (pyIter x)) acc env) env
  again c
def turnE (t : Expr) (ifs : List Expr) (p : Pos) (it : Value) (env : Env) (emit : Sem PySem.Fin) (c : Code) : Sem PySem.Fin := do
  standAt p
  match ← pyNext it with
  | none => pure (.done .next)
  | some v =>
    letOwnedTupleGo t it v
    assign t env v
    let mut ok := true
    for c in ifs do
      if ok then ok ← PySem.isTrue c env (eval c env)
    if ok then emit
    else again c
theorem turn_eq1 (elt t iter : Expr) (ifs : List Expr) (scope : Scope) (pos : Pos) (it acc : Value) (env : Env) :
    compTurn (.ListComp elt [⟨t, iter, ifs, 0⟩] scope pos) 0 it acc env = turnE t ifs iter.pos it env (emitE acc elt env (.compLoop (.ListComp elt [⟨t, iter, ifs, 0⟩] scope pos) 0 it acc env)) (.compLoop (.ListComp elt [⟨t, iter, ifs, 0⟩] scope pos) 0 it acc env) := by rfl
theorem turn_eq20 (elt t iter t1 iter1 : Expr) (ifs ifs1 : List Expr) (scope : Scope) (pos : Pos) (it acc : Value) (env : Env) :
    compTurn (.ListComp elt [⟨t, iter, ifs, 0⟩, ⟨t1, iter1, ifs1, 0⟩] scope pos) 0 it acc env =
      turnE t ifs iter.pos it env (emitIn (.ListComp elt [⟨t, iter, ifs, 0⟩, ⟨t1, iter1, ifs1, 0⟩] scope pos) 1 iter1 acc env (.compLoop (.ListComp elt [⟨t, iter, ifs, 0⟩, ⟨t1, iter1, ifs1, 0⟩] scope pos) 0 it acc env)) (.compLoop (.ListComp elt [⟨t, iter, ifs, 0⟩, ⟨t1, iter1, ifs1, 0⟩] scope pos) 0 it acc env) := by rfl
theorem turn_eq21 (elt t iter t1 iter1 : Expr) (ifs ifs1 : List Expr) (scope : Scope) (pos : Pos) (it acc : Value) (env : Env) :
    compTurn (.ListComp elt [⟨t, iter, ifs, 0⟩, ⟨t1, iter1, ifs1, 0⟩] scope pos) 1 it acc env =
      turnE t1 ifs1 iter1.pos it env (emitE acc elt env (.compLoop (.ListComp elt [⟨t, iter, ifs, 0⟩, ⟨t1, iter1, ifs1, 0⟩] scope pos) 1 it acc env)) (.compLoop (.ListComp elt [⟨t, iter, ifs, 0⟩, ⟨t1, iter1, ifs1, 0⟩] scope pos) 1 it acc env) := by rfl
section
variable {c : Cx} {fr : FX} {σ σ' : Store} {O O' : Owns} {s s' : Shared}
theorem codeAny_turnE {elt : Expr} {gens : List Comprehension} {scope : Scope} {pos p : Pos} {k : Nat} {it acc : Value} {env : Env} {t : Expr} {ifs : List Expr} {emit : Sem PySem.Fin} {A : Around} {R : Result → Shared → Prop}
    (heq : compTurn (.ListComp elt gens scope pos) k it acc env = turnE t ifs p it env emit (.compLoop (.ListComp elt gens scope pos) k it acc env)) (I : Nat → Shared → Prop)
    (turn : ∀ n s, I n s → wpAny c.M A (pyNext it) (fun r s₁ => match r with
      | none => R (.ok .next) s₁
      | some v => wpAny c.M A (letOwnedTupleGo t it v) (fun _ s₁' => wpAny c.M A (assign t env v) (fun _ s₂ =>
          wpAny c.M A (forIn ifs true fun c r => if r = true then do let ok ← PySem.isTrue c env (eval c env); pure (ForInStep.yield ok) else pure (ForInStep.yield r)) (fun ok s₃ =>
            if ok = true then wpAny c.M A emit (fun f s₅ => f = .again (.compLoop (.ListComp elt gens scope pos) k it acc env) ∧ ∃ m, m < n ∧ I m s₅) (notedBy c.M A env fun e s' => R (.error e) s') s₃
            else ∃ m, m < n ∧ I m s₃) (notedBy c.M A env fun e s' => R (.error e) s') s₂) (notedBy c.M A env fun e s' => R (.error e) s') s₁') (notedBy c.M A env fun e s' => R (.error e) s') s₁) (notedBy c.M A env fun e s' => R (.error e) s') s)
    (n : Nat) (h : I n s) : codeAny c.M A (.compLoop (.ListComp elt gens scope pos) k it acc env) R s := by
  refine codeAny_loop rfl I (fun n s hI => ?_) n h
  show wpAny _ A ((compTurn (.ListComp elt gens scope pos) k it acc env).onRaise (fun x => do noteFrame x env; theTreesLotGoes x)) _ _ s
  refine wpAny_noted ?_
  rw [heq]
  unfold turnE
  refine wpAny_bind (wpAny_standAt (wpAny_bind (wpAny_mono (turn n s hI) (fun r s₁ h₁ => ?_) fun _ _ h' => h')))
  cases r with
  | none => exact wpAny_pure h₁
  | some v =>
    refine wpAny_bind (wpAny_mono h₁ (fun _ s₁' h₁' => ?_) fun _ _ h' => h')
    refine wpAny_bind (wpAny_mono h₁' (fun _ s₂ h₂ => wpAny_bind (wpAny_mono h₂ (fun ok s₃ h₃ => ?_) fun _ _ h' => h')) fun _ _ h' => h')
    cases ok with
    | false => exact wpAny_pure ⟨rfl, h₃⟩
    | true => exact wpAny_mono h₃ (fun f s₅ h₅ => by obtain ⟨rfl, h₅⟩ := h₅; exact ⟨rfl, h₅⟩) fun _ _ h' => h'
inductive Tests (c : Cx) (fr : FX) (σ : Store) (O : Owns) : List Expr → Bool → Prop where
  | nil : Tests c fr σ O [] true
  | one {t : Expr} {b : Bool} : EvT c fr σ O t b → Tests c fr σ O [t] b
theorem Tests.run {ifs : List Expr} {b : Bool} (h : Tests c fr σ O ifs b) (F : FS c fr σ O s) {Q : Bool → Shared → Prop} {E : Value → Shared → Prop} (k : ∀ s', FS c fr σ O s' → Kept fr O s O s' → Q b s') :
    wpAny c.M fr.A (forIn ifs true fun c r => if r = true then do let ok ← PySem.isTrue c fr.env (eval c fr.env); pure (ForInStep.yield ok) else pure (ForInStep.yield r)) Q E s := by
  cases h with
  | nil => exact wpAny_tests_nil (k s F Kept.refl)
  | one h => exact wpAny_tests_one (h s F _ _ fun s' F' K' => k s' F' K')
def Emits (c : Cx) (fr : FX) (σ : Store) (acc : Addr) (emit : Sem PySem.Fin) (cd : Code) (out : List D) : Prop :=
  ∀ pre s, pre.length + out.length ≤ 2 ^ 24 → FS c fr σ [(acc, pre)] s → ∀ (Q : PySem.Fin → Shared → Prop) (E : Value → Shared → Prop), (∀ s', FS c fr σ [(acc, pre ++ out)] s' → Kept fr [(acc, pre)] s [(acc, pre ++ out)] s' → Q (.again cd) s') → wpAny c.M fr.A emit Q E s
theorem Emits_elt {acc : Addr} {elt : Expr} {d : D} {cd : Code} (h : ∀ pre, Ev c fr σ [(acc, pre)] elt d) : Emits c fr σ acc (emitE (.ref acc) elt fr.env cd) cd [d] := by
  intro pre s hz F Q E k
  unfold emitE
  refine wpAny_bind (wpAny_bind (h pre s F _ _ fun v s₁ F₁ K₁ V₁ => ?_))
  refine wpAny_bind (MethO_append (O := []) (ds := pre) (by simp at hz; (first | lia | omega)) σ s₁ [v] F₁ (Vals.one V₁) _ _ fun r s₂ F₂ K₂ => wpAny_pure (wpAny_pure (k s₂ F₂ (K₁.trans K₂))))
structure Lp (c : Cx) (fr : FX) (acc : Addr) (pre : List D) (ds : List D) (I : Addr) (wr : List Addr) (s₂ : Shared) (fp : List Addr) (P : Nat → Value → Prop) (St : Nat → Heap → Prop) : Prop where
  W : Walks c.prog c.w fr.A I fp wr ds.length P St
  st : St 0 s₂.heap
  alive : ∀ i h, St i h → ∀ b ∈ fp, ∃ o, h.get? b = some o ∧ NoCode o
  apart : ∀ b ∈ fp, b ∉ fr.own ∧ b ≠ acc
  val : ∀ i v d pre' s'', P i v → ds[i]? = some d → Kept (fr.wide wr) [(acc, pre)] s₂ [(acc, pre')] s'' → Val (av (fr.push wr) [(acc, pre')]) s''.heap d v
  lets : ∀ i (s : Shared) t v (Q : Unit → Shared → Prop) (E : Value → Shared → Prop), St i s.heap → Q () s → wpAny c.M fr.A (letOwnedTupleGo t (.ref I) v) Q E s
  cells : ∀ x a, fr.env.cells.lookup x = some a → a ∉ wr
  hw : ∀ b ∈ wr, c.hw.get? b = none
  out : ∀ a, fr.out a → a ∉ wr
theorem comp_clause {elt : Expr} {gens : List Comprehension} {scope : Scope} {pos : Pos} {k : Nat} {acc I : Addr} {t : Expr} {ifs : List Expr} {emit : Sem PySem.Fin} {R : Result → Shared → Prop} {pre : List D} {ds : List D} {p : Pos}
    {s₂ : Shared} {wr fp : List Addr} {PP : Nat → Value → Prop} {St : Nat → Heap → Prop}
    (heq : compTurn (.ListComp elt gens scope pos) k (.ref I) (.ref acc) fr.env = turnE t ifs p (.ref I) fr.env emit (.compLoop (.ListComp elt gens scope pos) k (.ref I) (.ref acc) fr.env))
    (F₂ : FS c (fr.push wr) σ [(acc, pre)] s₂) (T : Lp c fr acc pre ds I wr s₂ fp PP St) (outs : List (List D)) (ho : outs.length = ds.length) (hz : pre.length + outs.flatten.length ≤ 2 ^ 24) (S : Nat → Store) (B : Nat → Bool)
    (hS : ∀ i, ∀ q ∈ σ, q ∈ S i) (ha : ∀ i d, ds[i]? = some d → ∀ pre, Asg c (fr.push wr) σ [(acc, pre)] t d (S i)) (ht : ∀ i d, ds[i]? = some d → ∀ pre, Tests c (fr.push wr) (S i) [(acc, pre)] ifs (B i))
    (he : ∀ i d o, ds[i]? = some d → outs[i]? = some o → B i = true → Emits c (fr.push wr) (S i) acc emit (.compLoop (.ListComp elt gens scope pos) k (.ref I) (.ref acc) fr.env) o) (hn : ∀ i o, outs[i]? = some o → B i = false → o = [])
    (hR : ∀ s', FS c fr σ [(acc, pre ++ outs.flatten)] s' → (∀ a o, a ∉ fr.own → a ≠ acc → a ∉ wr → s₂.heap.get? a = some o → s'.heap.get? a = some o) → R (.ok .next) s') :
    codeAny c.M fr.A (.compLoop (.ListComp elt gens scope pos) k (.ref I) (.ref acc) fr.env) R s₂ := by
  have W := T.W
  have flat : ∀ i o, outs[i]? = some o → (outs.take (i + 1)).flatten = (outs.take i).flatten ++ o := fun i o h => by
    rw [List.take_add_one, h]; simp
  have lenle : ∀ i, (outs.take i).flatten.length ≤ outs.flatten.length := fun i => by
    conv => rhs; rw [← List.take_append_drop i outs, List.flatten_append, List.length_append]
    (first | lia | omega)
  refine codeAny_turnE heq (fun n s' => ∃ i, FS c (fr.push wr) σ [(acc, pre ++ (outs.take i).flatten)] s' ∧ St i s'.heap ∧ Kept (fr.wide wr) [(acc, pre)] s₂ [(acc, pre ++ (outs.take i).flatten)] s' ∧ i ≤ ds.length ∧ n = ds.length + 1 - i) ?_ (ds.length + 1)
    ⟨0, by simpa using F₂, T.st, by simpa using Kept.refl, Nat.zero_le _, rfl⟩
  rintro n s' ⟨i, F', hst, K', hle, rfl⟩
  by_cases hlt : i < ds.length
  · refine W.item i s' _ _ hlt hst fun v h' tk hP hst' hk => ?_
    have F₃ : FS c (fr.push wr) σ [(acc, pre ++ (outs.take i).flatten)] { s' with heap := h', toks := tk } := F'.walk_aux T.cells T.hw hk (.inr rfl) (fun a h => by
      by_cases m : a ∈ wr
      · exact T.alive _ _ hst' a (W.sub a m)
      · obtain ⟨o, e, nc⟩ := F'.outal a h; exact ⟨o, hk a o m e, nc⟩)
    have K₃ : Kept (fr.wide wr) [(acc, pre)] s₂ [(acc, pre ++ (outs.take i).flatten)] { s' with heap := h', toks := tk } := K'.trans (Kept.walk hk)
    obtain ⟨d, hd⟩ : ∃ d, ds[i]? = some d := ⟨ds[i], by simp [hlt]⟩
    obtain ⟨o, hoi⟩ : ∃ o, outs[i]? = some o := ⟨outs[i]'(by (first | lia | omega)), by simp [ho, hlt]⟩
    refine T.lets (i + 1) { s' with heap := h', toks := tk } t v _ _ hst' ?_
    refine ha i d hd _ { s' with heap := h', toks := tk } v F₃ (T.val i v d _ _ hP hd K₃) _ _ fun s₄ F₄ K₄ => ?_
    have stay : ∀ {s₅ : Shared} {ds₅ : List D}, Kept (fr.push wr) [(acc, pre ++ (outs.take i).flatten)] s₄ [(acc, ds₅)] s₅ → St (i + 1) s₅.heap := fun {s₅ ds₅} K₅ => by
      refine W.frame (i + 1) h' s₅.heap hst' fun b hb o e => ?_
      obtain ⟨nb, nO⟩ := T.apart b hb
      have nO' : ∀ (x : List D), b ∉ addrs [(acc, x)] := fun x m => nO (by simpa [addrs] using m)
      exact (K₅ b o nb (nO' _) (K₄ b o nb (nO' _) e).1).1
    refine (ht i d hd _).run F₄ fun s₅ F₅ K₅ => ?_
    cases hb : B i with
    | false =>
      simp only [Bool.false_eq_true, if_false]
      have ho0 := hn i o hoi hb
      refine ⟨ds.length + 1 - (i + 1), by (first | lia | omega), i + 1, ?_, stay K₅, ?_, hlt, rfl⟩
      · rw [flat i o hoi, ho0, List.append_nil]; exact F₅.sub (hS i)
      · rw [flat i o hoi, ho0, List.append_nil]; exact (K₃.trans K₄.wide).trans K₅.wide
    | true =>
      simp only [if_true]
      refine he i d o hd hoi hb _ s₅ ?_ F₅ _ _ fun s₆ F₆ K₆ => ?_
      · have := lenle (i + 1)
        rw [flat i o hoi] at this
        simp only [List.length_append] at this ⊢
        (first | lia | omega)
      · rw [List.append_assoc, ← flat i o hoi] at F₆ K₆
        exact ⟨rfl, ds.length + 1 - (i + 1), by (first | lia | omega), i + 1, F₆.sub (hS i), stay (K₅.trans K₆), ((K₃.trans K₄.wide).trans K₅.wide).trans K₆.wide, hlt, rfl⟩
  · have hi' : i = ds.length := by (first | lia | omega)
    subst hi'
    refine W.done s' _ _ hst fun h' tk hk => ?_
    have e : (outs.take ds.length).flatten = outs.flatten := by rw [← ho, List.take_length]
    rw [e] at F' K'
    have F₃ : FS c fr σ [(acc, pre ++ outs.flatten)] { s' with heap := h', toks := tk } := F'.walk_aux T.cells T.hw hk (.inl rfl) (fun a h => let ⟨o, e, nc⟩ := F'.outal a (.inr h); ⟨o, hk a o (T.out a h) e, nc⟩)
    refine hR _ F₃ fun a o h1 h2 nw e1 => ?_
    have K : Kept (fr.wide wr) [(acc, pre)] s₂ [(acc, pre ++ outs.flatten)] { s' with heap := h', toks := tk } := K'.trans (Kept.walk hk)
    exact (K a o (fun m => (List.mem_append.mp m).elim nw h1) (by simpa [addrs] using h2) e1).1
theorem It.lp {acc : Addr} {pre ds : List D} {I : Addr} {wr : List Addr} {s₁ s₂ : Shared} {fp : List Addr} {P : Nat → Value → Prop} {St : Nat → Heap → Prop} (F : FS c fr σ [(acc, pre)] s₁) (T : It c fr [(acc, pre)] ds I wr s₁ s₂ fp P St) :
    Lp c fr acc pre ds I wr s₂ fp P St ∧ FS c (fr.push wr) σ [(acc, pre)] s₂ := by
  obtain ⟨F₂, hcell, hw, hout⟩ := loop_facts F T
  exact ⟨⟨T.W, T.st, T.alive, fun b hb => ⟨(T.apart b hb).1, fun q => (T.apart b hb).2 (by simp [addrs, q])⟩, fun i v d pre' s'' hP hd K => T.val i v d _ s'' hP hd K, T.lets, hcell, hw, hout⟩, F₂⟩
theorem codeAny_start {elt : Expr} {gens : List Comprehension} {g : Comprehension} {scope : Scope} {pos : Pos} {k : Nat} {acc : Value} {I : Addr} {env : Env} {A : Around} {R : Result → Shared → Prop}
    (hg : gens[k]? = some g) (ha : g.is_async = 0) (hself : ∀ (Q : Value → Shared → Prop) (E : Value → Shared → Prop), Q (.ref I) s → wpAny c.M A (pyIter (.ref I)) Q E s)
    (h : codeAny c.M A (.compLoop (.ListComp elt gens scope pos) k (.ref I) acc env) R s) : codeAny c.M A (.compStart (.ListComp elt gens scope pos) k (.ref I) acc env) R s := by
  refine codeAny_of_tree ?_
  show wpAny _ _ ((compStart (.ListComp elt gens scope pos) k (.ref I) acc env).onRaise (fun x => do noteFrame x env; standAt theWindowsPlace)) _ _ s
  refine wpAny_notedAt ?_
  unfold compStart
  simp only [clausesOf, hg, Option.elim, ha, bne_self_eq_false, Bool.false_eq_true, if_false]
  refine wpAny_bind (wpAny_askSetting (wpAny_ite ?_))
  split
  · first
      | exact wpAny_pure (And.intro rfl h)
      | exact wpAny_bind (wpAny_pure (wpAny_pure (And.intro rfl h)))
  · refine wpAny_bind (wpAny_rule ?_)
    first
      | exact wpAny_bind (wpAny_standAt (wpAny_bind (hself _ _ (wpAny_pure (And.intro rfl h)))))
      | (refine wpAny_bind (wpAny_standAt ?_); exact wpAny_bind (hself _ _ (wpAny_pure (And.intro rfl h))))
theorem Emits_in {elt it1 t1 : Expr} {gens : List Comprehension} {ifs1 : List Expr} {scope : Scope} {pos : Pos} {acc : Addr} {g : Comprehension} {ds : List D} {cd : Code} (hg : gens[1]? = some g) (hga : g.is_async = 0)
    (heq : ∀ it : Addr, compTurn (.ListComp elt gens scope pos) 1 (.ref it) (.ref acc) fr.env = turnE t1 ifs1 it1.pos (.ref it) fr.env (emitE (.ref acc) elt fr.env (.compLoop (.ListComp elt gens scope pos) 1 (.ref it) (.ref acc) fr.env)) (.compLoop (.ListComp elt gens scope pos) 1 (.ref it) (.ref acc) fr.env))
    (hf : ∀ x, foldedSetIterable it1 fr.env x = pure x) (hi : ∀ pre, EvIt c fr σ [(acc, pre)] it1 ds) (outs : List (List D)) (ho : outs.length = ds.length) (S : Nat → Store) (B : Nat → Bool)
    (hS : ∀ i, ∀ q ∈ σ, q ∈ S i) (ha : ∀ wr i d, ds[i]? = some d → ∀ pre, Asg c (fr.push wr) σ [(acc, pre)] t1 d (S i)) (ht : ∀ wr i d, ds[i]? = some d → ∀ pre, Tests c (fr.push wr) (S i) [(acc, pre)] ifs1 (B i))
    (he : ∀ wr i d o, ds[i]? = some d → outs[i]? = some o → B i = true → ∃ v, o = [v] ∧ ∀ pre, Ev c (fr.push wr) (S i) [(acc, pre)] elt v) (hn : ∀ i o, outs[i]? = some o → B i = false → o = []) :
    Emits c fr σ acc (emitIn (.ListComp elt gens scope pos) 1 it1 (.ref acc) fr.env cd) cd outs.flatten := by
  intro pre s hz F Q E k
  unfold emitIn
  refine wpAny_bind (wpAny_mono (hi pre s F
    (fun it s₂ => wpAny c.M fr.A (runOwn (.compStart (.ListComp elt gens scope pos) 1 it (.ref acc) fr.env) fr.env) (fun _ s₃ => wpAny c.M fr.A (again cd) Q E s₃) E s₂) E ?_) (fun x s₁ hx => ?_) fun _ _ e => e)
  · intro I wr s₁ s₂ fp P St F₁ K₁ T
    obtain ⟨T', F₂⟩ := It.lp F₁ T
    refine wpAny_runOwn (show codeAny c.M fr.A _ _ s₂ from ?_)
    refine codeAny_start hg hga (fun Q E q => T.W.self 0 s₂ Q E T.st q) ?_
    refine comp_clause (heq I) F₂ T' outs ho hz S B hS (fun i d h pre => ha wr i d h pre) (fun i d h pre => ht wr i d h pre) (fun i d o h1 h2 h3 => ?_) hn fun s' F' keep => ?_
    · obtain ⟨v, rfl, hv⟩ := he wr i d o h1 h2 h3
      exact Emits_elt (fr := fr.push wr) hv
    · refine wpAny_pure (k s' F' fun a o h1 h2 e => ⟨?_, by simpa [addrs] using h2⟩)
      have e1 := K₁ a o h1 h2 e
      exact keep a o h1 (by simpa [addrs] using h2) (fun m => by have := T.new a m; rw [e1.1] at this; cases this) (T.up a o e1.1)
  · refine wpAny_bind (wpAny_standAt (wpAny_bind (wpAny_of_eq (hf x) (wpAny_bind (wpAny_holding (wpAny_mono hx (fun it s₂ h₂ => ?_) fun _ _ e => e))))))
    exact wpAny_bind h₂
end
end Mine
end
section
open PySem PySem.W PyProof.Rows PySem.Calls PyProof.V PySem.Spec
namespace Mine
section
variable {c : Cx} {fr : FX} {σ σ' : Store} {O O' : Owns} {s s' : Shared} {a : Addr} {ds ds' : List D}
theorem FS.made {C : Addr} (F : FS c fr σ O s) (W : WI c s') (hk : ∀ a o, a ∉ c.ta → s.heap.get? a = some o → s'.heap.get? a = some o) (dead : s.heap.get? a = none) (hC : s.heap.get? C = none) (hC' : ∃ o, s'.heap.get? C = some o ∧ NoCode o) (hCa : C ≠ a)
    {vs : Array Value} {n : Nat} (e : s'.heap.get? a = some { cls := .type "list", data := .seq vs n }) (V : Vals (av (fr.push [C]) ((a, ds) :: O)) s'.heap ds vs.toList) : FS c (fr.push [C]) σ ((a, ds) :: O) s' ∧ Kept fr O s ((a, ds) :: O) s' := by
  obtain ⟨G, K⟩ := F.callee W hk
  have nt : ∀ b, b ∉ fr.own → b ∉ c.ta := fun b h m => by
    obtain ⟨q, hq, rfl⟩ := List.mem_map.mp m; exact h (F.tabown q hq)
  have na := F.new_av dead
  have nC := F.new_av hC
  have mm : ∀ b o, ¬ av fr O b → s.heap.get? b = some o → s'.heap.get? b = some o ∧ ¬ av (fr.push [C]) ((a, ds) :: O) b := fun b o nb e1 => ⟨hk b o (nt b (fun m => nb (.inr (.inl m)))) e1, fun k => by
    rcases av_cons.mp k with k | (k | k) | k
    · rw [k, dead] at e1; cases e1
    · rw [List.mem_singleton.mp k, hC] at e1; cases e1
    · exact nb (.inl k)
    · exact nb (.inr k)⟩
  refine ⟨{
    wi := W
    kind := F.kind
    glob := F.glob
    blt := F.blt
    hand := F.hand
    room := F.room
    own0 := F.own0
    o0 := fun b h => by
      rcases List.mem_cons.mp h with h | h
      · rw [h]; exact F.hwfresh dead
      · exact F.o0 b h
    tabown := F.tabown
    Lown := F.Lown
    Lns := G.Lns
    inj := F.inj
    calive := G.calive
    cfree := F.cfree
    mown := F.mown
    oo := fun b h m => by
      rcases h with h | h
      · exact nC (.inr (.inl (by rw [← List.mem_singleton.mp h]; exact m)))
      · exact F.oo b h m
    out0 := fun b h => by
      rcases h with h | h
      · rw [List.mem_singleton.mp h]; exact F.hwfresh hC
      · exact F.out0 b h
    outal := fun b h => by
      rcases h with h | h
      · rw [List.mem_singleton.mp h]; exact hC'
      · exact G.outal b h
    oout := fun b h k => by
      rcases List.mem_cons.mp h with h | h
      · have hb : b = a := h
        rcases k with k | k
        · exact hCa ((List.mem_singleton.mp k).symm.trans hb)
        · exact na (.inl (hb ▸ k))
      · rcases k with k | k
        · exact nC (.inr (.inr (by rw [← List.mem_singleton.mp k]; exact h)))
        · exact F.oout b h k
    ownal := G.ownal
    vars := fun p hp => by
      have y := F.vars p hp
      have z := G.vars p hp
      have hL := F.Lns
      refine y.mono (fun m h => ?_) (fun x b v hl h => ?_) (fun v h => Val.mono mm _ _ h)
      · obtain ⟨o, es, ep, e1, r⟩ := id h
        exact ⟨o, es, ep, hk _ _ (fun q => by obtain ⟨t, ht, hq⟩ := List.mem_map.mp q; obtain ⟨ps, e2, _⟩ := F.wi.tab t ht; exact Ns.notTab h (hq ▸ e2)) e1, r⟩
      · obtain ⟨o, e1, r⟩ := id h
        exact ⟨o, hk _ _ (fun q => by obtain ⟨t, ht, hq⟩ := List.mem_map.mp q; obtain ⟨ps, e2, _⟩ := F.wi.tab t ht; exact Cell.notTab h (hq ▸ e2)) e1, r⟩
    owns := fun q hq => by
      rcases List.mem_cons.mp hq with h | h
      · rw [h]; exact ⟨vs, n, e, V⟩
      · obtain ⟨ws, k, e1, w⟩ := F.owns q h; exact ⟨ws, k, hk _ _ (nt _ (F.odis _ (List.mem_map_of_mem h))) e1, Vals.mono mm _ _ w⟩
    nodup := List.nodup_cons.mpr ⟨fun h => na (.inr (.inr h)), F.nodup⟩
    odis := fun b h k => by
      rcases List.mem_cons.mp h with h | h
      · exact na (.inr (.inl ((show b = a from h) ▸ k)))
      · exact F.odis b h k }, fun b o h1 h2 e1 => ⟨(K b o h1 h2 e1).1, fun h => by
      rcases List.mem_cons.mp h with h | h
      · rw [show b = a from h, dead] at e1; cases e1
      · exact h2 h⟩⟩
structure CompOk (c : Cx) (fr : FX) (σc : Store) (t : Expr) (ifs : List Expr) (emit : Addr → Env → Code → Sem PySem.Fin) (ds : List D) (outs : List (List D)) (scope : Scope) (elt : Expr) (gens : List Comprehension) (pos : Pos) : Prop where
  len : outs.length = ds.length
  fits : outs.flatten.length ≤ 2 ^ 24
  turn : ∀ L cs out own acc wr I, ∃ (S : Nat → Store) (B : Nat → Bool), (∀ i, ∀ q ∈ σc, q ∈ S i) ∧
    (∀ i d, ds[i]? = some d → ∀ pre, Asg c ((compFr fr scope L cs out own).push wr) σc [(acc, pre)] t d (S i)) ∧
    (∀ i d, ds[i]? = some d → ∀ pre, Tests c ((compFr fr scope L cs out own).push wr) (S i) [(acc, pre)] ifs (B i)) ∧
    (∀ i d o, ds[i]? = some d → outs[i]? = some o → B i = true → Emits c ((compFr fr scope L cs out own).push wr) (S i) acc (emit acc (compFr fr scope L cs out own).env (.compLoop (.ListComp elt gens scope pos) 0 (.ref I) (.ref acc) (compFr fr scope L cs out own).env)) (.compLoop (.ListComp elt gens scope pos) 0 (.ref I) (.ref acc) (compFr fr scope L cs out own).env) o) ∧
    (∀ i o, outs[i]? = some o → B i = false → o = [])
theorem comp_core {elt t iter : Expr} {ifs : List Expr} {gs : List Comprehension} {scope : Scope} {pos p : Pos} {σc : Store} {outs : List (List D)} {emit : Addr → Env → Code → Sem PySem.Fin} {use : Option (Value → Sem Unit)}
    (hi : EvIt c fr σ O iter ds) (hn : (scope.names.map (·.1)).Nodup) (hk : scope.kind = .function) (hfree : ∀ p ∈ scope.names, p.2 = .free → fr.env.kindOf p.1 = some .cell ∨ fr.env.kindOf p.1 = some .free)
    (hσ : ∀ p ∈ σc, p ∈ σ ∧ (p.1, NameKind.free) ∈ scope.names) (hf : ∀ x, foldedSetIterable iter fr.env x = pure x)
    (heq : ∀ (I acc : Addr) (env : Env), compTurn (.ListComp elt (⟨t, iter, ifs, 0⟩ :: gs) scope pos) 0 (.ref I) (.ref acc) env = turnE t ifs iter.pos (.ref I) env (emit acc env (.compLoop (.ListComp elt (⟨t, iter, ifs, 0⟩ :: gs) scope pos) 0 (.ref I) (.ref acc) env)) (.compLoop (.ListComp elt (⟨t, iter, ifs, 0⟩ :: gs) scope pos) 0 (.ref I) (.ref acc) env))
    (ok : CompOk c fr σc t ifs emit ds outs scope elt (⟨t, iter, ifs, 0⟩ :: gs) pos) (F : FS c fr σ O s) {Q E : Value → Shared → Prop}
    (k : ∀ a C s', FS c (fr.push [C]) σ ((a, outs.flatten) :: O) s' → Kept fr O s ((a, outs.flatten) :: O) s' → s.heap.get? C = none →
      (∀ {σ'' O'' s''} h', FS c (fr.push [C]) σ'' O'' s'' → Heap.SameBut C s''.heap h' → FS c fr σ'' O'' { s'' with heap := h' }) → (∃ m, s'.heap.Ns C m) → compPost c.M fr.A E use Q (.ref a) C (.ok .next) s') :
    wpAny c.M fr.A (comprehension (.ListComp elt (⟨t, iter, ifs, 0⟩ :: gs) scope pos) scope fr.env p (newList []) false (eval iter fr.env) use) Q E s := by
  refine wpAny_comprehension_free (g := ⟨t, iter, ifs, 0⟩) (gs := gs) rfl hf (closureFor_eq fun q hq e => F.cfree _ (hfree q hq e)) hk (fun q hq e => by
    obtain ⟨x, kk⟩ := q; subst e; exact lookup_of_mem hn hq) ?_
  refine hi s F _ _ fun I wr s₁ s₂ fp PP St F₁ K₁ T => ?_
  have dead2 : s₂.heap.get? s₂.heap.objs.size = none := by
    cases e : s₂.heap.get? s₂.heap.objs.size with
    | none => rfl
    | some o => exact absurd (Heap.lt_size e) (Nat.lt_irrefl _)
  have dead1 : ∀ {b}, s₂.heap.get? b = none → s₁.heap.get? b = none := fun {b} h => by
    cases e : s₁.heap.get? b with
    | none => rfl
    | some o => have := T.up b o e; rw [h] at this; cases this
  have deads : ∀ {b}, s₁.heap.get? b = none → ∀ o, b ∉ fr.own → b ∉ addrs O → s.heap.get? b = some o → False := fun {b} h o h1 h2 e => by
    have := (K₁ b o h1 h2 e).1; rw [h] at this; cases this
  refine wpAny_newObj_type (newEnv_comp ?_)
  generalize h3 : s₂.heap.push { cls := .type "list", data := .seq ([] : List Value).toArray } = H3
  have hsz : H3.objs.size = s₂.heap.objs.size + 1 := by rw [← h3, Heap.size_push]
  have up23 : ∀ b o, s₂.heap.get? b = some o → H3.get? b = some o := fun b o e => by rw [← h3]; exact Heap.get?_push_of_some _ e
  have eacc : H3.get? s₂.heap.objs.size = some { cls := .type "list", data := .seq #[] 0 } := by rw [← h3]; exact Heap.get?_push_size _ rfl
  have hacc1 := dead1 dead2
  obtain ⟨out, own, F₄, o1, o2, o3, o4, up34, o5, o6⟩ := comp_frame (s₁ := { s₂ with heap := H3 }) (s₂ := { s₂ with heap := pushCells (H3.push { cls := .type "dict", data := .dict #[] }) scope.names }) (wr := wr) F₁ hn hk hfree hσ
    (fun b hb => ⟨T.new b hb, (let ⟨o, e, nc⟩ := T.alive 0 _ T.st b (T.W.sub b hb); ⟨o, up23 _ _ e, nc⟩), fun q => by
      obtain ⟨o, e, _⟩ := T.alive 0 _ T.st b (T.W.sub b hb); rw [q, dead2] at e; cases e⟩) hacc1 eacc (fun b o e => up23 _ _ (T.up b o e)) T.gens T.os rfl
  obtain ⟨S, B, t1, t2, t3, t4, t5⟩ := ok.turn H3.objs.size (cellsFrom (H3.objs.size + 1) scope.names (clOf fr.env.cells scope.names [])) out own s₂.heap.objs.size wr I
  generalize hfr : compFr fr scope H3.objs.size (cellsFrom (H3.objs.size + 1) scope.names (clOf fr.env.cells scope.names [])) out own = fr' at F₄ t2 t3 t4
  have henv : fr'.env = compEnvM fr.env scope H3.objs.size (cellsFrom (H3.objs.size + 1) scope.names (clOf fr.env.cells scope.names [])) := by rw [← hfr]; rfl
  have hA : fr'.A = fr.A := by rw [← hfr]; rfl
  have hown : fr'.own = own := by rw [← hfr]; rfl
  have hout : fr'.out = out := by rw [← hfr]; rfl
  have up24 : ∀ b o, s₂.heap.get? b = some o → (pushCells (H3.push { cls := .type "dict", data := .dict #[] }) scope.names).get? b = some o := fun b o e => up34 b o (up23 b o e)
  have own2 : ∀ b ∈ own, b ∈ c.ta ∨ s₂.heap.get? b = none := fun b hb => (o6 b hb).imp id fun h => by
    cases e : s₂.heap.get? b with
    | none => rfl
    | some o => have := up23 b o e; rw [show H3.get? b = none from h] at this; cases this
  have nt : ∀ b, b ∈ c.ta → b ∈ fr.own := fun b m => by obtain ⟨q, hq, rfl⟩ := List.mem_map.mp m; exact F₁.tabown q hq
  have lp : Lp c fr' s₂.heap.objs.size [] ds I wr { s₂ with heap := pushCells (H3.push { cls := .type "dict", data := .dict #[] }) scope.names } fp PP St := by
    refine ⟨by rw [hA]; exact T.W, T.W.frame 0 _ _ T.st (fun b _ o e => up24 b o e), T.alive, fun b hb => ⟨?_, ?_⟩, ?_, by rw [hA]; exact T.lets, ?_, fun b hb => F₁.hwfresh (T.new b hb), fun b hb m => ?_⟩
    · rw [hown]; intro m
      obtain ⟨o, e, _⟩ := T.alive 0 _ T.st b hb
      rcases own2 b m with h | h
      · exact (T.apart b hb).1 (nt b h)
      · rw [h] at e; cases e
    · intro q; obtain ⟨o, e, _⟩ := T.alive 0 _ T.st b hb; rw [q, dead2] at e; cases e
    · intro i v d pre' s'' hP hd K
      refine Val.mono (fun b o nb e => ?_) _ _ (T.val i v d O s₂ hP hd Kept.refl)
      have nwr : b ∉ wr := fun m => nb (.inl (.inl m))
      have nown : b ∉ own := fun m => by
        rcases own2 b m with h | h
        · exact nb (.inr (.inl (nt b h)))
        · rw [h] at e; cases e
      have nacc : b ≠ s₂.heap.objs.size := fun q => by rw [q, dead2] at e; cases e
      refine ⟨(K b o (fun m => (List.mem_append.mp m).elim nwr (fun m => nown (hown ▸ m))) (by simpa [addrs] using nacc) (up24 b o e)).1, ?_⟩
      rintro ((k | k) | k | k)
      · exact nwr k
      · rw [hout] at k
        rcases o1 b k with k | k
        · exact nb (.inl (.inr k))
        · exact nb (.inr k)
      · exact nown (hown ▸ k)
      · exact nacc (by simpa [addrs] using k)
    · rw [henv]
      intro x b e m
      have e' : (cellsFrom (H3.objs.size + 1) scope.names (clOf fr.env.cells scope.names [])).lookup x = some b := e
      rw [cellsFrom_app, lookup_app] at e'
      cases q : (cellsFrom (H3.objs.size + 1) scope.names []).lookup x with
      | some b' =>
        rw [q] at e'
        cases e'
        have ok' := cellsFrom_ok scope.names (H3.push { cls := .type "dict", data := .dict #[] }) (H3.objs.size + 1) [] ⟨fun _ _ hm => (nomatch hm), List.Pairwise.nil⟩ (by rw [Heap.size_push]; exact Nat.le_refl _)
        rw [Heap.size_push] at ok'
        have h1 := (ok'.empty _ _ (mem_of_lookup q)).2
        obtain ⟨o, e1, _⟩ := T.alive 0 _ T.st b (T.W.sub b m)
        have h2 := Heap.lt_size e1
        rw [hsz] at h1
        exact absurd h2 (Nat.not_lt.mpr (Nat.le_trans (Nat.le_trans (Nat.le_succ _) (Nat.le_succ _)) h1))
      | none =>
        rw [q] at e'
        rcases clOf_mem _ _ (mem_of_lookup e') with h | ⟨_, h⟩
        · cases h
        · obtain ⟨v, o, e1, _⟩ := F₁.calive _ _ h
          rw [T.new b m] at e1; cases e1
    · rw [hout] at hb
      rcases o1 b hb with h | h | h
      · obtain ⟨o, e, _⟩ := F₁.outal b h; rw [T.new b m] at e; cases e
      · obtain ⟨o, e, _⟩ := F₁.ownal b h; rw [T.new b m] at e; cases e
      · obtain ⟨q, hq, rfl⟩ := List.mem_map.mp h
        obtain ⟨vs, n, e, _⟩ := F₁.owns q hq; rw [T.new _ m] at e; cases e
  have main : codeAny c.M fr'.A (.compStart (.ListComp elt (⟨t, iter, ifs, 0⟩ :: gs) scope pos) 0 (.ref I) (.ref s₂.heap.objs.size) fr'.env) (compPost c.M fr'.A E use Q (.ref s₂.heap.objs.size) fr'.env.locals) { s₂ with heap := pushCells (H3.push { cls := .type "dict", data := .dict #[] }) scope.names } := by
    refine codeAny_start rfl rfl (fun Q E q => by
      have := T.W.self 0 { s₂ with heap := pushCells (H3.push { cls := .type "dict", data := .dict #[] }) scope.names } Q E (T.W.frame 0 _ _ T.st (fun b _ o e => up24 b o e)) q
      rw [hA]; exact this) ?_
    refine comp_clause (emit := emit s₂.heap.objs.size fr'.env (.compLoop (.ListComp elt (⟨t, iter, ifs, 0⟩ :: gs) scope pos) 0 (.ref I) (.ref s₂.heap.objs.size) fr'.env)) (heq I _ fr'.env) F₄ lp outs ok.len (by simpa using ok.fits) S B t1 t2 t3 t4 t5 fun s' F' keep => ?_
    have hk' : ∀ b o, b ∉ c.ta → s₁.heap.get? b = some o → s'.heap.get? b = some o := fun b o nta e => by
      refine keep b o (fun m => ?_) (fun q => ?_) (fun m => ?_) (up24 b o (T.up b o e))
      · rw [hown] at m
        rcases o3 b m with h | h
        · exact nta h
        · rw [h] at e; cases e
      · rw [q, hacc1] at e; cases e
      · rw [T.new b m] at e; cases e
    have hLo : fr'.env.locals ∈ own := by rw [henv]; exact o5
    have hC1 : s₁.heap.get? fr'.env.locals = none := by
      rcases o3 _ hLo with h | h
      · exfalso
        obtain ⟨q, hq, h2⟩ := List.mem_map.mp h
        obtain ⟨ps, e, _⟩ := F₄.wi.tab q hq
        obtain ⟨m, hm⟩ := F₄.Lns
        rw [h2] at e
        exact Ns.notTab hm e
      · exact h
    obtain ⟨m, hm⟩ := F'.Lns
    have hCal : ∃ o, s'.heap.get? fr'.env.locals = some o ∧ NoCode o := NoCode.ns hm
    have hCa : fr'.env.locals ≠ s₂.heap.objs.size := fun q => F'.odis s₂.heap.objs.size (by simp [addrs]) (q ▸ F'.Lown)
    obtain ⟨vs, n, e, V⟩ := F'.owns (s₂.heap.objs.size, [] ++ outs.flatten) (List.mem_cons_self ..)
    have V' : Vals (av (fr.push [fr'.env.locals]) ((s₂.heap.objs.size, outs.flatten) :: O)) s'.heap outs.flatten vs.toList := Vals.mono (fun b o nb e => ⟨e, fun k => by
      rcases av_cons.mp k with k | (k | k) | k
      · exact nb (.inr (.inr (by rw [k]; simp [addrs])))
      · exact nb (.inr (.inl (by rw [List.mem_singleton.mp k]; exact F'.Lown)))
      · rcases o2 b (.inl k) with h | h
        · exact nb (.inl (hout ▸ h))
        · exact nb (.inr (.inl (hown ▸ o4 b h)))
      · rcases o2 b (.inr k) with h | h
        · exact nb (.inl (hout ▸ h))
        · exact nb (.inr (.inl (hown ▸ o4 b h)))⟩) _ _ V
    obtain ⟨G, K⟩ := F₁.made F'.wi hk' hacc1 hC1 hCal hCa e V'
    have hCs : s.heap.get? fr'.env.locals = none := by
      cases q : s.heap.get? fr'.env.locals with
      | none => rfl
      | some o =>
        exfalso
        by_cases m1 : fr'.env.locals ∈ fr.own
        · obtain ⟨o', e', _⟩ := F₁.ownal _ m1; rw [hC1] at e'; cases e'
        · by_cases m2 : fr'.env.locals ∈ addrs O
          · obtain ⟨p, hp, h⟩ := List.mem_map.mp m2
            obtain ⟨vs, n, e', _⟩ := F₁.owns p hp
            rw [show p.1 = fr'.env.locals from h, hC1] at e'; cases e'
          · exact deads hC1 o m1 m2 q
    have := k s₂.heap.objs.size fr'.env.locals s' G (K₁.trans K) hCs (fun {σ'' O'' s''} h' F'' hs => by
      have := F''.walk_aux (fr' := fr) (h' := h') (tk := s''.toks) (fun x b e m => by
        obtain ⟨v, o, e1, _⟩ := F₁.calive x b e
        rw [List.mem_singleton.mp m, hC1] at e1; cases e1) (fun b hb => by rw [List.mem_singleton.mp hb]; exact F₁.hwfresh hC1)
        (fun b o nb e => (hs.2 b (fun q => nb (by rw [q]; exact List.mem_singleton.mpr rfl))).trans e) (.inl rfl) (fun b hb => by
          obtain ⟨o, e, nc⟩ := F''.outal b (.inr hb)
          refine ⟨o, (hs.2 b (fun q => ?_)).trans e, nc⟩
          obtain ⟨o', e', _⟩ := F₁.outal b hb
          rw [q, hC1] at e'; cases e')
      exact this) ⟨m, hm⟩
    rw [hA]
    exact this
  rw [henv, hA] at main
  exact main
end
end Mine
end
section
open PySem PySem.W PyProof.Rows PySem.Calls PyProof.V PySem.Spec
namespace Mine
section
variable {c : Cx} {fr : FX} {σ σ' : Store} {O O' : Owns} {s s' : Shared} {a : Addr} {ds ds' : List D}
structure CompSyn (fr : FX) (scope : Scope) (σ σc : Store) (iter : Expr) : Prop where
  nd : (scope.names.map (·.1)).Nodup
  kind : scope.kind = .function
  free : ∀ p ∈ scope.names, p.2 = .free → fr.env.kindOf p.1 = some .cell ∨ fr.env.kindOf p.1 = some .free
  cap : ∀ p ∈ σc, p ∈ σ ∧ (p.1, NameKind.free) ∈ scope.names
  fold : ∀ x, foldedSetIterable iter fr.env x = pure x
def emit1 (elt : Expr) : Addr → Env → Code → Sem PySem.Fin := fun acc env cd => emitE (.ref acc) elt env cd
def emit2 (e : Expr) (it1 : Expr) : Addr → Env → Code → Sem PySem.Fin := fun acc env cd => emitIn e 1 it1 (.ref acc) env cd
theorem comp_newList {elt t iter : Expr} {ifs : List Expr} {gs : List Comprehension} {scope : Scope} {pos : Pos} {σc : Store} {outs : List (List D)} {emit : Addr → Env → Code → Sem PySem.Fin}
    (hi : EvIt c fr σ O iter ds) (hs : CompSyn fr scope σ σc iter)
    (heq : ∀ (I acc : Addr) (env : Env), compTurn (.ListComp elt (⟨t, iter, ifs, 0⟩ :: gs) scope pos) 0 (.ref I) (.ref acc) env = turnE t ifs iter.pos (.ref I) env (emit acc env (.compLoop (.ListComp elt (⟨t, iter, ifs, 0⟩ :: gs) scope pos) 0 (.ref I) (.ref acc) env)) (.compLoop (.ListComp elt (⟨t, iter, ifs, 0⟩ :: gs) scope pos) 0 (.ref I) (.ref acc) env))
    (ok : CompOk c fr σc t ifs emit ds outs scope elt (⟨t, iter, ifs, 0⟩ :: gs) pos) : EvN c fr σ O (.ListComp elt (⟨t, iter, ifs, 0⟩ :: gs) scope pos) outs.flatten := by
  intro s F Q E k
  show wpAny c.M fr.A (comprehension (.ListComp elt (⟨t, iter, ifs, 0⟩ :: gs) scope pos) scope fr.env iter.pos (newList []) false (eval iter fr.env)) Q E s
  refine comp_core hi hs.nd hs.kind hs.free hs.cap hs.fold heq ok F fun a C s' G K hC leave hns => ?_
  obtain ⟨m, hm⟩ := hns
  refine ⟨m, hm, fun h' hsb => ?_⟩
  refine k a _ (leave h' G hsb) fun b o h1 h2 e => ?_
  have := K b o h1 h2 e
  exact ⟨(hsb.2 b (fun q => by rw [q, hC] at e; cases e)).trans this.1, this.2⟩
theorem use_eq {elt : Expr} {gens : List Comprehension} {scope : Scope} {cpos : Pos} {env : Env} {use : Value → Sem Unit} : evalThenUse (.ListComp elt gens scope cpos) env use = (comprehension (.ListComp elt gens scope cpos) scope env (firstIterPos gens cpos) (newList []) (firstAsync gens) (firstIter gens env) (some use) >>= fun _ => pure ()) := by
  rw [evalThenUse]
theorem Ex1_assignC {x : Str} {p pos : Pos} {elt t iter : Expr} {ifs : List Expr} {gs : List Comprehension} {scope : Scope} {cpos : Pos} {σc : Store} {outs : List (List D)} {emit : Addr → Env → Code → Sem PySem.Fin} {P : Post}
    (hi : EvIt c fr σ O iter ds) (hs : CompSyn fr scope σ σc iter)
    (heq : ∀ (I acc : Addr) (env : Env), compTurn (.ListComp elt (⟨t, iter, ifs, 0⟩ :: gs) scope cpos) 0 (.ref I) (.ref acc) env = turnE t ifs iter.pos (.ref I) env (emit acc env (.compLoop (.ListComp elt (⟨t, iter, ifs, 0⟩ :: gs) scope cpos) 0 (.ref I) (.ref acc) env)) (.compLoop (.ListComp elt (⟨t, iter, ifs, 0⟩ :: gs) scope cpos) 0 (.ref I) (.ref acc) env))
    (ok : CompOk c fr σc t ifs emit ds outs scope elt (⟨t, iter, ifs, 0⟩ :: gs) cpos) (hx : Storable fr x) (hd : Drop x σ σ') (k : P .next ((x, .list outs.flatten) :: σ') O)
    (hw : swapsWith (.ListComp elt (⟨t, iter, ifs, 0⟩ :: gs) scope cpos) (some (.Name x p)) pos.line fr.env = pure true) : Ex1 c fr σ O (.Assign [.Name x p] (.ListComp elt (⟨t, iter, ifs, 0⟩ :: gs) scope cpos) pos) P := by
  intro s F Q E kk
  rw [exec_Assign_Name_used _ _ _ _ hw]
  refine wpAny_bind (wpAny_standAt (wpAny_bind ?_))
  rw [use_eq]
  refine wpAny_bind (comp_core (p := iter.pos) hi hs.nd hs.kind hs.free hs.cap hs.fold heq ok F fun a C s' G K hC leave hns => ?_)
  obtain ⟨m, hm⟩ := hns
  refine (Asg_name (fr := fr.push [C]) (d := .raw (.ref a)) hx hd) s' (.ref a) G (by simp only [Val]) _ _ fun s'' F'' K'' => ?_
  have hCal : ∀ o, s'.heap.get? C = some o → s''.heap.get? C = some o := fun o e => by
    refine (K'' C o (fun m => G.oo C (.inl (List.mem_singleton.mpr rfl)) m) (fun m => G.oout C m (.inl (List.mem_singleton.mpr rfl))) e).1
  refine ⟨m, hm.at' hCal, fun h' hsb => wpAny_pure (wpAny_pure ?_)⟩
  have F₃ := (leave h' F'' hsb).freeze (σ' := (x, .list outs.flatten) :: σ') (fun q hq => by
    rcases List.mem_cons.mp hq with h | h
    · rw [h]; exact .inr ⟨rfl, List.mem_cons_self ..⟩
    · exact .inl (List.mem_cons_of_mem _ h))
  refine kk .next .next _ O _ F₃ (fun b o h1 h2 e => ?_) rfl k
  have e1 := K b o h1 h2 e
  have nC : b ≠ C := fun q => by rw [q, hC] at e; cases e
  have e2 := K'' b o h1 (fun m => e1.2 m) e1.1
  exact ⟨(hsb.2 b nC).trans e2.1, h2⟩
theorem ok1 {elt t iter : Expr} {ifs : List Expr} {scope : Scope} {pos : Pos} {σc : Store} (S : D → Store) (B : D → Bool) (outs : List (List D)) (hl : outs.length = ds.length) (hz : outs.flatten.length ≤ 2 ^ 24) (hS : ∀ d, ∀ q ∈ σc, q ∈ S d)
    (turn : ∀ L cs out own wr (i : Nat) (d : D) (o : List D), ds[i]? = some d → outs[i]? = some o → ∀ acc pre, Asg c ((compFr fr scope L cs out own).push wr) σc [(acc, pre)] t d (S d) ∧ Tests c ((compFr fr scope L cs out own).push wr) (S d) [(acc, pre)] ifs (B d) ∧
      (B d = true → ∃ v, o = [v] ∧ Ev c ((compFr fr scope L cs out own).push wr) (S d) [(acc, pre)] elt v) ∧ (B d = false → o = [])) :
    CompOk c fr σc t ifs (emit1 elt) ds outs scope elt [⟨t, iter, ifs, 0⟩] pos := by
  refine ⟨hl, hz, fun L cs out own acc wr I => ⟨fun i => S (ds.getD i .none), fun i => B (ds.getD i .none), fun i => hS _, fun i d hd pre => ?_, fun i d hd pre => ?_, fun i d o hd ho hb => ?_, fun i o ho hb => ?_⟩⟩
  · have eg : ds.getD i .none = d := by rw [List.getD_eq_getElem?_getD, hd]; rfl
    have hi := (List.getElem?_eq_some_iff.mp hd).1
    obtain ⟨o, ho⟩ : ∃ o, outs[i]? = some o := ⟨outs[i]'(by (first | lia | omega)), by simp [hl, hi]⟩
    simp only [eg]
    exact (turn L cs out own wr i d o hd ho acc pre).1
  · have eg : ds.getD i .none = d := by rw [List.getD_eq_getElem?_getD, hd]; rfl
    have hi := (List.getElem?_eq_some_iff.mp hd).1
    obtain ⟨o, ho⟩ : ∃ o, outs[i]? = some o := ⟨outs[i]'(by (first | lia | omega)), by simp [hl, hi]⟩
    simp only [eg]
    exact (turn L cs out own wr i d o hd ho acc pre).2.1
  · have eg : ds.getD i .none = d := by rw [List.getD_eq_getElem?_getD, hd]; rfl
    simp only [eg] at hb ⊢
    have key : ∃ v, o = [v] := let ⟨v, h, _⟩ := (turn L cs out own wr i d o hd ho acc []).2.2.1 hb; ⟨v, h⟩
    obtain ⟨v, rfl⟩ := key
    refine Emits_elt (fr := (compFr fr scope L cs out own).push wr) fun pre => ?_
    obtain ⟨u, h1, h2⟩ := (turn L cs out own wr i d _ hd ho acc pre).2.2.1 hb
    cases h1
    exact h2
  · have hi : i < ds.length := hl ▸ (List.getElem?_eq_some_iff.mp ho).1
    obtain ⟨d, hd⟩ : ∃ d, ds[i]? = some d := ⟨ds[i], by simp [hi]⟩
    have eg : ds.getD i .none = d := by rw [List.getD_eq_getElem?_getD, hd]; rfl
    simp only [eg] at hb
    exact (turn L cs out own wr i d o hd ho acc []).2.2.2 hb
theorem EvN_comp1 {elt t iter : Expr} {ifs : List Expr} {scope : Scope} {pos : Pos} {σc : Store} (S : D → Store) (B : D → Bool) (outs : List (List D)) (hi : EvIt c fr σ O iter ds) (hs : CompSyn fr scope σ σc iter) (hl : outs.length = ds.length) (hz : outs.flatten.length ≤ 2 ^ 24) (hS : ∀ d, ∀ q ∈ σc, q ∈ S d)
    (turn : ∀ L cs out own wr (i : Nat) (d : D) (o : List D), ds[i]? = some d → outs[i]? = some o → ∀ acc pre, Asg c ((compFr fr scope L cs out own).push wr) σc [(acc, pre)] t d (S d) ∧ Tests c ((compFr fr scope L cs out own).push wr) (S d) [(acc, pre)] ifs (B d) ∧
      (B d = true → ∃ v, o = [v] ∧ Ev c ((compFr fr scope L cs out own).push wr) (S d) [(acc, pre)] elt v) ∧ (B d = false → o = [])) :
    EvN c fr σ O (.ListComp elt [⟨t, iter, ifs, 0⟩] scope pos) outs.flatten :=
  comp_newList hi hs (fun I acc env => turn_eq1 _ _ _ _ _ _ _ _ _) (ok1 S B outs hl hz hS turn)
theorem EvN_map {elt t iter : Expr} {scope : Scope} {pos : Pos} {σc : Store} (S : D → Store) (vs : List D) (hi : EvIt c fr σ O iter ds) (hs : CompSyn fr scope σ σc iter) (hl : vs.length = ds.length) (hz : ds.length ≤ 2 ^ 24) (hS : ∀ d, ∀ q ∈ σc, q ∈ S d)
    (turn : ∀ L cs out own wr (i : Nat) (d v : D), ds[i]? = some d → vs[i]? = some v → ∀ acc pre, Asg c ((compFr fr scope L cs out own).push wr) σc [(acc, pre)] t d (S d) ∧ Ev c ((compFr fr scope L cs out own).push wr) (S d) [(acc, pre)] elt v) :
    EvN c fr σ O (.ListComp elt [⟨t, iter, [], 0⟩] scope pos) vs := by
  have e : (vs.map fun v => [v]).flatten = vs := by
    clear turn hl
    induction vs with
    | nil => rfl
    | cons v r ih => simp only [List.map_cons, List.flatten_cons, ih]; rfl
  have := EvN_comp1 (c := c) (fr := fr) (σ := σ) (O := O) (elt := elt) (t := t) (iter := iter) (ifs := []) (scope := scope) (pos := pos) S (fun _ => true) (vs.map fun v => [v]) hi hs (by simpa using hl) (by rw [e, hl]; exact hz) hS (fun L cs out own wr i d o hd ho acc pre => by
    rw [List.getElem?_map] at ho
    cases hv : vs[i]? with
    | none => rw [hv] at ho; cases ho
    | some v =>
      rw [hv] at ho; cases ho
      obtain ⟨h1, h2⟩ := turn L cs out own wr i d v hd hv acc pre
      exact ⟨h1, .nil, fun _ => ⟨v, rfl, h2⟩, fun h => by cases h⟩)
  rw [e] at this
  exact this
end
end Mine
end
section
open PySem PySem.W PyProof.Rows PySem.Calls PyProof.V PySem.Spec
namespace Mine
section
variable {c : Cx} {fr : FX} {σ σ' : Store} {O O' : Owns} {s s' : Shared} {a : Addr} {ds ds' : List D}
theorem EvIt_tuple {e : Expr} (h : Ev c fr σ O e (.tuple ds)) : EvIt c fr σ O e ds := by
  intro s F Q E k
  refine h s F _ _ fun v s₁ F₁ K₁ V => ?_
  obtain ⟨a, vs, rfl, na, hl, V, n, g⟩ := tuple_of V
  have hne : a ≠ s₁.heap.objs.size := Nat.ne_of_lt (Heap.lt_size g)
  refine wpAny_pyIter_tuple hl (k _ [s₁.heap.objs.size] s₁ _ [s₁.heap.objs.size, a] (fun i v => vs[i]? = some v) (fun i h => h.IsTupleIter s₁.heap.objs.size a i ∧ h.IsTuple a vs) F₁ K₁ ?_)
  have hlen : vs.size = ds.length := by rw [← V.length]; simp
  have W := Walks.tuple (prog := c.prog) (w := c.w) (A := fr.A) F₁.hand s₁.heap.objs.size a hne vs
  rw [hlen] at W
  exact {
    W := W
    st := ⟨⟨_, Heap.get?_push_size _ rfl, rfl, rfl⟩, hl.push _⟩
    alive := fun i h ⟨⟨o, e, _, d⟩, ⟨o', e', _, n', d'⟩⟩ b hb => by
      rcases List.mem_cons.mp hb with rfl | hb
      · exact ⟨o, e, .int d rfl⟩
      · rw [List.mem_singleton.mp hb]; exact ⟨o', e', .seq d'⟩
    new := fun b hb => by rw [List.mem_singleton.mp hb]; exact F₁.fresh
    apart := fun b hb => by
      rcases List.mem_cons.mp hb with rfl | hb
      · exact F₁.ne_fresh
      · rw [List.mem_singleton.mp hb]; exact ⟨fun m => na (.inr (.inl m)), fun m => na (.inr (.inr m))⟩
    val := fun i v d O'' s'' hv hd K => by
      obtain ⟨v', e', V'⟩ := V.get' i d hd
      rw [show vs.toList[i]? = vs[i]? by simp, hv] at e'
      cases e'
      refine Val.mono (fun b o nb e => ?_) _ _ V'
      have nb' : b ≠ s₁.heap.objs.size := Nat.ne_of_lt (Heap.lt_size e)
      obtain ⟨r1, r2⟩ := K b o (fun m => (List.mem_append.mp m).elim (fun m => nb' (List.mem_singleton.mp m)) (fun m => nb (.inr (.inl m)))) (fun m => nb (.inr (.inr m))) (Heap.get?_push_of_some _ e)
      refine ⟨r1, ?_⟩
      rintro ((m | m) | m | m)
      · exact nb' (List.mem_singleton.mp m)
      · exact nb (.inl m)
      · exact nb (.inr (.inl m))
      · exact r2 m
    lets := fun i s t v Q E ⟨⟨o, e, hc, _⟩, _⟩ q => kinds_of_letgo e hc (by decide) q
    up := fun a o e => Heap.get?_push_of_some _ e
    gens := rfl
    os := rfl }
theorem It_one {o : Obj} {P : Nat → Value → Prop} {St : Nat → Heap → Prop} {tk : Nat} (F : FS c fr σ O s) (W : Walks c.prog c.w fr.A s.heap.objs.size [s.heap.objs.size] [s.heap.objs.size] ds.length P St) (st : St 0 (s.heap.push o))
    (hal : ∀ i h, St i h → ∃ ob T, h.get? s.heap.objs.size = some ob ∧ ob.cls = .type T ∧ (["enumerate", "zip", "dict_itemiterator", "dict_reverseitemiterator", "odict_iterator", "itertools.zip_longest", "itertools.pairwise"] : List String).contains T = false ∧ NoCode ob)
    (hv : ∀ i v d (p : Addr → Prop) h, P i v → ds[i]? = some d → Val p h d v) : It c fr O ds s.heap.objs.size [s.heap.objs.size] s { s with heap := s.heap.push o, toks := tk } [s.heap.objs.size] P St where
  W := W
  st := st
  alive := fun i h x b hb => by rw [List.mem_singleton.mp hb]; obtain ⟨ob, T, e, _, _, nc⟩ := hal i h x; exact ⟨ob, e, nc⟩
  new := fun b hb => by rw [List.mem_singleton.mp hb]; exact F.fresh
  apart := fun b hb => by rw [List.mem_singleton.mp hb]; exact F.ne_fresh
  val := fun i v d O'' s'' hp hd K => hv i v d _ _ hp hd
  lets := fun i s' t v Q E x q => by obtain ⟨ob, T, e, hc, hn, _⟩ := hal i _ x; exact kinds_of_letgo e hc hn q
  up := fun a o e => Heap.get?_push_of_some _ e
  gens := rfl
  os := rfl
theorem EvIt_range {e : Expr} {x y st : Int} {n : Nat} (h : Ev c fr σ O e (.range x y st)) (hs : Builtin.Range.small x y st = true) (hn : Builtin.Range.rangeSize x y st = n) : EvIt c fr σ O e (rng x st n) := by
  intro s F Q E k
  refine h s F _ _ fun v s₁ F₁ K₁ V => ?_
  simp only [Val] at V
  obtain ⟨r, t, u, w, rfl, na, hr⟩ := V
  refine wpAny_pyIter_range hr hs (k _ _ s₁ _ _ _ _ F₁ K₁ (It_one (tk := s₁.toks) (P := fun i v => ∃ t, v = .int (x + i * st) t) (St := fun i h => IsRangeIter h s₁.heap.objs.size (x + (i : Nat) * st) ((n : Int) - (i : Nat)) st) F₁ ?_ ?_ ?_ ?_))
  · have := Walks.range (prog := c.prog) (w := c.w) (A := fr.A) F₁.hand s₁.heap.objs.size x st n
    simpa [rng] using this
  · show IsRangeIter _ _ _ _ _
    rw [hn]; simpa using Heap.get?_push_size _ rfl
  · intro i h hi; exact ⟨_, _, hi, rfl, by decide, .int rfl rfl⟩
  · rintro i v d p h ⟨t, rfl⟩ hd
    simp only [rng, List.getElem?_map] at hd
    cases q : (List.range n)[i]? with
    | none => rw [q] at hd; cases hd
    | some j =>
      rw [q] at hd; cases hd
      have hlt : i < n := by have := (List.getElem?_eq_some_iff.mp q).1; simpa using this
      rw [List.getElem?_range hlt] at q; cases q
      simp only [Val]; exact ⟨t, rfl⟩
def chars (x : Str) : List D := x.cps.toList.map fun k => .str ⟨#[k]⟩
theorem EvIt_str {e : Expr} {x : Str} (h : Ev c fr σ O e (.str x)) : EvIt c fr σ O e (chars x) := by
  intro s F Q E k
  refine h s F _ _ fun v s₁ F₁ K₁ V => ?_
  obtain ⟨t, rfl⟩ := V
  have val : ∀ i v d (p : Addr → Prop) h, SignAt x i v → (chars x)[i]? = some d → Val p h d v := by
    rintro i v d p h ⟨k, u, e1, rfl⟩ hd
    simp only [chars, List.getElem?_map] at hd
    rw [show x.cps.toList[i]? = x.cps[i]? by simp, e1] at hd
    cases hd
    simp only [Val]; exact ⟨u, rfl⟩
  have len : (chars x).length = x.cps.size := by simp [chars]
  cases ha : x.cps.all (· < 128)
  · refine wpAny_pyIter_wide ha (k _ _ s₁ _ _ _ _ F₁ K₁ (It_one (tk := s₁.toks) (P := SignAt x) (St := fun i h => h.IsStrIter s₁.heap.objs.size "str_iterator" x t i) F₁ ?_ ⟨_, Heap.get?_push_size _ rfl, rfl, rfl⟩ ?_ val))
    · rw [len]; exact Walks.strWide F₁.hand _ x t
    · rintro i h ⟨o, e, hc, d⟩; exact ⟨o, _, e, hc, by decide, .int d rfl⟩
  · refine wpAny_pyIter_ascii ha (k _ _ s₁ _ _ _ _ F₁ K₁ (It_one (tk := s₁.toks) (P := SignAt x) (St := fun i h => h.IsStrIter s₁.heap.objs.size "str_ascii_iterator" x t i) F₁ ?_ ⟨_, Heap.get?_push_size _ rfl, rfl, rfl⟩ ?_ val))
    · rw [len]; exact Walks.strAscii F₁.hand _ x t
    · rintro i h ⟨o, e, hc, d⟩; exact ⟨o, _, e, hc, by decide, .int d rfl⟩
theorem EvIt_reversed {f : Str} {np pos : Pos} {e : Expr} (hf : Ev c fr σ O (.Name f np) (.raw (.type "reversed"))) (h : Ev c fr σ O e (.list ds)) (hns : noStar [e] = true := by rfl) : EvIt c fr σ O (.Call (.Name f np) [e] [] pos) ds.reverse := by
  intro s F Q E k
  refine wpAny_Call_ofName (hf s F _ _ fun v s₁ F₁ K₁ V₁ => ?_)
  simp only [Val] at V₁; subst V₁
  refine callWith_ Keep_type (EvL.cons h .nil) hns F₁ fun vs s₂ F₂ K₂ V₂ => ?_
  obtain ⟨_, rfl, W⟩ := V₂.one_
  obtain ⟨l, vs, rfl, na, ⟨n, g⟩, hl, V⟩ := list_of W
  have hne : l ≠ s₂.heap.objs.size := Nat.ne_of_lt (Heap.lt_size g)
  refine call_reversed_list hl ?_
  have hit : (s₂.heap.push (revObj l ((vs.size : Int) - 1))).IsRevIter s₂.heap.objs.size l ((vs.size : Int) - 1) := ⟨_, Heap.get?_push_size _ rfl, rfl, rfl⟩
  refine wpAny_pyIter_revIter hit (k _ [s₂.heap.objs.size] s₂ _ [s₂.heap.objs.size, l] (fun i v => vs[vs.size - 1 - i]? = some v) (fun i h => i ≤ vs.size ∧ h.IsRevIter s₂.heap.objs.size l ((vs.size : Int) - 1 - (i : Int)) ∧ h.IsList l vs) F₂ (K₁.trans K₂) ?_)
  have hlen : vs.size = ds.reverse.length := by rw [List.length_reverse, ← V.length]; simp
  have W := Walks.listRev (prog := c.prog) (w := c.w) (A := fr.A) F₂.hand s₂.heap.objs.size l hne vs
  rw [show Walks c.prog c.w fr.A s₂.heap.objs.size [s₂.heap.objs.size, l] [s₂.heap.objs.size] vs.size (fun i v => vs[vs.size - 1 - i]? = some v) (fun i h => i ≤ vs.size ∧ h.IsRevIter s₂.heap.objs.size l ((vs.size : Int) - 1 - (i : Int)) ∧ h.IsList l vs) =
    Walks c.prog c.w fr.A s₂.heap.objs.size [s₂.heap.objs.size, l] [s₂.heap.objs.size] ds.reverse.length (fun i v => vs[vs.size - 1 - i]? = some v) (fun i h => i ≤ vs.size ∧ h.IsRevIter s₂.heap.objs.size l ((vs.size : Int) - 1 - (i : Int)) ∧ h.IsList l vs) by rw [← hlen]] at W
  exact {
    W := W
    st := ⟨Nat.zero_le _, by simpa using hit, ⟨_, Heap.get?_push_of_some _ g, rfl, n, rfl⟩⟩
    alive := fun i h ⟨_, ⟨o, e, _, d⟩, ⟨o', e', _, n', d'⟩⟩ b hb => by
      rcases List.mem_cons.mp hb with rfl | hb
      · exact ⟨o, e, .int d rfl⟩
      · rw [List.mem_singleton.mp hb]; exact ⟨o', e', .seq d'⟩
    new := fun b hb => by rw [List.mem_singleton.mp hb]; exact F₂.fresh
    apart := fun b hb => by
      rcases List.mem_cons.mp hb with rfl | hb
      · exact F₂.ne_fresh
      · rw [List.mem_singleton.mp hb]; exact ⟨fun m => na (.inr (.inl m)), fun m => na (.inr (.inr m))⟩
    val := fun i v d O'' s'' hv hd K => by
      have hi : i < ds.length := by have := (List.getElem?_eq_some_iff.mp hd).1; simpa using this
      have hs : vs.size = ds.length := by rw [hlen]; simp
      rw [List.getElem?_reverse hi] at hd
      obtain ⟨v', e', V'⟩ := V.get' _ d hd
      rw [show vs.toList[ds.length - 1 - i]? = vs[vs.size - 1 - i]? by simp [hs], hv] at e'
      cases e'
      refine Val.mono (fun b o nb e => ?_) _ _ V'
      have nb' : b ≠ s₂.heap.objs.size := Nat.ne_of_lt (Heap.lt_size e)
      obtain ⟨r1, r2⟩ := K b o (fun m => (List.mem_append.mp m).elim (fun m => nb' (List.mem_singleton.mp m)) (fun m => nb (.inr (.inl m)))) (fun m => nb (.inr (.inr m))) (Heap.get?_push_of_some _ e)
      refine ⟨r1, ?_⟩
      rintro ((m | m) | m | m)
      · exact nb' (List.mem_singleton.mp m)
      · exact nb (.inl m)
      · exact nb (.inr (.inl m))
      · exact r2 m
    lets := fun i s t v Q E ⟨_, ⟨o, e, hc, _⟩, _⟩ q => kinds_of_letgo e hc (by decide) q
    up := fun a o e => Heap.get?_push_of_some _ e
    gens := rfl
    os := rfl }
theorem CmpD_notin {x y : Str} : CmpD c fr .NotIn (.str y) (.str x) (!Txt.contains x y) := by
  rintro σ O s _ _ F ⟨t, rfl⟩ ⟨u, rfl⟩ Q E k
  exact P.notIn_str (k _ F Kept.refl)
theorem TruD_str {x : Str} (h : x.length ≤ 2 ^ 24) : TruD c fr (.str x) ((x.length : Int) != 0) := by
  rintro σ O s _ F ⟨t, rfl⟩ Q E k
  exact P.truthy_str (by (first | lia | omega)) (k _ F.toks Kept.refl)
theorem TruD_int {i : Int} : TruD c fr (.int i) (i != 0) := by
  rintro σ O s _ F ⟨t, rfl⟩ Q E k
  exact PyProof.Rows.truthy_int (k _ F Kept.refl)
theorem BinD_muls {x : Str} {n : Int} (h : MulOk x n) : BinD c fr .Mult (.str x) (.int n) (.str (Txt.mul x n)) := by
  rintro σ O s _ _ F ⟨t, rfl⟩ ⟨u, rfl⟩ Q E k
  exact SB.mul h fun t' tk => k _ _ F.toks Kept.refl ⟨_, rfl⟩
theorem MethOn_str {x : Str} {name : Str} {id : String} (h1 : Slot "str" name id) (h2 : typeOf (Value.builtin id) = pure (Value.type "method_descriptor")) : MethOn c fr (.str x) name id :=
  ⟨"str", F.plainAttrs_str, h1, h2, fun O s v _ ⟨t, e⟩ => by subst e; exact ⟨typeIs_str _ _ _, fun a h => by cases h⟩⟩
theorem MethOn_int {x : Int} {name : Str} {id : String} (h1 : Slot "int" name id) (h2 : typeOf (Value.builtin id) = pure (Value.type "method_descriptor")) : MethOn c fr (.int x) name id :=
  ⟨"int", F.plainAttrs_int, h1, h2, fun O s v _ ⟨t, e⟩ => by subst e; exact ⟨typeIs_int _ _ _, fun a h => by cases h⟩⟩
theorem MethOn_list {name : Str} {id : String} (h1 : Slot "list" name id) (h2 : typeOf (Value.builtin id) = pure (Value.type "method_descriptor")) : MethOn c fr (.list ds) name id :=
  ⟨"list", F.plainAttrs_list, h1, h2, fun O s v _ V => by
    obtain ⟨l, vs, rfl, na, ⟨n, g⟩, _⟩ := list_of V
    exact ⟨⟨_, g, rfl⟩, fun a h => by cases h; exact ⟨_, g, rfl⟩⟩⟩
theorem CallD_startswith {x y : Str} : CallD c fr (.builtin "str.startswith") [.str x, .str y] (.bool (Txt.startswith x y)) := by
  intro σ O s vs F V Q E k
  obtain ⟨_, _, rfl, ⟨t, rfl⟩, ⟨u, rfl⟩⟩ := V.two_
  exact SC.startswith (k _ _ F Kept.refl rfl)
theorem CallD_endswith {x y : Str} : CallD c fr (.builtin "str.endswith") [.str x, .str y] (.bool (Txt.endswith x y)) := by
  intro σ O s vs F V Q E k
  obtain ⟨_, _, rfl, ⟨t, rfl⟩, ⟨u, rfl⟩⟩ := V.two_
  exact SC.endswith (k _ _ F Kept.refl rfl)
def find4 (x y : Str) (i j : Int) : Int := match Builtin.Str.occurrences x y (fromIndex x.length i) (min (fromIndex x.length j) x.length) 1 with | k :: _ => (k : Int) | [] => -1
theorem gives_find4 (x y : Str) (i j : Int) (t u v w : Tok) : Gives (Builtin.«str.find» ⟨[.str x t, .str y u, .int i v, .int j w], []⟩) (.int (find4 x y i j)) := by
  show Gives (match Builtin.Str.occurrences x y (fromIndex x.length i) (min (fromIndex x.length j) x.length) 1 with | k :: _ => retInt k | [] => (do rule "str.find.not-found"; retInt (-1))) _
  unfold find4
  cases Builtin.Str.occurrences x y (fromIndex x.length i) (min (fromIndex x.length j) x.length) 1 with
  | nil => exact .rule (.of_eq rfl)
  | cons k _ => exact .of_eq rfl
theorem CallD_find4 {x y : Str} {i j : Int} : CallD c fr (.builtin "str.find") [.str x, .str y, .int i, .int j] (.int (find4 x y i j)) := by
  intro σ O s vs F V Q E k
  obtain ⟨_, _, _, _, rfl, ⟨t, rfl⟩, ⟨u, rfl⟩, ⟨v, rfl⟩, ⟨w, rfl⟩⟩ := V.four_
  exact call_gives PySem.F.slot_str_find (typeIs_str _ _ _) PySem.F.entry_str_find (PySem.F.args_str_find_4 _ _ _ _) (gives_find4 x y i j t u v w) (k _ _ F.toks Kept.refl ⟨_, rfl⟩)
theorem CallD_bit_length {x : Int} : CallD c fr (.builtin "int.bit_length") [.int x] (.int (Builtin.Int.intBits x)) := by
  intro σ O s vs F V Q E k
  obtain ⟨_, rfl, ⟨t, rfl⟩⟩ := V.one_
  exact call_int_bit_length (k _ _ F.toks Kept.refl ⟨_, rfl⟩)
theorem strs_of {p : Addr → Prop} {h : Heap} : ∀ (xs : List Str) (us : List Value), Vals p h (xs.map .str) us → ∃ ps : List (Str × Tok), ps.map (·.1) = xs ∧ us = strValues ps
  | [], us, V => by simp only [List.map_nil, Vals] at V; subst V; exact ⟨[], rfl, rfl⟩
  | y :: ys, us, V => by
    simp only [List.map_cons, Vals, Val] at V
    obtain ⟨v, r, rfl, ⟨t', rfl⟩, V''⟩ := V
    obtain ⟨ps, h1, h2⟩ := strs_of ys r V''
    exact ⟨(y, t') :: ps, by simp [h1], by simp [strValues, h2]⟩
theorem CallD_join {sep : Str} {xs : List Str} (hz : Builtin.Str.tooLong (xs.toArray.foldl (· + ·.length + sep.length) 0) = false) : CallD c fr (.builtin "str.join") [.str sep, .list (xs.map .str)] (.str (Txt.join sep xs)) := by
  intro σ O s vs F V Q E k
  obtain ⟨_, _, rfl, ⟨t, rfl⟩, W⟩ := V.two_
  obtain ⟨l, vs, rfl, na, _, hl, V⟩ := list_of W
  obtain ⟨ps, h1, h2⟩ := strs_of xs vs.toList V
  have hl' : s.heap.IsList l (strValues ps).toArray := by rw [← h2]; simpa using hl
  subst h1
  refine call_meets PySem.F.slot_str_join (typeIs_str _ _ _) PySem.F.entry_str_join (PySem.F.args_str_join_2 _ _) (meets_str_join_list sep t l ps hz) ⟨hl', ?_⟩
  exact post_join ps ⟨joinFit_length hz, fun t' tk => k _ { s with toks := tk } F.toks Kept.refl ⟨_, rfl⟩⟩
theorem Ev_subscript {e i : Expr} {pos : Pos} {d x r : D} (he : Ev c fr σ O e d) (hi : Ev c fr σ O i x)
    (h : ∀ s v u, FS c fr σ O s → Val (av fr O) s.heap d v → Val (av fr O) s.heap x u → ∀ (Q E : Value → Shared → Prop), (∀ w s', FS c fr σ O s' → Kept fr O s O s' → Val (av fr O) s'.heap r w → Q w s') → wpAny c.M fr.A (subscriptTail e i v u) Q E s) : Ev c fr σ O (.Subscript e i pos) r := by
  intro s F Q E k
  exact Subscript_ (he s F _ _ fun v s₁ F₁ K₁ V₁ => hi s₁ F₁ _ _ fun u s₂ F₂ K₂ V₂ => h s₂ v u F₂ (K₂.val V₁) V₂ _ _ fun w s₃ F₃ K₃ V₃ => k w s₃ F₃ ((K₁.trans K₂).trans K₃) V₃)
def At (n : Nat) (i : Int) (j : Nat) : Prop := (0 ≤ i ∧ i = j) ∨ (i < 0 ∧ i + n = j)
theorem Ev_item {e i : Expr} {pos : Pos} {k : Int} {j : Nat} {d : D} (he : Ev c fr σ O e (.list ds)) (hi : Ev c fr σ O i (.int k)) (hj : At ds.length k j) (hd : ds[j]? = some d) (hz : ds.length ≤ 2 ^ 24)
    (hs : ∀ o v : Value, subscripted i false o v = operate [o, v] (getItem o v) := by intro _ _; rfl) : Ev c fr σ O (.Subscript e i pos) d := by
  refine Ev_subscript he hi fun s v u F V U Q E kk => ?_
  obtain ⟨t, rfl⟩ := U
  obtain ⟨l, vs, rfl, na, _, hl, V⟩ := list_of V
  have hlen : vs.size = ds.length := by rw [← V.length]; simp
  obtain ⟨w, hw, Vw⟩ := V.get' j d hd
  have hjl : j < ds.length := (List.getElem?_eq_some_iff.mp hd).1
  have hw' : vs[j]? = some w := by simpa using hw
  refine tail_any hl.typeIs slot_list_getitem.lookup ?_ (hs _ _)
  rcases hj with ⟨h0, hj⟩ | ⟨h0, hj⟩
  · exact wpAny_getItem_list hl h0 (by (first | lia | omega)) (by rw [show k.toNat = j by (first | lia | omega)]; exact hw') (kk w s F Kept.refl Vw)
  · refine wpAny_getItem_list_neg hl h0 (by (first | lia | omega)) (by (first | lia | omega)) (by rw [hlen, hj]; simpa using hw') (kk w s F Kept.refl Vw)
theorem Ev_itemT {e i : Expr} {pos : Pos} {k : Int} {j : Nat} {d : D} (he : Ev c fr σ O e (.tuple ds)) (hi : Ev c fr σ O i (.int k)) (hj : At ds.length k j) (hd : ds[j]? = some d) (hz : ds.length ≤ 2 ^ 24)
    (hs : ∀ o v : Value, subscripted i false o v = operate [o, v] (getItem o v) := by intro _ _; rfl) : Ev c fr σ O (.Subscript e i pos) d := by
  refine Ev_subscript he hi fun s v u F V U Q E kk => ?_
  obtain ⟨t, rfl⟩ := U
  obtain ⟨l, vs, rfl, na, hl, V, n, g⟩ := tuple_of V
  have hlen : vs.toList.length = ds.length := V.length
  obtain ⟨w, hw, Vw⟩ := V.get' j d hd
  have hjl : j < ds.length := (List.getElem?_eq_some_iff.mp hd).1
  refine item_tupleT (l := vs.toList) (j := j) (by show IsTup _ _ _; simpa using (show IsTup s.heap l vs from hl)) (by rcases hj with h | h <;> (first | lia | omega)) (by rcases hj with h | h <;> (first | lia | omega)) ?_ hw (kk w s F Kept.refl Vw) (hs _ _)
  have hj' : (if k < 0 then k + (vs.toList.length : Int) else k) = (j : Int) := by
    rw [hlen]
    rcases hj with ⟨h0, hj⟩ | ⟨h0, hj⟩
    · rw [if_neg (by (first | lia | omega))]; exact hj
    · rw [if_pos h0]; exact hj
  unfold seqIndex?
  simp only [hj']
  rw [hlen]
  simp
  (first | lia | omega)
end
end Mine
end
section
open PySem PySem.W PyProof.Rows PySem.Calls PyProof.V PySem.Spec
namespace Mine
section
variable {c : Cx} {fr : FX} {σ σ' : Store} {O O' : Owns} {s s' : Shared} {a : Addr} {ds ds' : List D}
theorem FS.mapSeq {f : Array Value → Array Value} {tk : Nat} {ws : Array Value} {n : Nat} (F : FS c fr σ ((a, ds) :: O) s) (e : s.heap.get? a = some { cls := .type "list", data := .seq ws n })
    (V : Vals (av fr ((a, ds) :: O)) s.heap ds' (f ws).toList) : FS c fr σ ((a, ds') :: O) { s with heap := s.heap.update a (Obj.mapSeq f), toks := tk } ∧ Kept fr ((a, ds) :: O) s ((a, ds') :: O) { s with heap := s.heap.update a (Obj.mapSeq f), toks := tk } :=
  F.setown (n := if (f ws).size == ws.size then n else n + 1) (Heap.SameBut.update ..) (Heap.get?_update_self _ e rfl) V
theorem MethO_reverse (hz : ds.length ≤ 2 ^ 24) : MethO c fr O a ds "list.reverse" [] ds.reverse := by
  intro σ s vs F V Q E k
  simp only [Vals] at V; subst V
  obtain ⟨ws, n, e, U⟩ := F.owns _ (List.mem_cons_self ..)
  have e1 : ws.size = ds.length := by rw [← U.length]; simp
  refine call_meets PySem.F.slot_list_reverse ⟨_, e, rfl⟩ PySem.F.entry_list_reverse (PySem.F.args_list_reverse_1 _) (AutoSeq1.list_reverse_list_0 a ws n (by rw [e1]; exact hz)) ⟨e, ?_⟩
  obtain ⟨F', K'⟩ := F.mapSeq (f := fun x => x.reverse) (tk := s.toks) (ds' := ds.reverse) e (by
    simp only [Array.toList_reverse]
    refine Vals.of_get (by simp [U.length]) fun i d v h1 h2 => ?_
    have hi : i < ds.length := by have := (List.getElem?_eq_some_iff.mp h1).1; simpa using this
    rw [List.getElem?_reverse hi] at h1
    rw [List.getElem?_reverse (by rw [U.length]; exact hi), U.length] at h2
    obtain ⟨v', e', V'⟩ := U.get' _ d h1
    rw [h2] at e'; cases e'
    exact V')
  exact k _ _ F' K'
theorem Vals.take {p : Addr → Prop} {h : Heap} : ∀ {ds : List D} {vs : List Value}, Vals p h ds vs → ∀ n, Vals p h (ds.take n) (vs.take n)
  | [], vs, V, n => by simp only [Vals] at V; subst V; simp [Vals]
  | d :: ds, vs, V, 0 => by simp [Vals]
  | d :: ds, vs, V, n + 1 => by
    simp only [Vals] at V
    obtain ⟨v, r, rfl, x, y⟩ := V
    simp only [List.take_succ_cons]
    exact Vals.cons x (Vals.take y n)
theorem Vals.drop {p : Addr → Prop} {h : Heap} : ∀ {ds : List D} {vs : List Value}, Vals p h ds vs → ∀ n, Vals p h (ds.drop n) (vs.drop n)
  | [], vs, V, n => by simp only [Vals] at V; subst V; simp [Vals]
  | d :: ds, vs, V, 0 => by simpa using V
  | d :: ds, vs, V, n + 1 => by
    simp only [Vals] at V
    obtain ⟨v, r, rfl, x, y⟩ := V
    simp only [List.drop_succ_cons]
    exact Vals.drop y n
theorem Vals.erase {p : Addr → Prop} {h : Heap} {vs : Array Value} (V : Vals p h ds vs.toList) (n : Nat) (hn : n < ds.length) : Vals p h (ds.eraseIdx n) (vs.eraseIdxIfInBounds n).toList := by
  have hs : n < vs.size := by rw [← Array.length_toList, V.length]; exact hn
  have e : (vs.eraseIdxIfInBounds n).toList = vs.toList.eraseIdx n := by
    simp [Array.eraseIdxIfInBounds, hs]
  rw [e, List.eraseIdx_eq_take_drop_succ, List.eraseIdx_eq_take_drop_succ]
  exact (V.take n).append (V.drop (n + 1))
theorem MethO_pop (h0 : 0 < ds.length) (hz : ds.length ≤ 2 ^ 24) : MethO c fr O a ds "list.pop" [] (ds.eraseIdx (ds.length - 1)) := by
  intro σ s vs F V Q E k
  simp only [Vals] at V; subst V
  obtain ⟨ws, n, e, U⟩ := F.owns _ (List.mem_cons_self ..)
  have e1 : ws.size = ds.length := by rw [← U.length]; simp
  refine call_meets PySem.F.slot_list_pop ⟨_, e, rfl⟩ PySem.F.entry_list_pop (PySem.F.args_list_pop_1 _) (MeetsSeq.list_pop_last a ws n (ws[ws.size - 1]'(by (first | lia | omega))) (Array.getElem?_eq_getElem (by (first | lia | omega))) (by rw [e1]; exact hz)) ⟨e, ?_⟩
  obtain ⟨F', K'⟩ := F.mapSeq (f := fun xs => xs.eraseIdxIfInBounds (ws.size - 1)) (tk := s.toks) (ds' := ds.eraseIdx (ds.length - 1)) e (by rw [e1]; exact U.erase (ds := ds) _ (Nat.sub_lt h0 Nat.one_pos))
  exact k _ _ F' K'
theorem MethO_extend {es : List D} (hz : ds.length + es.length ≤ 2 ^ 24) : MethO c fr O a ds "list.extend" [.list es] (ds ++ es) := by
  intro σ s vs F V Q E k
  obtain ⟨v, rfl, W⟩ := V.one_
  obtain ⟨ws, n, e, U⟩ := F.owns _ (List.mem_cons_self ..)
  obtain ⟨l, us, rfl, na, ⟨m, g⟩, hl, U2⟩ := list_of W
  have e1 : ws.size = ds.length := by rw [← U.length]; simp
  have e2 : us.size = es.length := by rw [← U2.length]; simp
  refine call_meets PySem.F.slot_list_extend ⟨_, e, rfl⟩ PySem.F.entry_list_extend (PySem.F.args_list_extend_2 _ _) (AutoSeq1.list_extend_list_list_0 a ws n l us m ?_ (by rw [e1]; show ds.length ≤ 2 ^ 24; (first | lia | omega)) (by rw [e1, e2]; show ds.length + es.length ≤ 2 ^ 24 + 1; (first | lia | omega))) ⟨e, g, ?_⟩
  · have : Builtin.List.listTooLong (ws.size + us.size) = false := by
      simp [Builtin.List.listTooLong, sizeLine, e1, e2]; (first | lia | omega)
    rw [this]; simp
  · obtain ⟨F', K'⟩ := F.mapSeq (f := fun x => x ++ us) (tk := s.toks) (ds' := ds ++ es) e (by simpa using U.append U2)
    exact k _ _ F' K'
theorem Ex1_delO {x : Str} {xp p pos : Pos} {i : Expr} {k : Int} {j : Nat} {P : Post} (hx : Ev c fr σ ((a, ds) :: O) (.Name x xp) (.raw (.ref a))) (hi : Ev c fr σ ((a, ds) :: O) i (.int k)) (hj : At ds.length k j) (hjl : j < ds.length) (hz : ds.length ≤ 2 ^ 24) (kk : P .next σ ((a, ds.eraseIdx j) :: O)) :
    Ex1 c fr σ ((a, ds) :: O) (.Delete [.Subscript (.Name x xp) i p] pos) P := by
  intro s F Q E fin
  refine wpAny_Delete (wpAny_deleteEach_cons (wpAny_delete_Subscript (hx s F _ _ fun v s₁ F₁ K₁ V₁ => hi s₁ F₁ _ _ fun u s₂ F₂ K₂ V₂ => ?_)))
  simp only [Val] at V₁; subst V₁
  obtain ⟨t, rfl⟩ := V₂
  obtain ⟨ws, n, e, U⟩ := F₂.owns _ (List.mem_cons_self ..)
  have e1 : ws.size = ds.length := by rw [← U.length]; simp
  refine wpAny_delItem_plain (k := j) ⟨n, e⟩ ?_ ?_ (fun h' ⟨m, hl⟩ hs => ?_) (by rw [e1]; exact hz)
  · have h1 : -(2 ^ 63 : Int) ≤ k := by rcases hj with h | h <;> (first | lia | omega)
    have h2 : k < 2 ^ 63 := by rcases hj with h | h <;> (first | lia | omega)
    simp [Builtin.List.listFitsIndex]; (first | lia | omega)
  · have hj' : (if k < 0 then k + (ws.size : Int) else k) = (j : Int) := by
      rw [e1]
      rcases hj with ⟨h0, hj⟩ | ⟨h0, hj⟩
      · rw [if_neg (by (first | lia | omega))]; exact hj
      · rw [if_pos h0]; exact hj
    unfold seqIndex?
    simp only [hj']
    rw [e1]; simp; (first | lia | omega)
  · obtain ⟨F', K'⟩ := F₂.setown (ds' := ds.eraseIdx j) (tk := s₂.toks) hs hl (U.erase j hjl)
    exact wpAny_deleteEach_nil (fin .next .next _ _ _ F' ((K₁.trans K₂).trans K') rfl kk)
theorem Vals.set {p : Addr → Prop} {h : Heap} {vs : Array Value} {d : D} {v : Value} (V : Vals p h ds vs.toList) (x : Val p h d v) (n : Nat) (hn : n < ds.length) : Vals p h (ds.set n d) (vs.setIfInBounds n v).toList := by
  rw [Array.toList_setIfInBounds]
  refine Vals.of_get (by simp [V.length]) fun i d' v' h1 h2 => ?_
  rw [List.getElem?_set] at h1 h2
  by_cases q : n = i
  · subst q
    simp only [if_true, hn] at h1
    simp only [if_true, V.length, hn] at h2
    cases h1; cases h2; exact x
  · simp only [q, if_false] at h1 h2
    obtain ⟨u, e', V'⟩ := V.get' _ d' h1
    rw [h2] at e'; cases e'
    exact V'
theorem Ex1_setO {x : Str} {xp p pos : Pos} {i e : Expr} {k : Int} {j : Nat} {d : D} {P : Post} (he : Ev c fr σ ((a, ds) :: O) e d) (hx : Ev c fr σ ((a, ds) :: O) (.Name x xp) (.raw (.ref a))) (hi : Ev c fr σ ((a, ds) :: O) i (.int k)) (h0 : k = j) (hjl : j < ds.length) (hz : ds.length ≤ 2 ^ 24) (kk : P .next σ ((a, ds.set j d) :: O))
    (hw : swapsWith e (some (.Subscript (.Name x xp) i p)) pos.line fr.env = pure false := by rfl) : Ex1 c fr σ ((a, ds) :: O) (.Assign [.Subscript (.Name x xp) i p] e pos) P := by
  intro s F Q E fin
  refine wpAny_Assign_Subscript (he s F _ _ fun w s₁ F₁ K₁ V₁ => hx s₁ F₁ _ _ fun v s₂ F₂ K₂ V₂ => hi s₂ F₂ _ _ fun u s₃ F₃ K₃ V₃ => ?_) hw
  simp only [Val] at V₂; subst V₂
  obtain ⟨t, rfl⟩ := V₃
  obtain ⟨ws, n, e0, U⟩ := F₃.owns _ (List.mem_cons_self ..)
  have e1 : ws.size = ds.length := by rw [← U.length]; simp
  refine ki_setAt (k := k) e0 (by (first | lia | omega)) (by (first | lia | omega)) (by (first | lia | omega)) ?_
  obtain ⟨F', K'⟩ := F₃.mapSeq (f := fun xs => xs.setIfInBounds k.toNat w) (tk := s₃.toks) (ds' := ds.set j d) e0 (by
    rw [show k.toNat = j by (first | lia | omega)]; exact U.set (K₃.val (K₂.val V₁)) j hjl)
  exact fin .next .next _ _ _ F' (((K₁.trans K₂).trans K₃).trans K') rfl kk
theorem Ev_itemO {x : Str} {xp pos : Pos} {i : Expr} {k : Int} {j : Nat} {d : D} (ha : (a, ds) ∈ O) (hx : Ev c fr σ O (.Name x xp) (.raw (.ref a))) (hi : Ev c fr σ O i (.int k)) (hj : At ds.length k j) (hd : ds[j]? = some d) (hz : ds.length ≤ 2 ^ 24)
    (hs : ∀ o v : Value, subscripted i false o v = operate [o, v] (getItem o v) := by intro _ _; rfl) : Ev c fr σ O (.Subscript (.Name x xp) i pos) d := by
  refine Ev_subscript hx hi fun s v u F V U Q E kk => ?_
  simp only [Val] at V; subst V
  obtain ⟨t, rfl⟩ := U
  obtain ⟨vs, n, e, V⟩ := F.owns _ ha
  have hl : s.heap.IsList a vs := ⟨_, e, rfl, n, rfl⟩
  have hlen : vs.size = ds.length := by rw [← V.length]; simp
  obtain ⟨w, hw, Vw⟩ := V.get' j d hd
  have hjl : j < ds.length := (List.getElem?_eq_some_iff.mp hd).1
  have hw' : vs[j]? = some w := by simpa using hw
  refine tail_any hl.typeIs slot_list_getitem.lookup ?_ (hs _ _)
  rcases hj with ⟨h0, hj⟩ | ⟨h0, hj⟩
  · exact wpAny_getItem_list hl h0 (by (first | lia | omega)) (by rw [show k.toNat = j by (first | lia | omega)]; exact hw') (kk w s F Kept.refl Vw)
  · refine wpAny_getItem_list_neg hl h0 (by (first | lia | omega)) (by (first | lia | omega)) (by rw [hlen, hj]; simpa using hw') (kk w s F Kept.refl Vw)
def CallN (c : Cx) (fr : FX) (f : Value) (args : List D) (ds : List D) : Prop :=
  ∀ (σ : Store) (O : Owns) s vs, FS c fr σ O s → Vals (av fr O) s.heap args vs → ∀ (Q E : Value → Shared → Prop), (∀ a s', FS c fr σ ((a, ds) :: O) s' → Kept fr O s ((a, ds) :: O) s' → Q (.ref a) s') → wpAny c.M fr.A (call f vs) Q E s
theorem EvN_call {x : Str} {np pos : Pos} {es : List Expr} {f : Value} {args : List D} (hf : Ev c fr σ O (.Name x np) (.raw f)) (hk : Keep c f) (h : EvL c fr σ O es args) (hc : CallN c fr f args ds) (hs : noStar es = true := by rfl) : EvN c fr σ O (.Call (.Name x np) es [] pos) ds := by
  intro s F Q E k
  refine wpAny_Call_ofName (hf s F _ _ fun v s₁ F₁ K₁ V₁ => ?_)
  simp only [Val] at V₁; subst V₁
  exact callWith_ hk h hs F₁ fun vs s₂ F₂ K₂ V₂ => hc σ O s₂ vs F₂ V₂ _ _ fun r s₃ F₃ K₃ => k r s₃ F₃ ((K₁.trans K₂).trans K₃)
theorem EvN_meth {o : Expr} {name : Str} {apos pos : Pos} {es : List Expr} {id : String} {d : D} {args : List D} (ho : Ev c fr σ O o d) (hm : MethOn c fr d name id) (h : EvL c fr σ O es args) (hc : CallN c fr (.builtin id) (d :: args) ds)
    (hs : noStar es = true := by rfl) (hb : attributeBase o name fr.env (eval o fr.env) = eval o fr.env := by rfl) (hl : decide (es.length < 29) = true := by rfl) (hp : (apos.endLine == pos.line) = true := by rfl) :
    EvN c fr σ O (.Call (.Attribute o name apos) es [] pos) ds := by
  intro s F Q E k
  obtain ⟨T, h1, h2, h3, h4⟩ := hm
  refine wpAny_Call_method hb ?_ hp h1 h2 h3 (ho s F _ _ fun v s₁ F₁ K₁ V₁ => ?_)
  · rw [starEach_plain hs]
    have : es.length < 29 := of_decide_eq_true hl
    simp [backTo, backToKw, keywordEach]; (first | lia | omega)
  · obtain ⟨t1, t2⟩ := h4 O s₁ v ⟨σ, F₁⟩ V₁
    refine ⟨t1, t2, ?_⟩
    exact callWith_ Keep_builtin h hs F₁ fun vs s₂ F₂ K₂ V₂ => hc σ O s₂ (v :: vs) F₂ (Vals.cons (K₂.val V₁) V₂) _ _ fun r s₃ F₃ K₃ => k r s₃ F₃ ((K₁.trans K₂).trans K₃)
theorem FS.ownL {vs : Array Value} {n : Nat} (F : FS c fr σ O s) (G : FS c fr σ O s') (K : Kept fr O s O s') (up : ∀ b o, b ≠ fr.env.locals → s.heap.get? b = some o → s'.heap.get? b = some o) (dead : s.heap.get? a = none)
    (e : s'.heap.get? a = some { cls := .type "list", data := .seq vs n }) (V : Vals (av fr O) s.heap ds vs.toList) (hns : ∀ m, s.heap.Ns fr.env.locals m → s'.heap.Ns fr.env.locals m) : FS c fr σ ((a, ds) :: O) s' ∧ Kept fr O s ((a, ds) :: O) s' := by
  obtain ⟨m, hm⟩ := F.Lns
  have mm : ∀ b o, ¬ av fr O b → s.heap.get? b = some o → s'.heap.get? b = some o ∧ ¬ av fr ((a, ds) :: O) b := fun b o na e1 => ⟨up _ _ (fun q => na (.inr (.inl (q ▸ F.Lown)))) e1, fun k => by
    rcases av_cons.mp k with k | k
    · rw [k, dead] at e1; cases e1
    · exact na k⟩
  have na := F.new_av dead
  refine ⟨{
    wi := G.wi
    kind := F.kind
    glob := F.glob
    blt := F.blt
    hand := F.hand
    room := F.room
    own0 := F.own0
    o0 := fun b h => by
      rcases List.mem_cons.mp h with h | h
      · rw [h]; exact F.hwfresh dead
      · exact F.o0 b h
    tabown := F.tabown
    Lown := F.Lown
    Lns := G.Lns
    inj := F.inj
    calive := G.calive
    cfree := F.cfree
    mown := F.mown
    oo := F.oo
    out0 := F.out0
    outal := G.outal
    oout := fun b h k => by
      rcases List.mem_cons.mp h with h | h
      · exact na (.inl ((show b = a from h) ▸ k))
      · exact F.oout b h k
    ownal := G.ownal
    vars := fun p hp => (F.vars p hp).mono hns (fun _ b v _ h => by
      obtain ⟨o, e1, r⟩ := id h
      exact ⟨o, up _ _ (ns_ne_cell hm h) e1, r⟩) (fun v h => Val.mono mm _ _ h)
    owns := fun q hq => by
      rcases List.mem_cons.mp hq with h | h
      · rw [h]; exact ⟨vs, n, e, Vals.mono mm _ _ V⟩
      · obtain ⟨ws, k, e1, w⟩ := F.owns q h; exact ⟨ws, k, up _ _ (fun q => F.odis _ (List.mem_map_of_mem h) (q ▸ F.Lown)) e1, Vals.mono mm _ _ w⟩
    nodup := List.nodup_cons.mpr ⟨fun h => na (.inr (.inr h)), F.nodup⟩
    odis := fun b h k => by
      rcases List.mem_cons.mp h with h | h
      · exact na (.inr (.inl ((show b = a from h) ▸ k)))
      · exact F.odis b h k }, fun b o h1 h2 e1 => ⟨(K b o h1 h2 e1).1, fun h => by
      rcases List.mem_cons.mp h with h | h
      · rw [show b = a from h, dead] at e1; cases e1
      · exact h2 h⟩⟩
theorem CallN_split {x y : Str} (hy : (y.length == 0) = false) (hz : x.length + 2 ≤ 2 ^ 24) : CallN c fr (.builtin "str.split") [.str x, .str y] ((Txt.split x y).map .str) := by
  intro σ O s vs F V Q E k
  obtain ⟨_, _, rfl, ⟨t, rfl⟩, ⟨u, rfl⟩⟩ := V.two_
  obtain ⟨m, Fm, N, ad⟩ := F.adapt
  refine KSpl.split1 Fm N hy (fun D' l h' tk hl hst F' N' lt => ?_) hz
  obtain ⟨F2, K2, vm⟩ := ad h' tk F' (Mine.News.tl N')
  have eD : h'.get? D' = some { cls := .type "list", data := .seq (strValues l).toArray 0 } := Mine.News.hd N'
  have dead : s.heap.get? D' = none := by
    cases q : s.heap.get? D' with
    | none => rfl
    | some o => exact absurd (lt _ (mem_allNews (N' _ (List.mem_cons_self ..)).2.1 q)) (Nat.lt_irrefl _)
  obtain ⟨F3, K3⟩ := F.ownL (s' := { s with heap := h', toks := tk }) F2 K2 (fun b o nb e => (N' _ (List.mem_cons_of_mem _ (mem_allNews nb e))).1) dead (ds := (Txt.split x y).map .str) eD (by
    rw [← hl, List.map_map]
    have : ∀ l : List (Str × Tok), Vals (av fr O) s.heap (l.map (D.str ∘ fun x => x.1)) (strValues l) := fun l => by
      induction l with
      | nil => exact Vals.nil
      | cons p r ih => exact Vals.cons (by simp only [Function.comp, Val]; exact ⟨_, rfl⟩) ih
    simpa using this l) (fun m' hm' => by rw [Ns.same hm' Fm.ns]; exact F'.ns)
  exact k _ _ F3 K3
end
end Mine
end
section
open PySem PySem.W PyProof.Rows PySem.Calls PyProof.V PySem.Spec
namespace Mine
section
variable {c : Cx} {fr : FX} {σ σ' : Store} {O O' : Owns} {s s' : Shared} {a : Addr} {ds ds' : List D}
theorem Asg.weak {t : Expr} {d : D} {σc : Store} (h : Asg c fr σc O t d σ') (hs : ∀ p ∈ σc, p ∈ σ) : Asg c fr σ O t d σ' := fun s v F V Q E k => h s v (F.sub hs) V Q E k
theorem Ex_cut {st : Stmt} {rest : List Stmt} {P : Post} (R : Store → Owns → Prop) (h1 : Ex1 c fr σ O st (fun out σ' O' => match out with | .next => R σ' O' | o => P o σ' O')) (h2 : ∀ σ' O', R σ' O' → Ex c fr σ' O' rest P) : Ex c fr σ O (st :: rest) P :=
  Ex_cons fun s F Q E k => h1 s F Q E fun f out σ₁ O₁ s₁ F₁ K₁ V₁ p => k f out σ₁ O₁ s₁ F₁ K₁ V₁ (by
    cases out with
    | next => exact h2 _ _ p
    | brk => exact p
    | cont => exact p
    | ret d => exact p)
inductive Sub (σ : Store) : Store → Prop where
  | nil : Sub σ []
  | cons {x : Str} {d : D} {r : Store} : (x, d) ∈ σ → Sub σ r → Sub σ ((x, d) :: r)
theorem Sub.mem {σ r : Store} (h : Sub σ r) : ∀ p ∈ r, p ∈ σ := by
  induction h with
  | nil => intro p hp; cases hp
  | cons h _ ih =>
    intro p hp
    rcases List.mem_cons.mp hp with rfl | hp
    · exact h
    · exact ih p hp
theorem noFree {names : List (Str × NameKind)} (h : (names.all fun p => p.2 != .free) = true) : ∀ x, names.lookup x ≠ some .free := fun x e => by
  have := List.all_eq_true.mp h _ (mem_of_lookup e)
  simp at this
theorem Ex1_assert2 {t : Expr} {m : Option Expr} {pos : Pos} {P : Post} {b : Bool} (ht : EvT c fr σ O t b) (hb : b = true) (k : P .next σ O) : Ex1 c fr σ O (.Assert t m pos) P := by
  subst hb; exact Ex1_assert ht k
theorem InD_add {a b : Int} : InD c fr .Add (.int a) (.int b) (.int (a + b)) := by
  rintro σ O s _ _ F ⟨t, rfl⟩ ⟨u, rfl⟩ Q E k
  exact wpAny_iadd_int (k _ _ F.toks Kept.refl ⟨_, rfl⟩)
theorem InD_sub {a b : Int} : InD c fr .Sub (.int a) (.int b) (.int (a - b)) := by
  rintro σ O s _ _ F ⟨t, rfl⟩ ⟨u, rfl⟩ Q E k
  exact isub_int (k _ _ F.toks Kept.refl ⟨_, rfl⟩)
theorem InD_lshift {a n : Int} (h : 0 ≤ n) (hb : (Builtin.Int.intBits a : Int) + n ≤ 2 ^ 27) : InD c fr .LShift (.int a) (.int n) (.int (a * 2 ^ n.toNat)) := by
  rintro σ O s _ _ F ⟨t, rfl⟩ ⟨u, rfl⟩ Q E k
  exact ilshift_int h hb (k _ _ F.toks Kept.refl ⟨_, rfl⟩)
theorem InD_rshift {a n : Int} (h : 0 ≤ n) : InD c fr .RShift (.int a) (.int n) (.int (a.fdiv (2 ^ n.toNat))) := by
  rintro σ O s _ _ F ⟨t, rfl⟩ ⟨u, rfl⟩ Q E k
  exact irshift_int h (k _ _ F.toks Kept.refl ⟨_, rfl⟩)
end
end Mine
end
section
open PySem PySem.W PyProof.Rows PySem.Calls PyProof.V PySem.Spec
namespace Mine
section
variable {c : Cx} {fr : FX} {σ σ' : Store} {O O' : Owns} {s s' : Shared} {a : Addr} {ds ds' : List D}
inductive StL (fr : FX) : Store → List Str → List D → Store → Prop where
  | nil {σ : Store} : StL fr σ [] [] σ
  | cons {σ σ₁ σ' : Store} {x : Str} {xs : List Str} {d : D} {ds : List D} : Storable fr x → Drop x σ σ₁ → StL fr ((x, d) :: σ₁) xs ds σ' → StL fr σ (x :: xs) (d :: ds) σ'
theorem StL.len {xs : List Str} {ds : List D} (h : StL fr σ xs ds σ') : xs.length = ds.length := by
  induction h with
  | nil => rfl
  | cons _ _ _ ih => simp [ih]
theorem StL.run {xs : List Str} {ds : List D} (h : StL fr σ xs ds σ') : ∀ (s : Shared) (vs : List Value), FS c fr σ O s → Vals (av fr O) s.heap ds vs → ∀ (Q : Unit → Shared → Prop) (E : Value → Shared → Prop), (∀ s', FS c fr σ' O s' → Kept fr O s O s' → Q () s') →
    wpAny c.M fr.A (assignInOrder (xs.map fun n => bindName fr.env n) vs) Q E s := by
  induction h with
  | nil =>
    intro s vs F V Q E h
    simp only [Vals] at V; subst V
    exact wpAny_assignInOrder_none (h s F Kept.refl)
  | cons hx hd _ ih =>
    intro s vs F V Q E h
    simp only [Vals] at V
    obtain ⟨v, r, rfl, V1, V2⟩ := V
    refine wpAny_assignInOrder_more (wpAny_bindName (store_ F V1 hx hd fun s₁ F₁ K₁ => ?_))
    exact ih s₁ r F₁ (K₁.vals V2) _ _ fun s₂ F₂ K₂ => h s₂ F₂ (K₁.trans K₂)
theorem Vals.app {av : Addr → Prop} {h : Heap} : ∀ {ds es : List D} {vs ws : List Value}, Vals av h ds vs → Vals av h es ws → Vals av h (ds ++ es) (vs ++ ws)
  | [], es, vs, ws, h1, h2 => by simp only [Vals] at h1; subst h1; exact h2
  | d :: ds, es, vs, ws, h1, h2 => by
    simp only [Vals] at h1
    obtain ⟨v, r, rfl, V1, V2⟩ := h1
    simp only [List.cons_append, Vals]
    exact ⟨v, r ++ ws, rfl, V1, Vals.app V2 h2⟩
theorem Vals.rev {av : Addr → Prop} {h : Heap} : ∀ {ds : List D} {vs : List Value}, Vals av h ds vs → Vals av h ds.reverse vs.reverse
  | [], vs, h1 => by simp only [Vals] at h1; subst h1; simp [Vals]
  | d :: ds, vs, h1 => by
    simp only [Vals] at h1
    obtain ⟨v, r, rfl, V1, V2⟩ := h1
    simp only [List.reverse_cons]
    exact (Vals.rev V2).app (by simp only [Vals]; exact ⟨v, [], rfl, V1, rfl⟩)
theorem Ex1_assignSw {ts : List Expr} {n : Nat} {p pos : Pos} {e : Expr} {ds es : List D} {names xs : List Str} {P : Post} (h : Ev c fr σ O e (.tuple ds))
    (hw : swapsWithSole [.Tuple ts n p] e pos.line fr.env = pure false := by rfl) (hs : swappedStores [.Tuple ts n p] e fr.env = pure (some names) := by rfl)
    (hn : names.reverse = xs := by rfl) (hd : ds.reverse = es := by rfl) (ha : StL fr σ xs es σ') (k : P .next σ' O) : Ex1 c fr σ O (.Assign [.Tuple ts n p] e pos) P := by
  intro s F Q E kk
  subst hn; subst hd
  refine Assign_Tuple_swapped (h s F _ _ fun v s₁ F₁ K₁ V₁ => ?_) hw hs
  simp only [Val] at V₁
  obtain ⟨a, vs, m, rfl, na, g, V⟩ := V₁
  have hl : names.length = vs.size := by have := ha.len; simp at this; rw [this, ← V.length, Array.length_toList]
  rw [hl]
  refine PyProof.Rows.unpackItems_tuple F₁.hand ⟨_, g, rfl, m, rfl⟩ fun h' he => ?_
  have K : Kept fr O s₁ O { s₁ with heap := h' } := Kept.ext he (tk := s₁.toks)
  exact ha.run _ _ (F₁.ext he (tk := s₁.toks)) (K.vals V).rev _ _ fun s' F' K' => kk .next .next _ _ s' F' ((K₁.trans K).trans K') rfl k
end
end Mine
end
section
open PySem PySem.W PyProof.Rows PySem.Calls PyProof.V PySem.Spec
namespace Mine
def Cx.grow (c : Cx) (h : Heap) (k : ∀ a o, c.hw.get? a = some o → h.get? a = some o) (t : ∀ q ∈ c.tabs, h.get? q.2 = none) : Cx :=
  { c with hw := h, KX := c.KX.keeps k, T := c.T.keeps k, tab0 := t, code := fun q hq => (c.code q hq).keeps k, bm := let ⟨bm, ob, a, b, e, r⟩ := c.bm; ⟨bm, ob, a, b, k _ _ e, r⟩ }
def FX.less (fr : FX) (cs : List Addr) (xs : List Str) : FX := { fr with own := fr.own.filter (fun a => !cs.contains a), mine := fun x => fr.mine x && !xs.contains x }
section
variable {c : Cx} {fr : FX} {σ σ' : Store} {O O' : Owns} {s s' : Shared} {a : Addr} {ds ds' : List D}
theorem mem_less {cs : List Addr} {xs : List Str} : a ∈ (fr.less cs xs).own ↔ a ∈ fr.own ∧ a ∉ cs := by
  simp [FX.less, List.mem_filter]
theorem av_less {cs : List Addr} {xs : List Str} (h : av (fr.less cs xs) O a) : av fr O a := by
  rcases h with h | h | h
  · exact .inl h
  · exact .inr (.inl (mem_less.mp h).1)
  · exact .inr (.inr h)
theorem Kept.less {cs : List Addr} {xs : List Str} (K : Kept (fr.less cs xs) O s O' s') : Kept fr O s O' s' := fun a o h1 h2 e => K a o (fun m => h1 (mem_less.mp m).1) h2 e
theorem FS.switch {cs : List Addr} {xs : List Str} (F : FS c fr σ O s) (hcs : ∀ a ∈ cs, ∃ v, s.heap.IsCell a v) (hxs : ∀ x a, fr.env.cells.lookup x = some a → a ∈ cs → x ∈ xs) :
    ∃ h k t, FS (c.grow h k t) (fr.less cs xs) σ O s ∧ (∀ a o, ¬ av (fr.less cs xs) O a → s.heap.get? a = some o → h.get? a = some o) ∧ (∀ a o, h.get? a = some o → s.heap.get? a = some o ∧ ¬ av (fr.less cs xs) O a) := by
  classical
  let hid : List Addr := (List.range s.heap.objs.size).filter (fun a => decide (av (fr.less cs xs) O a))
  have h1 : ∀ a o, ¬ av (fr.less cs xs) O a → s.heap.get? a = some o → (hideAll s.heap hid).get? a = some o := fun a o na e => hideAll_get hid e (fun m => na (by have := (List.mem_filter.mp m).2; simpa using this))
  have h2 : ∀ a, av (fr.less cs xs) O a → (hideAll s.heap hid).get? a = none := fun a ha => by
    cases q : (hideAll s.heap hid).get? a with
    | none => rfl
    | some o =>
      have e := of_hideAll hid q
      rw [hideAll_none hid (List.mem_filter.mpr ⟨List.mem_range.mpr (Heap.lt_size e), by simpa using ha⟩)] at q
      cases q
  have hav : ∀ a, av fr O a → c.hw.get? a = none := fun a h => h.elim (F.out0 a) fun h => h.elim (F.own0 a) (F.o0 a)
  have k : ∀ a o, c.hw.get? a = some o → (hideAll s.heap hid).get? a = some o := fun a o e => h1 a o (fun m => by rw [hav a (av_less m)] at e; cases e) (F.wi.keep a o e)
  have ltab : ∀ q ∈ c.tabs, q.2 ∈ (fr.less cs xs).own := fun q hq => mem_less.mpr ⟨F.tabown q hq, fun m => by
    obtain ⟨v, hv⟩ := hcs _ m
    obtain ⟨ps, e, _⟩ := F.wi.tab q hq
    exact Cell.notTab hv e⟩
  have t : ∀ q ∈ c.tabs, (hideAll s.heap hid).get? q.2 = none := fun q hq => h2 _ (.inr (.inl (ltab q hq)))
  refine ⟨hideAll s.heap hid, k, t, ?_, h1, fun a o e => ⟨of_hideAll hid e, fun m => by rw [h2 a m] at e; cases e⟩⟩
  have mm : ∀ a o, ¬ av fr O a → s.heap.get? a = some o → s.heap.get? a = some o ∧ ¬ av (fr.less cs xs) O a := fun a o na e => ⟨e, fun m => na (av_less m)⟩
  exact {
    wi := ⟨fun a o e => of_hideAll hid e, F.wi.tab, F.wi.gens, F.wi.os⟩
    kind := F.kind
    glob := F.glob
    blt := F.blt
    hand := F.hand
    room := F.room
    own0 := fun a h => h2 a (.inr (.inl h))
    o0 := fun a h => h2 a (.inr (.inr h))
    tabown := ltab
    Lown := mem_less.mpr ⟨F.Lown, fun m => by
      obtain ⟨v, hv⟩ := hcs _ m
      obtain ⟨mm, hm⟩ := F.Lns
      exact Ns.notCell hm hv⟩
    Lns := F.Lns
    inj := F.inj
    calive := F.calive
    cfree := F.cfree
    mown := fun x a hm hk hl => by
      simp only [FX.less, Bool.and_eq_true, Bool.not_eq_true', List.contains_eq_mem, decide_eq_false_iff_not] at hm
      exact mem_less.mpr ⟨F.mown x a hm.1 hk hl, fun m => hm.2 (hxs x a hl m)⟩
    oo := fun a h m => F.oo a h (mem_less.mp m).1
    out0 := fun a h => h2 a (.inl h)
    outal := F.outal
    oout := F.oout
    ownal := fun a h => F.ownal a (mem_less.mp h).1
    vars := fun p hp => (F.vars p hp).mono (fun _ x => x) (fun _ _ _ _ x => x) (fun v x => Val.mono mm _ _ x)
    owns := fun q hq => let ⟨vs, n, e, w⟩ := F.owns q hq; ⟨vs, n, e, Vals.mono mm _ _ w⟩
    nodup := F.nodup
    odis := fun a h m => F.odis a h (mem_less.mp m).1 }
theorem FS.back {cs : List Addr} {xs : List Str} {h : Heap} {k} {t} {σ₀ : Store} {O₀ : Owns} {s₀ : Shared} (F₀ : FS c fr σ₀ O₀ s₀) (hcs : ∀ a ∈ cs, ∃ v, h.IsCell a v) (F : FS (c.grow h k t) (fr.less cs xs) σ O s) :
    FS c fr σ O s ∧ ∀ d v, Val (av (fr.less cs xs) O) s.heap d v → Val (av fr O) s.heap d v := by
  have cell : ∀ a ∈ cs, ∃ v, s.heap.IsCell a v := fun a m => let ⟨v, o, e, d⟩ := hcs a m; ⟨v, o, F.wi.keep a o e, d⟩
  have mm : ∀ a o, ¬ av (fr.less cs xs) O a → s.heap.get? a = some o → NotCell o → s.heap.get? a = some o ∧ ¬ av fr O a := fun a o na e nc => ⟨e, by
    rintro (m | m | m)
    · exact na (.inl m)
    · by_cases q : a ∈ cs
      · obtain ⟨v, o', e', d⟩ := cell a q
        rw [e] at e'; cases e'; exact nc v d
      · exact na (.inr (.inl (mem_less.mpr ⟨m, q⟩)))
    · exact na (.inr (.inr m))⟩
  have hw0 : ∀ a, h.get? a = none → c.hw.get? a = none := fun a e => by
    cases q : c.hw.get? a with
    | none => rfl
    | some o => rw [k a o q] at e; cases e
  refine ⟨{
    wi := ⟨fun a o e => F.wi.keep a o (k a o e), F.wi.tab, F.wi.gens, F.wi.os⟩
    kind := F.kind
    glob := F.glob
    blt := F.blt
    hand := F.hand
    room := F.room
    own0 := F₀.own0
    o0 := fun a m => hw0 a (F.o0 a m)
    tabown := F₀.tabown
    Lown := F₀.Lown
    Lns := F.Lns
    inj := F.inj
    calive := F.calive
    cfree := F.cfree
    mown := F₀.mown
    oo := F₀.oo
    out0 := F₀.out0
    outal := F.outal
    oout := F.oout
    ownal := fun a m => by
      by_cases q : a ∈ cs
      · obtain ⟨v, hv⟩ := cell a q; exact NoCode.isCell hv
      · exact F.ownal a (mem_less.mpr ⟨m, q⟩)
    vars := fun p hp => (F.vars p hp).mono (fun _ x => x) (fun _ _ _ _ x => x) (fun v x => Val.mono' mm _ _ x)
    owns := fun q hq => let ⟨vs, n, e, w⟩ := F.owns q hq; ⟨vs, n, e, Vals.mono' mm _ _ w⟩
    nodup := F.nodup
    odis := fun a m n => by
      by_cases q : a ∈ cs
      · obtain ⟨v, o, e, _⟩ := hcs a q
        have e' : h.get? a = none := F.o0 a m
        rw [e] at e'; cases e'
      · exact F.odis a m (mem_less.mpr ⟨n, q⟩) }, fun d v => Val.mono' mm d v⟩
structure Inner (c : Cx) (f : Addr) (name qual : Str) (params : Arguments) (body : List Stmt) (scope : Scope) (fv : Store) : Prop where
  ex : ∃ clos doc pm cc ctv, c.hw.get? f = some (fnMade name qual params body scope clos doc pm cc ctv) ∧ c.hw.CodeRec (.ref cc) qual ∧
    (∀ p ∈ fv, ∃ a v, clos.lookup p.1 = some a ∧ c.hw.IsCell a (some v) ∧ Val (fun a => c.hw.get? a = none) c.hw p.2 v) ∧
    (∀ x a, clos.lookup x = some a → ∃ v, c.hw.IsCell a v) ∧ (∀ x y a, clos.lookup x = some a → clos.lookup y = some a → x = y) ∧
    (∀ x, scope.names.lookup x = some .free → ∃ a, clos.lookup x = some a)
theorem codeAmong_of_snoc {pos : Pos} {x y : Int} {cc cv : Value} : ∀ l : List Value, TriplesOk l → codeAmong pos (l ++ [rawInt x, rawInt y, cc]) = some cv → codeAmong pos l = some cv ∨ (x = pos.line ∧ y = pos.col ∧ cv = cc) := by
  intro l ht h
  fun_induction TriplesOk l with
  | case1 =>
    simp only [List.nil_append, codeAmong, rawInt] at h
    split at h
    · rename_i q
      simp only [Bool.and_eq_true, beq_iff_eq] at q
      exact .inr ⟨q.1, q.2, (Option.some.inj h).symm⟩
    · cases h
  | case2 a t b u z rest ih =>
    simp only [List.cons_append, codeAmong] at h ⊢
    split at h
    · rename_i q; rw [if_pos q]; exact .inl h
    · rename_i q; rw [if_neg q]; exact ih ht h
  | case3 l h1 h2 => exact ht.elim
theorem nest_fn {name : Str} {params : Arguments} {body : List Stmt} {scope : Scope} {pos : Pos} {cd Pt : Addr} {clos : List (Str × Addr)} {qual : Str} (F : FS c fr σ O s) (hcode : fr.env.code = .ref cd) (htab : (cd, Pt) ∈ c.tabs)
    (hq : c.tq Pt pos.line pos.col = qual) (hcl : closureFor scope fr.env = pure clos) {Q E : Value → Shared → Prop}
    (k : ∀ f cc doc pm ctv s', FS c fr σ O s' → Kept fr O s O s' → s'.heap.get? f = some (fnMade name qual params body scope clos doc pm cc ctv) → s'.heap.CodeRec (.ref cc) qual → ¬ av fr O f → Q (.ref f) s') :
    wpAny c.M fr.A (makeFunction name qual params (.stmts body) scope fr.env [] [] [] pos pos.line) Q E s := by
  obtain ⟨ps, hP, hT⟩ := F.wi.tab _ htab
  obtain ⟨bm, ob, b1, b2, b3, b4, b5, b6⟩ := c.bm
  have hg := c.T.g.keeps F.wi.keep
  have hgP : mainGlobals ≠ Pt := fun q => Ns.notTab (q ▸ hg) hP
  have hbP : bm ≠ Pt := fun q => by have e := F.wi.keep _ _ b3; rw [q, hP] at e; cases e; cases b4
  have hbG : bm ≠ mainGlobals := fun q => by
    obtain ⟨o, es, ep, e, hd, _⟩ := c.T.g
    rw [q, e] at b3; cases b3; rw [hd] at b6; cases b6
  have B : s.heap.BuiltinsAt c.mg Pt := ⟨bm, ob, b1, b2, hbG, hbP, F.wi.keep _ _ b3, b4, b5, b6⟩
  have C := (c.code _ htab).keeps F.wi.keep
  have dead : ∀ {h' : Heap}, s.heap.objs.size ≤ h'.objs.size → s.heap.get? h'.objs.size = none := fun {h'} hs => by
    cases e : s.heap.get? h'.objs.size with
    | none => rfl
    | some o => exact absurd (Heap.lt_size e) (Nat.not_lt.mpr hs)
  cases hf : codeAmong pos ps.toList with
  | none =>
    refine makeFunction_K hcl F.glob hg hcode C hP hT.1 hf hgP B fun c' ctv doc h' tk hx hge hlt hrec htb => ?_
    have up : ∀ b o, b ≠ Pt → s.heap.get? b = some o → (h'.push (fnMade name qual params body scope clos doc ((c.mg "__name__").getD .none) c' ctv)).get? b = some o := fun b o nb e => Heap.get?_push_of_some _ (hx b o nb e)
    have nP : ∀ b o, ¬ NoCode o → s.heap.get? b = some o → b ≠ Pt := fun b o nc e q => by rw [q, hP] at e; cases e; exact nc (.tab hT.1)
    have W : WI c { s with heap := h'.push (fnMade name qual params body scope clos doc ((c.mg "__name__").getD .none) c' ctv), toks := tk } := by
      refine ⟨fun b o e => up b o (fun q => by rw [q, c.tab0 _ htab] at e; cases e) (F.wi.keep b o e), fun q hq' => ?_, F.wi.gens, F.wi.os⟩
      by_cases hqP : q.2 = Pt
      · rw [hqP]
        refine ⟨_, Heap.get?_push_of_some _ htb, ?_, fun p cv e => ?_⟩
        · simpa using TriplesOk_snoc _ _ _ _ hT.1
        · rw [show (ps ++ #[rawInt pos.line, rawInt pos.col, Value.ref c']).toList = ps.toList ++ [rawInt pos.line, rawInt pos.col, .ref c'] by simp] at e
          rcases codeAmong_of_snoc _ hT.1 e with e | ⟨e1, e2, rfl⟩
          · exact (hT.mono (fun b o nc e => up b o (nP b o nc e) e)).2 p cv e
          · have e1' : pos.line = p.line := by (first | lia | omega)
            have e2' : pos.col = p.col := by (first | lia | omega)
            rw [← e1', ← e2', hq]
            exact hrec.push _
      · obtain ⟨ps', e', t'⟩ := F.wi.tab q hq'
        exact ⟨ps', up _ _ hqP e', t'.mono fun b o nc e => up b o (nP b o nc e) e⟩
    obtain ⟨F', K'⟩ := F.callee W (fun b o nt e => up b o (fun q => nt (q ▸ List.mem_map_of_mem (f := fun x : Addr × Addr => x.2) htab)) e)
    have hsz : s.heap.objs.size ≤ h'.objs.size := Nat.le_of_lt (Nat.lt_of_le_of_lt hge hlt)
    exact k _ c' doc _ ctv _ F' K' (Heap.get?_push_size _ rfl) (hrec.push _) (F.new_av (dead hsz))
  | some cv =>
    obtain ⟨cc, oc, vs, tq, rfl, r⟩ := hT.2 pos cv hf
    refine makeFunction_hit hcl F.glob hg hcode C hP hT.1 hf B fun ctv doc h' tk hk hsz => ?_
    have up : ∀ b o, s.heap.get? b = some o → (h'.push (fnMade name qual params body scope clos doc ((c.mg "__name__").getD .none) cc ctv)).get? b = some o := fun b o e => Heap.get?_push_of_some _ (hk b o e)
    have F' : FS c fr σ O { s with heap := h'.push (fnMade name qual params body scope clos doc ((c.mg "__name__").getD .none) cc ctv), toks := tk } := F.grow up rfl rfl
    have hr := hT.2 pos _ hf
    rw [hq] at hr
    exact k _ cc doc _ ctv _ F' (Kept.grow up) (Heap.get?_push_size _ rfl) (hr.keeps up) (F.new_av (dead hsz))
theorem Ex_def {name qual : Str} {params : Arguments} {body rest : List Stmt} {scope : Scope} {pos : Pos} {cd Pt : Addr} {P : Post} {fv : Store}
    (hcode : fr.env.code = .ref cd) (htab : (cd, Pt) ∈ c.tabs) (hqual : qualnameIn fr.env name name = qual) (hq : c.tq Pt pos.line pos.col = qual)
    (hn : (scope.names.map (·.1)).Nodup) (hfree : ∀ p ∈ scope.names, p.2 = .free → fr.env.kindOf p.1 = some .cell ∧ fr.mine p.1 = true) (hst : Storable fr name) (hd : Drop name σ σ')
    (hnm : (name, NameKind.free) ∈ scope.names) (hfv : ∀ p ∈ fv, p ∈ σ' ∧ (p.1, NameKind.free) ∈ scope.names)
    (k : ∀ h hk ht f cs xs, Inner (c.grow h hk ht) f name qual params body scope ((name, .raw (.ref f)) :: fv) → Ex (c.grow h hk ht) (fr.less cs xs) ((name, .raw (.ref f)) :: σ') O rest P)
    (hd0 : params.defaults = [] := by rfl) (hk0 : params.kw_defaults = [] := by rfl) (ha : annTrees params none fr.env = [] := by rfl) : Ex c fr σ O (.FunctionDef name params body [] none [] scope none name pos :: rest) P := by
  intro s F Q E kk
  have hcl : closureFor scope fr.env = pure (clOf fr.env.cells scope.names []) := closureFor_eq fun q hq e => F.cfree _ (.inl (hfree q hq e).1)
  generalize hclo : clOf fr.env.cells scope.names [] = clos at hcl
  have clm : ∀ {x a}, (x, a) ∈ clos → (x, NameKind.free) ∈ scope.names ∧ fr.env.cells.lookup x = some a := fun h => by
    rw [← hclo] at h
    rcases clOf_mem _ _ h with q | q
    · cases q
    · exact q
  have look : ∀ {x a}, (x, NameKind.free) ∈ scope.names → fr.env.cells.lookup x = some a → clos.lookup x = some a := fun {x a} h e => by
    rw [← hclo]; exact clOf_lookup e _ _ (.inl h) (fun b hb => by simp at hb)
  refine wpAny_execs_cons (nestDef_K hd0 hk0 ha ?_)
  rw [hqual]
  refine nest_fn F hcode htab hq hcl fun f cc doc pm ctv s₁ F₁ K₁ ef hrec nf => ?_
  refine store_ (d := .raw (.ref f)) F₁ (by simp only [Val]) hst hd fun s₂ F₂ K₂ => ?_
  have nof : f ∉ fr.own := fun m => nf (.inr (.inl m))
  have noO : f ∉ addrs O := fun m => nf (.inr (.inr m))
  have ef₂ := (K₂ f _ nof noO ef).1
  obtain ⟨c₀, oc, vs, tq, e0, ec, edc, evc⟩ := hrec
  cases e0
  have ncc : ¬ NoCode oc := fun n => n vs _ tq edc evc
  have nac : ¬ av fr O cc := fun m => ncc (F₁.nocode m ec)
  have ec₂ := (K₂ cc _ (fun m => nac (.inr (.inl m))) (fun m => nac (.inr (.inr m))) ec).1
  have cellAt : ∀ a ∈ clos.map (·.2), ∃ v, s₂.heap.IsCell a v := fun a m => by
    obtain ⟨p, hp, rfl⟩ := List.mem_map.mp m
    exact F₂.calive _ _ (clm hp).2
  obtain ⟨h, hk, ht, F₃, hin, hof⟩ := F₂.switch (cs := clos.map (·.2)) (xs := clos.map (·.1)) cellAt (fun x a e m => by
    obtain ⟨p, hp, rfl⟩ := List.mem_map.mp m
    have := F₂.inj _ _ _ e (clm hp).2
    rw [this]; exact List.mem_map_of_mem hp)
  have ncell : ∀ {x a}, (x, a) ∈ clos → ¬ av (fr.less (clos.map (·.2)) (clos.map (·.1))) O a := fun {x a} hp m => by
    obtain ⟨hx, hl⟩ := clm hp
    have ho := F₂.mown x a (hfree _ hx rfl).2 (hfree _ hx rfl).1 hl
    rcases m with m | m | m
    · exact F₂.oo a m ho
    · exact (mem_less.mp m).2 (List.mem_map_of_mem (f := fun x : Str × Addr => x.2) hp)
    · exact F₂.odis a m ho
  have cellIn : ∀ {x a v}, (x, a) ∈ clos → s₂.heap.IsCell a v → h.IsCell a v := fun hp ⟨o, e, d⟩ => ⟨o, hin _ o (ncell hp) e, d⟩
  have I : Inner (c.grow h hk ht) f name qual params body scope ((name, .raw (.ref f)) :: fv) := by
    refine ⟨clos, doc, pm, cc, ctv, hin f _ (fun m => nf (av_less m)) ef₂, ⟨cc, oc, vs, tq, rfl, hin cc _ (fun m => nac (av_less m)) ec₂, edc, evc⟩, fun p hp => ?_, fun x a e => ?_, fun x y a e1 e2 => ?_, fun x e => ?_⟩
    · have hp' : p ∈ (name, D.raw (.ref f)) :: σ' ∧ (p.1, NameKind.free) ∈ scope.names := by
        rcases List.mem_cons.mp hp with rfl | hp
        · exact ⟨List.mem_cons_self .., hnm⟩
        · exact ⟨List.mem_cons_of_mem _ (hfv p hp).1, (hfv p hp).2⟩
      have y := F₂.vars p hp'.1
      unfold VarAt at y
      rw [(hfree _ hp'.2 rfl).1] at y
      obtain ⟨a, v, hl, hc, hv⟩ := y
      have hl' := look hp'.2 hl
      exact ⟨a, v, hl', cellIn (mem_of_lookup hl') hc, Val.mono (fun b o nb e => ⟨hin b o (fun m => nb (av_less m)) e, fun q => by
        have e2 := hin b o (fun m => nb (av_less m)) e
        have q' : h.get? b = none := q
        rw [e2] at q'; cases q'⟩) _ _ hv⟩
    · have hm := mem_of_lookup e
      obtain ⟨v, hc⟩ := F₂.calive _ _ (clm hm).2
      exact ⟨v, cellIn hm hc⟩
    · exact F₂.inj _ _ _ (clm (mem_of_lookup e1)).2 (clm (mem_of_lookup e2)).2
    · have hm := mem_of_lookup e
      obtain ⟨a, ha⟩ := F₂.cfree x (.inl (hfree _ hm rfl).1)
      exact ⟨a, look hm ha⟩
  refine k h hk ht f _ _ I s₂ F₃ Q E fun fl out σ₃ O₃ s₃ F₄ K₄ V₄ p => ?_
  obtain ⟨F₅, vb⟩ := FS.back F₂ (fun a m => by
    obtain ⟨p, hp, rfl⟩ := List.mem_map.mp m
    obtain ⟨v, hv⟩ := cellAt p.2 (List.mem_map_of_mem hp)
    exact ⟨v, cellIn hp hv⟩) F₄
  refine kk fl out σ₃ O₃ s₃ F₅ ((K₁.trans K₂).trans K₄.less) ?_ p
  cases out with
  | next => exact V₄
  | brk => exact V₄
  | cont => exact V₄
  | ret d => obtain ⟨v, e, V⟩ := V₄; exact ⟨v, e, vb _ _ V⟩
end
end Mine
end
section
open PySem PySem.W PyProof.Rows PySem.Calls PyProof.V PySem.Spec
namespace Mine
theorem lookup_mem_nodup {β : Type} : ∀ {l : List (Str × β)} {x : Str} {v : β}, (l.map (·.1)).Nodup → (x, v) ∈ l → l.lookup x = some v
  | [], _, _, _, h => by cases h
  | (y, w) :: r, x, v, hn, h => by
    rcases List.mem_cons.mp h with e | h
    · cases e; simp [List.lookup]
    · have hn' := List.nodup_cons.mp (show (y :: r.map (·.1)).Nodup from hn)
      have hne : ¬ x = y := fun q => hn'.1 (by rw [← q]; exact List.mem_map_of_mem (f := fun p : Str × β => p.1) h)
      have : (x == y) = false := by simpa using hne
      simp only [List.lookup, this]
      exact lookup_mem_nodup hn'.2 h
theorem lookup_rev_zip {xs : List Str} {vs : List Value} {x : Str} {v : Value} (hn : xs.Nodup) (h : (x, v) ∈ xs.zip vs) : (xs.zip vs).reverse.lookup x = some v := by
  refine lookup_mem_nodup ?_ (List.mem_reverse.mpr h)
  rw [List.map_reverse]
  refine (List.reverse_perm _).nodup_iff.mpr ?_
  have hs : List.Sublist ((xs.zip vs).map (·.1)) xs := by
    clear h hn
    induction xs generalizing vs with
    | nil => simp
    | cons y ys ih =>
      cases vs with
      | nil => simp
      | cons w ws => simpa using ih
  exact hn.sublist hs
def avl (c : Cx) (out : Addr → Prop) (O : Owns) (a : Addr) : Prop := out a ∨ a ∈ c.ta ∨ a ∈ addrs O
def CallSpecO (c : Cx) (f : Value) (n : Nat) (ds : List D) (O₀ O₁ : Owns) (d : D) : Prop :=
  ∀ (A : Around) (out : Addr → Prop) (s : Shared) (vs : List Value), A.handled = none → A.units ≤ 3 * A.depth → A.depth + n ≤ 900 → WI c s →
    (∀ a, out a → (∃ o, s.heap.get? a = some o ∧ NoCode o) ∧ a ∉ c.ta ∧ c.hw.get? a = none) → (∀ a ∈ addrs O₀, ¬ out a ∧ a ∉ c.ta ∧ c.hw.get? a = none) → (addrs O₀).Nodup →
    (∀ q ∈ O₀, ∃ vs n, s.heap.get? q.1 = some { cls := .type "list", data := .seq vs n } ∧ Vals (avl c out O₀) s.heap q.2 vs.toList) →
    Vals (avl c out O₀) s.heap ds vs → ∀ R : Result → Shared → Prop,
    (∀ v s', WI c s' → (∀ a o, a ∉ c.ta → a ∉ addrs O₀ → s.heap.get? a = some o → s'.heap.get? a = some o) →
      (∀ q ∈ O₁, ∃ vs n, s'.heap.get? q.1 = some { cls := .type "list", data := .seq vs n } ∧ Vals (avl c out O₀) s'.heap q.2 vs.toList) → Val (avl c out O₀) s'.heap d v → R (.ok (.ret v)) s') → codeAny c.M A (.call f ⟨vs, []⟩) R s
theorem CallSpecO.none {c : Cx} {f : Value} {n : Nat} {ds : List D} {d : D} (h : CallSpecO c f n ds [] [] d) : CallSpec c f n ds d := by
  intro A out s vs h1 h2 h3 W ho V R hR
  have eq : ∀ a, avl c out [] a ↔ avo c out a := fun a => by simp [avl, avo, addrs]
  refine h A out s vs h1 h2 h3 W ho (fun a m => by simp [addrs] at m) (by simp [addrs]) (fun q m => by cases m) (Vals.mono (fun a o na e => ⟨e, fun k => na ((eq a).mp k)⟩) _ _ V) R fun v s' W' hk _ V' => ?_
  exact hR v s' W' (fun a o nt e => hk a o nt (by simp [addrs]) e) (Val.mono (fun a o na e => ⟨e, fun k => na ((eq a).mpr k)⟩) _ _ V')
theorem call_inner {c : Cx} {f : Addr} {name qual : Str} {params : Arguments} {body : List Stmt} {scope : Scope} {fv : Store} {xs : List Str} {n : Nat} {ds : List D} {O₀ O₁ : Owns} {d : D} (I : Inner c f name qual params body scope fv)
    (hco : scope.isCoroutine = false) (hgen : scope.isGenerator = false) (hk : scope.kind = .function)
    (hbind : ∀ clos doc pm cc ctv (vs : List Value), vs.length = xs.length → bindArgs (fnX name qual params body scope clos .none .none doc pm none (.ref cc) ctv) ⟨vs, []⟩ = pure (xs.zip vs)) (hn : xs.Nodup) (hlen : xs.length = ds.length)
    (hcell : ∀ x ∈ scope.names, x.2 ≠ .cell) (hloc : ∀ x ∈ xs, scope.names.lookup x = some .local) (hfv : ∀ p ∈ fv, scope.names.lookup p.1 = some .free) (haddr : addrs O₁ = addrs O₀)
    (hex : ∀ clos doc pm cc ctv L A out own, A.depth + n ≤ 900 → Ex c ⟨callEnv (fnX name qual params body scope clos .none .none doc pm none (.ref cc) ctv) L f, A, out, own, fun _ => true⟩ (xs.zip ds ++ fv) O₀ body (fun o σ' O' => RetIs d o σ' O' ∧ ∀ q ∈ O₁, q ∈ O')) : CallSpecO c (.ref f) (n + 1) ds O₀ O₁ d := by
  intro A out s vs hh hu hd WS hout hO hnd hOl V R hR
  obtain ⟨clos, doc, pm, cc, ctv, ef, hcd, hvars, hcells, hinj, hfree⟩ := I.ex
  have hvl : vs.length = xs.length := by rw [V.length, hlen]
  let fd := fnX name qual params body scope clos .none .none doc pm none (.ref cc) ctv
  refine codeAny_call_def (fd := fd) (body := body) (binds := xs.zip vs) (by have : recursionLimit = 1000 := rfl; (first | lia | omega)) (WS.keep _ _ ef) rfl (c.T.nolimit.keeps WS.keep) (hcd.keeps WS.keep) rfl
    (BindsTo.of_eq (hbind clos doc pm cc ctv vs hvl)) hcell (fun x hx => hloc x.1 (not_mem_zip (y := x.2) hx)) (fun h₁ hns keep => ?_) hco hgen hk
  have hL : s.heap.get? s.heap.objs.size = none := by
    cases e : s.heap.get? s.heap.objs.size with
    | none => rfl
    | some o => exact absurd (Heap.lt_size e) (Nat.lt_irrefl _)
  have hwL : c.hw.get? s.heap.objs.size = none := by
    cases e : c.hw.get? s.heap.objs.size with
    | none => rfl
    | some o => rw [WS.keep _ _ e] at hL; cases hL
  have hLt : s.heap.objs.size ∉ c.ta := fun m => by
    obtain ⟨q, hq, h⟩ := List.mem_map.mp m
    obtain ⟨ps, e, _⟩ := WS.tab q hq
    rw [h, hL] at e; cases e
  have hLO : s.heap.objs.size ∉ addrs O₀ := fun m => by
    obtain ⟨q, hq, h⟩ := List.mem_map.mp m
    obtain ⟨vs, n, e, _⟩ := hOl q hq
    rw [h, hL] at e; cases e
  let own : List Addr := s.heap.objs.size :: c.ta
  let A' := A.deeper (callEnv fd s.heap.objs.size f)
  let fr : FX := ⟨callEnv fd s.heap.objs.size f, A', out, own, fun _ => true⟩
  have hkind : ∀ x, fr.env.kindOf x = scope.names.lookup x := fun _ => rfl
  have mm : ∀ a o, ¬ avl c out O₀ a → s.heap.get? a = some o → h₁.get? a = some o ∧ ¬ av fr O₀ a := fun a o na e => ⟨keep _ _ e, by
    rintro (k | k | k)
    · exact na (.inl k)
    · rcases List.mem_cons.mp k with rfl | k
      · rw [hL] at e; cases e
      · exact na (.inr (.inl k))
    · exact na (.inr (.inr k))⟩
  have avhw : ∀ a, av fr O₀ a → c.hw.get? a = none := fun a h => by
    rcases h with h | h | h
    · exact (hout a h).2.2
    · rcases List.mem_cons.mp h with rfl | h
      · exact hwL
      · obtain ⟨q, hq, rfl⟩ := List.mem_map.mp h; exact c.tab0 q hq
    · exact (hO a h).2.2
  have F : FS c fr (xs.zip ds ++ fv) O₀ { s with heap := h₁, toks := s.toks + (xs.zip vs).length } := {
    wi := WS.grow keep rfl rfl
    kind := hk
    glob := rfl
    blt := rfl
    hand := hh
    room := by
      show A.units + 3 ≤ 3 * (A.depth + 1) ∧ A.depth + 1 ≤ 900
      (first | lia | omega)
    own0 := fun a h => avhw a (.inr (.inl h))
    o0 := fun a h => avhw a (.inr (.inr h))
    tabown := fun q hq => List.mem_cons_of_mem _ (List.mem_map_of_mem hq)
    Lown := List.mem_cons_self ..
    Lns := ⟨_, hns⟩
    inj := hinj
    calive := fun x a e => let ⟨v, hc⟩ := hcells x a e; ⟨v, hc.keeps fun b o e => keep _ _ (WS.keep _ _ e)⟩
    cfree := fun x h => by
      rcases h with h | h
      · exact absurd rfl (hcell (x, .cell) (mem_of_lookup h))
      · exact hfree x h
    mown := fun x a _ h _ => absurd rfl (hcell (x, .cell) (mem_of_lookup h))
    oo := fun a h m => by
      obtain ⟨⟨o, e, _⟩, nt, _⟩ := hout a h
      rcases List.mem_cons.mp m with rfl | m
      · rw [hL] at e; cases e
      · exact nt m
    out0 := fun a h => (hout a h).2.2
    outal := fun a h => let ⟨⟨o, e, nc⟩, _⟩ := hout a h; ⟨o, keep _ _ e, nc⟩
    oout := fun a h => (hO a h).1
    ownal := fun a h => by
      rcases List.mem_cons.mp h with rfl | h
      · exact NoCode.ns hns
      · obtain ⟨q, hq, rfl⟩ := List.mem_map.mp h
        obtain ⟨ps, e, tk⟩ := WS.tab q hq
        exact ⟨_, keep _ _ e, .tab tk.1⟩
    vars := fun p hp => by
      rcases List.mem_append.mp hp with hp | hp
      · obtain ⟨v, hv, Vv⟩ := zip_vals xs ds vs V p.1 p.2 hp
        have h := hloc _ (not_mem_zip (y := p.2) hp)
        unfold VarAt
        rw [hkind, h]
        refine ⟨_, v, hns, ?_, Val.mono mm _ _ Vv⟩
        have := (bindL_zip (fun x => scope.names.lookup x) xs vs (fun _ => none) hn).2 p.1 v hv h
        exact lookup_rev_zip hn hv
      · obtain ⟨a, v, hl, hc, hv⟩ := hvars p hp
        unfold VarAt
        rw [hkind, hfv p hp]
        exact ⟨a, v, hl, hc.keeps fun b o e => keep _ _ (WS.keep _ _ e), Val.mono (fun b o nb e => ⟨keep _ _ (WS.keep _ _ e), fun q => nb (avhw b q)⟩) _ _ hv⟩
    owns := fun q hq => let ⟨vs, n, e, w⟩ := hOl q hq; ⟨vs, n, keep _ _ e, Vals.mono mm _ _ w⟩
    nodup := hnd
    odis := fun a h m => by
      rcases List.mem_cons.mp m with rfl | m
      · exact hLO h
      · exact (hO a h).2.1 m }
  refine wpAny_mono (hex clos doc pm cc ctv s.heap.objs.size A' out own (by show A.depth + 1 + n ≤ 900; (first | lia | omega)) _ F
    (fun f s' => R (.ok (.ret (match f with | .ret v => v | _ => .none))) s') (fun _ _ => False) (fun f o σ' O' s' F' K' V' p => ?_)) (fun _ _ x => x) (fun _ _ x => x.elim)
  obtain ⟨p, hO1⟩ := p
  have keep' : ∀ a o, a ∉ c.ta → a ∉ addrs O₀ → s.heap.get? a = some o → s'.heap.get? a = some o := fun a o nt nO e => by
    refine (K' a o ?_ nO (keep a o e)).1
    intro m
    rcases List.mem_cons.mp m with rfl | m
    · rw [hL] at e; cases e
    · exact nt m
  have sub : ∀ a, avl c out O₀ a → av fr O' a := fun a h => by
    rcases h with h | h | h
    · exact .inl h
    · exact .inr (.inl (List.mem_cons_of_mem _ h))
    · rw [← haddr] at h
      obtain ⟨q, hq, rfl⟩ := List.mem_map.mp h
      exact .inr (.inr (List.mem_map_of_mem (hO1 q hq)))
  have own' : ∀ q ∈ O₁, ∃ vs n, s'.heap.get? q.1 = some { cls := .type "list", data := .seq vs n } ∧ Vals (avl c out O₀) s'.heap q.2 vs.toList := fun q hq =>
    let ⟨vs, n, e, w⟩ := F'.owns q (hO1 q hq); ⟨vs, n, e, Vals.mono (fun a o na e => ⟨e, fun k => na (sub a k)⟩) _ _ w⟩
  cases o with
  | next => cases V'; cases p; exact hR _ _ F'.wi keep' own' rfl
  | brk => exact p.elim
  | cont => exact p.elim
  | ret d' =>
    obtain ⟨v, rfl, V'⟩ := V'
    cases p
    exact hR v s' F'.wi keep' own' (Val.mono (fun a o na e => ⟨e, fun k => na (sub a k)⟩) _ _ V')
section
variable {c : Cx} {fr : FX} {σ σ' : Store} {O O' : Owns} {s s' : Shared} {a : Addr} {ds ds' : List D}
theorem Keep_inner {f : Addr} {name qual : Str} {params : Arguments} {body : List Stmt} {scope : Scope} {fv : Store} (I : Inner c f name qual params body scope fv) : Keep c (.ref f) := by
  intro h hk
  obtain ⟨clos, doc, pm, cc, ctv, ef, _⟩ := I.ex
  exact keeps_F h ⟨_, _, _, _, hk _ _ ef⟩
def CallO (c : Cx) (fr : FX) (O : Owns) (f : Value) (args : List D) (a : Addr) (ds ds' : List D) (d : D) : Prop :=
  ∀ (σ : Store) s vs, FS c fr σ ((a, ds) :: O) s → Vals (av fr ((a, ds) :: O)) s.heap args vs → ∀ (Q E : Value → Shared → Prop), (∀ v s', FS c fr σ ((a, ds') :: O) s' → Kept fr ((a, ds) :: O) s ((a, ds') :: O) s' → Val (av fr ((a, ds') :: O)) s'.heap d v → Q v s') → wpAny c.M fr.A (call f vs) Q E s
theorem FS.calleeO (F : FS c fr σ ((a, ds) :: O) s) (W : WI c s') (hk : ∀ b o, b ∉ c.ta → b ≠ a → s.heap.get? b = some o → s'.heap.get? b = some o) {ws : Array Value} {m : Nat} (e' : s'.heap.get? a = some { cls := .type "list", data := .seq ws m })
    (V' : Vals (av fr ((a, ds) :: O)) s'.heap ds' ws.toList) : FS c fr σ ((a, ds') :: O) s' ∧ Kept fr ((a, ds) :: O) s ((a, ds') :: O) s' := by
  have aeq : ∀ b, av fr ((a, ds') :: O) b ↔ av fr ((a, ds) :: O) b := fun b => av_cons.trans av_cons.symm
  have nt : ∀ b, b ∉ fr.own → b ∉ c.ta := fun b h m => by
    obtain ⟨q, hq, rfl⟩ := List.mem_map.mp m; exact h (F.tabown q hq)
  obtain ⟨us, k0, e0, V0⟩ := F.owns (a, ds) (List.mem_cons_self ..)
  have mm : ∀ b o, ¬ av fr ((a, ds) :: O) b → s.heap.get? b = some o → s'.heap.get? b = some o ∧ ¬ av fr ((a, ds') :: O) b := fun b o na e => ⟨hk b o (nt b (fun m => na (.inr (.inl m)))) (fun q => na (av_cons.mpr (.inl q))) e, fun k => na ((aeq b).mp k)⟩
  have tabal : ∀ b, b ∈ c.ta → ∃ ps, s.heap.get? b = some (tabObj ps) := fun b m => by
    obtain ⟨q, hq, rfl⟩ := List.mem_map.mp m; obtain ⟨ps, e, _⟩ := F.wi.tab q hq; exact ⟨ps, e⟩
  have ao : a ∉ fr.own := F.odis a (List.mem_cons_self ..)
  have La : fr.env.locals ≠ a := fun q => ao (q ▸ F.Lown)
  have ca : ∀ {b v}, s.heap.IsCell b v → b ≠ a := fun ⟨o, e1, e2⟩ q => by rw [q, e0] at e1; cases e1; cases e2
  have nsk : ∀ m, s.heap.Ns fr.env.locals m → s'.heap.Ns fr.env.locals m := fun m h => by
    obtain ⟨o, es, ep, e, r⟩ := id h
    exact ⟨o, es, ep, hk _ _ (fun q => let ⟨ps, e⟩ := tabal _ q; Ns.notTab h e) La e, r⟩
  have ck : ∀ b v, s.heap.IsCell b v → s'.heap.IsCell b v := fun b v h => by
    obtain ⟨o, e, r⟩ := id h
    exact ⟨o, hk _ _ (fun q => let ⟨ps, e⟩ := tabal _ q; Cell.notTab h e) (ca h) e, r⟩
  refine ⟨{
    wi := W
    kind := F.kind
    glob := F.glob
    blt := F.blt
    hand := F.hand
    room := F.room
    own0 := F.own0
    o0 := F.o0
    tabown := F.tabown
    Lown := F.Lown
    Lns := let ⟨m, h⟩ := F.Lns; ⟨m, nsk m h⟩
    inj := F.inj
    calive := fun x b e => let ⟨v, h⟩ := F.calive x b e; ⟨v, ck _ _ h⟩
    cfree := F.cfree
    mown := F.mown
    oo := F.oo
    out0 := F.out0
    outal := fun b h => let ⟨o, e, nc⟩ := F.outal b h; ⟨o, hk _ _ (nt b (F.oo b h)) (fun q => F.oout a (List.mem_cons_self ..) (q ▸ h)) e, nc⟩
    oout := F.oout
    ownal := fun b h => by
      by_cases m : b ∈ c.ta
      · obtain ⟨q, hq, rfl⟩ := List.mem_map.mp m; obtain ⟨ps, e, tk⟩ := W.tab q hq; exact ⟨_, e, .tab tk.1⟩
      · obtain ⟨o, e, nc⟩ := F.ownal b h; exact ⟨o, hk _ _ m (fun q => ao (q ▸ h)) e, nc⟩
    vars := fun p hp => (F.vars p hp).mono nsk (fun _ b v _ h => ck b v h) (fun v h => Val.mono mm _ _ h)
    owns := fun q hq => by
      rcases List.mem_cons.mp hq with h | h
      · rw [h]; exact ⟨ws, m, e', Vals.mono (fun b o na e => ⟨e, fun k => na ((aeq b).mp k)⟩) _ _ V'⟩
      · obtain ⟨us, k, e1, w⟩ := F.owns q (List.mem_cons_of_mem _ h)
        exact ⟨us, k, hk _ _ (nt _ (F.odis _ (List.mem_cons_of_mem _ (List.mem_map_of_mem h)))) (fun k => (List.nodup_cons.mp F.nodup).1 (by rw [← show q.1 = a from k]; exact List.mem_map_of_mem (f := fun x => x.1) h)) e1, Vals.mono mm _ _ w⟩
    nodup := F.nodup
    odis := F.odis }, fun b o h1 h2 e => ⟨hk b o (nt b h1) (fun q => h2 (q ▸ List.mem_cons_self ..)) e, h2⟩⟩
theorem CallO_of {f : Value} {n : Nat} {args : List D} {d : D} (h : CallSpecO c f n args [(a, ds)] [(a, ds')] d) (hn : fr.A.depth + n ≤ 900) : CallO c fr O f args a ds ds' d := by
  intro σ s vs F V Q E k
  have tsub : ∀ b, b ∈ c.ta → b ∈ fr.own := fun b m => by obtain ⟨q, hq, rfl⟩ := List.mem_map.mp m; exact F.tabown q hq
  have ao : a ∉ fr.own := F.odis a (List.mem_cons_self ..)
  have na : ¬ av fr O a := by
    rintro (k | k | k)
    · exact F.oout a (List.mem_cons_self ..) k
    · exact ao k
    · exact (List.nodup_cons.mp F.nodup).1 k
  have eq : ∀ b, avl c (fun b => av fr O b ∧ b ∉ c.ta) [(a, ds)] b ↔ av fr ((a, ds) :: O) b := fun b => by
    rw [av_cons]
    constructor
    · rintro (k | k | k)
      · exact .inr k.1
      · exact .inr (.inr (.inl (tsub b k)))
      · exact .inl (by simpa [addrs] using k)
    · rintro (k | k)
      · exact .inr (.inr (by simp [addrs, k]))
      · by_cases m : b ∈ c.ta
        · exact .inr (.inl m)
        · exact .inl ⟨k, m⟩
  have vm : ∀ d v hp, Vals (av fr ((a, ds) :: O)) hp d v → Vals (avl c (fun b => av fr O b ∧ b ∉ c.ta) [(a, ds)]) hp d v := fun d v hp => Vals.mono (fun b o nb e => ⟨e, fun q => nb ((eq b).mp q)⟩) d v
  refine wpAny_call (h fr.A (fun b => av fr O b ∧ b ∉ c.ta) s vs F.hand F.room.1 hn F.wi (fun b h => ⟨?_, h.2, h.1.elim (F.out0 b) fun k => k.elim (F.own0 b) fun k => F.o0 b (List.mem_cons_of_mem _ k)⟩) (fun b m => ?_) (by simp [addrs]) (fun q hq => ?_) (vm _ _ _ V) _ fun v s' W hk hO Vv => ?_)
  · rcases h.1 with q | q | q
    · exact F.outal b q
    · exact F.ownal b q
    · obtain ⟨p, hp, rfl⟩ := List.mem_map.mp q
      obtain ⟨vs, n, e, _⟩ := F.owns p (List.mem_cons_of_mem _ hp)
      exact ⟨_, e, .list⟩
  · have hb : b = a := by simpa [addrs] using m
    subst hb
    exact ⟨fun k => na k.1, fun k => ao (tsub _ k), F.o0 _ (List.mem_cons_self ..)⟩
  · rw [List.mem_singleton.mp hq]
    obtain ⟨vs, n, e, w⟩ := F.owns (a, ds) (List.mem_cons_self ..)
    exact ⟨vs, n, e, vm _ _ _ w⟩
  · obtain ⟨ws, m, e', V'⟩ := hO (a, ds') (List.mem_singleton.mpr rfl)
    have bk : ∀ b o, ¬ avl c (fun b => av fr O b ∧ b ∉ c.ta) [(a, ds)] b → s'.heap.get? b = some o → s'.heap.get? b = some o ∧ ¬ av fr ((a, ds) :: O) b := fun b o nb e => ⟨e, fun q => nb ((eq b).mpr q)⟩
    obtain ⟨F', K'⟩ := F.calleeO W (fun b o nt nb e => hk b o nt (by simpa [addrs] using nb) e) e' (Vals.mono bk _ _ V')
    refine k v s' F' K' (Val.mono (fun b o nb e => ⟨e, fun q => nb ((eq b).mpr ((av_cons.trans av_cons.symm).mp q))⟩) _ _ Vv)
theorem Ex1_callO {x : Str} {xp pos ep : Pos} {es : List Expr} {f : Value} {args : List D} {d : D} {P : Post} (hf : Ev c fr σ ((a, ds) :: O) (.Name x xp) (.raw f)) (hk : Keep c f) (h : EvL c fr σ ((a, ds) :: O) es args) (hc : CallO c fr O f args a ds ds' d) (k : P .next σ ((a, ds') :: O))
    (hi : interactive fr.env = false) (hs : noStar es = true := by rfl) (hw : swapsWith (.Call (.Name x xp) es [] pos) none ep.line fr.env = pure false := by rfl) :
    Ex1 c fr σ ((a, ds) :: O) (.Expr (.Call (.Name x xp) es [] pos) ep) P := by
  intro s F Q E kk
  refine wpAny_Expr_any (wpAny_Call_ofName (hf s F _ _ fun v s₁ F₁ K₁ V₁ => ?_)) hi hw
  simp only [Val] at V₁; subst V₁
  exact callWith_ hk h hs F₁ fun vs s₂ F₂ K₂ V₂ => hc σ s₂ vs F₂ V₂ _ _ fun r s₃ F₃ K₃ V₃ => kk .next .next _ _ s₃ F₃ ((K₁.trans K₂).trans K₃) rfl k
end
end Mine
end
section
open PySem PySem.W PyProof.Rows PySem.Calls PyProof.V PySem.Spec
namespace Mine
section
variable {c : Cx} {fr : FX} {σ σ' : Store} {O O' : Owns} {s s' : Shared} {a : Addr} {ds ds' es : List D}
theorem TruD_list (h : ds.length ≤ 2 ^ 24) : TruD c fr (.list ds) (!ds.isEmpty) := by
  intro σ O s v F V Q E k
  obtain ⟨l, vs, rfl, na, _, hl, V⟩ := list_of V
  have hlen : vs.size = ds.length := by rw [← V.length]; simp
  have : vs.isEmpty = ds.isEmpty := by cases ds <;> simp_all [Array.isEmpty]
  rw [← this] at k
  exact wpAny_truthy_list hl (by (first | lia | omega)) (k _ F.toks (Kept.refl.heap rfl))
theorem TruD_tuple (h : ds.length ≤ 2 ^ 24) : TruD c fr (.tuple ds) (!ds.isEmpty) := by
  intro σ O s v F V Q E k
  obtain ⟨l, vs, rfl, na, hl, V, _⟩ := tuple_of V
  have hlen : vs.size = ds.length := by rw [← V.length]; simp
  have : vs.isEmpty = ds.isEmpty := by cases ds <;> simp_all [Array.isEmpty]
  rw [← this] at k
  exact PyProof.Rows.truthy_tuple (show IsTup s.heap l vs from hl) (by (first | lia | omega)) (k _ F.toks (Kept.refl.heap rfl))
def LstAt (fr : FX) (O : Owns) (s : Shared) (v : Value) (ds : List D) : Prop := ∃ a vs n, v = .ref a ∧ s.heap.get? a = some { cls := .type "list", data := .seq vs n } ∧ Vals (av fr O) s.heap ds vs.toList
def EvR (c : Cx) (fr : FX) (σ : Store) (O : Owns) (e : Expr) (ds : List D) : Prop :=
  ∀ s, FS c fr σ O s → ∀ (Q E : Value → Shared → Prop), (∀ v s', FS c fr σ O s' → Kept fr O s O s' → (∀ s'', FS c fr σ O s'' → Kept fr O s' O s'' → LstAt fr O s'' v ds) → Q v s') → wpAny c.M fr.A (eval e fr.env) Q E s
theorem EvR.of {e : Expr} (h : Ev c fr σ O e (.list ds)) : EvR c fr σ O e ds := by
  intro s F Q E k
  refine h s F _ _ fun v s' F' K' V' => k v s' F' K' fun s'' F'' K'' => ?_
  have := K''.val V'
  simp only [Val] at this
  obtain ⟨a, vs, n, e, _, r⟩ := this
  exact ⟨a, vs, n, e, r⟩
theorem EvR.own {e : Expr} (h : Ev c fr σ O e (.raw (.ref a))) (ha : (a, ds) ∈ O) : EvR c fr σ O e ds := by
  intro s F Q E k
  refine h s F _ _ fun v s' F' K' V' => k v s' F' K' fun s'' F'' K'' => ?_
  simp only [Val] at V'
  obtain ⟨vs, n, e, r⟩ := F''.owns _ ha
  exact ⟨a, vs, n, V', e, r⟩
theorem FS.adaptL (F : FS c fr σ O s) : ∃ m, Fr emptyH fr.env.locals s.heap m ∧ News emptyH fr.env.locals s.heap (allNews s.heap fr.env.locals) ∧
    ∀ h' tk a vs n ds, Fr emptyH fr.env.locals h' m → News emptyH fr.env.locals h' ((a, { cls := .type "list", data := .seq vs n }) :: allNews s.heap fr.env.locals) → s.heap.get? a = none → Vals (av fr O) s.heap ds vs.toList →
      FS c fr σ ((a, ds) :: O) { s with heap := h', toks := tk } ∧ Kept fr O s ((a, ds) :: O) { s with heap := h', toks := tk } := by
  obtain ⟨m, Fm, N, ad⟩ := F.adapt
  refine ⟨m, Fm, N, fun h' tk a vs n ds F' N' dead V => ?_⟩
  obtain ⟨F2, K2, vm⟩ := ad h' tk F' (Mine.News.tl N')
  exact F.ownL (s' := { s with heap := h', toks := tk }) F2 K2 (fun b o nb e => (N' _ (List.mem_cons_of_mem _ (mem_allNews nb e))).1) dead (ds := ds) (Mine.News.hd N') V (fun m' hm' => by rw [Ns.same hm' Fm.ns]; exact F'.ns)
theorem EvN_add {l r : Expr} {pos : Pos} (hl : EvR c fr σ O l ds) (hr : EvR c fr σ O r es) (hz : ds.length + es.length ≤ 2 ^ 24) : EvN c fr σ O (.BinOp l .Add r pos) (ds ++ es) := by
  intro s F Q E k
  refine wpAny_BinOp (hl s F _ _ fun v s₁ F₁ K₁ V₁ => hr s₁ F₁ _ _ fun u s₂ F₂ K₂ V₂ => ?_)
  obtain ⟨a, vs, n, rfl, ea, Va⟩ := V₁ s₂ F₂ K₂
  obtain ⟨b, ws, m, rfl, eb, Vb⟩ := V₂ s₂ F₂ Kept.refl
  obtain ⟨mm, Fm, N, ad⟩ := F₂.adaptL
  have l1 : vs.toList.length = ds.length := Va.length
  have l2 : ws.toList.length = es.length := Vb.length
  refine add_lists (vs := vs.toList) (ws := ws.toList) Fm N (by simpa using (show s₂.heap.IsList a vs from ⟨_, ea, rfl, n, rfl⟩)) (by simpa using (show s₂.heap.IsList b ws from ⟨_, eb, rfl, m, rfl⟩)) (fun h' F' N' => ?_) (by rw [l1, l2, sizeLine_eq]; (first | lia | omega))
  obtain ⟨F3, K3⟩ := ad h' s₂.toks _ _ _ (ds ++ es) F' N' F₂.fresh (by simpa using Va.append Vb)
  exact k _ _ F3 ((K₁.trans K₂).trans K3)
theorem Vals.rep {p : Addr → Prop} {h : Heap} {vs : List Value} (V : Vals p h ds vs) : ∀ n : Nat, Vals p h (List.replicate n ds).flatten (List.replicate n vs).flatten
  | 0 => Vals.nil
  | n + 1 => by
    rw [List.replicate_succ, List.replicate_succ, List.flatten_cons, List.flatten_cons]
    exact V.append (Vals.rep V n)
theorem foldl_rep (vs : Array Value) : ∀ (n : Nat) (acc : Array Value), (List.foldl (fun x1 x2 => x1 ++ x2) acc (List.replicate n vs)).toList = acc.toList ++ (List.replicate n vs.toList).flatten
  | 0, acc => by simp
  | n + 1, acc => by rw [List.replicate_succ, List.foldl_cons, foldl_rep vs n]; simp [List.replicate_succ]
theorem EvN_mul {l r : Expr} {pos : Pos} {x : Int} (hl : EvR c fr σ O l ds) (hr : Ev c fr σ O r (.int x)) (h0 : ds ≠ []) (hlo : -(2 ^ 63) ≤ x) (hz : ds.length * x.toNat ≤ 2 ^ 24) : EvN c fr σ O (.BinOp l .Mult r pos) (List.replicate x.toNat ds).flatten := by
  intro s F Q E k
  refine wpAny_BinOp (hl s F _ _ fun v s₁ F₁ K₁ V₁ => hr s₁ F₁ _ _ fun u s₂ F₂ K₂ V₂ => ?_)
  obtain ⟨a, vs, n, rfl, ea, Va⟩ := V₁ s₂ F₂ K₂
  obtain ⟨t, rfl⟩ := V₂
  obtain ⟨mm, Fm, N, ad⟩ := F₂.adaptL
  have l1 : vs.size = ds.length := by rw [← Va.length]; simp
  have hd : 1 ≤ ds.length := by cases ds with
    | nil => exact absurd rfl h0
    | cons => simp
  have hx : x.toNat ≤ 2 ^ 24 := Nat.le_trans (Nat.le_mul_of_pos_left _ hd) hz
  refine mul_list Fm N ea hlo (by (first | lia | omega)) (by rw [l1]; exact hz) fun h' F' N' => ?_
  have he : vs.isEmpty = false := by simp [Array.isEmpty, l1]; (first | lia | omega)
  obtain ⟨F3, K3⟩ := ad h' s₂.toks _ _ _ (List.replicate x.toNat ds).flatten F' N' F₂.fresh (by
    rw [he, foldl_rep]; simpa using Va.rep x.toNat)
  exact k _ _ F3 ((K₁.trans K₂).trans K3)
inductive EvPart (c : Cx) (fr : FX) (σ : Store) (O : Owns) : Option Expr → Option Int → Prop where
  | none : EvPart c fr σ O none none
  | some {e : Expr} {i : Int} : Ev c fr σ O e (.int i) → EvPart c fr σ O (some e) (some i)
theorem EvPart.run {x : Option Expr} {k : Option Int} (h : EvPart c fr σ O x k) (F : FS c fr σ O s) {Q E : Value → Shared → Prop} (kk : ∀ v s', FS c fr σ O s' → Kept fr O s O s' → IsPart v k → Q v s') : wpAny c.M fr.A (evalPart x fr.env) Q E s := by
  cases h with
  | none => rw [evalPart_none]; exact wpAny_pure (kk _ s F Kept.refl .none)
  | some h =>
    rw [evalPart_some]
    refine h s F _ _ fun v s' F' K' V => ?_
    obtain ⟨t, rfl⟩ := V
    exact kk _ s' F' K' (.int _ t)
def pickD (ds : List D) (lo hi st : Option Int) : List D :=
  (sliceRange (sliceBounds lo hi st ds.length).1 (sliceBounds lo hi st ds.length).2.1 (sliceBounds lo hi st ds.length).2.2).filterMap (ds[·]?)
theorem Vals.pick {p : Addr → Prop} {h : Heap} {vs : Array Value} (V : Vals p h ds vs.toList) : ∀ is : List Nat, Vals p h (is.filterMap (ds[·]?)) (is.filterMap (vs[·]?))
  | [] => Vals.nil
  | i :: is => by
    have hl : vs.size = ds.length := by rw [← V.length]; simp
    by_cases hi : i < ds.length
    · obtain ⟨d, hd⟩ : ∃ d, ds[i]? = some d := ⟨ds[i], by simp [hi]⟩
      obtain ⟨v, hv, Vv⟩ := V.get' i d hd
      have hv' : vs[i]? = some v := by simpa using hv
      rw [List.filterMap_cons, List.filterMap_cons, hd, hv']
      exact Vals.cons Vv (Vals.pick V is)
    · have hd : ds[i]? = none := by simp; (first | lia | omega)
      have hv' : vs[i]? = none := by simp; (first | lia | omega)
      rw [List.filterMap_cons, List.filterMap_cons, hd, hv']
      exact Vals.pick V is
theorem EvN_slice {e : Expr} {lo hi st : Option Expr} {p pos : Pos} {l u t : Option Int} (he : EvR c fr σ O e ds) (hl : EvPart c fr σ O lo l) (hu : EvPart c fr σ O hi u) (ht : EvPart c fr σ O st t) (h0 : t ≠ some 0) (hz : ds.length ≤ 2 ^ 24)
    (hs : ∀ o v : Value, ∃ ops, subscripted (.Slice lo hi st p) false o v = operate ops (getItem o v) := by intro _ _; exact ⟨_, rfl⟩) : EvN c fr σ O (.Subscript e (.Slice lo hi st p) pos) (pickD ds l u t) := by
  intro s F Q E k
  refine Subscript_ (he s F _ _ fun v s₁ F₁ K₁ V₁ => wpAny_Slice ?_)
  refine hl.run F₁ fun vl s₂ F₂ K₂ P₂ => hu.run F₂ fun vu s₃ F₃ K₃ P₃ => ht.run F₃ fun vt s₄ F₄ K₄ P₄ => ?_
  have F₅ := F₄.push { cls := .type "slice", data := .fields #[vl, vu, vt] } (tk := s₄.toks)
  have K₅ : Kept fr O s₄ O { s₄ with heap := s₄.heap.push { cls := .type "slice", data := .fields #[vl, vu, vt] } } := Kept.grow fun a o e => Heap.get?_push_of_some _ e
  obtain ⟨a, vs, n, rfl, ea, Va⟩ := V₁ _ F₅ (((K₂.trans K₃).trans K₄).trans K₅)
  have l1 : vs.size = ds.length := by rw [← Va.length]; simp
  obtain ⟨ops, hops⟩ := hs (.ref a) (.ref s₄.heap.objs.size)
  refine tail_any (T := "list") ⟨_, ea, rfl⟩ slot_list_getitem.lookup ?_ hops
  refine wpAny_getItem_list_slice ⟨_, ea, rfl, n, rfl⟩ (Heap.IsSliceOf.new ..) P₂ P₃ P₄ h0 ?_ (by rw [l1, sizeLine_eq]; exact hz)
  obtain ⟨F₆, K₆⟩ := F₅.own (s' := { s₄ with heap := (s₄.heap.push { cls := .type "slice", data := .fields #[vl, vu, vt] }).push { cls := .type "list", data := .seq (slicePick vs l u t) } }) (fun b o e => Heap.get?_push_of_some _ e) rfl rfl F₅.fresh (Heap.get?_push_size _ rfl) (ds := pickD ds l u t) (by
    unfold slicePick pickD
    rw [l1]
    exact Va.pick _)
  exact k _ _ F₆ (((((K₁.trans K₂).trans K₃).trans K₄).trans K₅).trans K₆)
end
end Mine
end
section
open PySem PySem.W PyProof.Rows PySem.Calls PyProof.V PySem.Spec
namespace Mine
section
variable {c : Cx} {fr : FX} {σ σ' : Store} {O O' : Owns} {s s' : Shared} {a : Addr} {ds ds' es : List D}
theorem Ex_def1 {name qual : Str} {params : Arguments} {body rest : List Stmt} {scope : Scope} {pos : Pos} {cd Pt : Addr} {P : Post} (fv : Store)
    (htab : (cd, Pt) ∈ c.tabs) (hst : Storable fr name) (hd : Drop name σ σ') (hq : c.tq Pt pos.line pos.col = qual) (hs : Sub σ' fv) 
    (k : ∀ h hk ht f cs xs, Inner (c.grow h hk ht) f name qual params body scope ((name, .raw (.ref f)) :: fv) → Ex (c.grow h hk ht) (fr.less cs xs) ((name, .raw (.ref f)) :: σ') O rest P)
    (hcode : fr.env.code = .ref cd := by rfl) (hqual : qualnameIn fr.env name name = qual := by rfl)
    (hn : (scope.names.map (·.1)).Nodup := by decide) (hfree : scope.names.all (fun p => !(p.2 == .free) || (fr.env.kindOf p.1 == some .cell && fr.mine p.1)) = true := by rfl)
    (hnm : (name, NameKind.free) ∈ scope.names := by decide) (hfv : fv.all (fun p => scope.names.any fun q => q.1 == p.1 && q.2 == .free) = true := by rfl)
    (hd0 : params.defaults = [] := by rfl) (hk0 : params.kw_defaults = [] := by rfl) (ha : annTrees params none fr.env = [] := by rfl) : Ex c fr σ O (.FunctionDef name params body [] none [] scope none name pos :: rest) P := by
  refine Ex_def hcode htab hqual hq hn (fun p hp e => ?_) hst hd hnm (fun p hp => ⟨hs.mem p hp, ?_⟩) k hd0 hk0 ha
  · have := List.all_eq_true.mp hfree p hp
    simpa [e] using this
  · have := List.all_eq_true.mp hfv p hp
    obtain ⟨q, hq, e⟩ := List.any_eq_true.mp this
    simp only [Bool.and_eq_true, beq_iff_eq] at e
    obtain ⟨q1, q2⟩ := q
    simp only at e
    obtain ⟨rfl, rfl⟩ := e
    exact hq
theorem call_inner1 {f : Addr} {name qual : Str} {params : Arguments} {body : List Stmt} {scope : Scope} {fv : Store} {n : Nat} {d : D} {O₀ O₁ : Owns} (I : Inner c f name qual params body scope fv) (xs : List Str) 
    (hbind : ∀ clos doc pm cc ctv (vs : List Value), vs.length = xs.length → bindArgs (fnX name qual params body scope clos .none .none doc pm none (.ref cc) ctv) ⟨vs, []⟩ = pure (xs.zip vs))
    (hex : ∀ clos doc pm cc ctv L A out own, A.depth + n ≤ 900 → Ex c ⟨callEnv (fnX name qual params body scope clos .none .none doc pm none (.ref cc) ctv) L f, A, out, own, fun _ => true⟩ (xs.zip ds ++ fv) O₀ body (fun o σ' O' => RetIs d o σ' O' ∧ ∀ q ∈ O₁, q ∈ O'))
    (hlen : xs.length = ds.length := by rfl) (hn : xs.Nodup := by decide) (hloc : xs.all (fun x => scope.names.lookup x == some .local) = true := by rfl) (hcell : scope.names.all (fun p => !(p.2 == .cell)) = true := by rfl)
    (hfv : fv.all (fun p => scope.names.lookup p.1 == some .free) = true := by rfl) (haddr : addrs O₁ = addrs O₀ := by rfl) 
    (hco : scope.isCoroutine = false := by rfl) (hgen : scope.isGenerator = false := by rfl) (hk : scope.kind = .function := by rfl) : CallSpecO c (.ref f) (n + 1) ds O₀ O₁ d :=
  call_inner I hco hgen hk hbind hn hlen (fun x hx e => by have := List.all_eq_true.mp hcell x hx; simp [e] at this) (fun x hx => by have := List.all_eq_true.mp hloc x hx; simpa using this) (fun p hp => by have := List.all_eq_true.mp hfv p hp; simpa using this) haddr hex
end
end Mine
end
section
open PySem PySem.W PyProof.Rows PySem.Calls PyProof.V PySem.Spec
namespace Mine
theorem nat_and_shl (x k : Nat) : x &&& (x / 2 ^ k * 2 ^ k) = x / 2 ^ k * 2 ^ k := by
  apply Nat.eq_of_testBit_eq
  intro i
  rw [← Nat.shiftLeft_eq, ← Nat.shiftRight_eq_div_pow, Nat.testBit_and, Nat.testBit_shiftLeft, Nat.testBit_shiftRight]
  by_cases h : i ≥ k
  · simp [h]
  · simp [h]
theorem nat_and_low (q r k : Nat) (h : r < 2 ^ k) : (q * 2 ^ k) &&& r = 0 := by
  apply Nat.eq_of_testBit_eq
  intro i
  rw [← Nat.shiftLeft_eq, Nat.testBit_and, Nat.testBit_shiftLeft, Nat.zero_testBit]
  by_cases h1 : i ≥ k
  · have : r.testBit i = false := Nat.testBit_lt_two_pow (Nat.lt_of_lt_of_le h (Nat.pow_le_pow_right (by decide) h1))
    simp [this]
  · simp [h1]
theorem pow_pos' (k : Nat) : (0 : Int) < 2 ^ k := Int.pow_pos (by decide)
theorem pow_cast (k : Nat) : ((2 ^ k : Nat) : Int) = (2 : Int) ^ k := by simp
theorem band_mask {x : Int} (hx : 0 ≤ x) (k : Nat) : Builtin.bitAnd x (2 ^ k - 1) = x % 2 ^ k := by
  have hp := pow_pos' k
  rw [bitAnd_pp hx (by (first | lia | omega))]
  have h1 : ((2 : Int) ^ k - 1).toNat = 2 ^ k - 1 := by
    have := pow_cast k; have h2 : 0 < 2 ^ k := Nat.pow_pos (by decide)
    (first | lia | omega)
  rw [h1, Nat.and_two_pow_sub_one_eq_mod]
  have : (x.toNat : Int) = x := by (first | lia | omega)
  rw [Int.natCast_emod, this]; simp
theorem bor_low {q r : Int} (hq : 0 ≤ q) (hr : 0 ≤ r) (k : Nat) (h : r < 2 ^ k) : Builtin.bitOr (q * 2 ^ k) r = q * 2 ^ k + r := by
  rw [bitOr_and, bitAnd_pp (Int.mul_nonneg hq (Int.le_of_lt (pow_pos' k))) hr]
  have h1 : (q * 2 ^ k).toNat = q.toNat * 2 ^ k := by
    have : q = (q.toNat : Int) := by (first | lia | omega)
    rw [this, ← pow_cast, ← Int.natCast_mul, Int.toNat_natCast, Int.toNat_natCast]
  rw [h1, nat_and_low q.toNat r.toNat k (by have := pow_cast k; (first | lia | omega))]
  simp
theorem bxor_high {x : Int} (hx : 0 ≤ x) (k : Nat) : Builtin.bitXor x (x / 2 ^ k * 2 ^ k) = x % 2 ^ k := by
  have hq : 0 ≤ x / 2 ^ k := Int.ediv_nonneg hx (Int.le_of_lt (pow_pos' k))
  rw [bitXor_and, bitAnd_pp hx (Int.mul_nonneg hq (Int.le_of_lt (pow_pos' k)))]
  have h1 : (x / 2 ^ k * 2 ^ k).toNat = x.toNat / 2 ^ k * 2 ^ k := by
    have : x = (x.toNat : Int) := by (first | lia | omega)
    rw [this, ← pow_cast, ← Int.natCast_ediv, ← Int.natCast_mul, Int.toNat_natCast, Int.toNat_natCast]
  have h2 : ((x.toNat / 2 ^ k * 2 ^ k : Nat) : Int) = x / 2 ^ k * 2 ^ k := by
    have : x = (x.toNat : Int) := by (first | lia | omega)
    rw [Int.natCast_mul, Int.natCast_ediv, pow_cast, ← this]
  rw [h1, nat_and_shl, h2]
  have := Int.mul_ediv_add_emod x (2 ^ k)
  have e : x / 2 ^ k * 2 ^ k = 2 ^ k * (x / 2 ^ k) := Int.mul_comm _ _
  (first | lia | omega)
theorem fdiv_pow {x : Int} (k : Nat) : x.fdiv (2 ^ k) = x / 2 ^ k := Int.fdiv_eq_ediv_of_nonneg _ (Int.le_of_lt (pow_pos' k))
theorem bits_le {a : Int} {k : Nat} (h : a.natAbs < 2 ^ k) : Builtin.Int.intBits a ≤ k := by
  unfold Builtin.Int.intBits
  by_cases h0 : a = 0
  · simp [h0]
  · rw [if_neg (by simpa using h0)]
    have : a.natAbs ≠ 0 := by (first | lia | omega)
    exact (Nat.log2_lt this).mpr h
theorem bits_le' {a : Int} {k : Nat} (h0 : 0 ≤ a) (h : a < 2 ^ k) : Builtin.Int.intBits a ≤ k := bits_le (by have := pow_cast k; (first | lia | omega))
theorem lt_bits {a : Int} (h0 : 0 ≤ a) : a < 2 ^ (Builtin.Int.intBits a) := by
  unfold Builtin.Int.intBits
  by_cases h : a = 0
  · simp [h]
  · rw [if_neg (by simpa using h)]
    have := @Nat.lt_log2_self a.natAbs
    have h2 := pow_cast (a.natAbs.log2 + 1)
    (first | lia | omega)
theorem bits_ge {a : Int} (h0 : 0 < a) : 2 ^ (Builtin.Int.intBits a - 1) ≤ a := by
  unfold Builtin.Int.intBits
  rw [if_neg (by simp; (first | lia | omega))]
  have := Nat.log2_self_le (n := a.natAbs) (by (first | lia | omega))
  have h2 := pow_cast (a.natAbs.log2)
  rw [Nat.add_sub_cancel]
  (first | lia | omega)
theorem bits_pos {a : Int} (h0 : 0 < a) : 1 ≤ Builtin.Int.intBits a := by
  unfold Builtin.Int.intBits
  rw [if_neg (by simp; (first | lia | omega))]; (first | lia | omega)
theorem mulOk_of {a b : Int} {j k : Nat} (ha : a.natAbs < 2 ^ j) (hb : b.natAbs < 2 ^ k) (h : j + k ≤ 2 ^ 24) : IntMulOk a b := by
  intro q
  have h1 := bits_le ha
  have h2 := bits_le hb
  simp only [Bool.and_eq_true, decide_eq_true_eq, Builtin.Int.intTooBig] at q
  have : (bitsLine : Int) = 2 ^ 27 := by decide
  (first | lia | omega)
def d2i (n : Nat) : List Int → Int
  | [] => 0
  | x :: r => x + d2i n r * 2 ^ n
theorem d2i_append (n : Nat) (ys : List Int) : ∀ xs : List Int, d2i n (xs ++ ys) = d2i n xs + d2i n ys * 2 ^ (n * xs.length)
  | [] => by simp [d2i]
  | x :: r => by
    rw [List.cons_append, d2i, d2i, d2i_append n ys r, List.length_cons, Nat.mul_add, Nat.mul_one, Int.add_mul, Int.mul_assoc, ← Int.pow_add, Int.add_assoc]
theorem d2i_bound {n : Nat} (hn : 1 ≤ n) {K : Nat} : ∀ xs : List Int, (∀ x ∈ xs, x.natAbs ≤ 2 ^ K) → (d2i n xs).natAbs ≤ 2 ^ K * (2 ^ (n * xs.length) - 1)
  | [], _ => by simp [d2i]
  | x :: r, h => by
    have ih := d2i_bound hn r fun y hy => h y (List.mem_cons_of_mem _ hy)
    have hx := h x (List.mem_cons_self ..)
    rw [d2i, List.length_cons, Nat.mul_add, Nat.mul_one]
    have h1 : (x + d2i n r * 2 ^ n).natAbs ≤ x.natAbs + (d2i n r).natAbs * 2 ^ n := by
      refine Nat.le_trans (Int.natAbs_add_le _ _) ?_
      rw [Int.natAbs_mul, Int.natAbs_pow]; exact Nat.le_refl _
    have hP : 2 ≤ 2 ^ n := by
      have := Nat.pow_le_pow_right (n := 2) (by decide) hn
      simpa using this
    refine Nat.le_trans h1 ?_
    have h2 : (d2i n r).natAbs * 2 ^ n ≤ 2 ^ K * (2 ^ (n * r.length) - 1) * 2 ^ n := Nat.mul_le_mul_right _ ih
    have h3 : 2 ^ K * (2 ^ (n * r.length) - 1) * 2 ^ n = 2 ^ K * (2 ^ (n * r.length) * 2 ^ n - 2 ^ n) := by rw [Nat.mul_assoc, Nat.sub_mul, Nat.one_mul]
    rw [h3] at h2
    rw [Nat.pow_add]
    have h4 : 1 ≤ 2 ^ (n * r.length) := Nat.one_le_two_pow
    have h5 : 2 ^ n ≤ 2 ^ (n * r.length) * 2 ^ n := Nat.le_mul_of_pos_left _ h4
    calc x.natAbs + (d2i n r).natAbs * 2 ^ n ≤ 2 ^ K * 1 + 2 ^ K * (2 ^ (n * r.length) * 2 ^ n - 2 ^ n) := by (first | lia | omega)
      _ = 2 ^ K * (1 + (2 ^ (n * r.length) * 2 ^ n - 2 ^ n)) := by rw [Nat.mul_add]
      _ ≤ 2 ^ K * (2 ^ (n * r.length) * 2 ^ n - 1) := Nat.mul_le_mul_left _ (by (first | lia | omega))
theorem d2i_bits {n : Nat} (hn : 1 ≤ n) {K : Nat} {xs : List Int} (h : ∀ x ∈ xs, x.natAbs ≤ 2 ^ K) : Builtin.Int.intBits (d2i n xs) ≤ K + n * xs.length := by
  refine bits_le ?_
  have := d2i_bound hn xs h
  have h1 : 1 ≤ 2 ^ (n * xs.length) := Nat.one_le_two_pow
  have h2 : 1 ≤ 2 ^ K := Nat.one_le_two_pow
  have h3 : 2 ^ K * (2 ^ (n * xs.length) - 1) + 2 ^ K = 2 ^ K * 2 ^ (n * xs.length) := by
    rw [← Nat.mul_succ]; congr 1; (first | lia | omega)
  rw [Nat.pow_add]; (first | lia | omega)
theorem Int.sub_ediv_of_dvd_mul_aux {a b c : Int} (hp : b ≠ 0) : a / b - c = (a - b * c) / b := by
  rw [Int.sub_ediv_of_dvd _ (Int.dvd_mul_right b c), Int.mul_ediv_cancel_left _ hp]
theorem idivdiv {a b : Int} (hb : 0 ≤ b) (c : Int) : a / b / c = a / (b * c) := by
  rw [Int.ediv_ediv, if_neg (by (first | lia | omega)), Int.sub_zero]
def digs (n k : Nat) (x : Int) : List Int := (List.range k).map fun i => x / 2 ^ (n * i) % 2 ^ n
def i2d (n : Nat) (a : Int) : List Int := digs n ((Builtin.Int.intBits a + n - 1) / n) a
theorem digs_len {n k : Nat} {x : Int} : (digs n k x).length = k := by simp [digs]
theorem digs_one {n : Nat} {x : Int} (h0 : 0 ≤ x) (h : x < 2 ^ n) : digs n 1 x = [x] := by
  simp [digs, List.range_succ]
  exact Int.emod_eq_of_lt h0 h
theorem digs_split {n j k : Nat} {x : Int} (h0 : 0 ≤ x) : digs n j (x % 2 ^ (n * j)) ++ digs n k (x / 2 ^ (n * j)) = digs n (j + k) x := by
  unfold digs
  rw [List.range_add, List.map_append, List.map_map]
  congr 1
  · apply List.map_congr_left
    intro i hi
    have hij : i < j := List.mem_range.mp hi
    have e : n * j = n * i + n * (j - i) := by rw [← Nat.mul_add]; congr 1; (first | lia | omega)
    rw [e, Int.pow_add]
    have h1 : x % (2 ^ (n * i) * 2 ^ (n * (j - i))) / 2 ^ (n * i) = x / 2 ^ (n * i) % 2 ^ (n * (j - i)) := by
      rw [Int.emod_def, Int.emod_def, Int.mul_assoc]
      have hp : (2 : Int) ^ (n * i) ≠ 0 := Int.ne_of_gt (pow_pos' _)
      rw [← Int.sub_ediv_of_dvd_mul_aux hp, idivdiv (Int.le_of_lt (pow_pos' _))]
    rw [h1]
    have hd : (2 : Int) ^ n ∣ 2 ^ (n * (j - i)) := ⟨2 ^ (n * (j - i - 1)), by
      rw [← Int.pow_add]; congr 1
      have : j - i = 1 + (j - i - 1) := by (first | lia | omega)
      calc n * (j - i) = n * (1 + (j - i - 1)) := by rw [← this]
        _ = n + n * (j - i - 1) := by rw [Nat.mul_add, Nat.mul_one]⟩
    exact Int.emod_emod_of_dvd _ hd
  · apply List.map_congr_left
    intro i _
    simp only [Function.comp]
    rw [idivdiv (Int.le_of_lt (pow_pos' _)), ← Int.pow_add, Nat.mul_add]
theorem zs_append (a b : List Int) : zs (a ++ b) = zs a ++ zs b := by simp [zs]
theorem pylong_small {x y : Int} {k : Nat} (h : y.natAbs < 2 ^ k) (hk : k ≤ 8000) : Builtin.divisionGoesByPylong x y = false := by
  unfold Builtin.divisionGoesByPylong
  have : (if (y == 0) = true then 0 else y.natAbs.log2 / 30 + 1) ≤ 300 := by
    split
    · (first | lia | omega)
    · rename_i h0
      have h0' : y.natAbs ≠ 0 := by simp at h0; (first | lia | omega)
      have := (Nat.log2_lt h0').mpr h
      (first | lia | omega)
  simp only [Bool.and_eq_false_iff, decide_eq_false_iff_not]
  left; (first | lia | omega)
theorem pylong_near {x y : Int} (h : Builtin.Int.intBits x ≤ Builtin.Int.intBits y + 4000) : Builtin.divisionGoesByPylong x y = false := by
  unfold Builtin.divisionGoesByPylong
  unfold Builtin.Int.intBits at h
  simp only [Bool.and_eq_false_iff, decide_eq_false_iff_not]
  right
  split at h <;> split at h <;> simp_all <;> (first | lia | omega)
def put (pre : List Int) (L : Nat) (mid : List Int) : List Int := pre.take L ++ mid ++ pre.drop (L + mid.length)
theorem put_len {pre mid : List Int} {L : Nat} (h : L + mid.length ≤ pre.length) : (put pre L mid).length = pre.length := by simp [put]; (first | lia | omega)
theorem put_put {pre a b : List Int} {L : Nat} (h : L + a.length + b.length ≤ pre.length) : put (put pre L a) (L + a.length) b = put pre L (a ++ b) := by
  have h1 : (pre.take L).length = L := by simp; (first | lia | omega)
  unfold put
  have e1 : (pre.take L ++ a ++ pre.drop (L + a.length)).take (L + a.length) = pre.take L ++ a := by
    rw [List.take_append_of_le_length (by simp; (first | lia | omega))]
    rw [List.take_of_length_le (by simp; (first | lia | omega))]
  have e2 : (pre.take L ++ a ++ pre.drop (L + a.length)).drop (L + a.length + b.length) = pre.drop (L + (a ++ b).length) := by
    rw [List.drop_append, List.drop_drop]
    have : (pre.take L ++ a).length = L + a.length := by simp; (first | lia | omega)
    rw [this, List.drop_eq_nil_of_le (by (first | lia | omega)), List.nil_append]
    congr 1
    simp; (first | lia | omega)
  rw [e1, e2]; simp
theorem put_one {pre : List Int} {L : Nat} {x : Int} (h : L < pre.length) : (zs pre).set L (.int x) = zs (put pre L [x]) := by
  unfold put zs
  rw [List.set_eq_take_append_cons_drop]
  simp [h, List.map_take, List.map_drop]
theorem put_all {pre mid : List Int} (h : mid.length = pre.length) : put pre 0 mid = mid := by simp [put, h]
end Mine
end
section
open PySem PySem.W PyProof.Rows PySem.Calls PyProof.V PySem.Spec
set_option maxRecDepth 100000
namespace Mine
structure GK (c : Cx) : Prop where
  K : c.K = hd.heap_39 c.w.params
  tabs : c.tabs = [(55, 51), (48, 44)]
  tq : c.tq = fun P _ _ => if P = 51 then Str.ofString "_digits2int.<locals>.inner" else Str.ofString "_int2digits.<locals>.inner"
theorem GK.grow {c : Cx} (h : GK c) {hp : Heap} {k} {t} : GK (c.grow hp k t) := ⟨h.K, h.tabs, h.tq⟩
theorem GK.at {c : Cx} (h : GK c) {a : Addr} {o : Obj} (e : (hd.heap_39 c.w.params).lookup a = some o) : c.hw.get? a = some o := c.KX a o (h.K ▸ e)
theorem GK.gl {c : Cx} (h : GK c) {x : Str} {v : Value} (e : nsIn (hd.heap_39 c.w.params) mainGlobals x = some (some v)) : GlobIs c x v := GlobIs.top (h.K ▸ e)
theorem GK.bl {c : Cx} (h : GK c) {x : Str} {v : Value} (e : nsIn (hd.heap_39 c.w.params) mainGlobals x = some none) (hb : bootBuiltins x = some v) (hn : x ≠ "__name__" := by decide) : GlobIs c x v := GlobIs.blt (h.K ▸ e) hb hn
theorem GK.kp {c : Cx} (h : GK c) {f : Value} (e : keepIn (hd.heap_39 c.w.params) f = true) : Keep c f := Keep_K (h.K ▸ e)
theorem g_len {c : Cx} (h : GK c) : GlobIs c (Str.ofString "len") (.builtin "len") := h.bl (by kernel_rfl) (by kernel_rfl)
theorem g_mark {c : Cx} (h : GK c) : GlobIs c (Str.ofString "ELLIPSIS_MARKER") (.str (Str.ofString "...") 196) := h.gl (by kernel_rfl)
local macro_rules | `(tactic| walk_at "mem") => `(tactic| with_reducible first | exact List.mem_cons_self .. | (refine List.mem_cons_of_mem _ ?_; walk_at "mem"))
local macro_rules | `(tactic| walk_at "st") => `(tactic| first | exact .inl rfl | exact .inr ⟨rfl, rfl⟩)
local macro_rules | `(tactic| walk_at "dr") => `(tactic| first | exact Drop.nil | (with_reducible apply Drop.hit; walk_at "dr") | (with_reducible apply Drop.miss; (focus decide); walk_at "dr"))
local macro_rules | `(tactic| walk_at "sub") => `(tactic| first | exact Sub.nil | (refine Sub.cons (by walk_at "mem") ?_; walk_at "sub"))
def dots : Str := Str.ofString "..."
def findAll (got : Str) (e : Int) : List Str → Int → Bool
  | [], _ => true
  | w :: r, p => if find4 got w p e < 0 then false else findAll got e r (find4 got w p e + w.length)
def ematch2 (got : Str) (ws : List Str) (p : Int) : Bool :=
  if (ws.getLastD Str.empty).length ≠ 0 then
    (if Txt.endswith got (ws.getLastD Str.empty) then
      (if p > got.length - (ws.getLastD Str.empty).length then false else findAll got (got.length - (ws.getLastD Str.empty).length) (ws.eraseIdx (ws.length - 1)) p)
    else false)
  else if p > got.length then false else findAll got got.length ws p
def ematch1 (got : Str) (ws : List Str) : Bool :=
  if (ws.headD Str.empty).length ≠ 0 then (if Txt.startswith got (ws.headD Str.empty) then ematch2 got ws.tail (ws.headD Str.empty).length else false) else ematch2 got ws 0
def ematch (want got : Str) : Bool := if Txt.contains want dots then ematch1 got (Txt.split want dots) else want == got
theorem map_eraseIdx {α β : Type} (f : α → β) : ∀ (l : List α) (i : Nat), (l.map f).eraseIdx i = (l.eraseIdx i).map f
  | [], i => by simp
  | a :: l, 0 => by simp
  | a :: l, i + 1 => by simp [map_eraseIdx f l i]
theorem sum_le_of_mem {l : List Nat} {a : Nat} (h : a ∈ l) : a ≤ l.sum := by
  induction l with
  | nil => cases h
  | cons b l ih =>
    rcases List.mem_cons.mp h with rfl | h
    · simp
    · have := ih h; simp; (first | lia | omega)
theorem between_size (x y : Str) : x.length = ((Builtin.Str.partsBetween x (Builtin.Str.occurrences x y 0 x.length (x.length + 1)) y.length).map (·.length)).sum + (Builtin.Str.occurrences x y 0 x.length (x.length + 1)).length * y.length := by
  have h := congrArg Str.length (StrLaws.glued_between_self x y (x.length + 1))
  rw [size_glued, length_partsBetween, Nat.add_sub_cancel] at h
  exact h.symm
theorem split_le (x y : Str) : ∀ w ∈ Txt.split x y, w.length ≤ x.length := by
  intro w hw
  unfold Txt.split at hw
  split at hw
  · simp at hw; simp [hw]
  split at hw
  · simp at hw; simp [hw]
  have h := between_size x y
  have := sum_le_of_mem (List.mem_map_of_mem (f := fun s : Str => s.length) hw)
  (first | lia | omega)
theorem split_len (x y : Str) : (Txt.split x y).length ≤ x.length + 2 := by
  unfold Txt.split
  split
  · simp
  split
  · simp
  rw [length_partsBetween]
  have := StrLaws.occ_length_le x y 0 x.length (x.length + 1)
  (first | lia | omega)
theorem kind_pos (x : Str) : ¬ Builtin.Str.strKind x < Builtin.Str.strKind dots := by
  have : Builtin.Str.strKind dots = 1 := by decide +kernel
  rw [this]; unfold Builtin.Str.strKind; split <;> (try split) <;> decide
theorem split_two {x : Str} (h : Txt.contains x dots = true) : 2 ≤ (Txt.split x dots).length := by
  obtain ⟨i, h1, h2⟩ := (StrLaws.found_iff x dots).mp h
  have hl : ¬ x.length < dots.length := by (first | lia | omega)
  have hne : (Builtin.Str.occurrences x dots 0 x.length (x.length + 1)).isEmpty = false := by
    rcases StrLaws.occ_head x dots (x.length + 1) (by (first | lia | omega)) with ⟨_, hn⟩ | ⟨a, r, e, _⟩
    · exact absurd ⟨h1, h2⟩ (hn i)
    · rw [e]; rfl
  unfold Txt.split
  rw [if_neg (by simp [hl, kind_pos x]), if_neg (by simp [hne]), length_partsBetween]
  cases hq : Builtin.Str.occurrences x dots 0 x.length (x.length + 1) with
  | nil => rw [hq] at hne; cases hne
  | cons a r => simp
set_option maxHeartbeats 4000000 in
theorem cs_match {c : Cx} (h : GK c) (want got : Str) (hw : want.length ≤ 2 ^ 20) (hg : got.length ≤ 2 ^ 20) : CallSpec c (.ref 28) 5 [.str want, .str got] (.bool (ematch want got)) := by
  refine call_def (n := 4) (xs := [Str.ofString "want", Str.ofString "got"]) (h.at (by rfl)) rfl rfl rfl rfl rfl ⟨_, _, _, _, rfl, h.at (by rfl), rfl, rfl⟩ rfl rfl rfl (len2 fun _ _ => rfl) (by decide) rfl (by decide) (noFree (by decide)) ?_
  intro L A out own hA
  dsimp only [List.zip, List.zipWith]
  refine Ex_cons (Ex1_if (EvT_cmp (Ev_glob (d := .str dots) (g_mark h) (fun _ _ _ => ⟨_, rfl⟩)) (Ev_name (by walk_at "mem")) CmpD_notin) (fun hc => ?_) (fun hc => ?_))
  · have hc' : Txt.contains want dots = false := by simpa using hc
    refine Ex_cons (Ex1_ret (Ev_cmp (Ev_name (by walk_at "mem")) (Ev_name (by walk_at "mem")) CmpD_eqs) ?_)
    simp [RetIs, Then, ematch, hc']
  have hc' : Txt.contains want dots = true := by simpa using hc
  refine Ex_nil ?_
  refine Ex_cons (Ex1_assignN (EvN_meth (Ev_name (by walk_at "mem")) (MethOn_str F.slot_str_split F.type_str_split) (.cons (Ev_glob (d := .str dots) (g_mark h) (fun _ _ _ => ⟨_, rfl⟩)) .nil) (CallN_split (by decide) (by (first | lia | omega)))) (by walk_at "st") (by walk_at "dr") fun a => ?_)
  have hlen := split_two (x := want) hc'
  have hbig := split_len want dots
  have hle := split_le want dots
  have hem : ematch want got = ematch1 got (Txt.split want dots) := by simp only [ematch, hc', if_true]
  generalize hws : Txt.split want dots = ws at *
  obtain ⟨w0, w1, rest, rfl⟩ : ∃ w0 w1 rest, ws = w0 :: w1 :: rest := by
    match ws, hlen with
    | a :: b :: r, _ => exact ⟨a, b, r, rfl⟩
  have h0 := hle w0 (by simp)
  have hb : ((w0 :: w1 :: rest).map D.str).length ≤ 2 ^ 24 := by simp at hbig ⊢; (first | lia | omega)
  refine Ex_cons (Ex1_assert2 (EvT_cmp (Ev_lenO (ds := (w0 :: w1 :: rest).map .str) (Ev_globraw (g_len h)) (Ev_name (by walk_at "mem")) (by walk_at "mem") hb) Ev_int CmpD_ge) (decide_eq_true (by simp; (first | lia | omega))) ?_)
  refine Ex_cons (Ex1_assignSw (Ev_tuple (.cons Ev_int (.cons (Ev_call (Ev_globraw (g_len h)) Keep_builtin (.cons (Ev_name (by walk_at "mem")) .nil) (CallD_len_str (by (first | lia | omega)))) .nil))) rfl rfl rfl rfl (.cons (by walk_at "st") (by walk_at "dr") (.cons (by walk_at "st") (by walk_at "dr") .nil)) ?_)
  refine Ex_cons (Ex1_assign (Ev_itemO (a := a) (j := 0) (by walk_at "mem") (Ev_name (by walk_at "mem")) Ev_int (.inl ⟨by decide, rfl⟩) rfl hb) (by walk_at "st") (by walk_at "dr") ?_)
  refine Ex_cut (fun σ O => ∃ (ws1 : List Str) (p : Int), ematch want got = ematch2 got ws1 p ∧ 1 ≤ ws1.length ∧ (∀ w ∈ ws1, w ∈ w0 :: w1 :: rest) ∧ ws1.length ≤ (w0 :: w1 :: rest).length ∧
      Sub σ [(Str.ofString "got", .str got), (Str.ofString "endpos", .int got.length), (Str.ofString "startpos", .int p), (Str.ofString "ws", .raw (.ref a))] ∧ O = [(a, ws1.map .str)])
    (Ex1_if (EvT_val (Ev_name (by walk_at "mem")) (TruD_str (by (first | lia | omega)))) (fun h1 => ?_) (fun h1 => ?_)) ?_
  · have h1' : w0.length ≠ 0 := by simpa using h1
    refine Ex_cons (Ex1_if (EvT_val (Ev_meth (Ev_name (by walk_at "mem")) (MethOn_str F.slot_str_startswith F.type_str_startswith) (.cons (Ev_name (by walk_at "mem")) .nil) CallD_startswith) TruD_bool) (fun h2 => ?_) (fun h2 => ?_))
    · refine Ex_cons (Ex1_assign (Ev_call (Ev_globraw (g_len h)) Keep_builtin (.cons (Ev_name (by walk_at "mem")) .nil) (CallD_len_str (by (first | lia | omega)))) (by walk_at "st") (by walk_at "dr") ?_)
      refine Ex_cons (Ex1_delO (j := 0) (Ev_name (by walk_at "mem")) Ev_int (.inl ⟨by decide, rfl⟩) (by simp) hb ?_)
      refine Ex_nil (Ex_nil ?_)
      refine ⟨w1 :: rest, w0.length, ?_, by simp, fun w hw => List.mem_cons_of_mem _ hw, by simp, by walk_at "sub", by simp⟩
      rw [hem]; simp [ematch1, h1', h2]
    · refine Ex_cons (Ex1_ret Ev_bool ?_)
      refine (?_ : (_ : D) = _)
      rw [hem]
      simp [ematch1, h1', h2]
  · have h1' : w0.length = 0 := by simpa using h1
    refine Ex_nil ⟨w0 :: w1 :: rest, 0, ?_, by simp, fun w hw => hw, by simp, by walk_at "sub", rfl⟩
    rw [hem]; simp [ematch1, h1']
  rintro σ O ⟨ws1, p, hem1, hl1, hmem1, hlen1, hsub, rfl⟩
  refine Ex.weak ?_ hsub.mem
  clear hsub hem
  have hb1 : (ws1.map D.str).length ≤ 2 ^ 24 := by simp at hb hlen1 ⊢; (first | lia | omega)
  have hlast : (ws1.map D.str)[(ws1.map D.str).length - 1]? = some (D.str (ws1.getLastD Str.empty)) := by
    have : ws1 ≠ [] := by intro q; simp [q] at hl1
    rw [List.length_map, List.getElem?_map, List.getLastD_eq_getLast?, List.getLast?_eq_getElem?]
    rw [List.getElem?_eq_getElem (by (first | lia | omega))]; rfl
  have hwl : (ws1.getLastD Str.empty).length ≤ want.length := by
    have : ws1.getLastD Str.empty ∈ ws1 := by
      have hne : ws1 ≠ [] := by intro q; simp [q] at hl1
      rw [List.getLastD_eq_getLast?, List.getLast?_eq_some_getLast hne]; exact List.getLast_mem hne
    exact hle _ (hmem1 _ this)
  generalize hwle : ws1.getLastD Str.empty = wl at *
  refine Ex_cons (Ex1_assign (Ev_itemO (a := a) (j := (ws1.map D.str).length - 1) (by walk_at "mem") (Ev_name (by walk_at "mem")) (Ev_neg Ev_int) (.inr ⟨by decide, by simp; (first | lia | omega)⟩) hlast hb1) (by walk_at "st") (by walk_at "dr") ?_)
  refine Ex_cut (fun σ O => ∃ (ws2 : List Str) (e : Int), ematch want got = (if p > e then false else findAll got e ws2 p) ∧ (∀ w ∈ ws2, w ∈ ws1) ∧ ws2.length ≤ ws1.length ∧
      Sub σ [(Str.ofString "got", .str got), (Str.ofString "endpos", .int e), (Str.ofString "startpos", .int p), (Str.ofString "ws", .raw (.ref a))] ∧ O = [(a, ws2.map .str)])
    (Ex1_if (EvT_val (Ev_name (by walk_at "mem")) (TruD_str (by (first | lia | omega)))) (fun h1 => ?_) (fun h1 => ?_)) ?_
  · have h1' : wl.length ≠ 0 := by simpa using h1
    refine Ex_cons (Ex1_if (EvT_val (Ev_meth (Ev_name (by walk_at "mem")) (MethOn_str F.slot_str_endswith F.type_str_endswith) (.cons (Ev_name (by walk_at "mem")) .nil) CallD_endswith) TruD_bool) (fun h2 => ?_) (fun h2 => ?_))
    · refine Ex_cons (Ex1_aug (by walk_at "mem") (Ev_call (Ev_globraw (g_len h)) Keep_builtin (.cons (Ev_name (by walk_at "mem")) .nil) (CallD_len_str (by (first | lia | omega)))) InD_sub (by walk_at "st") (by walk_at "dr") ?_)
      refine Ex_cons (Ex1_delO (j := (ws1.map D.str).length - 1) (Ev_name (by walk_at "mem")) (Ev_neg Ev_int) (.inr ⟨by decide, by simp; (first | lia | omega)⟩) (by simp; (first | lia | omega)) hb1 ?_)
      refine Ex_nil (Ex_nil ?_)
      refine ⟨ws1.eraseIdx (ws1.length - 1), got.length - wl.length, ?_, fun w hw => List.mem_of_mem_eraseIdx hw, List.length_eraseIdx_le .., by walk_at "sub", by rw [map_eraseIdx, List.length_map]⟩
      rw [hem1]; simp only [ematch2, hwle]; rw [if_pos h1', if_pos h2]
    · refine Ex_cons (Ex1_ret Ev_bool ?_)
      refine (?_ : (_ : D) = _)
      rw [hem1]; simp only [ematch2, hwle]; rw [if_pos h1', if_neg (by simp [h2])]
  · have h1' : wl.length = 0 := by simpa using h1
    refine Ex_nil ⟨ws1, got.length, ?_, fun w hw => hw, by simp, by walk_at "sub", rfl⟩
    rw [hem1]; simp only [ematch2, hwle]; rw [if_neg (by simp [h1'])]
  rintro σ O ⟨ws2, e, hem2, hmem2, hlen2, hsub, rfl⟩
  refine Ex.weak ?_ hsub.mem
  clear hsub hem1
  refine Ex_cons (Ex1_if (EvT_cmp (Ev_name (by walk_at "mem")) (Ev_name (by walk_at "mem")) CmpD_gt) (fun h1 => ?_) (fun h1 => ?_))
  · refine Ex_cons (Ex1_ret Ev_bool ?_)
    refine (?_ : (_ : D) = _)
    have : p > e := by simpa using h1
    rw [hem2, if_pos this]
  have hpe : ¬ p > e := by simpa using h1
  rw [if_neg hpe] at hem2
  refine Ex_nil ?_
  refine Ex_freeze (σ' := [(Str.ofString "got", .str got), (Str.ofString "endpos", .int e), (Str.ofString "startpos", .int p), (Str.ofString "ws", .list (ws2.map .str))]) ?_ (by
    intro q hq
    simp only [List.mem_cons, List.mem_nil_iff, or_false] at hq
    rcases hq with rfl | rfl | rfl | rfl
    · exact .inl (by walk_at "mem")
    · exact .inl (by walk_at "mem")
    · exact .inl (by walk_at "mem")
    · exact .inr ⟨rfl, by walk_at "mem"⟩)
  refine Ex_cons (Ex1_for (EvIt_list (Ev_name (by walk_at "mem"))) (fun i σ O => ∃ q : Int, findAll got e (ws2.drop i) q = findAll got e ws2 p ∧ Sub σ [(Str.ofString "got", .str got), (Str.ofString "endpos", .int e), (Str.ofString "startpos", .int q)] ∧ O = []) ⟨p, rfl, by walk_at "sub", rfl⟩ ?_ ?_)
  · rintro wr i d σ O hd ⟨q, hq, hsub, rfl⟩
    rw [List.getElem?_map] at hd
    cases hwi : ws2[i]? with
    | none => rw [hwi] at hd; cases hd
    | some w =>
      rw [hwi] at hd; cases hd
      have hil := (List.getElem?_eq_some_iff.mp hwi).1
      have hdrop : ws2.drop i = w :: ws2.drop (i + 1) := by
        rw [List.drop_eq_getElem_cons hil]; congr 1; exact (List.getElem?_eq_some_iff.mp hwi).2
      have hwlen : w.length ≤ want.length := hle _ (hmem1 _ (hmem2 _ (List.mem_of_getElem? hwi)))
      rw [hdrop] at hq
      simp only [findAll] at hq
      refine ⟨_, Asg.weak (Asg_name (by walk_at "st") (by walk_at "dr")) hsub.mem, ?_⟩
      refine Ex_cons (Ex1_assign (Ev_meth (Ev_name (by walk_at "mem")) (MethOn_str F.slot_str_find F.type_str_find) (.cons (Ev_name (by walk_at "mem")) (.cons (Ev_name (by walk_at "mem")) (.cons (Ev_name (by walk_at "mem")) .nil))) CallD_find4) (by walk_at "st") (by walk_at "dr") ?_)
      refine Ex_cons (Ex1_if (EvT_cmp (Ev_name (by walk_at "mem")) Ev_int CmpD_lt) (fun h2 => ?_) (fun h2 => ?_))
      · have h2' : find4 got w q e < 0 := by simpa using h2
        rw [if_pos h2'] at hq
        refine Ex_cons (Ex1_ret Ev_bool ?_)
        refine (?_ : (_ : D) = _)
        rw [hem2, ← hq]
      · have h2' : ¬ find4 got w q e < 0 := by simpa using h2
        rw [if_neg h2'] at hq
        refine Ex_nil (Ex_cons (Ex1_aug (by walk_at "mem") (Ev_call (Ev_globraw (g_len h)) Keep_builtin (.cons (Ev_name (by walk_at "mem")) .nil) (CallD_len_str (by (first | lia | omega)))) InD_add (by walk_at "st") (by walk_at "dr") ?_))
        exact Ex_nil ⟨_, hq, by walk_at "sub", rfl⟩
  · rintro σ O ⟨q, hq, hsub, rfl⟩
    rw [show ws2.drop (ws2.map D.str).length = [] by simp] at hq
    refine Ex_cons (Ex1_ret Ev_bool ?_)
    refine (?_ : (_ : D) = _)
    rw [hem2, ← hq]; rfl
end Mine
end
section
open PySem PySem.W PyProof.Rows PySem.Calls PyProof.V PySem.Spec
set_option maxRecDepth 100000
namespace Mine
local macro_rules | `(tactic| walk_at "mem") => `(tactic| with_reducible first | exact List.mem_cons_self .. | (refine List.mem_cons_of_mem _ ?_; walk_at "mem"))
local macro_rules | `(tactic| walk_at "st") => `(tactic| first | exact .inl rfl | exact .inr ⟨rfl, rfl⟩)
local macro_rules | `(tactic| walk_at "dr") => `(tactic| first | exact Drop.nil | (with_reducible apply Drop.hit; walk_at "dr") | (with_reducible apply Drop.miss; (focus decide); walk_at "dr"))
local macro_rules | `(tactic| walk_at "sub") => `(tactic| first | exact Sub.nil | (refine Sub.cons (by walk_at "mem") ?_; walk_at "sub"))
def sq (t : Bool) (ds : List D) : D := if t then .tuple ds else .list ds
theorem Ev_itemS {c : Cx} {fr : FX} {σ : Store} {O : Owns} {t : Bool} {ds : List D} {e i : Expr} {pos : Pos} {k : Int} {j : Nat} {d : D} (he : Ev c fr σ O e (sq t ds)) (hi : Ev c fr σ O i (.int k)) (hj : At ds.length k j) (hd : ds[j]? = some d) (hz : ds.length ≤ 2 ^ 24)
    (hs : ∀ o v : Value, subscripted i false o v = operate [o, v] (getItem o v) := by intro _ _; rfl) : Ev c fr σ O (.Subscript e i pos) d := by
  cases t with
  | false => exact Ev_item he hi hj hd hz hs
  | true => exact Ev_itemT he hi hj hd hz hs
theorem TruD_sq {c : Cx} {fr : FX} {t : Bool} {ds : List D} (h : ds.length ≤ 2 ^ 24) : TruD c fr (sq t ds) (!ds.isEmpty) := by
  cases t with
  | false => exact TruD_list h
  | true => exact TruD_tuple h
theorem CallD_len_sq {c : Cx} {fr : FX} {t : Bool} {ds : List D} (h : ds.length ≤ 2 ^ 24) : CallD c fr (.builtin "len") [sq t ds] (.int ds.length) := by
  cases t with
  | false => exact CallD_len_list h
  | true => exact CallD_len_tuple h
set_option maxHeartbeats 4000000 in
theorem cs_d2i {c : Cx} (h : GK c) (t : Bool) (xs : List Int) (n : Nat) (hn : 1 ≤ n) (K : Nat) (hK : ∀ x ∈ xs, x.natAbs ≤ 2 ^ K) (hl : xs.length ≤ 2 ^ 20) (hnb : n ≤ 2 ^ 22) (hb : K + n * xs.length ≤ 2 ^ 26) :
    CallSpec c (.ref 56) 30 [sq t (zs xs), .int n] (.int (d2i n xs)) := by
  have hzl : (zs xs).length = xs.length := by simp [zs]
  refine call_def (n := 29) (xs := [Str.ofString "digits", Str.ofString "n"]) (h.at (by rfl)) rfl rfl rfl rfl rfl ⟨_, _, _, _, rfl, h.at (by rfl), rfl, rfl⟩ rfl rfl rfl (len2 fun _ _ => rfl) (by decide) rfl (by decide) (noFree (by decide)) ?_
  intro L A out own hA
  dsimp only [List.zip, List.zipWith]
  refine Ex_def1 [(Str.ofString "digits", sq t (zs xs)), (Str.ofString "n", .int n)] (by rw [h.tabs]; exact List.mem_cons_self ..) (by walk_at "st") (by walk_at "dr") (show c.tq 51 _ _ = Str.ofString "_digits2int.<locals>.inner" by simp [h.tq]) (by walk_at "sub") ?_
  intro hp hk ht f cs ys I
  have h' : GK (c.grow hp hk ht) := h.grow
  generalize c.grow hp hk ht = c' at *
  have ipos : ∀ k : Nat, (2 : Int) ^ ((1 : Int).toNat) = 2 := fun _ => rfl
  have inn : ∀ (m Lo Hi : Nat), Lo < Hi → Hi ≤ xs.length → Hi - Lo ≤ 2 ^ m → CallSpec c' (.ref f) (m + 1) [.int Lo, .int Hi] (.int (d2i n ((xs.drop Lo).take (Hi - Lo)))) := by
    intro m
    induction m using Nat.strongRecOn with
    | _ m ih =>
    intro Lo Hi hlt hle hm
    refine CallSpecO.none (call_inner1 (n := m) I [Str.ofString "L", Str.ofString "R"] (fun _ _ _ _ _ => len2 fun _ _ => rfl) ?_)
    intro clos doc pm cc ctv L A out own hA
    dsimp only [List.zip, List.zipWith, List.cons_append, List.nil_append]
    refine Ex_cons (Ex1_if (EvT_cmp (Ev_bin (Ev_name (by walk_at "mem")) Ev_int BinD_add) (Ev_name (by walk_at "mem")) CmpD_eq) (fun hc => ?_) (fun hc => ?_))
    · have e1 : Hi = Lo + 1 := by have : (Lo : Int) + 1 = Hi := by simpa using hc
                                  (first | lia | omega)
      subst e1
      have hx : (zs xs)[Lo]? = some (.int (xs[Lo]'(by (first | lia | omega)))) := by simp [zs, show Lo < xs.length by (first | lia | omega)]
      refine Ex_cons (Ex1_ret (Ev_itemS (t := t) (j := Lo) (Ev_name (by walk_at "mem")) (Ev_name (by walk_at "mem")) (.inl ⟨by (first | lia | omega), rfl⟩) hx (by (first | lia | omega))) ?_)
      refine ⟨(?_ : (_ : D) = _), fun q hq => by cases hq⟩
      rw [Nat.add_sub_cancel_left, List.take_one, List.head?_drop, List.getElem?_eq_getElem (by (first | lia | omega))]
      simp [d2i]
    have hne : Lo + 1 ≠ Hi := by have : ¬ ((Lo : Int) + 1 = Hi) := by simpa using hc
                                 (first | lia | omega)
    have hm1 : 1 ≤ m := by
      cases m with
      | zero => simp at hm; (first | lia | omega)
      | succ m => (first | lia | omega)
    refine Ex_nil ?_
    refine Ex_cons (Ex1_assign (Ev_bin (Ev_bin (Ev_name (by walk_at "mem")) (Ev_name (by walk_at "mem")) BinD_add) Ev_int (BinD_rshift (by decide))) (by walk_at "st") (by walk_at "dr") ?_)
    have emid : ((Lo : Int) + Hi).fdiv (2 ^ (1 : Int).toNat) = (((Lo + Hi) / 2 : Nat) : Int) := by
      rw [fdiv_pow]; show ((Lo : Int) + Hi) / 2 = _; (first | lia | omega)
    rw [emid]
    have hmid1 : Lo < (Lo + Hi) / 2 := by (first | lia | omega)
    have hmid2 : (Lo + Hi) / 2 < Hi := by (first | lia | omega)
    generalize hmid : (Lo + Hi) / 2 = mid at *
    have hp2 : 2 ^ m = 2 * 2 ^ (m - 1) := by
      rw [← Nat.pow_succ']; congr 1; (first | lia | omega)
    refine Ex_cons (Ex1_assign (Ev_bin (Ev_bin (Ev_name (by walk_at "mem")) (Ev_name (by walk_at "mem")) BinD_sub) (Ev_name (by walk_at "mem")) (BinD_mul (IntMulOk.of_left (bits_le' (by (first | lia | omega)) (by (first | lia | omega)))))) (by walk_at "st") (by walk_at "dr") ?_)
    have esh : ((mid : Int) - Lo) * n = (((mid - Lo) * n : Nat) : Int) := by
      rw [Int.natCast_mul]; congr 1; (first | lia | omega)
    rw [esh]
    have c1 := ih (m - 1) (by (first | lia | omega)) mid Hi hmid2 hle (by (first | lia | omega))
    have c2 := ih (m - 1) (by (first | lia | omega)) Lo mid hmid1 (by (first | lia | omega)) (by (first | lia | omega))
    have hm' : m - 1 + 1 = m := by (first | lia | omega)
    rw [hm'] at c1 c2
    have bnd : n * (Hi - mid) + (mid - Lo) * n ≤ n * xs.length := by
      rw [Nat.mul_comm (mid - Lo) n, ← Nat.mul_add]
      exact Nat.mul_le_mul_left _ (by (first | lia | omega))
    refine Ex_cons (Ex1_ret (Ev_bin (Ev_bin (Ev_call (Ev_name (by walk_at "mem")) (Keep_inner I) (.cons (Ev_name (by walk_at "mem")) (.cons (Ev_name (by walk_at "mem")) .nil)) (CallD_of c1 hA)) (Ev_name (by walk_at "mem")) (BinD_lshift (Int.natCast_nonneg _) ?_))
      (Ev_call (Ev_name (by walk_at "mem")) (Keep_inner I) (.cons (Ev_name (by walk_at "mem")) (.cons (Ev_name (by walk_at "mem")) .nil)) (CallD_of c2 hA)) BinD_add) ?_)
    · have := d2i_bits (K := K) hn (xs := (xs.drop mid).take (Hi - mid)) (fun x hx => hK x (List.mem_of_mem_drop (List.mem_of_mem_take hx)))
      have hlen : ((xs.drop mid).take (Hi - mid)).length = Hi - mid := by simp; (first | lia | omega)
      rw [hlen] at this
      (first | lia | omega)
    · refine ⟨(?_ : (_ : D) = _), fun q hq => by cases hq⟩
      have es : (xs.drop Lo).take (Hi - Lo) = (xs.drop Lo).take (mid - Lo) ++ (xs.drop mid).take (Hi - mid) := by
        have : Hi - Lo = (mid - Lo) + (Hi - mid) := by (first | lia | omega)
        rw [this, List.take_add, List.drop_drop]
        congr 3; (first | lia | omega)
      have hlen : ((xs.drop Lo).take (mid - Lo)).length = mid - Lo := by simp; (first | lia | omega)
      rw [es, d2i_append, hlen, Int.toNat_natCast, Nat.mul_comm n, Int.add_comm]
  refine Ex_cons (Ex1_ret (d := .int (d2i n xs)) (Ev_ifexp (EvT_val (Ev_name (by walk_at "mem")) (TruD_sq (by (first | lia | omega)))) (fun hc => ?_) (fun hc => ?_)) (rfl : (D.int (d2i n xs)) = _))
  · have hx0 : xs ≠ [] := by intro q; rw [q] at hc; simp [zs] at hc
    have hx1 : 0 < xs.length := List.length_pos_iff.mpr hx0
    have := inn 20 0 xs.length hx1 (Nat.le_refl _) (by (first | lia | omega))
    rw [List.drop_zero, Nat.sub_zero, List.take_length] at this
    refine Ev_call (Ev_name (by walk_at "mem")) (Keep_inner I) (.cons Ev_int (.cons (Ev_call (Ev_globraw (g_len h')) Keep_builtin (.cons (Ev_name (by walk_at "mem")) .nil) (CallD_len_sq (by (first | lia | omega)))) .nil)) (CallD_of (n := 21) (by rw [hzl]; exact this) ?_)
    show A.depth + 21 ≤ 900
    (first | lia | omega)
  · have hx0 : xs = [] := by simpa [zs] using hc
    rw [hx0]
    exact Ev_int
end Mine
end
section
open PySem PySem.W PyProof.Rows PySem.Calls PyProof.V PySem.Spec
set_option maxRecDepth 100000
namespace Mine
local macro_rules | `(tactic| walk_at "mem") => `(tactic| with_reducible first | exact List.mem_cons_self .. | (refine List.mem_cons_of_mem _ ?_; walk_at "mem"))
local macro_rules | `(tactic| walk_at "st") => `(tactic| first | exact .inl rfl | exact .inr ⟨rfl, rfl⟩)
local macro_rules | `(tactic| walk_at "dr") => `(tactic| first | exact Drop.nil | (with_reducible apply Drop.hit; walk_at "dr") | (with_reducible apply Drop.miss; (focus decide); walk_at "dr"))
local macro_rules | `(tactic| walk_at "sub") => `(tactic| first | exact Sub.nil | (refine Sub.cons (by walk_at "mem") ?_; walk_at "sub"))
set_option maxHeartbeats 4000000 in
theorem cs_i2d {c : Cx} (h : GK c) (a : Int) (n : Nat) (ha : 0 ≤ a) (hn : 1 ≤ n) (hnb : n ≤ 2 ^ 22) (hb : Builtin.Int.intBits a ≤ 2 ^ 20) :
    CallSpec c (.ref 49) 30 [.int a, .int n] (.list (zs (i2d n a))) := by
  refine call_def (n := 29) (xs := [Str.ofString "a", Str.ofString "n"]) (h.at (by rfl)) rfl rfl rfl rfl rfl ⟨_, _, _, _, rfl, h.at (by rfl), rfl, rfl⟩ rfl rfl rfl (len2 fun _ _ => rfl) (by decide) rfl (by decide) (noFree (by decide)) ?_
  intro L A out own hA
  dsimp only [List.zip, List.zipWith]
  generalize hbits : Builtin.Int.intBits a = bt at hb
  have hcnt : ((bt : Int) + n - 1).fdiv n = (((bt + n - 1) / n : Nat) : Int) := by
    rw [Int.fdiv_eq_ediv_of_nonneg _ (by (first | lia | omega))]
    have : (bt : Int) + n - 1 = ((bt + n - 1 : Nat) : Int) := by (first | lia | omega)
    rw [this]; rfl
  have hcle : (bt + n - 1) / n ≤ 2 ^ 20 := by
    apply Nat.div_le_of_le_mul
    have : 2 ^ 20 ≤ n * 2 ^ 20 := Nat.le_mul_of_pos_left _ (by (first | lia | omega))
    rcases Nat.eq_or_lt_of_le hn with q | q
    · subst q; (first | lia | omega)
    · have h2 : 2 * 2 ^ 20 ≤ n * 2 ^ 20 := Nat.mul_le_mul_right _ q
      have h3 : n ≤ n * 2 ^ 20 - 2 ^ 20 + 1 := by
        have : n + 2 ^ 20 ≤ n * 2 ^ 20 + 1 := by
          have : n * 2 ^ 20 = n + n * (2 ^ 20 - 1) := by (first | lia | omega)
          have h4 : 2 * (2 ^ 20 - 1) ≤ n * (2 ^ 20 - 1) := Nat.mul_le_mul_right _ q
          (first | lia | omega)
        (first | lia | omega)
      (first | lia | omega)
  generalize hcc : (bt + n - 1) / n = cnt at hcnt hcle
  have hlt : a < 2 ^ (n * cnt) := by
    have h1 := lt_bits ha
    rw [hbits] at h1
    have h2 : bt ≤ n * cnt := by
      rw [← hcc]
      have := Nat.div_add_mod (bt + n - 1) n
      have h3 := Nat.mod_lt (bt + n - 1) (show n > 0 by (first | lia | omega))
      (first | lia | omega)
    refine Int.lt_of_lt_of_le h1 ?_
    have := Nat.pow_le_pow_right (n := 2) (by decide) h2
    have e1 := pow_cast bt
    have e2 := pow_cast (n * cnt)
    (first | lia | omega)
  have hfl : n.log2 < 23 := by
    have : n ≠ 0 := by (first | lia | omega)
    exact (Nat.log2_lt this).mpr (by (first | lia | omega))
  refine Ex_cons (Ex1_assignN (EvN_mul (ds := [.int 0]) (EvR.of (Ev_list (.cons Ev_int .nil))) (Ev_bin (Ev_bin (Ev_bin (Ev_meth (Ev_name (by walk_at "mem")) (MethOn_int F.slot_int_bit_length F.type_int_bit_length) .nil CallD_bit_length) (Ev_name (by walk_at "mem")) BinD_add) Ev_int BinD_sub) (Ev_name (by walk_at "mem")) (BinD_floordiv (by (first | lia | omega)) (pylong_small (k := 23) (by (first | lia | omega)) (by decide)))) (by simp) ?_ ?_) (by walk_at "st") (by walk_at "dr") fun ad => ?_)
  · rw [hbits, hcnt]; (first | lia | omega)
  · rw [hbits, hcnt]; simp; (first | lia | omega)
  rw [hbits, hcnt]
  have hz : (List.replicate ((cnt : Int)).toNat [D.int 0]).flatten = zs (List.replicate cnt 0) := by
    simp [zs]
  rw [hz]
  refine Ex_def1 [(Str.ofString "a_digits", .raw (.ref ad)), (Str.ofString "n", .int n)] (by rw [h.tabs]; exact List.mem_cons_of_mem _ (List.mem_cons_self ..)) (by walk_at "st") (by walk_at "dr") (show c.tq 44 _ _ = Str.ofString "_int2digits.<locals>.inner" by simp [h.tq]) (by walk_at "sub") ?_
  intro hp hk ht f cs ys I
  have h' : GK (c.grow hp hk ht) := h.grow
  generalize c.grow hp hk ht = c' at *
  have inn : ∀ (m Lo Hi : Nat) (x : Int) (pre : List Int), Lo < Hi → Hi ≤ pre.length → pre.length ≤ 2 ^ 20 → Hi - Lo ≤ 2 ^ m → 0 ≤ x → x < 2 ^ (n * (Hi - Lo)) → n * (Hi - Lo) ≤ 2 ^ 24 → CallSpecO c' (.ref f) (m + 1) [.int x, .int Lo, .int Hi] [(ad, zs pre)] [(ad, zs (put pre Lo (digs n (Hi - Lo) x)))] .none := by
    intro m
    induction m using Nat.strongRecOn with
    | _ m ih =>
    intro Lo Hi x pre hlt hle hpl hm hx0 hx1 hnb2
    refine call_inner1 (n := m) I [Str.ofString "x", Str.ofString "L", Str.ofString "R"] (fun _ _ _ _ _ => len3 fun _ _ _ => rfl) ?_
    intro clos doc pm cc ctv L A out own hA
    dsimp only [List.zip, List.zipWith, List.cons_append, List.nil_append]
    have hzp : (zs pre).length = pre.length := by simp [zs]
    refine Ex_cons (Ex1_if (EvT_cmp (Ev_bin (Ev_name (by walk_at "mem")) Ev_int BinD_add) (Ev_name (by walk_at "mem")) CmpD_eq) (fun hc => ?_) (fun hc => ?_))
    · have e1 : Hi = Lo + 1 := by have : (Lo : Int) + 1 = Hi := by simpa using hc
                                  (first | lia | omega)
      subst e1
      rw [Nat.add_sub_cancel_left] at hx1 ⊢
      rw [Nat.mul_one] at hx1
      refine Ex_cons (Ex1_setO (j := Lo) (Ev_name (by walk_at "mem")) (Ev_name (by walk_at "mem")) (Ev_name (by walk_at "mem")) rfl (by (first | lia | omega)) (by (first | lia | omega)) ?_)
      refine Ex_cons (Ex1_ret0 ?_)
      refine ⟨(rfl : (_ : D) = _), fun q hq => ?_⟩
      rw [List.mem_singleton.mp hq, digs_one hx0 hx1, put_one (by (first | lia | omega))]
      exact List.mem_cons_self ..
    have hne : Lo + 1 ≠ Hi := by have : ¬ ((Lo : Int) + 1 = Hi) := by simpa using hc
                                 (first | lia | omega)
    have hm1 : 1 ≤ m := by
      cases m with
      | zero => simp at hm; (first | lia | omega)
      | succ m => (first | lia | omega)
    refine Ex_nil ?_
    refine Ex_cons (Ex1_assign (Ev_bin (Ev_bin (Ev_name (by walk_at "mem")) (Ev_name (by walk_at "mem")) BinD_add) Ev_int (BinD_rshift (by decide))) (by walk_at "st") (by walk_at "dr") ?_)
    have emid : ((Lo : Int) + Hi).fdiv (2 ^ (1 : Int).toNat) = (((Lo + Hi) / 2 : Nat) : Int) := by
      rw [fdiv_pow]; show ((Lo : Int) + Hi) / 2 = _; (first | lia | omega)
    rw [emid]
    have hmid1 : Lo < (Lo + Hi) / 2 := by (first | lia | omega)
    have hmid2 : (Lo + Hi) / 2 < Hi := by (first | lia | omega)
    generalize hmid : (Lo + Hi) / 2 = mid at *
    have hp2 : 2 ^ m = 2 * 2 ^ (m - 1) := by
      rw [← Nat.pow_succ']; congr 1; (first | lia | omega)
    refine Ex_cons (Ex1_assign (Ev_bin (Ev_bin (Ev_name (by walk_at "mem")) (Ev_name (by walk_at "mem")) BinD_sub) (Ev_name (by walk_at "mem")) (BinD_mul (IntMulOk.of_left (bits_le' (by (first | lia | omega)) (by (first | lia | omega)))))) (by walk_at "st") (by walk_at "dr") ?_)
    have esh : ((mid : Int) - Lo) * n = ((n * (mid - Lo) : Nat) : Int) := by
      rw [Int.natCast_mul, Int.mul_comm]; congr 1; (first | lia | omega)
    rw [esh]
    have hsum : n * (Hi - Lo) = n * (mid - Lo) + n * (Hi - mid) := by rw [← Nat.mul_add]; congr 1; (first | lia | omega)
    refine Ex_cons (Ex1_assign (Ev_bin (Ev_name (by walk_at "mem")) (Ev_name (by walk_at "mem")) (BinD_rshift (Int.natCast_nonneg _))) (by walk_at "st") (by walk_at "dr") ?_)
    rw [fdiv_pow, Int.toNat_natCast]
    have hu0 : 0 ≤ x / 2 ^ (n * (mid - Lo)) := Int.ediv_nonneg hx0 (Int.le_of_lt (pow_pos' _))
    have hu1 : x / 2 ^ (n * (mid - Lo)) < 2 ^ (n * (Hi - mid)) := by
      apply Int.ediv_lt_of_lt_mul (pow_pos' _)
      rw [← Int.pow_add, Nat.add_comm, ← hsum]; exact hx1
    refine Ex_cons (Ex1_assign (Ev_bin (Ev_name (by walk_at "mem")) (Ev_bin (Ev_name (by walk_at "mem")) (Ev_name (by walk_at "mem")) (BinD_lshift (Int.natCast_nonneg _) ?_)) BinD_xor) (by walk_at "st") (by walk_at "dr") ?_)
    · have := bits_le' hu0 hu1
      (first | lia | omega)
    rw [Int.toNat_natCast, bxor_high hx0]
    have hl0 : 0 ≤ x % 2 ^ (n * (mid - Lo)) := Int.emod_nonneg _ (Int.ne_of_gt (pow_pos' _))
    have hl1 : x % 2 ^ (n * (mid - Lo)) < 2 ^ (n * (mid - Lo)) := Int.emod_lt_of_pos _ (pow_pos' _)
    have c1 := ih (m - 1) (by (first | lia | omega)) Lo mid _ pre hmid1 (by (first | lia | omega)) hpl (by (first | lia | omega)) hl0 hl1 (by (first | lia | omega))
    have hlen1 : (put pre Lo (digs n (mid - Lo) (x % 2 ^ (n * (mid - Lo))))).length = pre.length := put_len (by rw [digs_len]; (first | lia | omega))
    have c2 := ih (m - 1) (by (first | lia | omega)) mid Hi _ (put pre Lo (digs n (mid - Lo) (x % 2 ^ (n * (mid - Lo))))) hmid2 (by (first | lia | omega)) (by (first | lia | omega)) (by (first | lia | omega)) hu0 hu1 (by (first | lia | omega))
    have hm' : m - 1 + 1 = m := by (first | lia | omega)
    rw [hm'] at c1 c2
    refine Ex_cons (Ex1_callO (Ev_name (by walk_at "mem")) (Keep_inner I) (.cons (Ev_name (by walk_at "mem")) (.cons (Ev_name (by walk_at "mem")) (.cons (Ev_name (by walk_at "mem")) .nil))) (CallO_of c1 hA) ?_ rfl)
    refine Ex_cons (Ex1_callO (Ev_name (by walk_at "mem")) (Keep_inner I) (.cons (Ev_name (by walk_at "mem")) (.cons (Ev_name (by walk_at "mem")) (.cons (Ev_name (by walk_at "mem")) .nil))) (CallO_of c2 hA) ?_ rfl)
    refine Ex_nil ⟨(rfl : (_ : D) = _), fun q hq => ?_⟩
    have e3 : put (put pre Lo (digs n (mid - Lo) (x % 2 ^ (n * (mid - Lo))))) mid (digs n (Hi - mid) (x / 2 ^ (n * (mid - Lo)))) = put pre Lo (digs n (Hi - Lo) x) := by
      have e4 : mid = Lo + (digs n (mid - Lo) (x % 2 ^ (n * (mid - Lo)))).length := by rw [digs_len]; (first | lia | omega)
      conv => lhs; arg 2; rw [e4]
      rw [put_put (by rw [digs_len, digs_len]; (first | lia | omega)), digs_split hx0]
      congr 2; (first | lia | omega)
    rw [List.mem_singleton.mp hq, e3]
    exact List.mem_cons_self ..
  refine Ex_cut (fun σ O => Sub σ [(Str.ofString "a_digits", .raw (.ref ad))] ∧ O = [(ad, zs (i2d n a))]) (Ex1_if (EvT_val (Ev_name (by walk_at "mem")) TruD_int) (fun hc => ?_) (fun hc => ?_)) ?_
  · have ha0 : 0 < a := by have : a ≠ 0 := by simpa using hc
                           (first | lia | omega)
    have hcp : 0 < cnt := by
      rw [← hcc]
      have := bits_pos ha0
      rw [hbits] at this
      exact Nat.div_pos (by (first | lia | omega)) (by (first | lia | omega))
    have hncb : n * cnt ≤ 2 ^ 24 := by
      rw [← hcc]
      have := Nat.mul_div_le (bt + n - 1) n
      (first | lia | omega)
    have := inn 20 0 cnt a (List.replicate cnt 0) hcp (by simp) (by simpa using hcle) (by (first | lia | omega)) ha (by simpa using hlt) (by simpa using hncb)
    rw [Nat.sub_zero, put_all (by simp [digs_len])] at this
    have e5 : digs n cnt a = i2d n a := by unfold i2d; rw [hbits, hcc]
    rw [e5] at this
    refine Ex_cons (Ex1_callO (Ev_name (by walk_at "mem")) (Keep_inner I) (.cons (Ev_name (by walk_at "mem")) (.cons Ev_int (.cons (Ev_lenO (Ev_globraw (g_len h')) (Ev_name (by walk_at "mem")) (List.mem_cons_self ..) (by simp [zs]; (first | lia | omega))) .nil))) (CallO_of (n := 21) (by simpa [zs] using this) (show A.depth + 21 ≤ 900 by (first | lia | omega))) ?_ rfl)
    exact Ex_nil ⟨by walk_at "sub", rfl⟩
  · have ha0 : a = 0 := by simpa using hc
    refine Ex_nil ⟨by walk_at "sub", ?_⟩
    have hb0 : bt = 0 := by rw [← hbits, ha0]; rfl
    have hc0 : cnt = 0 := by rw [← hcc, hb0]; exact Nat.div_eq_of_lt (by (first | lia | omega))
    unfold i2d
    rw [hbits, hcc, hc0]; rfl
  rintro σ O ⟨hsub, rfl⟩
  refine Ex.weak ?_ hsub.mem
  refine Ex_freeze (σ' := [(Str.ofString "a_digits", .list (zs (i2d n a)))]) ?_ (by
    intro q hq
    rw [List.mem_singleton.mp hq]
    exact .inr ⟨rfl, by walk_at "mem"⟩)
  exact Ex_cons (Ex1_ret (Ev_name (by walk_at "mem")) (rfl : (_ : D) = _))
end Mine
end
section
open PySem PySem.W PyProof.Rows PySem.Calls PyProof.V PySem.Spec
namespace Mine
theorem divmod_of {a b q r : Int} (h : a = q * b + r) (h0 : 0 ≤ r) (h1 : r < b) : q = a / b ∧ r = a % b := by
  have hb : 0 < b := by (first | lia | omega)
  have := (Int.ediv_emod_unique (a := a) (r := r) (q := q) hb).mpr ⟨by rw [h, Int.mul_comm b q, Int.add_comm], h0, h1⟩
  exact ⟨this.1.symm, this.2.symm⟩
theorem split_pow {x : Int} (k : Nat) : x = x / 2 ^ k * 2 ^ k + x % 2 ^ k := by
  have := Int.mul_ediv_add_emod x (2 ^ k)
  rw [Int.mul_comm] at this; (first | lia | omega)
theorem div_pos_lt {x p y : Int} (hp : 0 < p) (h : x < y * p) : x / p < y := Int.ediv_lt_of_lt_mul hp h
theorem d3_start {a12 a3 b1 b2 q r P : Int} (hP : 0 < P) (h2 : 0 ≤ b2) (h3 : a12 = q * b1 + r) : a12 * P + a3 = q * (b1 * P + b2) + (r * P + a3 - q * b2) := by
  rw [h3, Int.mul_add, Int.add_mul]
  have : q * b1 * P = q * (b1 * P) := Int.mul_assoc _ _ _
  (first | lia | omega)
theorem d2_join {a b : Int} {h : Nat} (hb : 0 < b) (ha : 0 ≤ a) :
    a / b = a / 2 ^ h / b * 2 ^ h + (a / 2 ^ h % b * 2 ^ h + a % 2 ^ h) / b ∧ a % b = (a / 2 ^ h % b * 2 ^ h + a % 2 ^ h) % b := by
  have hp := pow_pos' h
  generalize hX : a / 2 ^ h % b * 2 ^ h + a % 2 ^ h = X
  have e1 : a = a / 2 ^ h * 2 ^ h + a % 2 ^ h := split_pow h
  have e2 : a / 2 ^ h = a / 2 ^ h / b * b + a / 2 ^ h % b := by
    have := Int.mul_ediv_add_emod (a / 2 ^ h) b
    rw [Int.mul_comm] at this; (first | lia | omega)
  have e3 : X = X / b * b + X % b := by
    have := Int.mul_ediv_add_emod X b
    rw [Int.mul_comm] at this; (first | lia | omega)
  have h0 := Int.emod_nonneg X (Int.ne_of_gt hb)
  have h1 := Int.emod_lt_of_pos X hb
  have key : a = (a / 2 ^ h / b * 2 ^ h + X / b) * b + X % b := by
    conv => lhs; rw [e1, e2]
    rw [Int.add_mul, Int.add_mul]
    have e4 : a / 2 ^ h / b * b * 2 ^ h = a / 2 ^ h / b * 2 ^ h * b := by rw [Int.mul_assoc, Int.mul_comm b, ← Int.mul_assoc]
    (first | lia | omega)
  have := divmod_of key h0 h1
  exact ⟨this.1.symm, this.2.symm⟩
theorem d2_x2_lt {x b low : Int} {h : Nat} (hx : x < b) (hl : low < 2 ^ h) : x * 2 ^ h + low < b * 2 ^ h := by
  have hp := pow_pos' h
  have h1 : (x + 1) * 2 ^ h ≤ b * 2 ^ h := Int.mul_le_mul_of_nonneg_right (by (first | lia | omega)) (Int.le_of_lt hp)
  rw [Int.add_mul, Int.one_mul] at h1
  (first | lia | omega)
theorem dm_double {a b : Int} (hb : 0 < b) : (2 * a) / (2 * b) = a / b ∧ (2 * a) % (2 * b) = 2 * (a % b) := by
  constructor
  · exact Int.mul_ediv_mul_of_pos _ _ (by decide)
  · exact Int.mul_emod_mul_of_pos _ _ (by decide)
theorem digs_mem {n k : Nat} {x y : Int} (h : y ∈ digs n k x) : 0 ≤ y ∧ y < 2 ^ n := by
  simp only [digs, List.mem_map] at h
  obtain ⟨i, _, rfl⟩ := h
  exact ⟨Int.emod_nonneg _ (Int.ne_of_gt (pow_pos' n)), Int.emod_lt_of_pos _ (pow_pos' n)⟩
theorem d2i_digs {n : Nat} : ∀ (k : Nat) (x : Int), 0 ≤ x → x < 2 ^ (n * k) → d2i n (digs n k x) = x
  | 0, x, h0, h1 => by simp at h1; have : x = 0 := by (first | lia | omega)
                       rw [this]; rfl
  | k + 1, x, h0, h1 => by
    have hp := pow_pos' n
    have e := digs_split (n := n) (j := 1) (k := k) h0
    rw [Nat.add_comm k 1, ← e, Nat.mul_one, digs_one (Int.emod_nonneg _ (Int.ne_of_gt hp)) (Int.emod_lt_of_pos _ hp)]
    have h2 : x / 2 ^ n < 2 ^ (n * k) := div_pos_lt hp (by rw [← Int.pow_add]; exact h1)
    simp only [List.cons_append, List.nil_append, d2i]
    rw [d2i_digs k (x / 2 ^ n) (Int.ediv_nonneg h0 (Int.le_of_lt hp)) h2]
    have := split_pow (x := x) n
    (first | lia | omega)
theorem i2d_fits {n : Nat} {a : Int} (h0 : 0 ≤ a) (hn : 1 ≤ n) : a < 2 ^ (n * ((Builtin.Int.intBits a + n - 1) / n)) := by
  have h1 := lt_bits h0
  have h2 : Builtin.Int.intBits a ≤ n * ((Builtin.Int.intBits a + n - 1) / n) := by
    have := Nat.div_add_mod (Builtin.Int.intBits a + n - 1) n
    have h3 := Nat.mod_lt (Builtin.Int.intBits a + n - 1) (show n > 0 by (first | lia | omega))
    (first | lia | omega)
  refine Int.lt_of_lt_of_le h1 ?_
  have := Nat.pow_le_pow_right (n := 2) (by decide) h2
  have e1 := pow_cast (Builtin.Int.intBits a)
  have e2 := pow_cast (n * ((Builtin.Int.intBits a + n - 1) / n))
  (first | lia | omega)
theorem d2i_i2d {n : Nat} {a : Int} (h0 : 0 ≤ a) (hn : 1 ≤ n) : d2i n (i2d n a) = a := d2i_digs _ a h0 (i2d_fits h0 hn)
theorem i2d_len {n : Nat} {a : Int} : (i2d n a).length = (Builtin.Int.intBits a + n - 1) / n := digs_len
theorem i2d_lenle {n : Nat} {a : Int} (hn : 1 ≤ n) : n * (i2d n a).length ≤ Builtin.Int.intBits a + n := by
  rw [i2d_len]
  have := Nat.mul_div_le (Builtin.Int.intBits a + n - 1) n
  (first | lia | omega)
theorem i2d_lenle' {n : Nat} {a : Int} (hn : 1 ≤ n) : (i2d n a).length ≤ Builtin.Int.intBits a := by
  rw [i2d_len]
  rw [Nat.div_le_iff_le_mul_add_pred (by (first | lia | omega))]
  have : Builtin.Int.intBits a ≤ n * Builtin.Int.intBits a := Nat.le_mul_of_pos_left _ hn
  (first | lia | omega)
theorem long_step {n : Nat} {b r x V : Int} {qs : List Int} (h : d2i n qs * b + r = V) : d2i n ((r * 2 ^ n + x) / b :: qs) * b + (r * 2 ^ n + x) % b = V * 2 ^ n + x := by
  rw [d2i, Int.add_mul, ← h, Int.add_mul]
  have e := Int.mul_ediv_add_emod (r * 2 ^ n + x) b
  rw [Int.mul_comm] at e
  have : d2i n qs * 2 ^ n * b = d2i n qs * b * 2 ^ n := by rw [Int.mul_assoc, Int.mul_comm (2 ^ n), ← Int.mul_assoc]
  (first | lia | omega)
end Mine
end
section
open PySem PySem.W PyProof.Rows PySem.Calls PyProof.V PySem.Spec
set_option maxRecDepth 100000
namespace Mine
local macro_rules | `(tactic| walk_at "mem") => `(tactic| with_reducible first | exact List.mem_cons_self .. | (refine List.mem_cons_of_mem _ ?_; walk_at "mem"))
local macro_rules | `(tactic| walk_at "st") => `(tactic| first | exact .inl rfl | exact .inr ⟨rfl, rfl⟩)
local macro_rules | `(tactic| walk_at "dr") => `(tactic| first | exact Drop.nil | (with_reducible apply Drop.hit; walk_at "dr") | (with_reducible apply Drop.miss; (focus decide); walk_at "dr"))
local macro_rules | `(tactic| walk_at "sub") => `(tactic| first | exact Sub.nil | (refine Sub.cons (by walk_at "mem") ?_; walk_at "sub"))
theorem bits_eq {x : Int} {h : Nat} (h1 : 1 ≤ h) (h2 : 2 ^ (h - 1) ≤ x) (h3 : x < 2 ^ h) : Builtin.Int.intBits x = h := by
  have hp := pow_pos' (h - 1)
  have a1 := bits_le' (by (first | lia | omega)) h3
  have a2 := lt_bits (show 0 ≤ x by (first | lia | omega))
  refine Nat.le_antisymm a1 (Nat.le_of_not_lt fun q => ?_)
  have : (2 : Int) ^ (Builtin.Int.intBits x) ≤ 2 ^ (h - 1) := by
    have := Nat.pow_le_pow_right (n := 2) (by decide) (show Builtin.Int.intBits x ≤ h - 1 by (first | lia | omega))
    have e1 := pow_cast (Builtin.Int.intBits x); have e2 := pow_cast (h - 1); (first | lia | omega)
  (first | lia | omega)
def Dv (a b : Int) : D := .tuple [.int (a / b), .int (a % b)]
theorem ipow_add (a b : Nat) : (2 : Int) ^ (a + b) = 2 ^ a * 2 ^ b := Int.pow_add ..
theorem ipow_le {a b : Nat} (h : a ≤ b) : (2 : Int) ^ a ≤ 2 ^ b := by
  have := Nat.pow_le_pow_right (n := 2) (by decide) h
  have e1 := pow_cast a; have e2 := pow_cast b; (first | lia | omega)
theorem g_divmod {c : Cx} (h : GK c) : GlobIs c (Str.ofString "divmod") (.builtin "divmod") := h.bl (by kernel_rfl) (by kernel_rfl)
theorem g_limit {c : Cx} (h : GK c) : GlobIs c (Str.ofString "_DIV_LIMIT") (.int 4000 212) := h.gl (by kernel_rfl)
theorem g_d2 {c : Cx} (h : GK c) : GlobIs c (Str.ofString "_div2n1n") (.ref 35) := h.gl (by kernel_rfl)
theorem g_d3 {c : Cx} (h : GK c) : GlobIs c (Str.ofString "_div3n2n") (.ref 42) := h.gl (by kernel_rfl)
def S2 (c : Cx) (m : Nat) : Prop := ∀ (a b : Int) (n : Nat), 1 ≤ n → n ≤ 2 ^ 20 → n ≤ 4000 * 2 ^ m → Builtin.Int.intBits b = n → 0 < b → 0 ≤ a → a < b * 2 ^ n → CallSpec c (.ref 35) (2 * m + 1) [.int a, .int b, .int n] (Dv a b)
def S3 (c : Cx) (m : Nat) : Prop := ∀ (a12 a3 b : Int) (h : Nat), 1 ≤ h → h ≤ 2 ^ 20 → h ≤ 4000 * 2 ^ m → 2 ^ (2 * h - 1) ≤ b → b < 2 ^ (2 * h) → 0 ≤ a12 → a12 < b → 0 ≤ a3 → a3 < 2 ^ h → CallSpec c (.ref 42) (2 * m + 2) [.int a12, .int a3, .int b, .int (b / 2 ^ h), .int (b % 2 ^ h), .int h] (Dv (a12 * 2 ^ h + a3) b)
set_option maxHeartbeats 4000000 in
theorem s3_of {c : Cx} (h : GK c) (m : Nat) (S : S2 c m) : S3 c m := by
  intro a12 a3 b hn h1 h20 hm hb1 hb2 ha0 ha1 h30 h31
  have hP := pow_pos' hn
  have hb0 : 0 < b := by have := pow_pos' (2 * hn - 1); (first | lia | omega)
  have e2h : (2 : Int) ^ (2 * hn) = 2 ^ hn * 2 ^ hn := by rw [← ipow_add]; congr 1; (first | lia | omega)
  have hbs : b = b / 2 ^ hn * 2 ^ hn + b % 2 ^ hn := split_pow hn
  have hl0 : 0 ≤ b % 2 ^ hn := Int.emod_nonneg _ (Int.ne_of_gt hP)
  have hl1 : b % 2 ^ hn < 2 ^ hn := Int.emod_lt_of_pos _ hP
  have hu1 : b / 2 ^ hn < 2 ^ hn := div_pos_lt hP (by rw [← e2h]; exact hb2)
  have hu0 : 2 ^ (hn - 1) ≤ b / 2 ^ hn := by
    apply Int.le_ediv_of_mul_le hP
    rw [← ipow_add]
    have : hn - 1 + hn = 2 * hn - 1 := by (first | lia | omega)
    rw [this]; exact hb1
  have hup : 0 < b / 2 ^ hn := by have := pow_pos' (hn - 1); (first | lia | omega)
  generalize hB1 : b / 2 ^ hn = b1 at *
  generalize hB2 : b % 2 ^ hn = b2 at *
  have hA1 : a12 < 2 ^ (2 * hn) := by (first | lia | omega)
  refine call_def (n := 2 * m + 1) (xs := [Str.ofString "a12", Str.ofString "a3", Str.ofString "b", Str.ofString "b1", Str.ofString "b2", Str.ofString "n"]) (h.at (by rfl)) rfl rfl rfl rfl rfl ⟨_, _, _, _, rfl, h.at (by rfl), rfl, rfl⟩ rfl rfl rfl (len6 fun _ _ _ _ _ _ => rfl) (by decide) rfl (by decide) (noFree (by decide)) ?_
  intro L A out own hA
  dsimp only [List.zip, List.zipWith]
  refine Ex_cut (fun σ O => ∃ q r : Int, a12 = q * b1 + r ∧ 0 ≤ r ∧ 0 ≤ q ∧ q < 2 ^ hn ∧ r < 2 ^ (hn + 1) ∧ (q * b1 + b1 ≤ a12 → q = 2 ^ hn - 1) ∧ O = [] ∧
      Sub σ [(Str.ofString "a3", .int a3), (Str.ofString "b", .int b), (Str.ofString "b2", .int b2), (Str.ofString "n", .int hn), (Str.ofString "q", .int q), (Str.ofString "r", .int r)])
    (Ex1_if (EvT_cmp (Ev_bin (Ev_name (by walk_at "mem")) (Ev_name (by walk_at "mem")) (BinD_rshift (Int.natCast_nonneg _))) (Ev_name (by walk_at "mem")) CmpD_eq) (fun hc => ?_) (fun hc => ?_)) ?_
  · have hc' : a12 / 2 ^ hn = b1 := by rw [fdiv_pow, Int.toNat_natCast] at hc; simpa using hc
    refine Ex_cons (Ex1_assignSw (Ev_tuple (.cons (Ev_bin (Ev_bin Ev_int (Ev_name (by walk_at "mem")) (BinD_lshift (Int.natCast_nonneg _) ?_)) Ev_int BinD_sub) (.cons (Ev_bin (Ev_bin (Ev_name (by walk_at "mem")) (Ev_bin (Ev_name (by walk_at "mem")) (Ev_name (by walk_at "mem")) (BinD_lshift (Int.natCast_nonneg _) ?_)) BinD_sub) (Ev_name (by walk_at "mem")) BinD_add) .nil))) rfl rfl rfl rfl (.cons (by walk_at "st") (by walk_at "dr") (.cons (by walk_at "st") (by walk_at "dr") .nil)) ?_)
    · have := bits_le' (a := 1) (k := 1) (by decide) (by decide); (first | lia | omega)
    · have := bits_le' (a := b1) (by (first | lia | omega)) hu1; (first | lia | omega)
    simp only [Int.toNat_natCast, Int.one_mul]
    have e1 : a12 = b1 * 2 ^ hn + a12 % 2 ^ hn := by rw [← hc']; exact split_pow hn
    have e2 := Int.emod_nonneg a12 (Int.ne_of_gt hP)
    have e3 := Int.emod_lt_of_pos a12 hP
    refine Ex_nil ⟨2 ^ hn - 1, a12 - b1 * 2 ^ hn + b1, ?_, by (first | lia | omega), by (first | lia | omega), by (first | lia | omega), ?_, fun _ => rfl, rfl, by walk_at "sub"⟩
    · rw [Int.sub_mul, Int.one_mul, Int.mul_comm (2 ^ hn) b1]; (first | lia | omega)
    · rw [ipow_add]; (first | lia | omega)
  · have hc' : ¬ a12 / 2 ^ hn = b1 := by rw [fdiv_pow, Int.toNat_natCast] at hc; simpa using hc
    have hlt : a12 / 2 ^ hn < b1 := by
      have : a12 / 2 ^ hn ≤ b / 2 ^ hn := Int.ediv_le_ediv hP (by (first | lia | omega))
      (first | lia | omega)
    have hmul : a12 < b1 * 2 ^ hn := by
      have e1 : a12 = a12 / 2 ^ hn * 2 ^ hn + a12 % 2 ^ hn := split_pow hn
      have e3 := Int.emod_lt_of_pos a12 hP
      have := d2_x2_lt (h := hn) hlt e3
      (first | lia | omega)
    have sp := S a12 b1 hn h1 h20 hm (bits_eq h1 hu0 hu1) hup ha0 hmul
    refine Ex_cons (Ex1_assignT (Ev_call (Ev_globraw (g_d2 h)) (h.kp (by kernel_rfl)) (.cons (Ev_name (by walk_at "mem")) (.cons (Ev_name (by walk_at "mem")) (.cons (Ev_name (by walk_at "mem")) .nil))) (CallD_of sp (show A.depth + (2 * m + 1) ≤ 900 by (first | lia | omega)))) (Asg_tuple rfl (.cons (Asg_name (by walk_at "st") (by walk_at "dr")) (.cons (Asg_name (by walk_at "st") (by walk_at "dr")) .nil))) ?_)
    have e2 := Int.emod_nonneg a12 (Int.ne_of_gt hup)
    have e3 := Int.emod_lt_of_pos a12 hup
    have e4 := Int.mul_ediv_add_emod a12 b1
    have e5 : a12 / b1 < 2 ^ hn := div_pos_lt hup (by rw [Int.mul_comm]; exact hmul)
    have e6 := Int.ediv_nonneg ha0 (Int.le_of_lt hup)
    refine Ex_nil ⟨a12 / b1, a12 % b1, by rw [Int.mul_comm]; (first | lia | omega), e2, e6, e5, ?_, fun q => ?_, rfl, by walk_at "sub"⟩
    · rw [ipow_add]; (first | lia | omega)
    · rw [Int.mul_comm] at e4; (first | lia | omega)
  rintro σ O ⟨q, r, hq, hr0, hq0, hq1, hr1, hq2, rfl, hsub⟩
  refine Ex.weak ?_ hsub.mem
  clear hsub
  have hPm : (1 : Int) ≤ 2 ^ hn := by (first | lia | omega)
  refine Ex_cons (Ex1_assign (Ev_bin (Ev_bin (Ev_bin (Ev_name (by walk_at "mem")) (Ev_name (by walk_at "mem")) (BinD_lshift (Int.natCast_nonneg _) ?_)) (Ev_name (by walk_at "mem")) BinD_or) (Ev_bin (Ev_name (by walk_at "mem")) (Ev_name (by walk_at "mem")) (BinD_mul ?_)) BinD_sub) (by walk_at "st") (by walk_at "dr") ?_)
  · have := bits_le' hr0 hr1; (first | lia | omega)
  · have e1 := pow_cast hn
    exact mulOk_of (j := hn) (k := hn) (by (first | lia | omega)) (by (first | lia | omega)) (by (first | lia | omega))
  rw [Int.toNat_natCast, bor_low hr0 h30 hn h31]
  have key : a12 * 2 ^ hn + a3 = q * b + (r * 2 ^ hn + a3 - q * b2) := by
    have := d3_start (a12 := a12) (a3 := a3) (b1 := b1) (b2 := b2) (q := q) (r := r) hP hl0 hq
    rw [← hbs] at this; exact this
  have hlt : r * 2 ^ hn + a3 - q * b2 < b := by
    by_cases hge : q * b1 + b1 ≤ a12
    · have hq' := hq2 hge
      have h5 := d2_x2_lt (h := hn) ha1 h31
      have h6 : (q + 1) * b = b * 2 ^ hn := by rw [hq', Int.sub_add_cancel, Int.mul_comm]
      rw [Int.add_mul, Int.one_mul] at h6
      (first | lia | omega)
    · have hrb : r < b1 := by (first | lia | omega)
      have h5 := d2_x2_lt (h := hn) hrb h31
      have h6 : 0 ≤ q * b2 := Int.mul_nonneg hq0 hl0
      (first | lia | omega)
  generalize r * 2 ^ hn + a3 - q * b2 = R at *
  clear hq hr0 hq1 hr1 hq2 hq0
  refine Ex_cons (Ex1_while (fun k σ O => ∃ q R : Int, a12 * 2 ^ hn + a3 = q * b + R ∧ R < b ∧ k = (-R).toNat ∧ O = [] ∧ Sub σ [(Str.ofString "b", .int b), (Str.ofString "q", .int q), (Str.ofString "r", .int R)]) ?_ (-R).toNat ⟨q, R, key, hlt, rfl, rfl, by walk_at "sub"⟩)
  rintro k σ O ⟨q, R, key, hlt, rfl, rfl, hsub⟩
  refine ⟨decide (R < 0), EvT_cmp (Ev_name (hsub.mem _ (by walk_at "mem"))) Ev_int CmpD_lt, fun hc => ?_, fun hc => ?_⟩
  · have hc' : R < 0 := by simpa using hc
    refine Ex.weak ?_ hsub.mem
    refine Ex_cons (Ex1_aug (by walk_at "mem") Ev_int InD_sub (by walk_at "st") (by walk_at "dr") ?_)
    refine Ex_cons (Ex1_aug (by walk_at "mem") (Ev_name (by walk_at "mem")) InD_add (by walk_at "st") (by walk_at "dr") ?_)
    refine Ex_nil ⟨(-(R + b)).toNat, by (first | lia | omega), q - 1, R + b, ?_, by (first | lia | omega), rfl, rfl, by walk_at "sub"⟩
    rw [Int.sub_mul]; (first | lia | omega)
  · have hc' : ¬ R < 0 := by simpa using hc
    refine Ex.weak ?_ hsub.mem
    refine Ex_cons (Ex1_ret (Ev_tuple (.cons (Ev_name (by walk_at "mem")) (.cons (Ev_name (by walk_at "mem")) .nil))) (?_ : (_ : D) = _))
    obtain ⟨e1, e2⟩ := divmod_of key (by (first | lia | omega)) hlt
    rw [e1, e2]; rfl
end Mine
end
section
open PySem PySem.W PyProof.Rows PySem.Calls PyProof.V PySem.Spec
set_option maxRecDepth 100000
namespace Mine
local macro_rules | `(tactic| walk_at "mem") => `(tactic| with_reducible first | exact List.mem_cons_self .. | (refine List.mem_cons_of_mem _ ?_; walk_at "mem"))
local macro_rules | `(tactic| walk_at "st") => `(tactic| first | exact .inl rfl | exact .inr ⟨rfl, rfl⟩)
local macro_rules | `(tactic| walk_at "dr") => `(tactic| first | exact Drop.nil | (with_reducible apply Drop.hit; walk_at "dr") | (with_reducible apply Drop.miss; (focus decide); walk_at "dr"))
local macro_rules | `(tactic| walk_at "sub") => `(tactic| first | exact Sub.nil | (refine Sub.cons (by walk_at "mem") ?_; walk_at "sub"))
theorem Ev_rsh {c : Cx} {fr : FX} {σ : Store} {O : Owns} {e f : Expr} {pos : Pos} {a : Int} {k : Nat} (h1 : Ev c fr σ O e (.int a)) (h2 : Ev c fr σ O f (.int (k : Int))) : Ev c fr σ O (.BinOp e .RShift f pos) (.int (a / 2 ^ k)) := by
  have := Ev_bin (pos := pos) h1 h2 (BinD_rshift (Int.natCast_nonneg _))
  rw [fdiv_pow, Int.toNat_natCast] at this; exact this
set_option maxHeartbeats 4000000 in
theorem s2_of {c : Cx} (h : GK c) (m : Nat) (S : m = 0 ∨ ∃ m', m = m' + 1 ∧ S3 c m') : S2 c m := by
  intro a b n h1 h20 hm hbn hb0 ha0 ha1
  have hblt := lt_bits (Int.le_of_lt hb0)
  have hbge := bits_ge hb0
  rw [hbn] at hblt hbge
  have hP := pow_pos' n
  have ha2 : a < 2 ^ (2 * n) := by
    have e : (2 : Int) ^ (2 * n) = 2 ^ n * 2 ^ n := by rw [← ipow_add]; congr 1; (first | lia | omega)
    have := Int.mul_le_mul_of_nonneg_right (Int.le_of_lt hblt) (Int.le_of_lt hP)
    (first | lia | omega)
  have hab := bits_le' ha0 ha2
  refine call_def (n := 2 * m) (xs := [Str.ofString "a", Str.ofString "b", Str.ofString "n"]) (h.at (by rfl)) rfl rfl rfl rfl rfl ⟨_, _, _, _, rfl, h.at (by rfl), rfl, rfl⟩ rfl rfl rfl (len3 fun _ _ _ => rfl) (by decide) rfl (by decide) (noFree (by decide)) ?_
  intro L A out own hA
  dsimp only [List.zip, List.zipWith]
  refine Ex_cons (Ex1_if (EvT_cmp (Ev_bin (Ev_meth (Ev_name (by walk_at "mem")) (MethOn_int F.slot_int_bit_length F.type_int_bit_length) .nil CallD_bit_length) (Ev_name (by walk_at "mem")) BinD_sub) (Ev_glob (d := .int 4000) (g_limit h) (fun _ _ _ => ⟨_, rfl⟩)) CmpD_le) (fun hc => ?_) (fun hc => ?_))
  · have hc' : (Builtin.Int.intBits a : Int) - n ≤ 4000 := by simpa using hc
    refine Ex_cons (Ex1_ret (Ev_call (Ev_globraw (g_divmod h)) Keep_builtin (.cons (Ev_name (by walk_at "mem")) (.cons (Ev_name (by walk_at "mem")) .nil)) (CallD_divmod (by (first | lia | omega)) (pylong_near (by rw [hbn]; (first | lia | omega))))) (?_ : (_ : D) = _))
    rw [Int.fdiv_eq_ediv_of_nonneg _ (by (first | lia | omega)), Int.fmod_eq_emod_of_nonneg _ (by (first | lia | omega))]; rfl
  have hc' : ¬ (Builtin.Int.intBits a : Int) - n ≤ 4000 := by simpa using hc
  obtain ⟨m', hmm, SS⟩ : ∃ m', m = m' + 1 ∧ S3 c m' := by
    rcases S with rfl | S
    · exfalso; simp at hm; (first | lia | omega)
    · exact S
  subst hmm
  refine Ex_nil ?_
  refine Ex_cons (Ex1_assign (Ev_bin (Ev_name (by walk_at "mem")) Ev_int BinD_and) (by walk_at "st") (by walk_at "dr") ?_)
  rw [bitAnd_m1]
  have hpar : (n : Int) % 2 = ((n % 2 : Nat) : Int) := by (first | lia | omega)
  rw [hpar]
  refine Ex_cut (fun σ O => ∃ (a' b' : Int) (hn : Nat), a' = (1 + (n % 2 : Nat)) * a ∧ b' = (1 + (n % 2 : Nat)) * b ∧ 2 * hn = n + n % 2 ∧ O = [] ∧
      Sub σ [(Str.ofString "a", .int a'), (Str.ofString "b", .int b'), (Str.ofString "n", .int ((2 * hn : Nat) : Int)), (Str.ofString "pad", .int ((n % 2 : Nat) : Int))])
    (Ex1_if (EvT_val (Ev_name (by walk_at "mem")) TruD_int) (fun hc => ?_) (fun hc => ?_)) ?_
  · have hp1 : n % 2 = 1 := by have : ¬ ((n % 2 : Nat) : Int) = 0 := by simpa using hc
                               (first | lia | omega)
    refine Ex_cons (Ex1_aug (by walk_at "mem") Ev_int (InD_lshift (by decide) ?_) (by walk_at "st") (by walk_at "dr") ?_)
    · (first | lia | omega)
    refine Ex_cons (Ex1_aug (by walk_at "mem") Ev_int (InD_lshift (by decide) ?_) (by walk_at "st") (by walk_at "dr") ?_)
    · (first | lia | omega)
    refine Ex_cons (Ex1_aug (by walk_at "mem") Ev_int InD_add (by walk_at "st") (by walk_at "dr") ?_)
    have e1 : ((2 * ((n + 1) / 2) : Nat) : Int) = (n : Int) + 1 := by (first | lia | omega)
    refine Ex_nil ⟨a * 2 ^ (1 : Int).toNat, b * 2 ^ (1 : Int).toNat, (n + 1) / 2, ?_, ?_, by (first | lia | omega), rfl, ?_⟩
    · rw [hp1]; show a * 2 = _; (first | lia | omega)
    · rw [hp1]; show b * 2 = _; (first | lia | omega)
    · rw [e1]; walk_at "sub"
  · have hp0 : n % 2 = 0 := by have : ((n % 2 : Nat) : Int) = 0 := by simpa using hc
                               (first | lia | omega)
    have e1 : ((2 * (n / 2) : Nat) : Int) = (n : Int) := by (first | lia | omega)
    refine Ex_nil ⟨a, b, n / 2, by rw [hp0]; (first | lia | omega), by rw [hp0]; (first | lia | omega), by (first | lia | omega), rfl, ?_⟩
    rw [e1]; walk_at "sub"
  rintro σ O ⟨a', b', hn, hea, heb, hhn, rfl, hsub⟩
  refine Ex.weak ?_ hsub.mem
  clear hsub
  have hb2 : 2 ^ (2 * hn - 1) ≤ b' ∧ b' < 2 ^ (2 * hn) ∧ 0 ≤ a' ∧ a' < b' * 2 ^ (2 * hn) ∧ 0 < b' := by
    have hp : n % 2 = 0 ∨ n % 2 = 1 := by (first | lia | omega)
    rcases hp with hp | hp
    · have ea : a' = a := by rw [hea, hp]; (first | lia | omega)
      have eb : b' = b := by rw [heb, hp]; (first | lia | omega)
      have en : 2 * hn = n := by (first | lia | omega)
      rw [ea, eb, en]; exact ⟨hbge, hblt, ha0, ha1, hb0⟩
    · have ea : a' = 2 * a := by rw [hea, hp]; (first | lia | omega)
      have eb : b' = 2 * b := by rw [heb, hp]; (first | lia | omega)
      have en : 2 * hn = n + 1 := by (first | lia | omega)
      have e1 : n = n - 1 + 1 := by (first | lia | omega)
      have e2 : (2 : Int) ^ n = 2 ^ (n - 1) * 2 := by
        conv => lhs; rw [e1, ipow_add]
        rfl
      have e3 : (2 : Int) ^ (n + 1) = 2 ^ n * 2 := by rw [ipow_add]; rfl
      rw [ea, eb, en, Nat.add_sub_cancel]
      refine ⟨by (first | lia | omega), by (first | lia | omega), by (first | lia | omega), ?_, by (first | lia | omega)⟩
      have h3 : b * 2 ^ n ≤ b * 2 ^ (n + 1) := Int.mul_le_mul_of_nonneg_left (ipow_le (by (first | lia | omega))) (Int.le_of_lt hb0)
      rw [Int.mul_assoc]; (first | lia | omega)
  obtain ⟨hb1, hb2, ha0', ha1', hb0'⟩ := hb2
  have hn1 : 1 ≤ hn := by (first | lia | omega)
  have hPh := pow_pos' hn
  have e2h : (2 : Int) ^ (2 * hn) = 2 ^ hn * 2 ^ hn := by rw [← ipow_add]; congr 1; (first | lia | omega)
  have hm' : hn ≤ 4000 * 2 ^ m' := by
    have : 2 ^ (m' + 1) = 2 * 2 ^ m' := Nat.pow_succ' ..
    (first | lia | omega)
  refine Ex_cons (Ex1_assign (Ev_bin (Ev_name (by walk_at "mem")) Ev_int (BinD_rshift (by decide))) (by walk_at "st") (by walk_at "dr") ?_)
  have ehn : (((2 * hn : Nat) : Int)).fdiv (2 ^ (1 : Int).toNat) = hn := by rw [fdiv_pow]; show ((2 * hn : Nat) : Int) / 2 = _; (first | lia | omega)
  rw [ehn]
  refine Ex_cons (Ex1_assign (Ev_bin (Ev_bin Ev_int (Ev_name (by walk_at "mem")) (BinD_lshift (Int.natCast_nonneg _) ?_)) Ev_int BinD_sub) (by walk_at "st") (by walk_at "dr") ?_)
  · have := bits_le' (a := 1) (k := 1) (by decide) (by decide); (first | lia | omega)
  rw [Int.toNat_natCast, Int.one_mul]
  refine Ex_cons (Ex1_assignSw (Ev_tuple (.cons (Ev_bin (Ev_name (by walk_at "mem")) (Ev_name (by walk_at "mem")) (BinD_rshift (Int.natCast_nonneg _))) (.cons (Ev_bin (Ev_name (by walk_at "mem")) (Ev_name (by walk_at "mem")) BinD_and) .nil))) rfl rfl rfl rfl (.cons (by walk_at "st") (by walk_at "dr") (.cons (by walk_at "st") (by walk_at "dr") .nil)) ?_)
  rw [fdiv_pow, Int.toNat_natCast, band_mask (Int.le_of_lt hb0')]
  have hX0 : 0 ≤ a' / 2 ^ (2 * hn) := Int.ediv_nonneg ha0' (Int.le_of_lt (pow_pos' _))
  have hX1 : a' / 2 ^ (2 * hn) < b' := div_pos_lt (pow_pos' _) ha1'
  have hM0 : 0 ≤ a' / 2 ^ hn := Int.ediv_nonneg ha0' (Int.le_of_lt hPh)
  have sp1 := SS (a' / 2 ^ (2 * hn)) (a' / 2 ^ hn % 2 ^ hn) b' hn hn1 (by (first | lia | omega)) hm' hb1 hb2 hX0 hX1 (Int.emod_nonneg _ (Int.ne_of_gt hPh)) (Int.emod_lt_of_pos _ hPh)
  have ecomb : a' / 2 ^ (2 * hn) * 2 ^ hn + a' / 2 ^ hn % 2 ^ hn = a' / 2 ^ hn := by
    have := split_pow (x := a' / 2 ^ hn) hn
    rw [idivdiv (Int.le_of_lt hPh), ← e2h] at this
    exact this.symm
  rw [ecomb] at sp1
  have sp2 := SS (a' / 2 ^ hn % b') (a' % 2 ^ hn) b' hn hn1 (by (first | lia | omega)) hm' hb1 hb2 (Int.emod_nonneg _ (Int.ne_of_gt hb0')) (Int.emod_lt_of_pos _ hb0') (Int.emod_nonneg _ (Int.ne_of_gt hPh)) (Int.emod_lt_of_pos _ hPh)
  have hdep : A.depth + (2 * m' + 2) ≤ 900 := by (first | lia | omega)
  refine Ex_cons (Ex1_assignT (d := Dv (a' / 2 ^ hn) b') (Ev_call (ds := [.int (a' / 2 ^ (2 * hn)), .int (a' / 2 ^ hn % 2 ^ hn), .int b', .int (b' / 2 ^ hn), .int (b' % 2 ^ hn), .int hn]) (Ev_globraw (g_d3 h)) (h.kp (by kernel_rfl)) (.cons ?_ (.cons ?_ (.cons (Ev_name (by walk_at "mem")) (.cons (Ev_name (by walk_at "mem")) (.cons (Ev_name (by walk_at "mem")) (.cons (Ev_name (by walk_at "mem")) .nil)))))) (CallD_of sp1 hdep)) (Asg_tuple rfl (.cons (Asg_name (by walk_at "st") (by walk_at "dr")) (.cons (Asg_name (by walk_at "st") (by walk_at "dr")) .nil))) ?_)
  · exact Ev_rsh (Ev_name (by walk_at "mem")) (Ev_name (by walk_at "mem"))
  · rw [← band_mask hM0]
    exact Ev_bin (Ev_rsh (Ev_name (by walk_at "mem")) (Ev_name (by walk_at "mem"))) (Ev_name (by walk_at "mem")) BinD_and
  refine Ex_cons (Ex1_assignT (d := Dv (a' / 2 ^ hn % b' * 2 ^ hn + a' % 2 ^ hn) b') (Ev_call (ds := [.int (a' / 2 ^ hn % b'), .int (a' % 2 ^ hn), .int b', .int (b' / 2 ^ hn), .int (b' % 2 ^ hn), .int hn]) (Ev_globraw (g_d3 h)) (h.kp (by kernel_rfl)) (.cons (Ev_name (by walk_at "mem")) (.cons ?_ (.cons (Ev_name (by walk_at "mem")) (.cons (Ev_name (by walk_at "mem")) (.cons (Ev_name (by walk_at "mem")) (.cons (Ev_name (by walk_at "mem")) .nil)))))) (CallD_of sp2 hdep)) (Asg_tuple rfl (.cons (Asg_name (by walk_at "st") (by walk_at "dr")) (.cons (Asg_name (by walk_at "st") (by walk_at "dr")) .nil))) ?_)
  · rw [← band_mask ha0']
    exact Ev_bin (Ev_name (by walk_at "mem")) (Ev_name (by walk_at "mem")) BinD_and
  obtain ⟨j1, j2⟩ := d2_join (h := hn) hb0' ha0'
  have hX2 := d2_x2_lt (h := hn) (Int.emod_lt_of_pos (a' / 2 ^ hn) hb0') (Int.emod_lt_of_pos a' hPh)
  have hX20 : 0 ≤ a' / 2 ^ hn % b' * 2 ^ hn + a' % 2 ^ hn := Int.add_nonneg (Int.mul_nonneg (Int.emod_nonneg _ (Int.ne_of_gt hb0')) (Int.le_of_lt hPh)) (Int.emod_nonneg _ (Int.ne_of_gt hPh))
  have hq20 := Int.ediv_nonneg hX20 (Int.le_of_lt hb0')
  have hq21 : (a' / 2 ^ hn % b' * 2 ^ hn + a' % 2 ^ hn) / b' < 2 ^ hn := div_pos_lt hb0' (by rw [Int.mul_comm (2 ^ hn)]; exact hX2)
  have hq10 : 0 ≤ a' / 2 ^ hn / b' := Int.ediv_nonneg hM0 (Int.le_of_lt hb0')
  have hq11 : a' / 2 ^ hn / b' < 2 ^ hn := by
    apply div_pos_lt hb0'
    apply div_pos_lt hPh
    rw [Int.mul_comm (2 ^ hn) b', Int.mul_assoc, ← e2h]; exact ha1'
  generalize hXX : a' / 2 ^ hn % b' * 2 ^ hn + a' % 2 ^ hn = X at *
  refine Ex_cut (fun σ O => O = [] ∧ Sub σ [(Str.ofString "q1", .int (a' / 2 ^ hn / b')), (Str.ofString "q2", .int (X / b')), (Str.ofString "half_n", .int hn), (Str.ofString "r", .int (a % b))])
    (Ex1_if (EvT_val (Ev_name (by walk_at "mem")) TruD_int) (fun hc => ?_) (fun hc => ?_)) ?_
  · have hp1 : n % 2 = 1 := by have : ¬ ((n % 2 : Nat) : Int) = 0 := by simpa using hc
                               (first | lia | omega)
    have ea : a' = 2 * a := by rw [hea, hp1]; (first | lia | omega)
    have eb : b' = 2 * b := by rw [heb, hp1]; (first | lia | omega)
    refine Ex_cons (Ex1_aug (by walk_at "mem") Ev_int (InD_rshift (by decide)) (by walk_at "st") (by walk_at "dr") ?_)
    have er : (X % b').fdiv (2 ^ (1 : Int).toNat) = a % b := by
      rw [fdiv_pow, ← j2, ea, eb, (dm_double hb0).2]; show 2 * (a % b) / 2 = _; (first | lia | omega)
    rw [er]
    exact Ex_nil ⟨rfl, by walk_at "sub"⟩
  · have hp0 : n % 2 = 0 := by have : ((n % 2 : Nat) : Int) = 0 := by simpa using hc
                               (first | lia | omega)
    have ea : a' = a := by rw [hea, hp0]; (first | lia | omega)
    have eb : b' = b := by rw [heb, hp0]; (first | lia | omega)
    have er : X % b' = a % b := by rw [← j2, ea, eb]
    rw [er]
    exact Ex_nil ⟨rfl, by walk_at "sub"⟩
  rintro σ O ⟨rfl, hsub⟩
  refine Ex.weak ?_ hsub.mem
  refine Ex_cons (Ex1_ret (Ev_tuple (.cons (Ev_bin (Ev_bin (Ev_name (by walk_at "mem")) (Ev_name (by walk_at "mem")) (BinD_lshift (Int.natCast_nonneg _) ?_)) (Ev_name (by walk_at "mem")) BinD_or) (.cons (Ev_name (by walk_at "mem")) .nil))) (?_ : (_ : D) = _))
  · have := bits_le' hq10 hq11; (first | lia | omega)
  · rw [Int.toNat_natCast, bor_low hq10 hq20 hn hq21, ← j1]
    have : a' / b' = a / b := by
      have hp : n % 2 = 0 ∨ n % 2 = 1 := by (first | lia | omega)
      rcases hp with hp | hp
      · rw [hea, heb, hp]; simp
      · have ea : a' = 2 * a := by rw [hea, hp]; (first | lia | omega)
        have eb : b' = 2 * b := by rw [heb, hp]; (first | lia | omega)
        rw [ea, eb, (dm_double hb0).1]
    rw [this]; rfl
theorem s2_all {c : Cx} (h : GK c) : ∀ m, S2 c m
  | 0 => s2_of h 0 (.inl rfl)
  | m + 1 => s2_of h (m + 1) (.inr ⟨m, rfl, s3_of h m (s2_all h m)⟩)
theorem cs_d2 {c : Cx} (h : GK c) {a b : Int} {n : Nat} (h20 : n ≤ 2 ^ 20) (hbn : Builtin.Int.intBits b = n) (hb : 0 < b) (ha : 0 ≤ a) (hab : a < b * 2 ^ n) : CallSpec c (.ref 35) 41 [.int a, .int b, .int n] (Dv a b) := by
  have hn := bits_pos hb
  exact s2_all h 20 a b n (by (first | lia | omega)) h20 (by (first | lia | omega)) hbn hb ha hab
end Mine
end
section
open PySem PySem.W PyProof.Rows PySem.Calls PyProof.V PySem.Spec
set_option maxRecDepth 100000
namespace Mine
local macro_rules | `(tactic| walk_at "mem") => `(tactic| with_reducible first | exact List.mem_cons_self .. | (refine List.mem_cons_of_mem _ ?_; walk_at "mem"))
local macro_rules | `(tactic| walk_at "st") => `(tactic| first | exact .inl rfl | exact .inr ⟨rfl, rfl⟩)
local macro_rules | `(tactic| walk_at "dr") => `(tactic| first | exact Drop.nil | (with_reducible apply Drop.hit; walk_at "dr") | (with_reducible apply Drop.miss; (focus decide); walk_at "dr"))
local macro_rules | `(tactic| walk_at "sub") => `(tactic| first | exact Sub.nil | (refine Sub.cons (by walk_at "mem") ?_; walk_at "sub"))
theorem g_i2d {c : Cx} (h : GK c) : GlobIs c (Str.ofString "_int2digits") (.ref 49) := h.gl (by kernel_rfl)
theorem g_d2i {c : Cx} (h : GK c) : GlobIs c (Str.ofString "_digits2int") (.ref 56) := h.gl (by kernel_rfl)
theorem g_rev {c : Cx} (h : GK c) : GlobIs c (Str.ofString "reversed") (.type "reversed") := h.bl (by kernel_rfl) (by kernel_rfl)
theorem g_dmp {c : Cx} (h : GK c) : GlobIs c (Str.ofString "_divmod_pos") (.ref 63) := h.gl (by kernel_rfl)
theorem g_idm {c : Cx} (h : GK c) : GlobIs c (Str.ofString "int_divmod") (.ref 70) := h.gl (by kernel_rfl)
set_option maxHeartbeats 4000000 in
theorem cs_dmp {c : Cx} (h : GK c) {a b : Int} (ha : 0 ≤ a) (hb : 0 < b) (ha20 : Builtin.Int.intBits a ≤ 2 ^ 20) (hb20 : Builtin.Int.intBits b ≤ 2 ^ 20) : CallSpec c (.ref 63) 45 [.int a, .int b] (Dv a b) := by
  refine call_def (n := 44) (xs := [Str.ofString "a", Str.ofString "b"]) (h.at (by rfl)) rfl rfl rfl rfl rfl ⟨_, _, _, _, rfl, h.at (by rfl), rfl, rfl⟩ rfl rfl rfl (len2 fun _ _ => rfl) (by decide) rfl (by decide) (noFree (by decide)) ?_
  intro L A out own hA
  dsimp only [List.zip, List.zipWith]
  have hn1 := bits_pos hb
  have hblt := lt_bits (Int.le_of_lt hb)
  refine Ex_cons (Ex1_assign (Ev_meth (Ev_name (by walk_at "mem")) (MethOn_int F.slot_int_bit_length F.type_int_bit_length) .nil CallD_bit_length) (by walk_at "st") (by walk_at "dr") ?_)
  generalize hnn : Builtin.Int.intBits b = n at *
  have hP := pow_pos' n
  refine Ex_cons (Ex1_assign (Ev_call (Ev_globraw (g_i2d h)) (h.kp (by kernel_rfl)) (.cons (Ev_name (by walk_at "mem")) (.cons (Ev_name (by walk_at "mem")) .nil)) (CallD_of (cs_i2d h a n ha hn1 (by (first | lia | omega)) ha20) (show A.depth + 30 ≤ 900 by (first | lia | omega)))) (by walk_at "st") (by walk_at "dr") ?_)
  refine Ex_cons (Ex1_assign Ev_int (by walk_at "st") (by walk_at "dr") ?_)
  refine Ex_cons (Ex1_assignN (EvN_list .nil) (by walk_at "st") (by walk_at "dr") fun ad => ?_)
  have hmem : ∀ y ∈ i2d n a, 0 ≤ y ∧ y < 2 ^ n := fun y hy => digs_mem hy
  have hl1 := i2d_lenle' (n := n) (a := a) hn1
  have hl2 := i2d_lenle (n := n) (a := a) hn1
  have hval := d2i_i2d (n := n) ha hn1
  generalize i2d n a = dg at *
  have hzl : (zs dg).length = dg.length := by simp [zs]
  refine Ex_cons (Ex1_for (ds := (zs dg).reverse) (EvIt_reversed (Ev_globraw (g_rev h)) (Ev_name (by walk_at "mem"))) (fun i σ O => ∃ (qs : List Int) (r : Int), d2i n qs * b + r = d2i n (dg.drop (dg.length - i)) ∧ 0 ≤ r ∧ r < b ∧ qs.length = i ∧ (∀ q ∈ qs, 0 ≤ q ∧ q < 2 ^ n) ∧ O = [(ad, zs qs.reverse)] ∧
      Sub σ [(Str.ofString "b", .int b), (Str.ofString "n", .int n), (Str.ofString "r", .int r), (Str.ofString "q_digits", .raw (.ref ad))]) ⟨[], 0, by simp [d2i], by (first | lia | omega), hb, rfl, by simp, rfl, by walk_at "sub"⟩ ?_ ?_)
  · rintro wr i d σ O hd ⟨qs, r, hv, hr0, hr1, hql, hqm, rfl, hsub⟩
    have hil : i < dg.length := by have := (List.getElem?_eq_some_iff.mp hd).1; simpa [zs] using this
    have hx : d = .int (dg[dg.length - 1 - i]'(by (first | lia | omega))) := by
      rw [List.getElem?_reverse (by (first | lia | omega)), hzl] at hd
      simp only [zs, List.getElem?_map] at hd
      rw [List.getElem?_eq_getElem (by (first | lia | omega))] at hd
      exact (Option.some.inj hd).symm
    subst hx
    have hdrop : dg.drop (dg.length - (i + 1)) = dg[dg.length - 1 - i]'(by (first | lia | omega)) :: dg.drop (dg.length - i) := by
      rw [List.drop_eq_getElem_cons (by (first | lia | omega))]
      congr 1
      · congr 1; (first | lia | omega)
      · congr 1; (first | lia | omega)
    have hxm := hmem _ (List.getElem_mem (show dg.length - 1 - i < dg.length by (first | lia | omega)))
    generalize dg[dg.length - 1 - i]'(by (first | lia | omega)) = x at *
    have hsp := cs_d2 h hb20 hnn hb (show 0 ≤ r * 2 ^ n + x by have := Int.mul_nonneg hr0 (Int.le_of_lt hP); (first | lia | omega)) (d2_x2_lt hr1 hxm.2)
    refine ⟨_, Asg.weak (Asg_name (by walk_at "st") (by walk_at "dr")) hsub.mem, ?_⟩
    refine Ex_cons (Ex1_assignT (d := Dv (r * 2 ^ n + x) b) (Ev_call (ds := [.int (r * 2 ^ n + x), .int b, .int n]) (Ev_globraw (g_d2 h)) (h.kp (by kernel_rfl)) (.cons ?_ (.cons (Ev_name (by walk_at "mem")) (.cons (Ev_name (by walk_at "mem")) .nil))) (CallD_of hsp (show A.depth + 41 ≤ 900 by (first | lia | omega)))) (Asg_tuple rfl (.cons (Asg_name (by walk_at "st") (by walk_at "dr")) (.cons (Asg_name (by walk_at "st") (by walk_at "dr")) .nil))) ?_)
    · refine Ev_bin (a := .int (r * 2 ^ n)) ?_ (Ev_name (by walk_at "mem")) BinD_add
      have e9 : r * 2 ^ n = r * 2 ^ ((n : Int).toNat) := by rw [Int.toNat_natCast]
      rw [e9]
      exact Ev_bin (Ev_name (by walk_at "mem")) (Ev_name (by walk_at "mem")) (BinD_lshift (Int.natCast_nonneg _) (by
        have h3 := bits_le' hr0 (Int.lt_trans hr1 hblt); (first | lia | omega)))
    refine Ex_cons (Ex1_methO (Ev_name (by walk_at "mem")) (.cons (Ev_name (by walk_at "mem")) .nil) (MethO_append (by simp [zs]; (first | lia | omega))) F.slot_list_append F.type_list_append ?_ rfl)
    have hX0 : 0 ≤ r * 2 ^ n + x := by have := Int.mul_nonneg hr0 (Int.le_of_lt hP); (first | lia | omega)
    refine Ex_nil ⟨(r * 2 ^ n + x) / b :: qs, (r * 2 ^ n + x) % b, ?_, Int.emod_nonneg _ (Int.ne_of_gt hb), Int.emod_lt_of_pos _ hb, by simp [hql], ?_, by simp [zs], by walk_at "sub"⟩
    · rw [hdrop, long_step hv]; simp only [d2i]; (first | lia | omega)
    · intro q hq
      rcases List.mem_cons.mp hq with rfl | hq
      · exact ⟨Int.ediv_nonneg hX0 (Int.le_of_lt hb), div_pos_lt hb (by rw [Int.mul_comm (2 ^ n) b]; exact d2_x2_lt hr1 hxm.2)⟩
      · exact hqm q hq
  · rintro σ O ⟨qs, r, hv, hr0, hr1, hql, hqm, rfl, hsub⟩
    rw [show (zs dg).reverse.length = dg.length by simp [zs]] at hv hql
    rw [Nat.sub_self, List.drop_zero, hval] at hv
    refine Ex.weak ?_ hsub.mem
    clear hsub
    refine Ex_cons (Ex1_methO (Ev_name (by walk_at "mem")) .nil (MethO_reverse (by simp [zs]; (first | lia | omega))) F.slot_list_reverse F.type_list_reverse ?_ rfl)
    have e1 : (zs qs.reverse).reverse = zs qs := by simp [zs]
    rw [e1]
    refine Ex_freeze (σ' := [(Str.ofString "q_digits", .list (zs qs)), (Str.ofString "n", .int n), (Str.ofString "r", .int r)]) ?_ (by
      intro q hq
      simp only [List.mem_cons, List.mem_nil_iff, or_false] at hq
      rcases hq with rfl | rfl | rfl
      · exact .inr ⟨rfl, by walk_at "mem"⟩
      · exact .inl (by walk_at "mem")
      · exact .inl (by walk_at "mem"))
    have hsp := cs_d2i h false qs n hn1 n (fun q hq => by have := hqm q hq; have := pow_cast n; (first | lia | omega)) (by (first | lia | omega)) (by (first | lia | omega)) (by rw [hql]; (first | lia | omega))
    refine Ex_cons (Ex1_assign (Ev_call (ds := [sq false (zs qs), .int n]) (Ev_globraw (g_d2i h)) (h.kp (by kernel_rfl)) (.cons (Ev_name (d := .list (zs qs)) (by walk_at "mem")) (.cons (Ev_name (by walk_at "mem")) .nil)) (CallD_of hsp (show A.depth + 30 ≤ 900 by (first | lia | omega)))) (by walk_at "st") (by walk_at "dr") ?_)
    refine Ex_cons (Ex1_ret (Ev_tuple (.cons (Ev_name (by walk_at "mem")) (.cons (Ev_name (by walk_at "mem")) .nil))) (?_ : (_ : D) = _))
    obtain ⟨e1, e2⟩ := divmod_of hv.symm hr0 hr1
    rw [e1, e2]; rfl
end Mine
end
section
open PySem PySem.W PyProof.Rows PySem.Calls PyProof.V PySem.Spec
set_option maxRecDepth 100000
namespace Mine
local macro_rules | `(tactic| walk_at "mem") => `(tactic| with_reducible first | exact List.mem_cons_self .. | (refine List.mem_cons_of_mem _ ?_; walk_at "mem"))
local macro_rules | `(tactic| walk_at "st") => `(tactic| first | exact .inl rfl | exact .inr ⟨rfl, rfl⟩)
local macro_rules | `(tactic| walk_at "dr") => `(tactic| first | exact Drop.nil | (with_reducible apply Drop.hit; walk_at "dr") | (with_reducible apply Drop.miss; (focus decide); walk_at "dr"))
local macro_rules | `(tactic| walk_at "sub") => `(tactic| first | exact Sub.nil | (refine Sub.cons (by walk_at "mem") ?_; walk_at "sub"))
theorem bits_natAbs {a b : Int} (h : a.natAbs = b.natAbs) : Builtin.Int.intBits a = Builtin.Int.intBits b := by
  unfold Builtin.Int.intBits
  have : (a == 0) = (b == 0) := by rw [Bool.eq_iff_iff]; simp; (first | lia | omega)
  rw [this, h]
theorem bits_not {a : Int} (h : a < 0) : Builtin.Int.intBits (-a - 1) ≤ Builtin.Int.intBits a := by
  have h1 := lt_bits (show 0 ≤ -a by (first | lia | omega))
  rw [bits_natAbs (a := -a) (b := a) (by (first | lia | omega))] at h1
  exact bits_le' (by (first | lia | omega)) (by (first | lia | omega))
def Fv (a b : Int) : D := .tuple [.int (a.fdiv b), .int (a.fmod b)]
theorem Fv_pos {a b : Int} (hb : 0 < b) : Fv a b = Dv a b := by
  unfold Fv Dv
  rw [Int.fdiv_eq_ediv_of_nonneg _ (by (first | lia | omega)), Int.fmod_eq_emod_of_nonneg _ (by (first | lia | omega))]
theorem not_div {a b : Int} (hb : 0 < b) : -((-a - 1) / b) - 1 = a / b ∧ b + (-((-a - 1) % b) - 1) = a % b := by
  have h0 := Int.emod_nonneg (-a - 1) (Int.ne_of_gt hb)
  have h1 := Int.emod_lt_of_pos (-a - 1) hb
  have h2 := Int.mul_ediv_add_emod (-a - 1) b
  refine divmod_of ?_ (by (first | lia | omega)) (by (first | lia | omega))
  rw [Int.sub_mul, Int.neg_mul, Int.one_mul, Int.mul_comm _ b]; (first | lia | omega)
theorem fdiv_negs {a b : Int} (hb : b < 0) : (-a).fdiv (-b) = a.fdiv b ∧ -((-a).fmod (-b)) = a.fmod b := by
  have h1 : (-a).fdiv (-b) = a.fdiv b := by rw [Int.neg_fdiv_neg]
  refine ⟨h1, ?_⟩
  rw [Int.fmod_def, Int.fmod_def, h1, Int.neg_mul]; (first | lia | omega)
set_option maxHeartbeats 4000000 in
theorem cs_idm1 {c : Cx} (h : GK c) {a b : Int} (hb : b ≠ 0) (ha20 : Builtin.Int.intBits a ≤ 2 ^ 20) (hb20 : Builtin.Int.intBits b ≤ 2 ^ 20) (n : Nat) (hn : 45 ≤ n)
    (ih1 : b < 0 → CallSpec c (.ref 70) n [.int (-a), .int (-b)] (Fv (-a) (-b))) (ih2 : 0 < b → a < 0 → CallSpec c (.ref 70) n [.int (-a - 1), .int b] (Fv (-a - 1) b)) : CallSpec c (.ref 70) (n + 1) [.int a, .int b] (Fv a b) := by
  refine call_def (n := n) (xs := [Str.ofString "a", Str.ofString "b"]) (h.at (by rfl)) rfl rfl rfl rfl rfl ⟨_, _, _, _, rfl, h.at (by rfl), rfl, rfl⟩ rfl rfl rfl (len2 fun _ _ => rfl) (by decide) rfl (by decide) (noFree (by decide)) ?_
  intro L A out own hA
  dsimp only [List.zip, List.zipWith]
  refine Ex_cons (Ex1_if (EvT_cmp (Ev_name (by walk_at "mem")) Ev_int CmpD_eq) (fun hc => absurd (by simpa using hc) hb) (fun _ => ?_))
  refine Ex_cons (Ex1_if (EvT_cmp (Ev_name (by walk_at "mem")) Ev_int CmpD_lt) (fun hc => ?_) (fun hc => ?_))
  · have hb1 : b < 0 := by simpa using hc
    refine Ex_cons (Ex1_assignT (Ev_call (Ev_globraw (g_idm h)) (h.kp (by kernel_rfl)) (.cons (Ev_neg (Ev_name (by walk_at "mem"))) (.cons (Ev_neg (Ev_name (by walk_at "mem"))) .nil)) (CallD_of (ih1 hb1) hA)) (Asg_tuple rfl (.cons (Asg_name (by walk_at "st") (by walk_at "dr")) (.cons (Asg_name (by walk_at "st") (by walk_at "dr")) .nil))) ?_)
    refine Ex_cons (Ex1_ret (Ev_tuple (.cons (Ev_name (by walk_at "mem")) (.cons (Ev_neg (Ev_name (by walk_at "mem"))) .nil))) (?_ : (_ : D) = _))
    obtain ⟨e1, e2⟩ := fdiv_negs (a := a) hb1
    rw [e1, e2]; rfl
  have hb1 : 0 < b := by have : ¬ b < 0 := by simpa using hc
                         (first | lia | omega)
  refine Ex_cons (Ex1_if (EvT_cmp (Ev_name (by walk_at "mem")) Ev_int CmpD_lt) (fun hc => ?_) (fun hc => ?_))
  · have ha1 : a < 0 := by simpa using hc
    have ih := ih2 hb1 ha1
    rw [Fv_pos hb1] at ih
    refine Ex_cons (Ex1_assignT (Ev_call (Ev_globraw (g_idm h)) (h.kp (by kernel_rfl)) (.cons (Ev_inv (Ev_name (by walk_at "mem"))) (.cons (Ev_name (by walk_at "mem")) .nil)) (CallD_of ih hA)) (Asg_tuple rfl (.cons (Asg_name (by walk_at "st") (by walk_at "dr")) (.cons (Asg_name (by walk_at "st") (by walk_at "dr")) .nil))) ?_)
    refine Ex_cons (Ex1_ret (Ev_tuple (.cons (Ev_inv (Ev_name (by walk_at "mem"))) (.cons (Ev_bin (Ev_name (by walk_at "mem")) (Ev_inv (Ev_name (by walk_at "mem"))) BinD_add) .nil))) (?_ : (_ : D) = _))
    obtain ⟨e1, e2⟩ := not_div (a := a) hb1
    rw [Fv_pos hb1]
    unfold Builtin.bitNot Dv
    rw [e1, e2]
  · have ha1 : 0 ≤ a := by have : ¬ a < 0 := by simpa using hc
                           (first | lia | omega)
    rw [Fv_pos hb1]
    exact Ex_cons (Ex1_ret (Ev_call (Ev_globraw (g_dmp h)) (h.kp (by kernel_rfl)) (.cons (Ev_name (by walk_at "mem")) (.cons (Ev_name (by walk_at "mem")) .nil)) (CallD_of (cs_dmp h ha1 hb1 ha20 hb20) (show A.depth + 45 ≤ 900 by (first | lia | omega)))) (rfl : (_ : D) = _))
theorem cs_idm {c : Cx} (h : GK c) {a b : Int} (hb : b ≠ 0) (ha20 : Builtin.Int.intBits a ≤ 2 ^ 20) (hb20 : Builtin.Int.intBits b ≤ 2 ^ 20) : CallSpec c (.ref 70) 48 [.int a, .int b] (Fv a b) := by
  have p1 : ∀ {x y : Int} (n : Nat), 45 ≤ n → 0 ≤ x → 0 < y → Builtin.Int.intBits x ≤ 2 ^ 20 → Builtin.Int.intBits y ≤ 2 ^ 20 → CallSpec c (.ref 70) (n + 1) [.int x, .int y] (Fv x y) := fun n hn h0 h1 h2 h3 =>
    cs_idm1 h (by (first | lia | omega)) h2 h3 n hn (fun q => by (first | lia | omega)) (fun _ q => by (first | lia | omega))
  have p2 : ∀ {x y : Int} (n : Nat), 46 ≤ n → 0 < y → Builtin.Int.intBits x ≤ 2 ^ 20 → Builtin.Int.intBits y ≤ 2 ^ 20 → CallSpec c (.ref 70) (n + 1) [.int x, .int y] (Fv x y) := fun {x y} n hn h1 h2 h3 =>
    cs_idm1 h (by (first | lia | omega)) h2 h3 n (by (first | lia | omega)) (fun q => by (first | lia | omega)) (fun _ q => by
      have := p1 (x := -x - 1) (y := y) (n - 1) (by (first | lia | omega)) (by (first | lia | omega)) h1 (Nat.le_trans (bits_not q) h2) h3
      rwa [show n - 1 + 1 = n by (first | lia | omega)] at this)
  refine cs_idm1 h hb ha20 hb20 47 (by (first | lia | omega)) (fun q => ?_) (fun q1 q2 => ?_)
  · exact p2 46 (by (first | lia | omega)) (by (first | lia | omega)) (by rw [bits_natAbs (b := a) (by (first | lia | omega))]; exact ha20) (by rw [bits_natAbs (b := b) (by (first | lia | omega))]; exact hb20)
  · exact p2 46 (by (first | lia | omega)) q1 (Nat.le_trans (bits_not q2) ha20) hb20
end Mine
end
section
open PySem PySem.W PyProof.Rows PySem.Calls PyProof.V PySem.Spec
namespace Mine
theorem getL_at : ∀ {es : List DictEntry} {ns : List Str} {x : Str} {j : Nat}, KeysAre es ns → ns.Nodup → ns[j]? = some x → ∃ e, es[j]? = some e ∧ getL x es = some (some e.val)
  | [], [], _, _, _, _, h => by simp at h
  | [], _ :: _, _, _, k, _, _ => by simp [KeysAre] at k
  | _ :: _, [], _, _, k, _, _ => by simp [KeysAre] at k
  | e :: r, n :: ns, x, j, k, hn, h => by
    simp only [KeysAre] at k
    obtain ⟨⟨t, et⟩, k⟩ := k
    obtain ⟨h1, h2⟩ := List.nodup_cons.mp hn
    cases j with
    | zero =>
      simp at h; subst h
      refine ⟨e, by simp, ?_⟩
      unfold getL
      have : e.key.isStr n = true := by rw [et]; simp [Value.isStr]
      simp [List.find?_cons, this]
    | succ j =>
      simp at h
      obtain ⟨e', a, b⟩ := getL_at k h2 h
      refine ⟨e', by simpa using a, ?_⟩
      have hne : n ≠ x := fun q => h1 (by rw [q]; exact List.mem_of_getElem? h)
      have : e.key.isStr x = false := by rw [et]; simp [Value.isStr, hne]
      unfold getL at b ⊢
      have hr : e.refKey = false := by unfold DictEntry.refKey; rw [et]
      simp only [List.find?_cons, this, List.any_cons, hr, Bool.false_or]
      exact b
theorem getL_none : ∀ {es : List DictEntry} {ns : List Str} {x : Str}, KeysAre es ns → x ∉ ns → getL x es = some none
  | [], [], _, _, _ => by simp [getL]
  | [], _ :: _, _, k, _ => by simp [KeysAre] at k
  | _ :: _, [], _, k, _ => by simp [KeysAre] at k
  | e :: r, n :: ns, x, k, hn => by
    simp only [KeysAre] at k
    obtain ⟨⟨t, et⟩, k⟩ := k
    have b := getL_none k (fun q => hn (List.mem_cons_of_mem _ q))
    have hne : n ≠ x := fun q => hn (q ▸ List.mem_cons_self ..)
    have : e.key.isStr x = false := by rw [et]; simp [Value.isStr, hne]
    unfold getL at b ⊢
    have hr : e.refKey = false := by unfold DictEntry.refKey; rw [et]
    simp only [List.find?_cons, this, List.any_cons, hr, Bool.false_or]
    exact b
def D.noRaw : D → Bool
  | .raw _ => false
  | _ => true
theorem handed_val {av : Addr → Prop} {h : Heap} {d : D} {v : Value} (V : Val av h d v) (hd : d.noRaw = true) : handedIn v = true := by
  cases d <;> simp only [Val] at V
  · subst V; rfl
  · subst V; rfl
  · obtain ⟨t, rfl⟩ := V; rfl
  · obtain ⟨t, rfl⟩ := V; rfl
  · obtain ⟨a, vs, n, rfl, _⟩ := V; rfl
  · obtain ⟨a, vs, n, rfl, _⟩ := V; rfl
  · cases hd
  · obtain ⟨r, t, u, w, rfl, _⟩ := V; rfl
  · obtain ⟨a, da, es, n, sl, rfl, _⟩ := V; rfl
section
variable {c : Cx} {fr : FX} {σ σ' : Store} {O O' : Owns} {s s' : Shared} {a : Addr} {ds ds' es : List D}
theorem FS.KIn (F : FS c fr σ O s) : c.K.In s.heap := c.KX.keeps F.wi.keep
theorem Ev_attr {e : Expr} {x : Str} {pos : Pos} {C : Addr} {ns : List Str} {j : Nat} {d : D} (he : Ev c fr σ O e (.inst C ns ds)) (hx : ns[j]? = some x) (hd : ds[j]? = some d) (hr : d.noRaw = true) (hn : ns.Nodup)
    (hg : plainGet c.K C x = true) (hh : hasDictIn c.K C = true) (ha : findIn c.K (.ref C) x = some none)
    (hev : eval (.Attribute e x pos) fr.env = (do
      let o ← eval e fr.env
      standAt pos.atName
      let r ← holding [o] (getAttr o x true)
      letTemporaryGo e o r
      pure r) := by rfl) : Ev c fr σ O (.Attribute e x pos) d := by
  intro s F Q E k
  refine Attribute_any_ (he s F _ _ fun v s₁ F₁ K₁ V₁ => ?_) hev
  simp only [Val] at V₁
  obtain ⟨a, da, es, n, sl, rfl, na, nda, g, gd, kk, V⟩ := V₁
  have I : InstAt s₁.heap a ⟨.ref C, some da, .plain, sl⟩ C (some (dictOf es n)) := ⟨g, rfl, rfl, gd⟩
  obtain ⟨e', h1, h2⟩ := getL_at kk hn hx
  obtain ⟨v', h3, V'⟩ := V.get' j d hd
  have hv : v' = e'.val := by simp [h1] at h3; exact h3.symm
  subst hv
  exact get_value F₁.KIn I (plainGet_of hg).1 (findObj_own hh ha rfl h2) (handed_val V' hr) (k _ _ F₁.toks (K₁.heap rfl) V')
theorem Ev_methI {o : Expr} {name : Str} {apos pos : Pos} {args : List Expr} {C f : Addr} {ns : List Str} {as : List D} {d : D} (ho : Ev c fr σ O o (.inst C ns ds)) (h : EvL c fr σ O args as) (hc : CallD c fr (.ref f) (.inst C ns ds :: as) d)
    (hnn : name ∉ ns) (hg : plainGet c.K C name = true) (hf : findIn c.K (.ref C) name = some (some (.ref f))) (ht : isFn c.K (.ref f) = true) (hk : Keep c (.ref f))
    (hs : noStar args = true := by rfl) (hb : attributeBase o name fr.env (eval o fr.env) = eval o fr.env := by rfl) (hl : decide (args.length < 29) = true := by rfl) (hp : (apos.endLine == pos.line) = true := by rfl) :
    Ev c fr σ O (.Call (.Attribute o name apos) args [] pos) d := by
  intro s F Q E k
  have hfew : ((backTo pos (starEach args fr.env)).all (fun x => !x.1) && (backToKw pos (keywordEach [] fr.env)).all (fun x => x.1.isSome)
      && decide (args.length + ([] : List Keyword).length + (if ([] : List Keyword).isEmpty then 0 else 1) < 30)) = true := by
    rw [starEach_plain hs]
    have : args.length < 29 := of_decide_eq_true hl
    simp [backTo, backToKw, keywordEach]; (first | lia | omega)
  rw [arm_eval_Call, hb]
  refine wpAny_bind (ho s F _ _ fun v s₁ F₁ K₁ V₁ => ?_)
  have V₁' := V₁
  simp only [Val] at V₁
  obtain ⟨a, da, es, n, sl, rfl, na, nda, g, gd, kk, V⟩ := V₁
  have I : InstAt s₁.heap a ⟨.ref C, some da, .plain, sl⟩ C (some (dictOf es n)) := ⟨g, rfl, rfl, gd⟩
  have h2 := getL_none kk hnn
  refine wpAny_bind (wpAny_standAt ?_)
  have hc' : wpAny c.M fr.A (callWith pos (.ref f) [.ref a] (backTo pos (starEach args fr.env)) []) Q E s₁ :=
    callWith_ hk h hs F₁ fun vs s₂ F₂ K₂ V₂ => hc σ O s₂ (.ref a :: vs) F₂ (Vals.cons (K₂.val V₁') V₂) _ _ fun r s₃ F₃ K₃ V₃ => k r s₃ F₃ ((K₁.trans K₂).trans K₃) V₃
  have hm : ∀ {pl : Sem Bool} {Q' : Value × List Value → Shared → Prop}, Q' (.ref f, [.ref a]) s₁ → wpAny c.M fr.A (getMethod (.ref a) name pl) Q' E s₁ := fun h =>
    method_fn F₁.KIn I (plainGet_of hg).1 (plainGet_of hg).2 hf (beq_iff_eq.mp ht) (by show (lookIn name (dictOf es n)).map _ = _; rw [lookIn_dict, h2]; rfl) h
  first
    | (have hform : methodCallForm (args.length + ([] : List Keyword).length) (backTo pos (starEach args fr.env)) (backToKw pos (keywordEach [] fr.env)) = true := hfew
       have hpos : methodCallPos true o fr.env apos pos = pure pos := by unfold methodCallPos; simp [hp]
       unfold methodCall
       rw [hform]
       refine wpAny_bind (wpAny_holding (hm ?_))
       exact wpAny_bind (wpAny_of_eq hpos hc'))
    | (unfold methodCall calleeOf methodCallPos methodCallForm
       simp only [hfew, hp, if_true, Bool.not_true, Bool.or_true]
       refine wpAny_bind (wpAny_holding (hm ?_))
       exact wpAny_bind (wpAny_pure hc'))
theorem Ev_attrC {e : Expr} {x : Str} {pos : Pos} {C : Addr} {mc v : Value} {d : D} (he : Ev c fr σ O e (.raw (.ref C))) (hr : readsIn c.K C mc = true) (hf : findCls c.K (.ref C) mc x = some (.val v)) (hh : handedIn v = true) (hv : ∀ a hp, Val a hp d v)
    (hev : eval (.Attribute e x pos) fr.env = (do
      let o ← eval e fr.env
      standAt pos.atName
      let r ← holding [o] (getAttr o x true)
      letTemporaryGo e o r
      pure r) := by rfl) : Ev c fr σ O (.Attribute e x pos) d := by
  intro s F Q E k
  refine Attribute_any_ (he s F _ _ fun u s₁ F₁ K₁ V₁ => ?_) hev
  simp only [Val] at V₁; subst V₁
  exact cls_value F₁.KIn hr hf hh (k _ _ F₁.toks (K₁.heap rfl) (hv _ _))
end
end Mine
end
section
open PySem PySem.W PyProof.Rows PySem.Calls PyProof.V PySem.Spec
namespace Mine
mutual
def D.flat : D → Bool
  | .inst _ _ _ => false
  | .list ds => flats ds
  | .tuple ds => flats ds
  | _ => true
def flats : List D → Bool
  | [] => true
  | d :: r => d.flat && flats r
end
def NotDict (o : Obj) : Prop := ∀ es n, o.data ≠ .dict es n
section
variable {av av' : Addr → Prop} {h h' : Heap}
mutual
theorem Val.monoF (H : ∀ a o, ¬ av a → h.get? a = some o → NotDict o → h'.get? a = some o ∧ ¬ av' a) : ∀ (d : D) (v : Value), d.flat = true → Val av h d v → Val av' h' d v
  | .none, _, _, x => by simpa only [Val] using x
  | .bool _, _, _, x => by simpa only [Val] using x
  | .int _, _, _, x => by simpa only [Val] using x
  | .str _, _, _, x => by simpa only [Val] using x
  | .raw _, _, _, x => by simpa only [Val] using x
  | .range a b c, v, _, x => by
    simp only [Val] at x ⊢
    obtain ⟨r, t, u, w, e, n, i⟩ := x
    unfold IsRange at i ⊢
    have k := H _ _ n i (by intro v q; intro e; cases e)
    exact ⟨r, t, u, w, e, k.2, k.1⟩
  | .list ds, v, f, x => by
    simp only [D.flat] at f
    simp only [Val] at x ⊢
    obtain ⟨a, vs, n, e, na, g, r⟩ := x
    have k := H _ _ na g (by intro v q; intro e; cases e)
    exact ⟨a, vs, n, e, k.2, k.1, Vals.monoF H _ _ f r⟩
  | .tuple ds, v, f, x => by
    simp only [D.flat] at f
    simp only [Val] at x ⊢
    obtain ⟨a, vs, n, e, na, g, r⟩ := x
    have k := H _ _ na g (by intro v q; intro e; cases e)
    exact ⟨a, vs, n, e, k.2, k.1, Vals.monoF H _ _ f r⟩
  | .inst C ns ds, v, f, x => by simp [D.flat] at f
theorem Vals.monoF (H : ∀ a o, ¬ av a → h.get? a = some o → NotDict o → h'.get? a = some o ∧ ¬ av' a) : ∀ (ds : List D) (vs : List Value), flats ds = true → Vals av h ds vs → Vals av' h' ds vs
  | [], _, _, x => by simpa only [Vals] using x
  | d :: ds, vs, f, x => by
    simp only [flats, Bool.and_eq_true] at f
    simp only [Vals] at x ⊢
    obtain ⟨v, r, e, a, b⟩ := x
    exact ⟨v, r, e, Val.monoF H d v f.1 a, Vals.monoF H ds r f.2 b⟩
end
end
section
variable {c : Cx} {fr : FX} {σ σ' : Store} {O O' : Owns} {s s' : Shared} {a da : Addr} {ds ds' es : List D}
theorem FS.poke {h' : Heap} {tk : Nat} {ents : List DictEntry} {n : Nat} (F : FS c fr σ O s) (keep : ∀ b o, b ≠ fr.env.locals → b ≠ da → s.heap.get? b = some o → h'.get? b = some o) (hns : ∀ m, s.heap.Ns fr.env.locals m → h'.Ns fr.env.locals m)
    (hd : s.heap.get? da = some (dictOf ents n)) (nda : ¬ av fr O da) (hw : c.hw.get? da = none) (hσ : ∀ p ∈ σ, p.2.flat = true) (hO : ∀ q ∈ O, flats q.2 = true) : FS c fr σ O { s with heap := h', toks := tk } := by
  obtain ⟨m, hm⟩ := F.Lns
  have Lw : c.hw.get? fr.env.locals = none := F.own0 _ F.Lown
  have dL : da ≠ fr.env.locals := fun q => nda (.inr (.inl (q ▸ F.Lown)))
  have k1 : ∀ b o, ¬ av fr O b → b ≠ da → s.heap.get? b = some o → h'.get? b = some o := fun b o nb n e => keep b o (fun q => nb (.inr (.inl (q ▸ F.Lown)))) n e
  have mm : ∀ b o, ¬ av fr O b → s.heap.get? b = some o → NotDict o → h'.get? b = some o ∧ ¬ av fr O b := fun b o nb e nd => ⟨k1 b o nb (fun q => by rw [q, hd] at e; cases e; exact nd _ _ rfl) e, nb⟩
  have cd : ∀ {b v}, s.heap.IsCell b v → b ≠ da := fun ⟨o, e, d⟩ q => by rw [q, hd] at e; cases e; cases d
  have ck : ∀ b v, s.heap.IsCell b v → h'.IsCell b v := fun b v h => by
    obtain ⟨o, e, d⟩ := id h
    exact ⟨o, keep b o (fun q => Ns.notCell (q ▸ hm) h) (cd h) e, d⟩
  have td : ∀ q ∈ c.tabs, ∀ ps, s.heap.get? q.2 = some (tabObj ps) → h'.get? q.2 = some (tabObj ps) := fun q hq ps e => keep _ _ (fun k => Ns.notTab hm (k ▸ e)) (fun k => by rw [k, hd] at e; cases e) e
  exact {
    wi := ⟨fun b o e => keep b o (fun q => by rw [q, Lw] at e; cases e) (fun q => by rw [q, hw] at e; cases e) (F.wi.keep b o e),
      fun q hq => let ⟨ps, e, t⟩ := F.wi.tab q hq; ⟨ps, td q hq ps e, t.mono fun b o nc e => keep b o (fun k => by obtain ⟨o', e', nc'⟩ := NoCode.ns (k ▸ hm); rw [e] at e'; cases e'; exact nc nc') (fun k => by rw [k, hd] at e; cases e; exact nc (.dict rfl)) e⟩, F.wi.gens, F.wi.os⟩
    kind := F.kind
    glob := F.glob
    blt := F.blt
    hand := F.hand
    room := F.room
    own0 := F.own0
    o0 := F.o0
    tabown := F.tabown
    Lown := F.Lown
    Lns := ⟨m, hns m hm⟩
    inj := F.inj
    calive := fun x b e => let ⟨v, h⟩ := F.calive x b e; ⟨v, ck _ _ h⟩
    cfree := F.cfree
    mown := F.mown
    oo := F.oo
    out0 := F.out0
    outal := fun b h => let ⟨o, e, nc⟩ := F.outal b h; ⟨o, keep b o (fun q => F.oo b h (q ▸ F.Lown)) (fun q => nda (.inl (q ▸ h))) e, nc⟩
    oout := F.oout
    ownal := fun b h => by
      by_cases q : b = fr.env.locals
      · rw [q]; exact NoCode.ns (hns m hm)
      · obtain ⟨o, e, nc⟩ := F.ownal b h; exact ⟨o, keep b o q (fun k => nda (.inr (.inl (k ▸ h)))) e, nc⟩
    vars := fun p hp => (F.vars p hp).mono hns (fun _ b v _ h => ck b v h) (fun v x => Val.monoF mm _ _ (hσ p hp) x)
    owns := fun q hq => let ⟨vs, n, e, w⟩ := F.owns q hq
      ⟨vs, n, keep _ _ (fun k => F.odis _ (List.mem_map_of_mem hq) (k ▸ F.Lown)) (fun k => by rw [k, hd] at e; have e' := congrArg Obj.data (Option.some.inj e); cases e') e, Vals.monoF mm _ _ (hO q hq) w⟩
    nodup := F.nodup
    odis := F.odis }
structure IS (c : Cx) (fr : FX) (O : Owns) (s : Shared) (a da C : Addr) (ns : List Str) (ds : List D) : Prop where
  obj : ∃ sl, s.heap.get? a = some ⟨.ref C, some da, .plain, sl⟩
  dic : ∃ ents n, s.heap.get? da = some (dictOf ents n) ∧ KeysAre ents ns ∧ Vals (av fr O) s.heap ds (ents.map (·.val))
  na : ¬ av fr O a
  nda : ¬ av fr O da
  hw : c.hw.get? a = none
  hwd : c.hw.get? da = none
  nodup : ns.Nodup
  flat : flats ds = true
theorem IS.kept {C : Addr} {ns : List Str} (I : IS c fr O s a da C ns ds) (F : FS c fr σ O' s') (K : Kept fr O s O' s') : IS c fr O' s' a da C ns ds := by
  obtain ⟨sl, e⟩ := I.obj
  obtain ⟨ents, n, e2, k, V⟩ := I.dic
  have st : ∀ b o, ¬ av fr O b → s.heap.get? b = some o → s'.heap.get? b = some o ∧ ¬ av fr O' b := fun b o nb e => by
    have h := K b o (fun m => nb (.inr (.inl m))) (fun m => nb (.inr (.inr m))) e
    exact ⟨h.1, fun q => q.elim (fun q => nb (.inl q)) fun q => q.elim (fun q => nb (.inr (.inl q))) h.2⟩
  exact ⟨⟨sl, (st _ _ I.na e).1⟩, ⟨ents, n, (st _ _ I.nda e2).1, k, K.vals V⟩, (st _ _ I.na e).2, (st _ _ I.nda e2).2, I.hw, I.hwd, I.nodup, I.flat⟩
theorem IS.val {C : Addr} {ns : List Str} (I : IS c fr O s a da C ns ds) : Val (av fr O) s.heap (.inst C ns ds) (.ref a) := by
  obtain ⟨sl, e⟩ := I.obj
  obtain ⟨ents, n, e2, k, V⟩ := I.dic
  simp only [Val]
  exact ⟨a, da, ents, n, sl, rfl, I.na, I.nda, e, e2, k, V⟩
theorem putL_new : ∀ {ents : List DictEntry} {ns : List Str} {x : Str} {hs : Int} {t : Tok} {v : Value}, KeysAre ents ns → x ∉ ns → putL x hs (.str x t) v ents = ents ++ [⟨hs, .str x t, v⟩]
  | [], [], _, _, _, _, _, _ => rfl
  | [], _ :: _, _, _, _, _, k, _ => by simp [KeysAre] at k
  | _ :: _, [], _, _, _, _, k, _ => by simp [KeysAre] at k
  | e :: r, n :: ns, x, hs, t, v, k, hn => by
    simp only [KeysAre] at k
    obtain ⟨⟨u, et⟩, k⟩ := k
    have hne : n ≠ x := fun q => hn (q ▸ List.mem_cons_self ..)
    have : e.key.isStr x = false := by rw [et]; simp [Value.isStr, hne]
    simp only [putL, this, Bool.false_eq_true, if_false, List.cons_append]
    rw [putL_new k (fun q => hn (List.mem_cons_of_mem _ q))]
theorem KeysAre.snoc : ∀ {ents : List DictEntry} {ns : List Str} {x : Str} {hs : Int} {t : Tok} {v : Value}, KeysAre ents ns → KeysAre (ents ++ [⟨hs, .str x t, v⟩]) (ns ++ [x])
  | [], [], _, _, _, _, _ => by simp [KeysAre]
  | [], _ :: _, _, _, _, _, k => by simp [KeysAre] at k
  | _ :: _, [], _, _, _, _, k => by simp [KeysAre] at k
  | e :: r, n :: ns, x, hs, t, v, k => by
    simp only [KeysAre, List.cons_append] at k ⊢
    exact ⟨k.1, KeysAre.snoc k.2⟩
theorem KeysAre.length : ∀ {ents : List DictEntry} {ns : List Str}, KeysAre ents ns → ents.length = ns.length
  | [], [], _ => rfl
  | [], _ :: _, k => by simp [KeysAre] at k
  | _ :: _, [], k => by simp [KeysAre] at k
  | e :: r, n :: ns, k => by simp only [KeysAre] at k; simp [KeysAre.length k.2]
theorem flats_append : ∀ {xs ys : List D}, flats xs = true → flats ys = true → flats (xs ++ ys) = true
  | [], _, _, h => h
  | x :: xs, ys, h1, h2 => by
    simp only [flats, Bool.and_eq_true, List.cons_append] at h1 ⊢
    exact ⟨h1.1, flats_append h1.2 h2⟩
theorem setattr_ {C : Addr} {ns : List Str} {x : Str} {d : D} {v : Value} {Q : Unit → Shared → Prop} {E : Value → Shared → Prop} (F : FS c fr σ O s) (I : IS c fr O s a da C ns ds) (V : Val (av fr O) s.heap d v) (hdf : d.flat = true) (hx : x ∉ ns)
    (hσ : ∀ p ∈ σ, p.2.flat = true) (hO : ∀ q ∈ O, flats q.2 = true) (hz : ns.length < 900)
    (hs : findIn c.K (.ref C) "__setattr__" = some (some (.builtin "object.__setattr__"))) (hp : plainOver c.K C = true) (ht : takerIn c.K C x = some none) (hh : hasDictIn c.K C = true)
    (k : ∀ s', FS c fr σ O s' → IS c fr O s' a da C (ns ++ [x]) (ds ++ [d]) → (∀ b o, b ≠ fr.env.locals → b ≠ da → s.heap.get? b = some o → s'.heap.get? b = some o) → Q () s') : wpAny c.M fr.A (setAttr (.ref a) x v) Q E s := by
  obtain ⟨sl, ea⟩ := I.obj
  obtain ⟨ents, n, ed, kk, Vd⟩ := I.dic
  obtain ⟨m, hm⟩ := F.Lns
  have dL : da ≠ fr.env.locals := fun q => I.nda (.inr (.inl (q ▸ F.Lown)))
  have aL : a ≠ fr.env.locals := fun q => I.na (.inr (.inl (q ▸ F.Lown)))
  have ad : a ≠ da := fun q => by rw [q, ed] at ea; cases ea
  have Fm : Fr emptyH fr.env.locals s.heap m := ⟨hm, fun b o e => (by rw [emptyH_get] at e; cases e), Nat.zero_le _⟩
  let rest := (allNews s.heap fr.env.locals).filter (fun p => p.1 != da)
  have N : News emptyH fr.env.locals s.heap ((da, dictOf ents n) :: rest) := fun p hp => by
    rcases List.mem_cons.mp hp with rfl | hp
    · exact ⟨ed, dL, emptyH_get _⟩
    · have := allNews_spec p (List.mem_filter.mp hp).1
      exact ⟨this.1, this.2, emptyH_get _⟩
  have hrest : ∀ p ∈ rest, p.1 ≠ da := fun p hp => by simpa using (List.mem_filter.mp hp).2
  have XK : c.K.In s.heap := F.KIn
  have hl0 := getL_none kk hx
  have hlen := kk.length
  refine set_plain XK (od := some (dictOf ents n)) ⟨ea, rfl, rfl, ed⟩ hs (osa_dict (s := { s with toks := s.toks + 1 }) (pre := []) (post := rest) (od := dictOf ents n) Fm N XK ⟨ea, rfl, rfl, ed⟩ rfl hp ht hh
    (by rw [lookIn_dict, hl0]; rfl) (fun p hp => by cases hp) hrest (putName_dict ..) rfl (by rw [putL_new kk hx]; simp; (first | lia | omega)) (fun h' F' N' => ?_))
  rw [putL_new kk hx] at N'
  have keep : ∀ b o, b ≠ fr.env.locals → b ≠ da → s.heap.get? b = some o → h'.get? b = some o := fun b o n1 n2 e => (N' _ (List.mem_cons_of_mem _ (List.mem_filter.mpr ⟨mem_allNews n1 e, by simpa using n2⟩))).1
  have hns : ∀ m', s.heap.Ns fr.env.locals m' → h'.Ns fr.env.locals m' := fun m' h => by rw [Ns.same h hm]; exact F'.ns
  have mm : ∀ b o, ¬ av fr O b → s.heap.get? b = some o → NotDict o → h'.get? b = some o ∧ ¬ av fr O b := fun b o nb e nd => ⟨keep b o (fun q => nb (.inr (.inl (q ▸ F.Lown)))) (fun q => by rw [q, ed] at e; cases e; exact nd _ _ rfl) e, nb⟩
  refine k _ (F.poke keep hns ed I.nda I.hwd hσ hO) ⟨⟨sl, keep _ _ aL ad ea⟩, ⟨_, _, Mine.News.hd N', kk.snoc, ?_⟩, I.na, I.nda, I.hw, I.hwd, ?_, flats_append I.flat (by simp [flats, hdf])⟩ keep
  · rw [List.map_append]
    exact (Vals.monoF mm _ _ I.flat Vd).append (Vals.one (Val.monoF mm _ _ hdf V))
  · refine List.nodup_append.mpr ⟨I.nodup, by simp, fun y hy z hz q => ?_⟩
    rw [List.mem_singleton.mp hz] at q; subst q; exact hx hy
end
end Mine
end
section
open PySem PySem.W PyProof.Rows PySem.Calls PyProof.V PySem.Spec
namespace Mine
theorem enter_plain {c : Cx} {f : Addr} {ob : Obj} {fd : FuncData} {body : List Stmt} {xs : List Str} {n : Nat} {ds : List D}
    (hob : c.hw.get? f = some ob) (hdata : ob.data = .func fd) (hbody : fd.body = .stmts body) (hclo : fd.closure = []) (hglob : fd.globals = mainGlobals) (hblt : fd.builtins = builtinsNs) (hcd : c.hw.CodeRec fd.code fd.qualname)
    (hco : fd.scope.isCoroutine = false) (hgen : fd.scope.isGenerator = false) (hk : fd.scope.kind = .function)
    (hbind : ∀ vs : List Value, vs.length = xs.length → bindArgs fd ⟨vs, []⟩ = pure (xs.zip vs)) (hn : xs.Nodup) (hlen : xs.length = ds.length)
    (hloc : xs.all (fun x => fd.scope.names.lookup x == some .local) = true) (hcell : fd.scope.names.all (fun p => !(p.2 == .cell) && !(p.2 == .free)) = true)
    {A : Around} {out : Addr → Prop} {s : Shared} {vs : List Value} (hh : A.handled = none) (hu : A.units ≤ 3 * A.depth) (hd : A.depth + n + 1 ≤ 900) (WS : WI c s)
    (hout : ∀ a, out a → (∃ o, s.heap.get? a = some o ∧ NoCode o) ∧ a ∉ c.ta ∧ c.hw.get? a = none) (V : Vals (avo c out) s.heap ds vs) {R : Result → Shared → Prop}
    (k : ∀ L h₁ tk (A' : Around), s.heap.get? L = none → A'.depth + n ≤ 900 → FS c ⟨callEnv fd L f, A', out, L :: c.ta, fun _ => true⟩ (xs.zip ds) [] { s with heap := h₁, toks := tk } → (∀ b o, s.heap.get? b = some o → h₁.get? b = some o) →
      wpAny c.M A' (execs body (callEnv fd L f)) (fun f s' => R (.ok (.ret (match f with | .ret v => v | _ => .none))) s') (fun _ _ => False) { s with heap := h₁, toks := tk }) : codeAny c.M A (.call (.ref f) ⟨vs, []⟩) R s := by
  have hvl : vs.length = xs.length := by rw [V.length, hlen]
  have hloc' : ∀ x ∈ xs, fd.scope.names.lookup x = some .local := fun x hx => by have := List.all_eq_true.mp hloc x hx; simpa using this
  have hcell' : ∀ x ∈ fd.scope.names, x.2 ≠ .cell ∧ x.2 ≠ .free := fun x hx => by have := List.all_eq_true.mp hcell x hx; simpa using this
  refine codeAny_call_def (fd := fd) (body := body) (binds := xs.zip vs) (by have : recursionLimit = 1000 := rfl; (first | lia | omega)) (WS.keep _ _ hob) hdata (c.T.nolimit.keeps WS.keep) (hcd.keeps WS.keep) hbody
    (BindsTo.of_eq (hbind vs hvl)) (fun x hx => (hcell' x hx).1) (fun x hx => hloc' x.1 (not_mem_zip (y := x.2) hx)) (fun h₁ hns keep => ?_) hco hgen hk
  have hL : s.heap.get? s.heap.objs.size = none := by
    cases e : s.heap.get? s.heap.objs.size with
    | none => rfl
    | some o => exact absurd (Heap.lt_size e) (Nat.lt_irrefl _)
  have hwL : c.hw.get? s.heap.objs.size = none := by
    cases e : c.hw.get? s.heap.objs.size with
    | none => rfl
    | some o => rw [WS.keep _ _ e] at hL; cases hL
  let A' := A.deeper (callEnv fd s.heap.objs.size f)
  let fr : FX := ⟨callEnv fd s.heap.objs.size f, A', out, s.heap.objs.size :: c.ta, fun _ => true⟩
  have hkind : ∀ x, fr.env.kindOf x = fd.scope.names.lookup x := fun _ => rfl
  have mm : ∀ a o, ¬ avo c out a → s.heap.get? a = some o → h₁.get? a = some o ∧ ¬ av fr [] a := fun a o na e => ⟨keep _ _ e, by
    rintro (k | k | k)
    · exact na (.inl k)
    · rcases List.mem_cons.mp k with rfl | k
      · rw [hL] at e; cases e
      · exact na (.inr k)
    · simp [addrs] at k⟩
  have noc : ∀ x, fr.env.kindOf x ≠ some .cell := fun x h => (hcell' (x, .cell) (mem_of_lookup h)).1 rfl
  have nof : ∀ x, fr.env.kindOf x ≠ some .free := fun x h => (hcell' (x, .free) (mem_of_lookup h)).2 rfl
  have hcl : ∀ x a, fr.env.cells.lookup x ≠ some a := fun x a e => by
    have : fr.env.cells = [] := hclo
    rw [this] at e; cases e
  have F : FS c fr (xs.zip ds) [] { s with heap := h₁, toks := s.toks + (xs.zip vs).length } := {
    wi := WS.grow keep rfl rfl
    kind := hk
    glob := by show fd.globals = mainGlobals; exact hglob
    blt := by show fd.builtins = builtinsNs; exact hblt
    hand := hh
    room := by
      show A.units + 3 ≤ 3 * (A.depth + 1) ∧ A.depth + 1 ≤ 900
      (first | lia | omega)
    own0 := fun a h => by
      rcases List.mem_cons.mp h with rfl | h
      · exact hwL
      · obtain ⟨q, hq, rfl⟩ := List.mem_map.mp h; exact c.tab0 q hq
    o0 := fun a h => by simp [addrs] at h
    tabown := fun q hq => List.mem_cons_of_mem _ (List.mem_map_of_mem hq)
    Lown := List.mem_cons_self ..
    Lns := ⟨_, hns⟩
    inj := fun x y a h1 h2 => absurd h1 (hcl x a)
    calive := fun x a e => absurd e (hcl x a)
    cfree := fun x h => h.elim (fun h => absurd h (noc x)) fun h => absurd h (nof x)
    mown := fun x a _ h _ => absurd h (noc x)
    oo := fun a h m => by
      obtain ⟨⟨o, e, _⟩, nt, _⟩ := hout a h
      rcases List.mem_cons.mp m with rfl | m
      · rw [hL] at e; cases e
      · exact nt m
    out0 := fun a h => (hout a h).2.2
    outal := fun a h => let ⟨⟨o, e, nc⟩, _⟩ := hout a h; ⟨o, keep _ _ e, nc⟩
    oout := fun a h => by simp [addrs] at h
    ownal := fun a h => by
      rcases List.mem_cons.mp h with rfl | h
      · exact NoCode.ns hns
      · obtain ⟨q, hq, rfl⟩ := List.mem_map.mp h
        obtain ⟨ps, e, tk⟩ := WS.tab q hq
        exact ⟨_, keep _ _ e, .tab tk.1⟩
    vars := fun p hp => by
      obtain ⟨v, hv, Vv⟩ := zip_vals xs ds vs V p.1 p.2 hp
      have h := hloc' _ (not_mem_zip (y := p.2) hp)
      unfold VarAt
      rw [hkind, h]
      exact ⟨_, v, hns, lookup_rev_zip hn hv, Val.mono mm _ _ Vv⟩
    owns := fun q hq => by cases hq
    nodup := .nil
    odis := fun a h => by simp [addrs] at h }
  exact wpAny_mono (k s.heap.objs.size h₁ _ A' hL (by show A.depth + 1 + n ≤ 900; (first | lia | omega)) F keep) (fun _ _ x => x) (fun _ _ x => x.elim)
section
variable {c : Cx} {fr : FX} {σ σ' : Store} {O O' : Owns} {s s' s₁ : Shared} {a da : Addr} {ds ds' es : List D}
theorem step1 {st : Stmt} {rest : List Stmt} {P : Post} {Q : Flow → Shared → Prop} {E : Value → Shared → Prop} (h : Ex1 c fr σ O st P) (F : FS c fr σ O s) (hP : ∀ out σ' O', P out σ' O' → out = .next)
    (k : ∀ σ' O' s', FS c fr σ' O' s' → Kept fr O s O' s' → P .next σ' O' → wpAny c.M fr.A (execs rest fr.env) Q E s') : wpAny c.M fr.A (execs (st :: rest) fr.env) Q E s := by
  refine wpAny_execs_cons (h s F _ _ fun f out σ' O' s' F' K' V' p => ?_)
  have := hP _ _ _ p
  subst this
  cases V'
  exact k σ' O' s' F' K' p
def Stay (fr : FX) (s₁ : Shared) (da : Addr) (O : Owns) (s : Shared) : Prop := ∀ b o, b ∉ fr.own → b ≠ da → s₁.heap.get? b = some o → s.heap.get? b = some o ∧ b ∉ addrs O
theorem Stay.start : Stay fr s₁ da [] s₁ := fun b o _ _ e => ⟨e, by simp [addrs]⟩
theorem Stay.kept (S : Stay fr s₁ da O s) (K : Kept fr O s O' s') : Stay fr s₁ da O' s' := fun b o h1 h2 e => K b o h1 (S b o h1 h2 e).2 (S b o h1 h2 e).1
theorem IS.freeze {C b : Addr} {ns : List Str} {ls : List D} (I : IS c fr ((b, ls) :: O) s a da C ns ds) : IS c fr O s a da C ns ds := by
  obtain ⟨ents, n, e2, k, V⟩ := I.dic
  exact ⟨I.obj, ⟨ents, n, e2, k, Vals.mono (fun x o nx e => ⟨e, fun q => nx (av_cons.mpr (.inr q))⟩) _ _ V⟩, fun q => I.na (av_cons.mpr (.inr q)), fun q => I.nda (av_cons.mpr (.inr q)), I.hw, I.hwd, I.nodup, I.flat⟩
theorem Stay.freeze {b : Addr} {ls : List D} (S : Stay fr s₁ da ((b, ls) :: O) s) : Stay fr s₁ da O s := fun x o h1 h2 e => ⟨(S x o h1 h2 e).1, fun q => (S x o h1 h2 e).2 (List.mem_cons_of_mem _ q)⟩
theorem step_set {C : Addr} {ns : List Str} {x slf : Str} {d : D} {e : Expr} {p1 p2 pos : Pos} {rest : List Stmt} {Q : Flow → Shared → Prop} {E : Value → Shared → Prop} (F : FS c fr σ O s) (I : IS c fr O s a da C ns ds) (S : Stay fr s₁ da O s)
    (he : Ev c fr σ O e d) (hself : Ev c fr σ O (.Name slf p1) (.raw (.ref a))) (hdf : d.flat = true) (hx : x ∉ ns) (hσ : ∀ p ∈ σ, p.2.flat = true) (hO : ∀ q ∈ O, flats q.2 = true) (hz : ns.length < 900)
    (hs : findIn c.K (.ref C) "__setattr__" = some (some (.builtin "object.__setattr__"))) (hp : plainOver c.K C = true) (ht : takerIn c.K C x = some none) (hh : hasDictIn c.K C = true)
    (k : ∀ s', FS c fr σ O s' → IS c fr O s' a da C (ns ++ [x]) (ds ++ [d]) → Stay fr s₁ da O s' → wpAny c.M fr.A (execs rest fr.env) Q E s')
    (hw : swapsWith e (some (.Attribute (.Name slf p1) x p2)) pos.line fr.env = pure false := by rfl) :
    wpAny c.M fr.A (execs (.Assign [.Attribute (.Name slf p1) x p2] e pos :: rest) fr.env) Q E s := by
  refine wpAny_execs_cons (plainObj_wpAny_Assign_Attribute (he s F _ _ fun v s₂ F₂ K₂ V₂ => hself s₂ F₂ _ _ fun u s₃ F₃ K₃ V₃ => ?_) hw)
  simp only [Val] at V₃; subst V₃
  have I₃ := (I.kept F₂ K₂).kept F₃ K₃
  have S₃ := (S.kept K₂).kept K₃
  refine setattr_ F₃ I₃ (K₃.val V₂) hdf hx hσ hO hz hs hp ht hh fun s₄ F₄ I₄ keep => ?_
  exact k s₄ F₄ I₄ fun b o h1 h2 e => ⟨keep b o (fun q => h1 (q ▸ F.Lown)) h2 (S₃ b o h1 h2 e).1, (S₃ b o h1 h2 e).2⟩
theorem FS.also {x : Str} {d : D} {v : Value} (F : FS c fr σ O s) (hm : (x, D.raw v) ∈ σ) (V : Val (av fr O) s.heap d v) : FS c fr ((x, d) :: σ) O s := by
  have hv : ∀ p ∈ (x, d) :: σ, VarAt fr.env s.heap (Val (av fr O) s.heap p.2) p.1 := by
    intro p hp
    rcases List.mem_cons.mp hp with rfl | hp
    · exact (F.vars _ hm).mono (fun _ x => x) (fun _ _ _ _ x => x) (fun u h => by simp only [Val] at h; subst h; exact V)
    · exact F.vars p hp
  exact ⟨F.wi, F.kind, F.glob, F.blt, F.hand, F.room, F.own0, F.o0, F.tabown, F.Lown, F.Lns, F.inj, F.calive, F.cfree, F.mown, F.oo, F.out0, F.outal, F.oout, F.ownal, hv, F.owns, F.nodup, F.odis⟩
end
theorem call_class {c : Cx} {C fI : Addr} {ob : Obj} {fd : FuncData} {body : List Stmt} {xs : List Str} {n : Nat} {ds : List D} {d : D}
    (hm : makesIn c.K C = true) (hi : findIn c.K (.ref C) "__init__" = some (some (.ref fI))) (hf : isFn c.K (.ref fI) = true)
    (hob : c.hw.get? fI = some ob) (hdata : ob.data = .func fd) (hbody : fd.body = .stmts body) (hclo : fd.closure = []) (hglob : fd.globals = mainGlobals) (hblt : fd.builtins = builtinsNs) (hcd : c.hw.CodeRec fd.code fd.qualname)
    (hco : fd.scope.isCoroutine = false) (hgen : fd.scope.isGenerator = false) (hk : fd.scope.kind = .function) {slf : Str}
    (hbind : ∀ vs : List Value, vs.length = (slf :: xs).length → bindArgs fd ⟨vs, []⟩ = pure ((slf :: xs).zip vs)) (hn : (slf :: xs).Nodup) (hlen : xs.length = ds.length)
    (hloc : (slf :: xs).all (fun x => fd.scope.names.lookup x == some .local) = true) (hcell : fd.scope.names.all (fun p => !(p.2 == .cell) && !(p.2 == .free)) = true)
    (hex : ∀ (fr : FX) (a da L : Addr) s₁ (Q : Flow → Shared → Prop) (E : Value → Shared → Prop), fr.env = callEnv fd L fI → fr.A.depth + n ≤ 900 → fr.mine = (fun _ => true) → FS c fr ((slf, .raw (.ref a)) :: xs.zip ds) [] s₁ → IS c fr [] s₁ a da C [] [] →
      (∀ f O s', (match f with | .ret v => v | _ => Value.none) = .none → FS c fr [] O s' → Stay fr s₁ da O s' → Val (av fr O) s'.heap d (.ref a) → Q f s') → wpAny c.M fr.A (execs body fr.env) Q E s₁) :
    CallSpec c (.ref C) (n + 2) ds d := by
  intro A out s vs hh hu hd WS hout V R hR
  obtain ⟨hp, g, dr, tk, os⟩ := s
  have X : c.K.In hp := c.KX.keeps WS.keep
  refine make_core (makes_of X hm) (looks_findIn X hi) (fun self => bind_fn X self (beq_iff_eq.mp hf)) (.inl rfl) ?_
  have hw : (A.under (.builtin "type.__call__" ⟨.ref C :: vs, []⟩)).depth = A.depth + 1 := rfl
  have e0 : hp.get? hp.objs.size = none := by
    cases e : hp.get? hp.objs.size with
    | none => rfl
    | some o => exact absurd (Heap.lt_size e) (Nat.lt_irrefl _)
  have e1 : hp.get? (hp.objs.size + 1) = none := by
    cases e : hp.get? (hp.objs.size + 1) with
    | none => rfl
    | some o => exact absurd (Heap.lt_size e) (Nat.not_lt.mpr (Nat.le_succ _))
  have up : ∀ b o, hp.get? b = some o → ((hp.push emptyDict).push (instObj C hp.objs.size)).get? b = some o := fun b o e => Heap.get?_push_of_some _ (Heap.get?_push_of_some _ e)
  have gd : ((hp.push emptyDict).push (instObj C hp.objs.size)).get? hp.objs.size = some emptyDict := Heap.get?_push_of_some _ (Heap.get?_push_size _ rfl)
  have ga : ((hp.push emptyDict).push (instObj C hp.objs.size)).get? (hp.objs.size + 1) = some (instObj C hp.objs.size) := (by have := Heap.get?_push_size (hp.push emptyDict) (o := instObj C hp.objs.size) rfl; rw [Heap.size_push] at this; exact this)
  have W' : WI c ⟨(hp.push emptyDict).push (instObj C hp.objs.size), g, dr, tk, os⟩ := WS.grow up rfl rfl
  have fresh_hw : ∀ {b}, hp.get? b = none → c.hw.get? b = none := fun {b} e => by
    cases q : c.hw.get? b with
    | none => rfl
    | some o => have := WS.keep b o q; rw [show hp.get? b = none from e] at this; cases this
  have nout : ∀ {b}, hp.get? b = none → ¬ out b := fun e m => by obtain ⟨⟨o, e', _⟩, _⟩ := hout _ m; rw [show hp.get? _ = none from e] at e'; cases e'
  have nta : ∀ {b}, hp.get? b = none → b ∉ c.ta := fun e m => by
    obtain ⟨q, hq, rfl⟩ := List.mem_map.mp m
    obtain ⟨ps, e', _⟩ := WS.tab q hq
    rw [show hp.get? _ = none from e] at e'; cases e'
  refine enter_plain (n := n) (ds := .raw (.ref (hp.objs.size + 1)) :: ds) hob hdata hbody hclo hglob hblt hcd hco hgen hk hbind hn (by simp [hlen]) hloc hcell (out := out) (by exact hh) (by
    show (A.under (.builtin "type.__call__" ⟨.ref C :: vs, []⟩)).units ≤ 3 * (A.depth + 1)
    have : (A.under (.builtin "type.__call__" ⟨.ref C :: vs, []⟩)).units ≤ A.units + 3 := Nat.add_le_add_left (show (Code.builtin "type.__call__" ⟨.ref C :: vs, []⟩).cUnits ≤ 3 from Nat.le_trans (Nat.le_of_eq (show _ = 1 from rfl)) (by decide)) _
    exact Nat.le_trans this (by (first | lia | omega))) (by rw [hw]; (first | lia | omega)) W' (fun a h => let ⟨⟨o, e, nc⟩, r⟩ := hout a h; ⟨⟨o, up _ _ e, nc⟩, r⟩) (Vals.cons (by simp only [Val]) (Vals.mono (fun b o nb e => ⟨up b o e, nb⟩) _ _ V)) fun L h₁ tk' A' hL hd' F keep => ?_
  have LX : L ≠ hp.objs.size + 1 := fun q => by rw [q] at hL; rw [ga] at hL; cases hL
  have LD : L ≠ hp.objs.size := fun q => by rw [q] at hL; rw [gd] at hL; cases hL
  have nav : ∀ {b}, hp.get? b = none → L ≠ b → ¬ av ⟨callEnv fd L fI, A', out, L :: c.ta, fun _ => true⟩ [] b := fun e n k => by
    rcases k with k | k | k
    · exact nout e k
    · rcases List.mem_cons.mp k with k | k
      · exact n k.symm
      · exact nta e k
    · simp [addrs] at k
  refine hex ⟨callEnv fd L fI, A', out, L :: c.ta, fun _ => true⟩ (hp.objs.size + 1) hp.objs.size L _ _ _ rfl hd' rfl F ⟨⟨_, keep _ _ ga⟩, ⟨[], 0, keep _ _ gd, by simp [KeysAre], Vals.nil⟩, nav e1 LX, nav e0 LD, fresh_hw e1, fresh_hw e0, .nil, rfl⟩ fun f O s' hf F' S V' => ?_
  show InitBack (hp.objs.size + 1) R (.ok (.ret _)) s'
  rw [hf]
  refine ⟨rfl, hR _ s' F'.wi (fun b o nt e => ?_) (Val.mono (fun b o nb e => ⟨e, fun k => nb (k.elim .inl fun k => .inr (.inl (List.mem_cons_of_mem _ k)))⟩) _ _ V')⟩
  refine (S b o (fun m => ?_) (fun q => ?_) (keep _ _ (up _ _ e))).1
  · rcases List.mem_cons.mp m with rfl | m
    · rw [up _ _ e] at hL; cases hL
    · exact nt m
  · rw [q] at e; rw [show hp.get? _ = none from e0] at e; cases e
end Mine
end
section
open PySem PySem.W PyProof.Rows PySem.Calls PyProof.V PySem.Spec
namespace Mine
section
variable {c : Cx} {fr : FX} {σ σ' : Store} {O O' : Owns} {s s' : Shared} {a : Addr} {ds ds' es : List D}
theorem CompSyn.by {scope : Scope} {σc : Store} {iter : Expr} (hs : Sub σ σc) (h1 : (scope.names.map (·.1)).Nodup := by decide) (h2 : scope.kind = .function := by rfl)
    (h3 : scope.names.all (fun p => !(p.2 == .free) || (fr.env.kindOf p.1 == some .cell || fr.env.kindOf p.1 == some .free)) = true := by rfl)
    (h4 : σc.all (fun p => scope.names.any fun q => q.1 == p.1 && q.2 == .free) = true := by rfl) (h5 : ∀ x, foldedSetIterable iter fr.env x = pure x := by intro x; rfl) : CompSyn fr scope σ σc iter := by
  refine ⟨h1, h2, fun p hp e => ?_, fun p hp => ⟨hs.mem p hp, ?_⟩, h5⟩
  · have := List.all_eq_true.mp h3 p hp
    simpa [e] using this
  · have := List.all_eq_true.mp h4 p hp
    obtain ⟨q, hq, e⟩ := List.any_eq_true.mp this
    simp only [Bool.and_eq_true, beq_iff_eq] at e
    obtain ⟨q1, q2⟩ := q
    simp only at e
    obtain ⟨rfl, rfl⟩ := e
    exact hq
theorem EvN_each {elt iter : Expr} {x : Str} {tp : Pos} {scope : Scope} {pos : Pos} (σc : Store) (f : D → D) (hi : EvIt c fr σ O iter ds) (hs : CompSyn fr scope σ σc iter) (hz : ds.length ≤ 2 ^ 24)
    (turn : ∀ L cs out own wr (d : D), d ∈ ds → ∀ acc pre, Storable ((compFr fr scope L cs out own).push wr) x ∧ Drop x σc σc ∧ Ev c ((compFr fr scope L cs out own).push wr) ((x, d) :: σc) [(acc, pre)] elt (f d)) :
    EvN c fr σ O (.ListComp elt [⟨.Name x tp, iter, [], 0⟩] scope pos) (ds.map f) :=
  EvN_map (fun d => (x, d) :: σc) (ds.map f) hi hs (by simp) hz (fun d q hq => List.mem_cons_of_mem _ hq) fun L cs out own wr i d v hd hv acc pre => by
    have hm := List.mem_of_getElem? hd
    obtain ⟨h1, h2, h3⟩ := turn L cs out own wr d hm acc pre
    rw [List.getElem?_map, hd] at hv
    cases hv
    exact ⟨Asg_name h1 h2, h3⟩
end
end Mine
end
section
open PySem PySem.W PyProof.Rows PySem.Calls PyProof.V PySem.Spec
set_option maxRecDepth 100000
namespace Mine
local macro_rules | `(tactic| walk_at "mem") => `(tactic| with_reducible first | exact List.mem_cons_self .. | (refine List.mem_cons_of_mem _ ?_; walk_at "mem"))
local macro_rules | `(tactic| walk_at "st") => `(tactic| first | exact .inl rfl | exact .inr ⟨rfl, rfl⟩)
local macro_rules | `(tactic| walk_at "dr") => `(tactic| first | exact Drop.nil | (with_reducible apply Drop.hit; walk_at "dr") | (with_reducible apply Drop.miss; (focus decide); walk_at "dr"))
local macro_rules | `(tactic| walk_at "sub") => `(tactic| first | exact Sub.nil | (refine Sub.cons (by walk_at "mem") ?_; walk_at "sub"))
def wide (count : List Int) (b : Nat) : List Int := if count.length ≤ b then count ++ List.replicate (b - count.length + 1) 0 else count
def bump (count : List Int) (b : Nat) : List Int := (wide count b).set b ((wide count b).getD b 0 + 1)
def wsGo : List Nat → List Int → Nat → Nat → Nat → List Int × Nat × Nat × Nat
  | [], count, b, n, nt => (count, b, n, nt)
  | k :: r, count, b, n, nt => if k = 32 then wsGo r count (b + 1) (n + 1) nt else if k = 9 then wsGo r (bump count b) 0 (n + 1) (nt + 1) else (count, b, n, nt)
def wsNames : List Str := [Str.ofString "raw", Str.ofString "n", Str.ofString "nt", Str.ofString "norm", Str.ofString "is_simple"]
def wsOf (x : Str) : List Int × Nat × Nat × Nat := wsGo x.cps.toList [] 0 0 0
def wsVals (x : Str) (r : List Int × Nat × Nat × Nat) : List D := [.str x, .int r.2.2.1, .int r.2.2.2, .tuple [.tuple (zs r.1), .int r.2.1], .bool (decide (r.1.length ≤ 1))]
def wsD (x : Str) : D := .inst 132 wsNames (wsVals x (wsOf x))
theorem wide_len {count : List Int} {b : Nat} : (wide count b).length = max count.length (b + 1) := by
  unfold wide; split <;> (try simp) <;> (first | lia | omega)
theorem bump_len {count : List Int} {b : Nat} : (bump count b).length = max count.length (b + 1) := by
  unfold bump; rw [List.length_set, wide_len]
theorem sign_eq (k m : Nat) : ((⟨#[k]⟩ : Str) == (⟨#[m]⟩ : Str)) = decide (k = m) := by
  by_cases h : k = m
  · subst h; simp
  · have : (⟨#[k]⟩ : Str) ≠ ⟨#[m]⟩ := fun e => by cases e; exact h rfl
    rw [beq_eq_false_iff_ne.mpr this]; simp [h]
theorem g_ws {c : Cx} (h : GK c) : GlobIs c (Str.ofString "Whitespace") (.ref 132) := h.gl (by kernel_rfl)
theorem g_tuple {c : Cx} (h : GK c) : GlobIs c (Str.ofString "tuple") (.type "tuple") := h.bl (by kernel_rfl) (by kernel_rfl)
theorem flats_zs : ∀ l : List Int, flats (zs l) = true
  | [] => rfl
  | x :: r => by simp only [zs, List.map_cons, flats, D.flat, Bool.true_and]; exact flats_zs r
theorem gk_set {c : Cx} (h : GK c) : findIn c.K (.ref 132) "__setattr__" = some (some (.builtin "object.__setattr__")) := by rw [h.K]; kernel_rfl
theorem gk_over {c : Cx} (h : GK c) : plainOver c.K 132 = true := by rw [h.K]; kernel_rfl
theorem gk_dict {c : Cx} (h : GK c) : hasDictIn c.K 132 = true := by rw [h.K]; kernel_rfl
theorem gk_make {c : Cx} (h : GK c) : makesIn c.K 132 = true := by rw [h.K]; kernel_rfl
set_option maxHeartbeats 4000000 in
theorem cs_ws {c : Cx} (h : GK c) (x : Str) (hx : x.length ≤ 2 ^ 20) : CallSpec c (.ref 132) 3 [.str x] (wsD x) := by
  refine call_class (n := 1) (xs := [Str.ofString "ws"]) (slf := Str.ofString "self") (gk_make h) (by rw [h.K]; kernel_rfl) (by rw [h.K]; kernel_rfl) (fI := 87) (h.at (by rfl)) rfl rfl rfl rfl rfl ⟨_, _, _, _, rfl, h.at (by rfl), rfl, rfl⟩ rfl rfl rfl
    (len2 fun _ _ => rfl) (by decide) rfl (by rfl) (by rfl) ?_
  intro fr a da L s₁ Q E henv hA hmine F I k
  obtain ⟨env, A, out, own, mine⟩ := fr
  simp only at henv hA hmine
  subst henv hmine
  dsimp only [List.zip, List.zipWith] at F
  refine step_set F I Stay.start (Ev_name (by walk_at "mem")) (Ev_name (by walk_at "mem")) rfl (by simp) (by simp [D.flat]) (by simp) (by simp) (gk_set h) (gk_over h) (by rw [h.K]; kernel_rfl) (gk_dict h) ?_
  intro s₂ F₂ I₂ S₂
  replace I₂ : IS c _ [] s₂ a da 132 [Str.ofString "raw"] [.str x] := I₂
  have F₂' := F₂.also (x := Str.ofString "self") (by walk_at "mem") I₂.val
  refine step1 (P := fun out σ O => out = .next ∧ O = [] ∧ Sub σ [(Str.ofString "self", .raw (.ref a)), (Str.ofString "self", .inst 132 [Str.ofString "raw"] [.str x]), (Str.ofString "S", .str (Str.ofString " ")), (Str.ofString "T", .str (Str.ofString "\t"))])
    (Ex1_assignSw (ds := [.str (Str.ofString " "), .str (Str.ofString "\t")]) (Ev_tuple (.cons (Ev_attrC (mc := .type "type") (v := .str (Str.ofString " ") 307) (Ev_globraw (g_ws h)) (by rw [h.K]; kernel_rfl) (by rw [h.K]; kernel_rfl) rfl (fun _ _ => ⟨_, rfl⟩)) (.cons (Ev_attrC (mc := .type "type") (v := .str (Str.ofString "\t") 308) (Ev_globraw (g_ws h)) (by rw [h.K]; kernel_rfl) (by rw [h.K]; kernel_rfl) rfl (fun _ _ => ⟨_, rfl⟩)) .nil))) rfl rfl rfl rfl (.cons (by walk_at "st") (by walk_at "dr") (.cons (by walk_at "st") (by walk_at "dr") .nil)) ⟨rfl, rfl, by walk_at "sub"⟩)
    F₂' (fun _ _ _ p => p.1) ?_
  rintro σ O s₃ F₃ K₃ ⟨_, rfl, hsub⟩
  replace F₃ := F₃.sub hsub.mem
  clear hsub
  have I₃ := I₂.kept F₃ K₃
  have S₃ := S₂.kept K₃
  refine step1 (P := fun out σ O => out = .next ∧ ∃ ac, O = [(ac, zs [])] ∧ Sub σ [(Str.ofString "self", .raw (.ref a)), (Str.ofString "self", .inst 132 [Str.ofString "raw"] [.str x]), (Str.ofString "S", .str (Str.ofString " ")), (Str.ofString "T", .str (Str.ofString "\t")), (Str.ofString "count", .raw (.ref ac))])
    (Ex1_assignN (EvN_list .nil) (by walk_at "st") (by walk_at "dr") fun ac => ⟨rfl, ac, rfl, by walk_at "sub"⟩) F₃ (fun _ _ _ p => p.1) ?_
  rintro σ O s₄ F₄ K₄ ⟨_, ac, rfl, hsub⟩
  replace F₄ := F₄.sub hsub.mem
  clear hsub
  have I₄ := I₃.kept F₄ K₄
  have S₄ := S₃.kept K₄
  refine step1 (P := fun out σ O => out = .next ∧ O = [(ac, zs [])] ∧ Sub σ [(Str.ofString "self", .raw (.ref a)), (Str.ofString "self", .inst 132 [Str.ofString "raw"] [.str x]), (Str.ofString "S", .str (Str.ofString " ")), (Str.ofString "T", .str (Str.ofString "\t")), (Str.ofString "count", .raw (.ref ac)), (Str.ofString "b", .int 0), (Str.ofString "n", .int 0), (Str.ofString "nt", .int 0)])
    (Ex1_assign3 Ev_int (Asg_name (by walk_at "st") (by walk_at "dr")) (Asg_name (by walk_at "st") (by walk_at "dr")) (Asg_name (by walk_at "st") (by walk_at "dr")) ⟨rfl, rfl, by walk_at "sub"⟩) F₄ (fun _ _ _ p => p.1) ?_
  rintro σ O s₅ F₅ K₅ ⟨_, rfl, hsub⟩
  replace F₅ := F₅.sub hsub.mem
  clear hsub
  have I₅ := I₄.kept F₅ K₅
  have S₅ := S₄.kept K₅
  have hlen : (chars x).length = x.cps.toList.length := by simp [chars]
  have hxl : x.cps.toList.length = x.length := by simp [Str.length]
  have FIN : ∀ σ O (count : List Int) (b n nt : Nat) (ac : Addr) (rest : Owns), O = (ac, zs count) :: rest → (∀ q ∈ rest, flats q.2 = true) → Sub σ [(Str.ofString "self", .raw (.ref a)), (Str.ofString "count", .raw (.ref ac)), (Str.ofString "b", .int b), (Str.ofString "n", .int n), (Str.ofString "nt", .int nt)] → (count, b, n, nt) = wsOf x → count.length ≤ 2 ^ 20 →
      (fun out σ O => out = Out.next ∧ (∃ (ac : Addr) (rest : Owns), O = (ac, zs (wsOf x).1) :: rest ∧ (∀ q ∈ rest, flats q.2 = true) ∧ (wsOf x).1.length ≤ 2 ^ 20 ∧ Sub σ [(Str.ofString "self", .raw (.ref a)), (Str.ofString "count", .raw (.ref ac)), (Str.ofString "b", .int (wsOf x).2.1), (Str.ofString "n", .int (wsOf x).2.2.1), (Str.ofString "nt", .int (wsOf x).2.2.2)]) : Post) .next σ O := by
    rintro σ O count b n nt ac rest rfl hr hs e hl
    rw [← e]
    exact ⟨rfl, ac, rest, rfl, hr, hl, hs⟩
  refine step1 (P := fun out σ O => out = Out.next ∧ (∃ (ac : Addr) (rest : Owns), O = (ac, zs (wsOf x).1) :: rest ∧ (∀ q ∈ rest, flats q.2 = true) ∧ (wsOf x).1.length ≤ 2 ^ 20 ∧ Sub σ [(Str.ofString "self", .raw (.ref a)), (Str.ofString "count", .raw (.ref ac)), (Str.ofString "b", .int (wsOf x).2.1), (Str.ofString "n", .int (wsOf x).2.2.1), (Str.ofString "nt", .int (wsOf x).2.2.2)]))
    (Ex1_for (EvIt_str (Ev_attr (j := 0) (Ev_name (d := .inst 132 [Str.ofString "raw"] [.str x]) (by walk_at "mem")) rfl rfl rfl (by decide) (by rw [h.K]; kernel_rfl) (gk_dict h) (by rw [h.K]; kernel_rfl)))
      (fun i σ O => ∃ (count : List Int) (b n nt : Nat) (ac : Addr) (rest : Owns), O = (ac, zs count) :: rest ∧ (∀ q ∈ rest, flats q.2 = true) ∧ wsGo (x.cps.toList.drop i) count b n nt = wsOf x ∧ count.length ≤ i ∧ b ≤ i ∧
        Sub σ [(Str.ofString "self", .raw (.ref a)), (Str.ofString "S", .str (Str.ofString " ")), (Str.ofString "T", .str (Str.ofString "\t")), (Str.ofString "count", .raw (.ref ac)), (Str.ofString "b", .int b), (Str.ofString "n", .int n), (Str.ofString "nt", .int nt)])
      ⟨[], 0, 0, 0, ac, [], rfl, by simp, rfl, by simp, by simp, (show Sub _ [(Str.ofString "self", .raw (.ref a)), (Str.ofString "S", .str (Str.ofString " ")), (Str.ofString "T", .str (Str.ofString "\t")), (Str.ofString "count", .raw (.ref ac)), (Str.ofString "b", .int 0), (Str.ofString "n", .int 0), (Str.ofString "nt", .int 0)] by walk_at "sub")⟩ ?_ ?_) F₅ (fun _ _ _ p => p.1) ?_
  · rintro wr i d σ O hd ⟨count, b, n, nt, ac, rest, rfl, hr, hgo, hl, hb, hs⟩
    have hil : i < x.cps.toList.length := by have := (List.getElem?_eq_some_iff.mp hd).1; (first | lia | omega)
    have hdrop : x.cps.toList.drop i = x.cps.toList[i] :: x.cps.toList.drop (i + 1) := List.drop_eq_getElem_cons hil
    have hdd : d = .str ⟨#[x.cps.toList[i]]⟩ := by
      simp only [chars, List.getElem?_map, List.getElem?_eq_getElem hil] at hd
      exact (Option.some.inj hd).symm
    rw [hdrop] at hgo
    generalize x.cps.toList[i] = ch at *
    subst hdd
    refine ⟨_, Asg.weak (Asg_name (by walk_at "st") (by walk_at "dr")) hs.mem, ?_⟩
    refine Ex_cons (Ex1_if (EvT_cmp (Ev_name (by walk_at "mem")) (Ev_name (by walk_at "mem")) CmpD_eqs) (fun hc => ?_) (fun hc => ?_))
    · have hch : ch = 32 := by have := sign_eq ch 32; rw [show (Str.ofString " ") = (⟨#[32]⟩ : Str) from rfl, this] at hc; simpa using hc
      refine Ex_cons (Ex1_assign (Ev_bin (Ev_name (by walk_at "mem")) Ev_int BinD_add) (by walk_at "st") (by walk_at "dr") ?_)
      refine Ex_cons (Ex1_assign (Ev_bin (Ev_name (by walk_at "mem")) Ev_int BinD_add) (by walk_at "st") (by walk_at "dr") ?_)
      refine Ex_nil (Ex_nil ⟨count, b + 1, n + 1, nt, ac, rest, rfl, hr, ?_, by (first | lia | omega), by (first | lia | omega), (show Sub _ [(Str.ofString "self", .raw (.ref a)), (Str.ofString "S", .str (Str.ofString " ")), (Str.ofString "T", .str (Str.ofString "\t")), (Str.ofString "count", .raw (.ref ac)), (Str.ofString "b", .int ((b : Int) + 1)), (Str.ofString "n", .int ((n : Int) + 1)), (Str.ofString "nt", .int nt)] by walk_at "sub")⟩)
      rw [wsGo, if_pos hch] at hgo; exact hgo
    have hch : ch ≠ 32 := by have := sign_eq ch 32; rw [show (Str.ofString " ") = (⟨#[32]⟩ : Str) from rfl, this] at hc; simpa using hc
    refine Ex_cons (Ex1_if (EvT_cmp (Ev_name (by walk_at "mem")) (Ev_name (by walk_at "mem")) CmpD_eqs) (fun hc => ?_) (fun hc => ?_))
    · have hch9 : ch = 9 := by have := sign_eq ch 9; rw [show (Str.ofString "\t") = (⟨#[9]⟩ : Str) from rfl, this] at hc; simpa using hc
      rw [wsGo, if_neg hch, if_pos hch9] at hgo
      refine Ex_cons (Ex1_assign (Ev_bin (Ev_name (by walk_at "mem")) Ev_int BinD_add) (by walk_at "st") (by walk_at "dr") ?_)
      refine Ex_cons (Ex1_assign (Ev_bin (Ev_name (by walk_at "mem")) Ev_int BinD_add) (by walk_at "st") (by walk_at "dr") ?_)
      have hzl : (zs count).length = count.length := by simp [zs]
      have hxb : x.length ≤ 1048576 := hx
      refine Ex_cut (fun σ O => ∃ ac rest, O = (ac, zs (wide count b)) :: rest ∧ (∀ q ∈ rest, flats q.2 = true) ∧
        Sub σ [(Str.ofString "self", .raw (.ref a)), (Str.ofString "S", .str (Str.ofString " ")), (Str.ofString "T", .str (Str.ofString "\t")), (Str.ofString "count", .raw (.ref ac)), (Str.ofString "b", .int b), (Str.ofString "n", .int ((n + 1 : Nat) : Int)), (Str.ofString "nt", .int ((nt + 1 : Nat) : Int))])
        (Ex1_if (EvT_cmp (Ev_name (by walk_at "mem")) (Ev_lenO (Ev_globraw (g_len h)) (Ev_name (by walk_at "mem")) (List.mem_cons_self ..) (by (first | lia | omega))) CmpD_ge) (fun hc => ?_) (fun hc => ?_)) ?_
      · have hge : count.length ≤ b := by rw [hzl] at hc; simpa using hc
        refine Ex_cons (Ex1_assignN (EvN_add (EvR.own (Ev_name (by walk_at "mem")) (List.mem_cons_self ..)) (EvR.of (EvN.ev (EvN_mul (ds := [.int 0]) (EvR.of (Ev_list (.cons Ev_int .nil))) (Ev_bin (Ev_bin (Ev_name (by walk_at "mem")) (Ev_lenO (Ev_globraw (g_len h)) (Ev_name (by walk_at "mem")) (List.mem_cons_self ..) (by (first | lia | omega))) BinD_sub) Ev_int BinD_add) (by simp) ?_ ?_))) ?_) (by walk_at "st") (by walk_at "dr") fun ac' => ?_)
        · rw [hzl]; (first | lia | omega)
        · rw [hzl]; simp; (first | lia | omega)
        · rw [hzl]; simp; (first | lia | omega)
        · have e1 : zs count ++ (List.replicate (((b : Int) - ((zs count).length : Int) + 1)).toNat [D.int 0]).flatten = zs (wide count b) := by
            unfold wide
            rw [if_pos hge, zs_append, hzl]
            congr 1
            have : ((b : Int) - (count.length : Int) + 1).toNat = b - count.length + 1 := by (first | lia | omega)
            rw [this]; simp [zs]
          rw [e1]
          refine Ex_nil ⟨ac', (ac, zs count) :: rest, rfl, ?_, ?_⟩
          · intro q hq
            rcases List.mem_cons.mp hq with rfl | hq
            · exact flats_zs _
            · exact hr q hq
          · exact (show Sub _ [(Str.ofString "self", .raw (.ref a)), (Str.ofString "S", .str (Str.ofString " ")), (Str.ofString "T", .str (Str.ofString "\t")), (Str.ofString "count", .raw (.ref ac')), (Str.ofString "b", .int b), (Str.ofString "n", .int ((n : Int) + 1)), (Str.ofString "nt", .int ((nt : Int) + 1))] by walk_at "sub")
      · have hge : ¬ count.length ≤ b := by rw [hzl] at hc; simpa using hc
        refine Ex_nil ⟨ac, rest, by unfold wide; rw [if_neg hge], hr, (show Sub _ [(Str.ofString "self", .raw (.ref a)), (Str.ofString "S", .str (Str.ofString " ")), (Str.ofString "T", .str (Str.ofString "\t")), (Str.ofString "count", .raw (.ref ac)), (Str.ofString "b", .int b), (Str.ofString "n", .int ((n : Int) + 1)), (Str.ofString "nt", .int ((nt : Int) + 1))] by walk_at "sub")⟩
      rintro σ O ⟨ac, rest, rfl, hr, hs⟩
      refine Ex.weak ?_ hs.mem
      have hwl := wide_len (count := count) (b := b)
      have hzw : (zs (wide count b)).length = (wide count b).length := by simp [zs]
      have hget : (zs (wide count b))[b]? = some (.int ((wide count b).getD b 0)) := by
        have : b < (wide count b).length := by (first | lia | omega)
        simp [zs, List.getD, List.getElem?_eq_getElem this]
      refine Ex_cons (Ex1_setO (j := b) (Ev_bin (Ev_itemO (j := b) (List.mem_cons_self ..) (Ev_name (by walk_at "mem")) (Ev_name (by walk_at "mem")) (.inl ⟨by (first | lia | omega), rfl⟩) hget (by (first | lia | omega))) Ev_int BinD_add) (Ev_name (by walk_at "mem")) (Ev_name (by walk_at "mem")) rfl (by (first | lia | omega)) (by (first | lia | omega)) ?_)
      refine Ex_cons (Ex1_assign Ev_int (by walk_at "st") (by walk_at "dr") ?_)
      have e2 : (zs (wide count b)).set b (.int ((wide count b).getD b 0 + 1)) = zs (bump count b) := by
        unfold bump zs; rw [List.map_set]
      refine Ex_nil (Ex_nil (Ex_nil ⟨bump count b, 0, n + 1, nt + 1, ac, rest, ?_, hr, hgo, by rw [bump_len]; (first | lia | omega), by (first | lia | omega), (show Sub _ [(Str.ofString "self", .raw (.ref a)), (Str.ofString "S", .str (Str.ofString " ")), (Str.ofString "T", .str (Str.ofString "\t")), (Str.ofString "count", .raw (.ref ac)), (Str.ofString "b", .int 0), (Str.ofString "n", .int ((n + 1 : Nat) : Int)), (Str.ofString "nt", .int ((nt + 1 : Nat) : Int))] by walk_at "sub")⟩))
      rw [e2]
    · have hch9 : ch ≠ 9 := by have := sign_eq ch 9; rw [show (Str.ofString "\t") = (⟨#[9]⟩ : Str) from rfl, this] at hc; simpa using hc
      rw [wsGo, if_neg hch, if_neg hch9] at hgo
      exact Ex_cons (Ex1_break (FIN _ _ count b n nt ac rest rfl hr (by walk_at "sub") hgo (by (first | lia | omega))))
  · rintro σ O ⟨count, b, n, nt, ac, rest, hO, hr, hgo, hl, hb, hs⟩
    rw [hlen, List.drop_length] at hgo
    exact FIN σ O count b n nt ac rest hO hr (Sub.cons (hs.mem _ (by walk_at "mem")) (Sub.cons (hs.mem _ (by walk_at "mem")) (Sub.cons (hs.mem _ (by walk_at "mem")) (Sub.cons (hs.mem _ (by walk_at "mem")) (Sub.cons (hs.mem _ (by walk_at "mem")) Sub.nil))))) hgo (by (first | lia | omega))
  rintro σ O s₆ F₆ K₆ ⟨_, ac, rest, rfl, hr, hcl, hsub⟩
  replace F₆ := F₆.sub hsub.mem
  clear hsub
  have I₆ := I₅.kept F₆ K₆
  have S₆ := S₅.kept K₆
  have hO : ∀ q ∈ ((ac, zs (wsOf x).1) :: rest), flats q.2 = true := by
    intro q hq
    rcases List.mem_cons.mp hq with rfl | hq
    · exact flats_zs _
    · exact hr q hq
  have hfl : ∀ p ∈ [(Str.ofString "self", D.raw (.ref a)), (Str.ofString "count", .raw (.ref ac)), (Str.ofString "b", .int (wsOf x).2.1), (Str.ofString "n", .int (wsOf x).2.2.1), (Str.ofString "nt", .int (wsOf x).2.2.2)], p.2.flat = true := by simp [D.flat]
  refine step_set F₆ I₆ S₆ (Ev_name (by walk_at "mem")) (Ev_name (by walk_at "mem")) rfl (by decide) hfl hO (by simp) (gk_set h) (gk_over h) (by rw [h.K]; kernel_rfl) (gk_dict h) ?_
  intro s₇ F₇ I₇ S₇
  refine step_set F₇ I₇ S₇ (Ev_name (by walk_at "mem")) (Ev_name (by walk_at "mem")) rfl (by decide) hfl hO (by simp) (gk_set h) (gk_over h) (by rw [h.K]; kernel_rfl) (gk_dict h) ?_
  intro s₈ F₈ I₈ S₈
  have F₉ := F₈.freeze (σ' := [(Str.ofString "self", D.raw (.ref a)), (Str.ofString "count", .list (zs (wsOf x).1)), (Str.ofString "b", .int (wsOf x).2.1)]) (by
    intro q hq
    simp only [List.mem_cons, List.mem_nil_iff, or_false] at hq
    rcases hq with rfl | rfl | rfl
    · exact .inl (by walk_at "mem")
    · exact .inr ⟨rfl, by walk_at "mem"⟩
    · exact .inl (by walk_at "mem"))
  have hfl2 : ∀ p ∈ [(Str.ofString "self", D.raw (.ref a)), (Str.ofString "count", .list (zs (wsOf x).1)), (Str.ofString "b", .int (wsOf x).2.1)], p.2.flat = true := by simp [D.flat, flats_zs]
  have hzc : (zs (wsOf x).1).length = (wsOf x).1.length := by simp [zs]
  refine step_set F₉ I₈.freeze S₈.freeze (Ev_tuple (.cons (Ev_call (Ev_globraw (g_tuple h)) Keep_type (.cons (Ev_name (by walk_at "mem")) .nil) (CallD_tuple_list (by (first | lia | omega)))) (.cons (Ev_name (by walk_at "mem")) .nil))) (Ev_name (by walk_at "mem")) (by simp [D.flat, flats, flats_zs]) (by decide) hfl2 hr (by simp) (gk_set h) (gk_over h) (by rw [h.K]; kernel_rfl) (gk_dict h) ?_
  intro s₁₀ F₁₀ I₁₀ S₁₀
  refine step_set F₁₀ I₁₀ S₁₀ (Ev_cmp (Ev_call (Ev_globraw (g_len h)) Keep_builtin (.cons (Ev_name (by walk_at "mem")) .nil) (CallD_len_list (by (first | lia | omega)))) Ev_int CmpD_le) (Ev_name (by walk_at "mem")) rfl (by decide) hfl2 hr (by simp) (gk_set h) (gk_over h) (by rw [h.K]; kernel_rfl) (gk_dict h) ?_
  intro s₁₁ F₁₁ I₁₁ S₁₁
  refine wpAny_execs_nil (k .next rest s₁₁ rfl (F₁₁.sub (fun p hp => by cases hp)) S₁₁ ?_)
  have V := I₁₁.val
  have e3 : (decide (((zs (wsOf x).1).length : Int) ≤ 1)) = decide ((wsOf x).1.length ≤ 1) := by rw [hzc, Bool.eq_iff_iff]; simp; (first | lia | omega)
  rw [e3] at V
  exact V
end Mine
end
section
open PySem PySem.W PyProof.Rows PySem.Calls PyProof.V PySem.Spec
set_option maxRecDepth 100000
namespace Mine
local macro_rules | `(tactic| walk_at "mem") => `(tactic| with_reducible first | exact List.mem_cons_self .. | (refine List.mem_cons_of_mem _ ?_; walk_at "mem"))
local macro_rules | `(tactic| walk_at "st") => `(tactic| first | exact .inl rfl | exact .inr ⟨rfl, rfl⟩)
local macro_rules | `(tactic| walk_at "dr") => `(tactic| first | exact Drop.nil | (with_reducible apply Drop.hit; walk_at "dr") | (with_reducible apply Drop.miss; (focus decide); walk_at "dr"))
local macro_rules | `(tactic| walk_at "sub") => `(tactic| first | exact Sub.nil | (refine Sub.cons (by walk_at "mem") ?_; walk_at "sub"))
section
variable {c : Cx} {fr : FX} {σ : Store} {O : Owns} {e : Expr} {pos : Pos} {x : Str}
theorem Ev_norm (h : GK c) (he : Ev c fr σ O e (wsD x))
    (hev : eval (.Attribute e (Str.ofString "norm") pos) fr.env = (do let o ← eval e fr.env; standAt pos.atName; let r ← holding [o] (getAttr o (Str.ofString "norm") true); letTemporaryGo e o r; pure r) := by rfl) :
    Ev c fr σ O (.Attribute e (Str.ofString "norm") pos) (.tuple [.tuple (zs (wsOf x).1), .int (wsOf x).2.1]) :=
  Ev_attr (j := 3) (ns := wsNames) (ds := wsVals x (wsOf x)) he rfl rfl rfl (by decide) (by rw [h.K]; kernel_rfl) (gk_dict h) (by rw [h.K]; kernel_rfl) hev
theorem Ev_n (h : GK c) (he : Ev c fr σ O e (wsD x))
    (hev : eval (.Attribute e (Str.ofString "n") pos) fr.env = (do let o ← eval e fr.env; standAt pos.atName; let r ← holding [o] (getAttr o (Str.ofString "n") true); letTemporaryGo e o r; pure r) := by rfl) :
    Ev c fr σ O (.Attribute e (Str.ofString "n") pos) (.int (wsOf x).2.2.1) :=
  Ev_attr (j := 1) (ns := wsNames) (ds := wsVals x (wsOf x)) he rfl rfl rfl (by decide) (by rw [h.K]; kernel_rfl) (gk_dict h) (by rw [h.K]; kernel_rfl) hev
theorem Ev_nt (h : GK c) (he : Ev c fr σ O e (wsD x))
    (hev : eval (.Attribute e (Str.ofString "nt") pos) fr.env = (do let o ← eval e fr.env; standAt pos.atName; let r ← holding [o] (getAttr o (Str.ofString "nt") true); letTemporaryGo e o r; pure r) := by rfl) :
    Ev c fr σ O (.Attribute e (Str.ofString "nt") pos) (.int (wsOf x).2.2.2) :=
  Ev_attr (j := 2) (ns := wsNames) (ds := wsVals x (wsOf x)) he rfl rfl rfl (by decide) (by rw [h.K]; kernel_rfl) (gk_dict h) (by rw [h.K]; kernel_rfl) hev
theorem Ev_simple (h : GK c) (he : Ev c fr σ O e (wsD x))
    (hev : eval (.Attribute e (Str.ofString "is_simple") pos) fr.env = (do let o ← eval e fr.env; standAt pos.atName; let r ← holding [o] (getAttr o (Str.ofString "is_simple") true); letTemporaryGo e o r; pure r) := by rfl) :
    Ev c fr σ O (.Attribute e (Str.ofString "is_simple") pos) (.bool (decide ((wsOf x).1.length ≤ 1))) :=
  Ev_attr (j := 4) (ns := wsNames) (ds := wsVals x (wsOf x)) he rfl rfl rfl (by decide) (by rw [h.K]; kernel_rfl) (gk_dict h) (by rw [h.K]; kernel_rfl) hev
theorem EvIt_rng {f : Str} {np : Pos} {e1 e2 : Expr} {a b : Int} (hf : Ev c fr σ O (.Name f np) (.raw (.type "range"))) (h1 : Ev c fr σ O e1 (.int a)) (h2 : Ev c fr σ O e2 (.int b)) (ha : -(2 ^ 61) ≤ a) (ha' : a < 2 ^ 61) (hb : -(2 ^ 61) ≤ b) (hb' : b < 2 ^ 61)
    (hs : noStar [e1, e2] = true := by rfl) : EvIt c fr σ O (.Call (.Name f np) [e1, e2] [] pos) (rng a 1 (b - a).toNat) :=
  EvIt_range (Ev_call hf Keep_type (.cons h1 (.cons h2 .nil)) CallD_range2 hs) (small_one (by (first | lia | omega)) (by (first | lia | omega)) (by (first | lia | omega)) (by (first | lia | omega))) (rangeSize_nat a b)
end
theorem g_range {c : Cx} (h : GK c) : GlobIs c (Str.ofString "range") (.type "range") := h.bl (by kernel_rfl) (by kernel_rfl)
theorem g_max {c : Cx} (h : GK c) : GlobIs c (Str.ofString "max") (.builtin "max") := h.bl (by kernel_rfl) (by kernel_rfl)
def longest (x : Str) : Nat := max ((wsOf x).1.length - 1) (wsOf x).2.1
def ilGo (ts : Nat) (count : List Int) (k : Nat) : Int := ((List.range k).map fun i => (((ts + i) / ts : Nat) : Int) * count.getD (ts + i) 0).sum
def level (x : Str) (ts : Nat) : Int := (wsOf x).2.1 + ts * (ilGo ts (wsOf x).1 ((wsOf x).1.length - ts) + (wsOf x).2.2.2)
theorem ilGo_succ {ts k : Nat} {count : List Int} : ilGo ts count (k + 1) = ilGo ts count k + (((ts + k) / ts : Nat) : Int) * count.getD (ts + k) 0 := by
  unfold ilGo; rw [List.range_succ, List.map_append, List.sum_append]; simp
set_option maxHeartbeats 4000000 in
theorem cs_level {c : Cx} (h : GK c) (x : Str) (ts : Nat) (h1 : 1 ≤ ts) (ht : ts ≤ 2 ^ 20) (hl : (wsOf x).1.length ≤ 2 ^ 20) : CallSpec c (.ref 101) 2 [wsD x, .int ts] (.int (level x ts)) := by
  refine call_def (n := 1) (xs := [Str.ofString "self", Str.ofString "tabsize"]) (h.at (by rfl)) rfl rfl rfl rfl rfl ⟨_, _, _, _, rfl, h.at (by rfl), rfl, rfl⟩ rfl rfl rfl (len2 fun _ _ => rfl) (by decide) rfl (by decide) (noFree (by decide)) ?_
  intro L A out own hA
  dsimp only [List.zip, List.zipWith]
  refine Ex_cons (Ex1_assignT (Ev_norm h (Ev_name (by walk_at "mem"))) (Asg_tuple rfl (.cons (Asg_name (by walk_at "st") (by walk_at "dr")) (.cons (Asg_name (by walk_at "st") (by walk_at "dr")) .nil))) ?_)
  have hz : (zs (wsOf x).1).length = (wsOf x).1.length := by simp [zs]
  refine Ex_cons (Ex1_assign Ev_int (by walk_at "st") (by walk_at "dr") ?_)
  refine Ex_cons (Ex1_for (EvIt_rng (Ev_globraw (g_range h)) (Ev_name (by walk_at "mem")) (Ev_call (Ev_globraw (g_len h)) Keep_builtin (.cons (Ev_name (by walk_at "mem")) .nil) (CallD_len_tuple (by (first | lia | omega)))) (by (first | lia | omega)) (by (first | lia | omega)) (by (first | lia | omega)) (by (first | lia | omega)))
    (fun i σ O => O = [] ∧ Sub σ [(Str.ofString "self", wsD x), (Str.ofString "tabsize", .int ts), (Str.ofString "count", .tuple (zs (wsOf x).1)), (Str.ofString "trailing", .int (wsOf x).2.1), (Str.ofString "il", .int (ilGo ts (wsOf x).1 i))]) ⟨rfl, (show Sub _ [(Str.ofString "self", wsD x), (Str.ofString "tabsize", .int ts), (Str.ofString "count", .tuple (zs (wsOf x).1)), (Str.ofString "trailing", .int (wsOf x).2.1), (Str.ofString "il", .int 0)] by walk_at "sub")⟩ ?_ ?_)
  · rintro wr i d σ O hd ⟨rfl, hs⟩
    have hil : i < (((zs (wsOf x).1).length : Int) - ts).toNat := by have := (List.getElem?_eq_some_iff.mp hd).1; simpa [rng] using this
    have hdd : d = .int ((ts + i : Nat) : Int) := by
      simp only [rng, List.getElem?_map, List.getElem?_range hil] at hd
      have := Option.some.inj hd
      rw [← this]; show D.int ((ts : Int) + (i : Int) * 1) = _; rw [Int.mul_one, Int.natCast_add]
    subst hdd
    rw [hz] at hil
    refine ⟨_, Asg.weak (Asg_name (by walk_at "st") (by walk_at "dr")) hs.mem, ?_⟩
    have hget : (zs (wsOf x).1)[ts + i]? = some (.int ((wsOf x).1.getD (ts + i) 0)) := by
      have : ts + i < (wsOf x).1.length := by (first | lia | omega)
      simp [zs, List.getD, List.getElem?_eq_getElem this]
    have hdiv : ((ts + i : Nat) : Int).fdiv ts = (((ts + i) / ts : Nat) : Int) := by
      rw [Int.fdiv_eq_ediv_of_nonneg _ (by (first | lia | omega))]; rfl
    have hq : (ts + i) / ts ≤ 2 ^ 20 := Nat.le_trans (Nat.div_le_self _ _) (by (first | lia | omega))
    have hq' : (((ts + i) / ts : Nat) : Int) < 2 ^ 64 := by
      generalize (ts + i) / ts = q at hq
      (first | lia | omega)
    refine Ex_cons (Ex1_assign (Ev_bin (Ev_name (by walk_at "mem")) (Ev_bin (Ev_bin (Ev_name (by walk_at "mem")) (Ev_name (by walk_at "mem")) (BinD_floordiv (by (first | lia | omega)) (pylong_small (k := 21) (by (first | lia | omega)) (by decide)))) (Ev_itemT (j := ts + i) (Ev_name (by walk_at "mem")) (Ev_name (by walk_at "mem")) (.inl ⟨by (first | lia | omega), rfl⟩) hget (by (first | lia | omega))) (BinD_mul (IntMulOk.of_left (by rw [hdiv]; exact bits_le' (Int.natCast_nonneg _) hq')))) BinD_add) (by walk_at "st") (by walk_at "dr") ?_)
    rw [hdiv, ← ilGo_succ]
    exact Ex_nil ⟨rfl, by walk_at "sub"⟩
  · rintro σ O ⟨rfl, hs⟩
    have hr : (rng (ts : Int) 1 (((zs (wsOf x).1).length : Int) - ts).toNat).length = (wsOf x).1.length - ts := by simp only [rng, List.length_map, List.length_range, hz]; (first | lia | omega)
    rw [hr] at hs
    refine Ex.weak ?_ hs.mem
    refine Ex_cons (Ex1_ret (Ev_bin (Ev_name (by walk_at "mem")) (Ev_bin (Ev_name (by walk_at "mem")) (Ev_bin (Ev_name (by walk_at "mem")) (Ev_nt h (Ev_name (by walk_at "mem"))) BinD_add) (BinD_mul (IntMulOk.of_left (bits_le' (by (first | lia | omega)) (by (first | lia | omega)))))) BinD_add) (rfl : (_ : D) = _))
end Mine
end
section
open PySem PySem.W PyProof.Rows PySem.Calls PyProof.V PySem.Spec
namespace Mine
section
variable {c : Cx} {fr : FX} {σ σ' : Store} {O O' : Owns} {s s' : Shared} {a : Addr} {ds ds' es : List D}
theorem flat_one : ∀ vs : List D, (vs.map fun v => [v]).flatten = vs
  | [] => rfl
  | v :: r => by simp only [List.map_cons, List.flatten_cons, flat_one r]; rfl
theorem Ex1_eachC {elt iter : Expr} {x y : Str} {tp xp : Pos} {scope : Scope} {pos ap : Pos} {P : Post} (σc : Store) (f : D → D) (hi : EvIt c fr σ O iter ds) (hs : CompSyn fr scope σ σc iter) (hz : ds.length ≤ 2 ^ 24)
    (turn : ∀ L cs out own wr (d : D), d ∈ ds → ∀ acc pre, Storable ((compFr fr scope L cs out own).push wr) x ∧ Drop x σc σc ∧ Ev c ((compFr fr scope L cs out own).push wr) ((x, d) :: σc) [(acc, pre)] elt (f d))
    (hx : Storable fr y) (hd : Drop y σ σ') (k : P .next ((y, .list (ds.map f)) :: σ') O)
    (hw : swapsWith (.ListComp elt [⟨.Name x tp, iter, [], 0⟩] scope pos) (some (.Name y xp)) ap.line fr.env = pure true := by rfl) :
    Ex1 c fr σ O (.Assign [.Name y xp] (.ListComp elt [⟨.Name x tp, iter, [], 0⟩] scope pos) ap) P := by
  refine Ex1_assignC (outs := (ds.map f).map fun v => [v]) hi hs (fun I acc env => turn_eq1 _ _ _ _ _ _ _ _ _) (ok1 (fun d => (x, d) :: σc) (fun _ => true) _ (by simp) (by rw [flat_one]; simpa using hz) (fun d q hq => List.mem_cons_of_mem _ hq) ?_) hx hd ?_ hw
  · intro L cs out own wr i d o hd ho acc pre
    rw [List.getElem?_map, List.getElem?_map, hd] at ho
    cases ho
    obtain ⟨h1, h2, h3⟩ := turn L cs out own wr d (List.mem_of_getElem? hd) acc pre
    exact ⟨Asg_name h1 h2, .nil, fun _ => ⟨_, rfl, h3⟩, fun h => by cases h⟩
  · rw [flat_one]; exact k
theorem ok_those {elt iter t : Expr} {x : Str} {tp : Pos} {scope : Scope} {pos : Pos} (σc : Store) (B : D → Bool) (hz : ds.length ≤ 2 ^ 24)
    (turn : ∀ L cs out own wr (d : D), d ∈ ds → ∀ acc pre, Storable ((compFr fr scope L cs out own).push wr) x ∧ Drop x σc σc ∧ EvT c ((compFr fr scope L cs out own).push wr) ((x, d) :: σc) [(acc, pre)] t (B d) ∧ Ev c ((compFr fr scope L cs out own).push wr) ((x, d) :: σc) [(acc, pre)] elt d) :
    CompOk c fr σc (.Name x tp) [t] (emit1 elt) ds (ds.map fun d => if B d then [d] else []) scope elt [⟨.Name x tp, iter, [t], 0⟩] pos := by
  refine ok1 (fun d => (x, d) :: σc) B _ (by simp) ?_ (fun d q hq => List.mem_cons_of_mem _ hq) ?_
  · refine Nat.le_trans ?_ hz
    clear turn
    induction ds with
    | nil => simp
    | cons d r ih =>
      rw [List.map_cons, List.flatten_cons, List.length_append, List.length_cons]
      have h1 := ih (by simp at hz; (first | lia | omega))
      have h2 : (if B d then [d] else ([] : List D)).length ≤ 1 := by split <;> simp
      (first | lia | omega)
  · intro L cs out own wr i d o hd ho acc pre
    rw [List.getElem?_map, hd] at ho
    cases ho
    obtain ⟨h1, h2, h3, h4⟩ := turn L cs out own wr d (List.mem_of_getElem? hd) acc pre
    refine ⟨Asg_name h1 h2, .one h3, fun h => ⟨d, by simp [h], h4⟩, fun h => by simp [h]⟩
theorem flat_filter (B : D → Bool) : ∀ ds : List D, (ds.map fun d => if B d then [d] else []).flatten = ds.filter B
  | [] => rfl
  | d :: r => by
    rw [List.map_cons, List.flatten_cons, flat_filter B r, List.filter_cons]
    split <;> rfl
end
end Mine
end
section
open PySem PySem.W PyProof.Rows PySem.Calls PyProof.V PySem.Spec
namespace Mine
theorem well_ints {P : Params} {h : Heap} {p : Addr → Prop} : ∀ {vs : List Value} {ns : List Int}, WellAll P h vs (ofPys (ns.map PyData.int)) → Vals p h (zs ns) vs
  | vs, [], x => by
    cases x; exact Vals.nil
  | vs, n :: ns, x => by
    cases x with
    | cons a b =>
      cases a with
      | int i t => exact Vals.cons (by simp only [Val]; exact ⟨t, rfl⟩) (well_ints b)
theorem enter_law {prog : Program} {w : World} {K : Frag} {s₁ : Shared} {mg mb : Str → Option Value} {p : Program} {loose : List Str} {mean : ExcName → Option Value} {tabs : List (Addr × Addr)} {l f : Addr} {ns : List Int} {n : Nat} {b : Bool} {P : Params} {R : Result → Shared → Prop}
    (tq : Addr → Nat → Nat → Str) (T : Top p loose mean mg mb s₁.heap) (hT : TabsAt tabs s₁.heap) (KX : K.In s₁.heap) (hK : noTabs K = true) (hg : s₁.gens = #[]) (w1 : Well P s₁.heap (.ref l) (ofPy (.list (ns.map PyData.int))))
    (hn : n ≤ 500) (spec : ∀ c : Cx, c.prog = prog → c.w = w → c.K = K → c.tabs = tabs → c.tq = tq → CallSpec c (.ref f) n [.list (zs ns)] (.bool b))
    (k : ∀ s', (∀ b o, (ghostOf s₁.heap tabs).get? b = some o → s'.heap.get? b = some o) → s'.os = s₁.os → s'.gens = #[] → GrownAll tabs s'.heap → R (.ok (.ret (.bool b))) s') : codeAny (model prog w) callerA (.call (.ref f) ⟨[.ref l], []⟩) R s₁ := by
  have T' := ghost_top hT T
  have hcode : ∀ q ∈ tabs, CodeHd (ghostOf s₁.heap tabs) q.1 q.2 := fun q hq => by
    have : ∀ {ts : List (Addr × Addr)} {h : Heap}, CodeAll ts h → ∀ q ∈ ts, CodeHd h q.1 q.2 := by
      intro ts h
      induction ts with
      | nil => intro _ q hq; cases hq
      | cons t r ih =>
        intro x q hq
        rcases List.mem_cons.mp hq with rfl | hq
        · exact x.1
        · exact ih x.2 q hq
    exact this (ghost_code hT) q hq
  let c : Cx := { prog := prog, w := w, K := K, hw := ghostOf s₁.heap tabs, mg := mg, mb := mb, p := _, loose := _, tabs := tabs, os := s₁.os, tq := tq, KX := ghost_K hT KX hK, T := topRead_of T', tab0 := fun q hq => hideAll_none _ (List.mem_map_of_mem hq), code := hcode, bm := T'.bmain }
  have W : WI c s₁ := ⟨fun a o e => of_hideAll _ e, fun q hq => ⟨#[], (hT q hq).2, by
    refine ⟨by simp [TriplesOk], fun pos cv e => ?_⟩
    simp [codeAmong] at e⟩, hg, rfl⟩
  have V : Vals (avo c (fun _ => False)) s₁.heap [.list (zs ns)] [.ref l] := by
    cases w1 with
    | list e ws =>
      refine Vals.one ?_
      simp only [Val]
      refine ⟨l, _, _, rfl, ?_, e, by simpa using well_ints ws⟩
      rintro (q | q)
      · exact q
      · obtain ⟨t, ht, rfl⟩ := List.mem_map.mp q
        have := (hT t ht).2
        rw [e] at this; cases this
  refine spec c rfl rfl rfl rfl rfl callerA (fun _ => False) s₁ [.ref l] rfl (by decide) (by
    show 1 + claimMargin + n ≤ 900
    have : claimMargin = 300 := rfl
    (first | lia | omega)) W (fun a h => h.elim) V R fun v s' W' hk V' => ?_
  simp only [Val] at V'
  subst V'
  refine k s' (fun a o e => W'.keep a o e) W'.os W'.gens ?_
  have : ∀ ts : List (Addr × Addr), (∀ q ∈ ts, q ∈ tabs) → GrownAll ts s'.heap := by
    intro ts
    induction ts with
    | nil => intro _; trivial
    | cons t r ih =>
      intro h
      refine ⟨?_, ih fun q hq => h q (List.mem_cons_of_mem _ hq)⟩
      obtain ⟨ps, e, _⟩ := W'.tab t (h t (List.mem_cons_self ..))
      exact ⟨ps, e⟩
  exact this tabs fun q hq => hq
end Mine
end
section
open PySem PySem.W PyProof.Rows PySem.Calls PyProof.V PySem.Spec
namespace Mine
section
variable {c : Cx} {fr : FX} {σ σ' : Store} {O O' : Owns} {s s' : Shared} {a : Addr} {ds ds' es : List D}
theorem ok_each2 {elt t iter iter1 : Expr} {y : Str} {tq : Pos} {scope : Scope} {pos : Pos} (σc : Store) (S : D → Store) (f : D → List D) (g : D → D → D)
    (hz : (ds.map fun d => (f d).map (g d)).flatten.length ≤ 2 ^ 24) (hS : ∀ d, ∀ q ∈ σc, q ∈ S d)
    (turn : ∀ L cs out own wr (d : D), d ∈ ds → ∀ acc pre, Asg c ((compFr fr scope L cs out own).push wr) σc [(acc, pre)] t d (S d) ∧ EvIt c ((compFr fr scope L cs out own).push wr) (S d) [(acc, pre)] iter1 (f d) ∧
      ∀ wr' (d' : D), d' ∈ f d → Storable (((compFr fr scope L cs out own).push wr).push wr') y ∧ Drop y (S d) (S d) ∧ Ev c (((compFr fr scope L cs out own).push wr).push wr') ((y, d') :: S d) [(acc, pre)] elt (g d d'))
    (hf : ∀ env x, foldedSetIterable iter1 env x = pure x) :
    CompOk c fr σc t [] (emit2 (.ListComp elt [⟨t, iter, [], 0⟩, ⟨.Name y tq, iter1, [], 0⟩] scope pos) iter1) ds (ds.map fun d => (f d).map (g d)) scope elt [⟨t, iter, [], 0⟩, ⟨.Name y tq, iter1, [], 0⟩] pos := by
  have eg : ∀ {i : Nat} {d : D}, ds[i]? = some d → ds.getD i .none = d := fun h => by rw [List.getD_eq_getElem?_getD, h]; rfl
  refine ⟨by simp, hz, fun L cs out own acc wr I => ⟨fun i => S (ds.getD i .none), fun _ => true, fun i => hS _, fun i d hd pre => ?_, fun i d hd pre => .nil, fun i d o hd ho _ => ?_, fun i o ho hb => by cases hb⟩⟩
  · simp only [eg hd]
    exact (turn L cs out own wr d (List.mem_of_getElem? hd) acc pre).1
  · simp only [eg hd]
    rw [List.getElem?_map, hd] at ho
    cases ho
    have hm := List.mem_of_getElem? hd
    have := Emits_in (c := c) (fr := (compFr fr scope L cs out own).push wr) (σ := S d) (elt := elt) (it1 := iter1) (t1 := .Name y tq) (gens := [⟨t, iter, [], 0⟩, ⟨.Name y tq, iter1, [], 0⟩]) (ifs1 := []) (scope := scope) (pos := pos) (acc := acc) (g := ⟨.Name y tq, iter1, [], 0⟩) (ds := f d)
      (cd := .compLoop (.ListComp elt [⟨t, iter, [], 0⟩, ⟨.Name y tq, iter1, [], 0⟩] scope pos) 0 (.ref I) (.ref acc) (compFr fr scope L cs out own).env) rfl rfl (fun it => turn_eq21 _ _ _ _ _ _ _ _ _ _ _ _) (hf _) (fun pre => (turn L cs out own wr d hm acc pre).2.1)
      (((f d).map (g d)).map fun v => [v]) (by simp) (fun i => (y, (f d).getD i .none) :: S d) (fun _ => true) (fun i q hq => List.mem_cons_of_mem _ hq)
      (fun wr' i d' hd' pre => by
        have e2 : (f d).getD i .none = d' := by rw [List.getD_eq_getElem?_getD, hd']; rfl
        simp only [e2]
        obtain ⟨h1, h2, _⟩ := (turn L cs out own wr d hm acc pre).2.2 wr' d' (List.mem_of_getElem? hd')
        exact Asg_name h1 h2)
      (fun wr' i d' hd' pre => .nil)
      (fun wr' i d' o hd' ho _ => by
        have e2 : (f d).getD i .none = d' := by rw [List.getD_eq_getElem?_getD, hd']; rfl
        rw [List.getElem?_map, List.getElem?_map, hd'] at ho
        cases ho
        simp only [e2]
        exact ⟨_, rfl, fun pre => ((turn L cs out own wr d hm acc pre).2.2 wr' d' (List.mem_of_getElem? hd')).2.2⟩)
      (fun i o ho hb => by cases hb)
    rw [flat_one] at this
    exact this
theorem EvN_each2 {elt t iter iter1 : Expr} {y : Str} {tq : Pos} {scope : Scope} {pos : Pos} (σc : Store) (S : D → Store) (f : D → List D) (g : D → D → D) (hi : EvIt c fr σ O iter ds) (hs : CompSyn fr scope σ σc iter)
    (hz : (ds.map fun d => (f d).map (g d)).flatten.length ≤ 2 ^ 24) (hS : ∀ d, ∀ q ∈ σc, q ∈ S d)
    (turn : ∀ L cs out own wr (d : D), d ∈ ds → ∀ acc pre, Asg c ((compFr fr scope L cs out own).push wr) σc [(acc, pre)] t d (S d) ∧ EvIt c ((compFr fr scope L cs out own).push wr) (S d) [(acc, pre)] iter1 (f d) ∧
      ∀ wr' (d' : D), d' ∈ f d → Storable (((compFr fr scope L cs out own).push wr).push wr') y ∧ Drop y (S d) (S d) ∧ Ev c (((compFr fr scope L cs out own).push wr).push wr') ((y, d') :: S d) [(acc, pre)] elt (g d d'))
    (hf : ∀ env x, foldedSetIterable iter1 env x = pure x := by intro env x; rfl) :
    EvN c fr σ O (.ListComp elt [⟨t, iter, [], 0⟩, ⟨.Name y tq, iter1, [], 0⟩] scope pos) (ds.map fun d => (f d).map (g d)).flatten :=
  comp_newList (emit := emit2 (.ListComp elt [⟨t, iter, [], 0⟩, ⟨.Name y tq, iter1, [], 0⟩] scope pos) iter1) hi hs (fun I acc env => turn_eq20 _ _ _ _ _ _ _ _ _ _ _ _) (ok_each2 σc S f g hz hS turn hf)
theorem Ex1_each2 {elt t iter iter1 : Expr} {y : Str} {tq : Pos} {scope : Scope} {pos ap xp : Pos} {x : Str} {P : Post} (σc : Store) (S : D → Store) (f : D → List D) (g : D → D → D) (hi : EvIt c fr σ O iter ds) (hs : CompSyn fr scope σ σc iter)
    (hz : (ds.map fun d => (f d).map (g d)).flatten.length ≤ 2 ^ 24) (hS : ∀ d, ∀ q ∈ σc, q ∈ S d)
    (turn : ∀ L cs out own wr (d : D), d ∈ ds → ∀ acc pre, Asg c ((compFr fr scope L cs out own).push wr) σc [(acc, pre)] t d (S d) ∧ EvIt c ((compFr fr scope L cs out own).push wr) (S d) [(acc, pre)] iter1 (f d) ∧
      ∀ wr' (d' : D), d' ∈ f d → Storable (((compFr fr scope L cs out own).push wr).push wr') y ∧ Drop y (S d) (S d) ∧ Ev c (((compFr fr scope L cs out own).push wr).push wr') ((y, d') :: S d) [(acc, pre)] elt (g d d'))
    (hx : Storable fr x) (hd : Drop x σ σ') (k : P .next ((x, .list (ds.map fun d => (f d).map (g d)).flatten) :: σ') O)
    (hf : ∀ env x, foldedSetIterable iter1 env x = pure x := by intro env x; rfl)
    (hw : swapsWith (.ListComp elt [⟨t, iter, [], 0⟩, ⟨.Name y tq, iter1, [], 0⟩] scope pos) (some (.Name x xp)) ap.line fr.env = pure true := by rfl) :
    Ex1 c fr σ O (.Assign [.Name x xp] (.ListComp elt [⟨t, iter, [], 0⟩, ⟨.Name y tq, iter1, [], 0⟩] scope pos) ap) P :=
  Ex1_assignC (emit := emit2 (.ListComp elt [⟨t, iter, [], 0⟩, ⟨.Name y tq, iter1, [], 0⟩] scope pos) iter1) hi hs (fun I acc env => turn_eq20 _ _ _ _ _ _ _ _ _ _ _ _) (ok_each2 σc S f g hz hS turn hf) hx hd k hw
end
end Mine
end
section
namespace Mine.G1
structure ZOk (s : Nat) (z : Rat) : Prop where
  s1 : 1 ≤ s
  s6 : s ≤ 6
  z0 : 0 < z
  zs : 65536 * z ≤ 1
theorem rpow_pos {z : Rat} (h : 0 < z) : ∀ n : Nat, 0 < z ^ n
  | 0 => by rw [Rat.pow_zero]; decide
  | n + 1 => by rw [Rat.pow_succ]; exact Rat.mul_pos (rpow_pos h n) h
theorem rpow_add (z : Rat) (m : Nat) : ∀ n : Nat, z ^ (m + n) = z ^ m * z ^ n
  | 0 => by rw [Rat.pow_zero, Nat.add_zero, Rat.mul_one]
  | n + 1 => by rw [← Nat.add_assoc, Rat.pow_succ, Rat.pow_succ, rpow_add z m n, Rat.mul_assoc]
theorem rmul_le {a b c : Rat} (h : a ≤ b) (hc : 0 ≤ c) : a * c ≤ b * c := Rat.mul_le_mul_of_nonneg_right h hc
theorem rpow_le1 {z : Rat} (h : 0 < z) (h1 : z ≤ 1) : ∀ n : Nat, z ^ n ≤ 1
  | 0 => by rw [Rat.pow_zero]; exact Rat.le_refl
  | n + 1 => by
    rw [Rat.pow_succ]
    have := rpow_le1 h h1 n
    have a := rmul_le this (Rat.le_of_lt h)
    grind
theorem rpow_anti {z : Rat} (h : 0 < z) (h1 : z ≤ 1) {m n : Nat} (hm : m ≤ n) : z ^ n ≤ z ^ m := by
  obtain ⟨k, rfl⟩ := Nat.le.dest hm
  rw [rpow_add]
  have a := rmul_le (rpow_le1 h h1 k) (Rat.le_of_lt (rpow_pos h m))
  grind
def Kz (s : Nat) (z : Rat) (r : Nat) : Rat := z ^ (s * (r / s + 1))
def Lz (s : Nat) (z : Rat) : Nat → Rat
  | 0 => 0
  | m + 1 => Lz s z m + Kz s z m
def Bz (s : Nat) (z : Rat) : Rat := (s : Rat) * z ^ s / (1 - z ^ s)
def Tz (s : Nat) (z : Rat) (r : Nat) : Rat := Bz s z - Lz s z r
section
variable {s : Nat} {z : Rat} (h : ZOk s z)
include h
theorem ZOk.le1 : z ≤ 1 := by have := h.zs; have := h.z0; grind
theorem ZOk.u0 : 0 < z ^ s := rpow_pos h.z0 s
theorem ZOk.uz : z ^ s ≤ z := by have := rpow_anti h.z0 h.le1 h.s1; rwa [Rat.pow_one] at this
theorem ZOk.u1 : 1 - z ^ s ≠ 0 := by have := h.uz; have := h.zs; have := h.z0; grind
theorem ZOk.s6r : (s : Rat) ≤ 6 := by have := h.s6; exact_mod_cast this
theorem ZOk.s1r : 1 ≤ (s : Rat) := by have := h.s1; exact_mod_cast this
theorem ZOk.bz : Bz s z * (1 - z ^ s) = s * z ^ s := Rat.div_mul_cancel h.u1
theorem ZOk.bz0 : 0 < Bz s z := by
  have e := h.bz
  have u0 := h.u0
  have a := Rat.mul_pos (show (0 : Rat) < s from by have := h.s1r; grind) u0
  rw [← e] at a
  have := h.uz; have := h.zs; have := h.z0
  refine Decidable.byContradiction fun n => ?_
  have b := rmul_le (show Bz s z ≤ 0 from by grind) (show 0 ≤ 1 - z ^ s from by grind)
  grind
theorem ZOk.bz7 : Bz s z ≤ 7 * z ^ s := by
  have e := h.bz
  have u0 := h.u0; have b0 := h.bz0
  have := h.uz; have := h.zs; have := h.z0
  have s6 := rmul_le h.s6r (Rat.le_of_lt u0)
  have bu := rmul_le (show z ^ s ≤ 1 / 65536 from by grind) (Rat.le_of_lt b0)
  grind
theorem Tz_succ (r : Nat) : Tz s z r = Kz s z r + Tz s z (r + 1) := by unfold Tz; rw [Lz]; grind
theorem Kz_eq (r : Nat) : Kz s z r = z ^ (s * (r / s)) * z ^ s := by
  unfold Kz; rw [← rpow_add]; congr 1
theorem Tz_eq : ∀ r : Nat, Tz s z r = z ^ (s * (r / s)) * (Bz s z - ((r % s : Nat) : Rat) * z ^ s)
  | 0 => by
    simp only [Nat.zero_div, Nat.mul_zero, Nat.zero_mod, Rat.pow_zero]
    show Bz s z - 0 = _
    grind
  | r + 1 => by
    have ih := Tz_eq r
    rw [Tz_succ h r, Kz_eq h] at ih
    have s1 := h.s1
    have e := h.bz
    by_cases c : r % s + 1 = s
    · have d : (r + 1) / s = r / s + 1 ∧ (r + 1) % s = 0 := by
        have q := Nat.div_add_mod r s
        have : r + 1 = (r / s + 1) * s := by rw [Nat.add_mul, Nat.one_mul, Nat.mul_comm]; (first | lia | omega)
        rw [this]
        exact ⟨Nat.mul_div_cancel _ s1, Nat.mul_mod_left ..⟩
      rw [d.1, d.2]
      have c' : ((r % s : Nat) : Rat) + 1 = (s : Rat) := by exact_mod_cast c
      rw [show s * (r / s + 1) = s * (r / s) + s from by rw [Nat.mul_add, Nat.mul_one], rpow_add]
      grind
    · have m := Nat.mod_lt r s1
      have d : (r + 1) / s = r / s ∧ (r + 1) % s = r % s + 1 := by
        have q := Nat.div_add_mod r s
        have e1 : r + 1 = (r % s + 1) + s * (r / s) := by (first | lia | omega)
        constructor
        · rw [e1, Nat.add_mul_div_left _ _ s1, Nat.div_eq_of_lt (by (first | lia | omega)), Nat.zero_add]
        · rw [e1, Nat.add_mul_mod_self_left, Nat.mod_eq_of_lt (by (first | lia | omega))]
      rw [d.1, d.2]
      have c' : ((r % s + 1 : Nat) : Rat) = ((r % s : Nat) : Rat) + 1 := by exact_mod_cast rfl
      rw [c']
      grind
theorem Tz_nonneg (r : Nat) : 0 ≤ Tz s z r := by
  rw [Tz_eq h]
  refine Rat.mul_nonneg (Rat.le_of_lt (rpow_pos h.z0 _)) ?_
  have m := Nat.mod_lt r h.s1
  have m' : ((r % s : Nat) : Rat) ≤ (s : Rat) := by exact_mod_cast Nat.le_of_lt m
  have a := rmul_le m' (Rat.le_of_lt h.u0)
  have e := h.bz
  have b := Rat.mul_nonneg (Rat.le_of_lt h.bz0) (Rat.le_of_lt h.u0)
  grind
theorem Kz_le (r : Nat) : Kz s z r ≤ z ^ (r + 1) := by
  unfold Kz
  refine rpow_anti h.z0 h.le1 ?_
  have q := Nat.div_add_mod r s
  have m := Nat.mod_lt r h.s1
  rw [Nat.mul_add, Nat.mul_one]; (first | lia | omega)
theorem Kz_pos (r : Nat) : 0 < Kz s z r := rpow_pos h.z0 _
theorem Tz_le (r : Nat) : Tz s z r ≤ 7 * z ^ (r + 1) := by
  have k := Kz_le h r
  rw [Kz_eq h] at k
  rw [Tz_eq h]
  have p := Rat.le_of_lt (rpow_pos h.z0 (s * (r / s)))
  have m' : (0 : Rat) ≤ ((r % s : Nat) : Rat) := by exact_mod_cast Nat.zero_le _
  have a := Rat.mul_nonneg m' (Rat.le_of_lt h.u0)
  have b := h.bz7
  have c := rmul_le (show Bz s z - ((r % s : Nat) : Rat) * z ^ s ≤ 7 * z ^ s from by grind) p
  grind
theorem Lz_lt (m : Nat) : Lz s z m ≤ Bz s z := by have := Tz_nonneg h m; unfold Tz at this; grind
theorem bz_small : 8192 * Bz s z ≤ 1 := by
  have := h.bz7; have := h.uz; have := h.zs; have := h.z0
  grind
theorem Lz_nonneg : ∀ m : Nat, 0 ≤ Lz s z m
  | 0 => by rw [Lz]; exact Rat.le_refl
  | m + 1 => by rw [Lz]; have := Lz_nonneg m; have := Kz_pos h m; grind
end
end Mine.G1
end
section
namespace Mine.G1
structure PP where
  s : Nat
  b : Nat
  l : Option Nat
  dots : Bool
  ms : List Nat
inductive Ph where
  | dead
  | ex (f : Nat) (fs : List Nat)
  | fini
  | mid (m : Nat) (ms : List Nat)
  | fin (g : Bool)
def mids : List Nat → Ph
  | [] => .fin false
  | m :: ms => .mid m ms
def PP.start (P : PP) : List Nat → Ph
  | [] => if P.dots then mids P.ms else .fini
  | f :: fs => .ex f fs
def PP.good (P : PP) (r : Nat) : Bool := match P.l with
  | none => false
  | some l => decide (l ≤ r)
def PP.nx (P : PP) : Ph → Nat → Ph
  | .dead, _ => .dead
  | .ex f fs, r => if r = f then P.start fs else .dead
  | .fini, _ => .dead
  | .mid m ms, r => if m ≤ r then mids ms else .mid m ms
  | .fin _, r => .fin (P.good r)
def PP.acc (P : PP) : Ph → Nat → Bool
  | .fini, r => decide (r = P.b)
  | .fin g, r => match P.l with
    | none => decide (P.b ≤ r)
    | some _ => g && decide (r = P.b)
  | _, _ => false
def PP.E0 (P : PP) (z : Rat) : Rat := match P.l with
  | none => z ^ P.b / ((1 - Bz P.s z) * (1 - z))
  | some l => Tz P.s z l * z ^ P.b / (1 - Bz P.s z)
def PP.E1 (P : PP) (z : Rat) : Rat := match P.l with
  | none => P.E0 z
  | some _ => P.E0 z + z ^ P.b
def PP.EM (P : PP) (z : Rat) : List Nat → Rat
  | [] => P.E0 z
  | m :: ms => Tz P.s z m * P.EM z ms / (1 - Lz P.s z m)
def PP.EX (P : PP) (z : Rat) : List Nat → Rat
  | [] => if P.dots then P.EM z P.ms else z ^ P.b
  | f :: fs => Kz P.s z f * P.EX z fs
def Rz (s : Nat) (z : Rat) (m : Nat) (X Y : Rat) (r : Nat) : Rat := if m ≤ r then Tz s z r * Y else (Lz s z m - Lz s z r) * X + Tz s z m * Y
def PP.val (P : PP) (z : Rat) : Ph → Nat → Rat
  | .dead, _ => 0
  | .ex f fs, r => if r ≤ f then Kz P.s z f * P.EX z fs else 0
  | .fini, r => if r ≤ P.b then z ^ P.b else 0
  | .mid m ms, r => Rz P.s z m (P.EM z (m :: ms)) (P.EM z ms) r
  | .fin g, r => match P.l with
    | none => z ^ (max r P.b) / (1 - z) + Tz P.s z r * P.E0 z
    | some l => (if g = true ∧ r ≤ P.b then z ^ P.b else 0) + Rz P.s z l (P.E0 z) (P.E1 z) r
theorem PP.val_dead (P : PP) (z : Rat) (r : Nat) : P.val z .dead r = 0 := rfl
theorem PP.val_ex (P : PP) (z : Rat) (f : Nat) (fs : List Nat) (r : Nat) : P.val z (.ex f fs) r = if r ≤ f then Kz P.s z f * P.EX z fs else 0 := rfl
theorem PP.val_fini (P : PP) (z : Rat) (r : Nat) : P.val z .fini r = if r ≤ P.b then z ^ P.b else 0 := rfl
theorem PP.val_mid (P : PP) (z : Rat) (m : Nat) (ms : List Nat) (r : Nat) : P.val z (.mid m ms) r = Rz P.s z m (P.EM z (m :: ms)) (P.EM z ms) r := rfl
theorem PP.val_fin (P : PP) (z : Rat) (g : Bool) (r : Nat) : P.val z (.fin g) r = match P.l with
    | none => z ^ (max r P.b) / (1 - z) + Tz P.s z r * P.E0 z
    | some l => (if g = true ∧ r ≤ P.b then z ^ P.b else 0) + Rz P.s z l (P.E0 z) (P.E1 z) r := rfl
section
variable {s : Nat} {z : Rat} (h : ZOk s z)
include h
theorem Rz_step (m : Nat) (X Y : Rat) (r : Nat) : Rz s z m X Y r = Rz s z m X Y (r + 1) + Kz s z r * (if m ≤ r then Y else X) := by
  have t := Tz_succ h r
  unfold Rz
  by_cases c : m ≤ r
  · rw [if_pos c, if_pos c, if_pos (by (first | lia | omega))]; grind
  · rw [if_neg c, if_neg c]
    by_cases d : m ≤ r + 1
    · have : m = r + 1 := by (first | lia | omega)
      subst this
      rw [if_pos d, Lz]; grind
    · rw [if_neg d, Lz]; grind
theorem Rz_zero (m : Nat) (X Y : Rat) : Rz s z m X Y 0 = Lz s z m * X + Tz s z m * Y := by
  unfold Rz
  by_cases c : m ≤ 0
  · obtain rfl : m = 0 := by (first | lia | omega)
    rw [if_pos c, Lz]; grind
  · rw [if_neg c, Lz]; grind
theorem Lz_mono {m n : Nat} (c : m ≤ n) : Lz s z m ≤ Lz s z n := by
  obtain ⟨k, rfl⟩ := Nat.le.dest c
  clear c
  induction k with
  | zero => exact Rat.le_refl
  | succ k ih => rw [← Nat.add_assoc, Lz]; have := Kz_pos h (m + k); grind
theorem Rz_rng {m : Nat} {X Y : Rat} (hX : 0 ≤ X) (hX2 : X ≤ 2) (hY : 0 ≤ Y) (hY2 : Y ≤ 2) (r : Nat) : 0 ≤ Rz s z m X Y r ∧ Rz s z m X Y r ≤ 2 * Tz s z r := by
  unfold Rz
  by_cases c : m ≤ r
  · rw [if_pos c]
    have a := Rat.mul_nonneg (Tz_nonneg h r) hY
    have b := rmul_le hY2 (Tz_nonneg h r)
    exact ⟨a, by grind⟩
  · rw [if_neg c]
    have l := Lz_mono h (show r ≤ m by (first | lia | omega))
    have l' : 0 ≤ Lz s z m - Lz s z r := by grind
    have a := Rat.mul_nonneg l' hX
    have b := rmul_le hX2 l'
    have a' := Rat.mul_nonneg (Tz_nonneg h m) hY
    have b' := rmul_le hY2 (Tz_nonneg h m)
    have e : Tz s z r = (Lz s z m - Lz s z r) + Tz s z m := by unfold Tz; grind
    exact ⟨by grind, by grind⟩
end
section
variable {P : PP} {z : Rat} (h : ZOk P.s z)
include h
theorem PP.one_B : 1 - Bz P.s z ≠ 0 ∧ 8191 ≤ 8192 * (1 - Bz P.s z) := by have := bz_small h; exact ⟨by grind, by grind⟩
theorem PP.one_z : 1 - z ≠ 0 ∧ 65535 ≤ 65536 * (1 - z) := by have := h.zs; exact ⟨by grind, by grind⟩
theorem PP.one_L (m : Nat) : 1 - Lz P.s z m ≠ 0 ∧ 8191 ≤ 8192 * (1 - Lz P.s z m) := by have := bz_small h; have := Lz_lt h m; exact ⟨by grind, by grind⟩
theorem PP.E0_none (e : P.l = none) : P.E0 z * ((1 - Bz P.s z) * (1 - z)) = z ^ P.b := by
  unfold PP.E0; rw [e]
  exact Rat.div_mul_cancel fun q => by
    rcases Rat.mul_eq_zero.mp q with q | q
    · exact (PP.one_B h).1 q
    · exact (PP.one_z h).1 q
theorem PP.E0_some {l : Nat} (e : P.l = some l) : P.E0 z * (1 - Bz P.s z) = Tz P.s z l * z ^ P.b := by
  unfold PP.E0; rw [e]
  exact Rat.div_mul_cancel (PP.one_B h).1
theorem PP.EM_eq (m : Nat) (ms : List Nat) : P.EM z (m :: ms) * (1 - Lz P.s z m) = Tz P.s z m * P.EM z ms := Rat.div_mul_cancel (PP.one_L h m).1
omit h in
theorem le_of_mul {x y c : Rat} (hc : 0 < c) (e : x * c ≤ y * c) : x ≤ y := Rat.le_of_mul_le_mul_right e hc
theorem PP.E0_rng : 0 ≤ P.E0 z ∧ 2 * P.E0 z ≤ 3 := by
  have b1 := (PP.one_B h).2
  have z1 := (PP.one_z h).2
  have zb := rpow_le1 h.z0 h.le1 P.b
  have zb0 := Rat.le_of_lt (rpow_pos h.z0 P.b)
  rcases e : P.l with _ | l
  · have q := PP.E0_none h e
    have c : 8 ≤ 9 * ((1 - Bz P.s z) * (1 - z)) := by
      have := rmul_le (show 8191 / 8192 ≤ 1 - Bz P.s z by grind) (show 0 ≤ 1 - z by grind)
      grind
    have c0 : 0 < (1 - Bz P.s z) * (1 - z) := by grind
    generalize (1 - Bz P.s z) * (1 - z) = d at q c c0
    constructor
    · exact le_of_mul c0 (by rw [q]; grind)
    · refine le_of_mul c0 ?_
      grind
  · have q := PP.E0_some h e
    have t1 : Tz P.s z l ≤ 1 := by have := Tz_le h l; have := rpow_anti h.z0 h.le1 (show 1 ≤ l + 1 by (first | lia | omega)); have := h.zs; rw [Rat.pow_one] at *; grind
    have t2 := rmul_le t1 zb0
    have t3 := Rat.mul_nonneg (Tz_nonneg h l) zb0
    have c0 : 0 < 1 - Bz P.s z := by grind
    constructor
    · exact le_of_mul c0 (by rw [q]; grind)
    · refine le_of_mul c0 ?_
      grind
theorem PP.E0_sm {l : Nat} (e : P.l = some l) : 2 * P.E0 z ≤ 1 := by
  have b1 := (PP.one_B h).2
  have zb := rpow_le1 h.z0 h.le1 P.b
  have zb0 := Rat.le_of_lt (rpow_pos h.z0 P.b)
  have q := PP.E0_some h e
  have t1 : 8192 * Tz P.s z l ≤ 1 := by have := Tz_le h l; have := rpow_anti h.z0 h.le1 (show 1 ≤ l + 1 by (first | lia | omega)); have := h.zs; rw [Rat.pow_one] at *; grind
  have t2 := rmul_le t1 zb0
  have c0 : 0 < 1 - Bz P.s z := by grind
  refine le_of_mul c0 ?_
  grind
theorem PP.E1_rng : 0 ≤ P.E1 z ∧ P.E1 z ≤ 2 := by
  have a := PP.E0_rng h
  have zb := rpow_le1 h.z0 h.le1 P.b
  have zb0 := Rat.le_of_lt (rpow_pos h.z0 P.b)
  unfold PP.E1
  rcases e : P.l with _ | l
  · exact ⟨a.1, by grind⟩
  · have := PP.E0_sm h e
    exact ⟨by grind, by grind⟩
theorem PP.EM_rng : ∀ ms : List Nat, 0 ≤ P.EM z ms ∧ P.EM z ms ≤ 2
  | [] => by have := PP.E0_rng h; exact ⟨this.1, by show P.E0 z ≤ 2; grind⟩
  | m :: ms => by
    have ih := PP.EM_rng ms
    have e := PP.EM_eq h m ms
    have c := (PP.one_L h m).2
    have c0 : 0 < 1 - Lz P.s z m := by grind
    have t : Tz P.s z m ≤ 1 - Lz P.s z m := by have := bz_small h; unfold Tz; grind
    have a := Rat.mul_nonneg (Tz_nonneg h m) ih.1
    have b := rmul_le t ih.1
    have d := rmul_le ih.2 (Rat.le_of_lt c0)
    constructor
    · exact le_of_mul c0 (by rw [e]; grind)
    · refine le_of_mul c0 ?_
      grind
theorem PP.EX_rng : ∀ fs : List Nat, 0 ≤ P.EX z fs ∧ P.EX z fs ≤ 2
  | [] => by
    have zb := rpow_le1 h.z0 h.le1 P.b
    have zb0 := Rat.le_of_lt (rpow_pos h.z0 P.b)
    unfold PP.EX
    split
    · exact PP.EM_rng h _
    · exact ⟨zb0, by grind⟩
  | f :: fs => by
    have ih := PP.EX_rng fs
    have k0 := Rat.le_of_lt (Kz_pos h f)
    have k1 : Kz P.s z f ≤ 1 := rpow_le1 h.z0 h.le1 _
    unfold PP.EX
    have a := Rat.mul_nonneg k0 ih.1
    have b := rmul_le k1 ih.1
    exact ⟨a, by grind⟩
theorem PP.val_mids (ms : List Nat) : P.val z (mids ms) 0 = P.EM z ms := by
  cases ms with
  | nil =>
    show P.val z (.fin false) 0 = P.E0 z
    rw [PP.val_fin]
    rcases e : P.l with _ | l
    · dsimp only
      have q := PP.E0_none h e
      have z1 := (PP.one_z h).1
      have d : z ^ (max 0 P.b) / (1 - z) * (1 - z) = z ^ P.b := by rw [Nat.zero_max]; exact Rat.div_mul_cancel z1
      have t : Tz P.s z 0 = Bz P.s z := by unfold Tz; rw [Lz]; grind
      rw [t]
      have c0 : 0 < 1 - z := by have := (PP.one_z h).2; grind
      have f1 : z ^ (max 0 P.b) / (1 - z) = P.E0 z * (1 - Bz P.s z) := Rat.le_antisymm (le_of_mul c0 (by grind)) (le_of_mul c0 (by grind))
      rw [f1]; grind
    · dsimp only
      have q := PP.E0_some h e
      rw [Rz_zero h, if_neg (by simp)]
      have : P.E1 z = P.E0 z + z ^ P.b := by unfold PP.E1; rw [e]
      rw [this]
      have : Tz P.s z l = Bz P.s z - Lz P.s z l := rfl
      grind
  | cons m ms =>
    show P.val z (.mid m ms) 0 = _
    rw [PP.val_mid, Rz_zero h]
    have e := PP.EM_eq h m ms
    grind
theorem PP.val_start (fs : List Nat) : P.val z (P.start fs) 0 = P.EX z fs := by
  cases fs with
  | nil =>
    show P.val z (if P.dots = true then mids P.ms else .fini) 0 = if P.dots = true then P.EM z P.ms else z ^ P.b
    by_cases c : P.dots = true
    · rw [if_pos c, if_pos c]; exact PP.val_mids h _
    · rw [if_neg c, if_neg c, PP.val_fini, if_pos (Nat.zero_le _)]
  | cons f fs => show P.val z (.ex f fs) 0 = _; rw [PP.val_ex, if_pos (Nat.zero_le _)]; rfl
theorem PP.val_step (ph : Ph) (r : Nat) : P.val z ph r = (if P.acc ph r = true then z ^ r else 0) + P.val z ph (r + 1) + Kz P.s z r * P.val z (P.nx ph r) 0 := by
  cases ph with
  | dead => simp only [PP.val_dead, PP.nx, PP.acc, Bool.false_eq_true, if_false]; grind
  | ex f fs =>
    simp only [PP.nx, PP.acc, Bool.false_eq_true, if_false]
    by_cases c : r = f
    · subst c
      rw [if_pos rfl, PP.val_start h, PP.val_ex, PP.val_ex, if_pos (Nat.le_refl _), if_neg (by (first | lia | omega))]
      grind
    · rw [if_neg c, PP.val_ex, PP.val_ex, PP.val_dead]
      by_cases d : r ≤ f
      · rw [if_pos d, if_pos (by (first | lia | omega))]; grind
      · rw [if_neg d, if_neg (by (first | lia | omega))]; grind
  | fini =>
    simp only [PP.nx, PP.acc, PP.val_fini, PP.val_dead, decide_eq_true_eq]
    by_cases c : r = P.b
    · rw [if_pos (by (first | lia | omega)), if_pos c, if_neg (by (first | lia | omega)), c]; grind
    · rw [if_neg c]
      by_cases d : r ≤ P.b
      · rw [if_pos d, if_pos (by (first | lia | omega))]; grind
      · rw [if_neg d, if_neg (by (first | lia | omega))]; grind
  | mid m ms =>
    simp only [PP.nx, PP.acc, Bool.false_eq_true, if_false]
    have q := Rz_step h m (P.EM z (m :: ms)) (P.EM z ms) r
    by_cases c : m ≤ r
    · rw [if_pos c] at q ⊢
      rw [PP.val_mids h]
      show Rz P.s z m (P.EM z (m :: ms)) (P.EM z ms) r = _ + Rz P.s z m (P.EM z (m :: ms)) (P.EM z ms) (r + 1) + _
      rw [q]; grind
    · rw [if_neg c] at q ⊢
      have e : P.val z (.mid m ms) 0 = P.EM z (m :: ms) := PP.val_mids h (m :: ms)
      rw [e]
      show Rz P.s z m (P.EM z (m :: ms)) (P.EM z ms) r = _ + Rz P.s z m (P.EM z (m :: ms)) (P.EM z ms) (r + 1) + _
      rw [q]; grind
  | fin g =>
    have f0 : P.val z (.fin false) 0 = P.E0 z := PP.val_mids h []
    rcases e : P.l with _ | l
    · have hg : P.good r = false := by unfold PP.good; rw [e]
      simp only [PP.nx, hg, f0]
      have ha : (P.acc (.fin g) r = true) = (P.b ≤ r) := by simp only [PP.acc, e, decide_eq_true_eq]
      simp only [ha]
      simp only [PP.val_fin, e]
      have t := Tz_succ h r
      have z1 := (PP.one_z h)
      have c0 : 0 < 1 - z := by grind
      have d1 : z ^ (max r P.b) / (1 - z) * (1 - z) = z ^ (max r P.b) := Rat.div_mul_cancel z1.1
      have d2 : z ^ (max (r + 1) P.b) / (1 - z) * (1 - z) = z ^ (max (r + 1) P.b) := Rat.div_mul_cancel z1.1
      by_cases c : P.b ≤ r
      · rw [if_pos c]
        rw [Nat.max_eq_left c] at d1 ⊢
        rw [Nat.max_eq_left (show P.b ≤ r + 1 by (first | lia | omega))] at d2 ⊢
        rw [Rat.pow_succ] at d2 ⊢
        have f1 : z ^ r / (1 - z) = z ^ r + z ^ r * z / (1 - z) := Rat.le_antisymm (le_of_mul c0 (by grind)) (le_of_mul c0 (by grind))
        rw [f1]; grind
      · rw [if_neg c, Nat.max_eq_right (show r ≤ P.b by (first | lia | omega)), Nat.max_eq_right (show r + 1 ≤ P.b by (first | lia | omega))]
        grind
    · have hE : P.E1 z = P.E0 z + z ^ P.b := by unfold PP.E1; rw [e]
      have f1 : P.val z (.fin true) 0 = P.E1 z := by
        rw [hE, ← f0]
        simp only [PP.val_fin, e]
        rw [if_pos (by simp), if_neg (by simp)]
        grind
      have hg : P.good r = decide (l ≤ r) := by unfold PP.good; rw [e]
      simp only [PP.nx, hg]
      have ha : (P.acc (.fin g) r = true) = (g = true ∧ r = P.b) := by simp only [PP.acc, e, Bool.and_eq_true, decide_eq_true_eq]
      simp only [ha]
      have q := Rz_step h l (P.E0 z) (P.E1 z) r
      have n : P.val z (.fin (decide (l ≤ r))) 0 = if l ≤ r then P.E1 z else P.E0 z := by
        by_cases c : l ≤ r
        · rw [if_pos c, decide_eq_true c, f1]
        · rw [if_neg c, decide_eq_false c, f0]
      rw [n]
      simp only [PP.val_fin, e]
      rw [q]
      by_cases c : g = true
      · simp only [c, true_and]
        by_cases d : r = P.b
        · rw [if_pos (show r ≤ P.b by (first | lia | omega)), if_pos d, if_neg (show ¬ r + 1 ≤ P.b by (first | lia | omega)), d]; grind
        · rw [if_neg d]
          by_cases d' : r ≤ P.b
          · rw [if_pos d', if_pos (show r + 1 ≤ P.b by (first | lia | omega))]; grind
          · rw [if_neg d', if_neg (show ¬ r + 1 ≤ P.b by (first | lia | omega))]; grind
      · simp only [c, false_and, if_false]; grind
theorem PP.val_rng (ph : Ph) (r : Nat) : 0 ≤ P.val z ph r ∧ P.val z ph r ≤ 2 * z ^ r := by
  have zr := rpow_pos h.z0 r
  have t2 : 28 * Tz P.s z r ≤ z ^ r := by
    have a := Tz_le h r
    rw [Rat.pow_succ] at a
    have := h.zs
    have b := rmul_le (show z ≤ 1 / 65536 by grind) (Rat.le_of_lt zr)
    grind
  have t0 := Tz_nonneg h r
  cases ph with
  | dead => show (0 : Rat) ≤ 0 ∧ (0 : Rat) ≤ _; exact ⟨Rat.le_refl, by grind⟩
  | ex f fs =>
    rw [PP.val_ex]
    by_cases d : r ≤ f
    · rw [if_pos d]
      have x := PP.EX_rng h fs
      have k0 := Kz_pos h f
      have k1 := Kz_le h f
      have k2 := rpow_anti h.z0 h.le1 (show r ≤ f + 1 by (first | lia | omega))
      have a := Rat.mul_nonneg (Rat.le_of_lt k0) x.1
      have b := rmul_le x.2 (Rat.le_of_lt k0)
      exact ⟨a, by grind⟩
    · rw [if_neg d]; exact ⟨Rat.le_refl, by grind⟩
  | fini =>
    rw [PP.val_fini]
    by_cases d : r ≤ P.b
    · rw [if_pos d]
      have a := rpow_anti h.z0 h.le1 d
      have b := rpow_pos h.z0 P.b
      exact ⟨by grind, by grind⟩
    · rw [if_neg d]; exact ⟨Rat.le_refl, by grind⟩
  | mid m ms =>
    have a := Rz_rng h (m := m) (PP.EM_rng h (m :: ms)).1 (PP.EM_rng h (m :: ms)).2 (PP.EM_rng h ms).1 (PP.EM_rng h ms).2 r
    exact ⟨a.1, Rat.le_trans a.2 (by grind)⟩
  | fin g =>
    have x := PP.E0_rng h
    have y := PP.E1_rng h
    rw [PP.val_fin]
    rcases e : P.l with _ | l
    · dsimp only
      have z1 := (PP.one_z h)
      have c0 : 0 < 1 - z := by grind
      have d1 : z ^ (max r P.b) / (1 - z) * (1 - z) = z ^ (max r P.b) := Rat.div_mul_cancel z1.1
      have a := rpow_anti h.z0 h.le1 (show r ≤ max r P.b by (first | lia | omega))
      have b := rpow_pos h.z0 (max r P.b)
      have f1 : 0 ≤ z ^ (max r P.b) / (1 - z) := le_of_mul c0 (by grind)
      have f2 : 2 * (z ^ (max r P.b) / (1 - z)) ≤ 3 * z ^ r := by
        refine le_of_mul c0 ?_
        have w := rmul_le (show 2 / 3 ≤ 1 - z by grind) (Rat.le_of_lt zr)
        grind
      have g1 := Rat.mul_nonneg t0 x.1
      have g2 := rmul_le (show P.E0 z ≤ 2 by grind) t0
      exact ⟨by grind, by grind⟩
    · dsimp only
      have a := Rz_rng h (m := l) x.1 (show P.E0 z ≤ 2 by grind) y.1 y.2 r
      by_cases c : g = true ∧ r ≤ P.b
      · rw [if_pos c]
        have b := rpow_anti h.z0 h.le1 c.2
        have b' := rpow_pos h.z0 P.b
        exact ⟨by grind, by grind⟩
      · rw [if_neg c]; exact ⟨by grind, by grind⟩
end
end Mine.G1
end
section
namespace Mine.G1
def stp (s : Nat) (q : Nat × Nat) (c : Nat) : Nat × Nat := if c = 32 then (q.1, q.2 + 1) else (q.1 + s * (q.2 / s + 1), 0)
def colS (s : Nat) (w : List Nat) : Nat × Nat := w.foldl (stp s) (0, 0)
def colW (s : Nat) (w : List Nat) : Nat := (colS s w).1 + (colS s w).2
def PP.step (P : PP) (q : (Nat × Nat) × Ph) (c : Nat) : (Nat × Nat) × Ph := (stp P.s q.1 c, if c = 32 then q.2 else P.nx q.2 q.1.2)
def PP.st (P : PP) (fs : List Nat) (w : List Nat) : (Nat × Nat) × Ph := w.foldl P.step ((0, 0), P.start fs)
def PP.G (P : PP) (z : Rat) (q : (Nat × Nat) × Ph) : Rat := z ^ q.1.1 * P.val z q.2 q.1.2
def PP.ok (P : PP) (fs w : List Nat) : Bool := P.acc (P.st fs w).2 (P.st fs w).1.2
theorem PP.step_col (P : PP) : ∀ (w : List Nat) (q : (Nat × Nat) × Ph), (w.foldl P.step q).1 = w.foldl (stp P.s) q.1
  | [], q => rfl
  | c :: w, q => by rw [List.foldl_cons, List.foldl_cons, PP.step_col P w]; rfl
theorem PP.st_col (P : PP) (fs w : List Nat) : (P.st fs w).1 = colS P.s w := P.step_col w _
theorem PP.st_snoc (P : PP) (fs w : List Nat) (c : Nat) : P.st fs (w ++ [c]) = P.step (P.st fs w) c := by
  unfold PP.st; rw [List.foldl_append]; rfl
theorem colS_snoc (s : Nat) (w : List Nat) (c : Nat) : colS s (w ++ [c]) = stp s (colS s w) c := by
  unfold colS; rw [List.foldl_append]; rfl
theorem stp_col {s : Nat} (h : 1 ≤ s) (q : Nat × Nat) (c : Nat) : q.1 + q.2 + 1 ≤ (stp s q c).1 + (stp s q c).2 := by
  unfold stp
  split
  · show _ ≤ q.1 + (q.2 + 1); (first | lia | omega)
  · show _ ≤ q.1 + s * (q.2 / s + 1) + 0
    have a := Nat.div_add_mod q.2 s
    have b := Nat.mod_lt q.2 h
    rw [Nat.mul_add, Nat.mul_one]; (first | lia | omega)
theorem foldl_col {s : Nat} (h : 1 ≤ s) : ∀ (w : List Nat) (q : Nat × Nat), q.1 + q.2 + w.length ≤ (w.foldl (stp s) q).1 + (w.foldl (stp s) q).2
  | [], q => Nat.le_refl _
  | c :: w, q => by
    have a := stp_col h q c
    have b := foldl_col h w (stp s q c)
    rw [List.foldl_cons, List.length_cons]; (first | lia | omega)
theorem colW_len {s : Nat} (h : 1 ≤ s) (w : List Nat) : w.length ≤ colW s w := by
  have := foldl_col h w (0, 0)
  unfold colW colS; simp only at this; (first | lia | omega)
section
variable {P : PP} {z : Rat} (h : ZOk P.s z)
include h
theorem PP.G_step (q : (Nat × Nat) × Ph) : P.G z q = (if P.acc q.2 q.1.2 = true then z ^ (q.1.1 + q.1.2) else 0) + P.G z (P.step q 32) + P.G z (P.step q 9) := by
  have v := PP.val_step h q.2 q.1.2
  have e1 : P.G z (P.step q 32) = z ^ q.1.1 * P.val z q.2 (q.1.2 + 1) := rfl
  have e2 : P.G z (P.step q 9) = z ^ (q.1.1 + P.s * (q.1.2 / P.s + 1)) * P.val z (P.nx q.2 q.1.2) 0 := rfl
  rw [e1, e2, rpow_add z q.1.1 q.1.2, rpow_add z q.1.1 (P.s * (q.1.2 / P.s + 1))]
  have e3 : z ^ (P.s * (q.1.2 / P.s + 1)) = Kz P.s z q.1.2 := rfl
  rw [e3]
  unfold PP.G
  by_cases c : P.acc q.2 q.1.2 = true
  · rw [if_pos c] at v ⊢; rw [v]; grind
  · rw [if_neg c] at v ⊢; rw [v]; grind
theorem PP.G_rng (q : (Nat × Nat) × Ph) : 0 ≤ P.G z q ∧ P.G z q ≤ 2 * z ^ (q.1.1 + q.1.2) := by
  have v := PP.val_rng h q.2 q.1.2
  have p := Rat.le_of_lt (rpow_pos h.z0 q.1.1)
  unfold PP.G
  have a := Rat.mul_nonneg p v.1
  have b := rmul_le v.2 p
  rw [rpow_add]
  exact ⟨a, by grind⟩
end
def kept (s last : Nat) (f : List (List Nat)) : List (List Nat) := f.filter fun w => decide (colW s w ≤ last)
def drops (s last : Nat) (f : List (List Nat)) : List (List Nat) := f.filter fun w => !decide (colW s w ≤ last)
def nextF (f : List (List Nat)) : List (List Nat) := (f.map fun w => [w ++ [32], w ++ [9]]).flatten
def fr (s last : Nat) : Nat → List (List Nat)
  | 0 => [[]]
  | t + 1 => nextF (kept s last (fr s last t))
def leads (s last : Nat) : Nat → List (List Nat)
  | 0 => []
  | t + 1 => leads s last t ++ kept s last (fr s last t)
def sumR (g : List Nat → Rat) : List (List Nat) → Rat
  | [] => 0
  | w :: l => g w + sumR g l
theorem sumR_app (g : List Nat → Rat) : ∀ a b, sumR g (a ++ b) = sumR g a + sumR g b
  | [], b => by rw [sumR, List.nil_append]; grind
  | x :: a, b => by rw [List.cons_append, sumR, sumR, sumR_app g a b]; grind
theorem sumR_next (g : List Nat → Rat) : ∀ l, sumR g (nextF l) = sumR (fun w => g (w ++ [32]) + g (w ++ [9])) l
  | [] => rfl
  | x :: l => by
    have := sumR_next g l
    unfold nextF at this ⊢
    rw [List.map_cons, List.flatten_cons, sumR_app, this, sumR, sumR, sumR, sumR]
    grind
theorem sumR_split (g : List Nat → Rat) (s last : Nat) : ∀ l, sumR g l = sumR g (kept s last l) + sumR g (drops s last l)
  | [] => by unfold kept drops sumR; simp only [List.filter_nil]; grind
  | x :: l => by
    have ih := sumR_split g s last l
    unfold kept drops at ih ⊢
    by_cases c : colW s x ≤ last
    · rw [List.filter_cons_of_pos (by simpa using c), List.filter_cons_of_neg (by simpa using c), sumR, sumR, ih]; grind
    · rw [List.filter_cons_of_neg (by simpa using c), List.filter_cons_of_pos (by simpa using c), sumR, sumR, ih]; grind
theorem sumR_add (g a : List Nat → Rat) : ∀ l, sumR (fun w => a w + g w) l = sumR a l + sumR g l
  | [] => by unfold sumR; grind
  | x :: l => by rw [sumR, sumR, sumR, sumR_add g a l]; grind
theorem sumR_congr {g a : List Nat → Rat} : ∀ {l}, (∀ w ∈ l, g w = a w) → sumR g l = sumR a l
  | [], _ => rfl
  | x :: l, h => by rw [sumR, sumR, h x (List.mem_cons_self ..), sumR_congr fun w hw => h w (List.mem_cons_of_mem _ hw)]
theorem sumR_rng {g : List Nat → Rat} {c : Rat} : ∀ {l : List (List Nat)}, (∀ w ∈ l, 0 ≤ g w ∧ g w ≤ c) → 0 ≤ sumR g l ∧ sumR g l ≤ (l.length : Rat) * c
  | [], _ => by unfold sumR; rw [List.length_nil]; exact ⟨Rat.le_refl, by grind⟩
  | x :: l, h => by
    have ih := sumR_rng fun w hw => h w (List.mem_cons_of_mem _ hw)
    have hx := h x (List.mem_cons_self ..)
    have e : (((x :: l).length : Nat) : Rat) = (l.length : Rat) + 1 := by rw [List.length_cons]; exact_mod_cast rfl
    rw [sumR, e]
    exact ⟨by grind, by grind⟩
theorem split_len (s last : Nat) : ∀ l, (kept s last l).length + (drops s last l).length = l.length
  | [] => rfl
  | x :: l => by
    have ih := split_len s last l
    unfold kept drops at ih ⊢
    by_cases c : colW s x ≤ last
    · rw [List.filter_cons_of_pos (by simpa using c), List.filter_cons_of_neg (by simpa using c), List.length_cons, List.length_cons]; (first | lia | omega)
    · rw [List.filter_cons_of_neg (by simpa using c), List.filter_cons_of_pos (by simpa using c), List.length_cons, List.length_cons]; (first | lia | omega)
theorem next_len : ∀ l, (nextF l).length = 2 * l.length
  | [] => rfl
  | x :: l => by
    have ih := next_len l
    unfold nextF at ih ⊢
    rw [List.map_cons, List.flatten_cons, List.length_append, ih, List.length_cons]
    simp only [List.length_cons, List.length_nil]; (first | lia | omega)
theorem fr_mem {s last : Nat} : ∀ {t : Nat} {w : List Nat}, w ∈ fr s last t → w.length = t ∧ ∀ c ∈ w, c = 32 ∨ c = 9
  | 0, w, h => by
    rw [List.mem_singleton.mp h]; exact ⟨rfl, fun _ h => nomatch h⟩
  | t + 1, w, h => by
    unfold fr nextF at h
    obtain ⟨l, hl, hw⟩ := List.mem_flatten.mp h
    obtain ⟨v, hv, rfl⟩ := List.mem_map.mp hl
    have ih := fr_mem (List.mem_filter.mp hv).1
    have : ∃ c, (c = 32 ∨ c = 9) ∧ w = v ++ [c] := by
      rcases List.mem_cons.mp hw with q | q
      · exact ⟨32, .inl rfl, q⟩
      · exact ⟨9, .inr rfl, List.mem_singleton.mp q⟩
    obtain ⟨c, hc, rfl⟩ := this
    refine ⟨by rw [List.length_append, ih.1]; rfl, fun d hd => ?_⟩
    rcases List.mem_append.mp hd with q | q
    · exact ih.2 d q
    · rw [List.mem_singleton.mp q]; exact hc
theorem leads_mem {s last : Nat} : ∀ {t : Nat} {w : List Nat}, w ∈ leads s last t → colW s w ≤ last ∧ ∀ c ∈ w, c = 32 ∨ c = 9
  | 0, w, h => nomatch h
  | t + 1, w, h => by
    unfold leads at h
    rcases List.mem_append.mp h with q | q
    · exact leads_mem q
    · have := List.mem_filter.mp q
      exact ⟨by simpa using this.2, (fr_mem this.1).2⟩
theorem fr_len (s last : Nat) : ∀ t, (fr s last t).length ≤ 2 ^ t ∧ (leads s last t).length + 1 ≤ 2 ^ t
  | 0 => ⟨Nat.le_refl _, Nat.le_refl _⟩
  | t + 1 => by
    have ih := fr_len s last t
    have k := split_len s last (fr s last t)
    have e : (fr s last (t + 1)).length = 2 * (kept s last (fr s last t)).length := next_len _
    have e2 : (leads s last (t + 1)).length = (leads s last t).length + (kept s last (fr s last t)).length := List.length_append
    rw [Nat.pow_succ]
    exact ⟨by (first | lia | omega), by (first | lia | omega)⟩
theorem bfs {s last : Nat} {g a : List Nat → Rat} {c : Rat} (hg : ∀ w, g w = a w + g (w ++ [32]) + g (w ++ [9])) (h0 : ∀ w, 0 ≤ g w) (hc : ∀ w, last + 1 ≤ colW s w → g w ≤ c) : ∀ t : Nat,
    ∃ (X : Rat) (D : Nat), g [] = sumR a (leads s last t) + X + sumR g (fr s last t) ∧ 0 ≤ X ∧ X ≤ (D : Rat) * c ∧ D + (fr s last t).length ≤ 2 ^ t
  | 0 => ⟨0, 0, by unfold leads fr sumR sumR; grind, Rat.le_refl, by grind, Nat.le_refl _⟩
  | t + 1 => by
    obtain ⟨X, D, e, x0, x1, l⟩ := bfs hg h0 hc t
    have sp := sumR_split g s last (fr s last t)
    have k := split_len s last (fr s last t)
    have dr := sumR_rng (g := g) (c := c) (l := drops s last (fr s last t)) fun w hw => ⟨h0 w, hc w (by
      have := (List.mem_filter.mp hw).2
      simp at this; (first | lia | omega))⟩
    have nx : sumR g (fr s last (t + 1)) = _ := sumR_next g (kept s last (fr s last t))
    have st : sumR g (kept s last (fr s last t)) = sumR a (kept s last (fr s last t)) + sumR g (fr s last (t + 1)) := by
      rw [nx, ← sumR_add]
      exact sumR_congr fun w _ => by rw [hg w]; grind
    refine ⟨X + sumR g (drops s last (fr s last t)), D + (drops s last (fr s last t)).length, ?_, by grind, ?_, ?_⟩
    · have : sumR a (leads s last (t + 1)) = sumR a (leads s last t) + sumR a (kept s last (fr s last t)) := sumR_app a _ _
      rw [this, e, sp, st]; grind
    · have : ((D + (drops s last (fr s last t)).length : Nat) : Rat) = (D : Rat) + ((drops s last (fr s last t)).length : Rat) := by exact_mod_cast rfl
      rw [this]; grind
    · have e : (fr s last (t + 1)).length = 2 * (kept s last (fr s last t)).length := next_len _
      rw [Nat.pow_succ]; (first | lia | omega)
theorem tail {P : PP} {z : Rat} (h : ZOk P.s z) (fs : List Nat) (last : Nat) :
    ∃ τ : Rat, P.EX z fs = sumR (fun w => if P.ok fs w = true then z ^ colW P.s w else 0) (leads P.s last (last + 1)) + τ ∧ 0 ≤ τ ∧ τ ≤ ((2 ^ (last + 1) : Nat) : Rat) * (2 * z ^ (last + 1)) := by
  have hc : ∀ w, last + 1 ≤ colW P.s w → P.G z (P.st fs w) ≤ 2 * z ^ (last + 1) := fun w hw => by
    have a := (PP.G_rng h (P.st fs w)).2
    rw [P.st_col] at a
    have b := rpow_anti h.z0 h.le1 hw
    unfold colW at b
    grind
  obtain ⟨X, D, e, x0, x1, l⟩ := bfs (s := P.s) (last := last) (g := fun w => P.G z (P.st fs w)) (a := fun w => if P.ok fs w = true then z ^ colW P.s w else 0) (c := 2 * z ^ (last + 1)) (fun w => by
    have q := PP.G_step h (P.st fs w)
    rw [P.st_col] at q
    show P.G z (P.st fs w) = (if P.ok fs w = true then z ^ colW P.s w else 0) + P.G z (P.st fs (w ++ [32])) + P.G z (P.st fs (w ++ [9]))
    rw [P.st_snoc, P.st_snoc]
    unfold PP.ok colW
    rw [P.st_col]
    exact q) (fun w => (PP.G_rng h _).1) hc (last + 1)
  have y := sumR_rng (g := fun w => P.G z (P.st fs w)) (c := 2 * z ^ (last + 1)) (l := fr P.s last (last + 1)) fun w hw => ⟨(PP.G_rng h _).1, hc w (by have := (fr_mem hw).1; have := colW_len h.s1 w; (first | lia | omega))⟩
  have e0 : P.G z (P.st fs []) = P.EX z fs := by
    show z ^ 0 * P.val z (P.start fs) 0 = _
    rw [PP.val_start h, Rat.pow_zero, Rat.one_mul]
  refine ⟨X + sumR (fun w => P.G z (P.st fs w)) (fr P.s last (last + 1)), ?_, by grind, ?_⟩
  · rw [← e0, e]; grind
  · have p : (0 : Rat) ≤ 2 * z ^ (last + 1) := by have := rpow_pos h.z0 (last + 1); grind
    have m : ((D + (fr P.s last (last + 1)).length : Nat) : Rat) ≤ ((2 ^ (last + 1) : Nat) : Rat) := by exact_mod_cast l
    have m' := rmul_le m p
    have : ((D + (fr P.s last (last + 1)).length : Nat) : Rat) = (D : Rat) + ((fr P.s last (last + 1)).length : Rat) := by exact_mod_cast rfl
    rw [this] at m'
    grind
end Mine.G1
end
section
open PySem PySem.W PyProof.Rows PySem.Calls PyProof.V PySem.Spec
namespace Mine
open PySem.StrLaws Builtin.Str
def Cuts (x y : Str) (hi : Nat) : Nat → Nat → List Nat → Prop
  | a, f, [] => ∀ i, a ≤ i → f ≤ i → ¬ StrLaws.At x y hi i
  | a, f, c :: r => a ≤ c ∧ f ≤ c ∧ StrLaws.At x y hi c ∧ (∀ i, a ≤ i → f ≤ i → i < c → ¬ StrLaws.At x y hi i) ∧ Cuts x y hi (c + 1) (c + y.length) r
theorem Cuts.up {x y : Str} {hi a f : Nat} : ∀ {cs : List Nat}, Cuts x y hi a f cs → (∀ c, cs.head? = some c → a + 1 ≤ c) → Cuts x y hi (a + 1) f cs
  | [], h, _ => fun i h1 h2 => h i (by (first | lia | omega)) h2
  | c :: r, h, q => ⟨q c rfl, h.2.1, h.2.2.1, fun i h1 h2 h3 => h.2.2.2.1 i (by (first | lia | omega)) h2 h3, h.2.2.2.2⟩
theorem occ_cuts (x y : Str) (hi limit : Nat) : ∀ (n a f : Nat) (acc : Array Nat) (cs : List Nat), hi < a + n → acc.size + cs.length ≤ limit → Cuts x y hi a f cs →
    (forIn (List.range' a n) (acc, f) (occBody x y hi limit)).run.fst.toList = acc.toList ++ cs
  | 0, a, f, acc, [], _, _, _ => by simp
  | 0, a, f, acc, c :: r, hn, _, h => by
    have h1 := h.1
    have h2 := h.2.2.1.1
    (first | lia | omega)
  | n + 1, a, f, acc, cs, hn, hl, h => by
    rw [List.range'_succ, List.forIn_cons]
    unfold occBody
    by_cases hc : f ≤ a ∧ StrLaws.At x y hi a
    · match cs, h with
      | [], h => exact absurd hc.2 (h a (Nat.le_refl _) hc.1)
      | c :: r, h =>
        have e : c = a := by
          refine Classical.byContradiction fun q => ?_
          exact h.2.2.2.1 a (Nat.le_refl _) hc.1 (by have := h.1; (first | lia | omega)) hc.2
        subst e
        simp only [List.length_cons] at hl
        have c1 : ((acc, f).fst.size < limit ∧ (acc, f).snd ≤ c) ∧ c + y.length ≤ hi := ⟨⟨by show acc.size < limit; (first | lia | omega), hc.1⟩, hc.2.1⟩
        rw [if_pos ⟨c1, hc.2.2⟩]
        have := occ_cuts x y hi limit n (c + 1) (c + y.length) (acc.push c) r (by (first | lia | omega)) (by simp; (first | lia | omega)) h.2.2.2.2
        unfold occBody at this
        rw [show (acc.push c).toList ++ r = acc.toList ++ c :: r by simp] at this
        exact this
    · have c2 : ¬ ((((acc, f).fst.size < limit ∧ (acc, f).snd ≤ a) ∧ a + y.length ≤ hi) ∧ subAt x y a = true) := fun q => hc ⟨q.1.1.2, q.1.2, q.2⟩
      rw [if_neg c2]
      have := occ_cuts x y hi limit n (a + 1) f acc cs (by (first | lia | omega)) hl (h.up fun c hcs => by
        match cs, h, hcs with
        | c :: r, h, rfl =>
          have h1 := h.1
          refine Nat.lt_of_le_of_ne h1 fun q => hc ?_
          subst q
          exact ⟨h.2.1, h.2.2.1⟩)
      unfold occBody at this
      exact this
theorem occ_is {x y : Str} {lo hi limit : Nat} {cs : List Nat} (hl : cs.length ≤ limit) (hlo : lo ≤ hi + 1) (h : Cuts x y hi lo lo cs) : Builtin.Str.occurrences x y lo hi limit = cs := by
  rw [occ_eq]
  have := occ_cuts x y hi limit (hi + 1 - lo) lo lo #[] cs (by (first | lia | omega)) (by simpa using hl) h
  simpa using this
theorem At_iff {x y : Str} {hi i : Nat} : StrLaws.At x y hi i ↔ i + y.cps.toList.length ≤ hi ∧ (x.cps.toList.drop i).take y.cps.toList.length = y.cps.toList := by
  unfold StrLaws.At
  rw [subAt_eq, beq_iff_eq]
  simp [Str.length]
theorem occ_one (x y : Str) (lo hi : Nat) : (Builtin.Str.occurrences x y lo hi 1 = [] ∧ ∀ i, lo ≤ i → ¬ StrLaws.At x y hi i) ∨
    ∃ i r, Builtin.Str.occurrences x y lo hi 1 = i :: r ∧ lo ≤ i ∧ StrLaws.At x y hi i ∧ ∀ k, lo ≤ k → k < i → ¬ StrLaws.At x y hi k := by
  rw [occ_eq]
  rcases occ_first x y hi 1 (Nat.le_refl _) (List.range' lo (hi + 1 - lo)) lo (fun i h => by rw [List.mem_range'_1] at h; exact h.1) with ⟨h0, hn⟩ | ⟨pre, a, post, e, h0, ha, hn⟩
  · refine .inl ⟨by rw [h0], fun i hi' hat => hn i ?_ hat⟩
    have := hat.1
    rw [List.mem_range'_1]; (first | lia | omega)
  · have hpre : ∀ k, lo ≤ k → k < a → k ∈ pre := fun k h1 h2 => by
      have hk : k ∈ List.range' lo (hi + 1 - lo) := by
        have : a ∈ List.range' lo (hi + 1 - lo) := by rw [e]; simp
        rw [List.mem_range'_1] at this ⊢; (first | lia | omega)
      rw [e, List.mem_append, List.mem_cons] at hk
      have hs : (pre ++ a :: post).Pairwise (· < ·) := by rw [← e]; exact List.pairwise_lt_range'
      rcases hk with hk | rfl | hk
      · exact hk
      · (first | lia | omega)
      · have := (List.pairwise_cons.mp (List.pairwise_append.mp hs).2.1).1 k hk
        (first | lia | omega)
    have hla : lo ≤ a := by
      have : a ∈ List.range' lo (hi + 1 - lo) := by rw [e]; simp
      rw [List.mem_range'_1] at this; exact this.1
    refine .inr ⟨a, ((forIn (List.range' lo (hi + 1 - lo)) ((#[] : Array Nat), lo) (occBody x y hi 1)).run.fst.toList).tail, ?_, hla, ha, fun k h1 h2 => hn k (hpre k h1 h2)⟩
    generalize (forIn (List.range' lo (hi + 1 - lo)) ((#[] : Array Nat), lo) (occBody x y hi 1)).run.fst = arr at h0
    have h1 : arr.toList[0]? = some a := by simpa using h0
    cases hL : arr.toList with
    | nil => rw [hL] at h1; cases h1
    | cons b t => rw [hL] at h1; simp at h1; rw [h1]; rfl
def Fits : List (List Nat) → List Nat → Prop
  | [], _ => True
  | w :: r, l => ∃ a b, l = a ++ (w ++ b) ∧ Fits r b
theorem Fits.mono {a : List Nat} : ∀ {ws : List (List Nat)} {b : List Nat}, Fits ws b → Fits ws (a ++ b)
  | [], _, _ => trivial
  | w :: r, b, ⟨p, q, e, h⟩ => ⟨a ++ p, q, by rw [e, List.append_assoc], h⟩
theorem Fits_nilpiece {ws : List (List Nat)} {l : List Nat} : Fits ([] :: ws) l ↔ Fits ws l :=
  ⟨fun ⟨a, b, e, h⟩ => by rw [e]; exact (Fits.mono h).mono, fun h => ⟨[], l, rfl, h⟩⟩
theorem Fits_snoc_nil : ∀ {ws : List (List Nat)} {l : List Nat}, Fits (ws ++ [[]]) l ↔ Fits ws l
  | [], l => ⟨fun _ => trivial, fun _ => ⟨l, [], by simp, trivial⟩⟩
  | w :: r, l => ⟨fun ⟨a, b, e, h⟩ => ⟨a, b, e, Fits_snoc_nil.mp h⟩, fun ⟨a, b, e, h⟩ => ⟨a, b, e, Fits_snoc_nil.mpr h⟩⟩
theorem find4_nat (x y : Str) {p e : Nat} (hp : p ≤ x.length) (he : e ≤ x.length) : find4 x y (p : Int) (e : Int) = match Builtin.Str.occurrences x y p e 1 with | k :: _ => (k : Int) | [] => -1 := by
  unfold find4
  have h1 : fromIndex x.length (p : Int) = p := by unfold fromIndex; rw [if_neg (by (first | lia | omega))]; (first | lia | omega)
  have h2 : fromIndex x.length (e : Int) = e := by unfold fromIndex; rw [if_neg (by (first | lia | omega))]; (first | lia | omega)
  rw [h1, h2, Nat.min_eq_left he]
  try (cases Builtin.Str.occurrences x y p e 1 <;> rfl)
theorem At_split {x y : Str} {p e i : Nat} (he : e ≤ x.length) (hpe : p ≤ e) (hpi : p ≤ i) : StrLaws.At x y e i ↔ ∃ a b, (x.cps.toList.take e).drop p = a ++ (y.cps.toList ++ b) ∧ a.length = i - p := by
  rw [At_iff]
  have hL : x.cps.toList.length = x.length := by simp [Str.length]
  revert hL
  generalize x.cps.toList = L
  generalize y.cps.toList = Y
  intro hL
  constructor
  · rintro ⟨h1, h2⟩
    refine ⟨((L.take e).drop p).take (i - p), ((L.take e).drop i).drop Y.length, ?_, by simp; (first | lia | omega)⟩
    have e1 : ((L.take e).drop i).take Y.length = Y := by
      rw [List.drop_take, List.take_take, Nat.min_eq_left (by (first | lia | omega))]; exact h2
    have e2 : (L.take e).drop i = Y ++ ((L.take e).drop i).drop Y.length := by
      have := List.take_append_drop Y.length ((L.take e).drop i)
      rw [e1] at this; exact this.symm
    have e3 : ((L.take e).drop p).drop (i - p) = (L.take e).drop i := by rw [List.drop_drop]; congr 1; (first | lia | omega)
    have e4 := List.take_append_drop (i - p) ((L.take e).drop p)
    rw [e3] at e4
    rw [← e2, e4]
  · rintro ⟨a, b, h, ha⟩
    have hl := congrArg List.length h
    simp only [List.length_drop, List.length_take, List.length_append, Nat.min_eq_left (show e ≤ L.length by (first | lia | omega))] at hl
    have hd : (L.take e).drop i = Y ++ b := by
      have : (L.take e).drop i = ((L.take e).drop p).drop (i - p) := by rw [List.drop_drop]; congr 1; (first | lia | omega)
      rw [this, h, ← ha, List.drop_left]
    have hYe : i + Y.length ≤ e := by (first | lia | omega)
    refine ⟨hYe, ?_⟩
    have e5 : ((L.take e).drop i).take Y.length = (L.drop i).take Y.length := by
      rw [List.drop_take, List.take_take, Nat.min_eq_left (by (first | lia | omega))]
    rw [← e5, hd, List.take_left]
theorem findAll_iff (x : Str) {e : Nat} (he : e ≤ x.length) : ∀ (ws : List Str) (p : Nat), p ≤ e → (findAll x (e : Int) ws (p : Int) = true ↔ Fits (ws.map fun w => w.cps.toList) ((x.cps.toList.take e).drop p))
  | [], p, _ => by simp [findAll, Fits]
  | w :: r, p, hp => by
    have hL : x.cps.toList.length = x.length := by simp [Str.length]
    rw [findAll, find4_nat x w (by (first | lia | omega)) he, List.map_cons]
    rcases occ_one x w p e with ⟨h1, h2⟩ | ⟨i, t, h1, h2, h3, h4⟩
    · rw [h1]
      simp only [show ((-1 : Int) < 0) = True by simp, if_true]
      constructor
      · intro h; cases h
      · rintro ⟨a, b, h, _⟩
        exact absurd ((At_split he hp (by (first | lia | omega))).mpr ⟨a, b, h, (show a.length = (p + a.length) - p by (first | lia | omega))⟩) (h2 _ (by (first | lia | omega)))
    · rw [h1]
      simp only
      rw [if_neg (by (first | lia | omega))]
      have hie := h3.1
      rw [show ((i : Int) + (w.length : Int)) = ((i + w.length : Nat) : Int) by (first | lia | omega), findAll_iff x he r (i + w.length) hie]
      have hw : w.cps.toList.length = w.length := by simp [Str.length]
      obtain ⟨a, b, h, ha⟩ := (At_split he hp h2).mp h3
      have hb : (x.cps.toList.take e).drop (i + w.length) = b := by
        have : (x.cps.toList.take e).drop (i + w.length) = ((x.cps.toList.take e).drop p).drop (a.length + w.cps.toList.length) := by rw [List.drop_drop]; congr 1; (first | lia | omega)
        rw [this, h, ← List.append_assoc, ← List.length_append, List.drop_left]
      rw [hb]
      constructor
      · exact fun hf => ⟨a, b, h, hf⟩
      · rintro ⟨a', b', h', hf⟩
        have hlt : a.length ≤ a'.length := by
          refine Classical.byContradiction fun q => ?_
          exact h4 (p + a'.length) (by (first | lia | omega)) (by (first | lia | omega)) ((At_split he hp (by (first | lia | omega))).mpr ⟨a', b', h', by (first | lia | omega)⟩)
        have hb' : b = (b.take (b.length - b'.length)) ++ b' := by
          have e1 : (x.cps.toList.take e).drop p = (a' ++ w.cps.toList) ++ b' := by rw [h', List.append_assoc]
          have e2 : (x.cps.toList.take e).drop p = (a ++ w.cps.toList) ++ b := by rw [h, List.append_assoc]
          have hl : (a ++ w.cps.toList).length + b.length = (a' ++ w.cps.toList).length + b'.length := by
            rw [← List.length_append, ← List.length_append, ← e1, ← e2]
          simp only [List.length_append] at hl
          have e3 : b.drop (b.length - b'.length) = b' := by
            have f1 : ((x.cps.toList.take e).drop p).drop ((a' ++ w.cps.toList).length) = b' := by rw [e1, List.drop_left]
            have f2 : ((x.cps.toList.take e).drop p).drop ((a ++ w.cps.toList).length) = b := by rw [e2, List.drop_left]
            rw [← f2, List.drop_drop, ← f1]
            congr 1
            rw [f1, f2]
            simp only [List.length_append]; (first | lia | omega)
          have e4 := List.take_append_drop (b.length - b'.length) b
          rw [e3] at e4; exact e4.symm
        rw [hb']
        exact hf.mono
end Mine
end
section
open PySem PySem.W PyProof.Rows PySem.Calls PyProof.V PySem.Spec
namespace Mine
open PySem.StrLaws Builtin.Str
theorem cps_len (x : Str) : x.cps.toList.length = x.length := by simp [Str.length]
def joinD : List Str → List Nat
  | [] => []
  | [w] => w.cps.toList
  | w :: v :: r => w.cps.toList ++ ([46, 46, 46] ++ joinD (v :: r))
def cutsD : Nat → List Str → List Nat
  | _, [] => []
  | _, [_] => []
  | a, w :: v :: r => (a + w.length) :: cutsD (a + w.length + 3) (v :: r)
theorem dots_cps : dots.cps.toList = [46, 46, 46] := rfl
theorem Cuts.widen {x y : Str} {hi a f : Nat} (haf : a ≤ f) : ∀ {cs : List Nat}, Cuts x y hi f f cs → Cuts x y hi a f cs
  | [], h => fun i _ h2 => h i h2 h2
  | c :: r, h => ⟨by have := h.1; (first | lia | omega), h.2.1, h.2.2.1, fun i _ h2 h3 => h.2.2.2.1 i h2 h2 h3, h.2.2.2.2⟩
theorem At_dots {x : Str} {i : Nat} : StrLaws.At x dots x.length i ↔ (x.cps.toList.drop i).take 3 = [46, 46, 46] := by
  rw [At_iff, dots_cps]
  constructor
  · exact fun h => h.2
  · intro h
    refine ⟨?_, h⟩
    have := congrArg List.length h
    simp only [List.length_take, List.length_drop, List.length_cons, List.length_nil, cps_len] at this ⊢
    (first | lia | omega)
theorem no_At {x : Str} {pre w post : List Nat} (h : x.cps.toList = pre ++ (w ++ post)) (hw : 46 ∉ w) {i : Nat} (h1 : pre.length ≤ i) (h2 : i < pre.length + w.length) : ¬ StrLaws.At x dots x.length i := by
  rw [At_dots, h]
  intro q
  have e : ((pre ++ (w ++ post)).drop i)[0]? = some 46 := by
    have : (((pre ++ (w ++ post)).drop i).take 3)[0]? = some 46 := by rw [q]; rfl
    rwa [List.getElem?_take_of_lt (by (first | lia | omega))] at this
  rw [List.getElem?_drop, List.getElem?_append_right (by (first | lia | omega)), List.getElem?_append_left (by (first | lia | omega))] at e
  exact hw (List.mem_of_getElem? e)
theorem cutsD_ok (x : Str) : ∀ (ws : List Str) (pre : List Nat), ws ≠ [] → x.cps.toList = pre ++ joinD ws → (∀ w ∈ ws, 46 ∉ w.cps.toList) →
    Cuts x dots x.length pre.length pre.length (cutsD pre.length ws) ∧ partsFrom x 3 pre.length (cutsD pre.length ws) = ws
  | [], _, h, _, _ => absurd rfl h
  | [w], pre, _, h, hf => by
    refine ⟨fun i h1 _ hat => ?_, ?_⟩
    · have hx : i + 3 ≤ x.length := by have := hat.1; exact this
      have hl := congrArg List.length h
      simp only [joinD, List.length_append, cps_len] at hl
      exact no_At (w := w.cps.toList) (post := []) (by rw [List.append_nil]; exact h) (hf w (List.mem_cons_self ..)) h1 (by rw [cps_len]; (first | lia | omega)) hat
    · show [Builtin.Str.strSub x pre.length x.length] = [w]
      congr 1
      apply Str.ext'
      apply Array.toList_inj.mp
      rw [strSub_toList, h, List.drop_left]
      have hl := congrArg List.length h
      simp only [joinD, List.length_append, cps_len] at hl
      exact List.take_of_length_le (by simp only [joinD, cps_len]; (first | lia | omega))
  | w :: v :: r, pre, _, h, hf => by
    have h' : x.cps.toList = (pre ++ (w.cps.toList ++ [46, 46, 46])) ++ joinD (v :: r) := by rw [h]; simp [joinD]
    have hl : (pre ++ (w.cps.toList ++ [46, 46, 46])).length = pre.length + w.length + 3 := by rw [List.length_append, List.length_append, cps_len]; rfl
    obtain ⟨ih1, ih2⟩ := cutsD_ok x (v :: r) _ (by simp) h' fun y hy => hf y (List.mem_cons_of_mem _ hy)
    rw [hl] at ih1 ih2
    refine ⟨⟨by (first | lia | omega), by (first | lia | omega), ?_, fun i h1 _ h3 => ?_, ?_⟩, ?_⟩
    · rw [At_dots, h, show pre.length + w.length = (pre ++ w.cps.toList).length by rw [List.length_append, cps_len]]
      simp only [joinD]
      rw [← List.append_assoc, List.drop_left]; rfl
    · exact no_At (w := w.cps.toList) (by rw [h]; rfl) (hf w (List.mem_cons_self ..)) h1 (by rw [cps_len]; exact h3)
    · exact Cuts.widen (by show pre.length + w.length + 1 ≤ pre.length + w.length + 3; (first | lia | omega)) ih1
    · show Builtin.Str.strSub x pre.length (pre.length + w.length) :: partsFrom x 3 (pre.length + w.length + 3) (cutsD (pre.length + w.length + 3) (v :: r)) = _
      rw [ih2]
      congr 1
      apply Str.ext'
      apply Array.toList_inj.mp
      rw [strSub_toList, h, List.drop_left, show pre.length + w.length - pre.length = w.cps.toList.length by rw [cps_len]; (first | lia | omega)]
      exact List.take_left
theorem cutsD_len : ∀ (ws : List Str) (a : Nat), (cutsD a ws).length ≤ (joinD ws).length
  | [], _ => Nat.zero_le _
  | [_], _ => Nat.zero_le _
  | w :: v :: r, a => by
    have := cutsD_len (v :: r) (a + w.length + 3)
    simp only [cutsD, joinD, List.length_cons, List.length_append] at *
    (first | lia | omega)
theorem split_joinD {x w v : Str} {r : List Str} (h : x.cps.toList = joinD (w :: v :: r)) (hf : ∀ p ∈ w :: v :: r, 46 ∉ p.cps.toList) : Txt.contains x dots = true ∧ Txt.split x dots = w :: v :: r := by
  obtain ⟨h1, h2⟩ := cutsD_ok x (w :: v :: r) [] (by simp) h hf
  have hl : x.length = (joinD (w :: v :: r)).length := by rw [← h, cps_len]
  have hc := cutsD_len (w :: v :: r) 0
  have ho : Builtin.Str.occurrences x dots 0 x.length (x.length + 1) = cutsD 0 (w :: v :: r) := occ_is (by (first | lia | omega)) (by (first | lia | omega)) h1
  have h3 : ¬ x.length < dots.length := by
    have : dots.length = 3 := rfl
    rw [hl, this]; simp only [joinD, List.length_append, List.length_cons, List.length_nil]; (first | lia | omega)
  refine ⟨?_, ?_⟩
  · unfold Txt.contains
    rw [found_iff]
    exact ⟨0 + w.length, h1.2.2.1⟩
  · unfold Txt.split
    rw [if_neg (by simp [h3, kind_pos x]), ho, if_neg (by simp [cutsD]), partsBetween_eq]
    exact h2
theorem ends_iff {x w : Str} : Txt.endswith x w = true ↔ ∃ M, x.cps.toList = M ++ w.cps.toList := by
  unfold Txt.endswith
  rw [Bool.and_eq_true, decide_eq_true_eq, subAt_eq, beq_iff_eq, Nat.zero_add]
  constructor
  · rintro ⟨h1, h2⟩
    refine ⟨x.cps.toList.take (x.length - w.length), ?_⟩
    rw [List.take_of_length_le (by rw [List.length_drop, cps_len]; (first | lia | omega))] at h2
    rw [← h2, List.take_append_drop]
  · rintro ⟨M, h⟩
    have hl := congrArg List.length h
    rw [List.length_append, cps_len, cps_len] at hl
    refine ⟨by (first | lia | omega), ?_⟩
    rw [h, show x.length - w.length = M.length by (first | lia | omega), List.drop_left]
    exact List.take_of_length_le (by rw [cps_len]; exact Nat.le_refl _)
theorem starts_iff {x w : Str} : Txt.startswith x w = true ↔ ∃ M, x.cps.toList = w.cps.toList ++ M := by
  unfold Txt.startswith
  rw [Bool.and_eq_true, decide_eq_true_eq, subAt_eq, beq_iff_eq, Nat.zero_add, List.drop_zero]
  constructor
  · rintro ⟨h1, h2⟩
    exact ⟨x.cps.toList.drop w.length, by rw [← h2, List.take_append_drop]⟩
  · rintro ⟨M, h⟩
    have hl := congrArg List.length h
    rw [List.length_append, cps_len, cps_len] at hl
    refine ⟨by (first | lia | omega), ?_⟩
    rw [h, ← cps_len w, List.take_left]
theorem ematch2_iff (x wl : Str) (A : List Str) {p : Nat} (hp : p ≤ x.length) : ematch2 x (A ++ [wl]) (p : Int) = true ↔ ∃ M, x.cps.toList.drop p = M ++ wl.cps.toList ∧ Fits (A.map fun w => w.cps.toList) M := by
  unfold ematch2
  have e1 : (A ++ [wl]).getLastD Str.empty = wl := by simp
  have e2 : (A ++ [wl]).eraseIdx ((A ++ [wl]).length - 1) = A := by
    rw [List.eraseIdx_append_of_length_le (by simp)]; simp
  rw [e1, e2]
  by_cases h0 : wl.length ≠ 0
  · rw [if_pos h0]
    by_cases he : Txt.endswith x wl = true
    · rw [if_pos he]
      obtain ⟨N, hN⟩ := ends_iff.mp he
      have hl := congrArg List.length hN
      rw [List.length_append, cps_len, cps_len] at hl
      by_cases hpe : (p : Int) > (x.length : Int) - (wl.length : Int)
      · rw [if_pos hpe]
        constructor
        · intro h; cases h
        · rintro ⟨M, h, _⟩
          have := congrArg List.length h
          rw [List.length_drop, List.length_append, cps_len, cps_len] at this
          (first | lia | omega)
      · rw [if_neg hpe, show (x.length : Int) - (wl.length : Int) = ((x.length - wl.length : Nat) : Int) by (first | lia | omega), findAll_iff x (by (first | lia | omega)) A p (by (first | lia | omega))]
        have ht : x.cps.toList.take (x.length - wl.length) = N := by rw [hN, show x.length - wl.length = N.length by (first | lia | omega), List.take_left]
        rw [ht]
        have hd : x.cps.toList.drop p = N.drop p ++ wl.cps.toList := by rw [hN, List.drop_append_of_le_length (by (first | lia | omega))]
        constructor
        · exact fun hf => ⟨_, hd, hf⟩
        · rintro ⟨M, h, hf⟩
          rw [hd] at h
          have := List.append_inj_left' h rfl
          rw [this]; exact hf
    · rw [if_neg he]
      constructor
      · intro h; cases h
      · rintro ⟨M, h, _⟩
        refine absurd (ends_iff.mpr ⟨x.cps.toList.take p ++ M, ?_⟩) he
        rw [List.append_assoc, ← h, List.take_append_drop]
  · rw [if_neg h0, if_neg (by (first | lia | omega)), findAll_iff x (Nat.le_refl _) _ p hp]
    have hw : wl.cps.toList = [] := List.eq_nil_of_length_eq_zero (by rw [cps_len]; (first | lia | omega))
    rw [List.map_append, List.map_cons, List.map_nil, hw, Fits_snoc_nil, List.take_of_length_le (by rw [cps_len]; exact Nat.le_refl _)]
    constructor
    · exact fun hf => ⟨_, (List.append_nil _).symm, hf⟩
    · rintro ⟨M, h, hf⟩
      rw [List.append_nil] at h; rw [h]; exact hf
theorem ematch_iff {want got w0 wl : Str} {mid : List Str} (hw : want.cps.toList = joinD (w0 :: (mid ++ [wl]))) (hf : ∀ w ∈ w0 :: (mid ++ [wl]), 46 ∉ w.cps.toList) :
    ematch want got = true ↔ ∃ M, got.cps.toList = w0.cps.toList ++ (M ++ wl.cps.toList) ∧ Fits (mid.map fun w => w.cps.toList) M := by
  obtain ⟨v, r, hvr⟩ : ∃ v r, mid ++ [wl] = v :: r := by cases mid with
    | nil => exact ⟨_, _, rfl⟩
    | cons a b => exact ⟨_, _, rfl⟩
  have hs := split_joinD (hvr ▸ hw) (hvr ▸ hf)
  rw [← hvr] at hs
  unfold ematch
  rw [hs.1, hs.2, if_pos rfl]
  show (if w0.length ≠ 0 then (if Txt.startswith got w0 then ematch2 got (mid ++ [wl]) w0.length else false) else ematch2 got (w0 :: (mid ++ [wl])) 0) = true ↔ _
  by_cases h0 : w0.length ≠ 0
  · rw [if_pos h0]
    by_cases h1 : Txt.startswith got w0 = true
    · rw [if_pos h1]
      obtain ⟨N, hN⟩ := starts_iff.mp h1
      have hl := congrArg List.length hN
      rw [List.length_append, cps_len, cps_len] at hl
      rw [ematch2_iff got wl mid (by (first | lia | omega)), hN, ← cps_len w0, List.drop_left]
      simp only [List.append_cancel_left_eq]
    · rw [if_neg h1]
      constructor
      · intro h; cases h
      · rintro ⟨M, h, _⟩
        exact absurd (starts_iff.mpr ⟨_, h⟩) h1
  · rw [if_neg h0]
    have hw0 : w0.cps.toList = [] := List.eq_nil_of_length_eq_zero (by rw [cps_len]; (first | lia | omega))
    rw [show w0 :: (mid ++ [wl]) = (w0 :: mid) ++ [wl] from rfl]
    rw [show (0 : Int) = ((0 : Nat) : Int) from rfl, ematch2_iff got wl (w0 :: mid) (Nat.zero_le _), List.drop_zero, List.map_cons, hw0]
    simp only [List.nil_append, Fits_nilpiece]
end Mine
end
section
namespace Mine.G1
def tabP (m : Nat) : List Nat := List.replicate m 32 ++ [9]
def PP.wl (P : PP) : List Nat := match P.l with
  | none => List.replicate P.b 32
  | some l => List.replicate l 32 ++ 9 :: List.replicate P.b 32
def PP.Mid (P : PP) (ms : List Nat) (w : List Nat) : Prop := ∃ M, w = M ++ P.wl ∧ Fits (ms.map tabP) M
def PP.Ex (P : PP) : List Nat → List Nat → Prop
  | [], w => if P.dots = true then P.Mid P.ms w else w = List.replicate P.b 32
  | f :: fs, w => ∃ v, w = List.replicate f 32 ++ 9 :: v ∧ P.Ex fs v
def PP.Lg (P : PP) : Ph → List Nat → Prop
  | .dead, _ => False
  | .ex f fs, w => P.Ex (f :: fs) w
  | .fini, w => w = List.replicate P.b 32
  | .mid m ms, w => P.Mid (m :: ms) w
  | .fin g, w => (P.l ≠ none ∧ g = true ∧ w = List.replicate P.b 32) ∨ ∃ M, w = M ++ P.wl
theorem rep9 : ∀ (a b : Nat) (x y : List Nat), List.replicate a 32 ++ (9 :: x) = List.replicate b 32 ++ (9 :: y) → a = b ∧ x = y
  | 0, 0, x, y, h => ⟨rfl, by simpa using h⟩
  | 0, b + 1, x, y, h => by simp [List.replicate_succ] at h
  | a + 1, 0, x, y, h => by simp [List.replicate_succ] at h
  | a + 1, b + 1, x, y, h => by
    rw [List.replicate_succ, List.replicate_succ, List.cons_append, List.cons_append] at h
    have := rep9 a b x y (List.cons.inj h).2
    exact ⟨by (first | lia | omega), this.2⟩
theorem rep9_no {a b : Nat} {x : List Nat} (h : List.replicate a 32 ++ (9 :: x) = List.replicate b 32) : False := by
  have : (9 : Nat) ∈ List.replicate b 32 := by rw [← h]; simp
  simp at this
theorem first_tab : ∀ (r : Nat) (w a x : List Nat), List.replicate r 32 ++ (9 :: w) = a ++ (9 :: x) → (a = List.replicate r 32 ∧ w = x) ∨ ∃ a', a = List.replicate r 32 ++ (9 :: a') ∧ w = a' ++ (9 :: x)
  | 0, w, [], x, h => .inl ⟨rfl, by simpa using h⟩
  | 0, w, c :: a, x, h => by
    simp only [List.replicate_zero, List.nil_append, List.cons_append, List.cons.injEq] at h
    exact .inr ⟨a, by simp [h.1], h.2⟩
  | r + 1, w, [], x, h => by simp [List.replicate_succ] at h
  | r + 1, w, c :: a, x, h => by
    simp only [List.replicate_succ, List.cons_append, List.cons.injEq] at h
    rcases first_tab r w a x h.2 with ⟨e, q⟩ | ⟨a', e, q⟩
    · exact .inl ⟨by rw [e, ← h.1, List.replicate_succ], q⟩
    · exact .inr ⟨a', by rw [e, ← h.1, List.replicate_succ, List.cons_append], q⟩
theorem rep_ends {r m : Nat} {a : List Nat} (h : List.replicate r 32 = a ++ List.replicate m 32) : m ≤ r := by
  have := congrArg List.length h
  simp at this; (first | lia | omega)
theorem rep_more {r m : Nat} (h : m ≤ r) : List.replicate r 32 = List.replicate (r - m) 32 ++ List.replicate m 32 := by
  rw [List.replicate_append_replicate]; congr 1; (first | lia | omega)
theorem ends_bl : ∀ (b r : Nat) (w M : List Nat), List.replicate r 32 ++ (9 :: w) = M ++ List.replicate b 32 → ∃ M', M = List.replicate r 32 ++ (9 :: M') ∧ w = M' ++ List.replicate b 32
  | b, 0, w, [], h => by
    have := rep9_no (a := 0) (b := b) (x := w) (by simpa using h)
    exact this.elim
  | b, 0, w, c :: M, h => by
    simp only [List.replicate_zero, List.nil_append, List.cons_append, List.cons.injEq] at h
    exact ⟨M, by simp [h.1], h.2⟩
  | b, r + 1, w, [], h => (rep9_no (a := r + 1) (b := b) (x := w) (by simpa using h)).elim
  | b, r + 1, w, c :: M, h => by
    simp only [List.replicate_succ, List.cons_append, List.cons.injEq] at h
    obtain ⟨M', e, q⟩ := ends_bl b r w M h.2
    exact ⟨M', by rw [e, ← h.1, List.replicate_succ, List.cons_append], q⟩
theorem PP.wl_eq (P : PP) : (P.l = none ∧ P.wl = List.replicate P.b 32) ∨ ∃ l, P.l = some l ∧ P.wl = List.replicate l 32 ++ (9 :: List.replicate P.b 32) := by
  unfold PP.wl
  rcases P.l with _ | l
  · exact .inl ⟨rfl, rfl⟩
  · exact .inr ⟨l, rfl, rfl⟩
theorem PP.fin_nil (P : PP) (g : Bool) (r : Nat) : P.Lg (.fin g) (List.replicate r 32) ↔ P.acc (.fin g) r = true := by
  unfold PP.Lg PP.acc
  rcases P.wl_eq with ⟨e, q⟩ | ⟨l, e, q⟩
  · rw [e, q]
    simp only [ne_eq, not_true_eq_false, false_and, false_or, decide_eq_true_eq]
    exact ⟨fun ⟨M, h⟩ => rep_ends h, fun h => ⟨_, rep_more h⟩⟩
  · rw [e, q]
    simp only [ne_eq, reduceCtorEq, not_false_eq_true, true_and, Bool.and_eq_true, decide_eq_true_eq]
    constructor
    · rintro (⟨h1, h2⟩ | ⟨M, h⟩)
      · exact ⟨h1, by simpa using congrArg List.length h2⟩
      · have : (9 : Nat) ∈ List.replicate r 32 := by rw [h]; simp
        simp at this
    · rintro ⟨h1, h2⟩
      exact .inl ⟨h1, by rw [h2]⟩
theorem PP.fin_tab (P : PP) (g : Bool) (r : Nat) (w : List Nat) : P.Lg (.fin g) (List.replicate r 32 ++ (9 :: w)) ↔ P.Lg (.fin (P.good r)) w := by
  unfold PP.Lg PP.good
  rcases P.wl_eq with ⟨e, q⟩ | ⟨l, e, q⟩
  · rw [e, q]
    simp only [ne_eq, not_true_eq_false, false_and, false_or]
    constructor
    · rintro ⟨M, h⟩
      obtain ⟨M', _, q⟩ := ends_bl _ _ _ _ h
      exact ⟨M', q⟩
    · rintro ⟨M, h⟩
      exact ⟨List.replicate r 32 ++ (9 :: M), by rw [h]; simp⟩
  · rw [e, q]
    simp only [ne_eq, reduceCtorEq, not_false_eq_true, true_and, decide_eq_true_eq]
    constructor
    · rintro (⟨_, h⟩ | ⟨M, h⟩)
      · exact (rep9_no h).elim
      · rw [← List.append_assoc] at h
        rcases first_tab _ _ _ _ h with ⟨h1, h2⟩ | ⟨a', h1, h2⟩
        · exact .inl ⟨rep_ends h1.symm, h2⟩
        · rcases ends_bl _ _ _ _ h1.symm with ⟨M', _, h3⟩
          exact .inr ⟨M', by rw [h2, h3, List.append_assoc]⟩
    · rintro (⟨h1, h2⟩ | ⟨M, h⟩)
      · exact .inr ⟨List.replicate (r - l) 32, by rw [h2, ← List.append_assoc, ← rep_more h1]⟩
      · exact .inr ⟨List.replicate r 32 ++ (9 :: M), by rw [h]; simp⟩
theorem PP.mids_Lg (P : PP) (ms : List Nat) (w : List Nat) : P.Lg (mids ms) w ↔ P.Mid ms w := by
  cases ms with
  | nil =>
    unfold mids PP.Lg PP.Mid
    simp only [Bool.false_eq_true, false_and, and_false, false_or, List.map_nil]
    exact ⟨fun ⟨M, h⟩ => ⟨M, h, trivial⟩, fun ⟨M, h, _⟩ => ⟨M, h⟩⟩
  | cons m ms => exact Iff.rfl
theorem PP.mid_nil (P : PP) (m : Nat) (ms : List Nat) (r : Nat) : ¬ P.Mid (m :: ms) (List.replicate r 32) := by
  rintro ⟨M, h, a, b, e, _⟩
  have : (9 : Nat) ∈ List.replicate r 32 := by rw [h, e]; simp [tabP]
  simp at this
theorem PP.mid_tab (P : PP) (m : Nat) (ms : List Nat) (r : Nat) (w : List Nat) : P.Mid (m :: ms) (List.replicate r 32 ++ (9 :: w)) ↔ P.Lg (P.nx (.mid m ms) r) w := by
  have drop : ∀ a' : List Nat, P.Mid (m :: ms) w → P.Mid ms w := fun _ ⟨M, h, a, b, e, f⟩ => ⟨M, h, by rw [e]; exact (Fits.mono f).mono⟩
  have key : P.Mid (m :: ms) (List.replicate r 32 ++ (9 :: w)) ↔ (m ≤ r ∧ P.Mid ms w) ∨ P.Mid (m :: ms) w := by
    constructor
    · rintro ⟨M, h, a, b, e, f⟩
      rw [e] at h
      have h' : List.replicate r 32 ++ (9 :: w) = (a ++ List.replicate m 32) ++ (9 :: (b ++ P.wl)) := by rw [h]; simp [tabP]
      rcases first_tab _ _ _ _ h' with ⟨h1, h2⟩ | ⟨a', h1, h2⟩
      · exact .inl ⟨rep_ends h1.symm, b, h2, f⟩
      · obtain ⟨M', _, h3⟩ := ends_bl _ _ _ _ h1.symm
        exact .inr ⟨M' ++ (tabP m ++ b), by rw [h2, h3]; simp [tabP], M', b, rfl, f⟩
    · rintro (⟨h1, M, h, f⟩ | ⟨M, h, f⟩)
      · exact ⟨List.replicate r 32 ++ (9 :: M), by rw [h]; simp, List.replicate (r - m) 32, M, by unfold tabP; rw [rep_more h1, List.append_assoc, List.append_assoc]; rfl, f⟩
      · refine ⟨List.replicate r 32 ++ (9 :: M), by rw [h]; simp, ?_⟩
        have := Fits.mono (a := List.replicate r 32 ++ [9]) f
        simpa using this
  rw [key]
  show _ ↔ P.Lg (if m ≤ r then mids ms else .mid m ms) w
  by_cases c : m ≤ r
  · rw [if_pos c, P.mids_Lg]
    exact ⟨fun h => h.elim (fun h => h.2) (drop []), fun h => .inl ⟨c, h⟩⟩
  · rw [if_neg c]
    exact ⟨fun h => h.elim (fun h => absurd h.1 c) id, .inr⟩
theorem PP.start_Lg (P : PP) (fs : List Nat) (w : List Nat) : P.Lg (P.start fs) w ↔ P.Ex fs w := by
  cases fs with
  | nil =>
    unfold PP.start PP.Ex
    by_cases c : P.dots = true
    · simp only [c, if_true]; exact P.mids_Lg _ _
    · simp only [c]; exact Iff.rfl
  | cons f fs => exact Iff.rfl
theorem PP.Lg_nil (P : PP) (ph : Ph) (r : Nat) : P.Lg ph (List.replicate r 32) ↔ P.acc ph r = true := by
  cases ph with
  | dead => exact ⟨fun h => h.elim, fun h => nomatch h⟩
  | ex f fs =>
    refine ⟨fun ⟨v, h, _⟩ => (rep9_no h.symm).elim, fun h => nomatch h⟩
  | fini =>
    show _ = _ ↔ decide _ = true
    rw [decide_eq_true_eq]
    exact ⟨fun h => by simpa using congrArg List.length h, fun h => by rw [h]⟩
  | mid m ms => exact ⟨fun h => (P.mid_nil m ms r h).elim, fun h => nomatch h⟩
  | fin g => exact P.fin_nil g r
theorem PP.Lg_tab (P : PP) (ph : Ph) (r : Nat) (w : List Nat) : P.Lg ph (List.replicate r 32 ++ (9 :: w)) ↔ P.Lg (P.nx ph r) w := by
  cases ph with
  | dead => exact Iff.rfl
  | ex f fs =>
    show (∃ v, _ ∧ _) ↔ P.Lg (if r = f then P.start fs else .dead) w
    constructor
    · rintro ⟨v, h, q⟩
      obtain ⟨h1, h2⟩ := rep9 _ _ _ _ h
      rw [if_pos h1, P.start_Lg, h2]; exact q
    · intro h
      by_cases c : r = f
      · rw [if_pos c, P.start_Lg] at h
        exact ⟨w, by rw [c], h⟩
      · rw [if_neg c] at h; exact h.elim
  | fini => exact ⟨fun h => (rep9_no h).elim, fun h => h.elim⟩
  | mid m ms => exact P.mid_tab m ms r w
  | fin g => exact P.fin_tab g r w
theorem PP.run_Lg (P : PP) : ∀ (w : List Nat) (q : (Nat × Nat) × Ph), (∀ c ∈ w, c = 32 ∨ c = 9) → (P.acc (w.foldl P.step q).2 (w.foldl P.step q).1.2 = true ↔ P.Lg q.2 (List.replicate q.1.2 32 ++ w))
  | [], q, _ => by rw [List.append_nil, P.Lg_nil]; rfl
  | c :: w, q, h => by
    have ih := P.run_Lg w (P.step q c) fun d hd => h d (List.mem_cons_of_mem _ hd)
    rw [List.foldl_cons, ih]
    rcases h c (List.mem_cons_self ..) with rfl | rfl
    · show P.Lg q.2 (List.replicate (q.1.2 + 1) 32 ++ w) ↔ _
      have : List.replicate (q.1.2 + 1) 32 ++ w = List.replicate q.1.2 32 ++ (32 :: w) := by
        rw [List.replicate_succ']; simp
      rw [this]
    · show P.Lg (P.nx q.2 q.1.2) (List.replicate 0 32 ++ w) ↔ _
      rw [P.Lg_tab, List.replicate_zero, List.nil_append]
theorem PP.ok_iff (P : PP) (fs w : List Nat) (h : ∀ c ∈ w, c = 32 ∨ c = 9) : P.ok fs w = true ↔ P.Ex fs w := by
  unfold PP.ok PP.st
  rw [P.run_Lg w _ h, P.start_Lg]
  exact Iff.rfl
end Mine.G1
end
section
open PySem PySem.W PyProof.Rows PySem.Calls PyProof.V PySem.Spec
namespace Mine
def cast (l : List Nat) : List Int := l.map fun n : Nat => (n : Int)
def body (rs : List Nat) : List Nat := rs.flatMap fun r => List.replicate r 32 ++ [9]
def lineL (rs : List Nat) (b : Nat) : List Nat := body rs ++ List.replicate b 32 ++ [120, 32, 9]
theorem cps_app (x y : Str) : (x ++ y).cps.toList = x.cps.toList ++ y.cps.toList := by
  show (x.cps ++ y.cps).toList = _
  simp
theorem join_cps : ∀ l : List Str, (Str.join (Str.ofString "") l).cps.toList = l.flatMap fun x => x.cps.toList
  | [] => rfl
  | [x] => by simp [Str.join]
  | x :: y :: r => by
    have ih := join_cps (y :: r)
    show (x ++ Str.ofString "" ++ Str.join (Str.ofString "") (y :: r)).cps.toList = _
    rw [cps_app, cps_app, ih, List.flatMap_cons]
    have : (Str.ofString "").cps.toList = [] := rfl
    rw [this, List.append_nil]; simp [List.flatMap_cons]
theorem ws_sp (r : Nat) (l : List Nat) (count : List Int) : ∀ b n nt, wsGo (List.replicate r 32 ++ l) count b n nt = wsGo l count (b + r) (n + r) nt := by
  induction r with
  | zero => intro b n nt; rfl
  | succ r ih =>
    intro b n nt
    rw [List.replicate_succ, List.cons_append, wsGo, if_pos rfl, ih]
    congr 1 <;> (first | lia | omega)
theorem ws_body : ∀ (rs : List Nat) (l : List Nat) (count : List Int) (n nt : Nat), wsGo (body rs ++ l) count 0 n nt = wsGo l (rs.foldl bump count) 0 (n + rs.sum + rs.length) (nt + rs.length)
  | [], l, count, n, nt => by simp [body]
  | r :: rs, l, count, n, nt => by
    have e : body (r :: rs) ++ l = List.replicate r 32 ++ (9 :: (body rs ++ l)) := by simp [body]
    rw [e, ws_sp, wsGo, if_neg (by decide), if_pos rfl, ws_body rs, List.foldl_cons, Nat.zero_add]
    congr 1 <;> simp <;> (first | lia | omega)
def cnt (rs : List Nat) : List Int := rs.foldl bump []
def top (rs : List Nat) : Nat := rs.foldl (fun m r => max m (r + 1)) 0
theorem bump_get (count : List Int) (b i : Nat) : (bump count b).getD i 0 = count.getD i 0 + if i = b then 1 else 0 := by
  have hw : ∀ j, (wide count b).getD j 0 = count.getD j 0 := by
    intro j
    unfold wide
    split
    · simp only [List.getD_eq_getElem?_getD, List.getElem?_append, List.getElem?_replicate]
      split
      · rfl
      · split
        · rename_i h _; simp [List.getElem?_eq_none (by (first | lia | omega) : count.length ≤ j)]
        · rename_i h _; simp [List.getElem?_eq_none (by (first | lia | omega) : count.length ≤ j)]
    · rfl
  have hl := wide_len (count := count) (b := b)
  unfold bump
  rw [List.getD_eq_getElem?_getD, List.getElem?_set]
  by_cases h : b = i
  · subst h
    rw [if_pos rfl, if_pos (by (first | lia | omega)), if_pos rfl, hw]; rfl
  · rw [if_neg h, if_neg (fun q => h q.symm), ← List.getD_eq_getElem?_getD, hw]; (first | lia | omega)
theorem cnt_go : ∀ (rs : List Nat) (count : List Int) (i : Nat), (rs.foldl bump count).getD i 0 = count.getD i 0 + (rs.count i : Int) ∧ (rs.foldl bump count).length = rs.foldl (fun m r => max m (r + 1)) count.length
  | [], count, i => by simp
  | r :: rs, count, i => by
    rw [List.foldl_cons]
    obtain ⟨h1, h2⟩ := cnt_go rs (bump count r) i
    refine ⟨?_, ?_⟩
    · rw [h1, bump_get, List.count_cons]
      by_cases h : i = r
      · subst h; simp; (first | lia | omega)
      · have : ¬ r = i := fun q => h q.symm
        simp [h, this]
    · rw [h2, bump_len, List.foldl_cons]
theorem cnt_get (rs : List Nat) (i : Nat) : (cnt rs).getD i 0 = (rs.count i : Int) := by
  have := (cnt_go rs [] i).1; simpa [cnt] using this
theorem cnt_len (rs : List Nat) : (cnt rs).length = top rs := (cnt_go rs [] 0).2
theorem top_ge : ∀ (rs : List Nat) (m : Nat), m ≤ rs.foldl (fun m r => max m (r + 1)) m ∧ ∀ r ∈ rs, r < rs.foldl (fun m r => max m (r + 1)) m
  | [], m => by simp
  | r :: rs, m => by
    obtain ⟨h1, h2⟩ := top_ge rs (max m (r + 1))
    rw [List.foldl_cons]
    refine ⟨by (first | lia | omega), fun x hx => ?_⟩
    rcases List.mem_cons.mp hx with rfl | hx
    · (first | lia | omega)
    · exact h2 x hx
theorem top_le {K : Nat} : ∀ (rs : List Nat) (m : Nat), m ≤ K → (∀ r ∈ rs, r < K) → rs.foldl (fun m r => max m (r + 1)) m ≤ K
  | [], m, h, _ => h
  | r :: rs, m, h, hr => top_le rs _ (by have := hr r (List.mem_cons_self ..); show max m (r + 1) ≤ K; (first | lia | omega)) fun x hx => hr x (List.mem_cons_of_mem _ hx)
theorem top_hit : ∀ (rs : List Nat) (m : Nat), rs.foldl (fun m r => max m (r + 1)) m = m ∨ ∃ r ∈ rs, r + 1 = rs.foldl (fun m r => max m (r + 1)) m
  | [], m => .inl rfl
  | r :: rs, m => by
    rw [List.foldl_cons]
    rcases top_hit rs (max m (r + 1)) with h | ⟨x, hx, h⟩
    · by_cases q : m ≤ r + 1
      · exact .inr ⟨r, List.mem_cons_self .., by rw [h]; (first | lia | omega)⟩
      · left; rw [h]; (first | lia | omega)
    · exact .inr ⟨x, List.mem_cons_of_mem _ hx, h⟩
theorem cnt_eq (rs : List Nat) : cnt rs = (List.range (top rs)).map fun i => (rs.count i : Int) := by
  apply List.ext_getElem?
  intro i
  rw [List.getElem?_map]
  by_cases h : i < top rs
  · rw [List.getElem?_range h, List.getElem?_eq_getElem (by rw [cnt_len]; exact h)]
    have := cnt_get rs i
    rw [List.getD_eq_getElem?_getD, List.getElem?_eq_getElem (by rw [cnt_len]; exact h)] at this
    simpa using this
  · rw [List.getElem?_eq_none (by rw [cnt_len]; (first | lia | omega)), List.getElem?_eq_none (by simp; (first | lia | omega))]; rfl
end Mine
end
section
open PySem PySem.W PyProof.Rows PySem.Calls PyProof.V PySem.Spec
namespace Mine
def S (w : Nat) (g : Nat → Int) (n : Nat) : Int := d2i w ((List.range n).map g)
theorem S_succ (w : Nat) (g : Nat → Int) (n : Nat) : S w g (n + 1) = S w g n + g n * 2 ^ (w * n) := by
  unfold S
  rw [List.range_succ, List.map_append, d2i_append]
  simp [d2i]
theorem S_zero (w : Nat) (g : Nat → Int) : S w g 0 = 0 := rfl
theorem S_sub (w : Nat) (g h : Nat → Int) : ∀ n, S w (fun k => g k - h k) n = S w g n - S w h n
  | 0 => rfl
  | n + 1 => by rw [S_succ, S_succ, S_succ, S_sub w g h n, Int.sub_mul]; (first | lia | omega)
theorem S_add (w : Nat) (g : Nat → Int) (a : Nat) : ∀ n, S w g (a + n) = S w g a + 2 ^ (w * a) * S w (fun k => g (k + a)) n
  | 0 => by simp [S_zero]
  | n + 1 => by
    rw [← Nat.add_assoc, S_succ, S_succ, S_add w g a n, Int.mul_add, Nat.mul_add, Int.pow_add]
    have : g (a + n) = g (n + a) := by rw [Nat.add_comm]
    rw [this]
    have : g (n + a) * (2 ^ (w * a) * 2 ^ (w * n)) = 2 ^ (w * a) * (g (n + a) * 2 ^ (w * n)) := by
      rw [← Int.mul_assoc, Int.mul_comm (g (n + a)), Int.mul_assoc]
    (first | lia | omega)
theorem S_zeros (w : Nat) (g : Nat → Int) (a : Nat) (h : ∀ k, a ≤ k → g k = 0) : ∀ n, S w g (a + n) = S w g a
  | 0 => rfl
  | n + 1 => by rw [← Nat.add_assoc, S_succ, S_zeros w g a h n, h _ (by (first | lia | omega))]; (first | lia | omega)
theorem S_tail (w : Nat) (g : Nat → Int) {a n : Nat} (h : ∀ k, a ≤ k → g k = 0) (hn : a ≤ n) : S w g n = S w g a := by
  have := S_zeros w g a h (n - a)
  rwa [show a + (n - a) = n by (first | lia | omega)] at this
theorem S_nonneg (w : Nat) (g : Nat → Int) (h : ∀ k, 0 ≤ g k) : ∀ n, 0 ≤ S w g n
  | 0 => Int.le_refl _
  | n + 1 => by
    rw [S_succ]
    have := S_nonneg w g h n
    have h2 := Int.mul_nonneg (h n) (Int.le_of_lt (pow_pos' (w * n)))
    (first | lia | omega)
theorem S_bound (w : Nat) (g : Nat → Int) (C : Int) (hC : ∀ k, g k ≤ C) : ∀ n, S w g n * (2 ^ w - 1) ≤ C * (2 ^ (w * n) - 1)
  | 0 => by simp [S_zero]
  | n + 1 => by
    have ih := S_bound w g C hC n
    rw [S_succ, Int.add_mul, Nat.mul_add, Nat.mul_one, Int.pow_add]
    have hp := pow_pos' (w * n)
    have hw := pow_pos' w
    have h1 : g n * 2 ^ (w * n) * (2 ^ w - 1) ≤ C * 2 ^ (w * n) * (2 ^ w - 1) :=
      Int.mul_le_mul_of_nonneg_right (Int.mul_le_mul_of_nonneg_right (hC n) (Int.le_of_lt hp)) (by (first | lia | omega))
    have h2 : C * 2 ^ (w * n) * (2 ^ w - 1) = C * (2 ^ (w * n) * 2 ^ w) - C * 2 ^ (w * n) := by
      rw [Int.mul_sub, Int.mul_one, Int.mul_assoc]
    have h3 : C * (2 ^ (w * n) - 1) = C * 2 ^ (w * n) - C := by rw [Int.mul_sub, Int.mul_one]
    have h4 : C * (2 ^ (w * n) * 2 ^ w - 1) = C * (2 ^ (w * n) * 2 ^ w) - C := by rw [Int.mul_sub, Int.mul_one]
    (first | lia | omega)
theorem geo_div {w s L : Nat} (f R : Nat → Int) (hf : ∀ k, f k = R k - R (k + s)) (hz : ∀ k, L ≤ k → R k = 0) :
    S w f L = S w (fun k => R (k + s)) L * (2 ^ (w * s) - 1) + S w R s := by
  have e1 : S w f L = S w R L - S w (fun k => R (k + s)) L := by
    have : f = fun k => R k - R (k + s) := funext hf
    rw [this, S_sub]
  have e2 : S w R L = S w R (s + L) := (S_tail w R hz (by (first | lia | omega))).symm
  rw [S_add] at e2
  rw [e1, e2, Int.mul_sub, Int.mul_one, Int.mul_comm (2 ^ (w * s))]
  (first | lia | omega)
theorem geo_divmod {w s L : Nat} (f R : Nat → Int) (hw : 4 ≤ w) (hs : 1 ≤ s) (hf : ∀ k, f k = R k - R (k + s)) (hz : ∀ k, L ≤ k → R k = 0) (h0 : ∀ k, 0 ≤ R k) (h7 : ∀ k, R k ≤ 7) :
    S w f L / (2 ^ (w * s) - 1) = S w (fun k => R (k + s)) L ∧ S w f L % (2 ^ (w * s) - 1) = S w R s := by
  have hM : (15 : Int) ≤ 2 ^ (w * s) - 1 := by
    have : (2 : Int) ^ 4 ≤ 2 ^ (w * s) := ipow_le (Nat.le_trans hw (Nat.le_mul_of_pos_right _ hs))
    have e : (2 : Int) ^ 4 = 16 := rfl
    (first | lia | omega)
  have hW : (15 : Int) ≤ 2 ^ w - 1 := by
    have : (2 : Int) ^ 4 ≤ 2 ^ w := ipow_le hw
    have e : (2 : Int) ^ 4 = 16 := rfl
    (first | lia | omega)
  have hb := S_bound w R 7 h7 s
  have hn := S_nonneg w R h0 s
  have hlt : S w R s < 2 ^ (w * s) - 1 := by
    refine Classical.byContradiction fun q => ?_
    have q' : 2 ^ (w * s) - 1 ≤ S w R s := by (first | lia | omega)
    have h1 : (2 ^ (w * s) - 1) * 15 ≤ S w R s * (2 ^ w - 1) := Int.mul_le_mul q' hW (by decide) hn
    (first | lia | omega)
  have := divmod_of (geo_div (w := w) f R hf hz) hn hlt
  exact ⟨this.1.symm, this.2.symm⟩
theorem digs_d2i {w : Nat} : ∀ xs : List Int, (∀ x ∈ xs, 0 ≤ x ∧ x < 2 ^ w) → digs w xs.length (d2i w xs) = xs ∧ 0 ≤ d2i w xs ∧ d2i w xs < 2 ^ (w * xs.length)
  | [], _ => by simp [digs, d2i]
  | x :: r, h => by
    obtain ⟨h1, h2, h3⟩ := digs_d2i r fun y hy => h y (List.mem_cons_of_mem _ hy)
    have hx := h x (List.mem_cons_self ..)
    have hp := pow_pos' w
    have hn : 0 ≤ d2i w r * 2 ^ w := Int.mul_nonneg h2 (Int.le_of_lt hp)
    have e1 : (x + d2i w r * 2 ^ w) % 2 ^ w = x := by rw [Int.add_mul_emod_self_right]; exact Int.emod_eq_of_lt hx.1 hx.2
    have e2 : (x + d2i w r * 2 ^ w) / 2 ^ w = d2i w r := by
      rw [Int.add_mul_ediv_right _ _ (Int.ne_of_gt hp), Int.ediv_eq_zero_of_lt hx.1 hx.2, Int.zero_add]
    refine ⟨?_, by rw [d2i]; (first | lia | omega), ?_⟩
    · rw [d2i, List.length_cons]
      have e := digs_split (n := w) (j := 1) (k := r.length) (x := x + d2i w r * 2 ^ w) (by (first | lia | omega))
      rw [Nat.mul_one, e1, e2, h1, digs_one hx.1 hx.2, Nat.add_comm 1] at e
      exact e.symm
    · rw [d2i, List.length_cons, Nat.mul_add, Nat.mul_one, Int.pow_add]
      have : (d2i w r + 1) * 2 ^ w ≤ 2 ^ (w * r.length) * 2 ^ w := Int.mul_le_mul_of_nonneg_right (by (first | lia | omega)) (Int.le_of_lt hp)
      rw [Int.add_mul, Int.one_mul] at this
      (first | lia | omega)
theorem i2d_d2i {w : Nat} (hw : 1 ≤ w) (xs : List Int) (h : ∀ x ∈ xs, 0 ≤ x ∧ x < 2 ^ w) (hl : xs = [] ∨ ∃ ys y, xs = ys ++ [y] ∧ 0 < y) : i2d w (d2i w xs) = xs := by
  obtain ⟨h1, h2, h3⟩ := digs_d2i xs h
  have hlen : (Builtin.Int.intBits (d2i w xs) + w - 1) / w = xs.length := by
    rcases hl with rfl | ⟨ys, y, rfl, hy⟩
    · show (Builtin.Int.intBits 0 + w - 1) / w = 0
      have : Builtin.Int.intBits 0 = 0 := by decide
      rw [this]; exact Nat.div_eq_of_lt (by (first | lia | omega))
    · have hys := (digs_d2i ys fun x hx => h x (List.mem_append_left _ hx)).2.1
      have hge : 2 ^ (w * ys.length) ≤ d2i w (ys ++ [y]) := by
        rw [d2i_append]
        have e : d2i w [y] = y := by simp [d2i]
        rw [e]
        have := Int.mul_le_mul_of_nonneg_right (show (1 : Int) ≤ y by (first | lia | omega)) (Int.le_of_lt (pow_pos' (w * ys.length)))
        (first | lia | omega)
      have hb1 := bits_le' h2 h3
      have hb2 : w * ys.length < Builtin.Int.intBits (d2i w (ys ++ [y])) := by
        refine Nat.lt_of_not_le fun q => ?_
        have := lt_bits h2
        have h4 := ipow_le q
        (first | lia | omega)
      rw [List.length_append, List.length_singleton] at hb1 ⊢
      rw [Nat.mul_add, Nat.mul_one] at hb1
      apply Nat.div_eq_of_lt_le
      · rw [Nat.add_mul, Nat.one_mul, Nat.mul_comm]; (first | lia | omega)
      · rw [Nat.succ_mul, Nat.add_mul, Nat.one_mul, Nat.mul_comm ys.length]; (first | lia | omega)
  unfold i2d
  rw [hlen, h1]
end Mine
end
section
open PySem PySem.W PyProof.Rows PySem.Calls PyProof.V PySem.Spec
namespace Mine
def pw (w : Nat) (rs : List Nat) : Int := (rs.map fun r => (2 : Int) ^ (w * r)).sum
theorem pw_app (w : Nat) : ∀ a b : List Nat, pw w (a ++ b) = pw w a + pw w b
  | [], b => by simp [pw]
  | x :: a, b => by
    have := pw_app w a b
    simp only [pw, List.cons_append, List.map_cons, List.sum_cons] at this ⊢
    (first | lia | omega)
theorem pw_perm (w : Nat) {a b : List Nat} (h : a.Perm b) : pw w a = pw w b := by
  induction h with
  | nil => rfl
  | cons x _ ih => simp only [pw, List.map_cons, List.sum_cons] at ih ⊢; (first | lia | omega)
  | swap x y l => simp only [pw, List.map_cons, List.sum_cons]; (first | lia | omega)
  | trans _ _ h1 h2 => exact h1.trans h2
theorem pw_shift (w x : Nat) : ∀ s : List Nat, pw w (s.map fun b => x + b) = 2 ^ (w * x) * pw w s
  | [] => by simp [pw]
  | y :: s => by
    have := pw_shift w x s
    simp only [pw, List.map_cons, List.sum_cons] at this ⊢
    rw [Int.mul_add, this, Nat.mul_add, Int.pow_add]
theorem pw_mul (w : Nat) (s : List Nat) : ∀ f : List Nat, pw w ((f.map fun a => s.map fun b => a + b).flatten) = pw w f * pw w s
  | [] => by simp [pw]
  | x :: f => by
    have ih := pw_mul w s f
    rw [List.map_cons, List.flatten_cons, pw_app, ih, pw_shift]
    have : pw w (x :: f) = 2 ^ (w * x) + pw w f := rfl
    rw [this, Int.add_mul]
theorem pw_nonneg (w : Nat) : ∀ rs : List Nat, 0 ≤ pw w rs
  | [] => Int.le_refl _
  | x :: rs => by
    have := pw_nonneg w rs
    have := pow_pos' (w * x)
    show 0 ≤ 2 ^ (w * x) + pw w rs
    (first | lia | omega)
theorem pw_ge {w x : Nat} : ∀ {rs : List Nat}, x ∈ rs → 2 ^ (w * x) ≤ pw w rs
  | y :: rs, h => by
    have h0 := pw_nonneg w rs
    have h1 := pow_pos' (w * y)
    show _ ≤ 2 ^ (w * y) + pw w rs
    rcases List.mem_cons.mp h with rfl | h
    · (first | lia | omega)
    · have := pw_ge (w := w) h; (first | lia | omega)
theorem pw_le {w n : Nat} : ∀ {rs : List Nat}, (∀ x ∈ rs, x < n) → pw w rs * 2 ^ w ≤ rs.length * 2 ^ (w * n)
  | [], _ => by simp [pw]
  | y :: rs, h => by
    have ih := pw_le (w := w) fun x hx => h x (List.mem_cons_of_mem _ hx)
    have hy := h y (List.mem_cons_self ..)
    have e : pw w (y :: rs) = 2 ^ (w * y) + pw w rs := rfl
    have h1 : (2 : Int) ^ (w * y) * 2 ^ w ≤ 2 ^ (w * n) := by
      rw [← Int.pow_add]
      refine ipow_le ?_
      have : w * y + w = w * (y + 1) := by rw [Nat.mul_add, Nat.mul_one]
      rw [this]
      exact Nat.mul_le_mul_left _ hy
    rw [e, Int.add_mul, List.length_cons, Int.natCast_add, Int.add_mul]
    (first | lia | omega)
theorem S_congr (w : Nat) {g h : Nat → Int} : ∀ n, (∀ k, k < n → g k = h k) → S w g n = S w h n
  | 0, _ => rfl
  | n + 1, e => by rw [S_succ, S_succ, S_congr w n fun k hk => e k (by (first | lia | omega)), e n (by (first | lia | omega))]
theorem S_ind (w r : Nat) : ∀ n, S w (fun j => if r = j then 1 else 0) n = if r < n then 2 ^ (w * r) else 0
  | 0 => by simp [S_zero]
  | n + 1 => by
    rw [S_succ, S_ind w r n]
    by_cases h : r = n
    · subst h; rw [if_neg (by (first | lia | omega)), if_pos rfl, if_pos (by (first | lia | omega))]; (first | lia | omega)
    · rw [if_neg h]
      by_cases h2 : r < n
      · rw [if_pos h2, if_pos (by (first | lia | omega))]; (first | lia | omega)
      · rw [if_neg h2, if_neg (by (first | lia | omega))]; (first | lia | omega)
theorem S_plus (w : Nat) (g h : Nat → Int) : ∀ n, S w (fun k => g k + h k) n = S w g n + S w h n
  | 0 => rfl
  | n + 1 => by rw [S_succ, S_succ, S_succ, S_plus w g h n, Int.add_mul]; (first | lia | omega)
theorem S_pw (w n : Nat) : ∀ rs : List Nat, (∀ r ∈ rs, r < n) → S w (fun i => (rs.count i : Int)) n = pw w rs
  | [], _ => by
    rw [S_congr w (h := fun k => (fun j : Nat => if (n : Nat) = j then (1 : Int) else 0) k) n (fun k hk => by simp; (first | lia | omega)), S_ind, if_neg (by (first | lia | omega))]; rfl
  | r :: rs, h => by
    have ih := S_pw w n rs fun x hx => h x (List.mem_cons_of_mem _ hx)
    have e : S w (fun i => ((r :: rs).count i : Int)) n = S w (fun i => (rs.count i : Int) + if r = i then 1 else 0) n := S_congr w n fun k _ => by
      rw [List.count_cons]
      by_cases h : r = k <;> simp [h]
    rw [e, S_plus, ih, S_ind, if_pos (h r (List.mem_cons_self ..))]
    show _ = 2 ^ (w * r) + pw w rs
    (first | lia | omega)
theorem top_lt {rs : List Nat} {r : Nat} (h : r ∈ rs) : r < top rs := (top_ge rs 0).2 r h
theorem d2i_cnt (w : Nat) (rs : List Nat) : d2i w (cnt rs) = pw w rs := by
  rw [← S_pw w (top rs) rs fun r hr => top_lt hr]
  unfold S
  rw [cnt_eq]
theorem fdm_pos {a b q r : Int} (h : a = q * b + r) (h0 : 0 ≤ r) (h1 : r < b) : a.fdiv b = q ∧ a.fmod b = r := by
  have hb : 0 < b := by (first | lia | omega)
  have := divmod_of h h0 h1
  rw [Int.fdiv_eq_ediv_of_nonneg _ (by (first | lia | omega)), Int.fmod_eq_emod_of_nonneg _ (by (first | lia | omega))]
  exact ⟨this.1.symm, this.2.symm⟩
theorem fdm_neg {a b q r : Int} (h : a = q * (-b) + r) (h0 : r ≤ 0) (h1 : -b < r) : a.fdiv (-b) = q ∧ a.fmod (-b) = r := by
  have e := fdm_pos (a := -a) (b := b) (q := q) (r := -r) (by rw [h, Int.mul_neg]; (first | lia | omega)) (by (first | lia | omega)) (by (first | lia | omega))
  have e1 := Int.neg_fdiv_neg (-a) b
  have e2 := Int.neg_fmod_neg (-a) b
  rw [Int.neg_neg] at e1 e2
  rw [e1, e2]
  exact ⟨e.1, by (first | lia | omega)⟩
theorem seven {n0 n1 n2 n3 : Int} {k : Nat} (h : n3 = n1 * n0 + n2) (h0 : 0 < n2) (h1 : n2 < n0) :
    (n3.fdiv n0 = n1 ∧ n3.fmod n0 = n2) ∧ ((-n3).fdiv (-n0) = n1 ∧ (-n3).fmod (-n0) = -n2) ∧ ((-n3).fdiv n0 = -n1 - 1 ∧ (-n3).fmod n0 = n0 - n2) ∧ (n3.fdiv (-n0) = -n1 - 1 ∧ n3.fmod (-n0) = n2 - n0) ∧
    ((n2 - n3).fdiv n0 = -n1 ∧ (n2 - n3).fmod n0 = 0) ∧ ((n3 - n2).fdiv (-n0) = -n1 ∧ (n3 - n2).fmod (-n0) = 0) ∧ ((n0 * 2 ^ k - 1).fdiv n0 = 2 ^ k - 1 ∧ (n0 * 2 ^ k - 1).fmod n0 = n0 - 1) := by
  have m1 : n1 * -n0 = -(n1 * n0) := Int.mul_neg ..
  have m2 : (-n1 - 1) * n0 = -(n1 * n0) - n0 := by rw [Int.sub_mul, Int.neg_mul, Int.one_mul]
  have m3 : (-n1 - 1) * -n0 = n1 * n0 + n0 := by rw [Int.sub_mul, Int.one_mul, Int.neg_mul_neg, Int.sub_neg]
  have m4 : -n1 * n0 = -(n1 * n0) := Int.neg_mul ..
  have m5 : -n1 * -n0 = n1 * n0 := Int.neg_mul_neg ..
  have m6 : ((2 : Int) ^ k - 1) * n0 = n0 * 2 ^ k - n0 := by rw [Int.sub_mul, Int.one_mul, Int.mul_comm]
  refine ⟨fdm_pos h (by (first | lia | omega)) h1, fdm_neg (by (first | lia | omega)) (by (first | lia | omega)) (by (first | lia | omega)), fdm_pos (by (first | lia | omega)) (by (first | lia | omega)) (by (first | lia | omega)), fdm_neg (by (first | lia | omega)) (by (first | lia | omega)) (by (first | lia | omega)), fdm_pos (by (first | lia | omega)) (by (first | lia | omega)) (by (first | lia | omega)), fdm_neg (by (first | lia | omega)) (by (first | lia | omega)) (by (first | lia | omega)), fdm_pos (by (first | lia | omega)) (by (first | lia | omega)) (by (first | lia | omega))⟩
end Mine
end
section
namespace Mine.G1
theorem rmul_pow (a b : Rat) : ∀ n : Nat, (a * b) ^ n = a ^ n * b ^ n
  | 0 => by rw [Rat.pow_zero, Rat.pow_zero, Rat.pow_zero]; grind
  | n + 1 => by rw [Rat.pow_succ, Rat.pow_succ, Rat.pow_succ, rmul_pow a b n]; grind
theorem rone_pow : ∀ n : Nat, (1 : Rat) ^ n = 1
  | 0 => Rat.pow_zero _
  | n + 1 => by rw [Rat.pow_succ, rone_pow n, Rat.mul_one]
theorem rpow_mul (a : Rat) (m : Nat) : ∀ n : Nat, a ^ (m * n) = (a ^ m) ^ n
  | 0 => by rw [Nat.mul_zero, Rat.pow_zero, Rat.pow_zero]
  | n + 1 => by rw [Nat.mul_add, Nat.mul_one, rpow_add, Rat.pow_succ, rpow_mul a m n]
theorem icast_pow (a : Int) : ∀ n : Nat, ((a ^ n : Int) : Rat) = (a : Rat) ^ n
  | 0 => by rw [Int.pow_zero, Rat.pow_zero]; rfl
  | n + 1 => by rw [Int.pow_succ, Rat.pow_succ, Rat.intCast_mul, icast_pow a n]
def zw (w : Nat) : Rat := (((2 : Int) ^ w : Int) : Rat)⁻¹
theorem zw_mul (w : Nat) : (((2 : Int) ^ w : Int) : Rat) * zw w = 1 := by
  refine Rat.mul_inv_cancel _ fun e => ?_
  have := pow_pos' w
  have e' : ((2 : Int) ^ w) = 0 := by exact_mod_cast e
  (first | lia | omega)
theorem pow2_pos (w : Nat) : (0 : Rat) < (((2 : Int) ^ w : Int) : Rat) := by exact_mod_cast pow_pos' w
theorem zw_ok {w s : Nat} (hw : 16 ≤ w) (h1 : 1 ≤ s) (h6 : s ≤ 6) : ZOk s (zw w) := by
  have e := zw_mul w
  have p := pow2_pos w
  have g : (65536 : Rat) ≤ (((2 : Int) ^ w : Int) : Rat) := by
    have : (65536 : Int) ≤ 2 ^ w := by
      have := ipow_le hw
      exact this
    have q : ((65536 : Int) : Rat) ≤ _ := Rat.intCast_le_intCast.mpr this
    exact q
  have z0 : 0 < zw w := by
    refine Decidable.byContradiction fun n => ?_
    have := rmul_le (show zw w ≤ 0 by grind) (Rat.le_of_lt p)
    grind
  refine ⟨h1, h6, z0, ?_⟩
  have := rmul_le g (Rat.le_of_lt z0)
  grind
def farR (P : PP) (fs : List Nat) (last : Nat) (l : List (List Nat)) : List Nat := (l.filter fun w => P.ok fs w).map fun w => last - colW P.s w
theorem sum_far {P : PP} {fs : List Nat} {w last : Nat} : ∀ {l : List (List Nat)}, (∀ v ∈ l, colW P.s v ≤ last) →
    sumR (fun v => if P.ok fs v = true then zw w ^ colW P.s v else 0) l * (((2 : Int) ^ (w * last) : Int) : Rat) = ((pw w (farR P fs last l) : Int) : Rat)
  | [], _ => by
    show 0 * _ = ((0 : Int) : Rat)
    rw [Rat.zero_mul]; rfl
  | v :: l, h => by
    have ih := sum_far (P := P) (fs := fs) (w := w) (last := last) fun x hx => h x (List.mem_cons_of_mem _ hx)
    have hv := h v (List.mem_cons_self ..)
    rw [sumR]
    unfold farR at ih ⊢
    by_cases c : P.ok fs v = true
    · rw [if_pos c, List.filter_cons_of_pos c, List.map_cons]
      have e : pw w ((last - colW P.s v) :: ((l.filter fun w => P.ok fs w).map fun w => last - colW P.s w)) = 2 ^ (w * (last - colW P.s v)) + pw w ((l.filter fun w => P.ok fs w).map fun w => last - colW P.s w) := rfl
      rw [e, Rat.intCast_add, ← ih]
      have p : zw w ^ colW P.s v * (((2 : Int) ^ (w * last) : Int) : Rat) = (((2 : Int) ^ (w * (last - colW P.s v)) : Int) : Rat) := by
        have d : w * last = w * colW P.s v + w * (last - colW P.s v) := by rw [← Nat.mul_add]; congr 1; (first | lia | omega)
        rw [d, Int.pow_add, Rat.intCast_mul, Int.pow_mul, icast_pow]
        have q := rmul_pow (((2 : Int) ^ w : Int) : Rat) (zw w) (colW P.s v)
        rw [zw_mul, rone_pow] at q
        rw [Int.pow_mul]
        grind
      grind
    · rw [if_neg c, List.filter_cons_of_neg c]
      grind
theorem quot {P : PP} {fs : List Nat} {w last : Nat} {up down : Int} (hw : 16 ≤ w) (h1 : 1 ≤ P.s) (h6 : P.s ≤ 6) (hl : last ≤ 12) (hd : 0 < down) (e : (up : Rat) = (down : Rat) * P.EX (zw w) fs) :
    ∃ left : Int, up * 2 ^ (w * last) = pw w (farR P fs last (leads P.s last (last + 1))) * down + left ∧ 0 ≤ left ∧ left < down := by
  have h := zw_ok hw h1 h6
  obtain ⟨τ, t, t0, t1⟩ := tail h fs last
  have f := sum_far (P := P) (fs := fs) (w := w) (last := last) (l := leads P.s last (last + 1)) fun v hv => (leads_mem hv).1
  generalize sumR (fun v => if P.ok fs v = true then zw w ^ colW P.s v else 0) (leads P.s last (last + 1)) = Sg at f t
  generalize pw w (farR P fs last (leads P.s last (last + 1))) = Q at f ⊢
  have p : (0 : Rat) < (((2 : Int) ^ (w * last) : Int) : Rat) := pow2_pos _
  have zl : zw w ^ last * (((2 : Int) ^ (w * last) : Int) : Rat) = 1 := by
    rw [Int.pow_mul, icast_pow]
    have q := rmul_pow (((2 : Int) ^ w : Int) : Rat) (zw w) last
    rw [zw_mul, rone_pow] at q
    grind
  have n : ((2 ^ (last + 1) : Nat) : Rat) ≤ 8192 := by
    have : 2 ^ (last + 1) ≤ 8192 := Nat.le_trans (Nat.pow_le_pow_right (by decide) (show last + 1 ≤ 13 by (first | lia | omega))) (by decide)
    exact_mod_cast this
  have τB : 4 * (τ * (((2 : Int) ^ (w * last) : Int) : Rat)) ≤ 1 := by
    have a := rmul_le t1 (Rat.le_of_lt p)
    have z0 := Rat.le_of_lt (rpow_pos h.z0 (last + 1))
    have b := rmul_le n (show 0 ≤ 2 * zw w ^ (last + 1) by grind)
    have c := rmul_le b (Rat.le_of_lt p)
    have d : 8192 * (2 * zw w ^ (last + 1)) * (((2 : Int) ^ (w * last) : Int) : Rat) = 16384 * zw w := by
      rw [Rat.pow_succ]; grind
    have := h.zs
    grind
  have τ0 := Rat.mul_nonneg t0 (Rat.le_of_lt p)
  have dR : (0 : Rat) < (down : Rat) := by exact_mod_cast hd
  refine ⟨up * 2 ^ (w * last) - Q * down, by (first | lia | omega), ?_, ?_⟩
  · have a := Rat.mul_nonneg (Rat.le_of_lt dR) τ0
    have : (0 : Rat) ≤ ((up * 2 ^ (w * last) - Q * down : Int) : Rat) := by
      rw [Rat.intCast_sub, Rat.intCast_mul, Rat.intCast_mul, e, t, ← f]
      grind
    exact_mod_cast this
  · have a := rmul_le τB (Rat.le_of_lt dR)
    have : ((up * 2 ^ (w * last) - Q * down : Int) : Rat) < (down : Rat) := by
      rw [Rat.intCast_sub, Rat.intCast_mul, Rat.intCast_mul, e, t, ← f]
      grind
    exact_mod_cast this
end Mine.G1
end
section
namespace Mine.G1
def lowTo (s : Nat) (unit : Int) (m n : Nat) : Int := ((List.range n).map fun r => unit ^ (m / s - r / s)).sum
def highI (s : Nat) (unit : Int) (m : Nat) : Int := unit ^ (m / s + 1)
def lowI (s : Nat) (unit : Int) (m : Nat) : Int := lowTo s unit m m
def topI (s : Nat) (unit : Int) (m : Nat) : Int := s * highI s unit m - lowI s unit m * (unit - 1)
def fracGo (s : Nat) (unit : Int) : List Nat → Int × Int → Int × Int
  | [], q => q
  | m :: ms, q => fracGo s unit ms (q.1 * topI s unit m, q.2 * (unit - 1) * (highI s unit m - lowI s unit m))
def downF (s b : Nat) (unit base : Int) : Option Nat → Int
  | none => base ^ b
  | some f => base ^ b * unit ^ (f / s + 1)
def fracEnd (s : Nat) (unit base : Int) (l : Option Nat) (dots : Bool) (q : Int × Int) : Int × Int :=
  if dots = true then match l with
    | some l => (q.1 * (unit - 1) * topI s unit l, q.2 * (unit - 1 - s) * (unit - 1) * highI s unit l)
    | none => (q.1 * (unit - 1) * base, q.2 * (unit - 1 - s) * (base - 1))
  else match l with
    | some l => (q.1 * (unit - 1), q.2 * unit ^ (l / s + 1) * (unit - 1))
    | none => (q.1 * (unit - 1), q.2 * (unit - 1))
def frac (s b : Nat) (base : Int) (f : Option Nat) (ms : List Nat) (l : Option Nat) (dots : Bool) : Int × Int :=
  fracEnd s (base ^ s) base l dots (fracGo s (base ^ s) ms (1, downF s b (base ^ s) base f))
def fsOf (f l : Option Nat) (dots : Bool) : List Nat := f.toList ++ if dots = true then [] else l.toList
structure BOk (s : Nat) (z : Rat) (base : Int) : Prop where
  zk : ZOk s z
  e : (base : Rat) * z = 1
section
variable {s : Nat} {z : Rat} {base : Int} (h : BOk s z base)
include h
theorem BOk.pow (n : Nat) : ((base ^ n : Int) : Rat) * z ^ n = 1 := by
  have q := rmul_pow (base : Rat) z n
  rw [h.e, rone_pow] at q
  rw [icast_pow]; exact q.symm
theorem BOk.up (n : Nat) : (((base ^ s) ^ n : Int) : Rat) * z ^ (s * n) = 1 := by
  rw [← Int.pow_mul]; exact h.pow _
theorem BOk.hK (m : Nat) : ((highI s (base ^ s) m : Int) : Rat) * Kz s z m = 1 := h.up _
theorem BOk.lowT (m : Nat) : ∀ n, n ≤ m → ((lowTo s (base ^ s) m n : Int) : Rat) = ((highI s (base ^ s) m : Int) : Rat) * Lz s z n
  | 0, _ => by
    show ((0 : Int) : Rat) = _ * 0
    rw [Rat.mul_zero]; rfl
  | n + 1, hn => by
    have ih := BOk.lowT m n (by (first | lia | omega))
    have e : lowTo s (base ^ s) m (n + 1) = lowTo s (base ^ s) m n + (base ^ s) ^ (m / s - n / s) := by
      unfold lowTo; rw [List.range_succ, List.map_append, List.sum_append]; simp
    rw [e, Rat.intCast_add, ih, Lz]
    have d : n / s ≤ m / s := Nat.div_le_div_right (by (first | lia | omega))
    have k := h.hK n
    have e2 : highI s (base ^ s) m = (base ^ s) ^ (m / s - n / s) * highI s (base ^ s) n := by
      unfold highI; rw [← Int.pow_add]; congr 1; (first | lia | omega)
    have : ((highI s (base ^ s) m : Int) : Rat) * Kz s z n = (((base ^ s) ^ (m / s - n / s) : Int) : Rat) := by
      rw [e2, Rat.intCast_mul]; grind
    grind
theorem BOk.low (m : Nat) : ((lowI s (base ^ s) m : Int) : Rat) = ((highI s (base ^ s) m : Int) : Rat) * Lz s z m := h.lowT m m (Nat.le_refl _)
theorem BOk.pos : (0 : Rat) < (base : Rat) := by
  have e := h.e; have z0 := h.zk.z0
  refine Decidable.byContradiction fun n => ?_
  have := rmul_le (show (base : Rat) ≤ 0 by grind) (Rat.le_of_lt z0)
  grind
theorem BOk.big : (65536 : Rat) ≤ (base : Rat) := by
  have e := h.e; have z0 := h.zk.z0; have p := h.pos; have := h.zk.zs
  have q := rmul_le (show z ≤ 1 / 65536 by grind) (Rat.le_of_lt p)
  grind
theorem BOk.upos (n : Nat) : (0 : Rat) < (((base ^ s) ^ n : Int) : Rat) := by
  rw [icast_pow, icast_pow]; exact rpow_pos (rpow_pos h.pos s) n
theorem BOk.u1 : ((base ^ s : Int) : Rat) * z ^ s = 1 := h.pow s
theorem BOk.ubig : (65536 : Rat) ≤ ((base ^ s : Int) : Rat) := by
  have e := h.u1; have z0 := h.zk.u0; have p := rpow_pos h.pos s
  rw [icast_pow] at e ⊢
  have := h.zk.uz; have := h.zk.zs
  have q := rmul_le (show z ^ s ≤ 1 / 65536 by grind) (Rat.le_of_lt p)
  grind
theorem BOk.uB : (((base ^ s : Int) : Rat) - 1) * Bz s z = s := by
  have e := h.u1; have b := h.zk.bz
  grind
theorem BOk.top (m : Nat) : ((topI s (base ^ s) m : Int) : Rat) = ((highI s (base ^ s) m : Int) : Rat) * (((base ^ s : Int) : Rat) - 1) * Tz s z m := by
  unfold topI
  rw [Rat.intCast_sub, Rat.intCast_mul, Rat.intCast_mul, Rat.intCast_sub, h.low]
  have b := h.uB
  have c : (((s : Nat) : Int) : Rat) = (s : Rat) := rfl
  have o : ((1 : Int) : Rat) = 1 := rfl
  rw [c, o]
  unfold Tz
  grind
theorem BOk.hpos (m : Nat) : (0 : Rat) < ((highI s (base ^ s) m : Int) : Rat) := h.upos _
end
theorem fracGo_is {P : PP} {z : Rat} {base : Int} (h : BOk P.s z base) : ∀ (ms : List Nat) (q : Int × Int), ∃ a b : Rat,
    ((fracGo P.s (base ^ P.s) ms q).1 : Rat) = q.1 * a ∧ ((fracGo P.s (base ^ P.s) ms q).2 : Rat) = q.2 * b ∧ 0 < b ∧ P.EM z ms * b = P.E0 z * a
  | [], q => ⟨1, 1, by rw [Rat.mul_one]; rfl, by rw [Rat.mul_one]; rfl, by decide, rfl⟩
  | m :: ms, q => by
    obtain ⟨a, b, ea, eb, b0, e⟩ := fracGo_is h ms (q.1 * topI P.s (base ^ P.s) m, q.2 * (base ^ P.s - 1) * (highI P.s (base ^ P.s) m - lowI P.s (base ^ P.s) m))
    have t := h.top m
    have l := h.low m
    have hp := h.hpos m
    have u := h.ubig
    have ol := (PP.one_L h.zk m).2
    have em := PP.EM_eq h.zk m ms
    have o : ((1 : Int) : Rat) = 1 := rfl
    simp only [Rat.intCast_mul, Rat.intCast_sub, o] at ea eb
    rw [t] at ea
    rw [l] at eb
    refine ⟨((highI P.s (base ^ P.s) m : Int) : Rat) * (((base ^ P.s : Int) : Rat) - 1) * Tz P.s z m * a, (((base ^ P.s : Int) : Rat) - 1) * (((highI P.s (base ^ P.s) m : Int) : Rat) * (1 - Lz P.s z m)) * b, ?_, ?_, ?_, ?_⟩
    · show ((fracGo P.s (base ^ P.s) ms _).1 : Rat) = _
      rw [ea]; grind
    · show ((fracGo P.s (base ^ P.s) ms _).2 : Rat) = _
      rw [eb]; grind
    · exact Rat.mul_pos (Rat.mul_pos (by grind) (Rat.mul_pos hp (by grind))) b0
    · generalize ((highI P.s (base ^ P.s) m : Int) : Rat) = H
      generalize ((base ^ P.s : Int) : Rat) = U
      have : P.EM z (m :: ms) * ((U - 1) * (H * (1 - Lz P.s z m)) * b) = (P.EM z (m :: ms) * (1 - Lz P.s z m)) * ((U - 1) * H * b) := by grind
      rw [this, em]; grind
theorem frac_is {P : PP} {z : Rat} {base : Int} (h : BOk P.s z base) (f : Option Nat) (hms : P.dots = false → P.ms = []) :
    ((frac P.s P.b base f P.ms P.l P.dots).1 : Rat) = ((frac P.s P.b base f P.ms P.l P.dots).2 : Rat) * P.EX z (fsOf f P.l P.dots) ∧ 0 < (frac P.s P.b base f P.ms P.l P.dots).2 := by
  have o : ((1 : Int) : Rat) = 1 := rfl
  have u := h.ubig
  have u1 := h.u1
  have bb := h.big
  have be := h.e
  have bz := h.pow P.b
  have uB := h.uB
  have s6 := h.zk.s6r
  have d0 : ∃ k : Rat, 0 < k ∧ ((downF P.s P.b (base ^ P.s) base f : Int) : Rat) = ((base ^ P.b : Int) : Rat) * k ∧ ∀ fs, k * P.EX z (f.toList ++ fs) = P.EX z fs := by
    cases f with
    | none => exact ⟨1, by decide, by rw [Rat.mul_one]; rfl, fun fs => by rw [Rat.one_mul]; rfl⟩
    | some f =>
      refine ⟨_, h.hpos f, ?_, fun fs => ?_⟩
      · show ((base ^ P.b * highI P.s (base ^ P.s) f : Int) : Rat) = _
        rw [Rat.intCast_mul]
      · show _ * (Kz P.s z f * P.EX z fs) = _
        have := h.hK f
        grind
  obtain ⟨k, k0, ek, kx⟩ := d0
  obtain ⟨a, b, ea, eb, b0, e⟩ := fracGo_is h P.ms (1, downF P.s P.b (base ^ P.s) base f)
  have Bp : (0 : Rat) < ((base ^ P.b : Int) : Rat) := by rw [icast_pow]; exact rpow_pos h.pos _
  unfold frac
  generalize hq : fracGo P.s (base ^ P.s) P.ms (1, downF P.s P.b (base ^ P.s) base f) = q at ea eb
  rw [o, Rat.one_mul] at ea
  simp only [ek] at eb
  have q2 : (0 : Rat) < (q.2 : Rat) := by rw [eb]; exact Rat.mul_pos (Rat.mul_pos Bp k0) b0
  by_cases c : P.dots = true
  · have x : k * P.EX z (fsOf f P.l P.dots) = P.EM z P.ms := by
      unfold fsOf; rw [if_pos c, kx]; unfold PP.EX; rw [if_pos c]
    have key : (q.2 : Rat) * P.EX z (fsOf f P.l P.dots) = ((base ^ P.b : Int) : Rat) * (P.E0 z * (q.1 : Rat)) := by
      rw [ea, ← e, eb]; grind
    generalize P.EX z (fsOf f P.l P.dots) = X at key
    unfold fracEnd
    rw [if_pos c]
    rcases hl : P.l with _ | l
    · have E := PP.E0_none h.zk hl
      show ((q.1 * (base ^ P.s - 1) * base : Int) : Rat) = ((q.2 * (base ^ P.s - 1 - P.s) * (base - 1) : Int) : Rat) * X ∧ 0 < q.2 * (base ^ P.s - 1 - P.s) * (base - 1)
      have cs : (((P.s : Nat) : Int) : Rat) = (P.s : Rat) := rfl
      constructor
      · simp only [Rat.intCast_mul, Rat.intCast_sub, o, cs]
        generalize ((base ^ P.s : Int) : Rat) = U at *
        generalize ((base ^ P.b : Int) : Rat) = B at *
        have r : (q.2 : Rat) * (U - 1 - P.s) * ((base : Rat) - 1) * X = (q.2 : Rat) * X * (U - 1 - P.s) * ((base : Rat) - 1) := by grind
        rw [r, key]
        have r1 : U - 1 - P.s = (U - 1) * (1 - Bz P.s z) := by grind
        have r2 : (base : Rat) - 1 = base * (1 - z) := by grind
        rw [r1, r2]
        have : B * (P.E0 z * (q.1 : Rat)) * ((U - 1) * (1 - Bz P.s z)) * ((base : Rat) * (1 - z)) = B * (P.E0 z * ((1 - Bz P.s z) * (1 - z))) * ((q.1 : Rat) * (U - 1) * base) := by grind
        rw [this, E, bz]; grind
      · have : (0 : Rat) < ((q.2 * (base ^ P.s - 1 - P.s) * (base - 1) : Int) : Rat) := by
          simp only [Rat.intCast_mul, Rat.intCast_sub, o, cs]
          exact Rat.mul_pos (Rat.mul_pos q2 (by grind)) (by grind)
        exact_mod_cast this
    · have E := PP.E0_some h.zk hl
      have t := h.top l
      have hp := h.hpos l
      show ((q.1 * (base ^ P.s - 1) * topI P.s (base ^ P.s) l : Int) : Rat) = ((q.2 * (base ^ P.s - 1 - P.s) * (base ^ P.s - 1) * highI P.s (base ^ P.s) l : Int) : Rat) * X ∧ 0 < q.2 * (base ^ P.s - 1 - P.s) * (base ^ P.s - 1) * highI P.s (base ^ P.s) l
      have cs : (((P.s : Nat) : Int) : Rat) = (P.s : Rat) := rfl
      constructor
      · simp only [Rat.intCast_mul, Rat.intCast_sub, o, cs, t]
        generalize ((base ^ P.s : Int) : Rat) = U at *
        generalize ((base ^ P.b : Int) : Rat) = B at *
        generalize ((highI P.s (base ^ P.s) l : Int) : Rat) = H at *
        have r : (q.2 : Rat) * (U - 1 - P.s) * (U - 1) * H * X = (q.2 : Rat) * X * (U - 1 - P.s) * ((U - 1) * H) := by grind
        rw [r, key]
        have r1 : U - 1 - P.s = (U - 1) * (1 - Bz P.s z) := by grind
        rw [r1]
        have : B * (P.E0 z * (q.1 : Rat)) * ((U - 1) * (1 - Bz P.s z)) * ((U - 1) * H) = B * (P.E0 z * (1 - Bz P.s z)) * ((q.1 : Rat) * (U - 1) * (U - 1) * H) := by grind
        rw [this, E]; grind
      · have : (0 : Rat) < ((q.2 * (base ^ P.s - 1 - P.s) * (base ^ P.s - 1) * highI P.s (base ^ P.s) l : Int) : Rat) := by
          simp only [Rat.intCast_mul, Rat.intCast_sub, o, cs]
          exact Rat.mul_pos (Rat.mul_pos (Rat.mul_pos q2 (by grind)) (by grind)) hp
        exact_mod_cast this
  · have c' : P.dots = false := by simpa using c
    have q1 : q = (1, downF P.s P.b (base ^ P.s) base f) := hq.symm.trans (by rw [hms c']; rfl)
    subst q1
    have e2 : ((downF P.s P.b (base ^ P.s) base f : Int) : Rat) = ((base ^ P.b : Int) : Rat) * k := ek
    have x : k * P.EX z (fsOf f P.l P.dots) = P.EX z P.l.toList := by
      unfold fsOf; rw [if_neg c, kx]
    have x0 : P.EX z [] = z ^ P.b := by unfold PP.EX; rw [if_neg c]
    generalize P.EX z (fsOf f P.l P.dots) = X at x
    unfold fracEnd
    rw [if_neg c]
    rcases hl : P.l with _ | l
    · rw [hl] at x
      replace x : k * X = P.EX z [] := x
      rw [x0] at x
      show ((1 * (base ^ P.s - 1) : Int) : Rat) = ((downF P.s P.b (base ^ P.s) base f * (base ^ P.s - 1) : Int) : Rat) * X ∧ 0 < downF P.s P.b (base ^ P.s) base f * (base ^ P.s - 1)
      constructor
      · simp only [Rat.intCast_mul, Rat.intCast_sub, o, e2]
        grind
      · have : (0 : Rat) < ((downF P.s P.b (base ^ P.s) base f * (base ^ P.s - 1) : Int) : Rat) := by
          simp only [Rat.intCast_mul, Rat.intCast_sub, o, e2]
          exact Rat.mul_pos (Rat.mul_pos Bp k0) (by grind)
        exact_mod_cast this
    · rw [hl] at x
      replace x : k * X = Kz P.s z l * P.EX z [] := x
      rw [x0] at x
      have hk := h.hK l
      have hp := h.hpos l
      show ((1 * (base ^ P.s - 1) : Int) : Rat) = ((downF P.s P.b (base ^ P.s) base f * highI P.s (base ^ P.s) l * (base ^ P.s - 1) : Int) : Rat) * X ∧ 0 < downF P.s P.b (base ^ P.s) base f * highI P.s (base ^ P.s) l * (base ^ P.s - 1)
      constructor
      · simp only [Rat.intCast_mul, Rat.intCast_sub, o, e2]
        generalize ((base ^ P.s : Int) : Rat) = U at *
        generalize ((base ^ P.b : Int) : Rat) = B at *
        generalize ((highI P.s (base ^ P.s) l : Int) : Rat) = H at *
        have : B * k * H * (U - 1) * X = B * H * (U - 1) * (k * X) := by grind
        rw [this, x]
        have : B * H * (U - 1) * (Kz P.s z l * z ^ P.b) = (B * z ^ P.b) * (H * Kz P.s z l) * (U - 1) := by grind
        rw [this, bz, hk]; grind
      · have : (0 : Rat) < ((downF P.s P.b (base ^ P.s) base f * highI P.s (base ^ P.s) l * (base ^ P.s - 1) : Int) : Rat) := by
          simp only [Rat.intCast_mul, Rat.intCast_sub, o, e2]
          exact Rat.mul_pos (Rat.mul_pos (Rat.mul_pos Bp k0) hp) (by grind)
        exact_mod_cast this
end Mine.G1
end
section
open PySem PySem.W PyProof.Rows PySem.Calls PyProof.V PySem.Spec
set_option maxRecDepth 100000
namespace Mine
local macro_rules | `(tactic| walk_at "mem") => `(tactic| with_reducible first | exact List.mem_cons_self .. | (refine List.mem_cons_of_mem _ ?_; walk_at "mem"))
local macro_rules | `(tactic| walk_at "st") => `(tactic| first | exact .inl rfl | exact .inr ⟨rfl, rfl⟩)
local macro_rules | `(tactic| walk_at "dr") => `(tactic| first | exact Drop.nil | (with_reducible apply Drop.hit; walk_at "dr") | (with_reducible apply Drop.miss; (focus decide); walk_at "dr"))
local macro_rules | `(tactic| walk_at "sub") => `(tactic| first | exact Sub.nil | (refine Sub.cons (by walk_at "mem") ?_; walk_at "sub"))
theorem g_sum {c : Cx} (h : GK c) : GlobIs c (Str.ofString "sum") (.builtin "sum") := h.bl (by kernel_rfl) (by kernel_rfl)
theorem g_list {c : Cx} (h : GK c) : GlobIs c (Str.ofString "list") (.type "list") := h.bl (by kernel_rfl) (by kernel_rfl)
theorem g_runs {c : Cx} (h : GK c) : GlobIs c (Str.ofString "_law_runs") (.ref 153) := h.gl (by kernel_rfl)
theorem g_text {c : Cx} (h : GK c) : GlobIs c (Str.ofString "_law_text") (.ref 148) := h.gl (by kernel_rfl)
theorem g_leads {c : Cx} (h : GK c) : GlobIs c (Str.ofString "_law_leads") (.ref 141) := h.gl (by kernel_rfl)
theorem g_fraction {c : Cx} (h : GK c) : GlobIs c (Str.ofString "_law_fraction") (.ref 160) := h.gl (by kernel_rfl)
theorem g_trimmed {c : Cx} (h : GK c) : GlobIs c (Str.ofString "_law_trimmed") (.ref 167) := h.gl (by kernel_rfl)
theorem zs_len (l : List Int) : (zs l).length = l.length := by simp [zs]
section
variable {c : Cx} {fr : FX} {σ : Store} {O : Owns}
theorem EvIt_rng1 {f : Str} {np pos : Pos} {e : Expr} {b : Int} (hf : Ev c fr σ O (.Name f np) (.raw (.type "range"))) (h1 : Ev c fr σ O e (.int b)) (hb : -(2 ^ 61) ≤ b) (hb' : b < 2 ^ 61)
    (hs : noStar [e] = true := by rfl) : EvIt c fr σ O (.Call (.Name f np) [e] [] pos) (rng 0 1 b.toNat) :=
  EvIt_range (Ev_call hf Keep_type (.cons h1 .nil) CallD_range1 hs) (small_one (by (first | lia | omega)) (by (first | lia | omega)) (by (first | lia | omega)) (by (first | lia | omega))) (by have := rangeSize_nat 0 b; rwa [Int.sub_zero] at this)
theorem BinD_fdivN {a b : Nat} (hb : 1 ≤ b) (hb2 : b ≤ 2 ^ 20) : BinD c fr .FloorDiv (.int (a : Int)) (.int (b : Int)) (.int ((a / b : Nat) : Int)) := by
  have e : (a : Int).fdiv b = ((a / b : Nat) : Int) := by rw [Int.fdiv_eq_ediv_of_nonneg _ (by (first | lia | omega))]; rfl
  rw [← e]
  exact BinD_floordiv (by (first | lia | omega)) (pylong_small (k := 21) (by (first | lia | omega)) (by decide))
theorem BinD_powS {a : Int} {k m : Nat} (ha : Builtin.Int.intBits a ≤ m) (hb : m * (k + 1) ≤ 2 ^ 27) : BinD c fr .Pow (.int a) (.int ((k : Int) + 1)) (.int (a ^ (k + 1))) := by
  have e : (((k : Int) + 1)).toNat = k + 1 := by (first | lia | omega)
  have := BinD_pow (c := c) (fr := fr) (a := a) (n := (k : Int) + 1) (by (first | lia | omega)) (by
    have q : Builtin.Int.intBits a * (k + 1) ≤ m * (k + 1) := Nat.mul_le_mul_right _ ha
    have : ((Builtin.Int.intBits a * (k + 1) : Nat) : Int) ≤ 2 ^ 27 := by (first | lia | omega)
    rw [Int.natCast_mul] at this
    exact this)
  rwa [e] at this
theorem BinD_powN {a : Int} {k m : Nat} (ha : Builtin.Int.intBits a ≤ m) (hb : m * k ≤ 2 ^ 27) : BinD c fr .Pow (.int a) (.int (k : Int)) (.int (a ^ k)) := by
  have := BinD_pow (c := c) (fr := fr) (a := a) (n := (k : Int)) (by (first | lia | omega)) (by
    have q : Builtin.Int.intBits a * k ≤ m * k := Nat.mul_le_mul_right _ ha
    have : ((Builtin.Int.intBits a * k : Nat) : Int) ≤ 2 ^ 27 := by (first | lia | omega)
    rw [Int.natCast_mul] at this
    exact this)
  rwa [Int.toNat_natCast] at this
theorem BinD_powD {a : Int} {x y m : Nat} (hxy : y ≤ x) (ha : Builtin.Int.intBits a ≤ m) (hb : m * x ≤ 2 ^ 27) : BinD c fr .Pow (.int a) (.int ((x : Int) - (y : Int))) (.int (a ^ (x - y))) := by
  have e : (x : Int) - (y : Int) = ((x - y : Nat) : Int) := by (first | lia | omega)
  rw [e]
  exact BinD_powN ha (Nat.le_trans (Nat.mul_le_mul_left _ (Nat.sub_le ..)) hb)
end
def onZ (f : Int → D) : D → D
  | .int x => f x
  | _ => .none
def sps (n : Int) : Str := Txt.mul (Str.ofString " ") n
def runS (n : Int) : Str := sps n ++ Str.ofString "\t"
theorem sps_ok {n : Int} (h0 : 0 ≤ n) (h : n ≤ 2 ^ 20) : MulOk (Str.ofString " ") n := PyProof.Rows.mulOk_of 1 (2 ^ 20) (by decide) (by (first | lia | omega)) (by (first | lia | omega)) (by decide) (by decide)
theorem sps_len {n : Int} (h0 : 0 ≤ n) : ((sps n).length : Int) = n := by
  unfold sps; rw [len_mul]; simp [h0, show (Str.ofString " ").length = 1 from rfl, Int.not_lt.mpr h0]
theorem runS_len {n : Int} (h0 : 0 ≤ n) : ((runS n).length : Int) = n + 1 := by
  unfold runS; rw [Str.length_append]
  have := sps_len h0
  have e : (Str.ofString "\t").length = 1 := rfl
  rw [e]; (first | lia | omega)
def zo : Option Nat → Int
  | none => -1
  | some l => l
def textS : Option Nat → Str
  | none => Str.ofString ""
  | some l => runS (l : Int)
set_option maxHeartbeats 4000000 in
theorem cs_text {c : Cx} (h : GK c) (o : Option Nat) (ho : ∀ l, o = some l → l ≤ 100) : CallSpec c (.ref 148) 2 [.int (zo o)] (.str (textS o)) := by
  refine call_def (n := 1) (xs := [Str.ofString "run"]) (h.at (by rfl)) rfl rfl rfl rfl rfl ⟨_, _, _, _, rfl, h.at (by rfl), rfl, rfl⟩ rfl rfl rfl (len1 fun _ => rfl) (by decide) rfl (by decide) (noFree (by decide)) ?_
  intro L A out own hA
  dsimp only [List.zip, List.zipWith]
  refine Ex_cons (Ex1_ret (Ev_ifexp (EvT_cmp (Ev_name (by walk_at "mem")) Ev_int CmpD_ge) (fun hc => ?_) (fun hc => ?_)) (rfl : (_ : D) = _))
  · rcases o with _ | l
    · simp [zo] at hc
    · have hl := ho l rfl
      have h2 := sps_len (n := (l : Int)) (Int.natCast_nonneg l)
      exact Ev_bin (Ev_bin Ev_str (Ev_name (d := .int (l : Int)) (List.mem_cons_self ..)) (BinD_muls (sps_ok (n := (l : Int)) (by (first | lia | omega)) (by (first | lia | omega))))) Ev_str (BinD_adds (by
        show (sps (l : Int)).length + 1 ≤ _
        rw [sizeLine_eq]; (first | lia | omega)))
  · rcases o with _ | l
    · exact Ev_str
    · simp [zo] at hc
set_option maxHeartbeats 4000000 in
theorem cs_runs {c : Cx} (h : GK c) (m s : Nat) (unit : Int) (hm : m ≤ 100) (h1 : 1 ≤ s) (hs : s ≤ 6) (hu : Builtin.Int.intBits unit ≤ 4000) :
    CallSpec c (.ref 153) 2 [.int m, .int s, .int unit] (.tuple [.int (G1.highI s unit m), .int (G1.lowI s unit m)]) := by
  refine call_def (n := 1) (xs := [Str.ofString "least", Str.ofString "size", Str.ofString "unit"]) (h.at (by rfl)) rfl rfl rfl rfl rfl ⟨_, _, _, _, rfl, h.at (by rfl), rfl, rfl⟩ rfl rfl rfl (len3 fun _ _ _ => rfl) (by decide) rfl (by decide) (noFree (by decide)) ?_
  intro L A out own hA
  dsimp only [List.zip, List.zipWith]
  have hq : m / s ≤ 100 := Nat.le_trans (Nat.div_le_self _ _) hm
  refine Ex_cons (Ex1_assign (d := .int (G1.highI s unit m)) (Ev_bin (Ev_name (by walk_at "mem")) (Ev_bin (Ev_bin (Ev_name (by walk_at "mem")) (Ev_name (by walk_at "mem")) (BinD_fdivN h1 (by (first | lia | omega)))) Ev_int BinD_add) (BinD_powS hu (by (first | lia | omega)))) (by walk_at "st") (by walk_at "dr") ?_)
  refine Ex_cons (Ex1_assign (d := .int (G1.lowI s unit m)) (Ev_call (ds := [.list (zs ((List.range m).map fun r => unit ^ (m / s - r / s)))]) (Ev_globraw (g_sum h)) Keep_builtin (.cons ?_ .nil) CallD_sum) (by walk_at "st") (by walk_at "dr") ?_)
  · have e : zs ((List.range m).map fun r => unit ^ (m / s - r / s)) = (rng 0 1 ((m : Int)).toNat).map (onZ fun x => .int (unit ^ (m / s - x.toNat / s))) := by
      unfold zs rng
      rw [Int.toNat_natCast, List.map_map, List.map_map]
      apply List.map_congr_left
      intro r _
      simp only [Function.comp, onZ]
      congr 3
      have : (0 + (r : Int) * 1).toNat = r := by (first | lia | omega)
      rw [this]
    rw [e]
    refine EvN.ev (EvN_each [(Str.ofString "least", .int m), (Str.ofString "size", .int s), (Str.ofString "unit", .int unit)] _ (EvIt_rng1 (Ev_globraw (g_range h)) (Ev_name (by walk_at "mem")) (by (first | lia | omega)) (by (first | lia | omega))) (CompSyn.by (by walk_at "sub")) (by simp [rng]; (first | lia | omega)) fun L' cs' out' own' wr d hd acc pre => ⟨.inl rfl, by walk_at "dr", ?_⟩)
    simp only [rng, List.mem_map, List.mem_range] at hd
    obtain ⟨r, hr, rfl⟩ := hd
    rw [Int.toNat_natCast] at hr
    have er : (0 : Int) + (r : Int) * 1 = (r : Int) := by (first | lia | omega)
    rw [er]
    have hrm : r / s ≤ m / s := Nat.div_le_div_right (by (first | lia | omega))
    have er2 : ((r : Int)).toNat = r := Int.toNat_natCast r
    show Ev _ _ _ _ _ (.int (unit ^ (m / s - ((r : Int)).toNat / s)))
    rw [er2]
    exact Ev_bin (Ev_name (by walk_at "mem")) (Ev_bin (Ev_bin (Ev_name (by walk_at "mem")) (Ev_name (by walk_at "mem")) (BinD_fdivN h1 (by (first | lia | omega)))) (Ev_bin (Ev_name (by walk_at "mem")) (Ev_name (by walk_at "mem")) (BinD_fdivN h1 (by (first | lia | omega)))) BinD_sub) (BinD_powD hrm hu (by (first | lia | omega)))
  exact Ex_cons (Ex1_ret (Ev_tuple (.cons (Ev_name (by walk_at "mem")) (.cons (Ev_name (by walk_at "mem")) .nil))) (rfl : (_ : D) = _))
end Mine
end
section
open PySem PySem.W PyProof.Rows PySem.Calls PyProof.V PySem.Spec
set_option maxRecDepth 100000
namespace Mine
local macro_rules | `(tactic| walk_at "mem") => `(tactic| with_reducible first | exact List.mem_cons_self .. | (refine List.mem_cons_of_mem _ ?_; walk_at "mem"))
local macro_rules | `(tactic| walk_at "st") => `(tactic| first | exact .inl rfl | exact .inr ⟨rfl, rfl⟩)
local macro_rules | `(tactic| walk_at "dr") => `(tactic| first | exact Drop.nil | (with_reducible apply Drop.hit; walk_at "dr") | (with_reducible apply Drop.miss; (focus decide); walk_at "dr"))
local macro_rules | `(tactic| walk_at "sub") => `(tactic| first | exact Sub.nil | (refine Sub.cons (by walk_at "mem") ?_; walk_at "sub"))
def BL (a : Int) (m : Nat) : Prop := Builtin.Int.intBits a ≤ m
theorem BL.mul {a b : Int} {m n : Nat} (ha : BL a m) (hb : BL b n) : BL (a * b) (m + n) := PySem.intBits_mul_le ha hb
theorem BL.sub {a b : Int} {m n : Nat} (ha : BL a m) (hb : BL b n) : BL (a - b) (m + n + 1) := Nat.le_trans (PySem.intBits_sub_le ha hb) (by (first | lia | omega))
theorem BL.add {a b : Int} {m n : Nat} (ha : BL a m) (hb : BL b n) : BL (a + b) (max m n + 1) := PySem.intBits_add_le ha hb
theorem BL.pow {a : Int} {m : Nat} (ha : BL a m) (k : Nat) : BL (a ^ k) (m * k + 1) := PySem.intBits_pow_le ha k
theorem BL.up {a : Int} {m n : Nat} (ha : BL a m) (h : m ≤ n) : BL a n := Nat.le_trans ha h
theorem BL.one : BL 1 1 := by unfold BL; decide
theorem BL.nat {k : Nat} (h : k ≤ 100) : BL (k : Int) 7 := PySem.intBits_le_iff.mpr (by
  have : (2 : Nat) ^ 7 = 128 := by decide
  (first | lia | omega))
section
variable {c : Cx} {fr : FX}
theorem BinD_mulB {a b : Int} {m n : Nat} (ha : BL a m) (hb : BL b n) (h : m + n ≤ 134217728) : BinD c fr .Mult (.int a) (.int b) (.int (a * b)) := BinD_mul (PySem.IntMulOk.of_le ha hb h)
end
theorem lowTo_bits {s m : Nat} {unit : Int} (hm : m ≤ 100) (hu : BL unit 4000) (h8 : m / s ≤ 8) : ∀ n, BL (G1.lowTo s unit m n) (32001 + n)
  | 0 => by unfold BL; show Builtin.Int.intBits 0 ≤ _; have : Builtin.Int.intBits 0 = 0 := by decide
            (first | lia | omega)
  | n + 1 => by
    have ih := lowTo_bits hm hu h8 n
    have e : G1.lowTo s unit m (n + 1) = G1.lowTo s unit m n + unit ^ (m / s - n / s) := by
      unfold G1.lowTo; rw [List.range_succ, List.map_append, List.sum_append]; simp
    rw [e]
    exact (BL.add ih (BL.up (BL.pow hu (m / s - n / s)) (show 4000 * (m / s - n / s) + 1 ≤ 32001 by have := Nat.sub_le (m / s) (n / s); (first | lia | omega)))).up (by (first | lia | omega))
theorem div8 {m s : Nat} (hm : m ≤ 8) : m / s ≤ 8 := Nat.le_trans (Nat.div_le_self _ _) hm
theorem low_bits {s m : Nat} {unit : Int} (hm : m ≤ 8) (hu : BL unit 4000) : BL (G1.lowI s unit m) 32009 := (lowTo_bits (by (first | lia | omega)) hu (div8 hm) m).up (by (first | lia | omega))
theorem high_bits {s m : Nat} {unit : Int} (hm : m ≤ 8) (hu : BL unit 4000) : BL (G1.highI s unit m) 36001 := (hu.pow _).up (by have := div8 (s := s) hm; (first | lia | omega))
theorem top_bits {s m : Nat} {unit : Int} (hm : m ≤ 8) (hs : s ≤ 6) (hu : BL unit 4000) : BL (G1.topI s unit m) 73000 :=
  (((BL.nat (by (first | lia | omega))).mul (high_bits hm hu)).sub ((low_bits hm hu).mul (hu.sub BL.one))).up (by (first | lia | omega))
def dotS (d : Bool) : Str := if d then Str.ofString "..." else Str.ofString ""
set_option maxHeartbeats 8000000 in
theorem cs_fraction {c : Cx} (h : GK c) (s b : Nat) (base : Int) (f : Option Nat) (ms : List Nat) (l : Option Nat) (d : Bool) (h1 : 1 ≤ s) (hs : s ≤ 6) (hb : b ≤ 2) (hbase : BL base 640)
    (hf : ∀ x, f = some x → x ≤ 8) (hl : ∀ x, l = some x → x ≤ 8) (hms : ∀ x ∈ ms, x ≤ 8) (hml : ms.length ≤ 4) :
    CallSpec c (.ref 160) 4 [.int (zo f), .list (zs (ms.map fun n : Nat => (n : Int))), .int (zo l), .int b, .str (dotS d), .int s, .int base] (.tuple [.int (G1.frac s b base f ms l d).1, .int (G1.frac s b base f ms l d).2]) := by
  refine call_def (n := 3) (xs := [Str.ofString "first", Str.ofString "middles", Str.ofString "least", Str.ofString "blanks", Str.ofString "dots", Str.ofString "size", Str.ofString "base"]) (h.at (by rfl)) rfl rfl rfl rfl rfl ⟨_, _, _, _, rfl, h.at (by rfl), rfl, rfl⟩ rfl rfl rfl (lenS fun _ => len6 fun _ _ _ _ _ _ => rfl) (by decide) rfl (by decide) (noFree (by decide)) ?_
  intro L A out own hA
  dsimp only [List.zip, List.zipWith]
  have hu : BL (base ^ s) 4000 := (hbase.pow s).up (by (first | lia | omega))
  have hbb : BL (base ^ b) 1281 := (hbase.pow b).up (by (first | lia | omega))
  have hu1 : BL (base ^ s - 1) 4002 := hu.sub BL.one
  refine Ex_cons (Ex1_assign (d := .int (base ^ s)) (Ev_bin (Ev_name (by walk_at "mem")) (Ev_name (by walk_at "mem")) (BinD_powN hbase (by (first | lia | omega)))) (by walk_at "st") (by walk_at "dr") ?_)
  refine Ex_cons (Ex1_assignSw (ds := [.int 1, .int (base ^ b)]) (Ev_tuple (.cons Ev_int (.cons (Ev_bin (Ev_name (by walk_at "mem")) (Ev_name (by walk_at "mem")) (BinD_powN hbase (by (first | lia | omega)))) .nil))) rfl rfl rfl rfl (.cons (by walk_at "st") (by walk_at "dr") (.cons (by walk_at "st") (by walk_at "dr") .nil)) ?_)
  have hd0 : BL (G1.downF s b (base ^ s) base f) 40000 := by
    rcases f with _ | x
    · exact hbb.up (by (first | lia | omega))
    · exact (hbb.mul (high_bits (hf x rfl) hu)).up (by (first | lia | omega))
  refine Ex_cut (fun σ O => O = [] ∧ Sub σ [(Str.ofString "middles", .list (zs (ms.map fun n : Nat => (n : Int)))), (Str.ofString "least", .int (zo l)), (Str.ofString "dots", .str (dotS d)), (Str.ofString "size", .int s), (Str.ofString "base", .int base), (Str.ofString "unit", .int (base ^ s)), (Str.ofString "up", .int 1), (Str.ofString "down", .int (G1.downF s b (base ^ s) base f))])
    (Ex1_if (EvT_cmp (Ev_name (by walk_at "mem")) Ev_int CmpD_ge) (fun hc => ?_) (fun hc => ?_)) ?_
  · rcases f with _ | x
    · simp [zo] at hc
    · have hx := hf x rfl
      have hq := div8 (s := s) hx
      refine Ex_cons (Ex1_assign (d := .int (base ^ b * (base ^ s) ^ (x / s + 1))) (Ev_bin (Ev_name (by walk_at "mem")) (Ev_bin (Ev_name (by walk_at "mem")) (Ev_bin (Ev_bin (a := .int (x : Int)) (Ev_name (List.mem_cons_of_mem _ (List.mem_cons_of_mem _ (List.mem_cons_of_mem _ (List.mem_cons_self ..))))) (Ev_name (by walk_at "mem")) (BinD_fdivN h1 (by (first | lia | omega)))) Ev_int BinD_add) (BinD_powS hu (by (first | lia | omega)))) (BinD_mulB hbb (high_bits hx hu) (by (first | lia | omega)))) (by walk_at "st") (by walk_at "dr") ?_)
      exact Ex_nil ⟨rfl, (show Sub _ [(Str.ofString "middles", .list (zs (ms.map fun n : Nat => (n : Int)))), (Str.ofString "least", .int (zo l)), (Str.ofString "dots", .str (dotS d)), (Str.ofString "size", .int s), (Str.ofString "base", .int base), (Str.ofString "unit", .int (base ^ s)), (Str.ofString "up", .int 1), (Str.ofString "down", .int (base ^ b * (base ^ s) ^ (x / s + 1)))] by walk_at "sub")⟩
  · rcases f with _ | x
    · exact Ex_nil ⟨rfl, (show Sub _ [(Str.ofString "middles", .list (zs (ms.map fun n : Nat => (n : Int)))), (Str.ofString "least", .int (zo l)), (Str.ofString "dots", .str (dotS d)), (Str.ofString "size", .int s), (Str.ofString "base", .int base), (Str.ofString "unit", .int (base ^ s)), (Str.ofString "up", .int 1), (Str.ofString "down", .int (base ^ b))] by walk_at "sub")⟩
    · simp [zo] at hc
  rintro σ O ⟨rfl, hsub⟩
  refine Ex.weak ?_ hsub.mem
  clear hsub
  have hzl : (zs (ms.map fun n : Nat => (n : Int))).length = ms.length := by rw [zs_len, List.length_map]
  refine Ex_cut (fun σ O => O = [] ∧ ∃ q : Int × Int, q = G1.fracGo s (base ^ s) ms (1, G1.downF s b (base ^ s) base f) ∧ BL q.1 1000000 ∧ BL q.2 1000000 ∧ Sub σ [(Str.ofString "least", .int (zo l)), (Str.ofString "dots", .str (dotS d)), (Str.ofString "size", .int s), (Str.ofString "base", .int base), (Str.ofString "unit", .int (base ^ s)), (Str.ofString "up", .int q.1), (Str.ofString "down", .int q.2)])
    (Ex1_for (EvIt_list (Ev_name (by walk_at "mem"))) (fun i σ O => O = [] ∧ ∃ q : Int × Int, G1.fracGo s (base ^ s) (ms.drop i) q = G1.fracGo s (base ^ s) ms (1, G1.downF s b (base ^ s) base f) ∧ BL q.1 (1 + 100000 * i) ∧ BL q.2 (40000 + 100000 * i) ∧ Sub σ [(Str.ofString "least", .int (zo l)), (Str.ofString "dots", .str (dotS d)), (Str.ofString "size", .int s), (Str.ofString "base", .int base), (Str.ofString "unit", .int (base ^ s)), (Str.ofString "up", .int q.1), (Str.ofString "down", .int q.2)])
      ⟨rfl, (1, G1.downF s b (base ^ s) base f), rfl, BL.one, hd0, by walk_at "sub"⟩ ?_ ?_) ?_
  · rintro wr i dd σ O hdi ⟨rfl, q, hq, hq1, hq2, hsub⟩
    have hil : i < ms.length := by have := (List.getElem?_eq_some_iff.mp hdi).1; (first | lia | omega)
    have hdrop : ms.drop i = ms[i] :: ms.drop (i + 1) := List.drop_eq_getElem_cons hil
    have hm8 := hms ms[i] (List.getElem_mem hil)
    have hdd : dd = .int ((ms[i] : Nat) : Int) := by
      simp only [zs, List.getElem?_map, List.getElem?_eq_getElem hil] at hdi
      exact (Option.some.inj hdi).symm
    rw [hdrop] at hq
    generalize ms[i] = m at *
    subst hdd
    refine ⟨_, Asg.weak (Asg_name (by walk_at "st") (by walk_at "dr")) hsub.mem, ?_⟩
    have hh := high_bits (s := s) hm8 hu
    have hlo := low_bits (s := s) hm8 hu
    have ht := top_bits hm8 hs hu
    refine Ex_cons (Ex1_assignT (Ev_call (Ev_globraw (g_runs h)) (h.kp (by kernel_rfl)) (.cons (Ev_name (by walk_at "mem")) (.cons (Ev_name (by walk_at "mem")) (.cons (Ev_name (by walk_at "mem")) .nil))) (CallD_of (cs_runs h m s (base ^ s) (by (first | lia | omega)) h1 hs hu) (show A.depth + 2 ≤ 900 by (first | lia | omega)))) (Asg_tuple rfl (.cons (Asg_name (by walk_at "st") (by walk_at "dr")) (.cons (Asg_name (by walk_at "st") (by walk_at "dr")) .nil))) ?_)
    refine Ex_cons (Ex1_assign (d := .int (q.1 * G1.topI s (base ^ s) m)) (Ev_bin (Ev_name (by walk_at "mem")) (Ev_bin (Ev_bin (Ev_name (by walk_at "mem")) (Ev_name (by walk_at "mem")) (BinD_mulB (BL.nat (by (first | lia | omega))) hh (by (first | lia | omega)))) (Ev_bin (Ev_name (by walk_at "mem")) (Ev_bin (Ev_name (by walk_at "mem")) Ev_int BinD_sub) (BinD_mulB hlo hu1 (by (first | lia | omega)))) BinD_sub) (BinD_mulB hq1 ht (by (first | lia | omega)))) (by walk_at "st") (by walk_at "dr") ?_)
    have hq2' := hq2.mul hu1
    refine Ex_cons (Ex1_assign (d := .int (q.2 * (base ^ s - 1) * (G1.highI s (base ^ s) m - G1.lowI s (base ^ s) m))) (Ev_bin (Ev_bin (Ev_name (by walk_at "mem")) (Ev_bin (Ev_name (by walk_at "mem")) Ev_int BinD_sub) (BinD_mulB hq2 hu1 (by (first | lia | omega)))) (Ev_bin (Ev_name (by walk_at "mem")) (Ev_name (by walk_at "mem")) BinD_sub) (BinD_mulB hq2' (hh.sub hlo) (by (first | lia | omega)))) (by walk_at "st") (by walk_at "dr") ?_)
    refine Ex_nil ⟨rfl, (q.1 * G1.topI s (base ^ s) m, q.2 * (base ^ s - 1) * (G1.highI s (base ^ s) m - G1.lowI s (base ^ s) m)), hq, (hq1.mul ht).up (by (first | lia | omega)), (hq2'.mul (hh.sub hlo)).up (by (first | lia | omega)), by walk_at "sub"⟩
  · rintro σ O ⟨rfl, q, hq, hq1, hq2, hsub⟩
    rw [hzl, List.drop_length] at hq
    rw [hzl] at hq1 hq2
    exact ⟨rfl, q, hq, hq1.up (by (first | lia | omega)), hq2.up (by (first | lia | omega)), hsub⟩
  rintro σ O ⟨rfl, q, hq, hq1, hq2, hsub⟩
  refine Ex.weak ?_ hsub.mem
  clear hsub
  have hfr : G1.frac s b base f ms l d = G1.fracEnd s (base ^ s) base l d q := by unfold G1.frac; rw [hq]
  rw [hfr]
  have hs7 : BL (s : Int) 7 := BL.nat (by (first | lia | omega))
  refine Ex_cons (Ex1_if (EvT_cmp (Ev_name (by walk_at "mem")) Ev_str CmpD_eqs) (fun hc => ?_) (fun hc => ?_))
  · have hdf : d = false := by
      cases d with
      | false => rfl
      | true => exact absurd hc (by decide)
    subst hdf
    refine Ex_cut (fun σ O => O = [] ∧ ∃ w : Int, BL w 1100000 ∧ G1.fracEnd s (base ^ s) base l false q = (q.1 * (base ^ s - 1), w * (base ^ s - 1)) ∧ Sub σ [(Str.ofString "unit", .int (base ^ s)), (Str.ofString "up", .int q.1), (Str.ofString "down", .int w)])
      (Ex1_if (EvT_cmp (Ev_name (by walk_at "mem")) Ev_int CmpD_ge) (fun hc => ?_) (fun hc => ?_)) ?_
    · rcases l with _ | x
      · simp [zo] at hc
      · have hx := hl x rfl
        have hq' := div8 (s := s) hx
        refine Ex_cons (Ex1_assign (d := .int (q.2 * (base ^ s) ^ (x / s + 1))) (Ev_bin (Ev_name (by walk_at "mem")) (Ev_bin (Ev_name (by walk_at "mem")) (Ev_bin (Ev_bin (a := .int (x : Int)) (Ev_name (List.mem_cons_self ..)) (Ev_name (by walk_at "mem")) (BinD_fdivN h1 (by (first | lia | omega)))) Ev_int BinD_add) (BinD_powS hu (by (first | lia | omega)))) (BinD_mulB hq2 (high_bits hx hu) (by (first | lia | omega)))) (by walk_at "st") (by walk_at "dr") ?_)
        exact Ex_nil ⟨rfl, q.2 * (base ^ s) ^ (x / s + 1), (hq2.mul (high_bits hx hu)).up (by (first | lia | omega)), rfl, by walk_at "sub"⟩
    · rcases l with _ | x
      · exact Ex_nil ⟨rfl, q.2, hq2.up (by (first | lia | omega)), rfl, by walk_at "sub"⟩
      · simp [zo] at hc
    rintro σ O ⟨rfl, w, hw, he, hsub⟩
    refine Ex.weak ?_ hsub.mem
    rw [he]
    exact Ex_cons (Ex1_ret (Ev_tuple (.cons (Ev_bin (Ev_name (by walk_at "mem")) (Ev_bin (Ev_name (by walk_at "mem")) Ev_int BinD_sub) (BinD_mulB hq1 hu1 (by (first | lia | omega)))) (.cons (Ev_bin (Ev_name (by walk_at "mem")) (Ev_bin (Ev_name (by walk_at "mem")) Ev_int BinD_sub) (BinD_mulB hw hu1 (by (first | lia | omega)))) .nil))) (rfl : (_ : D) = _))
  have hdt : d = true := by
    cases d with
    | false => exact absurd hc (by decide)
    | true => rfl
  subst hdt
  refine Ex_nil ?_
  have hus : BL (base ^ s - 1 - s) 4010 := hu1.sub hs7
  refine Ex_cons (Ex1_assign (d := .int (q.1 * (base ^ s - 1))) (Ev_bin (Ev_name (by walk_at "mem")) (Ev_bin (Ev_name (by walk_at "mem")) Ev_int BinD_sub) (BinD_mulB hq1 hu1 (by (first | lia | omega)))) (by walk_at "st") (by walk_at "dr") ?_)
  refine Ex_cons (Ex1_assign (d := .int (q.2 * (base ^ s - 1 - s))) (Ev_bin (Ev_name (by walk_at "mem")) (Ev_bin (Ev_bin (Ev_name (by walk_at "mem")) Ev_int BinD_sub) (Ev_name (by walk_at "mem")) BinD_sub) (BinD_mulB hq2 hus (by (first | lia | omega)))) (by walk_at "st") (by walk_at "dr") ?_)
  have hp1 := hq1.mul hu1
  have hp2 := hq2.mul hus
  refine Ex_cons (Ex1_if (EvT_cmp (Ev_name (by walk_at "mem")) Ev_int CmpD_ge) (fun hc => ?_) (fun hc => ?_))
  · rcases l with _ | m
    · simp [zo] at hc
    · have hm8 := hl m rfl
      have hh := high_bits (s := s) hm8 hu
      have hlo := low_bits (s := s) hm8 hu
      have ht := top_bits hm8 hs hu
      refine Ex_cons (Ex1_assignT (Ev_call (Ev_globraw (g_runs h)) (h.kp (by kernel_rfl)) (.cons (d := .int (m : Int)) (Ev_name (List.mem_cons_of_mem _ (List.mem_cons_of_mem _ (List.mem_cons_self ..)))) (.cons (Ev_name (by walk_at "mem")) (.cons (Ev_name (by walk_at "mem")) .nil))) (CallD_of (cs_runs h m s (base ^ s) (by (first | lia | omega)) h1 hs hu) (show A.depth + 2 ≤ 900 by (first | lia | omega)))) (Asg_tuple rfl (.cons (Asg_name (by walk_at "st") (by walk_at "dr")) (.cons (Asg_name (by walk_at "st") (by walk_at "dr")) .nil))) ?_)
      exact Ex_cons (Ex1_ret (Ev_tuple (.cons (Ev_bin (Ev_name (by walk_at "mem")) (Ev_bin (Ev_bin (Ev_name (by walk_at "mem")) (Ev_name (by walk_at "mem")) (BinD_mulB hs7 hh (by (first | lia | omega)))) (Ev_bin (Ev_name (by walk_at "mem")) (Ev_bin (Ev_name (by walk_at "mem")) Ev_int BinD_sub) (BinD_mulB hlo hu1 (by (first | lia | omega)))) BinD_sub) (BinD_mulB hp1 ht (by (first | lia | omega)))) (.cons (Ev_bin (Ev_bin (Ev_name (by walk_at "mem")) (Ev_bin (Ev_name (by walk_at "mem")) Ev_int BinD_sub) (BinD_mulB hp2 hu1 (by (first | lia | omega)))) (Ev_name (by walk_at "mem")) (BinD_mulB (hp2.mul hu1) hh (by (first | lia | omega)))) .nil))) (rfl : (_ : D) = _))
  · rcases l with _ | m
    · refine Ex_nil ?_
      exact Ex_cons (Ex1_ret (Ev_tuple (.cons (Ev_bin (Ev_name (by walk_at "mem")) (Ev_name (by walk_at "mem")) (BinD_mulB hp1 hbase (by (first | lia | omega)))) (.cons (Ev_bin (Ev_name (by walk_at "mem")) (Ev_bin (Ev_name (by walk_at "mem")) Ev_int BinD_sub) (BinD_mulB hp2 (hbase.sub BL.one) (by (first | lia | omega)))) .nil))) (rfl : (_ : D) = _))
    · simp [zo] at hc
end Mine
end
section
open PySem PySem.W PyProof.Rows PySem.Calls PyProof.V PySem.Spec
namespace Mine
section
variable {c : Cx} {fr : FX} {σ σ' : Store} {O O' : Owns} {s s' : Shared} {a : Addr} {ds ds' es : List D}
theorem nest_fnE {name : Str} {params : Arguments} {body : Expr} {scope : PySem.Scope} {pos : Pos} {cd Pt : Addr} {clos : List (Str × Addr)} {qual : Str} (F : FS c fr σ O s) (hcode : fr.env.code = .ref cd) (htab : (cd, Pt) ∈ c.tabs)
    (hq : c.tq Pt pos.line pos.col = qual) (hcl : closureFor scope fr.env = pure clos) {Q E : Value → Shared → Prop}
    (k : ∀ f cc pm ctv s', FS c fr σ O s' → Kept fr O s O s' → s'.heap.get? f = some (kla_obj name qual params body scope clos pm cc ctv) → s'.heap.CodeRec (.ref cc) qual → ¬ av fr O f → Q (.ref f) s') :
    wpAny c.M fr.A (makeFunction name qual params (.expr body) scope fr.env [] [] [] pos pos.line) Q E s := by
  obtain ⟨ps, hP, hT⟩ := F.wi.tab _ htab
  obtain ⟨bm, ob, b1, b2, b3, b4, b5, b6⟩ := c.bm
  have hg := c.T.g.keeps F.wi.keep
  have hgP : mainGlobals ≠ Pt := fun q => Ns.notTab (q ▸ hg) hP
  have hbP : bm ≠ Pt := fun q => by have e := F.wi.keep _ _ b3; rw [q, hP] at e; cases e; cases b4
  have hbG : bm ≠ mainGlobals := fun q => by
    obtain ⟨o, es, ep, e, hd, _⟩ := c.T.g
    rw [q, e] at b3; cases b3; rw [hd] at b6; cases b6
  have B : s.heap.BuiltinsAt c.mg Pt := ⟨bm, ob, b1, b2, hbG, hbP, F.wi.keep _ _ b3, b4, b5, b6⟩
  have C := (c.code _ htab).keeps F.wi.keep
  have dead : ∀ {h' : Heap}, s.heap.objs.size ≤ h'.objs.size → s.heap.get? h'.objs.size = none := fun {h'} hs => by
    cases e : s.heap.get? h'.objs.size with
    | none => rfl
    | some o => exact absurd (Heap.lt_size e) (Nat.not_lt.mpr hs)
  cases hf : codeAmong pos ps.toList with
  | none =>
    refine kla_makeFunction hcl F.glob hg hcode C hP hT.1 hf hgP B fun c' ctv h' tk hx hge hlt hrec htb => ?_
    have up : ∀ b o, b ≠ Pt → s.heap.get? b = some o → (h'.push (kla_obj name qual params body scope clos ((c.mg "__name__").getD .none) c' ctv)).get? b = some o := fun b o nb e => Heap.get?_push_of_some _ (hx b o nb e)
    have nP : ∀ b o, ¬ NoCode o → s.heap.get? b = some o → b ≠ Pt := fun b o nc e q => by rw [q, hP] at e; cases e; exact nc (.tab hT.1)
    have W : WI c { s with heap := h'.push (kla_obj name qual params body scope clos ((c.mg "__name__").getD .none) c' ctv), toks := tk } := by
      refine ⟨fun b o e => up b o (fun q => by rw [q, c.tab0 _ htab] at e; cases e) (F.wi.keep b o e), fun q hq' => ?_, F.wi.gens, F.wi.os⟩
      by_cases hqP : q.2 = Pt
      · rw [hqP]
        refine ⟨_, Heap.get?_push_of_some _ htb, ?_, fun p cv e => ?_⟩
        · simpa using TriplesOk_snoc _ _ _ _ hT.1
        · rw [show (ps ++ #[rawInt pos.line, rawInt pos.col, Value.ref c']).toList = ps.toList ++ [rawInt pos.line, rawInt pos.col, .ref c'] by simp] at e
          rcases codeAmong_of_snoc _ hT.1 e with e | ⟨e1, e2, rfl⟩
          · exact (hT.mono (fun b o nc e => up b o (nP b o nc e) e)).2 p cv e
          · have e1' : pos.line = p.line := by (first | lia | omega)
            have e2' : pos.col = p.col := by (first | lia | omega)
            rw [← e1', ← e2', hq]
            exact hrec.push _
      · obtain ⟨ps', e', t'⟩ := F.wi.tab q hq'
        exact ⟨ps', up _ _ hqP e', t'.mono fun b o nc e => up b o (nP b o nc e) e⟩
    obtain ⟨F', K'⟩ := F.callee W (fun b o nt e => up b o (fun q => nt (q ▸ List.mem_map_of_mem (f := fun x : Addr × Addr => x.2) htab)) e)
    have hsz : s.heap.objs.size ≤ h'.objs.size := Nat.le_of_lt (Nat.lt_of_le_of_lt hge hlt)
    exact k _ c' _ ctv _ F' K' (Heap.get?_push_size _ rfl) (hrec.push _) (F.new_av (dead hsz))
  | some cv =>
    obtain ⟨cc, oc, vs, tq, rfl, r⟩ := hT.2 pos cv hf
    refine kla_makeFunctionHit hcl F.glob hg hcode C hP hT.1 hf B fun ctv h' tk hk hsz => ?_
    have up : ∀ b o, s.heap.get? b = some o → (h'.push (kla_obj name qual params body scope clos ((c.mg "__name__").getD .none) cc ctv)).get? b = some o := fun b o e => Heap.get?_push_of_some _ (hk b o e)
    have F' : FS c fr σ O { s with heap := h'.push (kla_obj name qual params body scope clos ((c.mg "__name__").getD .none) cc ctv), toks := tk } := F.grow up rfl rfl
    have hr := hT.2 pos _ hf
    rw [hq] at hr
    exact k _ cc _ ctv _ F' (Kept.grow up) (Heap.get?_push_size _ rfl) (hr.keeps up) (F.new_av (dead hsz))
def EvS (c : Cx) (fr : FX) (σ : Store) (O : Owns) (e : Expr) (S : D → Prop) : Prop :=
  ∀ s, FS c fr σ O s → ∀ (Q E : Value → Shared → Prop), (∀ d v s', S d → FS c fr σ O s' → Kept fr O s O s' → Val (av fr O) s'.heap d v → Q v s') → wpAny c.M fr.A (eval e fr.env) Q E s
theorem Ex1_assignS {x : Str} {p pos : Pos} {e : Expr} {S : D → Prop} {P : Post} (h : EvS c fr σ O e S) (hx : Storable fr x) (hd : Drop x σ σ') (k : ∀ d, S d → P .next ((x, d) :: σ') O)
    (hw : swapsWith e (some (.Name x p)) pos.line fr.env = pure false := by rfl) : Ex1 c fr σ O (.Assign [.Name x p] e pos) P := by
  intro s F Q E kk
  exact wpAny_Assign_Name (h s F _ _ fun d v s₁ sd F₁ K₁ V₁ => store_ F₁ V₁ hx hd fun s₂ F₂ K₂ => kk .next .next _ _ s₂ F₂ (K₁.trans K₂) rfl (k d sd)) hw
def EvI (M : Model) (A : Around) (env : Env) (h : Heap) (e : Expr) (z : Int) : Prop :=
  ∀ s : Shared, s.heap = h → ∀ Q E : Value → Shared → Prop, (∀ t tk, Q (.int z t) { s with toks := tk }) → wpAny M A (eval e env) Q E s
theorem EvI_int {M : Model} {A : Around} {env : Env} {h : Heap} {i : Int} {k : Nat} {pos : Pos} : EvI M A env h (.Constant (.int i) k pos) i := fun s hs Q E kk => wpAny_Constant_int (kk _ _)
theorem EvI_local {M : Model} {A : Around} {env : Env} {h : Heap} {x : Str} {pos : Pos} {m : Str → Option Value} {z : Int} {t : Tok} (hk : env.scope.kind = .function) (hx : env.kindOf x = some .local) (hm : h.Ns env.locals m) (e : m x = some (.int z t)) (hd : (x == ("__debug__" : Str)) = false := by decide) :
    EvI M A env h (.Name x pos) z := fun s hs Q E kk => wpAny_Name (wpAny_loadName_local hk hx (hs ▸ hm) e (kk t s.toks)) hd
theorem EvI_free {M : Model} {A : Around} {env : Env} {h : Heap} {x : Str} {pos : Pos} {b : Addr} {z : Int} {t : Tok} (hk : env.scope.kind = .function) (hx : env.kindOf x = some .free) (hl : env.cells.lookup x = some b) (e : h.IsCell b (some (.int z t))) (hd : (x == ("__debug__" : Str)) = false := by decide) (hc : (x == ("__classdict__" : Str)) = false := by decide) :
    EvI M A env h (.Name x pos) z := fun s hs Q E kk => wpAny_Name (wpAny_loadName_free hk hx hl (hs ▸ e) (kk t s.toks) hc) hd
theorem EvI_add {prog : Program} {w : World} {A : Around} {env : Env} {h : Heap} {l r : Expr} {pos : Pos} {x y : Int} (hl : EvI (model prog w) A env h l x) (hr : EvI (model prog w) A env h r y) : EvI (model prog w) A env h (.BinOp l .Add r pos) (x + y) :=
  fun s hs Q E kk => wpAny_BinOp (hl s hs _ _ fun t tk => hr { s with toks := tk } hs _ _ fun u tk2 => add_int (kk _ _))
theorem EvI_mul {prog : Program} {w : World} {A : Around} {env : Env} {h : Heap} {l r : Expr} {pos : Pos} {x y : Int} (hl : EvI (model prog w) A env h l x) (hr : EvI (model prog w) A env h r y) (hm : IntMulOk x y) : EvI (model prog w) A env h (.BinOp l .Mult r pos) (x * y) :=
  fun s hs Q E kk => wpAny_BinOp (hl s hs _ _ fun t tk => hr { s with toks := tk } hs _ _ fun u tk2 => mul_int (kk _ _) hm)
theorem EvI_mod {prog : Program} {w : World} {A : Around} {env : Env} {h : Heap} {l r : Expr} {pos : Pos} {x y : Int} (hl : EvI (model prog w) A env h l x) (hr : EvI (model prog w) A env h r y) (hy : y ≠ 0) : EvI (model prog w) A env h (.BinOp l .Mod r pos) (x.fmod y) :=
  fun s hs Q E kk => wpAny_BinOp (hl s hs _ _ fun t tk => hr { s with toks := tk } hs _ _ fun u tk2 => mod_int' hy (kk _ _))
theorem EvS_sortedKey {e body : Expr} {f x y : Str} {np pos lpos kp : Pos} {ns : List Int} {T : Int} {params : Arguments} {scope : PySem.Scope} {cd Pt : Addr} (g : Int → Int)
    (hf : Ev c fr σ O (.Name f np) (.raw (.builtin "sorted"))) (he : Ev c fr σ O e (.list (zs ns))) (h64 : ns.length < 64) (hy : (y, .int T) ∈ σ) (htab : (cd, Pt) ∈ c.tabs) (hq : c.tq Pt lpos.line lpos.col = fr.env.qual ++ "<lambda>")
    (hbody : ∀ (clos : List (Str × Addr)) (L' f cc b : Addr) (A' : Around) (n : Int) (h : Heap) (m : Str → Option Value) (t u : Tok), n ∈ ns → h.Ns L' m → m x = some (.int n t) → h.IsCell b (some (.int T u)) → clos.lookup y = some b →
      EvI c.M A' (envX (fr.env.qual ++ "<lambda>") scope L' f (.ref cc) clos) h body (g n))
    (hbind : ∀ clos pm cc ctv v, bindArgs (kla_fn "<lambda>" (fr.env.qual ++ "<lambda>") params body scope clos pm (.ref cc) ctv) ⟨[v], []⟩ = pure [(x, v)])
    (hcode : fr.env.code = .ref cd := by rfl) (hky : fr.env.kindOf y = some .cell := by rfl) (hyn : (y, NameKind.free) ∈ scope.names := by decide)
    (hfree : scope.names.all (fun p => !(p.2 == .free) || fr.env.kindOf p.1 == some .cell) = true := by rfl) (hcell : scope.names.all (fun p => !(p.2 == .cell)) = true := by rfl) (hxn : scope.names.lookup x = some .local := by rfl)
    (hco : scope.isCoroutine = false := by rfl) (hgen : scope.isGenerator = false := by rfl) (hk : scope.kind = .function := by rfl)
    (hns : noStar [e] = true := by rfl) (hdef : defaultsOf params fr.env = ([], []) := by rfl) :
    EvS c fr σ O (.Call (.Name f np) [e] [⟨some "key", .Lambda params body scope lpos, kp⟩] pos) (fun d => ∃ ns' : List Int, ns'.Perm ns ∧ d = .list (zs ns')) := by
  intro s F Q E k
  refine wpAny_Call_Name_kw (hf s F _ _ fun v s₁ F₁ K₁ V₁ => ?_)
  simp only [Val] at V₁; subst V₁
  refine callWith_kw ?_ (by rw [starEach_plain hns]; rfl) (by rw [starEach_plain hns]; rfl)
  refine (EvL.cons he .nil).run hns pos s₁ F₁ _ _ fun vs s₂ F₂ K₂ V₂ => ?_
  obtain ⟨v, rfl, V2⟩ := V₂.one_
  show wpAny _ _ (evalAll [do let v ← eval (.Lambda params body scope lpos) fr.env; standAt pos; pure v]) _ _ _
  refine evalAll_cons (wpAny_bind (kla_eval hdef ?_))
  have hcl : closureFor scope fr.env = pure (clOf fr.env.cells scope.names []) := closureFor_eq fun p hp e => F₂.cfree _ (.inl (by
    have := List.all_eq_true.mp hfree p hp
    simpa [e] using this))
  refine nest_fnE F₂ hcode htab hq hcl fun lf cc pm ctv s₃ F₃ K₃ ef hrec nf => ?_
  refine wpAny_bind (wpAny_standAt (wpAny_pure (evalAll_nil ?_)))
  have V₃ := K₃.val V2
  obtain ⟨l, vs, rfl, na, _, hl, V⟩ := list_of V₃
  have hv := F₃.vars _ hy
  unfold VarAt at hv
  rw [hky] at hv
  obtain ⟨b, u, hlb, hcb, t0, rfl⟩ := hv
  have hclb : (clOf fr.env.cells scope.names []).lookup y = some b := clOf_lookup hlb _ _ (.inl hyn) (fun b hb => by simp at hb)
  generalize hclo : clOf fr.env.cells scope.names [] = clos at ef hcl hclb
  obtain ⟨m, Fm, N, ad⟩ := F₃.adapt
  have hl' : s₃.heap.IsList l vs.toList.toArray := by simpa using hl
  show wpAny _ _ (call (.builtin "sorted") [.ref l] [(Str.ofString "key", .ref lf)]) _ _ _
  have hne : ∀ {q o}, s₃.heap.get? q = some o → NotCell o → q ≠ fr.env.locals → True := fun _ _ _ => trivial
  refine ksk_letter (b := false) g Fm N hl' (IntsAre_of V) h64 (ksk_s1 _ _) (fun z => ksk_l1 _ _) (fun z => ksk_t1 _ _) ?_ ?_
  · intro n t h tk own hn F' N'
    have keep : ∀ q o, q ≠ fr.env.locals → s₃.heap.get? q = some o → h.get? q = some o := fun q o ne e => (N' _ (List.mem_append_left _ (mem_allNews ne e))).1
    obtain ⟨mL, hmL⟩ := F₃.Lns
    have lfne : lf ≠ fr.env.locals := fun q => nf (.inr (.inl (q ▸ F₃.Lown)))
    have lfo := keep _ _ lfne ef
    have hcr : h.CodeRec (.ref cc) (fr.env.qual ++ "<lambda>") := by
      obtain ⟨c0, oc, ws, tq, e0, e1, e2, e3⟩ := hrec
      cases e0
      refine ⟨cc, oc, ws, tq, rfl, keep _ _ (fun q => ?_) e1, e2, e3⟩
      obtain ⟨o, es, ep, e, hd, _⟩ := id hmL
      rw [q, e] at e1; cases e1; rw [hd] at e2; cases e2
    have hcb' : h.IsCell b (some (.int T t0)) := by
      obtain ⟨o, e, d⟩ := id hcb
      exact ⟨o, keep _ _ (ns_ne_cell hmL hcb) e, d⟩
    have nolim : h.NoLimit := c.T.nolimit.keeps fun q o e => keep q o (fun qq => by have := F₃.own0 _ F₃.Lown; rw [← qq, e] at this; cases this) (F₃.wi.keep q o e)
    have room : fr.A.in1.in1.depth < recursionLimit := by
      have := F₃.room.2
      have e : recursionLimit = 1000 := rfl
      show fr.A.depth < _
      (first | lia | omega)
    refine wpAny_call (kla_callFunE (s := { s₃ with heap := h, toks := tk }) room lfo rfl hco hgen rfl hcr ?_)
    rw [hbind]
    refine wpAny_pure (wpAny_newFunctionEnv (fun p hp e => by have := List.all_eq_true.mp hcell p hp; simp [e] at this) (fun p hp => by rw [List.mem_singleton.mp hp]; exact hxn) (fun h₁ hns1 hsb => ⟨nolim.fresh _ hsb, ?_⟩) hk)
    have hk₁ : ∀ q o, h.get? q = some o → h₁.get? q = some o := fun q o e => hsb.extBut q o (Nat.ne_of_lt (Heap.lt_size e)) (Heap.get?_push_of_some _ e)
    refine kla_codeExpr (hbody clos _ _ _ b _ n h₁ _ t t0 hn hns1 (by simp [List.lookup]) (let ⟨o, e, d⟩ := hcb'; ⟨o, hk₁ _ _ e, d⟩) hclb _ rfl _ _ fun t' tk' => ?_)
    exact ⟨h₁, tk', t', rfl, rfl, F'.kept hk₁, N'.grown hk₁⟩
  · intro D vs' ns' cc' h' tk F' N' hlt hi' hlen hp _ _
    obtain ⟨F4, K4, _⟩ := ad h' tk F' (News.tl N')
    have dead : s₃.heap.get? D = none := by
      cases e : s₃.heap.get? D with
      | none => rfl
      | some o =>
        have h1 := hlt _ (mem_allNews (N' _ (List.mem_cons_self ..)).2.1 e)
        exact absurd h1 (Nat.lt_irrefl _)
    refine k (.list (zs ns')) _ _ ⟨ns', hp, rfl⟩ F4 (((K₁.trans K₂).trans K₃).trans K4) ?_
    refine Val_newList (n := cc') (News.hd N') (F₃.new_av dead) ?_
    rw [List.toList_toArray]
    exact Vals_ints hi'
end
end Mine
end
section
open PySem PySem.W PyProof.Rows PySem.Calls PyProof.V PySem.Spec
namespace Mine
section
variable {c : Cx} {fr : FX} {σ σ' : Store} {O O' : Owns} {s s' : Shared} {a : Addr} {ds ds' es : List D}
theorem CallD_maxL {ns : List Int} {M : Int} (hm : M ∈ ns) (hle : ∀ x ∈ ns, x ≤ M) : CallD c fr (.builtin "max") [.list (zs ns)] (.int M) := by
  intro σ O s vs F V Q E k
  obtain ⟨_, rfl, W⟩ := V.one_
  obtain ⟨l, vs, rfl, na, _, hl, V⟩ := list_of W
  obtain ⟨m, Fm, N, ad⟩ := F.adapt
  have hl' : s.heap.IsList l vs.toList.toArray := by simpa using hl
  refine max_list_N F.hand Fm N hl' (IntsAre_of V) (List.length_pos_of_mem hm) fun h' M' t tk F' N' h1 h2 => ?_
  obtain ⟨F2, K2, _⟩ := ad h' tk F' N'
  have : M' = M := Int.le_antisymm (hle _ h1) (h2 _ hm)
  rw [this]
  exact k _ _ F2 K2 ⟨_, rfl⟩
theorem CallD_count {ns : List Int} {x : Int} : CallD c fr (.builtin "list.count") [.list (zs ns), .int x] (.int (ns.count x : Nat)) := by
  intro σ O s vs F V Q E k
  obtain ⟨_, _, rfl, W, ⟨t, rfl⟩⟩ := V.two_
  obtain ⟨l, vs, rfl, na, _, hl, V⟩ := list_of W
  have hl' : s.heap.IsList l vs.toList.toArray := by simpa using hl
  exact count_list_ints hl' (IntsAre_of V) (k _ _ F.toks Kept.refl ⟨_, rfl⟩)
theorem perm_sorted_eq : ∀ {a b : List Int}, a.Perm b → a.Pairwise (· ≤ ·) → b.Pairwise (· ≤ ·) → a = b
  | [], b, p, _, _ => (List.nil_perm.mp p).symm
  | x :: a, [], p, _, _ => absurd p.length_eq (by simp)
  | x :: a, y :: b, p, ha, hb => by
    have ha' := List.pairwise_cons.mp ha
    have hb' := List.pairwise_cons.mp hb
    have hx : y ≤ x := by
      rcases List.mem_cons.mp (p.mem_iff.mp (List.mem_cons_self ..)) with e | e
      · exact Int.le_of_eq e.symm
      · exact hb'.1 _ e
    have hy : x ≤ y := by
      rcases List.mem_cons.mp (p.mem_iff.mpr (List.mem_cons_self ..)) with e | e
      · exact Int.le_of_eq e.symm
      · exact ha'.1 _ e
    obtain rfl : x = y := Int.le_antisymm hy hx
    rw [perm_sorted_eq (List.Perm.cons_inv p) ha'.2 hb'.2]
theorem CallD_sortedL {ns ms : List Int} (h64 : ns.length < 64) (hp : ms.Perm ns) (ho : ms.Pairwise (· ≤ ·)) : CallD c fr (.builtin "sorted") [.list (zs ns)] (.list (zs ms)) := by
  intro σ O s vs F V Q E k
  obtain ⟨_, rfl, W⟩ := V.one_
  obtain ⟨l, vs, rfl, na, _, hl, V⟩ := list_of W
  obtain ⟨m, Fm, N, ad⟩ := F.adapt
  have hl' : s.heap.IsList l vs.toList.toArray := by simpa using hl
  refine kso_sorted Fm N hl' (IntsAre_of V) h64 fun D vs' ns' cc' h' F' N' hlt hi' _ hp' ho' _ => ?_
  obtain ⟨F2, K2, _⟩ := ad h' s.toks F' (News.tl N')
  have dead : s.heap.get? D = none := by
    cases e : s.heap.get? D with
    | none => rfl
    | some o =>
      have h1 := hlt _ (mem_allNews (N' _ (List.mem_cons_self ..)).2.1 e)
      exact absurd h1 (Nat.lt_irrefl _)
  obtain rfl : ns' = ms := perm_sorted_eq (hp'.trans hp.symm) ho' ho
  refine k _ _ F2 K2 (Val_newList (n := cc') (News.hd N') (F.new_av dead) ?_)
  rw [List.toList_toArray]
  exact Vals_ints hi'
theorem Asg_list {ts : List Expr} {k : Nat} {pos : Pos} {ds : List D} (hp : noStar ts = true) (h : AsgL c fr O σ ts ds σ') : Asg c fr σ O (.Tuple ts k pos) (.list ds) σ' := by
  intro s v F V Q E hq
  obtain ⟨l, vs, rfl, na, _, hl, V⟩ := list_of V
  rw [arm_assign_Tuple]
  refine wpAny_bind (wpAny_standAt ?_)
  unfold unpack
  have hn : (assignEach ts fr.env).length = vs.size := by rw [assignEach_plain hp, List.length_map, h.len, ← V.length, Array.length_toList]
  rw [hn, show (assignEach ts fr.env).findIdx? (·.1) = none by rw [assignEach_plain hp]; exact findIdx_plain]
  refine wpAny_bind (wpAny_holding (kun_itemsOf F.hand hl fun h' he => ?_))
  rw [assignEach_plain hp, List.map_map]
  have K : Kept fr O s O { s with heap := h' } := Kept.ext he (tk := s.toks)
  exact h.run _ _ (F.ext he (tk := s.toks)) (K.vals V) _ _ fun s' F' K' => hq s' F' (K.trans K')
end
end Mine
end
section
open PySem PySem.W PyProof.Rows PySem.Calls PyProof.V PySem.Spec
set_option maxRecDepth 100000
namespace Mine
local macro_rules | `(tactic| walk_at "mem") => `(tactic| with_reducible first | exact List.mem_cons_self .. | (refine List.mem_cons_of_mem _ ?_; walk_at "mem"))
local macro_rules | `(tactic| walk_at "st") => `(tactic| first | exact .inl rfl | exact .inr ⟨rfl, rfl⟩)
local macro_rules | `(tactic| walk_at "dr") => `(tactic| first | exact Drop.nil | (with_reducible apply Drop.hit; walk_at "dr") | (with_reducible apply Drop.miss; (focus decide); walk_at "dr"))
local macro_rules | `(tactic| walk_at "sub") => `(tactic| first | exact Sub.nil | (refine Sub.cons (by walk_at "mem") ?_; walk_at "sub"))
theorem EvT_neO {c : Cx} {fr : FX} {σ : Store} {O : Owns} {a : Addr} {x : Str} {xp pos : Pos} {r : Expr} {ns ms : List Int} (ha : (a, zs ns) ∈ O) (hx : Ev c fr σ O (.Name x xp) (.raw (.ref a))) (hr : Ev c fr σ O r (.list (zs ms)))
    (hb : behindInMarks .NotEq r = false := by rfl) : EvT c fr σ O (.Compare (.Name x xp) [.NotEq] [r] pos) (!decide (ns = ms)) := by
  intro s F Q E k
  refine wpAny_isTrue_Compare1 (hx s F _ _ fun v s₁ F₁ K₁ V₁ => hr s₁ F₁ _ _ fun u s₂ F₂ K₂ V₂ => ?_) hb
  simp only [Val] at V₁; subst V₁
  obtain ⟨vs, n, e, V⟩ := F₂.owns _ ha
  obtain ⟨as, ra⟩ := Vals.reads (zs ns) vs.toList (plains_zs ns) V
  obtain ⟨_, rb⟩ := Val.reads (.list (zs ms)) u (by simp [D.plain, plains_zs]) V₂
  have ra' := Reads.list e rfl rfl ra
  have e1 : SeqAt.shaped (.list (D.pys (zs ns))) = true := by rw [pys_zs]; exact ke_shaped_ints ns
  have e2 : SeqAt.shaped (D.py (.list (zs ms))) = true := by simp only [D.py, pys_zs]; exact ke_shaped_ints ms
  have e3 : (!(PyData.list (D.pys (zs ns))).eqv (D.py (.list (zs ms)))) = !decide (ns = ms) := by simp only [D.py, pys_zs, PyData.eqv, ked_eqvAll]
  refine ne_dataH ra' rb e1 e2 F₂.units ?_
  rw [e3]
  exact wpAny_truthy_bool (k s₂ F₂ (K₁.trans K₂))
theorem CallN_list {c : Cx} {fr : FX} {ds : List D} (h : ds.length ≤ 2 ^ 24) : CallN c fr (.type "list") [.list ds] ds := by
  intro σ O s vs F V Q E k
  obtain ⟨v, rfl, W⟩ := V.one_
  obtain ⟨l, vs, rfl, na, ⟨n, g⟩, hl, V⟩ := list_of (show Val _ _ (.list ds) _ from W)
  have e : vs.size = ds.length := by rw [← V.length]; simp
  refine call_list_seq (hsz := by rw [e]; exact h) l (.inl rfl) g rfl rfl fun h' c' hk hD => ?_
  obtain ⟨F2, K2⟩ := F.own (s' := { s with heap := h' }) hk rfl rfl F.fresh hD (ds := ds) V
  exact k _ _ F2 K2
def trimmed (ns : List Int) : List Int := (ns.reverse.dropWhile fun x => x == 0).reverse
theorem trim_end {ns : List Int} {x : Int} : trimmed (ns ++ [x]) = if x = 0 then trimmed ns else ns ++ [x] := by
  unfold trimmed
  rw [List.reverse_append]
  show (List.dropWhile _ (x :: ns.reverse)).reverse = _
  by_cases h : x = 0
  · rw [List.dropWhile_cons_of_pos (by simpa using h), if_pos h]
  · rw [List.dropWhile_cons_of_neg (by simpa using h), if_neg h, List.reverse_cons, List.reverse_reverse]
set_option maxHeartbeats 4000000 in
theorem cs_trimmed {c : Cx} (h : GK c) (ns : List Int) (hl : ns.length ≤ 1000) : CallSpec c (.ref 167) 2 [.list (zs ns)] (.list (zs (trimmed ns))) := by
  refine call_def (n := 1) (xs := [Str.ofString "row"]) (h.at (by rfl)) rfl rfl rfl rfl rfl ⟨_, _, _, _, rfl, h.at (by rfl), rfl, rfl⟩ rfl rfl rfl (len1 fun _ => rfl) (by decide) rfl (by decide) (noFree (by decide)) ?_
  intro L A out own hA
  dsimp only [List.zip, List.zipWith]
  have hz := zs_len ns
  refine Ex_cons (Ex1_assignN (EvN_call (ds := zs ns) (args := [.list (zs ns)]) (Ev_globraw (g_list h)) Keep_type (.cons (Ev_name (by walk_at "mem")) .nil) (CallN_list (by (first | lia | omega)))) (by walk_at "st") (by walk_at "dr") fun al => ?_)
  refine Ex_cut (fun σ O => O = [(al, zs (trimmed ns))] ∧ Sub σ [(Str.ofString "kept", .raw (.ref al))])
    (Ex1_while (fun n σ O => ∃ r : List Int, r.length = n ∧ n ≤ ns.length ∧ trimmed r = trimmed ns ∧ O = [(al, zs r)] ∧ Sub σ [(Str.ofString "kept", .raw (.ref al))]) ?_ ns.length ⟨ns, rfl, Nat.le_refl _, rfl, rfl, by walk_at "sub"⟩) ?_
  · rintro n σ O ⟨r, rfl, hn, ht, rfl, hs⟩
    have hzr := zs_len r
    rcases List.eq_nil_or_concat r with rfl | ⟨q, x, hq⟩
    · refine ⟨(!decide (([] : List Int) = [])) && false, EvT_and (EvT_neO (ns := []) (ms := []) (List.mem_cons_self ..) (Ev_name (hs.mem _ (by walk_at "mem"))) (Ev_list (ds := zs []) .nil)) (fun hc => absurd hc (by decide)), fun hc => absurd hc (by decide), fun _ => ⟨?_, hs⟩⟩
      rw [← ht]; rfl
    · have hrq : r = q ++ [x] := by rw [hq]; simp
      subst hrq
      have hne : decide (q ++ [x] = ([] : List Int)) = false := by simp
      have hql : (zs (q ++ [x])).length = q.length + 1 := by rw [zs_len]; simp
      rw [List.length_append] at hn
      have hn' : q.length + 1 ≤ ns.length := hn
      refine ⟨(!decide (q ++ [x] = ([] : List Int))) && (x == 0), EvT_and (EvT_neO (ns := q ++ [x]) (ms := []) (List.mem_cons_self ..) (Ev_name (hs.mem _ (by walk_at "mem"))) (Ev_list (ds := zs []) .nil)) (fun _ => EvT_cmp (Ev_itemO (j := q.length) (d := .int x) (List.mem_cons_self ..) (Ev_name (hs.mem _ (by walk_at "mem"))) (Ev_neg Ev_int) (.inr ⟨by decide, by (first | lia | omega)⟩) (by simp [zs]) (by (first | lia | omega))) Ev_int CmpD_eq), fun hc => ?_, fun hc => ?_⟩
      · rw [hne] at hc
        have hx0 : x = 0 := by simpa using hc
        refine Ex.weak ?_ hs.mem
        refine Ex_cons (Ex1_methO (Ev_name (by walk_at "mem")) .nil (MethO_pop (ds := zs (q ++ [x])) (by (first | lia | omega)) (by (first | lia | omega))) PySem.F.slot_list_pop PySem.F.type_list_pop ?_ rfl)
        have ee : (zs (q ++ [x])).eraseIdx ((zs (q ++ [x])).length - 1) = zs q := by
          rw [hql, Nat.add_sub_cancel]
          have : zs (q ++ [x]) = zs q ++ [.int x] := by simp [zs]
          rw [this]
          have hl2 : q.length = (zs q).length := (zs_len q).symm
          rw [hl2, List.eraseIdx_append_of_length_le (Nat.le_refl _)]
          simp
        rw [ee]
        refine Ex_nil ⟨q.length, by rw [List.length_append]; simp, q, rfl, by (first | lia | omega), ?_, rfl, by walk_at "sub"⟩
        rw [← ht, trim_end, if_pos hx0]
      · rw [hne] at hc
        have hx0 : x ≠ 0 := by simpa using hc
        refine ⟨?_, hs⟩
        rw [← ht, trim_end, if_neg hx0]
  rintro σ O ⟨rfl, hs⟩
  refine Ex.weak ?_ hs.mem
  refine Ex_freeze (σ' := [(Str.ofString "kept", .list (zs (trimmed ns)))]) ?_ (by
    intro q hq
    rw [List.mem_singleton.mp hq]
    exact .inr ⟨rfl, by walk_at "mem"⟩)
  exact Ex_cons (Ex1_ret (Ev_name (by walk_at "mem")) (rfl : (_ : D) = _))
end Mine
end
section
namespace Mine
open PySem G1
theorem ilGo_any {s : Nat} {count : List Int} : ∀ {k : Nat}, count.length ≤ s + k → ilGo s count k = ilGo s count (count.length - s)
  | 0, h => by rw [show count.length - s = 0 by (first | lia | omega)]
  | k + 1, h => by
    by_cases c : count.length ≤ s + k
    · rw [ilGo_succ, ilGo_any c]
      have : count.getD (s + k) 0 = 0 := by rw [List.getD_eq_getElem?_getD, List.getElem?_eq_none c]; rfl
      rw [this]; (first | lia | omega)
    · rw [show count.length - s = k + 1 by (first | lia | omega)]
theorem ilGo_bump {s b : Nat} {count : List Int} : ∀ k : Nat, ilGo s (bump count b) k = ilGo s count k + if s ≤ b ∧ b < s + k then ((b / s : Nat) : Int) else 0
  | 0 => by rw [if_neg (by (first | lia | omega))]; rfl
  | k + 1 => by
    rw [ilGo_succ, ilGo_succ, ilGo_bump k, bump_get, Int.mul_add]
    by_cases c : s + k = b
    · subst c
      rw [if_neg (by (first | lia | omega)), if_pos rfl, if_pos (by (first | lia | omega))]; (first | lia | omega)
    · rw [if_neg c, Int.mul_zero]
      by_cases d : s ≤ b ∧ b < s + k
      · rw [if_pos d, if_pos (by (first | lia | omega))]; (first | lia | omega)
      · rw [if_neg d, if_neg (by (first | lia | omega))]; (first | lia | omega)
theorem il_bump {s b : Nat} (h1 : 1 ≤ s) {count : List Int} : ilGo s (bump count b) ((bump count b).length - s) = ilGo s count (count.length - s) + ((b / s : Nat) : Int) := by
  have hl := bump_len (count := count) (b := b)
  rw [← ilGo_any (k := max count.length (b + 1)) (by (first | lia | omega)), ilGo_bump, ← ilGo_any (s := s) (count := count) (k := max count.length (b + 1)) (by (first | lia | omega))]
  by_cases c : s ≤ b
  · rw [if_pos (by (first | lia | omega))]
  · rw [if_neg (by (first | lia | omega)), Nat.div_eq_of_lt (by (first | lia | omega))]; rfl
theorem ws_col {s : Nat} (h1 : 1 ≤ s) : ∀ (w : List Nat) (count : List Int) (b n nt c0 : Nat), (∀ c ∈ w, c = 32 ∨ c = 9) → (c0 : Int) = s * (ilGo s count (count.length - s) + nt) →
    (wsGo (w ++ [120, 32, 9]) count b n nt).2.1 = (w.foldl (stp s) (c0, b)).2 ∧ (((w.foldl (stp s) (c0, b)).1 : Nat) : Int) = s * (ilGo s (wsGo (w ++ [120, 32, 9]) count b n nt).1 ((wsGo (w ++ [120, 32, 9]) count b n nt).1.length - s) + (wsGo (w ++ [120, 32, 9]) count b n nt).2.2.2) ∧ (wsGo (w ++ [120, 32, 9]) count b n nt).1.length ≤ max count.length (b + w.length)
  | [], count, b, n, nt, c0, _, e => by
    rw [List.nil_append, wsGo, if_neg (by decide), if_neg (by decide)]
    exact ⟨rfl, e, by show count.length ≤ _; (first | lia | omega)⟩
  | c :: w, count, b, n, nt, c0, h, e => by
    have hw : ∀ d ∈ w, d = 32 ∨ d = 9 := fun d hd => h d (List.mem_cons_of_mem _ hd)
    rcases h c (List.mem_cons_self ..) with rfl | rfl
    · have ih := ws_col h1 w count (b + 1) (n + 1) nt c0 hw e
      rw [List.cons_append, wsGo, if_pos rfl, List.foldl_cons]
      have : stp s (c0, b) 32 = (c0, b + 1) := rfl
      rw [this]
      exact ⟨ih.1, ih.2.1, by have := ih.2.2; rw [List.length_cons]; (first | lia | omega)⟩
    · have ih := ws_col h1 w (bump count b) 0 (n + 1) (nt + 1) (c0 + s * (b / s + 1)) hw (by
        rw [il_bump h1, Int.natCast_add, e, Int.natCast_mul, ← Int.mul_add]
        congr 1
        simp only [Int.natCast_add]
        (first | lia | omega))
      rw [List.cons_append, wsGo, if_neg (by decide), if_pos rfl, List.foldl_cons]
      have : stp s (c0, b) 9 = (c0 + s * (b / s + 1), 0) := rfl
      rw [this]
      refine ⟨ih.1, ih.2.1, ?_⟩
      have := ih.2.2
      rw [bump_len] at this
      rw [List.length_cons]; (first | lia | omega)
def wS (w : List Nat) : Str := ⟨w.toArray⟩
theorem wS_cps (w : List Nat) : (wS w).cps.toList = w := by simp [wS]
theorem wS_len (w : List Nat) : (wS w).length = w.length := by simp [wS, Str.length]
theorem ws_end (w : List Nat) : (wS w ++ Str.ofString "x \t").cps.toList = w ++ [120, 32, 9] := by rw [cps_app, wS_cps]; rfl
theorem level_col {s : Nat} (h1 : 1 ≤ s) {w : List Nat} (h : ∀ c ∈ w, c = 32 ∨ c = 9) : level (wS w ++ Str.ofString "x \t") s = (colW s w : Int) ∧ (wsOf (wS w ++ Str.ofString "x \t")).1.length ≤ w.length := by
  have q := ws_col h1 w [] 0 0 0 0 h (by
    have z : ilGo s ([] : List Int) (([] : List Int).length - s) = 0 := by rw [show ([] : List Int).length - s = 0 from Nat.zero_sub s]; rfl
    rw [z]; simp)
  have e : wsOf (wS w ++ Str.ofString "x \t") = wsGo (w ++ [120, 32, 9]) [] 0 0 0 := by unfold wsOf; rw [ws_end]
  unfold level
  rw [e]
  refine ⟨?_, by have := q.2.2; simp at this; exact this⟩
  rw [q.1, ← q.2.1]
  unfold colW colS
  (first | lia | omega)
end Mine
end
section
open PySem PySem.W PyProof.Rows PySem.Calls PyProof.V PySem.Spec
set_option maxRecDepth 100000
namespace Mine
open G1
local macro_rules | `(tactic| walk_at "mem") => `(tactic| with_reducible first | exact List.mem_cons_self .. | (refine List.mem_cons_of_mem _ ?_; walk_at "mem"))
local macro_rules | `(tactic| walk_at "st") => `(tactic| first | exact .inl rfl | exact .inr ⟨rfl, rfl⟩)
local macro_rules | `(tactic| walk_at "dr") => `(tactic| first | exact Drop.nil | (with_reducible apply Drop.hit; walk_at "dr") | (with_reducible apply Drop.miss; (focus decide); walk_at "dr"))
local macro_rules | `(tactic| walk_at "sub") => `(tactic| first | exact Sub.nil | (refine Sub.cons (by walk_at "mem") ?_; walk_at "sub"))
section
variable {c : Cx} {fr : FX} {σ : Store} {O : Owns} {e i : Expr} {pos ap : Pos} {x : Str}
theorem Ev_level (h : GK c) {ts : Nat} (h1 : 1 ≤ ts) (ht : ts ≤ 2 ^ 20) (hl : (wsOf x).1.length ≤ 2 ^ 20) (he : Ev c fr σ O e (wsD x)) (hi : Ev c fr σ O i (.int ts)) (hA : fr.A.depth + 2 ≤ 900)
    (hb : attributeBase e (Str.ofString "indent_level") fr.env (eval e fr.env) = eval e fr.env := by rfl) (hp : (ap.endLine == pos.line) = true := by rfl) (hs : noStar [i] = true := by rfl) :
    Ev c fr σ O (.Call (.Attribute e (Str.ofString "indent_level") ap) [i] [] pos) (.int (level x ts)) :=
  Ev_methI (C := 132) (ns := wsNames) (ds := wsVals x (wsOf x)) (f := 101) he (.cons hi .nil) (CallD_of (cs_level h x ts h1 ht hl) hA) (by decide) (by rw [h.K]; kernel_rfl) (by rw [h.K]; kernel_rfl) (by rw [h.K]; kernel_rfl) (h.kp (by kernel_rfl)) hs hb rfl hp
end
def pairD (s : Nat) (w : List Nat) : D := .tuple [.str (wS w), .int (colW s w)]
def pairs (s : Nat) (l : List (List Nat)) : List D := l.map (pairD s)
def strW (l : List (List Nat)) : List D := l.map fun w => .str (wS w)
def onS (f : Str → D) : D → D
  | .str x => f x
  | _ => .none
def wOf (x : Str) : List Nat := x.cps.toList
theorem wOf_wS (w : List Nat) : wOf (wS w) = w := wS_cps w
def okD (last : Nat) : D → Bool
  | .tuple [_, .int x] => decide (x ≤ (last : Int))
  | _ => false
def joinW : D → D → D
  | .tuple [.str x, _], .str y => .str (x ++ y)
  | _, _ => .none
def leadS : D → Store
  | .tuple [a, b] => [(Str.ofString "column", b), (Str.ofString "lead", a)]
  | _ => []
theorem those_pairs (s last : Nat) : ∀ F, ((pairs s F).map fun d => if okD last d = true then [d] else []).flatten = pairs s (kept s last F)
  | [] => rfl
  | w :: F => by
    have ih := those_pairs s last F
    unfold pairs kept at ih ⊢
    rw [List.map_cons, List.map_cons, List.flatten_cons, ih]
    by_cases q : colW s w ≤ last
    · have : okD last (pairD s w) = true := by show decide ((colW s w : Int) ≤ (last : Int)) = true; simpa using q
      rw [if_pos this, List.filter_cons_of_pos (by simpa using q)]; rfl
    · have : ¬ okD last (pairD s w) = true := by show ¬ decide ((colW s w : Int) ≤ (last : Int)) = true; simpa using q
      rw [if_neg this, List.filter_cons_of_neg (by simpa using q)]; rfl
theorem wS_app (w : List Nat) (k : Nat) : wS (w ++ [k]) = wS w ++ ⟨#[k]⟩ := by
  have : (wS w ++ (⟨#[k]⟩ : Str)) = ⟨(wS w).cps ++ #[k]⟩ := rfl
  rw [this]; simp [wS]
theorem next_strs (s : Nat) (K : List (List Nat)) : ((pairs s K).map fun d => (chars (Str.ofString " \t")).map (joinW d)).flatten = strW (nextF K) := by
  unfold strW nextF pairs
  rw [List.map_map, List.map_flatten, List.map_map]
  congr 1
  apply List.map_congr_left
  intro w _
  show [D.str (wS w ++ ⟨#[32]⟩), D.str (wS w ++ ⟨#[9]⟩)] = [D.str (wS (w ++ [32])), D.str (wS (w ++ [9]))]
  rw [wS_app, wS_app]
theorem told_pairs (s : Nat) (F : List (List Nat)) : (strW F).map (onS fun x => pairD s (wOf x)) = pairs s F := by
  unfold pairs strW
  rw [List.map_map]
  apply List.map_congr_left
  intro w _
  simp only [Function.comp, onS, wOf_wS]
set_option maxHeartbeats 8000000 in
theorem cs_leads {c : Cx} (h : GK c) (s last : Nat) (h1 : 1 ≤ s) (hs6 : s ≤ 6) (hl : last ≤ 12) : CallSpec c (.ref 141) 5 [.int s, .int last] (.list (pairs s (leads s last (last + 1)))) := by
  refine call_def (n := 4) (xs := [Str.ofString "size", Str.ofString "last"]) (h.at (by rfl)) rfl rfl rfl rfl rfl ⟨_, _, _, _, rfl, h.at (by rfl), rfl, rfl⟩ rfl rfl rfl (len2 fun _ _ => rfl) (by decide) rfl (by decide) (noFree (by decide)) ?_
  intro L A out own hA
  dsimp only [List.zip, List.zipWith]
  refine Ex_cons (Ex1_assignN (ds := []) (EvN_list .nil) (by walk_at "st") (by walk_at "dr") fun al => ?_)
  refine Ex_cons (Ex1_assign (d := .list (strW [[]])) (Ev_list (ds := [.str (Str.ofString "")]) (.cons Ev_str .nil)) (by walk_at "st") (by walk_at "dr") ?_)
  refine Ex_cons (Ex1_for (EvIt_rng1 (Ev_globraw (g_range h)) (Ev_bin (Ev_name (by walk_at "mem")) Ev_int BinD_add) (by (first | lia | omega)) (by (first | lia | omega)))
    (fun i σ O => O = [(al, pairs s (leads s last i))] ∧ Sub σ [(Str.ofString "size", .int s), (Str.ofString "last", .int last), (Str.ofString "leads", .raw (.ref al)), (Str.ofString "front", .list (strW (fr s last i)))]) ⟨rfl, (show Sub _ [(Str.ofString "size", .int s), (Str.ofString "last", .int last), (Str.ofString "leads", .raw (.ref al)), (Str.ofString "front", .list (strW [[]]))] by walk_at "sub")⟩ ?_ ?_)
  · rintro wr i d σ O hdi ⟨rfl, hsub⟩
    have hil : i < ((last : Int) + 1).toNat := by have := (List.getElem?_eq_some_iff.mp hdi).1; simpa [rng] using this
    have hi12 : i ≤ 12 := by (first | lia | omega)
    clear hdi
    refine ⟨_, Asg.weak (Asg_name (by walk_at "st") (by walk_at "dr")) hsub.mem, ?_⟩
    have hfl := fr_len s last i
    have hpow : 2 ^ i ≤ 4096 := Nat.le_trans (Nat.pow_le_pow_right (by decide) hi12) (by decide)
    have hmem : ∀ w ∈ fr s last i, w.length = i ∧ ∀ c ∈ w, c = 32 ∨ c = 9 := fun w hw => fr_mem hw
    have hkl : (kept s last (fr s last i)).length ≤ 4096 := by have := G1.split_len s last (fr s last i); (first | lia | omega)
    have hpl : (pairs s (fr s last i)).length ≤ 4096 := by unfold pairs; rw [List.length_map]; (first | lia | omega)
    refine Ex_cons (Ex1_eachC [(Str.ofString "size", .int s)] (onS fun x => pairD s (wOf x)) (EvIt_list (Ev_name (by walk_at "mem"))) (CompSyn.by (by walk_at "sub")) (by simp only [strW, List.length_map]; (first | lia | omega)) (fun L' cs' out' own' wr d hd acc pre => ⟨.inl rfl, by walk_at "dr", ?_⟩) (by walk_at "st") (by walk_at "dr") ?_)
    · unfold strW at hd
      obtain ⟨w, hw, rfl⟩ := List.mem_map.mp hd
      have hwm := hmem w hw
      have hlc := level_col h1 hwm.2
      show Ev _ _ _ _ _ (pairD s (wOf (wS w)))
      rw [wOf_wS]
      unfold pairD
      rw [← hlc.1]
      have hxl : (wS w ++ Str.ofString "x \t").length ≤ 100 := by
        rw [Str.length_append, wS_len, show (Str.ofString "x \t").length = 3 from rfl]; (first | lia | omega)
      exact Ev_tuple (.cons (Ev_name (by walk_at "mem")) (.cons (Ev_level h h1 (by (first | lia | omega)) (by (first | lia | omega)) (Ev_call (Ev_globraw (g_ws h)) (h.kp (by kernel_rfl)) (.cons (Ev_bin (Ev_name (by walk_at "mem")) Ev_str (BinD_adds (by rw [wS_len, sizeLine_eq, show (Str.ofString "x \t").length = 3 from rfl]; (first | lia | omega)))) .nil) (CallD_of (cs_ws h (wS w ++ Str.ofString "x \t") (by (first | lia | omega))) (show A.depth + 3 ≤ 900 by (first | lia | omega)))) (Ev_name (by walk_at "mem")) (show A.depth + 2 ≤ 900 by (first | lia | omega))) .nil))
    rw [told_pairs]
    refine Ex_cons (Ex1_assignC (outs := (pairs s (fr s last i)).map fun d => if okD last d = true then [d] else []) (EvIt_list (Ev_name (by walk_at "mem"))) (CompSyn.by (σc := [(Str.ofString "last", .int last)]) (by walk_at "sub")) (fun I acc env => turn_eq1 _ _ _ _ _ _ _ _ _) (ok_those [(Str.ofString "last", .int last)] (okD last) (by (first | lia | omega)) ?_) (by walk_at "st") (by walk_at "dr") ?_ (by rfl))
    · intro L' cs' out' own' wr d hd acc pre
      unfold pairs at hd
      obtain ⟨w, hw, rfl⟩ := List.mem_map.mp hd
      exact ⟨.inl rfl, by walk_at "dr", EvT_cmp (Ev_itemT (ds := [.str (wS w), .int (colW s w)]) (j := 1) (d := .int (colW s w)) (Ev_name (List.mem_cons_self ..)) Ev_int (.inl ⟨by decide, rfl⟩) rfl (show 2 ≤ 2 ^ 24 by decide)) (Ev_name (by walk_at "mem")) CmpD_le, Ev_name (by walk_at "mem")⟩
    rw [those_pairs]
    refine Ex_cons (Ex1_methO (args := [.list (pairs s (kept s last (fr s last i)))]) (Ev_name (by walk_at "mem")) (.cons (Ev_name (by walk_at "mem")) .nil) (MethO_extend (ds := pairs s (leads s last i)) (es := pairs s (kept s last (fr s last i))) (by unfold pairs; rw [List.length_map, List.length_map]; (first | lia | omega))) PySem.F.slot_list_extend PySem.F.type_list_extend ?_ rfl)
    have e2 : pairs s (leads s last i) ++ pairs s (kept s last (fr s last i)) = pairs s (leads s last (i + 1)) := by unfold pairs; rw [← List.map_append]; rfl
    rw [e2]
    have hkm : ∀ w ∈ kept s last (fr s last i), w.length = i := fun w hw => (hmem w (List.mem_filter.mp hw).1).1
    refine Ex_cons (Ex1_each2 [] leadS (fun _ => chars (Str.ofString " \t")) joinW (EvIt_list (Ev_name (by walk_at "mem"))) (CompSyn.by Sub.nil) (by rw [next_strs]; unfold strW; rw [List.length_map, next_len]; (first | lia | omega)) (fun d q hq => nomatch hq) (fun L' cs' out' own' wr d hd acc pre => ?_) (by walk_at "st") (by walk_at "dr") ?_)
    · unfold pairs at hd
      obtain ⟨w, hw, rfl⟩ := List.mem_map.mp hd
      refine ⟨Asg_tuple (ds := [.str (wS w), .int (colW s w)]) rfl (.cons (Asg_name (.inl rfl) (by walk_at "dr")) (.cons (Asg_name (.inl rfl) (by walk_at "dr")) .nil)), EvIt_str Ev_str, fun wr' d' hd' => ⟨.inl rfl, (show Drop (Str.ofString "sign") [(Str.ofString "column", .int (colW s w)), (Str.ofString "lead", .str (wS w))] [(Str.ofString "column", .int (colW s w)), (Str.ofString "lead", .str (wS w))] by walk_at "dr"), ?_⟩⟩
      have hwl := hkm w hw
      have hd2 : ∃ k, d' = .str ⟨#[k]⟩ := by
        unfold chars at hd'
        obtain ⟨k, _, rfl⟩ := List.mem_map.mp hd'
        exact ⟨k, rfl⟩
      obtain ⟨k, rfl⟩ := hd2
      show Ev _ _ [(Str.ofString "sign", .str ⟨#[k]⟩), (Str.ofString "column", .int (colW s w)), (Str.ofString "lead", .str (wS w))] _ _ (D.str (wS w ++ ⟨#[k]⟩))
      exact Ev_bin (Ev_name (by walk_at "mem")) (Ev_name (by walk_at "mem")) (BinD_adds (by rw [wS_len, sizeLine_eq, show (⟨#[k]⟩ : Str).length = 1 from rfl]; (first | lia | omega)))
    rw [next_strs]
    exact Ex_nil ⟨rfl, (show Sub _ [(Str.ofString "size", .int s), (Str.ofString "last", .int last), (Str.ofString "leads", .raw (.ref al)), (Str.ofString "front", .list (strW (nextF (kept s last (fr s last i)))))] by walk_at "sub")⟩
  · rintro σ O ⟨rfl, hsub⟩
    have hlen : (rng (0 : Int) 1 ((last : Int) + 1).toNat).length = last + 1 := by simp only [rng, List.length_map, List.length_range]; (first | lia | omega)
    rw [hlen]
    refine Ex.weak ?_ hsub.mem
    refine Ex_freeze (σ' := [(Str.ofString "leads", .list (pairs s (leads s last (last + 1))))]) ?_ (by
      intro q hq
      rw [List.mem_singleton.mp hq]
      exact .inr ⟨rfl, by walk_at "mem"⟩)
    exact Ex_cons (Ex1_ret (Ev_name (by walk_at "mem")) (rfl : (_ : D) = _))
end Mine
end
section
open PySem PySem.W PyProof.Rows PySem.Calls PyProof.V PySem.Spec
namespace Mine
open G1 PySem.StrLaws Builtin.Str
theorem sps_cps (n : Nat) : (sps n).cps.toList = List.replicate n 32 := by
  unfold sps
  have := mul_one_list 32 (n : Int)
  rw [Int.toNat_natCast] at this
  exact this
def textL : Option Nat → List Nat
  | none => []
  | some l => tabP l
theorem textS_cps (o : Option Nat) : (textS o).cps.toList = textL o := by
  cases o with
  | none => rfl
  | some l => show (sps (l : Int) ++ Str.ofString "\t").cps.toList = _; rw [cps_app, sps_cps]; rfl
def piecesS (f : Option Nat) (ms : List Nat) (l : Option Nat) (b : Nat) : List Str := textS f :: (ms.map (fun m => textS (some m)) ++ [textS l ++ sps b])
def patS (f : Option Nat) (ms : List Nat) (l : Option Nat) (b : Nat) (d : Bool) : Str := Txt.join (dotS d) (piecesS f ms l b)
theorem joinD_all : ∀ (p : Str) (ps : List Str), joinD (p :: ps) = (Str.join dots (p :: ps)).cps.toList
  | p, [] => rfl
  | p, q :: ps => by
    have ih := joinD_all q ps
    show p.cps.toList ++ ([46, 46, 46] ++ joinD (q :: ps)) = (p ++ dots ++ Str.join dots (q :: ps)).cps.toList
    rw [ih, cps_app, cps_app, dots_cps, List.append_assoc]
theorem textL_no (o : Option Nat) : 46 ∉ textL o := by
  cases o with
  | none => simp [textL]
  | some l => simp [textL, tabP]
theorem wl_cps (s : Nat) (b : Nat) (l : Option Nat) (d : Bool) (ms : List Nat) : (textS l ++ sps b).cps.toList = PP.wl ⟨s, b, l, d, ms⟩ := by
  rw [cps_app, textS_cps, sps_cps]
  unfold PP.wl
  cases l with
  | none => rfl
  | some l => simp [textL, tabP]
theorem ex_app (P : PP) (f : Option Nat) (fs w : List Nat) : P.Ex (f.toList ++ fs) w ↔ ∃ v, w = textL f ++ v ∧ P.Ex fs v := by
  cases f with
  | none => exact ⟨fun h => ⟨w, rfl, h⟩, fun ⟨v, e, h⟩ => by rw [show w = v from e]; exact h⟩
  | some x =>
    show (∃ v, w = List.replicate x 32 ++ 9 :: v ∧ P.Ex fs v) ↔ _
    have e : ∀ v, textL (some x) ++ v = List.replicate x 32 ++ 9 :: v := fun v => by simp [textL, tabP]
    simp only [e]
theorem pat_dots (s b : Nat) (f l : Option Nat) (ms : List Nat) (w : List Nat) : ematch (patS f ms l b true) (wS w) = true ↔ PP.Ex ⟨s, b, l, true, ms⟩ (fsOf f l true) w := by
  have hj : (patS f ms l b true).cps.toList = joinD (textS f :: (ms.map (fun m => textS (some m)) ++ [textS l ++ sps b])) := by
    rw [joinD_all]
    unfold patS piecesS
    rw [show Txt.join (dotS true) _ = Str.join (dotS true) _ from StrLaws.glued_eq_join _ _]; rfl
  have hno : ∀ p ∈ textS f :: (ms.map (fun m => textS (some m)) ++ [textS l ++ sps b]), 46 ∉ p.cps.toList := by
    intro p hp
    rcases List.mem_cons.mp hp with rfl | hp
    · rw [textS_cps]; exact textL_no f
    rcases List.mem_append.mp hp with hp | hp
    · obtain ⟨m, _, rfl⟩ := List.mem_map.mp hp
      rw [textS_cps]; exact textL_no _
    · rw [List.mem_singleton.mp hp, cps_app, textS_cps, sps_cps]
      intro h
      rcases List.mem_append.mp h with h | h
      · exact textL_no l h
      · simp at h
  rw [ematch_iff hj hno, wS_cps, textS_cps, wl_cps s b l true ms]
  have hm : (ms.map fun m => textS (some m)).map (fun w => w.cps.toList) = ms.map tabP := by
    rw [List.map_map]
    apply List.map_congr_left
    intro m _
    exact textS_cps (some m)
  rw [hm]
  unfold fsOf
  rw [if_pos rfl, ex_app]
  show _ ↔ ∃ v, w = textL f ++ v ∧ (∃ M, v = M ++ PP.wl ⟨s, b, l, true, ms⟩ ∧ Fits (ms.map tabP) M)
  constructor
  · rintro ⟨M, e, h⟩
    exact ⟨_, e, M, rfl, h⟩
  · rintro ⟨v, e, M, e2, h⟩
    exact ⟨M, by rw [e, e2], h⟩
theorem pat_plain (s b : Nat) (f l : Option Nat) (w : List Nat) : ematch (patS f [] l b false) (wS w) = true ↔ PP.Ex ⟨s, b, l, false, []⟩ (fsOf f l false) w := by
  have hc : (patS f [] l b false).cps.toList = textL f ++ (textL l ++ List.replicate b 32) := by
    have : patS f [] l b false = textS f ++ Str.ofString "" ++ (textS l ++ sps b) := by
      unfold patS piecesS
      rw [show Txt.join (dotS false) _ = Str.join (dotS false) _ from StrLaws.glued_eq_join _ _]; rfl
    rw [this, cps_app, cps_app, cps_app, textS_cps, textS_cps, sps_cps, show (Str.ofString "").cps.toList = [] from rfl, List.append_nil]
  have hno : 46 ∉ (patS f [] l b false).cps.toList := by
    rw [hc]
    intro h
    rcases List.mem_append.mp h with h | h
    · exact textL_no f h
    rcases List.mem_append.mp h with h | h
    · exact textL_no l h
    · simp at h
  have hcon : Txt.contains (patS f [] l b false) dots = false := by
    rw [Bool.eq_false_iff]
    intro h
    unfold Txt.contains at h
    rw [found_iff] at h
    obtain ⟨k, hk⟩ := h
    replace hk := At_dots.mp hk
    have : (46 : Nat) ∈ ((patS f [] l b false).cps.toList.drop k).take 3 := by rw [hk]; simp
    exact hno (List.mem_of_mem_drop (List.mem_of_mem_take this))
  unfold ematch
  rw [hcon, if_neg (by simp)]
  unfold fsOf
  rw [if_neg (by simp), ex_app]
  have e0 : ∀ v, PP.Ex ⟨s, b, l, false, []⟩ l.toList v ↔ v = textL l ++ List.replicate b 32 := fun v => by
    have := ex_app ⟨s, b, l, false, []⟩ l [] v
    rw [List.append_nil] at this
    rw [this]
    have e1 : ∀ u, PP.Ex ⟨s, b, l, false, []⟩ [] u ↔ u = List.replicate b 32 := fun u => Iff.rfl
    simp only [e1]
    exact ⟨fun ⟨u, h1, h2⟩ => by rw [h1, h2], fun h => ⟨_, h, rfl⟩⟩
  simp only [e0]
  have eq : ((patS f [] l b false) == wS w) = true ↔ w = textL f ++ (textL l ++ List.replicate b 32) := by
    rw [beq_iff_eq]
    constructor
    · intro h
      rw [← hc, h, wS_cps]
    · intro h
      rw [h, ← hc]
      unfold wS
      rw [Array.toArray_toList]
  rw [eq]
  exact ⟨fun h => ⟨_, h, rfl⟩, fun ⟨v, h1, h2⟩ => by rw [h1, h2]⟩
theorem pat_ok (s b : Nat) (f l : Option Nat) (ms : List Nat) (d : Bool) (hd : d = false → ms = []) (w : List Nat) (h : ∀ c ∈ w, c = 32 ∨ c = 9) : ematch (patS f ms l b d) (wS w) = PP.ok ⟨s, b, l, d, ms⟩ (fsOf f l d) w := by
  rw [Bool.eq_iff_iff, PP.ok_iff _ _ _ h]
  cases d with
  | true => exact pat_dots s b f l ms w
  | false =>
    obtain rfl := hd rfl
    exact pat_plain s b f l w
end Mine
end
section
open PySem PySem.W PyProof.Rows PySem.Calls PyProof.V PySem.Spec
namespace Mine
open G1
theorem d2i_nought (w : Nat) : ∀ xs : List Int, d2i w (xs ++ [0]) = d2i w xs
  | [] => by show d2i w [0] = d2i w []; simp [d2i]
  | x :: xs => by
    have ih := d2i_nought w xs
    rw [List.cons_append, d2i, d2i, ih]
theorem d2i_trimN (w : Nat) : ∀ (n : Nat) (xs : List Int), xs.length = n → d2i w (trimmed xs) = d2i w xs ∧ (trimmed xs = [] ∨ ∃ ys y, trimmed xs = ys ++ [y] ∧ y ≠ 0) ∧ ∀ x ∈ trimmed xs, x ∈ xs
  | 0, xs, h => by
    obtain rfl := List.eq_nil_of_length_eq_zero h
    exact ⟨rfl, .inl rfl, fun x hx => hx⟩
  | n + 1, xs, h => by
    rcases List.eq_nil_or_concat xs with rfl | ⟨q, x, hq⟩
    · cases h
    have hrq : xs = q ++ [x] := by rw [hq]; simp
    subst hrq
    have hqn : q.length = n := by rw [List.length_append] at h; simpa using h
    have ih := d2i_trimN w n q hqn
    rw [trim_end]
    by_cases c : x = 0
    · rw [if_pos c]
      refine ⟨by rw [ih.1, c, d2i_nought], ih.2.1, fun y hy => List.mem_append_left _ (ih.2.2 y hy)⟩
    · rw [if_neg c]
      exact ⟨rfl, .inr ⟨q, x, rfl, c⟩, fun y hy => hy⟩
def cntK (rs : List Nat) (n : Nat) : List Int := (List.range n).map fun k => (rs.count k : Int)
theorem cntK_pw {w n : Nat} {rs : List Nat} (h : ∀ r ∈ rs, r < n) : d2i w (cntK rs n) = pw w rs := S_pw w n rs h
theorem cntK_i2d {w n : Nat} {rs : List Nat} (hw : 1 ≤ w) (h : ∀ r ∈ rs, r < n) (hl : (rs.length : Int) < 2 ^ w) : i2d w (pw w rs) = trimmed (cntK rs n) := by
  have t := d2i_trimN w _ (cntK rs n) rfl
  rw [← cntK_pw h, ← t.1]
  have hm : ∀ x ∈ trimmed (cntK rs n), 0 ≤ x ∧ x < 2 ^ w := fun x hx => by
    obtain ⟨k, _, rfl⟩ := List.mem_map.mp (t.2.2 x hx)
    have := List.count_le_length (a := k) (l := rs)
    (first | lia | omega)
  refine i2d_d2i hw _ hm ?_
  rcases t.2.1 with e | ⟨ys, y, e, hy⟩
  · exact .inl e
  · have := (hm y (by rw [e]; simp)).1
    exact .inr ⟨ys, y, e, by (first | lia | omega)⟩
def takenN (P : PP) (fs : List Nat) (l : List (List Nat)) : List Nat := (l.filter fun w => P.ok fs w).map fun w => colW P.s w
theorem far_count (P : PP) (fs : List Nat) (last k : Nat) (hk : k ≤ last) : ∀ l : List (List Nat), (∀ w ∈ l, colW P.s w ≤ last) → ((takenN P fs l).map fun n : Nat => (n : Int)).count ((last : Int) - k) = (farR P fs last l).count k
  | [], _ => rfl
  | w :: l, h => by
    have ih := far_count P fs last k hk l fun x hx => h x (List.mem_cons_of_mem _ hx)
    have hw := h w (List.mem_cons_self ..)
    unfold takenN farR at ih ⊢
    by_cases c : P.ok fs w = true
    · rw [List.filter_cons_of_pos c, List.map_cons, List.map_cons, List.map_cons, List.count_cons, List.count_cons, ih]
      congr 1
      by_cases q : last - colW P.s w = k
      · rw [if_pos (by simp; (first | lia | omega)), if_pos (by simpa using q)]
      · rw [if_neg (by simp; (first | lia | omega)), if_neg (by simpa using q)]
    · rw [List.filter_cons_of_neg c]; exact ih
theorem far_lt (P : PP) (fs : List Nat) (last : Nat) (l : List (List Nat)) : ∀ r ∈ farR P fs last l, r < last + 1 := fun r hr => by
  unfold farR at hr
  obtain ⟨w, _, rfl⟩ := List.mem_map.mp hr
  (first | lia | omega)
theorem far_len (P : PP) (fs : List Nat) (last : Nat) (hl : last ≤ 12) : (farR P fs last (leads P.s last (last + 1))).length ≤ 8192 ∧ (takenN P fs (leads P.s last (last + 1))).length ≤ 8192 ∧ (leads P.s last (last + 1)).length ≤ 8192 := by
  have h1 := (fr_len P.s last (last + 1)).2
  have h2 : 2 ^ (last + 1) ≤ 8192 := Nat.le_trans (Nat.pow_le_pow_right (by decide) (show last + 1 ≤ 13 by (first | lia | omega))) (by decide)
  have h3 := List.length_filter_le (fun w => P.ok fs w) (leads P.s last (last + 1))
  unfold farR takenN
  rw [List.length_map, List.length_map]
  (first | lia | omega)
theorem divs {a b q r : Int} (h : a = q * b + r) (h0 : 0 ≤ r) (h1 : r < b) : (a.fdiv b = q ∧ a.fmod b = r) ∧ ((-a).fdiv (-b) = q ∧ (-a).fmod (-b) = -r) ∧ ((a + 1).fdiv (-b) = -q - 1 ∧ (a + 1).fmod (-b) = r + 1 - b) ∧ ((-a - 1).fdiv b = -q - 1 ∧ (-a - 1).fmod b = b - 1 - r) := by
  have m1 : q * -b = -(q * b) := Int.mul_neg ..
  have m2 : (-q - 1) * b = -(q * b) - b := by rw [Int.sub_mul, Int.neg_mul, Int.one_mul]
  have m3 : (-q - 1) * -b = q * b + b := by rw [Int.sub_mul, Int.one_mul, Int.neg_mul_neg, Int.sub_neg]
  exact ⟨fdm_pos h h0 h1, fdm_neg (by (first | lia | omega)) (by (first | lia | omega)) (by (first | lia | omega)), fdm_neg (by (first | lia | omega)) (by (first | lia | omega)) (by (first | lia | omega)), fdm_pos (by (first | lia | omega)) (by (first | lia | omega)) (by (first | lia | omega))⟩
end Mine
end
section
open PySem PySem.W PyProof.Rows PySem.Calls PyProof.V PySem.Spec
set_option maxRecDepth 100000
namespace Mine
open G1
local macro_rules | `(tactic| walk_at "mem") => `(tactic| with_reducible first | exact List.mem_cons_self .. | (refine List.mem_cons_of_mem _ ?_; walk_at "mem"))
local macro_rules | `(tactic| walk_at "st") => `(tactic| first | exact .inl rfl | exact .inr ⟨rfl, rfl⟩)
local macro_rules | `(tactic| walk_at "dr") => `(tactic| first | exact Drop.nil | (with_reducible apply Drop.hit; walk_at "dr") | (with_reducible apply Drop.miss; (focus decide); walk_at "dr"))
local macro_rules | `(tactic| walk_at "sub") => `(tactic| first | exact Sub.nil | (refine Sub.cons (by walk_at "mem") ?_; walk_at "sub"))
def pickZ (l : List Int) (lo hi st : Option Int) : List Int :=
  (sliceRange (sliceBounds lo hi st l.length).1 (sliceBounds lo hi st l.length).2.1 (sliceBounds lo hi st l.length).2.2).filterMap (l[·]?)
theorem pick_map {α β : Type} (f : α → β) (l : List α) : ∀ is : List Nat, is.filterMap ((l.map f)[·]?) = (is.filterMap (l[·]?)).map f
  | [] => rfl
  | i :: is => by
    rw [List.filterMap_cons, List.filterMap_cons, List.getElem?_map]
    cases l[i]? with
    | none => simpa using pick_map f l is
    | some v => simpa using pick_map f l is
theorem pickD_zs (l : List Int) (lo hi st : Option Int) : pickD (zs l) lo hi st = zs (pickZ l lo hi st) := by
  unfold pickD pickZ zs
  rw [pick_map, List.length_map]
theorem fmod_rng {a b : Int} (hb : 0 < b) : 0 ≤ a.fmod b ∧ a.fmod b < b := by
  rw [Int.fmod_eq_emod_of_nonneg _ (by (first | lia | omega))]
  exact ⟨Int.emod_nonneg _ (by (first | lia | omega)), Int.emod_lt_of_pos _ hb⟩
def totalZ (ns : List Int) : Int := (pickZ ns none (some 63) none).sum
def headZ (ns : List Int) : List Int := pickZ ns none (some 5) none
def drawsZ (ns : List Int) : List Int := headZ ns ++ pickZ [0, 4, 0, 3, 1] (some (headZ ns).length) none none
theorem g_match {c : Cx} (h : GK c) : GlobIs c (Str.ofString "_ellipsis_match") (.ref 28) := h.gl (by kernel_rfl)
theorem join_totS (sep : Str) : ∀ (l : List Str) (acc : Nat), l.toArray.foldl (· + ·.length + sep.length) acc = acc + (l.map (·.length)).sum + l.length * sep.length := by
  intro l acc
  rw [List.foldl_toArray]
  induction l generalizing acc with
  | nil => simp
  | cons x r ih => rw [List.foldl_cons, ih]; simp only [List.map_cons, List.sum_cons, List.length_cons, Nat.succ_mul]; (first | lia | omega)
theorem sum_le_mul : ∀ (l : List Nat) (K : Nat), (∀ x ∈ l, x ≤ K) → l.sum ≤ l.length * K
  | [], K, _ => by simp
  | x :: l, K, h => by
    have := sum_le_mul l K fun y hy => h y (List.mem_cons_of_mem _ hy)
    have := h x (List.mem_cons_self ..)
    rw [List.sum_cons, List.length_cons, Nat.succ_mul]; (first | lia | omega)
theorem EvN_cast {c : Cx} {fr : FX} {σ : Store} {O : Owns} {e : Expr} {ds ds' : List D} (he : ds = ds') (h : EvN c fr σ O e ds) : EvN c fr σ O e ds' := he ▸ h
def castN (l : List Nat) : List Int := l.map fun n : Nat => (n : Int)
structure W1 (ns : List Int) (d0 d1 d2 d3 d4 : Int) (s b wd last : Nat) (f l : Option Nat) (ms : List Nat) (d : Bool) : Prop where
  hD : drawsZ ns = [d0, d1, d2, d3, d4]
  hs : (s : Int) = (totalZ ns).fmod 6 + 1
  hlast : last = max (s + 4) (2 * s)
  hwd : (wd : Int) = 16 + ((totalZ ns).fdiv 6).fmod 600
  hf : zo f = if d0.fmod 3 = 1 then (d0.fdiv 3).fmod (s + 1) else -1
  hms : castN ms = ([d1, d2].map fun x => if x.fmod 3 = 1 then [(x.fdiv 3).fmod (s + 2)] else []).flatten
  hb : (b : Int) = (d3.fdiv 3).fmod 3
  hl : zo l = if d3.fmod 3 = 1 then (d3.fdiv 9).fmod (s + 1) else -1
  hd : d = !(decide (ms = []) && (d4.fmod 4 == 0))
theorem CmpD_neT2 {c : Cx} {fr : FX} {a b a' b' : Int} (h : a = a' ∧ b = b') : CmpD c fr .NotEq (.tuple [.int a, .int b]) (.tuple [.int a', .int b']) false := by
  obtain ⟨rfl, rfl⟩ := h
  have sh : SeqAt.shaped (D.tuple (zs [a, b])).py = true := by
    have h3 := ke_shaped_ints [a, b]
    simp only [SeqAt.shaped, PyData.canLay0, PyData.depth, Bool.and_eq_true, decide_eq_true_eq] at h3
    simp only [SeqAt.shaped, D.py, pys_zs, PyData.canLay0, PyData.depth, Bool.and_eq_true, decide_eq_true_eq]
    exact ⟨h3.1, of_decide_eq_true h3.2⟩
  have h := CmpD_neD (c := c) (fr := fr) (a := .tuple (zs [a, b])) (b := .tuple (zs [a, b])) (by simp only [D.plain]; exact plains_zs _) (by simp only [D.plain]; exact plains_zs _) sh sh
  have e : (D.tuple (zs [a, b])).py.eqv (D.tuple (zs [a, b])).py = true := by
    simp only [D.py, pys_zs, PyData.eqv, ked_eqvAll]; simp
  rw [e] at h; exact h
theorem EvT_dm {c : Cx} (h : GK c) {fr : FX} {σ : Store} {O : Owns} {x y p r : Expr} {np cp tp pos : Pos} {k : Nat} {a b q z : Int} (hx : Ev c fr σ O x (.int a)) (hy : Ev c fr σ O y (.int b)) (hb : b ≠ 0) (h1 : Builtin.Int.intBits a ≤ 2 ^ 20) (h2 : Builtin.Int.intBits b ≤ 2 ^ 20)
    (hp : Ev c fr σ O p (.int q)) (hr : Ev c fr σ O r (.int z)) (e : a.fdiv b = q ∧ a.fmod b = z) (hd : fr.A.depth + 48 ≤ 900) (hk : fr.env.kindOf (Str.ofString "int_divmod") = some .globalImplicit := by rfl) (hs : noStar [x, y] = true := by rfl) (hs2 : noStar [p, r] = true := by rfl) (hbm : behindInMarks .NotEq (.Tuple [p, r] k tp) = false := by rfl) :
    EvT c fr σ O (.Compare (.Call (.Name (Str.ofString "int_divmod") np) [x, y] [] cp) [.NotEq] [.Tuple [p, r] k tp] pos) false :=
  EvT_cmp (Ev_call (Ev_globraw (g_idm h) hk) (h.kp (by kernel_rfl)) (.cons hx (.cons hy .nil)) (CallD_of (cs_idm h hb h1 h2) hd) hs) (Ev_tuple (.cons hp (.cons hr .nil)) hs2) (CmpD_neT2 e) hbm
theorem CmpD_eqT2 {c : Cx} {fr : FX} {a b a' b' : Int} (h : a = a' ∧ b = b') : CmpD c fr .Eq (.tuple [.int a, .int b]) (.tuple [.int a', .int b']) true := by
  obtain ⟨rfl, rfl⟩ := h
  have sh : SeqAt.shaped (D.tuple (zs [a, b])).py = true := by
    have h3 := ke_shaped_ints [a, b]
    simp only [SeqAt.shaped, PyData.canLay0, PyData.depth, Bool.and_eq_true, decide_eq_true_eq] at h3
    simp only [SeqAt.shaped, D.py, pys_zs, PyData.canLay0, PyData.depth, Bool.and_eq_true, decide_eq_true_eq]
    exact ⟨h3.1, of_decide_eq_true h3.2⟩
  have h := CmpD_eqD (c := c) (fr := fr) (a := .tuple (zs [a, b])) (b := .tuple (zs [a, b])) (by simp only [D.plain]; exact plains_zs _) (by simp only [D.plain]; exact plains_zs _) sh sh
  have e : (D.tuple (zs [a, b])).py.eqv (D.tuple (zs [a, b])).py = true := by
    simp only [D.py, pys_zs, PyData.eqv, ked_eqvAll]; simp
  rw [e] at h; exact h
theorem bitNot_eq (x : Int) : Builtin.bitNot x = -x - 1 := by unfold Builtin.bitNot; (first | lia | omega)
theorem fracGo_bits {s : Nat} {unit : Int} (hs : s ≤ 6) (hu : BL unit 4000) : ∀ (ms : List Nat) (q : Int × Int) (m n : Nat), (∀ x ∈ ms, x ≤ 8) → BL q.1 m → BL q.2 n → BL (fracGo s unit ms q).1 (m + 73000 * ms.length) ∧ BL (fracGo s unit ms q).2 (n + 73000 * ms.length)
  | [], q, m, n, _, h1, h2 => ⟨h1, h2⟩
  | x :: ms, q, m, n, hx, h1, h2 => by
    have hx8 := hx x (List.mem_cons_self ..)
    have ih := fracGo_bits hs hu ms (q.1 * topI s unit x, q.2 * (unit - 1) * (highI s unit x - lowI s unit x)) (m + 73000) (n + 73000) (fun y hy => hx y (List.mem_cons_of_mem _ hy)) ((h1.mul (top_bits hx8 hs hu)).up (by (first | lia | omega))) (((h2.mul (hu.sub BL.one)).mul ((high_bits hx8 hu).sub (low_bits hx8 hu))).up (by (first | lia | omega)))
    rw [List.length_cons]
    exact ⟨ih.1.up (by (first | lia | omega)), ih.2.up (by (first | lia | omega))⟩
theorem frac_bits {s b : Nat} {base : Int} {f : Option Nat} {ms : List Nat} {l : Option Nat} {d : Bool} (hs : s ≤ 6) (hb : b ≤ 2) (hbase : BL base 640) (hf : ∀ x, f = some x → x ≤ 8) (hl : ∀ x, l = some x → x ≤ 8) (hms : ∀ x ∈ ms, x ≤ 8) (hml : ms.length ≤ 2) :
    BL (frac s b base f ms l d).1 240000 ∧ BL (frac s b base f ms l d).2 240000 := by
  have hu : BL (base ^ s) 4000 := (hbase.pow s).up (by (first | lia | omega))
  have hbb : BL (base ^ b) 1281 := (hbase.pow b).up (by (first | lia | omega))
  have hu1 : BL (base ^ s - 1) 4002 := hu.sub BL.one
  have hus : BL (base ^ s - 1 - s) 4010 := hu1.sub (BL.nat (by (first | lia | omega)))
  have hd0 : BL (downF s b (base ^ s) base f) 40000 := by
    rcases f with _ | x
    · exact hbb.up (by (first | lia | omega))
    · exact (hbb.mul (high_bits (hf x rfl) hu)).up (by (first | lia | omega))
  obtain ⟨g1, g2⟩ := fracGo_bits hs hu ms (1, downF s b (base ^ s) base f) 1 40000 hms BL.one hd0
  unfold frac
  generalize fracGo s (base ^ s) ms (1, downF s b (base ^ s) base f) = q at g1 g2
  unfold fracEnd
  cases d with
  | true =>
    rw [if_pos rfl]
    rcases l with _ | x
    · exact ⟨((g1.mul hu1).mul hbase).up (by (first | lia | omega)), ((g2.mul hus).mul (hbase.sub BL.one)).up (by (first | lia | omega))⟩
    · exact ⟨((g1.mul hu1).mul (top_bits (hl x rfl) hs hu)).up (by (first | lia | omega)), (((g2.mul hus).mul hu1).mul (high_bits (hl x rfl) hu)).up (by (first | lia | omega))⟩
  | false =>
    rw [if_neg (by decide)]
    rcases l with _ | x
    · exact ⟨(g1.mul hu1).up (by (first | lia | omega)), (g2.mul hu1).up (by (first | lia | omega))⟩
    · exact ⟨(g1.mul hu1).up (by (first | lia | omega)), ((g2.mul (high_bits (hl x rfl) hu)).mul hu1).up (by (first | lia | omega))⟩
theorem pow2_bits {w k : Nat} (h : w + 1 ≤ k) : BL ((2 : Int) ^ w) k := PySem.intBits_le_iff.mpr (by
  rw [Int.natAbs_pow]
  exact Nat.pow_lt_pow_right (by decide) (by (first | lia | omega)))
theorem cnt_rng {tk : List Int} {rs : List Nat} {last : Nat} (hc : ∀ k, k ≤ last → tk.count ((last : Int) - k) = rs.count k) : (rng 0 1 ((last : Int) + 1).toNat).map (onZ fun z => .int ((tk.count ((last : Int) - z) : Nat) : Int)) = zs (cntK rs (last + 1)) := by
  rw [show ((last : Int) + 1).toNat = last + 1 by (first | lia | omega)]
  unfold rng cntK zs
  rw [List.map_map, List.map_map]
  apply List.map_congr_left
  intro i hi
  have := List.mem_range.mp hi
  simp only [Function.comp, onZ]
  rw [Int.mul_one, Int.zero_add, hc i (by (first | lia | omega))]
set_option maxHeartbeats 16000000 in
theorem cs_law {c : Cx} (h : GK c) (ns : List Int) (hns : ns.length ≤ 2 ^ 20) (d0 d1 d2 d3 d4 : Int) (s b wd last : Nat) (f l : Option Nat) (ms : List Nat) (d : Bool) (W : W1 ns d0 d1 d2 d3 d4 s b wd last f l ms d) : CallSpec c (.ref 172) 60 [.list (zs ns)] (.bool true) := by
  refine call_def (n := 59) (xs := [Str.ofString "script"]) (h.at (by rfl)) rfl rfl rfl rfl rfl ⟨_, _, _, _, rfl, h.at (by rfl), rfl, rfl⟩ rfl rfl rfl (len1 fun _ => rfl) (by decide) rfl (by decide) (noFree (by decide)) ?_
  intro L A out own hA
  dsimp only [List.zip, List.zipWith]
  have hzn := zs_len ns
  have e8 := fun lo hi st => pickD_zs ns lo hi st
  have hs16 := fmod_rng (a := totalZ ns) (b := 6) (by decide)
  have hs := W.hs
  have hwr := fmod_rng (a := (totalZ ns).fdiv 6) (b := 600) (by decide)
  have hwd := W.hwd
  have hlast := W.hlast
  have h1 : 1 ≤ s := by (first | lia | omega)
  have h6 : s ≤ 6 := by (first | lia | omega)
  have hl12 : last ≤ 12 := by (first | lia | omega)
  have hD5 : (drawsZ ns).length = 5 := by rw [W.hD]; rfl
  have hH5 : (headZ ns).length ≤ 5 := by unfold drawsZ at hD5; rw [List.length_append] at hD5; (first | lia | omega)
  have hR5 : (pickZ [0, 4, 0, 3, 1] (some ((headZ ns).length : Int)) none none).length ≤ 5 := by unfold drawsZ at hD5; rw [List.length_append] at hD5; (first | lia | omega)
  have e5 := pickD_zs [0, 4, 0, 3, 1] (some ((headZ ns).length : Int)) none none
  have hzh : (zs (headZ ns)).length = (headZ ns).length := zs_len _
  refine Ex_cons (Ex1_assign (d := .list (zs [d0, d1, d2, d3, d4])) ?_ (by walk_at "st") (by walk_at "dr") ?_)
  · rw [← W.hD]
    have e : zs (drawsZ ns) = zs (headZ ns) ++ zs (pickZ [0, 4, 0, 3, 1] (some ((headZ ns).length : Int)) none none) := by unfold drawsZ; rw [zs_append]
    rw [e]
    refine EvN.ev (EvN_add (EvR.of (by unfold headZ; rw [← e8]; exact EvN.ev (EvN_slice (EvR.of (Ev_name (by walk_at "mem"))) .none (.some Ev_int) .none (by simp) (by (first | lia | omega))))) (EvR.of (by rw [← e5]; exact EvN.ev (EvN_slice (EvR.of (Ev_list (ds := zs [0, 4, 0, 3, 1]) (.cons Ev_int (.cons Ev_int (.cons Ev_int (.cons Ev_int (.cons Ev_int .nil))))))) (.some (show Ev _ _ _ _ _ (.int ((headZ ns).length : Int)) by rw [← hzh]; exact Ev_call (ds := [.list (zs (headZ ns))]) (Ev_globraw (g_len h)) Keep_builtin (.cons (by unfold headZ; rw [← e8]; exact EvN.ev (EvN_slice (EvR.of (Ev_name (by walk_at "mem"))) .none (.some Ev_int) .none (by simp) (by (first | lia | omega)))) .nil) (CallD_len_list (by (first | lia | omega))))) .none .none (by simp) (by simp)))) (by rw [zs_len, zs_len]; (first | lia | omega)))
  refine Ex_cons (Ex1_assign (d := .int (totalZ ns)) (Ev_call (ds := [.list (zs (pickZ ns none (some 63) none))]) (Ev_globraw (g_sum h)) Keep_builtin (.cons (by rw [← e8]; exact EvN.ev (EvN_slice (EvR.of (Ev_name (by walk_at "mem"))) .none (.some Ev_int) .none (by simp) (by (first | lia | omega)))) .nil) CallD_sum) (by walk_at "st") (by walk_at "dr") ?_)
  refine Ex_cons (Ex1_assign (d := .int s) (by rw [hs]; exact Ev_bin (Ev_bin (Ev_name (by walk_at "mem")) Ev_int (BinD_mod (by decide))) Ev_int BinD_add) (by walk_at "st") (by walk_at "dr") ?_)
  refine Ex_cons (Ex1_assign (d := .int last) ?_ (by walk_at "st") (by walk_at "dr") ?_)
  · have e : (last : Int) = if 2 * (s : Int) > (s : Int) + 4 then 2 * (s : Int) else (s : Int) + 4 := by
      split <;> (first | lia | omega)
    rw [e]
    exact Ev_call (ds := [.int ((s : Int) + 4), .int (2 * (s : Int))]) (Ev_globraw (g_max h)) Keep_builtin (.cons (Ev_bin (Ev_name (by walk_at "mem")) Ev_int BinD_add) (.cons (Ev_bin Ev_int (Ev_name (by walk_at "mem")) (BinD_mul (IntMulOk.of_left (by decide)))) .nil)) CallD_max2
  refine Ex_cons (Ex1_assign (d := .int wd) (by rw [hwd]; exact Ev_bin Ev_int (Ev_bin (Ev_bin (Ev_name (by walk_at "mem")) Ev_int (BinD_floordiv (by decide) (pylong_small (k := 3) (by decide) (by decide)))) Ev_int (BinD_mod (by decide))) BinD_add) (by walk_at "st") (by walk_at "dr") ?_)
  have hget : ∀ (k : Nat) (x : Int), k < 5 → [d0, d1, d2, d3, d4][k]? = some x → (zs [d0, d1, d2, d3, d4])[k]? = some (.int x) := fun k x _ e => by unfold zs; rw [List.getElem?_map, e]; rfl
  refine Ex_cons (Ex1_assign (d := .int (zo f)) ?_ (by walk_at "st") (by walk_at "dr") ?_)
  · refine Ev_ifexp (EvT_cmp (Ev_bin (Ev_item (j := 0) (d := .int d0) (Ev_name (by walk_at "mem")) Ev_int (.inl ⟨by decide, rfl⟩) rfl (by simp)) Ev_int (BinD_mod (by decide))) Ev_int CmpD_eq) (fun hc => ?_) (fun hc => ?_)
    · have hc' : d0.fmod 3 = 1 := by simpa using hc
      rw [W.hf, if_pos hc']
      exact Ev_bin (Ev_bin (Ev_item (j := 0) (d := .int d0) (Ev_name (by walk_at "mem")) Ev_int (.inl ⟨by decide, rfl⟩) rfl (by simp)) Ev_int (BinD_floordiv (by decide) (pylong_small (k := 3) (by decide) (by decide)))) (Ev_bin (Ev_name (by walk_at "mem")) Ev_int BinD_add) (BinD_mod (by (first | lia | omega)))
    · have hc' : ¬ d0.fmod 3 = 1 := by simpa using hc
      rw [W.hf, if_neg hc']
      exact Ev_neg Ev_int
  have h13 : pickD (zs [d0, d1, d2, d3, d4]) (some 1) (some 3) none = zs [d1, d2] := by rw [pickD_zs]; rfl
  have hmidB : ∀ x : Int, (match D.int x with | .int x => decide (x.fmod 3 = 1) | _ => false) = decide (x.fmod 3 = 1) := fun _ => rfl
  have hflat : ([d1, d2].map fun x => if x.fmod 3 = 1 then [D.int ((x.fdiv 3).fmod (s + 2))] else []).flatten = zs (castN ms) := by
    rw [W.hms]
    simp only [List.map_cons, List.map_nil, List.flatten_cons, List.flatten_nil]
    by_cases q1 : d1.fmod 3 = 1 <;> by_cases q2 : d2.fmod 3 = 1 <;> simp [q1, q2, zs]
  have hmr : ∀ x ∈ ms, x ≤ 8 := fun x hx => by
    have hx' : (x : Int) ∈ castN ms := List.mem_map_of_mem (f := fun n : Nat => (n : Int)) hx
    rw [W.hms] at hx'
    obtain ⟨o, ho, hxo⟩ := List.mem_flatten.mp hx'
    obtain ⟨y, _, rfl⟩ := List.mem_map.mp ho
    have := fmod_rng (a := y.fdiv 3) (b := (s : Int) + 2) (by (first | lia | omega))
    split at hxo
    · have e := List.mem_singleton.mp hxo; (first | lia | omega)
    · cases hxo
  have hml : ms.length ≤ 2 := by
    have e : (castN ms).length = ms.length := by simp [castN]
    rw [← e, W.hms]
    simp only [List.map_cons, List.map_nil, List.flatten_cons, List.flatten_nil]
    by_cases q1 : d1.fmod 3 = 1 <;> by_cases q2 : d2.fmod 3 = 1 <;> simp [q1, q2]
  refine Ex_cons (Ex1_assignC (ds := zs [d1, d2]) (outs := [d1, d2].map fun x => if x.fmod 3 = 1 then [D.int ((x.fdiv 3).fmod (s + 2))] else []) (EvIt_list (by rw [← h13]; exact EvN.ev (EvN_slice (EvR.of (Ev_name (by walk_at "mem"))) (.some Ev_int) (.some Ev_int) .none (by simp) (by simp)))) (CompSyn.by (σc := [(Str.ofString "size", .int s)]) (by walk_at "sub")) (fun I acc env => turn_eq1 _ _ _ _ _ _ _ _ _) (ok1 (fun d => (Str.ofString "x", d) :: [(Str.ofString "size", .int s)]) (fun d => match d with | .int x => decide (x.fmod 3 = 1) | _ => false) _ (by simp) (by rw [hflat, zs_len]; simp [castN]; (first | lia | omega)) (fun d q hq => List.mem_cons_of_mem _ hq) ?_) (by walk_at "st") (by walk_at "dr") ?_ (by rfl))
  · intro L' cs' out' own' wr i dd o hd ho acc pre
    unfold zs at hd
    rw [List.getElem?_map] at hd ho
    rcases hx : [d1, d2][i]? with _ | x
    · rw [hx] at hd; cases hd
    rw [hx] at hd ho
    have hd' : D.int x = dd := Option.some.inj hd
    have ho' : (if x.fmod 3 = 1 then [D.int ((x.fdiv 3).fmod (s + 2))] else []) = o := Option.some.inj ho
    subst hd' ho'
    refine ⟨Asg_name (.inl rfl) (by walk_at "dr"), .one ?_, fun hb => ?_, fun hb => ?_⟩
    · show EvT _ _ _ _ _ (x.fmod 3 == 1)
      exact EvT_cmp (Ev_bin (Ev_name (d := .int x) (List.mem_cons_self ..)) Ev_int (BinD_mod (by decide))) Ev_int CmpD_eq
    · have q : x.fmod 3 = 1 := by simpa using hb
      exact ⟨D.int ((x.fdiv 3).fmod (s + 2)), by rw [if_pos q], Ev_bin (Ev_bin (Ev_name (d := .int x) (List.mem_cons_self ..)) Ev_int (BinD_floordiv (by decide) (pylong_small (k := 3) (by decide) (by decide)))) (Ev_bin (Ev_name (by walk_at "mem")) Ev_int BinD_add) (BinD_mod (by (first | lia | omega)))⟩
    · have q : ¬ x.fmod 3 = 1 := by simpa using hb
      rw [if_neg q]
  rw [hflat]
  refine Ex_cons (Ex1_assign (d := .int b) (by rw [W.hb]; exact Ev_bin (Ev_bin (Ev_item (j := 3) (d := .int d3) (Ev_name (by walk_at "mem")) Ev_int (.inl ⟨by decide, rfl⟩) rfl (by simp)) Ev_int (BinD_floordiv (by decide) (pylong_small (k := 3) (by decide) (by decide)))) Ev_int (BinD_mod (by decide))) (by walk_at "st") (by walk_at "dr") ?_)
  refine Ex_cons (Ex1_assign (d := .int (zo l)) ?_ (by walk_at "st") (by walk_at "dr") ?_)
  · refine Ev_ifexp (EvT_cmp (Ev_bin (Ev_item (j := 3) (d := .int d3) (Ev_name (by walk_at "mem")) Ev_int (.inl ⟨by decide, rfl⟩) rfl (by simp)) Ev_int (BinD_mod (by decide))) Ev_int CmpD_eq) (fun hc => ?_) (fun hc => ?_)
    · have hc' : d3.fmod 3 = 1 := by simpa using hc
      rw [W.hl, if_pos hc']
      exact Ev_bin (Ev_bin (Ev_item (j := 3) (d := .int d3) (Ev_name (by walk_at "mem")) Ev_int (.inl ⟨by decide, rfl⟩) rfl (by simp)) Ev_int (BinD_floordiv (by decide) (pylong_small (k := 4) (by decide) (by decide)))) (Ev_bin (Ev_name (by walk_at "mem")) Ev_int BinD_add) (BinD_mod (by (first | lia | omega)))
    · have hc' : ¬ d3.fmod 3 = 1 := by simpa using hc
      rw [W.hl, if_neg hc']
      exact Ev_neg Ev_int
  refine Ex_cons (Ex1_assign (d := .str (dotS d)) ?_ (by walk_at "st") (by walk_at "dr") ?_)
  · have em : decide (castN ms = []) = decide (ms = []) := by
      cases ms <;> simp [castN]
    refine Ev_ifexp (EvT_and (EvT_cmp (Ev_name (by walk_at "mem")) (Ev_list (ds := zs []) .nil) CmpD_eqL) (fun _ => EvT_cmp (Ev_bin (Ev_item (j := 4) (d := .int d4) (Ev_name (by walk_at "mem")) Ev_int (.inl ⟨by decide, rfl⟩) rfl (by simp)) Ev_int (BinD_mod (by decide))) Ev_int CmpD_eq)) (fun hc => ?_) (fun hc => ?_)
    · rw [em] at hc
      rw [W.hd, hc]
      exact Ev_str
    · rw [em] at hc
      rw [W.hd, hc]
      exact Ev_str
  have hb2 : b ≤ 2 := by have := fmod_rng (a := d3.fdiv 3) (b := 3) (by decide); have := W.hb; (first | lia | omega)
  have hf8 : ∀ x, f = some x → x ≤ 8 := fun x e => by
    have q := W.hf
    rw [e] at q
    have := fmod_rng (a := d0.fdiv 3) (b := (s : Int) + 1) (by (first | lia | omega))
    have q' : (x : Int) = if d0.fmod 3 = 1 then (d0.fdiv 3).fmod (s + 1) else -1 := q
    split at q' <;> (first | lia | omega)
  have hl8 : ∀ x, l = some x → x ≤ 8 := fun x e => by
    have q := W.hl
    rw [e] at q
    have := fmod_rng (a := d3.fdiv 9) (b := (s : Int) + 1) (by (first | lia | omega))
    have q' : (x : Int) = if d3.fmod 3 = 1 then (d3.fdiv 9).fmod (s + 1) else -1 := q
    split at q' <;> (first | lia | omega)
  have hdm : d = false → ms = [] := fun e => by
    have q := W.hd
    rw [e] at q
    cases ms with
    | nil => rfl
    | cons m ms => simp at q
  have htl : ∀ o : Option Nat, (∀ x, o = some x → x ≤ 8) → (textS o).length ≤ 9 := fun o ho => by
    cases o with
    | none => exact Nat.zero_le _
    | some x =>
      have := runS_len (n := (x : Int)) (by (first | lia | omega))
      have := ho x rfl
      show (runS (x : Int)).length ≤ 9
      (first | lia | omega)
  have hcm : (zs (castN ms)).length = ms.length := by rw [zs_len]; simp [castN]
  have hcm2 : (castN ms).length = ms.length := by simp [castN]
  have hsb : ((sps (b : Int)).length : Int) = b := sps_len (by (first | lia | omega))
  have hlast2 : (textS l ++ sps b).length ≤ 11 := by
    rw [Str.length_append]
    have := htl l hl8
    (first | lia | omega)
  refine Ex_cons (Ex1_assign (d := .list ((piecesS f ms l b).map .str)) ?_ (by walk_at "st") (by walk_at "dr") ?_)
  · have e : (piecesS f ms l b).map D.str = ([.str (textS f)] ++ (zs (castN ms)).map (onZ fun x => .str (textS (some x.toNat)))) ++ [.str (textS l ++ sps b)] := by
      unfold piecesS zs castN
      rw [List.map_cons, List.map_append, List.map_map, List.map_map, List.map_map]
      simp only [List.singleton_append, List.map_cons, List.map_nil, List.cons_append]
      congr 2
    rw [e]
    refine EvN.ev (EvN_add (EvR.of (EvN.ev (EvN_add (EvR.of (Ev_list (.cons (Ev_call (Ev_globraw (g_text h)) (h.kp (by kernel_rfl)) (.cons (Ev_name (by walk_at "mem")) .nil) (CallD_of (cs_text h f fun x e => by have := hf8 x e; (first | lia | omega)) (show A.depth + 2 ≤ 900 by (first | lia | omega)))) .nil))) (EvR.of (EvN.ev (EvN_each [] _ (EvIt_list (Ev_name (by walk_at "mem"))) (CompSyn.by Sub.nil) (by (first | lia | omega)) fun L' cs' out' own' wr dd hd acc pre => ⟨.inl rfl, by walk_at "dr", ?_⟩))) (by simp only [List.length_map, List.length_singleton]; (first | lia | omega))))) (EvR.of (Ev_list (.cons (Ev_bin (Ev_call (Ev_globraw (g_text h)) (h.kp (by kernel_rfl)) (.cons (Ev_name (by walk_at "mem")) .nil) (CallD_of (cs_text h l fun x e => by have := hl8 x e; (first | lia | omega)) (show A.depth + 2 ≤ 900 by (first | lia | omega)))) (Ev_bin Ev_str (Ev_name (by walk_at "mem")) (BinD_muls (sps_ok (n := (b : Int)) (by (first | lia | omega)) (by (first | lia | omega))))) (BinD_adds (by rw [Str.length_append] at hlast2; show (textS l).length + (sps (b : Int)).length ≤ _; rw [sizeLine_eq]; (first | lia | omega)))) .nil))) (by simp only [List.length_map, List.length_append, List.length_singleton]; (first | lia | omega)))
    simp only [zs, castN, List.mem_map] at hd
    obtain ⟨_, ⟨m, hm, rfl⟩, rfl⟩ := hd
    show Ev _ _ _ _ _ (.str (textS (some ((m : Int)).toNat)))
    rw [Int.toNat_natCast]
    have hm8 := hmr m hm
    exact Ev_call (ds := [.int (zo (some m))]) (Ev_globraw (g_text h)) (h.kp (by kernel_rfl)) (.cons (Ev_name (d := .int (m : Int)) (List.mem_cons_self ..)) .nil) (CallD_of (cs_text h (some m) fun x e => by cases e; (first | lia | omega)) (show A.depth + 2 ≤ 900 by (first | lia | omega)))
  have hpl : (piecesS f ms l b).length ≤ 4 := by unfold piecesS; simp; (first | lia | omega)
  have hps : ((piecesS f ms l b).map (·.length)).sum ≤ 44 := by
    have hall : ∀ p ∈ piecesS f ms l b, p.length ≤ 11 := fun p hp => by
      unfold piecesS at hp
      rcases List.mem_cons.mp hp with rfl | hp
      · have := htl f hf8; (first | lia | omega)
      rcases List.mem_append.mp hp with hp | hp
      · obtain ⟨m, hm, rfl⟩ := List.mem_map.mp hp
        have := htl (some m) fun x e => by cases e; exact hmr m hm
        (first | lia | omega)
      · rw [List.mem_singleton.mp hp]; exact hlast2
    have := sum_le_mul ((piecesS f ms l b).map (·.length)) 11 (fun x hx => by
      obtain ⟨p, hp, rfl⟩ := List.mem_map.mp hx
      exact hall p hp)
    rw [List.length_map] at this
    (first | lia | omega)
  have hdl : (dotS d).length ≤ 3 := by cases d <;> decide
  have hmul : (piecesS f ms l b).length * (dotS d).length ≤ 12 := Nat.le_trans (Nat.mul_le_mul hpl hdl) (by decide)
  have hpat : (patS f ms l b d).length ≤ 100 := by
    have := StrLaws.join_length_le (dotS d) (piecesS f ms l b)
    unfold patS
    rw [show Txt.join (dotS d) (piecesS f ms l b) = Str.join (dotS d) (piecesS f ms l b) from StrLaws.glued_eq_join _ _]
    (first | lia | omega)
  refine Ex_cons (Ex1_assign (d := .str (patS f ms l b d)) (Ev_meth (Ev_name (by walk_at "mem")) (MethOn_str F.slot_str_join F.type_str_join) (ds := [.list ((piecesS f ms l b).map .str)]) (.cons (Ev_name (by walk_at "mem")) .nil) (CallD_join (by
    rw [join_totS]
    unfold Builtin.Str.tooLong
    simp only [decide_eq_false_iff_not]
    have := sizeLine_eq
    (first | lia | omega)))) (by walk_at "st") (by walk_at "dr") ?_)
  obtain ⟨P, hP⟩ : ∃ P : PP, P = ⟨s, b, l, d, ms⟩ := ⟨_, rfl⟩
  have hPs : P.s = s := by rw [hP]
  obtain ⟨fs, hfs⟩ : ∃ fs, fs = fsOf f l d := ⟨_, rfl⟩
  have hLm : ∀ w ∈ leads s last (last + 1), colW s w ≤ last ∧ ∀ c ∈ w, c = 32 ∨ c = 9 := fun w hw => leads_mem hw
  have hok : ∀ w ∈ leads s last (last + 1), ematch (patS f ms l b d) (wS w) = P.ok fs w := fun w hw => by rw [hP, hfs]; exact pat_ok s b f l ms d hdm w (hLm w hw).2
  have hfar := far_len P fs last hl12
  rw [hPs] at hfar
  have hwl : ∀ w ∈ leads s last (last + 1), w.length ≤ 12 := fun w hw => by have := (hLm w hw).1; have := colW_len h1 w; (first | lia | omega)
  have hLead := cs_leads h s last h1 h6 hl12
  generalize hLd : leads s last (last + 1) = Ld at *
  have hflt : (Ld.map fun w => if P.ok fs w = true then [D.int (colW s w)] else []).flatten = zs (castN (takenN P fs Ld)) := by
    unfold takenN castN zs
    rw [hPs]
    clear hok hfar hLm hLead hLd hwl
    induction Ld with
    | nil => rfl
    | cons w Ld ih =>
      rw [List.map_cons, List.flatten_cons, ih]
      by_cases q : P.ok fs w = true
      · rw [if_pos q, List.filter_cons_of_pos q]; rfl
      · rw [if_neg q, List.filter_cons_of_neg q]; rfl
  have hct : (castN (takenN P fs Ld)).length ≤ 8192 := by unfold castN; rw [List.length_map]; exact hfar.2.1
  refine Ex_cons (Ex1_assign (d := .list (zs (castN (takenN P fs Ld)))) (EvN.ev (EvN_cast hflt (EvN_comp1 (ds := pairs s Ld) (σc := [(Str.ofString "pattern", .str (patS f ms l b d))]) (fun dd => leadS dd ++ [(Str.ofString "pattern", .str (patS f ms l b d))]) (fun dd => match dd with | .tuple [.str x, _] => ematch (patS f ms l b d) x | _ => false) (Ld.map fun w => if P.ok fs w = true then [D.int (colW s w)] else []) (EvIt_list (Ev_call (Ev_globraw (g_leads h)) (h.kp (by kernel_rfl)) (.cons (Ev_name (by walk_at "mem")) (.cons (Ev_name (by walk_at "mem")) .nil)) (CallD_of hLead (show A.depth + 5 ≤ 900 by (first | lia | omega))))) (CompSyn.by (by walk_at "sub")) (by simp [pairs]) (by rw [hflt, zs_len]; (first | lia | omega)) (fun dd q hq => List.mem_append_right _ hq) ?_))) (by walk_at "st") (by walk_at "dr") ?_)
  · intro L' cs' out' own' wr i dd o hd ho acc pre
    unfold pairs at hd
    rw [List.getElem?_map] at hd ho
    rcases hx : Ld[i]? with _ | w
    · rw [hx] at hd; cases hd
    rw [hx] at hd ho
    have hd' : pairD s w = dd := Option.some.inj hd
    have ho' : (if P.ok fs w = true then [D.int (colW s w)] else []) = o := Option.some.inj ho
    subst hd' ho'
    have hwm := List.mem_of_getElem? hx
    have hw12 := hwl w hwm
    refine ⟨(show Asg _ _ _ _ _ _ [(Str.ofString "column", .int (colW s w)), (Str.ofString "lead", .str (wS w)), (Str.ofString "pattern", .str (patS f ms l b d))] from Asg_tuple (ds := [.str (wS w), .int (colW s w)]) rfl (.cons (Asg_name (.inl rfl) (by walk_at "dr")) (.cons (Asg_name (.inl rfl) (by walk_at "dr")) .nil))), .one ?_, fun hb => ?_, fun hb => ?_⟩
    · show EvT _ _ [(Str.ofString "column", .int (colW s w)), (Str.ofString "lead", .str (wS w)), (Str.ofString "pattern", .str (patS f ms l b d))] _ _ (ematch (patS f ms l b d) (wS w))
      exact EvT_val (Ev_call (Ev_globraw (g_match h)) (h.kp (by kernel_rfl)) (.cons (Ev_name (by walk_at "mem")) (.cons (Ev_name (by walk_at "mem")) .nil)) (CallD_of (cs_match h (patS f ms l b d) (wS w) (by (first | lia | omega)) (by rw [wS_len]; (first | lia | omega))) (show A.depth + 5 ≤ 900 by (first | lia | omega)))) TruD_bool
    · have q : P.ok fs w = true := by rw [← hok w hwm]; exact hb
      exact ⟨D.int (colW s w), by rw [if_pos q], (show Ev _ _ [(Str.ofString "column", .int (colW s w)), (Str.ofString "lead", .str (wS w)), (Str.ofString "pattern", .str (patS f ms l b d))] _ _ _ from Ev_name (by walk_at "mem"))⟩
    · have q : ¬ P.ok fs w = true := by rw [← hok w hwm]; intro z; rw [show ematch (patS f ms l b d) (wS w) = false from hb] at z; cases z
      rw [if_neg q]
  have hcount : ∀ k, k ≤ last → (castN (takenN P fs Ld)).count ((last : Int) - k) = (farR P fs last Ld).count k := fun k hk => far_count P fs last k hk Ld (by rw [hPs]; exact fun w hw => (hLm w hw).1)
  have hrl : (rng 0 1 ((last : Int) + 1).toNat).length = last + 1 := by simp only [rng, List.length_map, List.length_range]; (first | lia | omega)
  refine Ex_cons (Ex1_eachC [(Str.ofString "taken", .list (zs (castN (takenN P fs Ld)))), (Str.ofString "last", .int last)] (onZ fun z => .int (((castN (takenN P fs Ld)).count ((last : Int) - z) : Nat) : Int)) (EvIt_rng1 (Ev_globraw (g_range h)) (Ev_bin (Ev_name (by walk_at "mem")) Ev_int BinD_add) (by (first | lia | omega)) (by (first | lia | omega))) (CompSyn.by (by walk_at "sub")) (by (first | lia | omega)) (fun L' cs' out' own' wr dd hd acc pre => ⟨.inl rfl, by walk_at "dr", ?_⟩) (by walk_at "st") (by walk_at "dr") ?_)
  · obtain ⟨k, rfl⟩ : ∃ k : Int, dd = .int k := by
      unfold rng at hd
      obtain ⟨k, _, rfl⟩ := List.mem_map.mp hd
      exact ⟨_, rfl⟩
    exact Ev_meth (Ev_name (by walk_at "mem")) (MethOn_list F.slot_list_count F.type_list_count) (.cons (Ev_bin (Ev_name (by walk_at "mem")) (Ev_name (by walk_at "mem")) BinD_sub) .nil) CallD_count
  rw [cnt_rng hcount]
  have hwd16 : 16 ≤ wd ∧ wd ≤ 615 := by (first | lia | omega)
  have hbase : BL ((2 : Int) ^ wd) 640 := pow2_bits (by (first | lia | omega))
  have hB : BOk P.s (zw wd) ((2 : Int) ^ wd) := ⟨zw_ok hwd16.1 (by (first | lia | omega)) (by (first | lia | omega)), zw_mul wd⟩
  have hfi := frac_is hB f (by rw [hP]; exact hdm)
  have hfb := frac_bits (s := s) (b := b) (base := 2 ^ wd) (f := f) (ms := ms) (l := l) (d := d) h6 hb2 hbase hf8 hl8 hmr hml
  have hcf := cs_fraction h s b (2 ^ wd) f ms l d h1 h6 hb2 hbase hf8 hl8 hmr (by (first | lia | omega))
  have ecm : zs (ms.map fun n : Nat => (n : Int)) = zs (castN ms) := rfl
  rw [ecm] at hcf
  have hPb : P.b = b := by rw [hP]
  have hPl : P.l = l := by rw [hP]
  have hPd : P.dots = d := by rw [hP]
  have hPm : P.ms = ms := by rw [hP]
  rw [hPs, hPb, hPl, hPd, hPm, ← hfs] at hfi
  generalize hup : (frac s b (2 ^ wd) f ms l d).1 = up at *
  generalize hdn : (frac s b (2 ^ wd) f ms l d).2 = down at *
  refine Ex_cons (Ex1_assignT (Ev_call (Ev_globraw (g_fraction h)) (h.kp (by kernel_rfl)) (.cons (Ev_name (by walk_at "mem")) (.cons (Ev_name (by walk_at "mem")) (.cons (Ev_name (by walk_at "mem")) (.cons (Ev_name (by walk_at "mem")) (.cons (Ev_name (by walk_at "mem")) (.cons (Ev_name (by walk_at "mem")) (.cons (Ev_bin Ev_int (Ev_name (by walk_at "mem")) (BinD_powN (m := 2) (by decide) (by (first | lia | omega)))) .nil))))))) (CallD_of hcf (show A.depth + 4 ≤ 900 by (first | lia | omega)))) (Asg_tuple rfl (.cons (Asg_name (by walk_at "st") (by walk_at "dr")) (.cons (Asg_name (by walk_at "st") (by walk_at "dr")) .nil))) ?_)
  obtain ⟨left, e, l0, l1⟩ := quot (P := P) (fs := fs) (w := wd) (last := last) (up := up) (down := down) hwd16.1 (by (first | lia | omega)) (by (first | lia | omega)) hl12 hfi.2 hfi.1
  rw [hPs, hLd] at e
  have hm : wd * last ≤ 615 * 12 := Nat.mul_le_mul hwd16.2 hl12
  have hpb : BL ((2 : Int) ^ (wd * last)) 7400 := pow2_bits (by (first | lia | omega))
  have hwb : BL (up * 2 ^ (wd * last)) 250000 := (hfb.1.mul hpb).up (by (first | lia | omega))
  refine Ex_cons (Ex1_assign (d := .int (up * 2 ^ (wd * last))) (Ev_bin (Ev_name (by walk_at "mem")) (Ev_bin Ev_int (show Ev _ _ _ _ _ (.int ((wd * last : Nat) : Int)) by rw [Int.natCast_mul]; exact Ev_bin (Ev_name (by walk_at "mem")) (Ev_name (by walk_at "mem")) (BinD_mulB (PySem.intBits_cast_le (by rw [sizeLine_eq]; (first | lia | omega))) (BL.nat (k := last) (by (first | lia | omega))) (by (first | lia | omega)))) (BinD_powN (m := 2) (by decide) (by (first | lia | omega)))) (BinD_mulB hfb.1 hpb (by (first | lia | omega)))) (by walk_at "st") (by walk_at "dr") ?_)
  generalize hW : up * 2 ^ (wd * last) = whole at *
  have hQ0 : 0 ≤ pw wd (farR P fs last Ld) := pw_nonneg _ _
  have hcd2 := cntK_pw (w := wd) (far_lt P fs last Ld)
  have hci := cntK_i2d (w := wd) (by (first | lia | omega)) (far_lt P fs last Ld) (by
    have q := ipow_le (show 16 ≤ wd by (first | lia | omega))
    have : (2 : Int) ^ 16 = 65536 := by decide
    have := hfar.1
    (first | lia | omega))
  have hck : ∀ x ∈ cntK (farR P fs last Ld) (last + 1), x.natAbs ≤ 2 ^ 14 := fun x hx => by
    obtain ⟨k, _, rfl⟩ := List.mem_map.mp hx
    have := List.count_le_length (a := k) (l := farR P fs last Ld)
    have := hfar.1
    (first | lia | omega)
  have hcl : (cntK (farR P fs last Ld) (last + 1)).length = last + 1 := by simp [cntK]
  generalize pw wd (farR P fs last Ld) = Q at *
  generalize cntK (farR P fs last Ld) (last + 1) = C at *
  obtain ⟨v1, v2, v3, v4⟩ := divs e l0 l1
  have hd0 : 0 < down := hfi.2
  have hQb : BL Q 250000 := by rw [← v1.1]; exact PySem.intBits_fdiv_le hwb
  have hFv : Fv whole down = .tuple [.int Q, .int left] := by unfold Fv; rw [v1.1, v1.2]
  have hidm := cs_idm h (a := whole) (b := down) (by (first | lia | omega)) (Nat.le_trans hwb (by decide)) (Nat.le_trans hfb.2 (by decide))
  rw [hFv] at hidm
  refine Ex_cons (Ex1_assignT (Ev_call (Ev_globraw (g_idm h)) (h.kp (by kernel_rfl)) (.cons (Ev_name (by walk_at "mem")) (.cons (Ev_name (by walk_at "mem")) .nil)) (CallD_of hidm (show A.depth + 48 ≤ 900 by (first | lia | omega)))) (Asg_tuple rfl (.cons (Asg_name (by walk_at "st") (by walk_at "dr")) (.cons (Asg_name (by walk_at "st") (by walk_at "dr")) .nil))) ?_)
  have hcm3 : wd * C.length ≤ 615 * 13 := Nat.mul_le_mul hwd16.2 (by (first | lia | omega))
  have hcs2 := cs_d2i h false C wd (by (first | lia | omega)) 14 hck (by (first | lia | omega)) (by (first | lia | omega)) (by (first | lia | omega))
  rw [hcd2] at hcs2
  have hcs3 := cs_i2d h Q wd hQ0 (by (first | lia | omega)) (by (first | lia | omega)) (Nat.le_trans hQb (by decide))
  rw [hci] at hcs3
  have hself : ∀ (fr : FX) (x : Int), CmpD c fr .NotEq (.int x) (.int x) false := fun fr x => by
    have q := CmpD_ne (c := c) (fr := fr) (a := x) (b := x)
    rwa [show (x != x) = false by simp] at q
  have hselfL : ∀ (fr : FX) (x : List Int), CmpD c fr .NotEq (.list (zs x)) (.list (zs x)) false := fun fr x => by
    have q := CmpD_neL (c := c) (fr := fr) (a := x) (b := x)
    rwa [show (!decide (x = x)) = false by simp] at q
  refine Ex_cons (Ex1_if (b := false) (EvT_or (a := false) (b := false) (EvT_cmp (Ev_name (by walk_at "mem")) (Ev_call (ds := [.list (zs C), .int wd]) (Ev_globraw (g_d2i h)) (h.kp (by kernel_rfl)) (.cons (Ev_name (by walk_at "mem")) (.cons (Ev_name (by walk_at "mem")) .nil)) (CallD_of hcs2 (show A.depth + 30 ≤ 900 by (first | lia | omega)))) (hself _ Q)) (fun _ => EvT_cmp (Ev_call (Ev_globraw (g_i2d h)) (h.kp (by kernel_rfl)) (.cons (Ev_name (by walk_at "mem")) (.cons (Ev_name (by walk_at "mem")) .nil)) (CallD_of hcs3 (show A.depth + 30 ≤ 900 by (first | lia | omega)))) (Ev_call (Ev_globraw (g_trimmed h)) (h.kp (by kernel_rfl)) (.cons (Ev_name (by walk_at "mem")) .nil) (CallD_of (cs_trimmed h C (by (first | lia | omega))) (show A.depth + 2 ≤ 900 by (first | lia | omega)))) (hselfL _ _))) (fun hc => by cases hc) (fun _ => ?_))
  refine Ex_nil ?_
  have el : whole - Q * down = left := by (first | lia | omega)
  have hle : ∀ fr : FX, CmpD c fr .NotEq (.int left) (.int (whole - Q * down)) false := fun fr => by rw [el]; exact hself fr left
  have hlt0 : ∀ fr : FX, CmpD c fr .Lt (.int left) (.int 0) false := fun fr => by
    have q := CmpD_lt (c := c) (fr := fr) (a := left) (b := 0)
    rwa [decide_eq_false (by (first | lia | omega))] at q
  have hge0 : ∀ fr : FX, CmpD c fr .GtE (.int left) (.int down) false := fun fr => by
    have q := CmpD_ge (c := c) (fr := fr) (a := left) (b := down)
    rwa [decide_eq_false (by (first | lia | omega))] at q
  refine Ex_cons (Ex1_if (b := false) (EvT_or3 (a := false) (b := false) (d := false) (EvT_cmp (Ev_name (by walk_at "mem")) (Ev_bin (Ev_name (by walk_at "mem")) (Ev_bin (Ev_name (by walk_at "mem")) (Ev_name (by walk_at "mem")) (BinD_mulB hQb hfb.2 (by (first | lia | omega)))) BinD_sub) (hle _)) (fun _ => EvT_cmp (Ev_name (by walk_at "mem")) Ev_int (hlt0 _)) (fun _ _ => EvT_cmp (Ev_name (by walk_at "mem")) (Ev_name (by walk_at "mem")) (hge0 _))) (fun hc => by cases hc) (fun _ => ?_))
  refine Ex_nil ?_
  have hA48 : A.depth + 48 ≤ 900 := by (first | lia | omega)
  have bnd : Builtin.Int.intBits (-down) ≤ 2 ^ 20 := Nat.le_trans (PySem.intBits_neg_le hfb.2) (by decide)
  have bnw : Builtin.Int.intBits (-whole) ≤ 2 ^ 20 := Nat.le_trans (PySem.intBits_neg_le hwb) (by decide)
  have bw1 : Builtin.Int.intBits (whole + 1) ≤ 2 ^ 20 := Nat.le_trans (BL.add hwb BL.one) (by decide)
  have bww : Builtin.Int.intBits (-whole - 1) ≤ 2 ^ 20 := Nat.le_trans (BL.sub (PySem.intBits_neg_le hwb) BL.one) (by decide)
  have bdd : Builtin.Int.intBits down ≤ 2 ^ 20 := Nat.le_trans hfb.2 (by decide)
  refine Ex_cons (Ex1_if (EvT_dm h (Ev_neg (Ev_name (by walk_at "mem"))) (Ev_neg (Ev_name (by walk_at "mem"))) (by (first | lia | omega)) bnw bnd (Ev_name (by walk_at "mem")) (Ev_neg (Ev_name (by walk_at "mem"))) v2 hA48) (fun hc => by cases hc) (fun _ => ?_))
  refine Ex_nil ?_
  rw [← bitNot_eq] at v3
  refine Ex_cons (Ex1_if (EvT_dm h (Ev_bin (Ev_name (by walk_at "mem")) Ev_int BinD_add) (Ev_neg (Ev_name (by walk_at "mem"))) (by (first | lia | omega)) bw1 bnd (Ev_inv (Ev_name (by walk_at "mem"))) (Ev_bin (Ev_bin (Ev_name (by walk_at "mem")) Ev_int BinD_add) (Ev_name (by walk_at "mem")) BinD_sub) v3 hA48) (fun hc => by cases hc) (fun _ => ?_))
  refine Ex_nil ?_
  rw [← bitNot_eq, ← bitNot_eq] at v4
  rw [← bitNot_eq] at bww
  exact Ex_cons (Ex1_ret (Ev_cmp (Ev_call (Ev_globraw (g_idm h)) (h.kp (by kernel_rfl)) (.cons (Ev_inv (Ev_name (by walk_at "mem"))) (.cons (Ev_name (by walk_at "mem")) .nil)) (CallD_of (cs_idm h (by (first | lia | omega)) bww bdd) (show A.depth + 48 ≤ 900 by (first | lia | omega)))) (Ev_tuple (.cons (Ev_inv (Ev_name (by walk_at "mem"))) (.cons (Ev_bin (Ev_bin (Ev_name (by walk_at "mem")) Ev_int BinD_sub) (Ev_name (by walk_at "mem")) BinD_sub) .nil))) (CmpD_eqT2 v4)) (rfl : (_ : D) = _))
end Mine
end
section
open PySem PySem.W PyProof.Rows PySem.Calls PyProof.V PySem.Spec
set_option maxRecDepth 100000
set_option maxHeartbeats 80000000
namespace Mine
abbrev asL : List Addr := [2, 3, 15, 17, 18, 20, 21, 22, 24, 25, 27, 28, 29, 31, 32, 34, 35, 36, 38, 39, 41, 42, 43, 45, 46, 48, 49, 50, 52, 53, 55, 56, 57, 59, 60, 62, 63, 64, 66, 67, 69, 70, 81, 83, 84, 86, 87, 88, 90, 91, 93, 94, 95, 97, 98, 100, 101, 102, 104, 105, 107, 108, 109, 111, 112, 114, 115, 116, 118, 119, 121, 122, 123, 125, 126, 128, 129, 130, 131, 132, 133, 134, 137, 140, 141, 142, 144, 145, 147, 148, 149, 152, 153, 154, 156, 157, 159, 160, 161, 163, 164, 166, 167, 168, 171, 172]
theorem asOk : ∀ P, asL = (hd.heap_39 P).map (·.1) := fun _ => by kernel_rfl
theorem said : PySem.Challenge.rw_pg0291_01.wellSaid = true := by decide +kernel
theorem left : LeftO PySem.Challenge.rw_pg0291_01.row.toRowW.prog hd.view_39 [Str.ofString "Whitespace"] (fun s => xlAt hd.view_39 [] s && recOk (RowW.records PySem.Challenge.rw_pg0291_01.row.toRowW) s) (kmHook hd.heap_39 asL asOk [51, 44]).obs (kmHook hd.heap_39 asL asOk [51, 44]).val 4000 :=
  LeftO.of_split "special-get-raises" (fun w => by kernel_rfl)
end Mine
end
section
open PySem PySem.W PyProof.Rows PySem.Calls PyProof.V PySem.Spec
set_option maxRecDepth 100000
namespace Mine
theorem pick_rest (k : Nat) (h : k ≤ 5) : (pickZ [0, 4, 0, 3, 1] (some (k : Int)) none none).length = 5 - k := by
  match k, h with
  | 0, _ => rfl
  | 1, _ => rfl
  | 2, _ => rfl
  | 3, _ => rfl
  | 4, _ => rfl
  | 5, _ => rfl
  | k + 6, h => (first | lia | omega)
theorem head_len (ns : List Int) : (headZ ns).length ≤ 5 := by
  unfold headZ pickZ
  refine Nat.le_trans (List.length_filterMap_le _ _) ?_
  show (sliceRange 0 (max 0 (min 5 (ns.length : Int))) 1).length ≤ 5
  unfold sliceRange
  rw [if_pos (by decide), List.length_map, List.length_range]
  split <;> (first | lia | omega)
theorem list5 {l : List Int} (h : l.length = 5) : ∃ a b c d e, l = [a, b, c, d, e] := by
  match l, h with
  | [a, b, c, d, e], _ => exact ⟨a, b, c, d, e, rfl⟩
theorem zo_ex (x m : Int) (hm : 0 < m) : ∃ o : Option Nat, zo o = if x.fmod 3 = 1 then (x.fdiv 3).fmod m else -1 := by
  by_cases q : x.fmod 3 = 1
  · have := fmod_rng (a := x.fdiv 3) (b := m) hm
    exact ⟨some ((x.fdiv 3).fmod m).toNat, by rw [if_pos q]; show ((((x.fdiv 3).fmod m).toNat : Nat) : Int) = _; (first | lia | omega)⟩
  · exact ⟨none, by rw [if_neg q]; rfl⟩
theorem zo_ex9 (x m : Int) (hm : 0 < m) : ∃ o : Option Nat, zo o = if x.fmod 3 = 1 then (x.fdiv 9).fmod m else -1 := by
  by_cases q : x.fmod 3 = 1
  · have := fmod_rng (a := x.fdiv 9) (b := m) hm
    exact ⟨some ((x.fdiv 9).fmod m).toNat, by rw [if_pos q]; show ((((x.fdiv 9).fmod m).toNat : Nat) : Int) = _; (first | lia | omega)⟩
  · exact ⟨none, by rw [if_neg q]; rfl⟩
theorem w1_ex (ns : List Int) : ∃ d0 d1 d2 d3 d4 s b wd last f l ms d, W1 ns d0 d1 d2 d3 d4 s b wd last f l ms d := by
  have hh := head_len ns
  have hD : (drawsZ ns).length = 5 := by unfold drawsZ; rw [List.length_append, pick_rest _ hh]; (first | lia | omega)
  obtain ⟨d0, d1, d2, d3, d4, e⟩ := list5 hD
  have h6 := fmod_rng (a := totalZ ns) (b := 6) (by decide)
  have h600 := fmod_rng (a := (totalZ ns).fdiv 6) (b := 600) (by decide)
  have h3 := fmod_rng (a := d3.fdiv 3) (b := 3) (by decide)
  obtain ⟨s, hs⟩ : ∃ s : Nat, (s : Int) = (totalZ ns).fmod 6 + 1 := ⟨((totalZ ns).fmod 6 + 1).toNat, by (first | lia | omega)⟩
  obtain ⟨f, hf⟩ := zo_ex d0 ((s : Int) + 1) (by (first | lia | omega))
  obtain ⟨l, hl⟩ := zo_ex9 d3 ((s : Int) + 1) (by (first | lia | omega))
  let mz := ([d1, d2].map fun x => if x.fmod 3 = 1 then [(x.fdiv 3).fmod ((s : Int) + 2)] else []).flatten
  have hmz : castN (mz.map Int.toNat) = mz := by
    have : ∀ x ∈ mz, 0 ≤ x := fun x hx => by
      obtain ⟨o, ho, hxo⟩ := List.mem_flatten.mp hx
      obtain ⟨y, _, rfl⟩ := List.mem_map.mp ho
      have := fmod_rng (a := y.fdiv 3) (b := (s : Int) + 2) (by (first | lia | omega))
      split at hxo
      · have e := List.mem_singleton.mp hxo; (first | lia | omega)
      · cases hxo
    generalize mz = z at this
    unfold castN
    rw [List.map_map]
    conv => rhs; rw [← List.map_id z]
    apply List.map_congr_left
    intro x hx
    have := this x hx
    simp only [Function.comp, id]
    (first | lia | omega)
  exact ⟨d0, d1, d2, d3, d4, s, ((d3.fdiv 3).fmod 3).toNat, (16 + ((totalZ ns).fdiv 6).fmod 600).toNat, max (s + 4) (2 * s), f, l, mz.map Int.toNat, _, ⟨e, hs, rfl, by (first | lia | omega), hf, hmz, by (first | lia | omega), hl, rfl⟩⟩
def tq1 : Addr → Nat → Nat → Str := fun P _ _ => if P = 51 then Str.ofString "_digits2int.<locals>.inner" else Str.ofString "_int2digits.<locals>.inner"
set_option maxHeartbeats 8000000 in
theorem holds : PySem.Challenge.rw_pg0291_01.Holds := by
  refine holds_law said fun said' => ?_
  refine holds_open (q := hd.view_39) (loose := [Str.ofString "Whitespace"]) (Xt := fun s => xlAt hd.view_39 [] s && recOk (RowW.records PySem.Challenge.rw_pg0291_01.row.toRowW) s) (XP := XL hd.view_39 []) (Yf := (kmHook hd.heap_39 asL asOk [51, 44]).obs) (Ya := (kmHook hd.heap_39 asL asOk [51, 44]).val) (YP := (kmHook hd.heap_39 asL asOk [51, 44]).says) (N := 4000) left (kmHook hd.heap_39 asL asOk [51, 44]).of (kmHook hd.heap_39 asL asOk [51, 44]).keeps (fun s e => xl_of s (Bool.and_eq_true_iff.mp e).1) XL.keeps (by rfl) (by rfl) (by rfl) (fun s e => recFacts_of (Bool.and_eq_true_iff.mp e).2) (by rfl) said' (by decide +kernel) ⟨rfl, rfl, rfl, rfl, rfl, by decide +kernel⟩ ?hw ?hc
  case hw => w_witness2
  intro w s₀ s₁ mg mb G Y fa o pm cd doc dV kV ho hd hcd hD hmg hg args vals as hpre hlay hrd hwl hlo
  have KX := km_in_of Y
  have hT8 := km_tabs_of Y
  have X := (Ground.X G).1
  have V := (Ground.X G).2
  refine Ground.open G ?_
  intro T B D TE TW
  try (refine guard_noD D (by decide +kernel) ?_; clear D)
  have hT9 : TabsAt ([(55, 51), (48, 44)] : List (Addr × Addr)) _ := List.forall_mem_cons.mpr ⟨⟨codeHd_of_K (c := 55) (P := 51) KX (by kernel_rfl), hT8 51 (by simp)⟩, List.forall_mem_cons.mpr ⟨⟨codeHd_of_K (c := 48) (P := 44) KX (by kernel_rfl), hT8 44 (by simp)⟩, fun _ h => nomatch h⟩⟩
  wrow_args hpre hlay hrd hwl hlo
  all_goals (first | refine callC_kw (enter_call ?_) | refine enter_call ?_)
  w_top on
  kn_posts
  have hfa : fa = 172 := by
    have e := mg_of KX T.g (n := Str.ofString "law") (v := .ref 172) (by kernel_rfl)
    have e' : mg (Str.ofString "law") = some (.ref fa) := hmg
    rw [e] at e'; cases e'; rfl
  subst hfa
  obtain ⟨d0, d1, d2, d3, d4, s, b, wd, last, f, l, ms, d, W⟩ := w1_ex ‹List Int›
  refine enter_law tq1 T (by assumption) KX (by rfl) (by assumption) (by assumption) (n := 60) (by decide) (fun c e1 e2 e3 e4 e5 => cs_law ⟨by rw [e3, e2], e4, e5⟩ _ (by (first | lia | omega)) d0 d1 d2 d3 d4 s b wd last f l ms d W) fun s' h1 h2 h3 h4 => ?_
  exact ⟨⟨.inl ⟨_, .bool true, [], rfl, fun _ => rfl, .bool true, by kernel_rfl, fun _ => ⟨.nil, fun a h => by cases h⟩⟩, h1, h2, h3⟩, h4⟩
end Mine
end
theorem PySem.Challenge.cw_pg0291_01_holds : PySem.Challenge.rw_pg0291_01.Holds :=
  Mine.holds
