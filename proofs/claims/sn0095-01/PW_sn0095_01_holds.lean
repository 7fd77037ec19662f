import PyProof.Rows.All
import Wide.All
import OpenK.AllK
import Wide.FinOn
import PySem.Challenge.RW_sn0095_01
open PySem PySem.W PyProof.Rows
set_option Elab.async false
set_option maxRecDepth 100000
set_option maxHeartbeats 4000000
set_option linter.all false
namespace Mine
noncomputable section
noncomputable abbrev P0 : Program := PySem.Challenge.pw_sn0095_01
noncomputable def stm (i : Nat) : Stmt := P0.main.body.getD i (.Pass default)
noncomputable def dBody : Stmt → List Stmt
  | .FunctionDef _ _ b .. => b
  | .ClassDef _ _ _ b .. => b
  | _ => []
noncomputable def dArgs : Stmt → Arguments
  | .FunctionDef _ a .. => a
  | _ => ⟨[], [], none, [], [], none, []⟩
noncomputable def dScope : Stmt → Scope
  | .FunctionDef _ _ _ _ _ _ s .. => s
  | _ => default
noncomputable def sub (s : Stmt) (i : Nat) : Stmt := (dBody s).getD i (.Pass default)
noncomputable def dKeys : Stmt → List (Option Expr)
  | .Assign _ (.Dict ks _ _) _ => ks
  | _ => []
noncomputable def dVals : Stmt → List Expr
  | .Assign _ (.Dict _ vs _) _ => vs
  | _ => []
noncomputable def cInt : Option Expr → Int
  | some (.Constant (.int i) _ _) => i
  | _ => 0
noncomputable def cStr : Expr → Str
  | .Constant (.str s) _ _ => s
  | _ => Str.mk #[]
noncomputable def b3tok (i : Nat) : Nat := match Nat.blt i 646 with | true => 428 + 3 * i | false => 2366 + 2 * (i - 646)
noncomputable def b3ent : List (Option Expr) → List Expr → Nat → List DictEntry
  | k :: ks, v :: vs, i => ⟨cInt k, .int (cInt k) (b3tok i), .str (cStr v) (b3tok i + 1)⟩ :: b3ent ks vs (i + 1)
  | _, _, _ => []
noncomputable def b3part (f n : Nat) : Array DictEntry := ⟨b3ent (((dKeys (stm 13)).drop f).take n) (((dVals (stm 13)).drop f).take n) f⟩
noncomputable def ob11A (P : Params) : Obj := ⟨.type "tuple", none, .seq #[] 0, #[]⟩
noncomputable def ob12A (P : Params) : Obj := ⟨.none, none, .fields #[], #[]⟩
noncomputable def ob13A (P : Params) : Obj := ⟨.type "code", none, .fields #[.str (Str.ofString "<module>") 182, .str (Str.ofString "<module>") 183, .str (Str.ofString "/claim/cut.py") 184, .int 1 0, .int 0 0, .int 0 0, .int 0 0, .int 0 0, .ref 11, .bool false, .int 181 0, .ref 12, .none, .none, .none, .none, .int 185 0, .int 1 0, .str (Str.ofString "/claim/cut.py") 186], #[]⟩
noncomputable def ob14A (P : Params) : Obj := ⟨.type "frame", none, .plain, #[(some (.ref 13)), (some (.ref 3)), (some (.ref 3)), none, (some (.str (Str.ofString "__main__") 164)), none, (some (.ref 0))]⟩
noncomputable def TA (P : Params) : List Obj := [PySem.W.boot_o_0 P, PySem.W.boot_o_1 P, PySem.W.boot_o_2 P, PySem.W.boot_o_3 P, PySem.W.boot_o_4 P, PySem.W.boot_o_5 P, PySem.W.boot_o_6 P, PySem.W.boot_o_7 P, PySem.W.boot_o_8 P, PySem.W.boot_o_9 P, PySem.W.boot_o_10 P, ob11A P, ob12A P, ob13A P, ob14A P]
noncomputable def ob3C (P : Params) : Obj := ⟨.type "dict", none, .dict #[⟨PyData.keyHash P (Str.ofString "__name__"), .str (Str.ofString "__name__") 165, .str (Str.ofString "cpy313.tabnanny") 194⟩, ⟨PyData.keyHash P (Str.ofString "__doc__"), .str (Str.ofString "__doc__") 166, .none⟩, ⟨PyData.keyHash P (Str.ofString "__package__"), .str (Str.ofString "__package__") 167, .none⟩, ⟨PyData.keyHash P (Str.ofString "__loader__"), .str (Str.ofString "__loader__") 168, .builtin "__main__.__loader__#opaque"⟩, ⟨PyData.keyHash P (Str.ofString "__spec__"), .str (Str.ofString "__spec__") 169, .none⟩, ⟨PyData.keyHash P (Str.ofString "__annotations__"), .str (Str.ofString "__annotations__") 170, .ref 6⟩, ⟨PyData.keyHash P (Str.ofString "__builtins__"), .str (Str.ofString "__builtins__") 171, .ref 4⟩, ⟨PyData.keyHash P (Str.ofString "__file__"), .str (Str.ofString "__file__") 173, .str (Str.ofString "/claim/cut.py") 172⟩, ⟨PyData.keyHash P (Str.ofString "__cached__"), .str (Str.ofString "__cached__") 174, .none⟩, ⟨PyData.keyHash P (Str.ofString "_wall"), .str (Str.ofString "_wall") 193, .ref 21⟩] 10, #[]⟩
noncomputable def ob12C (P : Params) : Obj := ⟨.none, none, .fields #[.int 1 0, .int 0 0, .ref 20], #[]⟩
noncomputable def ob15C (P : Params) : Obj := ⟨.type "tuple", none, .seq #[] 0, #[]⟩
noncomputable def ob16C (P : Params) : Obj := ⟨.none, none, .fields #[], #[]⟩
noncomputable def ob17C (P : Params) : Obj := ⟨.type "tuple", none, .seq #[.str (Str.ofString "k") 190] 0, #[]⟩
noncomputable def ob18C (P : Params) : Obj := ⟨.type "tuple", none, .seq #[] 0, #[]⟩
noncomputable def ob19C (P : Params) : Obj := ⟨.none, none, .func { name := (Str.ofString "_wall"), qualname := (Str.ofString "_wall"), params := dArgs (stm 0), body := .stmts (dBody (stm 0)), scope := dScope (stm 0), globals := 0, closure := [], defaults := .none, kwdefaults := .none, doc := .none, pyModule := .none, annotations := none, code := .none, closureTuple := .none, builtins := 0 }, #[]⟩
noncomputable def ob20C (P : Params) : Obj := ⟨.type "code", none, .fields #[.str (Str.ofString "_wall") 187, .str (Str.ofString "_wall") 188, .str (Str.ofString "/claim/cut.py") 189, .int 1 0, .int 1 0, .int 0 0, .int 0 0, .int 3 0, .ref 15, .bool true, .int 181 0, .ref 16, .none, .ref 17, .ref 18, .ref 19, .int 191 0, .int 1 0, .str (Str.ofString "/claim/cut.py") 192], #[]⟩
noncomputable def ob21C (P : Params) : Obj := ⟨.type "function", none, .func { name := (Str.ofString "_wall"), qualname := (Str.ofString "_wall"), params := dArgs (stm 0), body := .stmts (dBody (stm 0)), scope := dScope (stm 0), globals := 3, closure := [], defaults := .none, kwdefaults := .none, doc := .none, pyModule := .str (Str.ofString "__main__") 164, annotations := none, code := .ref 20, closureTuple := .none, builtins := 0 }, #[]⟩
noncomputable def TC (P : Params) : List Obj := [PySem.W.boot_o_0 P, PySem.W.boot_o_1 P, PySem.W.boot_o_2 P, ob3C P, PySem.W.boot_o_4 P, PySem.W.boot_o_5 P, PySem.W.boot_o_6 P, PySem.W.boot_o_7 P, PySem.W.boot_o_8 P, PySem.W.boot_o_9 P, PySem.W.boot_o_10 P, ob11A P, ob12C P, ob13A P, ob14A P, ob15C P, ob16C P, ob17C P, ob18C P, ob19C P, ob20C P, ob21C P]
noncomputable def ob3D (P : Params) : Obj := ⟨.type "dict", none, .dict #[⟨PyData.keyHash P (Str.ofString "__name__"), .str (Str.ofString "__name__") 165, .str (Str.ofString "cpy313.tabnanny") 194⟩, ⟨PyData.keyHash P (Str.ofString "__doc__"), .str (Str.ofString "__doc__") 166, .none⟩, ⟨PyData.keyHash P (Str.ofString "__package__"), .str (Str.ofString "__package__") 167, .none⟩, ⟨PyData.keyHash P (Str.ofString "__loader__"), .str (Str.ofString "__loader__") 168, .builtin "__main__.__loader__#opaque"⟩, ⟨PyData.keyHash P (Str.ofString "__spec__"), .str (Str.ofString "__spec__") 169, .none⟩, ⟨PyData.keyHash P (Str.ofString "__annotations__"), .str (Str.ofString "__annotations__") 170, .ref 6⟩, ⟨PyData.keyHash P (Str.ofString "__builtins__"), .str (Str.ofString "__builtins__") 171, .ref 4⟩, ⟨PyData.keyHash P (Str.ofString "__file__"), .str (Str.ofString "__file__") 173, .str (Str.ofString "/claim/cut.py") 172⟩, ⟨PyData.keyHash P (Str.ofString "__cached__"), .str (Str.ofString "__cached__") 174, .none⟩, ⟨PyData.keyHash P (Str.ofString "_wall"), .str (Str.ofString "_wall") 193, .ref 21⟩, ⟨PyData.keyHash P (Str.ofString "Whitespace"), .str (Str.ofString "Whitespace") 291, .ref 83⟩] 11, #[]⟩
noncomputable def ob12D (P : Params) : Obj := ⟨.none, none, .fields #[.int 1 0, .int 0 0, .ref 20, .int 5 0, .int 0 0, .ref 27], #[]⟩
noncomputable def ob22D (P : Params) : Obj := ⟨.type "tuple", none, .seq #[] 0, #[]⟩
noncomputable def ob23D (P : Params) : Obj := ⟨.type "builtin_function_or_method", none, .fields #[.builtin "type.__prepare__", .type "type"], #[]⟩
noncomputable def ob24D (P : Params) : Obj := ⟨.type "dict", none, .dict #[⟨PyData.keyHash P (Str.ofString "__module__"), .str (Str.ofString "__module__") 203, .str (Str.ofString "cpy313.tabnanny") 194⟩, ⟨PyData.keyHash P (Str.ofString "__qualname__"), .str (Str.ofString "__qualname__") 205, .str (Str.ofString "Whitespace") 204⟩, ⟨PyData.keyHash P (Str.ofString "__firstlineno__"), .str (Str.ofString "__firstlineno__") 207, .int 5 206⟩, ⟨PyData.keyHash P (Str.ofString "S"), .str (Str.ofString "S") 211, .str (Str.ofString " ") 209⟩, ⟨PyData.keyHash P (Str.ofString "T"), .str (Str.ofString "T") 212, .str (Str.mk #[9]) 210⟩, ⟨PyData.keyHash P (Str.ofString "__init__"), .str (Str.ofString "__init__") 227, .ref 38⟩, ⟨PyData.keyHash P (Str.ofString "longest_run_of_spaces"), .str (Str.ofString "longest_run_of_spaces") 234, .ref 45⟩, ⟨PyData.keyHash P (Str.ofString "indent_level"), .str (Str.ofString "indent_level") 246, .ref 52⟩, ⟨PyData.keyHash P (Str.ofString "equal"), .str (Str.ofString "equal") 254, .ref 59⟩, ⟨PyData.keyHash P (Str.ofString "not_equal_witness"), .str (Str.ofString "not_equal_witness") 262, .ref 66⟩, ⟨PyData.keyHash P (Str.ofString "less"), .str (Str.ofString "less") 270, .ref 73⟩, ⟨PyData.keyHash P (Str.ofString "not_less_witness"), .str (Str.ofString "not_less_witness") 278, .ref 80⟩, ⟨PyData.keyHash P (Str.ofString "__static_attributes__"), .str (Str.ofString "__static_attributes__") 284, .ref 81⟩] 13, #[]⟩
noncomputable def ob25D (P : Params) : Obj := ⟨.type "tuple", none, .seq #[] 0, #[]⟩
noncomputable def ob26D (P : Params) : Obj := ⟨.none, none, .fields #[.int 8 0, .int 4 0, .ref 37, .int 31 0, .int 4 0, .ref 44, .int 34 0, .int 4 0, .ref 51, .int 41 0, .int 4 0, .ref 58, .int 44 0, .int 4 0, .ref 65, .int 47 0, .int 4 0, .ref 72, .int 50 0, .int 4 0, .ref 79], #[]⟩
noncomputable def ob27D (P : Params) : Obj := ⟨.type "code", none, .fields #[.str (Str.ofString "Whitespace") 198, .str (Str.ofString "Whitespace") 199, .str (Str.ofString "/claim/cut.py") 200, .int 5 0, .int 0 0, .int 0 0, .int 0 0, .int 0 0, .ref 25, .bool false, .int 181 0, .ref 26, .none, .none, .none, .none, .int 201 0, .int 5 0, .str (Str.ofString "/claim/cut.py") 202], #[]⟩
noncomputable def ob28D (P : Params) : Obj := ⟨.type "frame", none, .plain, #[(some (.ref 27)), (some (.ref 3)), (some (.ref 24)), none, (some (.str (Str.ofString "cpy313.tabnanny") 194)), none, (some (.ref 0))]⟩
noncomputable def ob29D (P : Params) : Obj := ⟨.type "str_ascii_iterator", none, .fields #[.none, .int 2 0], #[]⟩
noncomputable def ob30D (P : Params) : Obj := ⟨.type "tuple", none, .seq #[] 0, #[]⟩
noncomputable def ob31D (P : Params) : Obj := ⟨.type "StopIteration", none, .fields #[.ref 30, .none, .none, .none, .bool false, .none], #[]⟩
noncomputable def ob32D (P : Params) : Obj := ⟨.type "tuple", none, .seq #[] 0, #[]⟩
noncomputable def ob33D (P : Params) : Obj := ⟨.none, none, .fields #[], #[]⟩
noncomputable def ob34D (P : Params) : Obj := ⟨.type "tuple", none, .seq #[.str (Str.ofString "self") 216, .str (Str.ofString "ws") 217, .str (Str.ofString "S") 218, .str (Str.ofString "T") 219, .str (Str.ofString "count") 220, .str (Str.ofString "b") 221, .str (Str.ofString "n") 222, .str (Str.ofString "nt") 223, .str (Str.ofString "ch") 224] 0, #[]⟩
noncomputable def ob35D (P : Params) : Obj := ⟨.type "tuple", none, .seq #[] 0, #[]⟩
noncomputable def ob36D (P : Params) : Obj := ⟨.none, none, .func { name := (Str.ofString "__init__"), qualname := (Str.ofString "Whitespace.__init__"), params := dArgs (sub (stm 2) 1), body := .stmts (dBody (sub (stm 2) 1)), scope := dScope (sub (stm 2) 1), globals := 0, closure := [], defaults := .none, kwdefaults := .none, doc := .none, pyModule := .none, annotations := none, code := .none, closureTuple := .none, builtins := 0 }, #[]⟩
noncomputable def ob37D (P : Params) : Obj := ⟨.type "code", none, .fields #[.str (Str.ofString "__init__") 213, .str (Str.ofString "Whitespace.__init__") 214, .str (Str.ofString "/claim/cut.py") 215, .int 8 0, .int 2 0, .int 0 0, .int 0 0, .int 3 0, .ref 32, .bool true, .int 181 0, .ref 33, .none, .ref 34, .ref 35, .ref 36, .int 225 0, .int 8 0, .str (Str.ofString "/claim/cut.py") 226], #[]⟩
noncomputable def ob38D (P : Params) : Obj := ⟨.type "function", none, .func { name := (Str.ofString "__init__"), qualname := (Str.ofString "Whitespace.__init__"), params := dArgs (sub (stm 2) 1), body := .stmts (dBody (sub (stm 2) 1)), scope := dScope (sub (stm 2) 1), globals := 3, closure := [], defaults := .none, kwdefaults := .none, doc := .none, pyModule := .str (Str.ofString "cpy313.tabnanny") 194, annotations := none, code := .ref 37, closureTuple := .none, builtins := 0 }, #[]⟩
noncomputable def ob39D (P : Params) : Obj := ⟨.type "tuple", none, .seq #[] 0, #[]⟩
noncomputable def ob40D (P : Params) : Obj := ⟨.none, none, .fields #[], #[]⟩
noncomputable def ob41D (P : Params) : Obj := ⟨.type "tuple", none, .seq #[.str (Str.ofString "self") 231] 0, #[]⟩
noncomputable def ob42D (P : Params) : Obj := ⟨.type "tuple", none, .seq #[] 0, #[]⟩
noncomputable def ob43D (P : Params) : Obj := ⟨.none, none, .func { name := (Str.ofString "longest_run_of_spaces"), qualname := (Str.ofString "Whitespace.longest_run_of_spaces"), params := dArgs (sub (stm 2) 2), body := .stmts (dBody (sub (stm 2) 2)), scope := dScope (sub (stm 2) 2), globals := 0, closure := [], defaults := .none, kwdefaults := .none, doc := .none, pyModule := .none, annotations := none, code := .none, closureTuple := .none, builtins := 0 }, #[]⟩
noncomputable def ob44D (P : Params) : Obj := ⟨.type "code", none, .fields #[.str (Str.ofString "longest_run_of_spaces") 228, .str (Str.ofString "Whitespace.longest_run_of_spaces") 229, .str (Str.ofString "/claim/cut.py") 230, .int 31 0, .int 1 0, .int 0 0, .int 0 0, .int 3 0, .ref 39, .bool true, .int 181 0, .ref 40, .none, .ref 41, .ref 42, .ref 43, .int 232 0, .int 31 0, .str (Str.ofString "/claim/cut.py") 233], #[]⟩
noncomputable def ob45D (P : Params) : Obj := ⟨.type "function", none, .func { name := (Str.ofString "longest_run_of_spaces"), qualname := (Str.ofString "Whitespace.longest_run_of_spaces"), params := dArgs (sub (stm 2) 2), body := .stmts (dBody (sub (stm 2) 2)), scope := dScope (sub (stm 2) 2), globals := 3, closure := [], defaults := .none, kwdefaults := .none, doc := .none, pyModule := .str (Str.ofString "cpy313.tabnanny") 194, annotations := none, code := .ref 44, closureTuple := .none, builtins := 0 }, #[]⟩
noncomputable def ob46D (P : Params) : Obj := ⟨.type "tuple", none, .seq #[] 0, #[]⟩
noncomputable def ob47D (P : Params) : Obj := ⟨.none, none, .fields #[], #[]⟩
noncomputable def ob48D (P : Params) : Obj := ⟨.type "tuple", none, .seq #[.str (Str.ofString "self") 238, .str (Str.ofString "tabsize") 239, .str (Str.ofString "count") 240, .str (Str.ofString "trailing") 241, .str (Str.ofString "il") 242, .str (Str.ofString "i") 243] 0, #[]⟩
noncomputable def ob49D (P : Params) : Obj := ⟨.type "tuple", none, .seq #[] 0, #[]⟩
noncomputable def ob50D (P : Params) : Obj := ⟨.none, none, .func { name := (Str.ofString "indent_level"), qualname := (Str.ofString "Whitespace.indent_level"), params := dArgs (sub (stm 2) 3), body := .stmts (dBody (sub (stm 2) 3)), scope := dScope (sub (stm 2) 3), globals := 0, closure := [], defaults := .none, kwdefaults := .none, doc := .none, pyModule := .none, annotations := none, code := .none, closureTuple := .none, builtins := 0 }, #[]⟩
noncomputable def ob51D (P : Params) : Obj := ⟨.type "code", none, .fields #[.str (Str.ofString "indent_level") 235, .str (Str.ofString "Whitespace.indent_level") 236, .str (Str.ofString "/claim/cut.py") 237, .int 34 0, .int 2 0, .int 0 0, .int 0 0, .int 3 0, .ref 46, .bool true, .int 181 0, .ref 47, .none, .ref 48, .ref 49, .ref 50, .int 244 0, .int 34 0, .str (Str.ofString "/claim/cut.py") 245], #[]⟩
noncomputable def ob52D (P : Params) : Obj := ⟨.type "function", none, .func { name := (Str.ofString "indent_level"), qualname := (Str.ofString "Whitespace.indent_level"), params := dArgs (sub (stm 2) 3), body := .stmts (dBody (sub (stm 2) 3)), scope := dScope (sub (stm 2) 3), globals := 3, closure := [], defaults := .none, kwdefaults := .none, doc := .none, pyModule := .str (Str.ofString "cpy313.tabnanny") 194, annotations := none, code := .ref 51, closureTuple := .none, builtins := 0 }, #[]⟩
noncomputable def ob53D (P : Params) : Obj := ⟨.type "tuple", none, .seq #[] 0, #[]⟩
noncomputable def ob54D (P : Params) : Obj := ⟨.none, none, .fields #[], #[]⟩
noncomputable def ob55D (P : Params) : Obj := ⟨.type "tuple", none, .seq #[.str (Str.ofString "self") 250, .str (Str.ofString "other") 251] 0, #[]⟩
noncomputable def ob56D (P : Params) : Obj := ⟨.type "tuple", none, .seq #[] 0, #[]⟩
noncomputable def ob57D (P : Params) : Obj := ⟨.none, none, .func { name := (Str.ofString "equal"), qualname := (Str.ofString "Whitespace.equal"), params := dArgs (sub (stm 2) 4), body := .stmts (dBody (sub (stm 2) 4)), scope := dScope (sub (stm 2) 4), globals := 0, closure := [], defaults := .none, kwdefaults := .none, doc := .none, pyModule := .none, annotations := none, code := .none, closureTuple := .none, builtins := 0 }, #[]⟩
noncomputable def ob58D (P : Params) : Obj := ⟨.type "code", none, .fields #[.str (Str.ofString "equal") 247, .str (Str.ofString "Whitespace.equal") 248, .str (Str.ofString "/claim/cut.py") 249, .int 41 0, .int 2 0, .int 0 0, .int 0 0, .int 3 0, .ref 53, .bool true, .int 181 0, .ref 54, .none, .ref 55, .ref 56, .ref 57, .int 252 0, .int 41 0, .str (Str.ofString "/claim/cut.py") 253], #[]⟩
noncomputable def ob59D (P : Params) : Obj := ⟨.type "function", none, .func { name := (Str.ofString "equal"), qualname := (Str.ofString "Whitespace.equal"), params := dArgs (sub (stm 2) 4), body := .stmts (dBody (sub (stm 2) 4)), scope := dScope (sub (stm 2) 4), globals := 3, closure := [], defaults := .none, kwdefaults := .none, doc := .none, pyModule := .str (Str.ofString "cpy313.tabnanny") 194, annotations := none, code := .ref 58, closureTuple := .none, builtins := 0 }, #[]⟩
noncomputable def ob60D (P : Params) : Obj := ⟨.type "tuple", none, .seq #[] 0, #[]⟩
noncomputable def ob61D (P : Params) : Obj := ⟨.none, none, .fields #[], #[]⟩
noncomputable def ob62D (P : Params) : Obj := ⟨.type "tuple", none, .seq #[.str (Str.ofString "self") 258, .str (Str.ofString "other") 259] 0, #[]⟩
noncomputable def ob63D (P : Params) : Obj := ⟨.type "tuple", none, .seq #[] 0, #[]⟩
noncomputable def ob64D (P : Params) : Obj := ⟨.none, none, .func { name := (Str.ofString "not_equal_witness"), qualname := (Str.ofString "Whitespace.not_equal_witness"), params := dArgs (sub (stm 2) 5), body := .stmts (dBody (sub (stm 2) 5)), scope := dScope (sub (stm 2) 5), globals := 0, closure := [], defaults := .none, kwdefaults := .none, doc := .none, pyModule := .none, annotations := none, code := .none, closureTuple := .none, builtins := 0 }, #[]⟩
noncomputable def ob65D (P : Params) : Obj := ⟨.type "code", none, .fields #[.str (Str.ofString "not_equal_witness") 255, .str (Str.ofString "Whitespace.not_equal_witness") 256, .str (Str.ofString "/claim/cut.py") 257, .int 44 0, .int 2 0, .int 0 0, .int 0 0, .int 3 0, .ref 60, .bool true, .int 181 0, .ref 61, .none, .ref 62, .ref 63, .ref 64, .int 260 0, .int 44 0, .str (Str.ofString "/claim/cut.py") 261], #[]⟩
noncomputable def ob66D (P : Params) : Obj := ⟨.type "function", none, .func { name := (Str.ofString "not_equal_witness"), qualname := (Str.ofString "Whitespace.not_equal_witness"), params := dArgs (sub (stm 2) 5), body := .stmts (dBody (sub (stm 2) 5)), scope := dScope (sub (stm 2) 5), globals := 3, closure := [], defaults := .none, kwdefaults := .none, doc := .none, pyModule := .str (Str.ofString "cpy313.tabnanny") 194, annotations := none, code := .ref 65, closureTuple := .none, builtins := 0 }, #[]⟩
noncomputable def ob67D (P : Params) : Obj := ⟨.type "tuple", none, .seq #[] 0, #[]⟩
noncomputable def ob68D (P : Params) : Obj := ⟨.none, none, .fields #[], #[]⟩
noncomputable def ob69D (P : Params) : Obj := ⟨.type "tuple", none, .seq #[.str (Str.ofString "self") 266, .str (Str.ofString "other") 267] 0, #[]⟩
noncomputable def ob70D (P : Params) : Obj := ⟨.type "tuple", none, .seq #[] 0, #[]⟩
noncomputable def ob71D (P : Params) : Obj := ⟨.none, none, .func { name := (Str.ofString "less"), qualname := (Str.ofString "Whitespace.less"), params := dArgs (sub (stm 2) 6), body := .stmts (dBody (sub (stm 2) 6)), scope := dScope (sub (stm 2) 6), globals := 0, closure := [], defaults := .none, kwdefaults := .none, doc := .none, pyModule := .none, annotations := none, code := .none, closureTuple := .none, builtins := 0 }, #[]⟩
noncomputable def ob72D (P : Params) : Obj := ⟨.type "code", none, .fields #[.str (Str.ofString "less") 263, .str (Str.ofString "Whitespace.less") 264, .str (Str.ofString "/claim/cut.py") 265, .int 47 0, .int 2 0, .int 0 0, .int 0 0, .int 3 0, .ref 67, .bool true, .int 181 0, .ref 68, .none, .ref 69, .ref 70, .ref 71, .int 268 0, .int 47 0, .str (Str.ofString "/claim/cut.py") 269], #[]⟩
noncomputable def ob73D (P : Params) : Obj := ⟨.type "function", none, .func { name := (Str.ofString "less"), qualname := (Str.ofString "Whitespace.less"), params := dArgs (sub (stm 2) 6), body := .stmts (dBody (sub (stm 2) 6)), scope := dScope (sub (stm 2) 6), globals := 3, closure := [], defaults := .none, kwdefaults := .none, doc := .none, pyModule := .str (Str.ofString "cpy313.tabnanny") 194, annotations := none, code := .ref 72, closureTuple := .none, builtins := 0 }, #[]⟩
noncomputable def ob74D (P : Params) : Obj := ⟨.type "tuple", none, .seq #[] 0, #[]⟩
noncomputable def ob75D (P : Params) : Obj := ⟨.none, none, .fields #[], #[]⟩
noncomputable def ob76D (P : Params) : Obj := ⟨.type "tuple", none, .seq #[.str (Str.ofString "self") 274, .str (Str.ofString "other") 275] 0, #[]⟩
noncomputable def ob77D (P : Params) : Obj := ⟨.type "tuple", none, .seq #[] 0, #[]⟩
noncomputable def ob78D (P : Params) : Obj := ⟨.none, none, .func { name := (Str.ofString "not_less_witness"), qualname := (Str.ofString "Whitespace.not_less_witness"), params := dArgs (sub (stm 2) 7), body := .stmts (dBody (sub (stm 2) 7)), scope := dScope (sub (stm 2) 7), globals := 0, closure := [], defaults := .none, kwdefaults := .none, doc := .none, pyModule := .none, annotations := none, code := .none, closureTuple := .none, builtins := 0 }, #[]⟩
noncomputable def ob79D (P : Params) : Obj := ⟨.type "code", none, .fields #[.str (Str.ofString "not_less_witness") 271, .str (Str.ofString "Whitespace.not_less_witness") 272, .str (Str.ofString "/claim/cut.py") 273, .int 50 0, .int 2 0, .int 0 0, .int 0 0, .int 3 0, .ref 74, .bool true, .int 181 0, .ref 75, .none, .ref 76, .ref 77, .ref 78, .int 276 0, .int 50 0, .str (Str.ofString "/claim/cut.py") 277], #[]⟩
noncomputable def ob80D (P : Params) : Obj := ⟨.type "function", none, .func { name := (Str.ofString "not_less_witness"), qualname := (Str.ofString "Whitespace.not_less_witness"), params := dArgs (sub (stm 2) 7), body := .stmts (dBody (sub (stm 2) 7)), scope := dScope (sub (stm 2) 7), globals := 3, closure := [], defaults := .none, kwdefaults := .none, doc := .none, pyModule := .str (Str.ofString "cpy313.tabnanny") 194, annotations := none, code := .ref 79, closureTuple := .none, builtins := 0 }, #[]⟩
noncomputable def ob81D (P : Params) : Obj := ⟨.type "tuple", none, .seq #[.str (Str.ofString "is_simple") 279, .str (Str.ofString "n") 280, .str (Str.ofString "norm") 281, .str (Str.ofString "nt") 282, .str (Str.ofString "raw") 283] 0, #[]⟩
noncomputable def ob82D (P : Params) : Obj := ⟨.type "dict", none, .dict #[⟨PyData.keyHash P (Str.ofString "__module__"), .str (Str.ofString "__module__") 203, .str (Str.ofString "cpy313.tabnanny") 194⟩, ⟨PyData.keyHash P (Str.ofString "__firstlineno__"), .str (Str.ofString "__firstlineno__") 207, .int 5 206⟩, ⟨PyData.keyHash P (Str.ofString "S"), .str (Str.ofString "S") 211, .str (Str.ofString " ") 209⟩, ⟨PyData.keyHash P (Str.ofString "T"), .str (Str.ofString "T") 212, .str (Str.mk #[9]) 210⟩, ⟨PyData.keyHash P (Str.ofString "__init__"), .str (Str.ofString "__init__") 227, .ref 38⟩, ⟨PyData.keyHash P (Str.ofString "longest_run_of_spaces"), .str (Str.ofString "longest_run_of_spaces") 234, .ref 45⟩, ⟨PyData.keyHash P (Str.ofString "indent_level"), .str (Str.ofString "indent_level") 246, .ref 52⟩, ⟨PyData.keyHash P (Str.ofString "equal"), .str (Str.ofString "equal") 254, .ref 59⟩, ⟨PyData.keyHash P (Str.ofString "not_equal_witness"), .str (Str.ofString "not_equal_witness") 262, .ref 66⟩, ⟨PyData.keyHash P (Str.ofString "less"), .str (Str.ofString "less") 270, .ref 73⟩, ⟨PyData.keyHash P (Str.ofString "not_less_witness"), .str (Str.ofString "not_less_witness") 278, .ref 80⟩, ⟨PyData.keyHash P (Str.ofString "__static_attributes__"), .str (Str.ofString "__static_attributes__") 284, .ref 81⟩, ⟨PyData.keyHash P (Str.ofString "__dict__"), .str (Str.ofString "__dict__") 286, .ref 84⟩, ⟨PyData.keyHash P (Str.ofString "__weakref__"), .str (Str.ofString "__weakref__") 288, .ref 85⟩, ⟨PyData.keyHash P (Str.ofString "__doc__"), .str (Str.ofString "__doc__") 289, .none⟩] 4, #[]⟩
noncomputable def ob83D (P : Params) : Obj := ⟨.type "type", none, .cls { name := (Str.ofString "Whitespace"), bases := [.type "object"], mro := [.ref 83, .type "object"], ns := 82, qualname := (Str.ofString "Whitespace"), hasDict := true, slotNames := [], subclasses := [], abstract := false, collection := none, hasDel := false }, #[none, none, (some (.str (Str.ofString "Whitespace") 196)), (some (.str (Str.ofString "Whitespace") 204)), (some (.builtin "object.__new__")), (some (.bool true))]⟩
noncomputable def ob84D (P : Params) : Obj := ⟨.type "getset_descriptor", none, .fields #[.str (Str.ofString "__dict__") 285, .ref 83, .builtin "function.__dict__", .builtin "function.__dict__#set"], #[]⟩
noncomputable def ob85D (P : Params) : Obj := ⟨.type "getset_descriptor", none, .fields #[.str (Str.ofString "__weakref__") 287, .ref 83, .builtin "ExceptionGroup.__weakref__", .none], #[]⟩
noncomputable def ob86D (P : Params) : Obj := ⟨.type "super", none, .fields #[.ref 83, .ref 83, .ref 83], #[]⟩
noncomputable def ob87D (P : Params) : Obj := ⟨.type "builtin_function_or_method", none, .fields #[.builtin "object.__init_subclass__", .ref 83], #[]⟩
noncomputable def TD (P : Params) : List Obj := [PySem.W.boot_o_0 P, PySem.W.boot_o_1 P, PySem.W.boot_o_2 P, ob3D P, PySem.W.boot_o_4 P, PySem.W.boot_o_5 P, PySem.W.boot_o_6 P, PySem.W.boot_o_7 P, PySem.W.boot_o_8 P, PySem.W.boot_o_9 P, PySem.W.boot_o_10 P, ob11A P, ob12D P, ob13A P, ob14A P, ob15C P, ob16C P, ob17C P, ob18C P, ob19C P, ob20C P, ob21C P, ob22D P, ob23D P, ob24D P, ob25D P, ob26D P, ob27D P, ob28D P, ob29D P, ob30D P, ob31D P, ob32D P, ob33D P, ob34D P, ob35D P, ob36D P, ob37D P, ob38D P, ob39D P, ob40D P, ob41D P, ob42D P, ob43D P, ob44D P, ob45D P, ob46D P, ob47D P, ob48D P, ob49D P, ob50D P, ob51D P, ob52D P, ob53D P, ob54D P, ob55D P, ob56D P, ob57D P, ob58D P, ob59D P, ob60D P, ob61D P, ob62D P, ob63D P, ob64D P, ob65D P, ob66D P, ob67D P, ob68D P, ob69D P, ob70D P, ob71D P, ob72D P, ob73D P, ob74D P, ob75D P, ob76D P, ob77D P, ob78D P, ob79D P, ob80D P, ob81D P, ob82D P, ob83D P, ob84D P, ob85D P, ob86D P, ob87D P]
noncomputable def ob3E (P : Params) : Obj := ⟨.type "dict", none, .dict #[⟨PyData.keyHash P (Str.ofString "__name__"), .str (Str.ofString "__name__") 165, .str (Str.ofString "cpy313.stringprep") 359⟩, ⟨PyData.keyHash P (Str.ofString "__doc__"), .str (Str.ofString "__doc__") 166, .none⟩, ⟨PyData.keyHash P (Str.ofString "__package__"), .str (Str.ofString "__package__") 167, .none⟩, ⟨PyData.keyHash P (Str.ofString "__loader__"), .str (Str.ofString "__loader__") 168, .builtin "__main__.__loader__#opaque"⟩, ⟨PyData.keyHash P (Str.ofString "__spec__"), .str (Str.ofString "__spec__") 169, .none⟩, ⟨PyData.keyHash P (Str.ofString "__annotations__"), .str (Str.ofString "__annotations__") 170, .ref 6⟩, ⟨PyData.keyHash P (Str.ofString "__builtins__"), .str (Str.ofString "__builtins__") 171, .ref 4⟩, ⟨PyData.keyHash P (Str.ofString "__file__"), .str (Str.ofString "__file__") 173, .str (Str.ofString "/claim/cut.py") 172⟩, ⟨PyData.keyHash P (Str.ofString "__cached__"), .str (Str.ofString "__cached__") 174, .none⟩, ⟨PyData.keyHash P (Str.ofString "_wall"), .str (Str.ofString "_wall") 193, .ref 21⟩, ⟨PyData.keyHash P (Str.ofString "Whitespace"), .str (Str.ofString "Whitespace") 291, .ref 83⟩, ⟨PyData.keyHash P (Str.ofString "_int2digits"), .str (Str.ofString "_int2digits") 304, .ref 94⟩, ⟨PyData.keyHash P (Str.ofString "_digits2int"), .str (Str.ofString "_digits2int") 315, .ref 101⟩, ⟨PyData.keyHash P (Str.ofString "bisect_right"), .str (Str.ofString "bisect_right") 331, .ref 110⟩, ⟨PyData.keyHash P (Str.ofString "insort_left"), .str (Str.ofString "insort_left") 344, .ref 119⟩, ⟨PyData.keyHash P (Str.ofString "bisect_left"), .str (Str.ofString "bisect_left") 358, .ref 128⟩] 16, #[]⟩
noncomputable def ob12E (P : Params) : Obj := ⟨.none, none, .fields #[.int 1 0, .int 0 0, .ref 20, .int 5 0, .int 0 0, .ref 27, .int 53 0, .int 0 0, .ref 93, .int 69 0, .int 0 0, .ref 100, .int 79 0, .int 0 0, .ref 109, .int 99 0, .int 0 0, .ref 118, .int 105 0, .int 0 0, .ref 127], #[]⟩
noncomputable def ob88E (P : Params) : Obj := ⟨.type "tuple", none, .seq #[] 0, #[]⟩
noncomputable def ob89E (P : Params) : Obj := ⟨.none, none, .fields #[], #[]⟩
noncomputable def ob90E (P : Params) : Obj := ⟨.type "tuple", none, .seq #[.str (Str.ofString "a") 297, .str (Str.ofString "n") 298] 0, #[]⟩
noncomputable def ob91E (P : Params) : Obj := ⟨.type "tuple", none, .seq #[.str (Str.ofString "n") 299, .str (Str.ofString "a_digits") 300, .str (Str.ofString "inner") 301] 0, #[]⟩
noncomputable def ob92E (P : Params) : Obj := ⟨.none, none, .func { name := (Str.ofString "_int2digits"), qualname := (Str.ofString "_int2digits"), params := dArgs (stm 4), body := .stmts (dBody (stm 4)), scope := dScope (stm 4), globals := 0, closure := [], defaults := .none, kwdefaults := .none, doc := .none, pyModule := .none, annotations := none, code := .none, closureTuple := .none, builtins := 0 }, #[]⟩
noncomputable def ob93E (P : Params) : Obj := ⟨.type "code", none, .fields #[.str (Str.ofString "_int2digits") 294, .str (Str.ofString "_int2digits") 295, .str (Str.ofString "/claim/cut.py") 296, .int 53 0, .int 2 0, .int 0 0, .int 0 0, .int 3 0, .ref 88, .bool true, .int 181 0, .ref 89, .none, .ref 90, .ref 91, .ref 92, .int 302 0, .int 53 0, .str (Str.ofString "/claim/cut.py") 303], #[]⟩
noncomputable def ob94E (P : Params) : Obj := ⟨.type "function", none, .func { name := (Str.ofString "_int2digits"), qualname := (Str.ofString "_int2digits"), params := dArgs (stm 4), body := .stmts (dBody (stm 4)), scope := dScope (stm 4), globals := 3, closure := [], defaults := .none, kwdefaults := .none, doc := .none, pyModule := .str (Str.ofString "cpy313._pylong") 292, annotations := none, code := .ref 93, closureTuple := .none, builtins := 0 }, #[]⟩
noncomputable def ob95E (P : Params) : Obj := ⟨.type "tuple", none, .seq #[] 0, #[]⟩
noncomputable def ob96E (P : Params) : Obj := ⟨.none, none, .fields #[], #[]⟩
noncomputable def ob97E (P : Params) : Obj := ⟨.type "tuple", none, .seq #[.str (Str.ofString "digits") 308, .str (Str.ofString "n") 309] 0, #[]⟩
noncomputable def ob98E (P : Params) : Obj := ⟨.type "tuple", none, .seq #[.str (Str.ofString "digits") 310, .str (Str.ofString "n") 311, .str (Str.ofString "inner") 312] 0, #[]⟩
noncomputable def ob99E (P : Params) : Obj := ⟨.none, none, .func { name := (Str.ofString "_digits2int"), qualname := (Str.ofString "_digits2int"), params := dArgs (stm 5), body := .stmts (dBody (stm 5)), scope := dScope (stm 5), globals := 0, closure := [], defaults := .none, kwdefaults := .none, doc := .none, pyModule := .none, annotations := none, code := .none, closureTuple := .none, builtins := 0 }, #[]⟩
noncomputable def ob100E (P : Params) : Obj := ⟨.type "code", none, .fields #[.str (Str.ofString "_digits2int") 305, .str (Str.ofString "_digits2int") 306, .str (Str.ofString "/claim/cut.py") 307, .int 69 0, .int 2 0, .int 0 0, .int 0 0, .int 3 0, .ref 95, .bool true, .int 181 0, .ref 96, .none, .ref 97, .ref 98, .ref 99, .int 313 0, .int 69 0, .str (Str.ofString "/claim/cut.py") 314], #[]⟩
noncomputable def ob101E (P : Params) : Obj := ⟨.type "function", none, .func { name := (Str.ofString "_digits2int"), qualname := (Str.ofString "_digits2int"), params := dArgs (stm 5), body := .stmts (dBody (stm 5)), scope := dScope (stm 5), globals := 3, closure := [], defaults := .none, kwdefaults := .none, doc := .none, pyModule := .str (Str.ofString "cpy313._pylong") 292, annotations := none, code := .ref 100, closureTuple := .none, builtins := 0 }, #[]⟩
noncomputable def ob102E (P : Params) : Obj := ⟨.type "tuple", none, .seq #[.int 0 318, .none] 0, #[]⟩
noncomputable def ob103E (P : Params) : Obj := ⟨.type "dict", none, .dict #[⟨PyData.keyHash P (Str.ofString "key"), .str (Str.ofString "key") 319, .none⟩] 1, #[]⟩
noncomputable def ob104E (P : Params) : Obj := ⟨.type "tuple", none, .seq #[] 0, #[]⟩
noncomputable def ob105E (P : Params) : Obj := ⟨.none, none, .fields #[], #[]⟩
noncomputable def ob106E (P : Params) : Obj := ⟨.type "tuple", none, .seq #[.str (Str.ofString "a") 323, .str (Str.ofString "x") 324, .str (Str.ofString "lo") 325, .str (Str.ofString "hi") 326, .str (Str.ofString "key") 327, .str (Str.ofString "mid") 328] 0, #[]⟩
noncomputable def ob107E (P : Params) : Obj := ⟨.type "tuple", none, .seq #[] 0, #[]⟩
noncomputable def ob108E (P : Params) : Obj := ⟨.none, none, .func { name := (Str.ofString "bisect_right"), qualname := (Str.ofString "bisect_right"), params := dArgs (stm 7), body := .stmts (dBody (stm 7)), scope := dScope (stm 7), globals := 0, closure := [], defaults := .none, kwdefaults := .none, doc := .none, pyModule := .none, annotations := none, code := .none, closureTuple := .none, builtins := 0 }, #[]⟩
noncomputable def ob109E (P : Params) : Obj := ⟨.type "code", none, .fields #[.str (Str.ofString "bisect_right") 320, .str (Str.ofString "bisect_right") 321, .str (Str.ofString "/claim/cut.py") 322, .int 79 0, .int 4 0, .int 0 0, .int 1 0, .int 3 0, .ref 104, .bool true, .int 181 0, .ref 105, .none, .ref 106, .ref 107, .ref 108, .int 329 0, .int 79 0, .str (Str.ofString "/claim/cut.py") 330], #[]⟩
noncomputable def ob110E (P : Params) : Obj := ⟨.type "function", none, .func { name := (Str.ofString "bisect_right"), qualname := (Str.ofString "bisect_right"), params := dArgs (stm 7), body := .stmts (dBody (stm 7)), scope := dScope (stm 7), globals := 3, closure := [], defaults := .ref 102, kwdefaults := .ref 103, doc := .none, pyModule := .str (Str.ofString "cpy313.bisect") 316, annotations := none, code := .ref 109, closureTuple := .none, builtins := 0 }, #[]⟩
noncomputable def ob111E (P : Params) : Obj := ⟨.type "tuple", none, .seq #[.int 0 332, .none] 0, #[]⟩
noncomputable def ob112E (P : Params) : Obj := ⟨.type "dict", none, .dict #[⟨PyData.keyHash P (Str.ofString "key"), .str (Str.ofString "key") 333, .none⟩] 1, #[]⟩
noncomputable def ob113E (P : Params) : Obj := ⟨.type "tuple", none, .seq #[] 0, #[]⟩
noncomputable def ob114E (P : Params) : Obj := ⟨.none, none, .fields #[], #[]⟩
noncomputable def ob115E (P : Params) : Obj := ⟨.type "tuple", none, .seq #[.str (Str.ofString "a") 337, .str (Str.ofString "x") 338, .str (Str.ofString "lo") 339, .str (Str.ofString "hi") 340, .str (Str.ofString "key") 341] 0, #[]⟩
noncomputable def ob116E (P : Params) : Obj := ⟨.type "tuple", none, .seq #[] 0, #[]⟩
noncomputable def ob117E (P : Params) : Obj := ⟨.none, none, .func { name := (Str.ofString "insort_left"), qualname := (Str.ofString "insort_left"), params := dArgs (stm 8), body := .stmts (dBody (stm 8)), scope := dScope (stm 8), globals := 0, closure := [], defaults := .none, kwdefaults := .none, doc := .none, pyModule := .none, annotations := none, code := .none, closureTuple := .none, builtins := 0 }, #[]⟩
noncomputable def ob118E (P : Params) : Obj := ⟨.type "code", none, .fields #[.str (Str.ofString "insort_left") 334, .str (Str.ofString "insort_left") 335, .str (Str.ofString "/claim/cut.py") 336, .int 99 0, .int 4 0, .int 0 0, .int 1 0, .int 3 0, .ref 113, .bool true, .int 181 0, .ref 114, .none, .ref 115, .ref 116, .ref 117, .int 342 0, .int 99 0, .str (Str.ofString "/claim/cut.py") 343], #[]⟩
noncomputable def ob119E (P : Params) : Obj := ⟨.type "function", none, .func { name := (Str.ofString "insort_left"), qualname := (Str.ofString "insort_left"), params := dArgs (stm 8), body := .stmts (dBody (stm 8)), scope := dScope (stm 8), globals := 3, closure := [], defaults := .ref 111, kwdefaults := .ref 112, doc := .none, pyModule := .str (Str.ofString "cpy313.bisect") 316, annotations := none, code := .ref 118, closureTuple := .none, builtins := 0 }, #[]⟩
noncomputable def ob120E (P : Params) : Obj := ⟨.type "tuple", none, .seq #[.int 0 345, .none] 0, #[]⟩
noncomputable def ob121E (P : Params) : Obj := ⟨.type "dict", none, .dict #[⟨PyData.keyHash P (Str.ofString "key"), .str (Str.ofString "key") 346, .none⟩] 1, #[]⟩
noncomputable def ob122E (P : Params) : Obj := ⟨.type "tuple", none, .seq #[] 0, #[]⟩
noncomputable def ob123E (P : Params) : Obj := ⟨.none, none, .fields #[], #[]⟩
noncomputable def ob124E (P : Params) : Obj := ⟨.type "tuple", none, .seq #[.str (Str.ofString "a") 350, .str (Str.ofString "x") 351, .str (Str.ofString "lo") 352, .str (Str.ofString "hi") 353, .str (Str.ofString "key") 354, .str (Str.ofString "mid") 355] 0, #[]⟩
noncomputable def ob125E (P : Params) : Obj := ⟨.type "tuple", none, .seq #[] 0, #[]⟩
noncomputable def ob126E (P : Params) : Obj := ⟨.none, none, .func { name := (Str.ofString "bisect_left"), qualname := (Str.ofString "bisect_left"), params := dArgs (stm 9), body := .stmts (dBody (stm 9)), scope := dScope (stm 9), globals := 0, closure := [], defaults := .none, kwdefaults := .none, doc := .none, pyModule := .none, annotations := none, code := .none, closureTuple := .none, builtins := 0 }, #[]⟩
noncomputable def ob127E (P : Params) : Obj := ⟨.type "code", none, .fields #[.str (Str.ofString "bisect_left") 347, .str (Str.ofString "bisect_left") 348, .str (Str.ofString "/claim/cut.py") 349, .int 105 0, .int 4 0, .int 0 0, .int 1 0, .int 3 0, .ref 122, .bool true, .int 181 0, .ref 123, .none, .ref 124, .ref 125, .ref 126, .int 356 0, .int 105 0, .str (Str.ofString "/claim/cut.py") 357], #[]⟩
noncomputable def ob128E (P : Params) : Obj := ⟨.type "function", none, .func { name := (Str.ofString "bisect_left"), qualname := (Str.ofString "bisect_left"), params := dArgs (stm 9), body := .stmts (dBody (stm 9)), scope := dScope (stm 9), globals := 3, closure := [], defaults := .ref 120, kwdefaults := .ref 121, doc := .none, pyModule := .str (Str.ofString "cpy313.bisect") 316, annotations := none, code := .ref 127, closureTuple := .none, builtins := 0 }, #[]⟩
noncomputable def TE (P : Params) : List Obj := [PySem.W.boot_o_0 P, PySem.W.boot_o_1 P, PySem.W.boot_o_2 P, ob3E P, PySem.W.boot_o_4 P, PySem.W.boot_o_5 P, PySem.W.boot_o_6 P, PySem.W.boot_o_7 P, PySem.W.boot_o_8 P, PySem.W.boot_o_9 P, PySem.W.boot_o_10 P, ob11A P, ob12E P, ob13A P, ob14A P, ob15C P, ob16C P, ob17C P, ob18C P, ob19C P, ob20C P, ob21C P, ob22D P, ob23D P, ob24D P, ob25D P, ob26D P, ob27D P, ob28D P, ob29D P, ob30D P, ob31D P, ob32D P, ob33D P, ob34D P, ob35D P, ob36D P, ob37D P, ob38D P, ob39D P, ob40D P, ob41D P, ob42D P, ob43D P, ob44D P, ob45D P, ob46D P, ob47D P, ob48D P, ob49D P, ob50D P, ob51D P, ob52D P, ob53D P, ob54D P, ob55D P, ob56D P, ob57D P, ob58D P, ob59D P, ob60D P, ob61D P, ob62D P, ob63D P, ob64D P, ob65D P, ob66D P, ob67D P, ob68D P, ob69D P, ob70D P, ob71D P, ob72D P, ob73D P, ob74D P, ob75D P, ob76D P, ob77D P, ob78D P, ob79D P, ob80D P, ob81D P, ob82D P, ob83D P, ob84D P, ob85D P, ob86D P, ob87D P, ob88E P, ob89E P, ob90E P, ob91E P, ob92E P, ob93E P, ob94E P, ob95E P, ob96E P, ob97E P, ob98E P, ob99E P, ob100E P, ob101E P, ob102E P, ob103E P, ob104E P, ob105E P, ob106E P, ob107E P, ob108E P, ob109E P, ob110E P, ob111E P, ob112E P, ob113E P, ob114E P, ob115E P, ob116E P, ob117E P, ob118E P, ob119E P, ob120E P, ob121E P, ob122E P, ob123E P, ob124E P, ob125E P, ob126E P, ob127E P, ob128E P]
noncomputable def ob3F (P : Params) : Obj := ⟨.type "dict", none, .dict #[⟨PyData.keyHash P (Str.ofString "__name__"), .str (Str.ofString "__name__") 165, .str (Str.ofString "cpy313.stringprep") 359⟩, ⟨PyData.keyHash P (Str.ofString "__doc__"), .str (Str.ofString "__doc__") 166, .none⟩, ⟨PyData.keyHash P (Str.ofString "__package__"), .str (Str.ofString "__package__") 167, .none⟩, ⟨PyData.keyHash P (Str.ofString "__loader__"), .str (Str.ofString "__loader__") 168, .builtin "__main__.__loader__#opaque"⟩, ⟨PyData.keyHash P (Str.ofString "__spec__"), .str (Str.ofString "__spec__") 169, .none⟩, ⟨PyData.keyHash P (Str.ofString "__annotations__"), .str (Str.ofString "__annotations__") 170, .ref 6⟩, ⟨PyData.keyHash P (Str.ofString "__builtins__"), .str (Str.ofString "__builtins__") 171, .ref 4⟩, ⟨PyData.keyHash P (Str.ofString "__file__"), .str (Str.ofString "__file__") 173, .str (Str.ofString "/claim/cut.py") 172⟩, ⟨PyData.keyHash P (Str.ofString "__cached__"), .str (Str.ofString "__cached__") 174, .none⟩, ⟨PyData.keyHash P (Str.ofString "_wall"), .str (Str.ofString "_wall") 193, .ref 21⟩, ⟨PyData.keyHash P (Str.ofString "Whitespace"), .str (Str.ofString "Whitespace") 291, .ref 83⟩, ⟨PyData.keyHash P (Str.ofString "_int2digits"), .str (Str.ofString "_int2digits") 304, .ref 94⟩, ⟨PyData.keyHash P (Str.ofString "_digits2int"), .str (Str.ofString "_digits2int") 315, .ref 101⟩, ⟨PyData.keyHash P (Str.ofString "bisect_right"), .str (Str.ofString "bisect_right") 331, .ref 110⟩, ⟨PyData.keyHash P (Str.ofString "insort_left"), .str (Str.ofString "insort_left") 344, .ref 119⟩, ⟨PyData.keyHash P (Str.ofString "bisect_left"), .str (Str.ofString "bisect_left") 358, .ref 128⟩, ⟨PyData.keyHash P (Str.ofString "b1_set"), .str (Str.ofString "b1_set") 420, .ref 136⟩] 17, #[]⟩
noncomputable def ob129F (P : Params) : Obj := ⟨.type "list", none, .seq #[.int 173 361, .int 847 362, .int 6150 363, .int 6155 364, .int 6156 365, .int 6157 366, .int 8203 367, .int 8204 368, .int 8205 369, .int 8288 370, .int 65279 371] 0, #[]⟩
noncomputable def ob130F (P : Params) : Obj := ⟨.type "range", none, .fields #[.int 65024 372, .int 65040 373, .int 1 374], #[]⟩
noncomputable def ob131F (P : Params) : Obj := ⟨.type "list", none, .seq #[.int 65024 377, .int 65025 378, .int 65026 379, .int 65027 380, .int 65028 381, .int 65029 382, .int 65030 383, .int 65031 384, .int 65032 385, .int 65033 386, .int 65034 387, .int 65035 388, .int 65036 389, .int 65037 390, .int 65038 391, .int 65039 392] 18, #[]⟩
noncomputable def ob132F (P : Params) : Obj := ⟨.type "range_iterator", none, .fields #[.int 65040 0, .int 0 0, .int 1 0], #[]⟩
noncomputable def ob133F (P : Params) : Obj := ⟨.type "tuple", none, .seq #[] 0, #[]⟩
noncomputable def ob134F (P : Params) : Obj := ⟨.type "StopIteration", none, .fields #[.ref 133, .none, .none, .none, .bool false, .none], #[]⟩
noncomputable def ob135F (P : Params) : Obj := ⟨.type "list", none, .seq #[.int 173 361, .int 847 362, .int 6150 363, .int 6155 364, .int 6156 365, .int 6157 366, .int 8203 367, .int 8204 368, .int 8205 369, .int 8288 370, .int 65279 371, .int 65024 377, .int 65025 378, .int 65026 379, .int 65027 380, .int 65028 381, .int 65029 382, .int 65030 383, .int 65031 384, .int 65032 385, .int 65033 386, .int 65034 387, .int 65035 388, .int 65036 389, .int 65037 390, .int 65038 391, .int 65039 392] 0, #[]⟩
noncomputable def ob136F (P : Params) : Obj := ⟨.type "set", none, .set #[(65024, .int 65024 377), (65025, .int 65025 378), (65026, .int 65026 379), (65027, .int 65027 380), (65028, .int 65028 381), (65029, .int 65029 382), (6150, .int 6150 363), (65030, .int 65030 383), (65031, .int 65031 384), (65032, .int 65032 385), (65033, .int 65033 386), (6155, .int 6155 364), (6156, .int 6156 365), (6157, .int 6157 366), (8203, .int 8203 367), (8204, .int 8204 368), (8205, .int 8205 369), (65034, .int 65034 387), (65035, .int 65035 388), (65036, .int 65036 389), (65037, .int 65037 390), (65038, .int 65038 391), (65039, .int 65039 392), (173, .int 173 361), (847, .int 847 362), (8288, .int 8288 370), (65279, .int 65279 371)] 29 { mask := 127, place := #[0, 1, 2, 3, 4, 5, 6, 7, 8, 9, 10, 11, 12, 13, 14, 15, 16, 17, 18, 19, 20, 21, 22, 45, 79, 96, 127], dummies := #[], finger := 0, led := !P.followText "set-order", moves := 2, plain := true }, #[]⟩
noncomputable def ob137F (P : Params) : Obj := ⟨.type "list_iterator", none, .fields #[.none, .int 27 0], #[]⟩
noncomputable def ob138F (P : Params) : Obj := ⟨.type "tuple", none, .seq #[] 0, #[]⟩
noncomputable def ob139F (P : Params) : Obj := ⟨.type "StopIteration", none, .fields #[.ref 138, .none, .none, .none, .bool false, .none], #[]⟩
noncomputable def TF (P : Params) : List Obj := [PySem.W.boot_o_0 P, PySem.W.boot_o_1 P, PySem.W.boot_o_2 P, ob3F P, PySem.W.boot_o_4 P, PySem.W.boot_o_5 P, PySem.W.boot_o_6 P, PySem.W.boot_o_7 P, PySem.W.boot_o_8 P, PySem.W.boot_o_9 P, PySem.W.boot_o_10 P, ob11A P, ob12E P, ob13A P, ob14A P, ob15C P, ob16C P, ob17C P, ob18C P, ob19C P, ob20C P, ob21C P, ob22D P, ob23D P, ob24D P, ob25D P, ob26D P, ob27D P, ob28D P, ob29D P, ob30D P, ob31D P, ob32D P, ob33D P, ob34D P, ob35D P, ob36D P, ob37D P, ob38D P, ob39D P, ob40D P, ob41D P, ob42D P, ob43D P, ob44D P, ob45D P, ob46D P, ob47D P, ob48D P, ob49D P, ob50D P, ob51D P, ob52D P, ob53D P, ob54D P, ob55D P, ob56D P, ob57D P, ob58D P, ob59D P, ob60D P, ob61D P, ob62D P, ob63D P, ob64D P, ob65D P, ob66D P, ob67D P, ob68D P, ob69D P, ob70D P, ob71D P, ob72D P, ob73D P, ob74D P, ob75D P, ob76D P, ob77D P, ob78D P, ob79D P, ob80D P, ob81D P, ob82D P, ob83D P, ob84D P, ob85D P, ob86D P, ob87D P, ob88E P, ob89E P, ob90E P, ob91E P, ob92E P, ob93E P, ob94E P, ob95E P, ob96E P, ob97E P, ob98E P, ob99E P, ob100E P, ob101E P, ob102E P, ob103E P, ob104E P, ob105E P, ob106E P, ob107E P, ob108E P, ob109E P, ob110E P, ob111E P, ob112E P, ob113E P, ob114E P, ob115E P, ob116E P, ob117E P, ob118E P, ob119E P, ob120E P, ob121E P, ob122E P, ob123E P, ob124E P, ob125E P, ob126E P, ob127E P, ob128E P, ob129F P, ob130F P, ob131F P, ob132F P, ob133F P, ob134F P, ob135F P, ob136F P, ob137F P, ob138F P, ob139F P]
noncomputable def ob3G (P : Params) : Obj := ⟨.type "dict", none, .dict #[⟨PyData.keyHash P (Str.ofString "__name__"), .str (Str.ofString "__name__") 165, .str (Str.ofString "cpy313.stringprep") 359⟩, ⟨PyData.keyHash P (Str.ofString "__doc__"), .str (Str.ofString "__doc__") 166, .none⟩, ⟨PyData.keyHash P (Str.ofString "__package__"), .str (Str.ofString "__package__") 167, .none⟩, ⟨PyData.keyHash P (Str.ofString "__loader__"), .str (Str.ofString "__loader__") 168, .builtin "__main__.__loader__#opaque"⟩, ⟨PyData.keyHash P (Str.ofString "__spec__"), .str (Str.ofString "__spec__") 169, .none⟩, ⟨PyData.keyHash P (Str.ofString "__annotations__"), .str (Str.ofString "__annotations__") 170, .ref 6⟩, ⟨PyData.keyHash P (Str.ofString "__builtins__"), .str (Str.ofString "__builtins__") 171, .ref 4⟩, ⟨PyData.keyHash P (Str.ofString "__file__"), .str (Str.ofString "__file__") 173, .str (Str.ofString "/claim/cut.py") 172⟩, ⟨PyData.keyHash P (Str.ofString "__cached__"), .str (Str.ofString "__cached__") 174, .none⟩, ⟨PyData.keyHash P (Str.ofString "_wall"), .str (Str.ofString "_wall") 193, .ref 21⟩, ⟨PyData.keyHash P (Str.ofString "Whitespace"), .str (Str.ofString "Whitespace") 291, .ref 83⟩, ⟨PyData.keyHash P (Str.ofString "_int2digits"), .str (Str.ofString "_int2digits") 304, .ref 94⟩, ⟨PyData.keyHash P (Str.ofString "_digits2int"), .str (Str.ofString "_digits2int") 315, .ref 101⟩, ⟨PyData.keyHash P (Str.ofString "bisect_right"), .str (Str.ofString "bisect_right") 331, .ref 110⟩, ⟨PyData.keyHash P (Str.ofString "insort_left"), .str (Str.ofString "insort_left") 344, .ref 119⟩, ⟨PyData.keyHash P (Str.ofString "bisect_left"), .str (Str.ofString "bisect_left") 358, .ref 128⟩, ⟨PyData.keyHash P (Str.ofString "b1_set"), .str (Str.ofString "b1_set") 420, .ref 136⟩, ⟨PyData.keyHash P (Str.ofString "in_table_b1"), .str (Str.ofString "in_table_b1") 427, .ref 146⟩] 18, #[]⟩
noncomputable def ob12G (P : Params) : Obj := ⟨.none, none, .fields #[.int 1 0, .int 0 0, .ref 20, .int 5 0, .int 0 0, .ref 27, .int 53 0, .int 0 0, .ref 93, .int 69 0, .int 0 0, .ref 100, .int 79 0, .int 0 0, .ref 109, .int 99 0, .int 0 0, .ref 118, .int 105 0, .int 0 0, .ref 127, .int 127 0, .int 0 0, .ref 145], #[]⟩
noncomputable def ob140G (P : Params) : Obj := ⟨.type "tuple", none, .seq #[] 0, #[]⟩
noncomputable def ob141G (P : Params) : Obj := ⟨.none, none, .fields #[], #[]⟩
noncomputable def ob142G (P : Params) : Obj := ⟨.type "tuple", none, .seq #[.str (Str.ofString "code") 424] 0, #[]⟩
noncomputable def ob143G (P : Params) : Obj := ⟨.type "tuple", none, .seq #[] 0, #[]⟩
noncomputable def ob144G (P : Params) : Obj := ⟨.none, none, .func { name := (Str.ofString "in_table_b1"), qualname := (Str.ofString "in_table_b1"), params := dArgs (stm 12), body := .stmts (dBody (stm 12)), scope := dScope (stm 12), globals := 0, closure := [], defaults := .none, kwdefaults := .none, doc := .none, pyModule := .none, annotations := none, code := .none, closureTuple := .none, builtins := 0 }, #[]⟩
noncomputable def ob145G (P : Params) : Obj := ⟨.type "code", none, .fields #[.str (Str.ofString "in_table_b1") 421, .str (Str.ofString "in_table_b1") 422, .str (Str.ofString "/claim/cut.py") 423, .int 127 0, .int 1 0, .int 0 0, .int 0 0, .int 3 0, .ref 140, .bool true, .int 181 0, .ref 141, .none, .ref 142, .ref 143, .ref 144, .int 425 0, .int 127 0, .str (Str.ofString "/claim/cut.py") 426], #[]⟩
noncomputable def ob146G (P : Params) : Obj := ⟨.type "function", none, .func { name := (Str.ofString "in_table_b1"), qualname := (Str.ofString "in_table_b1"), params := dArgs (stm 12), body := .stmts (dBody (stm 12)), scope := dScope (stm 12), globals := 3, closure := [], defaults := .none, kwdefaults := .none, doc := .none, pyModule := .str (Str.ofString "cpy313.stringprep") 359, annotations := none, code := .ref 145, closureTuple := .none, builtins := 0 }, #[]⟩
noncomputable def TG (P : Params) : List Obj := [PySem.W.boot_o_0 P, PySem.W.boot_o_1 P, PySem.W.boot_o_2 P, ob3G P, PySem.W.boot_o_4 P, PySem.W.boot_o_5 P, PySem.W.boot_o_6 P, PySem.W.boot_o_7 P, PySem.W.boot_o_8 P, PySem.W.boot_o_9 P, PySem.W.boot_o_10 P, ob11A P, ob12G P, ob13A P, ob14A P, ob15C P, ob16C P, ob17C P, ob18C P, ob19C P, ob20C P, ob21C P, ob22D P, ob23D P, ob24D P, ob25D P, ob26D P, ob27D P, ob28D P, ob29D P, ob30D P, ob31D P, ob32D P, ob33D P, ob34D P, ob35D P, ob36D P, ob37D P, ob38D P, ob39D P, ob40D P, ob41D P, ob42D P, ob43D P, ob44D P, ob45D P, ob46D P, ob47D P, ob48D P, ob49D P, ob50D P, ob51D P, ob52D P, ob53D P, ob54D P, ob55D P, ob56D P, ob57D P, ob58D P, ob59D P, ob60D P, ob61D P, ob62D P, ob63D P, ob64D P, ob65D P, ob66D P, ob67D P, ob68D P, ob69D P, ob70D P, ob71D P, ob72D P, ob73D P, ob74D P, ob75D P, ob76D P, ob77D P, ob78D P, ob79D P, ob80D P, ob81D P, ob82D P, ob83D P, ob84D P, ob85D P, ob86D P, ob87D P, ob88E P, ob89E P, ob90E P, ob91E P, ob92E P, ob93E P, ob94E P, ob95E P, ob96E P, ob97E P, ob98E P, ob99E P, ob100E P, ob101E P, ob102E P, ob103E P, ob104E P, ob105E P, ob106E P, ob107E P, ob108E P, ob109E P, ob110E P, ob111E P, ob112E P, ob113E P, ob114E P, ob115E P, ob116E P, ob117E P, ob118E P, ob119E P, ob120E P, ob121E P, ob122E P, ob123E P, ob124E P, ob125E P, ob126E P, ob127E P, ob128E P, ob129F P, ob130F P, ob131F P, ob132F P, ob133F P, ob134F P, ob135F P, ob136F P, ob137F P, ob138F P, ob139F P, ob140G P, ob141G P, ob142G P, ob143G P, ob144G P, ob145G P, ob146G P]
noncomputable def ob3H (P : Params) : Obj := ⟨.type "dict", none, .dict #[⟨PyData.keyHash P (Str.ofString "__name__"), .str (Str.ofString "__name__") 165, .str (Str.ofString "cpy313.stringprep") 359⟩, ⟨PyData.keyHash P (Str.ofString "__doc__"), .str (Str.ofString "__doc__") 166, .none⟩, ⟨PyData.keyHash P (Str.ofString "__package__"), .str (Str.ofString "__package__") 167, .none⟩, ⟨PyData.keyHash P (Str.ofString "__loader__"), .str (Str.ofString "__loader__") 168, .builtin "__main__.__loader__#opaque"⟩, ⟨PyData.keyHash P (Str.ofString "__spec__"), .str (Str.ofString "__spec__") 169, .none⟩, ⟨PyData.keyHash P (Str.ofString "__annotations__"), .str (Str.ofString "__annotations__") 170, .ref 6⟩, ⟨PyData.keyHash P (Str.ofString "__builtins__"), .str (Str.ofString "__builtins__") 171, .ref 4⟩, ⟨PyData.keyHash P (Str.ofString "__file__"), .str (Str.ofString "__file__") 173, .str (Str.ofString "/claim/cut.py") 172⟩, ⟨PyData.keyHash P (Str.ofString "__cached__"), .str (Str.ofString "__cached__") 174, .none⟩, ⟨PyData.keyHash P (Str.ofString "_wall"), .str (Str.ofString "_wall") 193, .ref 21⟩, ⟨PyData.keyHash P (Str.ofString "Whitespace"), .str (Str.ofString "Whitespace") 291, .ref 83⟩, ⟨PyData.keyHash P (Str.ofString "_int2digits"), .str (Str.ofString "_int2digits") 304, .ref 94⟩, ⟨PyData.keyHash P (Str.ofString "_digits2int"), .str (Str.ofString "_digits2int") 315, .ref 101⟩, ⟨PyData.keyHash P (Str.ofString "bisect_right"), .str (Str.ofString "bisect_right") 331, .ref 110⟩, ⟨PyData.keyHash P (Str.ofString "insort_left"), .str (Str.ofString "insort_left") 344, .ref 119⟩, ⟨PyData.keyHash P (Str.ofString "bisect_left"), .str (Str.ofString "bisect_left") 358, .ref 128⟩, ⟨PyData.keyHash P (Str.ofString "b1_set"), .str (Str.ofString "b1_set") 420, .ref 136⟩, ⟨PyData.keyHash P (Str.ofString "in_table_b1"), .str (Str.ofString "in_table_b1") 427, .ref 146⟩, ⟨PyData.keyHash P (Str.ofString "b3_exceptions"), .str (Str.ofString "b3_exceptions") 2378, .ref 147⟩] 19, #[]⟩
noncomputable def ob147H (P : Params) : Obj := ⟨.type "dict", none, .dict (b3part 0 650) 650, #[]⟩
noncomputable def ob148H (P : Params) : Obj := ⟨.type "dict", none, .dict (b3part 17 17) 17, #[]⟩
noncomputable def ob149H (P : Params) : Obj := ⟨.type "dict", none, .dict (b3part 34 17) 17, #[]⟩
noncomputable def ob150H (P : Params) : Obj := ⟨.type "dict", none, .dict (b3part 51 17) 17, #[]⟩
noncomputable def ob151H (P : Params) : Obj := ⟨.type "dict", none, .dict (b3part 68 17) 17, #[]⟩
noncomputable def ob152H (P : Params) : Obj := ⟨.type "dict", none, .dict (b3part 85 17) 17, #[]⟩
noncomputable def ob153H (P : Params) : Obj := ⟨.type "dict", none, .dict (b3part 102 17) 17, #[]⟩
noncomputable def ob154H (P : Params) : Obj := ⟨.type "dict", none, .dict (b3part 119 17) 17, #[]⟩
noncomputable def ob155H (P : Params) : Obj := ⟨.type "dict", none, .dict (b3part 136 17) 17, #[]⟩
noncomputable def ob156H (P : Params) : Obj := ⟨.type "dict", none, .dict (b3part 153 17) 17, #[]⟩
noncomputable def ob157H (P : Params) : Obj := ⟨.type "dict", none, .dict (b3part 170 17) 17, #[]⟩
noncomputable def ob158H (P : Params) : Obj := ⟨.type "dict", none, .dict (b3part 187 17) 17, #[]⟩
noncomputable def ob159H (P : Params) : Obj := ⟨.type "dict", none, .dict (b3part 204 17) 17, #[]⟩
noncomputable def ob160H (P : Params) : Obj := ⟨.type "dict", none, .dict (b3part 221 17) 17, #[]⟩
noncomputable def ob161H (P : Params) : Obj := ⟨.type "dict", none, .dict (b3part 238 17) 17, #[]⟩
noncomputable def ob162H (P : Params) : Obj := ⟨.type "dict", none, .dict (b3part 255 17) 17, #[]⟩
noncomputable def ob163H (P : Params) : Obj := ⟨.type "dict", none, .dict (b3part 272 17) 17, #[]⟩
noncomputable def ob164H (P : Params) : Obj := ⟨.type "dict", none, .dict (b3part 289 17) 17, #[]⟩
noncomputable def ob165H (P : Params) : Obj := ⟨.type "dict", none, .dict (b3part 306 17) 17, #[]⟩
noncomputable def ob166H (P : Params) : Obj := ⟨.type "dict", none, .dict (b3part 323 17) 17, #[]⟩
noncomputable def ob167H (P : Params) : Obj := ⟨.type "dict", none, .dict (b3part 340 17) 17, #[]⟩
noncomputable def ob168H (P : Params) : Obj := ⟨.type "dict", none, .dict (b3part 357 17) 17, #[]⟩
noncomputable def ob169H (P : Params) : Obj := ⟨.type "dict", none, .dict (b3part 374 17) 17, #[]⟩
noncomputable def ob170H (P : Params) : Obj := ⟨.type "dict", none, .dict (b3part 391 17) 17, #[]⟩
noncomputable def ob171H (P : Params) : Obj := ⟨.type "dict", none, .dict (b3part 408 17) 17, #[]⟩
noncomputable def ob172H (P : Params) : Obj := ⟨.type "dict", none, .dict (b3part 425 17) 17, #[]⟩
noncomputable def ob173H (P : Params) : Obj := ⟨.type "dict", none, .dict (b3part 442 17) 17, #[]⟩
noncomputable def ob174H (P : Params) : Obj := ⟨.type "dict", none, .dict (b3part 459 17) 17, #[]⟩
noncomputable def ob175H (P : Params) : Obj := ⟨.type "dict", none, .dict (b3part 476 17) 17, #[]⟩
noncomputable def ob176H (P : Params) : Obj := ⟨.type "dict", none, .dict (b3part 493 17) 17, #[]⟩
noncomputable def ob177H (P : Params) : Obj := ⟨.type "dict", none, .dict (b3part 510 17) 17, #[]⟩
noncomputable def ob178H (P : Params) : Obj := ⟨.type "dict", none, .dict (b3part 527 17) 17, #[]⟩
noncomputable def ob179H (P : Params) : Obj := ⟨.type "dict", none, .dict (b3part 544 17) 17, #[]⟩
noncomputable def ob180H (P : Params) : Obj := ⟨.type "dict", none, .dict (b3part 561 17) 17, #[]⟩
noncomputable def ob181H (P : Params) : Obj := ⟨.type "dict", none, .dict (b3part 578 17) 17, #[]⟩
noncomputable def ob182H (P : Params) : Obj := ⟨.type "dict", none, .dict (b3part 595 17) 17, #[]⟩
noncomputable def ob183H (P : Params) : Obj := ⟨.type "dict", none, .dict (b3part 612 17) 17, #[]⟩
noncomputable def ob184H (P : Params) : Obj := ⟨.type "dict", none, .dict (b3part 629 17) 17, #[]⟩
noncomputable def ob185H (P : Params) : Obj := ⟨.type "dict", none, .dict (b3part 646 4) 4, #[]⟩
noncomputable def TH (P : Params) : List Obj := [PySem.W.boot_o_0 P, PySem.W.boot_o_1 P, PySem.W.boot_o_2 P, ob3H P, PySem.W.boot_o_4 P, PySem.W.boot_o_5 P, PySem.W.boot_o_6 P, PySem.W.boot_o_7 P, PySem.W.boot_o_8 P, PySem.W.boot_o_9 P, PySem.W.boot_o_10 P, ob11A P, ob12G P, ob13A P, ob14A P, ob15C P, ob16C P, ob17C P, ob18C P, ob19C P, ob20C P, ob21C P, ob22D P, ob23D P, ob24D P, ob25D P, ob26D P, ob27D P, ob28D P, ob29D P, ob30D P, ob31D P, ob32D P, ob33D P, ob34D P, ob35D P, ob36D P, ob37D P, ob38D P, ob39D P, ob40D P, ob41D P, ob42D P, ob43D P, ob44D P, ob45D P, ob46D P, ob47D P, ob48D P, ob49D P, ob50D P, ob51D P, ob52D P, ob53D P, ob54D P, ob55D P, ob56D P, ob57D P, ob58D P, ob59D P, ob60D P, ob61D P, ob62D P, ob63D P, ob64D P, ob65D P, ob66D P, ob67D P, ob68D P, ob69D P, ob70D P, ob71D P, ob72D P, ob73D P, ob74D P, ob75D P, ob76D P, ob77D P, ob78D P, ob79D P, ob80D P, ob81D P, ob82D P, ob83D P, ob84D P, ob85D P, ob86D P, ob87D P, ob88E P, ob89E P, ob90E P, ob91E P, ob92E P, ob93E P, ob94E P, ob95E P, ob96E P, ob97E P, ob98E P, ob99E P, ob100E P, ob101E P, ob102E P, ob103E P, ob104E P, ob105E P, ob106E P, ob107E P, ob108E P, ob109E P, ob110E P, ob111E P, ob112E P, ob113E P, ob114E P, ob115E P, ob116E P, ob117E P, ob118E P, ob119E P, ob120E P, ob121E P, ob122E P, ob123E P, ob124E P, ob125E P, ob126E P, ob127E P, ob128E P, ob129F P, ob130F P, ob131F P, ob132F P, ob133F P, ob134F P, ob135F P, ob136F P, ob137F P, ob138F P, ob139F P, ob140G P, ob141G P, ob142G P, ob143G P, ob144G P, ob145G P, ob146G P, ob147H P, ob148H P, ob149H P, ob150H P, ob151H P, ob152H P, ob153H P, ob154H P, ob155H P, ob156H P, ob157H P, ob158H P, ob159H P, ob160H P, ob161H P, ob162H P, ob163H P, ob164H P, ob165H P, ob166H P, ob167H P, ob168H P, ob169H P, ob170H P, ob171H P, ob172H P, ob173H P, ob174H P, ob175H P, ob176H P, ob177H P, ob178H P, ob179H P, ob180H P, ob181H P, ob182H P, ob183H P, ob184H P, ob185H P]
noncomputable def ob3Z (P : Params) : Obj := ⟨.type "dict", none, .dict #[⟨PyData.keyHash P (Str.ofString "__name__"), .str (Str.ofString "__name__") 165, .str (Str.ofString "law_sn0095_01") 2387⟩, ⟨PyData.keyHash P (Str.ofString "__doc__"), .str (Str.ofString "__doc__") 166, .none⟩, ⟨PyData.keyHash P (Str.ofString "__package__"), .str (Str.ofString "__package__") 167, .none⟩, ⟨PyData.keyHash P (Str.ofString "__loader__"), .str (Str.ofString "__loader__") 168, .builtin "__main__.__loader__#opaque"⟩, ⟨PyData.keyHash P (Str.ofString "__spec__"), .str (Str.ofString "__spec__") 169, .none⟩, ⟨PyData.keyHash P (Str.ofString "__annotations__"), .str (Str.ofString "__annotations__") 170, .ref 6⟩, ⟨PyData.keyHash P (Str.ofString "__builtins__"), .str (Str.ofString "__builtins__") 171, .ref 4⟩, ⟨PyData.keyHash P (Str.ofString "__file__"), .str (Str.ofString "__file__") 173, .str (Str.ofString "/claim/cut.py") 172⟩, ⟨PyData.keyHash P (Str.ofString "__cached__"), .str (Str.ofString "__cached__") 174, .none⟩, ⟨PyData.keyHash P (Str.ofString "_wall"), .str (Str.ofString "_wall") 193, .ref 21⟩, ⟨PyData.keyHash P (Str.ofString "Whitespace"), .str (Str.ofString "Whitespace") 291, .ref 83⟩, ⟨PyData.keyHash P (Str.ofString "_int2digits"), .str (Str.ofString "_int2digits") 304, .ref 94⟩, ⟨PyData.keyHash P (Str.ofString "_digits2int"), .str (Str.ofString "_digits2int") 315, .ref 101⟩, ⟨PyData.keyHash P (Str.ofString "bisect_right"), .str (Str.ofString "bisect_right") 331, .ref 110⟩, ⟨PyData.keyHash P (Str.ofString "insort_left"), .str (Str.ofString "insort_left") 344, .ref 119⟩, ⟨PyData.keyHash P (Str.ofString "bisect_left"), .str (Str.ofString "bisect_left") 358, .ref 128⟩, ⟨PyData.keyHash P (Str.ofString "b1_set"), .str (Str.ofString "b1_set") 420, .ref 136⟩, ⟨PyData.keyHash P (Str.ofString "in_table_b1"), .str (Str.ofString "in_table_b1") 427, .ref 146⟩, ⟨PyData.keyHash P (Str.ofString "b3_exceptions"), .str (Str.ofString "b3_exceptions") 2378, .ref 147⟩, ⟨PyData.keyHash P (Str.ofString "map_table_b3"), .str (Str.ofString "map_table_b3") 2386, .ref 192⟩, ⟨PyData.keyHash P (Str.ofString "_law_word"), .str (Str.ofString "_law_word") 2396, .ref 199⟩, ⟨PyData.keyHash P (Str.ofString "_law_typed"), .str (Str.ofString "_law_typed") 2406, .ref 206⟩, ⟨PyData.keyHash P (Str.ofString "_law_walked"), .str (Str.ofString "_law_walked") 2416, .ref 213⟩, ⟨PyData.keyHash P (Str.ofString "_law_kept"), .str (Str.ofString "_law_kept") 2425, .ref 220⟩, ⟨PyData.keyHash P (Str.ofString "_law_counts"), .str (Str.ofString "_law_counts") 2431, .ref 225⟩, ⟨PyData.keyHash P (Str.ofString "law"), .str (Str.ofString "law") 2437, .ref 230⟩] 26, #[]⟩
noncomputable def ob12Z (P : Params) : Obj := ⟨.none, none, .fields #[.int 1 0, .int 0 0, .ref 20, .int 5 0, .int 0 0, .ref 27, .int 53 0, .int 0 0, .ref 93, .int 69 0, .int 0 0, .ref 100, .int 79 0, .int 0 0, .ref 109, .int 99 0, .int 0 0, .ref 118, .int 105 0, .int 0 0, .ref 127, .int 127 0, .int 0 0, .ref 145, .int 130 0, .int 0 0, .ref 191, .int 136 0, .int 0 0, .ref 198, .int 139 0, .int 0 0, .ref 205, .int 144 0, .int 0 0, .ref 212, .int 149 0, .int 0 0, .ref 219, .int 155 0, .int 0 0, .ref 224, .int 157 0, .int 0 0, .ref 229], #[]⟩
noncomputable def ob186Z (P : Params) : Obj := ⟨.type "tuple", none, .seq #[] 0, #[]⟩
noncomputable def ob187Z (P : Params) : Obj := ⟨.none, none, .fields #[], #[]⟩
noncomputable def ob188Z (P : Params) : Obj := ⟨.type "tuple", none, .seq #[.str (Str.ofString "code") 2382, .str (Str.ofString "r") 2383] 0, #[]⟩
noncomputable def ob189Z (P : Params) : Obj := ⟨.type "tuple", none, .seq #[] 0, #[]⟩
noncomputable def ob190Z (P : Params) : Obj := ⟨.none, none, .func { name := (Str.ofString "map_table_b3"), qualname := (Str.ofString "map_table_b3"), params := dArgs (stm 14), body := .stmts (dBody (stm 14)), scope := dScope (stm 14), globals := 0, closure := [], defaults := .none, kwdefaults := .none, doc := .none, pyModule := .none, annotations := none, code := .none, closureTuple := .none, builtins := 0 }, #[]⟩
noncomputable def ob191Z (P : Params) : Obj := ⟨.type "code", none, .fields #[.str (Str.ofString "map_table_b3") 2379, .str (Str.ofString "map_table_b3") 2380, .str (Str.ofString "/claim/cut.py") 2381, .int 130 0, .int 1 0, .int 0 0, .int 0 0, .int 3 0, .ref 186, .bool true, .int 181 0, .ref 187, .none, .ref 188, .ref 189, .ref 190, .int 2384 0, .int 130 0, .str (Str.ofString "/claim/cut.py") 2385], #[]⟩
noncomputable def ob192Z (P : Params) : Obj := ⟨.type "function", none, .func { name := (Str.ofString "map_table_b3"), qualname := (Str.ofString "map_table_b3"), params := dArgs (stm 14), body := .stmts (dBody (stm 14)), scope := dScope (stm 14), globals := 3, closure := [], defaults := .none, kwdefaults := .none, doc := .none, pyModule := .str (Str.ofString "cpy313.stringprep") 359, annotations := none, code := .ref 191, closureTuple := .none, builtins := 0 }, #[]⟩
noncomputable def ob193Z (P : Params) : Obj := ⟨.type "tuple", none, .seq #[] 0, #[]⟩
noncomputable def ob194Z (P : Params) : Obj := ⟨.none, none, .fields #[], #[]⟩
noncomputable def ob195Z (P : Params) : Obj := ⟨.type "tuple", none, .seq #[.str (Str.ofString "x") 2392, .str (Str.ofString "words") 2393] 0, #[]⟩
noncomputable def ob196Z (P : Params) : Obj := ⟨.type "tuple", none, .seq #[] 0, #[]⟩
noncomputable def ob197Z (P : Params) : Obj := ⟨.none, none, .func { name := (Str.ofString "_law_word"), qualname := (Str.ofString "_law_word"), params := dArgs (stm 16), body := .stmts (dBody (stm 16)), scope := dScope (stm 16), globals := 0, closure := [], defaults := .none, kwdefaults := .none, doc := .none, pyModule := .none, annotations := none, code := .none, closureTuple := .none, builtins := 0 }, #[]⟩
noncomputable def ob198Z (P : Params) : Obj := ⟨.type "code", none, .fields #[.str (Str.ofString "_law_word") 2389, .str (Str.ofString "_law_word") 2390, .str (Str.ofString "/claim/cut.py") 2391, .int 136 0, .int 1 0, .int 0 0, .int 0 0, .int 3 0, .ref 193, .bool true, .int 181 0, .ref 194, .none, .ref 195, .ref 196, .ref 197, .int 2394 0, .int 136 0, .str (Str.ofString "/claim/cut.py") 2395], #[]⟩
noncomputable def ob199Z (P : Params) : Obj := ⟨.type "function", none, .func { name := (Str.ofString "_law_word"), qualname := (Str.ofString "_law_word"), params := dArgs (stm 16), body := .stmts (dBody (stm 16)), scope := dScope (stm 16), globals := 3, closure := [], defaults := .none, kwdefaults := .none, doc := .none, pyModule := .str (Str.ofString "law_sn0095_01") 2387, annotations := none, code := .ref 198, closureTuple := .none, builtins := 0 }, #[]⟩
noncomputable def ob200Z (P : Params) : Obj := ⟨.type "tuple", none, .seq #[] 0, #[]⟩
noncomputable def ob201Z (P : Params) : Obj := ⟨.none, none, .fields #[], #[]⟩
noncomputable def ob202Z (P : Params) : Obj := ⟨.type "tuple", none, .seq #[.str (Str.ofString "x") 2400, .str (Str.ofString "signs") 2401, .str (Str.ofString "unseen") 2402, .str (Str.ofString "middle") 2403] 0, #[]⟩
noncomputable def ob203Z (P : Params) : Obj := ⟨.type "tuple", none, .seq #[] 0, #[]⟩
noncomputable def ob204Z (P : Params) : Obj := ⟨.none, none, .func { name := (Str.ofString "_law_typed"), qualname := (Str.ofString "_law_typed"), params := dArgs (stm 17), body := .stmts (dBody (stm 17)), scope := dScope (stm 17), globals := 0, closure := [], defaults := .none, kwdefaults := .none, doc := .none, pyModule := .none, annotations := none, code := .none, closureTuple := .none, builtins := 0 }, #[]⟩
noncomputable def ob205Z (P : Params) : Obj := ⟨.type "code", none, .fields #[.str (Str.ofString "_law_typed") 2397, .str (Str.ofString "_law_typed") 2398, .str (Str.ofString "/claim/cut.py") 2399, .int 139 0, .int 1 0, .int 0 0, .int 0 0, .int 3 0, .ref 200, .bool true, .int 181 0, .ref 201, .none, .ref 202, .ref 203, .ref 204, .int 2404 0, .int 139 0, .str (Str.ofString "/claim/cut.py") 2405], #[]⟩
noncomputable def ob206Z (P : Params) : Obj := ⟨.type "function", none, .func { name := (Str.ofString "_law_typed"), qualname := (Str.ofString "_law_typed"), params := dArgs (stm 17), body := .stmts (dBody (stm 17)), scope := dScope (stm 17), globals := 3, closure := [], defaults := .none, kwdefaults := .none, doc := .none, pyModule := .str (Str.ofString "law_sn0095_01") 2387, annotations := none, code := .ref 205, closureTuple := .none, builtins := 0 }, #[]⟩
noncomputable def ob207Z (P : Params) : Obj := ⟨.type "tuple", none, .seq #[] 0, #[]⟩
noncomputable def ob208Z (P : Params) : Obj := ⟨.none, none, .fields #[], #[]⟩
noncomputable def ob209Z (P : Params) : Obj := ⟨.type "tuple", none, .seq #[.str (Str.ofString "lead") 2410, .str (Str.ofString "size") 2411, .str (Str.ofString "column") 2412, .str (Str.ofString "sign") 2413] 0, #[]⟩
noncomputable def ob210Z (P : Params) : Obj := ⟨.type "tuple", none, .seq #[] 0, #[]⟩
noncomputable def ob211Z (P : Params) : Obj := ⟨.none, none, .func { name := (Str.ofString "_law_walked"), qualname := (Str.ofString "_law_walked"), params := dArgs (stm 18), body := .stmts (dBody (stm 18)), scope := dScope (stm 18), globals := 0, closure := [], defaults := .none, kwdefaults := .none, doc := .none, pyModule := .none, annotations := none, code := .none, closureTuple := .none, builtins := 0 }, #[]⟩
noncomputable def ob212Z (P : Params) : Obj := ⟨.type "code", none, .fields #[.str (Str.ofString "_law_walked") 2407, .str (Str.ofString "_law_walked") 2408, .str (Str.ofString "/claim/cut.py") 2409, .int 144 0, .int 2 0, .int 0 0, .int 0 0, .int 3 0, .ref 207, .bool true, .int 181 0, .ref 208, .none, .ref 209, .ref 210, .ref 211, .int 2414 0, .int 144 0, .str (Str.ofString "/claim/cut.py") 2415], #[]⟩
noncomputable def ob213Z (P : Params) : Obj := ⟨.type "function", none, .func { name := (Str.ofString "_law_walked"), qualname := (Str.ofString "_law_walked"), params := dArgs (stm 18), body := .stmts (dBody (stm 18)), scope := dScope (stm 18), globals := 3, closure := [], defaults := .none, kwdefaults := .none, doc := .none, pyModule := .str (Str.ofString "law_sn0095_01") 2387, annotations := none, code := .ref 212, closureTuple := .none, builtins := 0 }, #[]⟩
noncomputable def ob214Z (P : Params) : Obj := ⟨.type "tuple", none, .seq #[] 0, #[]⟩
noncomputable def ob215Z (P : Params) : Obj := ⟨.none, none, .fields #[], #[]⟩
noncomputable def ob216Z (P : Params) : Obj := ⟨.type "tuple", none, .seq #[.str (Str.ofString "levels") 2420, .str (Str.ofString "row") 2421, .str (Str.ofString "level") 2422] 0, #[]⟩
noncomputable def ob217Z (P : Params) : Obj := ⟨.type "tuple", none, .seq #[] 0, #[]⟩
noncomputable def ob218Z (P : Params) : Obj := ⟨.none, none, .func { name := (Str.ofString "_law_kept"), qualname := (Str.ofString "_law_kept"), params := dArgs (stm 19), body := .stmts (dBody (stm 19)), scope := dScope (stm 19), globals := 0, closure := [], defaults := .none, kwdefaults := .none, doc := .none, pyModule := .none, annotations := none, code := .none, closureTuple := .none, builtins := 0 }, #[]⟩
noncomputable def ob219Z (P : Params) : Obj := ⟨.type "code", none, .fields #[.str (Str.ofString "_law_kept") 2417, .str (Str.ofString "_law_kept") 2418, .str (Str.ofString "/claim/cut.py") 2419, .int 149 0, .int 1 0, .int 0 0, .int 0 0, .int 3 0, .ref 214, .bool true, .int 181 0, .ref 215, .none, .ref 216, .ref 217, .ref 218, .int 2423 0, .int 149 0, .str (Str.ofString "/claim/cut.py") 2424], #[]⟩
noncomputable def ob220Z (P : Params) : Obj := ⟨.type "function", none, .func { name := (Str.ofString "_law_kept"), qualname := (Str.ofString "_law_kept"), params := dArgs (stm 19), body := .stmts (dBody (stm 19)), scope := dScope (stm 19), globals := 3, closure := [], defaults := .none, kwdefaults := .none, doc := .none, pyModule := .str (Str.ofString "law_sn0095_01") 2387, annotations := none, code := .ref 219, closureTuple := .none, builtins := 0 }, #[]⟩
noncomputable def ob221Z (P : Params) : Obj := ⟨.type "tuple", none, .seq #[] 0, #[]⟩
noncomputable def ob222Z (P : Params) : Obj := ⟨.none, none, .fields #[], #[]⟩
noncomputable def ob223Z (P : Params) : Obj := ⟨.none, none, .func { name := (Str.ofString "_law_counts"), qualname := (Str.ofString "_law_counts"), params := dArgs (stm 20), body := .stmts (dBody (stm 20)), scope := dScope (stm 20), globals := 0, closure := [], defaults := .none, kwdefaults := .none, doc := .none, pyModule := .none, annotations := none, code := .none, closureTuple := .none, builtins := 0 }, #[]⟩
noncomputable def ob224Z (P : Params) : Obj := ⟨.type "code", none, .fields #[.str (Str.ofString "_law_counts") 2426, .str (Str.ofString "_law_counts") 2427, .str (Str.ofString "/claim/cut.py") 2428, .int 155 0, .int 1 0, .int 0 0, .int 0 0, .int 3 0, .ref 221, .bool true, .int 181 0, .ref 222, .none, .none, .none, .ref 223, .int 2429 0, .int 155 0, .str (Str.ofString "/claim/cut.py") 2430], #[]⟩
noncomputable def ob225Z (P : Params) : Obj := ⟨.type "function", none, .func { name := (Str.ofString "_law_counts"), qualname := (Str.ofString "_law_counts"), params := dArgs (stm 20), body := .stmts (dBody (stm 20)), scope := dScope (stm 20), globals := 3, closure := [], defaults := .none, kwdefaults := .none, doc := .none, pyModule := .str (Str.ofString "law_sn0095_01") 2387, annotations := none, code := .ref 224, closureTuple := .none, builtins := 0 }, #[]⟩
noncomputable def ob226Z (P : Params) : Obj := ⟨.type "tuple", none, .seq #[] 0, #[]⟩
noncomputable def ob227Z (P : Params) : Obj := ⟨.none, none, .fields #[], #[]⟩
noncomputable def ob228Z (P : Params) : Obj := ⟨.none, none, .func { name := (Str.ofString "law"), qualname := (Str.ofString "law"), params := dArgs (stm 21), body := .stmts (dBody (stm 21)), scope := dScope (stm 21), globals := 0, closure := [], defaults := .none, kwdefaults := .none, doc := .none, pyModule := .none, annotations := none, code := .none, closureTuple := .none, builtins := 0 }, #[]⟩
noncomputable def ob229Z (P : Params) : Obj := ⟨.type "code", none, .fields #[.str (Str.ofString "law") 2432, .str (Str.ofString "law") 2433, .str (Str.ofString "/claim/cut.py") 2434, .int 157 0, .int 1 0, .int 0 0, .int 0 0, .int 3 0, .ref 226, .bool true, .int 181 0, .ref 227, .none, .none, .none, .ref 228, .int 2435 0, .int 157 0, .str (Str.ofString "/claim/cut.py") 2436], #[]⟩
noncomputable def ob230Z (P : Params) : Obj := ⟨.type "function", none, .func { name := (Str.ofString "law"), qualname := (Str.ofString "law"), params := dArgs (stm 21), body := .stmts (dBody (stm 21)), scope := dScope (stm 21), globals := 3, closure := [], defaults := .none, kwdefaults := .none, doc := .none, pyModule := .str (Str.ofString "law_sn0095_01") 2387, annotations := none, code := .ref 229, closureTuple := .none, builtins := 0 }, #[]⟩
noncomputable def TZ (P : Params) : List Obj := [PySem.W.boot_o_0 P, PySem.W.boot_o_1 P, PySem.W.boot_o_2 P, ob3Z P, PySem.W.boot_o_4 P, PySem.W.boot_o_5 P, PySem.W.boot_o_6 P, PySem.W.boot_o_7 P, PySem.W.boot_o_8 P, PySem.W.boot_o_9 P, PySem.W.boot_o_10 P, ob11A P, ob12Z P, ob13A P, ob14A P, ob15C P, ob16C P, ob17C P, ob18C P, ob19C P, ob20C P, ob21C P, ob22D P, ob23D P, ob24D P, ob25D P, ob26D P, ob27D P, ob28D P, ob29D P, ob30D P, ob31D P, ob32D P, ob33D P, ob34D P, ob35D P, ob36D P, ob37D P, ob38D P, ob39D P, ob40D P, ob41D P, ob42D P, ob43D P, ob44D P, ob45D P, ob46D P, ob47D P, ob48D P, ob49D P, ob50D P, ob51D P, ob52D P, ob53D P, ob54D P, ob55D P, ob56D P, ob57D P, ob58D P, ob59D P, ob60D P, ob61D P, ob62D P, ob63D P, ob64D P, ob65D P, ob66D P, ob67D P, ob68D P, ob69D P, ob70D P, ob71D P, ob72D P, ob73D P, ob74D P, ob75D P, ob76D P, ob77D P, ob78D P, ob79D P, ob80D P, ob81D P, ob82D P, ob83D P, ob84D P, ob85D P, ob86D P, ob87D P, ob88E P, ob89E P, ob90E P, ob91E P, ob92E P, ob93E P, ob94E P, ob95E P, ob96E P, ob97E P, ob98E P, ob99E P, ob100E P, ob101E P, ob102E P, ob103E P, ob104E P, ob105E P, ob106E P, ob107E P, ob108E P, ob109E P, ob110E P, ob111E P, ob112E P, ob113E P, ob114E P, ob115E P, ob116E P, ob117E P, ob118E P, ob119E P, ob120E P, ob121E P, ob122E P, ob123E P, ob124E P, ob125E P, ob126E P, ob127E P, ob128E P, ob129F P, ob130F P, ob131F P, ob132F P, ob133F P, ob134F P, ob135F P, ob136F P, ob137F P, ob138F P, ob139F P, ob140G P, ob141G P, ob142G P, ob143G P, ob144G P, ob145G P, ob146G P, ob147H P, ob148H P, ob149H P, ob150H P, ob151H P, ob152H P, ob153H P, ob154H P, ob155H P, ob156H P, ob157H P, ob158H P, ob159H P, ob160H P, ob161H P, ob162H P, ob163H P, ob164H P, ob165H P, ob166H P, ob167H P, ob168H P, ob169H P, ob170H P, ob171H P, ob172H P, ob173H P, ob174H P, ob175H P, ob176H P, ob177H P, ob178H P, ob179H P, ob180H P, ob181H P, ob182H P, ob183H P, ob184H P, ob185H P, ob186Z P, ob187Z P, ob188Z P, ob189Z P, ob190Z P, ob191Z P, ob192Z P, ob193Z P, ob194Z P, ob195Z P, ob196Z P, ob197Z P, ob198Z P, ob199Z P, ob200Z P, ob201Z P, ob202Z P, ob203Z P, ob204Z P, ob205Z P, ob206Z P, ob207Z P, ob208Z P, ob209Z P, ob210Z P, ob211Z P, ob212Z P, ob213Z P, ob214Z P, ob215Z P, ob216Z P, ob217Z P, ob218Z P, ob219Z P, ob220Z P, ob221Z P, ob222Z P, ob223Z P, ob224Z P, ob225Z P, ob226Z P, ob227Z P, ob228Z P, ob229Z P, ob230Z P]

noncomputable def btGo : List Obj → Nat → BT → BT
  | [], _, t => t
  | o :: r, i, t => btGo r (i + 1) (t.ins i o)
noncomputable def Sh (l : List Obj) (n toks : Nat) (os : OsState) : SharedT := ⟨btGo l 0 .nil, n, {}, #[], {}, toks, os⟩
noncomputable def env0 : Env := { scope := P0.main.scope, locals := mainNs, globals := mainNs, cells := [], code := .ref 13, frame := some 14 }
noncomputable abbrev cod0 : Code := .body (behindTheImports P0) env0
noncomputable abbrev B0 : List Frame := [topFrame ⟨0, 0, 0, 0⟩]
noncomputable abbrev ann0 : Option Value := some (.ref 6)
end
end Mine

namespace Mine
section goes
variable {w : World} {α β : Type}

theorem tr_go {N : Nat} {s s' : Shared} {t t' : Thread} (h1 : through t = false) (h2 : stepOk 11 ann0 t = true) (h3 : step (denote treeTable) P0 w s t = .go s' t') :
    topRun treeTable P0 w 11 ann0 (1 + N) s t = topRun treeTable P0 w 11 ann0 N s' t' := by
  rw [Nat.add_comm]
  show (match through t with | true => some s | false => match stepOk 11 ann0 t with | false => none | true => match step (denote treeTable) P0 w s t with | .go s' t' => topRun treeTable P0 w 11 ann0 N s' t' | .halt _ _ => none) = _
  rw [h1, h2, h3]

/-- a part of the top's run: the tree ends with a value, whatever stands behind it -/
noncomputable def Goes (w : World) (c : Nat) (s : Shared) (x : Sem α) (a : α) (s' : Shared) : Prop :=
  ∀ (K : α → Sem Fin) (H : Value → Sem Fin) (gd : Bool → Bool) (lv : List Value → List Value) (pos : Pos), ∃ n pos', n ≤ c ∧ ∀ N r,
    topRun treeTable P0 w 11 ann0 N s' ⟨K a, cod0, pos', B0⟩ = some r → topRun treeTable P0 w 11 ann0 (n + N) s ⟨x.wrap K H gd lv, cod0, pos, B0⟩ = some r

theorem goes_pure {s : Shared} {a : α} : Goes w 0 s (.pure a) a s := fun K H gd lv pos => ⟨0, pos, Nat.le_refl _, fun N r h => by rw [Nat.zero_add]; exact h⟩
theorem goes_le {c c' : Nat} {s s' : Shared} {x : Sem α} {a : α} (h : Goes w c s x a s') (hc : c ≤ c') : Goes w c' s x a s' := fun K H gd lv pos => by
  obtain ⟨n, p, hn, y⟩ := h K H gd lv pos
  exact ⟨n, p, Nat.le_trans hn hc, y⟩
theorem goes_pure' {s : Shared} {a : α} : Goes w 0 s (pure a) a s := goes_pure
theorem goes_bind {s s₁ s' : Shared} {x : Sem α} {f : α → Sem β} {a : α} {b : β} {c₁ c₂ : Nat} (h1 : Goes w c₁ s x a s₁) (h2 : Goes w c₂ s₁ (f a) b s') : Goes w (c₁ + c₂) s (x.bind f) b s' := fun K H gd lv pos => by
  obtain ⟨n, p1, l1, k1⟩ := h1 (fun a => (f a).wrap K H gd lv) H gd lv pos
  obtain ⟨m, p2, l2, k2⟩ := h2 K H gd lv p1
  refine ⟨n + m, p2, Nat.add_le_add l1 l2, fun N r h => ?_⟩
  rw [Sem.bind_eq_wrap, Sem.wrap_wrap, Nat.add_assoc]
  exact k1 _ _ (k2 _ _ h)
theorem goes_bind' {s s₁ s' : Shared} {x : Sem α} {f : α → Sem β} {a : α} {b : β} {c₁ c₂ : Nat} (h1 : Goes w c₁ s x a s₁) (h2 : Goes w c₂ s₁ (f a) b s') : Goes w (c₁ + c₂) s (x >>= f) b s' := goes_bind h1 h2
theorem goes_keep {c : Nat} {s s' : Shared} {x : Sem α} {a : α} {vs : List Value} (h : Goes w c s x a s') : Goes w c s (x.keep vs) a s' := fun K H gd lv pos => by
  rw [Sem.keep_eq_wrap, Sem.wrap_wrap]
  exact h K H gd (fun l => lv (vs ++ l)) pos
theorem goes_holding {c : Nat} {s s' : Shared} {x : Sem α} {a : α} {vs : List Value} (h : Goes w c s x a s') : Goes w c s (holding vs x) a s' := by
  unfold holding
  split
  · exact h
  · exact goes_keep h
theorem goes_onRaise {c : Nat} {s s' : Shared} {x : Sem α} {a : α} {f : Value → Sem Unit} (h : Goes w c s x a s') : Goes w c s (x.onRaise f) a s' := fun K H gd lv pos => by
  rw [Sem.onRaise_eq_wrap, Sem.wrap_wrap]
  exact h K _ gd lv pos
theorem goes_tryCatch {c : Nat} {s s' : Shared} {x : Sem α} {a : α} {f : Value → Sem α} (h : Goes w c s x a s') : Goes w c s (x.tryCatch f) a s' := fun K H gd lv pos => by
  rw [Sem.tryCatch_eq_wrap, Sem.wrap_wrap]
  exact h K _ _ lv pos
theorem goes_eq {c : Nat} {s s' : Shared} {x y : Sem α} {a : α} (e : x = y) (h : Goes w c s y a s') : Goes w c s x a s' := e ▸ h

variable {c : Nat} {h : Heap} {g : Array GenState} {d : Drawn} {tk : Nat} {os : OsState}
theorem goes_rule {s s' : Shared} {tag : String} {k : Unit → Sem α} {a : α} (x : Goes w c s (k ()) a s') : Goes w (1 + c) s (.rule tag k) a s' := fun K H gd lv pos => by
  obtain ⟨n, p, l, y⟩ := x K H gd lv pos
  refine ⟨1 + n, p, Nat.add_le_add_left l 1, fun N r e => ?_⟩
  rw [Nat.add_assoc]
  exact (tr_go rfl rfl rfl).trans (y N r e)
theorem goes_at {s s' : Shared} {q : Pos} {k : Unit → Sem α} {a : α} (x : Goes w c s (k ()) a s') : Goes w (1 + c) s (.at q k) a s' := fun K H gd lv pos => by
  obtain ⟨n, p, l, y⟩ := x K H gd lv q
  refine ⟨1 + n, p, Nat.add_le_add_left l 1, fun N r e => ?_⟩
  rw [Nat.add_assoc]
  exact (tr_go rfl rfl rfl).trans (y N r e)
theorem goes_point {s s' : Shared} {l : List Value} {k : Unit → Sem α} {a : α} (x : Goes w c s (k ()) a s') : Goes w (1 + c) s (.point l k) a s' := fun K H gd lv pos => by
  obtain ⟨n, p, l, y⟩ := x K H gd lv pos
  refine ⟨1 + n, p, Nat.add_le_add_left l 1, fun N r e => ?_⟩
  rw [Nat.add_assoc]
  exact (tr_go rfl rfl rfl).trans (y N r e)
theorem goes_ask {s s' : Shared} {k : Setting → Sem α} {a : α} (x : Goes w c s (k ⟨P0, w.params⟩) a s') : Goes w (1 + c) s (.ask k) a s' := fun K H gd lv pos => by
  obtain ⟨n, p, l, y⟩ := x K H gd lv pos
  refine ⟨1 + n, p, Nat.add_le_add_left l 1, fun N r e => ?_⟩
  rw [Nat.add_assoc]
  exact (tr_go rfl rfl rfl).trans (y N r e)
theorem goes_fresh {s' : Shared} {k : Tok → Sem α} {a : α} (x : Goes w c ⟨h, g, d, tk + 1, os⟩ (k tk) a s') : Goes w (1 + c) ⟨h, g, d, tk, os⟩ (.fresh k) a s' := fun K H gd lv pos => by
  obtain ⟨n, p, l, y⟩ := x K H gd lv pos
  refine ⟨1 + n, p, Nat.add_le_add_left l 1, fun N r e => ?_⟩
  rw [Nat.add_assoc]
  exact (tr_go rfl rfl rfl).trans (y N r e)
theorem goes_load {s' : Shared} {ad : Addr} {q : Option Value} {o : Obj} {k : Obj → Sem α} {a : α} (ho : h.get? ad = some o) (x : Goes w c ⟨h, g, d, tk, os⟩ (k o) a s') : Goes w (1 + c) ⟨h, g, d, tk, os⟩ (.load ad q k) a s' := fun K H gd lv pos => by
  obtain ⟨n, p, l, y⟩ := x K H gd lv pos
  refine ⟨1 + n, p, Nat.add_le_add_left l 1, fun N r e => ?_⟩
  rw [Nat.add_assoc]
  refine (tr_go rfl rfl ?_).trans (y N r e)
  show (match h.get? ad with | some o => Step.go _ _ | none => _) = _
  rw [ho]
theorem goes_alloc {s' : Shared} {o : Obj} {k : Addr → Sem α} {a : α} (x : Goes w c ⟨h.push o, g, d, tk, os⟩ (k h.objs.size) a s') : Goes w (1 + c) ⟨h, g, d, tk, os⟩ (.alloc o k) a s' := fun K H gd lv pos => by
  obtain ⟨n, p, l, y⟩ := x K H gd lv pos
  refine ⟨1 + n, p, Nat.add_le_add_left l 1, fun N r e => ?_⟩
  rw [Nat.add_assoc]
  exact (tr_go rfl rfl rfl).trans (y N r e)
theorem goes_update {s' : Shared} {ad : Addr} {q : Option Value} {f : Obj → Obj} {o : Obj} {k : Unit → Sem α} {a : α} (ha : Nat.ble 11 ad = true) (ho : h.get? ad = some o) (x : Goes w c ⟨h.update ad f, g, d, tk, os⟩ (k ()) a s') : Goes w (1 + c) ⟨h, g, d, tk, os⟩ (.update ad q f k) a s' := fun K H gd lv pos => by
  obtain ⟨n, p, l, y⟩ := x K H gd lv pos
  refine ⟨1 + n, p, Nat.add_le_add_left l 1, fun N r e => ?_⟩
  rw [Nat.add_assoc]
  refine (tr_go rfl ?_ ?_).trans (y N r e)
  · show (true && (Nat.ble 11 ad || _ || _ || _)) = true
    rw [ha]; rfl
  · show (if (h.get? ad).isSome = true then Step.go _ _ else _) = _
    rw [ho]; rfl
end goes
end Mine

namespace Mine
theorem hashA (b : Bool) (w : World) (h : Heap) (g : Array GenState) (d : Drawn) (tk : Nat) (os : OsState) (k : Int) (t : Tok) (K : Int → Sem Fin) (H : Value → Sem Fin) (gd : Bool → Bool) (lv : List Value → List Value) (pos : Pos) (N : Nat) :
   topRun treeTable P0 (w.withFollow "special-get-raises" b) 11 ann0 (N + 5) ⟨h,g,d,tk,os⟩ ⟨(pyHash (.int k t)).wrap K H gd lv, cod0, pos, B0⟩ = topRun treeTable P0 (w.withFollow "special-get-raises" b) 11 ann0 N ⟨h,g,d,tk+1,os⟩ ⟨(pyHashByItsType.reduced (rawHash k)).wrap K H gd lv, cod0, pos, B0⟩ := by
  rw [PySem.W.Fast.te14082659384304107361, PySem.W.Fast.te14364793385576792824]
  cases b <;> kernel_rfl
theorem hashB (w : World) (h : Heap) (g : Array GenState) (d : Drawn) (tk : Nat) (os : OsState) (k : Int) (t : Tok) (K : Int → Sem Fin) (H : Value → Sem Fin) (gd : Bool → Bool) (lv : List Value → List Value) (pos : Pos) (N : Nat) :
   topRun treeTable P0 w 11 ann0 (N + 5) ⟨h,g,d,tk,os⟩ ⟨(pyHash (.int k t)).wrap K H gd lv, cod0, pos, B0⟩ = topRun treeTable P0 w 11 ann0 N ⟨h,g,d,tk+1,os⟩ ⟨(pyHashByItsType.reduced (rawHash k)).wrap K H gd lv, cod0, pos, B0⟩ := by
  have := hashA (w.params.followText "special-get-raises") w h g d tk os k t K H gd lv pos N
  rwa [World.withFollow_self] at this
theorem reduced_raw (k : Int) : pyHashByItsType.reduced (rawHash k) = pure (hashInt k) := by
  have hr := rawHash_range k
  show (if (decide (-(2 : Int) ^ 63 ≤ rawHash k) && decide (rawHash k < 2 ^ 63)) = true then _ else _) = _
  rw [if_pos (by rw [decide_eq_true hr.1, decide_eq_true hr.2]; rfl)]
  rfl
section
variable {w : World} {α : Type} {h : Heap} {g : Array GenState} {d : Drawn} {tk : Nat} {os : OsState}
theorem goes_hash {k : Int} {t : Tok} : Goes w 5 ⟨h, g, d, tk, os⟩ (pyHash (.int k t)) (hashInt k) ⟨h, g, d, tk + 1, os⟩ := fun K H gd lv pos =>
  ⟨5, pos, Nat.le_refl _, fun N r e => by rw [Nat.add_comm, hashB, reduced_raw]; exact e⟩
noncomputable abbrev dOb (es : Array DictEntry) (n : Nat) : Obj := ⟨.type "dict", none, .dict es n, #[]⟩
theorem goes_dictEntries {a : Addr} {es : Array DictEntry} {n : Nat} {q : Option Value} (ho : h.get? a = some (dOb es n)) : Goes w 1 ⟨h, g, d, tk, os⟩ (dictEntries a q) es ⟨h, g, d, tk, os⟩ :=
  goes_le (c := 1 + 0) (goes_load ho goes_pure) (Nat.le_refl _)
theorem goes_dictEpoch {a : Addr} {es : Array DictEntry} {n : Nat} {q : Option Value} (ho : h.get? a = some (dOb es n)) : Goes w 1 ⟨h, g, d, tk, os⟩ (dictEpoch a q) n ⟨h, g, d, tk, os⟩ :=
  goes_le (c := 1 + 0) (goes_load ho goes_pure) (Nat.le_refl _)
theorem no_places {es : Array DictEntry} {k : Int} (hk : ∀ e ∈ es, e.hash ≠ k) : placesWithHash es.size (fun i => es[i]?.map (·.hash)) k = [] := by
  unfold placesWithHash
  rw [List.filter_eq_nil_iff]
  intro i hi q
  have hi' : i < es.size := List.mem_range.mp hi
  dsimp only at q
  rw [Array.getElem?_eq_getElem hi'] at q
  simp only [Option.map_some, beq_iff_eq, Option.some.injEq] at q
  exact hk _ (Array.getElem_mem hi') q
theorem goes_find {a : Addr} {es : Array DictEntry} {n : Nat} {k : Int} {t : Tok} {hh : Int} (ho : h.get? a = some (dOb es n)) (hk : ∀ e ∈ es, e.hash ≠ hh) :
    Goes w 1 ⟨h, g, d, tk, os⟩ (dictFind a (.int k t) hh) none ⟨h, g, d, tk, os⟩ := by
  unfold dictFind
  refine goes_le (c := 1 + 0) (goes_holding (goes_bind' (goes_dictEntries ho) ?_)) (Nat.le_refl _)
  show Goes w _ _ (if _ then _ else _) none _
  rw [no_places hk]
  exact goes_pure
theorem goes_updKeys {a : Addr} {es : Array DictEntry} {n : Nat} {f : Array DictEntry → Array DictEntry} {q : Option Value} (ha : Nat.ble 11 a = true) (ho : h.get? a = some (dOb es n)) (hl : (f es).size ≤ sizeLine) :
    Goes w 3 ⟨h, g, d, tk, os⟩ (updateDictKeys a f q) () ⟨h.update a (Obj.mapDictKeys f), g, d, tk, os⟩ := by
  refine goes_le (c := 1 + (1 + (1 + 0))) ?_ (Nat.le_refl _)
  refine goes_load ho (goes_update ha ho (goes_load (o := dOb (f es) (n + 1)) (Heap.get?_update_self _ ho rfl) ?_))
  have e : (Data.dict (f es) (n + 1)).pastItsLine = none := by
    unfold Data.pastItsLine
    simp only; rw [if_neg (by omega)]
  show Goes w _ _ (match (Data.dict (f es) (n + 1)).pastItsLine with | some what => unsupported what | _ => pure ()) () _
  rw [e]
  exact goes_pure
end
end Mine

namespace Mine
theorem look_dict : typeLookup (.type "dict") "__iter__" = pure (some (.builtin "dict.__iter__")) := by kernel_rfl
theorem sub_dict : isSubtype (.type "dict") (.type "dict") = pure true := by kernel_rfl
noncomputable abbrev hp (L : List Obj) : Heap := ⟨⟨L⟩, {}⟩
noncomputable abbrev St (L : List Obj) (tk : Nat) (os : OsState) : Shared := ⟨hp L, #[], {}, tk, os⟩
theorem hp_get {pre post : List Obj} {es : Array DictEntry} {n : Nat} {a : Nat} (ha : a = pre.length) : (hp (pre ++ dOb es n :: post)).get? a = some (dOb es n) := by
  subst ha
  unfold Heap.get?
  have : (hp (pre ++ dOb es n :: post)).objs[pre.length]? = some (dOb es n) := by simp
  rw [this]
theorem hp_upd {pre post : List Obj} {o : Obj} {a : Nat} {f : Obj → Obj} (ha : a = pre.length) : (hp (pre ++ o :: post)).update a f = hp (pre ++ f o :: post) := by
  subst ha
  show Heap.mk ((⟨pre ++ o :: post⟩ : Array Obj).modify pre.length f) {} = _
  have : (⟨pre ++ o :: post⟩ : Array Obj).modify pre.length f = ⟨pre ++ f o :: post⟩ := by
    apply Array.ext_getElem?
    intro i
    rw [Array.getElem?_modify]
    have e : ∀ l : List Obj, (⟨l⟩ : Array Obj)[i]? = l[i]? := fun l => by simp
    rw [e, e]
    by_cases h : pre.length = i
    · subst h; simp
    · rw [if_neg h]
      by_cases h2 : i < pre.length
      · rw [List.getElem?_append_left h2, List.getElem?_append_left h2]
      · have h3 : pre.length ≤ i := by omega
        rw [List.getElem?_append_right h3, List.getElem?_append_right h3]
        obtain ⟨m, hm⟩ : ∃ m, i - pre.length = m + 1 := ⟨i - pre.length - 1, by omega⟩
        rw [hm]; rfl
  rw [this]
theorem hp_push {L : List Obj} {o : Obj} : (hp L).push o = hp (L ++ [o]) := by
  unfold Heap.push
  congr 1
  simp
section
variable {w : World} {α : Type} {tk : Nat} {os : OsState}
theorem goes_typeOf {h : Heap} {g : Array GenState} {d : Drawn} {a : Addr} {es : Array DictEntry} {n : Nat} (ho : h.get? a = some (dOb es n)) : Goes w 1 ⟨h, g, d, tk, os⟩ (typeOf (.ref a)) (.type "dict") ⟨h, g, d, tk, os⟩ :=
  goes_le (c := 1 + 0) (goes_load ho goes_pure) (Nat.le_refl _)
theorem goes_put {pre post : List Obj} {es : Array DictEntry} {n a : Nat} {k : Int} {t : Tok} {hh : Int} {v : Value} (ha : a = pre.length) (hb : Nat.ble 11 a = true) (hk : ∀ e ∈ es, e.hash ≠ hh) (hl : es.size < sizeLine) :
    Goes w 10 (St (pre ++ dOb es n :: post) tk os) (dictPut a hh (.int k t) v) () (St (pre ++ dOb (es.push ⟨hh, .int k t, v⟩) (n + 1) :: post) tk os) := by
  unfold dictPut
  refine goes_le (c := 1 + 3) ?_ (by decide)
  refine goes_bind' (goes_find (hp_get ha) hk) ?_
  have := goes_updKeys (w := w) (g := #[]) (d := {}) (tk := tk) (os := os) (f := (·.push ⟨hh, .int k t, v⟩)) (q := none) hb (hp_get (es := es) (n := n) (post := post) ha) (by rw [Array.size_push]; omega)
  rw [hp_upd ha] at this
  exact this
theorem goes_set {pre post : List Obj} {es : Array DictEntry} {n a : Nat} {k : Int} {t : Tok} {v : Value} (ha : a = pre.length) (hb : Nat.ble 11 a = true) (hk : ∀ e ∈ es, e.hash ≠ hashInt k) (hl : es.size < sizeLine) :
    Goes w 12 (St (pre ++ dOb es n :: post) tk os) (dictSet a (.int k t) v) () (St (pre ++ dOb (es.push ⟨hashInt k, .int k t, v⟩) (n + 1) :: post) (tk + 1) os) := by
  unfold dictSet
  refine goes_le (c := 5 + (1 + (1 + 3))) ?_ (by decide)
  refine goes_holding (goes_bind' goes_hash ?_)
  unfold dictSetHashed
  refine goes_holding (goes_bind' (goes_find (hp_get ha) hk) (goes_rule ?_))
  have := goes_updKeys (w := w) (g := #[]) (d := {}) (tk := tk + 1) (os := os) (f := (·.push ⟨hashInt k, .int k t, v⟩)) (q := keyPart (.int k t)) hb (hp_get (es := es) (n := n) (post := post) ha) (by rw [Array.size_push]; omega)
  rw [hp_upd ha] at this
  exact this

/-- one pair of the display -/
structure PairOK (w : World) (os : OsState) (x : Sem Value × Sem Value) (q : Int × Str) : Prop where
  key : ∀ L tk, Goes w 3 (St L tk os) x.1 (.int q.1 tk) (St L (tk + 1) os)
  val : ∀ L tk, Goes w 3 (St L tk os) x.2 (.str q.2 tk) (St L (tk + 1) os)
  hash : hashInt q.1 = q.1
noncomputable def ents : List (Int × Str) → Nat → List DictEntry
  | [], _ => []
  | q :: r, tk => ⟨q.1, .int q.1 tk, .str q.2 (tk + 1)⟩ :: ents r (tk + 3)
noncomputable def entsS : List (Int × Str) → Nat → List DictEntry
  | [], _ => []
  | q :: r, tk => ⟨q.1, .int q.1 tk, .str q.2 (tk + 1)⟩ :: entsS r (tk + 2)
inductive Pairs (w : World) (os : OsState) : List (Sem Value × Sem Value) → List (Int × Str) → Prop
  | nil : Pairs w os [] []
  | cons {x q xs qs} : PairOK w os x q → Pairs w os xs qs → Pairs w os (x :: xs) (q :: qs)
theorem Pairs.length {ps qs} (h : Pairs w os ps qs) : ps.length = qs.length := by
  induction h with
  | nil => rfl
  | cons _ _ ih => rw [List.length_cons, List.length_cons, ih]
/-- the keys rise, above what stands -/
noncomputable def Rise (es : List DictEntry) : List (Int × Str) → Prop
  | [] => True
  | q :: r => (∀ e ∈ es, e.hash < q.1) ∧ (∀ p ∈ r, q.1 < p.1) ∧ Rise es r
theorem Rise.snoc {es : List DictEntry} {e : DictEntry} : ∀ {qs : List (Int × Str)}, Rise es qs → (∀ p ∈ qs, e.hash < p.1) → Rise (es ++ [e]) qs
  | [], _, _ => trivial
  | q :: r, ⟨a, b, c⟩, h => ⟨fun x hx => by
      rcases List.mem_append.mp hx with hx | hx
      · exact a x hx
      · rw [List.mem_singleton.mp hx]; exact h q (.head _), b, Rise.snoc c fun p hp => h p (.tail _ hp)⟩
theorem goes_subLoop {d : Addr} {f : Sem Value × Sem Value → PUnit → Sem (ForInStep PUnit)} (hf : ∀ x u, f x u = (x.1 >>= fun kv => holding [kv] x.2 >>= fun vv => holding [kv, vv] (dictSet d kv vv) >>= fun _ => pure (.yield PUnit.unit)))
    {pre post : List Obj} (hd : d = pre.length) (hb : Nat.ble 11 d = true) : ∀ {ps qs}, Pairs w os ps qs → ∀ (es : List DictEntry) (n tk : Nat), Rise es qs → es.length + qs.length < sizeLine →
      Goes w (20 * qs.length) (St (pre ++ dOb ⟨es⟩ n :: post) tk os) (forIn ps PUnit.unit f) PUnit.unit (St (pre ++ dOb ⟨es ++ ents qs tk⟩ (n + qs.length) :: post) (tk + 3 * qs.length) os) := by
  intro ps qs h
  induction h with
  | nil =>
    intro es n tk _ _
    rw [List.forIn_nil]
    simp only [ents, List.append_nil, List.length_nil, Nat.add_zero, Nat.mul_zero]
    exact goes_pure'
  | @cons x q xs qs hx _ ih =>
    intro es n tk hr hl
    rw [List.forIn_cons, hf]
    have hk : ∀ e ∈ (⟨es⟩ : Array DictEntry), e.hash ≠ hashInt q.1 := fun e he => by
      rw [hx.hash]; exact Int.ne_of_lt (hr.1 e (by simpa using he))
    have hl' : (⟨es⟩ : Array DictEntry).size < sizeLine := by
      show es.length < sizeLine
      simp only [List.length_cons] at hl; omega
    have e1 := goes_set (w := w) (os := os) (tk := tk + 1 + 1) (t := tk) (v := .str q.2 (tk + 1)) (post := post) (n := n) hd hb hk hl'
    rw [hx.hash] at e1
    have e2 := ih (es ++ [⟨q.1, .int q.1 tk, .str q.2 (tk + 1)⟩]) (n + 1) (tk + 3) (Rise.snoc hr.2.2 hr.2.1) (by simp only [List.length_append, List.length_cons, List.length_nil] at hl ⊢; omega)
    have ea : (⟨es⟩ : Array DictEntry).push ⟨q.1, .int q.1 tk, .str q.2 (tk + 1)⟩ = ⟨es ++ [⟨q.1, .int q.1 tk, .str q.2 (tk + 1)⟩]⟩ := by simp
    rw [ea] at e1
    have e3 : es ++ ents (q :: qs) tk = es ++ [⟨q.1, .int q.1 tk, .str q.2 (tk + 1)⟩] ++ ents qs (tk + 3) := by simp [ents]
    rw [e3, List.length_cons, show n + (qs.length + 1) = n + 1 + qs.length by omega, show tk + 3 * (qs.length + 1) = tk + 3 + 3 * qs.length by omega]
    refine goes_le (c := (3 + (3 + (12 + 0))) + 20 * qs.length) ?_ (by omega)
    refine goes_bind' (goes_bind' (hx.key _ _) (goes_bind' (goes_holding (hx.val _ _)) (goes_bind' (goes_holding e1) goes_pure'))) ?_
    exact e2
end
end Mine

namespace Mine
section
variable {w : World} {α : Type} {tk : Nat} {os : OsState}
theorem goes_sub {L : List Obj} {ps : List (Sem Value × Sem Value)} {qs : List (Int × Str)} (h : Pairs w os ps qs) (hr : Rise [] qs) (hl : qs.length < 1000) (h15 : 15 < qs.length) (hb : Nat.ble 11 L.length = true) :
    Goes w (20 * qs.length + 5) (St L tk os) (subDict ps) L.length (St (L ++ [dOb ⟨ents qs tk⟩ qs.length]) (tk + 3 * qs.length) os) := by
  unfold subDict
  refine goes_le (c := (1 + 0) + ((1 + (20 * qs.length + 0)) + 0)) ?_ (by omega)
  refine goes_bind' (x := alloc _) (goes_alloc (h := hp L) goes_pure) ?_
  refine goes_bind' (a := ()) (goes_holding ?_) goes_pure'
  have hn : ¬ ps.length ≤ 15 := by rw [h.length]; omega
  rw [if_neg hn]
  refine goes_rule ?_
  have := goes_subLoop (w := w) (os := os) (d := L.length) (pre := L) (post := []) (fun x u => rfl) rfl hb h [] 0 tk hr (by rw [sizeLine_eq]; simp only [List.length_nil]; omega)
  rw [List.nil_append, Nat.zero_add] at this
  rw [hp_push]
  refine goes_bind' (x := forIn ps PUnit.unit _) this goes_pure'
/-- the evaluation of a short display's pairs -/
theorem goes_pairs {L : List Obj} : ∀ {ps : List (Sem Value × Sem Value)} {qs : List (Int × Str)}, Pairs w os ps qs → ∀ tk, Goes w (6 * qs.length) (St L tk os) (evalPairs ps) ((entsS qs tk).map fun e => (e.key, e.val)) (St L (tk + 2 * qs.length) os) := by
  intro ps qs h
  induction h with
  | nil => intro tk; exact goes_pure'
  | @cons x q xs qs hx _ ih =>
    intro tk
    obtain ⟨k, v⟩ := x
    show Goes w _ _ (k >>= fun kv => holding [kv] v >>= fun vv => holding [kv, vv] (evalPairs xs) >>= fun r => pure ((kv, vv) :: r)) _ _
    have e2 := ih (tk + 2)
    rw [List.length_cons, show tk + 2 * (qs.length + 1) = tk + 2 + 2 * qs.length by omega]
    exact goes_le (goes_bind' (hx.key _ _) (goes_bind' (goes_holding (hx.val _ _)) (goes_bind' (goes_holding e2) goes_pure'))) (by omega)
theorem goes_setLoop {d : Addr} {f : Value × Value → PUnit → Sem (ForInStep PUnit)} (hf : ∀ x u, f x u = (dictSet d x.1 x.2 >>= fun _ => pure (.yield PUnit.unit)))
    {pre post : List Obj} (hd : d = pre.length) (hb : Nat.ble 11 d = true) : ∀ (qs : List (Int × Str)) (es : List DictEntry) (n tk tk₀ : Nat), (∀ q ∈ qs, hashInt q.1 = q.1) → Rise es qs → es.length + qs.length < sizeLine →
      Goes w (12 * qs.length) (St (pre ++ dOb ⟨es⟩ n :: post) tk os) (forIn ((entsS qs tk₀).map fun e => (e.key, e.val)) PUnit.unit f) PUnit.unit (St (pre ++ dOb ⟨es ++ entsS qs tk₀⟩ (n + qs.length) :: post) (tk + qs.length) os) := by
  intro qs
  induction qs with
  | nil =>
    intro es n tk tk₀ _ _ _
    simp only [entsS, List.map_nil, List.forIn_nil, List.append_nil, List.length_nil, Nat.add_zero]
    exact goes_pure'
  | cons q qs ih =>
    intro es n tk tk₀ hh hr hl
    have hq := hh q (.head _)
    simp only [entsS, List.map_cons]
    rw [List.forIn_cons, hf]
    have hk : ∀ e ∈ (⟨es⟩ : Array DictEntry), e.hash ≠ hashInt q.1 := fun e he => by
      rw [hq]; exact Int.ne_of_lt (hr.1 e (by simpa using he))
    have hl' : (⟨es⟩ : Array DictEntry).size < sizeLine := by
      show es.length < sizeLine
      simp only [List.length_cons] at hl; omega
    have e1 := goes_set (w := w) (os := os) (tk := tk) (t := tk₀) (v := .str q.2 (tk₀ + 1)) (post := post) (n := n) hd hb hk hl'
    rw [hq] at e1
    have e2 := ih (es ++ [⟨q.1, .int q.1 tk₀, .str q.2 (tk₀ + 1)⟩]) (n + 1) (tk + 1) (tk₀ + 2) (fun p hp => hh p (.tail _ hp)) (Rise.snoc hr.2.2 hr.2.1) (by simp only [List.length_append, List.length_cons, List.length_nil] at hl ⊢; omega)
    have ea : (⟨es⟩ : Array DictEntry).push ⟨q.1, .int q.1 tk₀, .str q.2 (tk₀ + 1)⟩ = ⟨es ++ [⟨q.1, .int q.1 tk₀, .str q.2 (tk₀ + 1)⟩]⟩ := by simp
    rw [ea] at e1
    have e3 : es ++ (⟨q.1, .int q.1 tk₀, .str q.2 (tk₀ + 1)⟩ :: entsS qs (tk₀ + 2)) = es ++ [⟨q.1, .int q.1 tk₀, .str q.2 (tk₀ + 1)⟩] ++ entsS qs (tk₀ + 2) := by simp
    rw [e3, List.length_cons, show n + (qs.length + 1) = n + 1 + qs.length by omega, show tk + (qs.length + 1) = tk + 1 + qs.length by omega]
    exact goes_le (goes_bind' (goes_bind' e1 goes_pure') e2) (by omega)
theorem Pairs.hash {ps qs} (h : Pairs w os ps qs) : ∀ q ∈ qs, hashInt q.1 = q.1 := by
  induction h with
  | nil => exact fun _ hq => nomatch hq
  | cons hx _ ih => exact fun q hq => by rcases List.mem_cons.mp hq with rfl | hq; exact hx.hash; exact ih q hq
theorem goes_subS {L : List Obj} {ps : List (Sem Value × Sem Value)} {qs : List (Int × Str)} (h : Pairs w os ps qs) (hr : Rise [] qs) (h15 : qs.length ≤ 15) (hb : Nat.ble 11 L.length = true) :
    Goes w (20 * qs.length + 5) (St L tk os) (subDict ps) L.length (St (L ++ [dOb ⟨entsS qs tk⟩ qs.length]) (tk + 2 * qs.length + qs.length) os) := by
  unfold subDict
  refine goes_le (c := (1 + 0) + ((6 * qs.length + (12 * qs.length + 0)) + 0)) ?_ (by omega)
  refine goes_bind' (x := alloc _) (goes_alloc (h := hp L) goes_pure) ?_
  refine goes_bind' (a := ()) (goes_holding ?_) goes_pure'
  have hn : ps.length ≤ 15 := by rw [h.length]; exact h15
  rw [if_pos hn, hp_push]
  refine goes_bind' (goes_pairs h tk) (goes_holding ?_)
  have := goes_setLoop (w := w) (os := os) (d := L.length) (pre := L) (post := []) (fun x u => rfl) rfl hb qs [] 0 (tk + 2 * qs.length) tk h.hash hr (by rw [sizeLine_eq]; simp only [List.length_nil]; omega)
  rw [List.nil_append, Nat.zero_add] at this
  exact goes_bind' (x := forIn _ PUnit.unit _) this goes_pure'
/-- the merge's loop -/
theorem goes_mergeLoop {d a : Addr} {f : Nat → PUnit → Sem (ForInStep PUnit)} {m : Nat} {L₂ : List Obj} {es' : List DictEntry} {mid : List Obj}
    {pre : List Obj} (hd : d = pre.length) (hb : Nat.ble 11 d = true) (ha : a = pre.length + 1 + mid.length)
    (hf : ∀ (i : Nat) (u : PUnit) (e : DictEntry) (L : List Obj) (s' : Shared), (hp L).get? a = some (dOb ⟨es'⟩ m) → es'[i]? = some e → (∀ s'', Goes w 10 (St L tk os) (dictPut d e.hash e.key e.val) () s'' → (∃ L'', s'' = St L'' tk os ∧ (hp L'').get? a = some (dOb ⟨es'⟩ m)) → Goes w 20 (St L tk os) (f i u) (.yield PUnit.unit) s''))
    (hi : ∀ e ∈ es', ∃ k t, e.key = .int k t) : ∀ (j : Nat) (es : List DictEntry) (n : Nat), (∀ e ∈ es, ∀ x ∈ es'.drop (es'.length - j), e.hash < x.hash) → (es'.map (·.hash)).Pairwise (· < ·) → j ≤ es'.length → es.length + j < sizeLine →
      Goes w (20 * j) (St (pre ++ dOb ⟨es⟩ n :: (mid ++ [dOb ⟨es'⟩ m])) tk os) (forIn (List.range' (es'.length - j) j) PUnit.unit f) PUnit.unit (St (pre ++ dOb ⟨es ++ es'.drop (es'.length - j)⟩ (n + j) :: (mid ++ [dOb ⟨es'⟩ m])) tk os) := by
  intro j
  induction j with
  | zero =>
    intro es n _ _ _ _
    simp only [Nat.sub_zero, List.drop_length, List.append_nil, Nat.add_zero, List.range'_zero, List.forIn_nil]
    exact goes_pure'
  | succ j ih =>
    intro es n hlt hp' hj hl
    have hlt' : es'.length - (j + 1) < es'.length := by omega
    rw [List.range'_succ, List.forIn_cons]
    obtain ⟨e, he⟩ : ∃ e, es'[es'.length - (j + 1)]? = some e := ⟨_, List.getElem?_eq_getElem hlt'⟩
    have hdrop : es'.drop (es'.length - (j + 1)) = e :: es'.drop (es'.length - j) := by
      rw [List.drop_eq_getElem_cons hlt', show es'.length - (j + 1) + 1 = es'.length - j by omega]
      rw [List.getElem?_eq_getElem hlt'] at he
      rw [Option.some.inj he]
    have hem : e ∈ es' := List.mem_of_getElem? he
    obtain ⟨k, t, hk⟩ := hi e hem
    have hpa : (e :: es'.drop (es'.length - j)).Pairwise (fun a b => a.hash < b.hash) := by
      rw [← hdrop]
      exact (List.pairwise_map.mp hp').drop
    have hget : ∀ (es : List DictEntry) (n : Nat), (hp (pre ++ dOb ⟨es⟩ n :: (mid ++ [dOb ⟨es'⟩ m]))).get? a = some (dOb ⟨es'⟩ m) := fun es n => by
      have := hp_get (pre := pre ++ dOb ⟨es⟩ n :: mid) (post := []) (es := ⟨es'⟩) (n := m) (a := a) (by rw [ha, List.length_append, List.length_cons, Nat.add_assoc, Nat.add_comm 1])
      simpa [List.append_assoc] using this
    have e1 := goes_put (w := w) (os := os) (tk := tk) (t := t) (k := k) (hh := e.hash) (v := e.val) (post := mid ++ [dOb ⟨es'⟩ m]) (es := ⟨es⟩) (n := n) hd hb (fun x hx => Int.ne_of_lt (hlt x (by simpa using hx) e (by rw [hdrop]; exact .head _))) (by show es.length < sizeLine; omega)
    rw [← hk] at e1
    have ea : (⟨es⟩ : Array DictEntry).push ⟨e.hash, e.key, e.val⟩ = ⟨es ++ [e]⟩ := by simp
    rw [ea] at e1
    have e2 := ih (es ++ [e]) (n + 1) (fun x hx y hy => by
      rcases List.mem_append.mp hx with hx | hx
      · exact hlt x hx y (by rw [hdrop]; exact .tail _ hy)
      · rw [List.mem_singleton.mp hx]; exact (List.pairwise_cons.mp hpa).1 y hy) hp' (by omega) (by simp only [List.length_append, List.length_cons, List.length_nil]; omega)
    rw [hdrop, show es ++ e :: es'.drop (es'.length - j) = es ++ [e] ++ es'.drop (es'.length - j) by simp, show n + (j + 1) = n + 1 + j by omega, show es'.length - (j + 1) + 1 = es'.length - j by omega]
    exact goes_le (goes_bind' (hf _ _ e _ (St [] tk os) (hget es n) he _ e1 ⟨_, rfl, hget _ _⟩) e2) (by omega)
theorem goes_mergeLoop0 {d a : Addr} {f : Nat → PUnit → Sem (ForInStep PUnit)} {m : Nat} {es es' : List DictEntry} {mid pre : List Obj} {n : Nat}
    (hd : d = pre.length) (hb : Nat.ble 11 d = true) (ha : a = pre.length + 1 + mid.length) (hi : ∀ e ∈ es', ∃ k t, e.key = .int k t) (hlt : ∀ e ∈ es, ∀ x ∈ es', e.hash < x.hash) (hp' : (es'.map (·.hash)).Pairwise (· < ·)) (hl : es.length + es'.length < sizeLine)
    (hf : ∀ (i : Nat) (u : PUnit) (e : DictEntry) (L : List Obj) (s' : Shared), (hp L).get? a = some (dOb ⟨es'⟩ m) → es'[i]? = some e → (∀ s'', Goes w 10 (St L tk os) (dictPut d e.hash e.key e.val) () s'' → (∃ L'', s'' = St L'' tk os ∧ (hp L'').get? a = some (dOb ⟨es'⟩ m)) → Goes w 20 (St L tk os) (f i u) (.yield PUnit.unit) s'')) :
    Goes w (20 * es'.length) (St (pre ++ dOb ⟨es⟩ n :: (mid ++ [dOb ⟨es'⟩ m])) tk os) (forIn (List.range (⟨es'⟩ : Array DictEntry).size) PUnit.unit f) PUnit.unit (St (pre ++ dOb ⟨es ++ es'⟩ (n + es'.length) :: (mid ++ [dOb ⟨es'⟩ m])) tk os) := by
  have e0 := goes_mergeLoop (w := w) (os := os) (tk := tk) (L₂ := []) hd hb ha hf hi es'.length es n (by rw [Nat.sub_self, List.drop_zero]; exact hlt) hp' (Nat.le_refl _) hl
  rw [Nat.sub_self, List.drop_zero] at e0
  have er : List.range (⟨es'⟩ : Array DictEntry).size = List.range' 0 es'.length := List.range_eq_range'
  rw [er]
  exact e0
end
end Mine

namespace Mine
section
variable {w : World} {α : Type} {tk : Nat} {os : OsState}
theorem goes_merge {d a : Addr} {m n : Nat} {es es' : List DictEntry} {mid pre : List Obj} (hd : d = pre.length) (hb : Nat.ble 11 d = true) (ha : a = pre.length + 1 + mid.length)
    (hne : es ≠ []) (hi : ∀ e ∈ es', ∃ k t, e.key = .int k t) (hlt : ∀ e ∈ es, ∀ x ∈ es', e.hash < x.hash) (hp' : (es'.map (·.hash)).Pairwise (· < ·)) (hl : es.length + es'.length < sizeLine) (hsys : (a == sysModules) = false) :
    Goes w (20 * es'.length + 20) (St (pre ++ dOb ⟨es⟩ n :: (mid ++ [dOb ⟨es'⟩ m])) tk os) (mergeMapping d (.ref a) false) () (St (pre ++ dOb ⟨es ++ es'⟩ (n + es'.length) :: (mid ++ [dOb ⟨es'⟩ m])) tk os) := by
  have hget : ∀ (es : List DictEntry) (n : Nat), (hp (pre ++ dOb ⟨es⟩ n :: (mid ++ [dOb ⟨es'⟩ m]))).get? a = some (dOb ⟨es'⟩ m) := fun es n => by
    have := hp_get (pre := pre ++ dOb ⟨es⟩ n :: mid) (post := []) (es := ⟨es'⟩) (n := m) (a := a) (by rw [ha, List.length_append, List.length_cons, Nat.add_assoc, Nat.add_comm 1])
    simpa [List.append_assoc] using this
  unfold mergeMapping
  refine goes_le (c := (1 + 0) + ((1 + 0) + (0 + (1 + (1 + (1 + (20 * es'.length + 0))))))) ?_ (by omega)
  refine goes_bind' (a := true) (goes_bind' (goes_typeOf (hget es n)) (goes_eq sub_dict goes_pure')) ?_
  rw [if_pos rfl]
  refine goes_bind' (a := some (.builtin "dict.__iter__")) (goes_bind' (goes_typeOf (hget es n)) (goes_eq look_dict goes_pure')) ?_
  refine goes_bind' (a := true) goes_pure' ?_
  show Goes w _ _ (if (a == sysModules) = true then _ else _) _ _
  rw [hsys, if_neg Bool.false_ne_true]
  refine goes_bind' (goes_dictEntries (hp_get hd)) ?_
  have he : (⟨es⟩ : Array DictEntry).isEmpty = false := by
    cases es with
    | nil => exact absurd rfl hne
    | cons x r => rfl
  rw [he, if_neg Bool.false_ne_true]
  refine goes_bind' (goes_dictEntries (hget es n)) ?_
  refine goes_bind' (goes_dictEpoch (hget es n)) ?_
  refine goes_bind' (x := forIn _ PUnit.unit _) (goes_mergeLoop0 hd hb ha hi hlt hp' hl fun i u e L s' h1 h2 s'' h3 h4 => ?_) goes_pure'
  obtain ⟨L'', rfl, h5⟩ := h4
  refine goes_le (c := 1 + (10 + (1 + 0))) ?_ (by decide)
  refine goes_bind' (goes_dictEntries h1) ?_
  have : (⟨es'⟩ : Array DictEntry)[i]? = some e := by simpa using h2
  rw [this]
  refine goes_bind' (goes_holding h3) (goes_bind' (goes_dictEpoch h5) ?_)
  rw [if_neg (by simp)]
  exact goes_pure'
noncomputable abbrev Acc := Option Addr × List (Sem Value × Sem Value)
noncomputable def ddP : { q : (Option (Sem Value) × Sem Value → Acc → Sem (ForInStep Acc)) × (Acc → Sem Value) // ∀ items, dictDisplay items = Sem.bind (forIn items ((none, []) : Acc) q.1) q.2 } := ⟨(_, _), fun items => rfl⟩
noncomputable def flP : { fl : List (Sem Value × Sem Value) → Option Addr → Sem (Option Addr) // (∀ k v main run, ddP.1.1 (some k, v) (main, run) = if ((run ++ [(k, v)]).length == 17) = true then (fl (run ++ [(k, v)]) main >>= fun m => pure (ForInStep.yield (m, []))) else pure (ForInStep.yield (main, run ++ [(k, v)]))) ∧
    ∀ main run, ddP.1.2 (main, run) = (fl run main >>= fun r => match r with | some d => pure (Value.ref d) | none => newDict) } := ⟨_, ⟨fun k v main run => rfl, fun main run => rfl⟩⟩
theorem fl_none (x r) : flP.1 (x :: r) none = (subDict (x :: r) >>= fun d => pure (some d)) := rfl
theorem fl_some (x r d) : flP.1 (x :: r) (some d) = (holding [Value.ref d] (subDict (x :: r)) >>= fun sub => (holding [Value.ref d, Value.ref sub] (mergeMapping d (Value.ref sub) false)).onRaise (fun x => holding [Value.ref d, x] (runValue (Code.builtin "proto.let_go" { })) >>= fun _ => pure ()) >>= fun _ => pure (some d)) := rfl

noncomputable abbrev itm (p : Sem Value × Sem Value) : Option (Sem Value) × Sem Value := (some p.1, p.2)
theorem goes_collect {rest : List (Option (Sem Value) × Sem Value)} {main main' : Option Addr} {s s₁ s' : Shared} {b : Acc} {c₁ c₂ : Nat} : ∀ (ps run : List (Sem Value × Sem Value)), run.length + ps.length = 17 → ps ≠ [] →
    Goes w c₁ s (flP.1 (run ++ ps) main) main' s₁ → Goes w c₂ s₁ (forIn rest ((main', []) : Acc) ddP.1.1) b s' → Goes w (c₁ + c₂) s (forIn (ps.map itm ++ rest) ((main, run) : Acc) ddP.1.1) b s' := by
  intro ps
  induction ps with
  | nil => intro run _ h; exact absurd rfl h
  | cons p ps ih =>
    intro run hl _ h1 h2
    rw [List.map_cons, List.cons_append, List.forIn_cons, flP.2.1]
    cases ps with
    | nil =>
      rw [if_pos (by simp only [List.length_append, List.length_cons, List.length_nil] at hl ⊢; simp [hl])]
      exact goes_le (goes_bind' (goes_bind' h1 goes_pure') h2) (by omega)
    | cons q r =>
      rw [if_neg (by simp only [List.length_append, List.length_cons, List.length_nil, beq_iff_eq] at hl ⊢; omega)]
      refine goes_le (c := 0 + (c₁ + c₂)) ?_ (by omega)
      refine goes_bind' goes_pure' ?_
      exact ih (run ++ [p]) (by simp only [List.length_append, List.length_cons, List.length_nil] at hl ⊢; omega) (by simp) (by simpa using h1) h2
theorem goes_few {main : Option Addr} {s : Shared} : ∀ (ps run : List (Sem Value × Sem Value)), run.length + ps.length < 17 → Goes w 0 s (forIn (ps.map itm) ((main, run) : Acc) ddP.1.1) (main, run ++ ps) s := by
  intro ps
  induction ps with
  | nil => intro run _; rw [List.map_nil, List.forIn_nil, List.append_nil]; exact goes_pure'
  | cons p ps ih =>
    intro run hl
    rw [List.map_cons, List.forIn_cons, flP.2.1, if_neg (by simp only [List.length_append, List.length_cons, List.length_nil, beq_iff_eq] at hl ⊢; omega)]
    refine goes_le (c := 0 + 0) ?_ (Nat.le_refl _)
    refine goes_bind' goes_pure' ?_
    have := ih (run ++ [p]) (by simp only [List.length_append, List.length_cons, List.length_nil] at hl ⊢; omega)
    simpa using this
theorem ents_len : ∀ (qs : List (Int × Str)) (t : Nat), (ents qs t).length = qs.length
  | [], _ => rfl
  | q :: r, t => by rw [ents, List.length_cons, List.length_cons, ents_len r]
theorem ents_hash : ∀ (qs : List (Int × Str)) (t : Nat), (ents qs t).map (·.hash) = qs.map (·.1)
  | [], _ => rfl
  | q :: r, t => by rw [ents, List.map_cons, List.map_cons, ents_hash r]
theorem ents_int (qs : List (Int × Str)) : ∀ (t : Nat), ∀ e ∈ ents qs t, ∃ k u, e.key = .int k u := by
  induction qs with
  | nil => intro t e he; exact absurd (show e ∈ [] from he) List.not_mem_nil
  | cons q r ih =>
    intro t e he
    rw [ents] at he
    rcases List.mem_cons.mp he with rfl | he
    · exact ⟨_, _, rfl⟩
    · exact ih _ _ he
theorem ents_app : ∀ (a b : List (Int × Str)) (t : Nat), ents (a ++ b) t = ents a t ++ ents b (t + 3 * a.length)
  | [], b, t => rfl
  | q :: r, b, t => by
    rw [List.cons_append, ents, ents, ents_app r b, List.length_cons, List.cons_append, show t + 3 + 3 * r.length = t + 3 * (r.length + 1) by omega]
theorem entsS_len : ∀ (qs : List (Int × Str)) (t : Nat), (entsS qs t).length = qs.length
  | [], _ => rfl
  | q :: r, t => by rw [entsS, List.length_cons, List.length_cons, entsS_len r]
theorem entsS_hash : ∀ (qs : List (Int × Str)) (t : Nat), (entsS qs t).map (·.hash) = qs.map (·.1)
  | [], _ => rfl
  | q :: r, t => by rw [entsS, List.map_cons, List.map_cons, entsS_hash r]
theorem entsS_int (qs : List (Int × Str)) : ∀ (t : Nat), ∀ e ∈ entsS qs t, ∃ k u, e.key = .int k u := by
  induction qs with
  | nil => intro t e he; exact absurd (show e ∈ [] from he) List.not_mem_nil
  | cons q r ih =>
    intro t e he
    rw [entsS] at he
    rcases List.mem_cons.mp he with rfl | he
    · exact ⟨_, _, rfl⟩
    · exact ih _ _ he
theorem rise_of : ∀ {qs : List (Int × Str)}, (qs.map (·.1)).Pairwise (· < ·) → Rise [] qs
  | [], _ => trivial
  | q :: r, h => by
    rw [List.map_cons, List.pairwise_cons] at h
    exact ⟨fun _ he => (nomatch he), fun p hp => h.1 _ (List.mem_map_of_mem hp), rise_of h.2⟩
/-- one run of seventeen, into the dict that stands -/
theorem goes_run {d : Addr} {n : Nat} {es : List DictEntry} {mid pre : List Obj} {ps : List (Sem Value × Sem Value)} {qs : List (Int × Str)} (h : Pairs w os ps qs) (hq : qs.length = 17) (hd : d = pre.length) (hb : Nat.ble 11 d = true)
    (hne : es ≠ []) (hlt : ∀ e ∈ es, ∀ q ∈ qs, e.hash < q.1) (hp' : (qs.map (·.1)).Pairwise (· < ·)) (hl : es.length < 1000) :
    Goes w 800 (St (pre ++ dOb ⟨es⟩ n :: mid) tk os) (flP.1 ps (some d)) (some d) (St (pre ++ dOb ⟨es ++ ents qs tk⟩ (n + 17) :: (mid ++ [dOb ⟨ents qs tk⟩ 17])) (tk + 51) os) := by
  obtain ⟨x, r, rfl⟩ : ∃ x r, ps = x :: r := by
    cases ps with
    | nil => have := h.length; rw [hq] at this; cases this
    | cons x r => exact ⟨x, r, rfl⟩
  rw [fl_some]
  have hlen : (pre ++ dOb ⟨es⟩ n :: mid).length = pre.length + 1 + mid.length := by rw [List.length_append, List.length_cons, Nat.add_assoc, Nat.add_comm 1]
  have hb' : Nat.ble 11 (pre.length + 1 + mid.length) = true := by
    rw [hd] at hb
    exact Nat.ble_eq_true_of_le (Nat.le_trans (Nat.le_of_ble_eq_true hb) (by omega))
  have e1 := goes_sub (w := w) (os := os) (tk := tk) (L := pre ++ dOb ⟨es⟩ n :: mid) h (rise_of hp') (by omega) (by omega) (by rw [hlen]; exact hb')
  rw [hlen, hq] at e1
  have ea : (pre ++ dOb ⟨es⟩ n :: mid) ++ [dOb ⟨ents qs tk⟩ 17] = pre ++ dOb ⟨es⟩ n :: (mid ++ [dOb ⟨ents qs tk⟩ 17]) := by simp
  rw [ea] at e1
  refine goes_le (c := (20 * 17 + 5) + ((20 * 17 + 20) + 0)) ?_ (by decide)
  refine goes_bind' (goes_holding e1) (goes_bind' (a := ()) (goes_onRaise (goes_holding ?_)) goes_pure')
  have e2 := goes_merge (w := w) (os := os) (tk := tk + 3 * 17) (d := d) (a := pre.length + 1 + mid.length) (m := 17) (n := n) (es := es) (es' := ents qs tk) (mid := mid) (pre := pre) hd hb rfl hne (ents_int _ _)
    (fun e he x hx => by
      have : x.hash ∈ (ents qs tk).map (·.hash) := List.mem_map_of_mem hx
      rw [ents_hash] at this
      obtain ⟨q, hq, e'⟩ := List.mem_map.mp this
      rw [← e']; exact hlt e he q hq) (by rw [ents_hash]; exact hp') (by rw [ents_len, hq, sizeLine_eq]; omega) (by
        have : 11 ≤ pre.length + 1 + mid.length := Nat.le_of_ble_eq_true hb'
        show (pre.length + 1 + mid.length == sysModules) = false
        rw [beq_eq_false_iff_ne]
        intro e; rw [e] at this; exact absurd this (by decide))
  rw [ents_len, hq] at e2
  exact e2

/-- the short last run -/
theorem goes_last {d : Addr} {n : Nat} {es : List DictEntry} {mid pre : List Obj} {ps : List (Sem Value × Sem Value)} {qs : List (Int × Str)} (h : Pairs w os ps qs) (hq0 : qs ≠ []) (hq : qs.length ≤ 15) (hd : d = pre.length) (hb : Nat.ble 11 d = true)
    (hne : es ≠ []) (hlt : ∀ e ∈ es, ∀ q ∈ qs, e.hash < q.1) (hp' : (qs.map (·.1)).Pairwise (· < ·)) (hl : es.length < 1000) :
    Goes w 800 (St (pre ++ dOb ⟨es⟩ n :: mid) tk os) (flP.1 ps (some d)) (some d) (St (pre ++ dOb ⟨es ++ entsS qs tk⟩ (n + qs.length) :: (mid ++ [dOb ⟨entsS qs tk⟩ qs.length])) (tk + 2 * qs.length + qs.length) os) := by
  obtain ⟨x, r, rfl⟩ : ∃ x r, ps = x :: r := by
    cases ps with
    | nil => have := h.length; cases qs with
      | nil => exact absurd rfl hq0
      | cons => cases this
    | cons x r => exact ⟨x, r, rfl⟩
  rw [fl_some]
  have hlen : (pre ++ dOb ⟨es⟩ n :: mid).length = pre.length + 1 + mid.length := by rw [List.length_append, List.length_cons, Nat.add_assoc, Nat.add_comm 1]
  have hb' : Nat.ble 11 (pre.length + 1 + mid.length) = true := by
    rw [hd] at hb
    exact Nat.ble_eq_true_of_le (Nat.le_trans (Nat.le_of_ble_eq_true hb) (by omega))
  have e1 := goes_subS (w := w) (os := os) (tk := tk) (L := pre ++ dOb ⟨es⟩ n :: mid) h (rise_of hp') hq (by rw [hlen]; exact hb')
  rw [hlen] at e1
  have ea : (pre ++ dOb ⟨es⟩ n :: mid) ++ [dOb ⟨entsS qs tk⟩ qs.length] = pre ++ dOb ⟨es⟩ n :: (mid ++ [dOb ⟨entsS qs tk⟩ qs.length]) := by simp
  rw [ea] at e1
  refine goes_le (c := (20 * qs.length + 5) + ((20 * qs.length + 20) + 0)) ?_ (by omega)
  refine goes_bind' (goes_holding e1) (goes_bind' (a := ()) (goes_onRaise (goes_holding ?_)) goes_pure')
  have e2 := goes_merge (w := w) (os := os) (tk := tk + 2 * qs.length + qs.length) (d := d) (a := pre.length + 1 + mid.length) (m := qs.length) (n := n) (es := es) (es' := entsS qs tk) (mid := mid) (pre := pre) hd hb rfl hne (entsS_int _ _)
    (fun e he x hx => by
      have : x.hash ∈ (entsS qs tk).map (·.hash) := List.mem_map_of_mem hx
      rw [entsS_hash] at this
      obtain ⟨q, hq, e'⟩ := List.mem_map.mp this
      rw [← e']; exact hlt e he q hq) (by rw [entsS_hash]; exact hp') (by rw [entsS_len, sizeLine_eq]; omega) (by
        have : 11 ≤ pre.length + 1 + mid.length := Nat.le_of_ble_eq_true hb'
        show (pre.length + 1 + mid.length == sysModules) = false
        rw [beq_eq_false_iff_ne]
        intro e; rw [e] at this; exact absurd this (by decide))
  rw [entsS_len] at e2
  exact e2
/-- the sub-dicts of the runs -/
noncomputable def subsOf : List (List (Int × Str)) → Nat → List Obj
  | [], _ => []
  | qs :: r, t => dOb ⟨ents qs t⟩ 17 :: subsOf r (t + 51)
inductive Runs17 (w : World) (os : OsState) : List (List (Sem Value × Sem Value)) → List (List (Int × Str)) → Prop
  | nil : Runs17 w os [] []
  | cons {p q ps qs} : Pairs w os p q → q.length = 17 → Runs17 w os ps qs → Runs17 w os (p :: ps) (q :: qs)
theorem goes_runs {d : Addr} {pre : List Obj} (hd : d = pre.length) (hb : Nat.ble 11 d = true) : ∀ {pss qss}, Runs17 w os pss qss → ∀ (es : List DictEntry) (n tk : Nat) (mid : List Obj) (rest : List (Option (Sem Value) × Sem Value)) (b : Acc) (s' : Shared) (c : Nat),
    es ≠ [] → (∀ e ∈ es, ∀ q ∈ qss.flatten, e.hash < q.1) → (qss.flatten.map (·.1)).Pairwise (· < ·) → es.length + qss.flatten.length < 1000 →
    Goes w c (St (pre ++ dOb ⟨es ++ ents qss.flatten tk⟩ (n + qss.flatten.length) :: (mid ++ subsOf qss tk)) (tk + 3 * qss.flatten.length) os) (forIn rest ((some d, []) : Acc) ddP.1.1) b s' →
    Goes w (800 * qss.length + c) (St (pre ++ dOb ⟨es⟩ n :: mid) tk os) (forIn (pss.flatten.map itm ++ rest) ((some d, []) : Acc) ddP.1.1) b s' := by
  intro pss qss h
  induction h with
  | nil =>
    intro es n tk mid rest b s' c _ _ _ _ h
    simpa [ents, subsOf] using h
  | @cons p q ps qs hp hq _ ih =>
    intro es n tk mid rest b s' c hne hlt hpw hl h
    rw [List.flatten_cons, List.map_append, List.append_assoc]
    rw [List.flatten_cons, List.map_append, List.pairwise_append] at hpw
    rw [List.flatten_cons, List.length_append, hq] at hl
    have e1 := goes_run (w := w) (os := os) (tk := tk) (mid := mid) (n := n) hp hq hd hb hne (fun e he x hx => hlt e he x (by rw [List.flatten_cons]; exact List.mem_append_left _ hx)) hpw.1 (by omega)
    refine goes_le (c := 800 + (800 * qs.length + c)) ?_ (by rw [List.length_cons]; omega)
    refine goes_collect p [] (by rw [hp.length, hq]; rfl) (fun e => by rw [e] at hp; have := hp.length; rw [hq] at this; cases this) (by rw [List.nil_append]; exact e1) ?_
    refine ih (es ++ ents q tk) (n + 17) (tk + 51) (mid ++ [dOb ⟨ents q tk⟩ 17]) rest b s' c (by simp [hne]) (fun e he x hx => ?_) hpw.2.1 (by rw [List.length_append, ents_len, hq]; omega) ?_
    · rcases List.mem_append.mp he with he | he
      · exact hlt e he x (by rw [List.flatten_cons]; exact List.mem_append_right _ hx)
      · have : e.hash ∈ (ents q tk).map (·.hash) := List.mem_map_of_mem he
        rw [ents_hash] at this
        exact hpw.2.2 _ this _ (List.mem_map_of_mem hx)
    · have e2 : es ++ ents q tk ++ ents qs.flatten (tk + 51) = es ++ ents (q ++ qs.flatten) tk := by rw [ents_app, hq, List.append_assoc]
      have e3 : mid ++ [dOb ⟨ents q tk⟩ 17] ++ subsOf qs (tk + 51) = mid ++ subsOf (q :: qs) tk := by rw [subsOf, List.append_assoc]; rfl
      rw [e2, e3]
      rw [List.flatten_cons, List.length_append, hq] at h
      rw [show n + 17 + qs.flatten.length = n + (17 + qs.flatten.length) by omega, show tk + 51 + 3 * qs.flatten.length = tk + 3 * (17 + qs.flatten.length) by omega]
      exact h
end
end Mine

namespace Mine
section
variable {w : World} {α : Type} {tk : Nat} {os : OsState}
theorem goes_display {L : List Obj} {p0 p2 : List (Sem Value × Sem Value)} {q0 q2 : List (Int × Str)} {pss qss} (h0 : Pairs w os p0 q0) (hq : q0.length = 17) (h1 : Runs17 w os pss qss) (h2 : Pairs w os p2 q2) (hn2 : q2 ≠ []) (hq2 : q2.length ≤ 15) (hb : Nat.ble 11 L.length = true)
    (hpw : ((q0 ++ qss.flatten ++ q2).map (·.1)).Pairwise (· < ·)) (hl : 17 + qss.flatten.length < 900) :
    Goes w (800 * qss.length + 2000) (St L tk os) (dictDisplay ((p0 ++ pss.flatten ++ p2).map itm)) (.ref L.length)
      (St (L ++ dOb ⟨ents (q0 ++ qss.flatten) tk ++ entsS q2 (tk + 51 + 3 * qss.flatten.length)⟩ (17 + qss.flatten.length + q2.length) :: (subsOf qss (tk + 51) ++ [dOb ⟨entsS q2 (tk + 51 + 3 * qss.flatten.length)⟩ q2.length])) (tk + 51 + 3 * qss.flatten.length + 2 * q2.length + q2.length) os) := by
  rw [ddP.2]
  obtain ⟨x, r, rfl⟩ : ∃ x r, p0 = x :: r := by
    cases p0 with
    | nil => have := h0.length; rw [hq] at this; cases this
    | cons x r => exact ⟨x, r, rfl⟩
  rw [List.map_append, List.map_append, List.pairwise_append, List.pairwise_append] at hpw
  obtain ⟨⟨w1, w2, w3⟩, w4, w5⟩ := hpw
  have e0 := goes_sub (w := w) (os := os) (tk := tk) (L := L) h0 (rise_of w1) (by omega) (by omega) hb
  rw [hq] at e0
  have hlen : ents q0 tk ≠ [] := fun e => by have := ents_len q0 tk; rw [e, hq] at this; cases this
  have hmem : ∀ e ∈ ents q0 tk, e.hash ∈ q0.map (·.1) := fun e he => by
    have : e.hash ∈ (ents q0 tk).map (·.hash) := List.mem_map_of_mem he
    rwa [ents_hash] at this
  have ne2 : ¬ p2 = [] := fun e => by have := h2.length; rw [e] at this; exact hn2 (List.length_eq_zero_iff.mp this.symm)
  refine goes_le (c := ((20 * 17 + 5) + 0 + (800 * qss.length + 0)) + (800 + 0)) ?_ (by omega)
  refine goes_bind (a := ((some L.length, p2) : Acc)) (s₁ := St (L ++ dOb ⟨ents (q0 ++ qss.flatten) tk⟩ (17 + qss.flatten.length) :: subsOf qss (tk + 51)) (tk + 51 + 3 * qss.flatten.length) os) ?_ ?_
  · rw [List.map_append, List.map_append, List.append_assoc]
    refine goes_collect (x :: r) [] (by rw [h0.length, hq]; rfl) (by simp) (main' := some L.length) (by rw [List.nil_append, fl_none]; exact goes_bind' e0 goes_pure') ?_
    refine goes_runs rfl hb h1 (ents q0 tk) 17 (tk + 3 * 17) [] (p2.map itm) _ _ _ hlen (fun e he q hq => w3 _ (hmem e he) _ (List.mem_map_of_mem hq)) w2 (by rw [ents_len, hq]; omega) ?_
    have ea : ents q0 tk ++ ents qss.flatten (tk + 3 * 17) = ents (q0 ++ qss.flatten) tk := by rw [ents_app, hq]
    rw [ea, List.nil_append]
    have := goes_few (w := w) (main := some L.length) (s := St (L ++ dOb ⟨ents (q0 ++ qss.flatten) tk⟩ (17 + qss.flatten.length) :: subsOf qss (tk + 51)) (tk + 51 + 3 * qss.flatten.length) os) p2 [] (by rw [List.length_nil, h2.length]; omega)
    rw [List.nil_append] at this
    exact this
  · rw [flP.2.2]
    have e2 := goes_last (w := w) (os := os) (tk := tk + 51 + 3 * qss.flatten.length) (mid := subsOf qss (tk + 51)) (pre := L) (n := 17 + qss.flatten.length) (es := ents (q0 ++ qss.flatten) tk) h2 hn2 hq2 rfl hb
      (fun e => by have := ents_len (q0 ++ qss.flatten) tk; rw [e, List.length_append, hq] at this; rw [List.length_nil] at this; omega)
      (fun e he q hq' => by
        have : e.hash ∈ (ents (q0 ++ qss.flatten) tk).map (·.hash) := List.mem_map_of_mem he
        rw [ents_hash, List.map_append] at this
        exact w5 _ this _ (List.mem_map_of_mem hq')) w4 (by rw [ents_len, List.length_append, hq]; omega)
    exact goes_bind' e2 goes_pure'
noncomputable def cut17 {α : Type} : Nat → List α → List (List α)
  | 0, _ => []
  | n + 1, l => l.take 17 :: cut17 n (l.drop 17)
theorem cut17_flat {α : Type} : ∀ (n : Nat) (l : List α), (cut17 n l).flatten = l.take (17 * n)
  | 0, l => by simp [cut17]
  | n + 1, l => by
    rw [cut17, List.flatten_cons, cut17_flat n, show 17 * (n + 1) = 17 + 17 * n by omega, List.take_add]
theorem Pairs.take {ps qs} (h : Pairs w os ps qs) : ∀ n, Pairs w os (ps.take n) (qs.take n) := by
  induction h with
  | nil => intro n; rw [List.take_nil, List.take_nil]; exact .nil
  | cons hx _ ih => intro n; cases n with
    | zero => exact .nil
    | succ n => exact .cons hx (ih n)
theorem Pairs.drop {ps qs} (h : Pairs w os ps qs) : ∀ n, Pairs w os (ps.drop n) (qs.drop n) := by
  induction h with
  | nil => intro n; rw [List.drop_nil, List.drop_nil]; exact .nil
  | cons hx h ih => intro n; cases n with
    | zero => exact .cons hx h
    | succ n => exact ih n
theorem Pairs.cut : ∀ (n : Nat) {ps qs}, Pairs w os ps qs → 17 * n ≤ qs.length → Runs17 w os (cut17 n ps) (cut17 n qs)
  | 0, _, _, _, _ => .nil
  | n + 1, _, _, h, hl => .cons (h.take 17) (by rw [List.length_take]; omega) (Pairs.cut n (h.drop 17) (by rw [List.length_drop]; omega))

/-- constants alone -/
noncomputable def okPair : Option Expr → Expr → Bool
  | some (.Constant (.int i) _ _), .Constant (.str _) _ _ => match i with
    | .ofNat n => Nat.blt n 1000000
    | .negSucc _ => false
  | _, _ => false
noncomputable def okPairs : List (Option Expr) → List Expr → Bool
  | [], [] => true
  | k :: ks, v :: vs => okPair k v && okPairs ks vs
  | _, _ => false
noncomputable def dataOf : List (Option Expr) → List Expr → List (Int × Str)
  | k :: ks, v :: vs => (cInt k, cStr v) :: dataOf ks vs
  | _, _ => []
noncomputable def treesOf (dp : Pos) : List (Option Expr) → List Expr → List (Sem Value × Sem Value)
  | some k :: ks, v :: vs => (eval k env0, do let x ← eval v env0; standAt dp; pure x) :: treesOf dp ks vs
  | _, _ => []
theorem hash_small {n : Nat} (h : Nat.blt n 1000000 = true) : hashInt (Int.ofNat n) = Int.ofNat n := by
  have h' : n < 1000000 := Nat.le_of_ble_eq_true h
  have e : rawHash (Int.ofNat n) = Int.ofNat n := by
    unfold rawHash
    have e1 : (((Int.ofNat n).natAbs % (2 ^ 61 - 1) : Nat) : Int) = Int.ofNat n := by
      show (((n : Nat) % (2 ^ 61 - 1) : Nat) : Int) = ((n : Nat) : Int)
      rw [Nat.mod_eq_of_lt (by omega)]
    have e2 : ¬ (Int.ofNat n < 0) := fun q => absurd q (by show ¬ ((n : Int) < 0); omega)
    have e3 : ¬ ((Int.ofNat n == -1) = true) := fun q => by
      have : ((n : Nat) : Int) = -1 := beq_iff_eq.mp q
      omega
    show (if ((if Int.ofNat n < 0 then -(((Int.ofNat n).natAbs % (2 ^ 61 - 1) : Nat) : Int) else (((Int.ofNat n).natAbs % (2 ^ 61 - 1) : Nat) : Int)) == -1) = true then -2 else (if Int.ofNat n < 0 then -(((Int.ofNat n).natAbs % (2 ^ 61 - 1) : Nat) : Int) else (((Int.ofNat n).natAbs % (2 ^ 61 - 1) : Nat) : Int))) = _
    rw [e1, if_neg e2, if_neg e3]
  have e3 : ¬ ((Int.ofNat n == -1) = true) := fun q => by
    have : ((n : Nat) : Int) = -1 := beq_iff_eq.mp q
    omega
  unfold hashInt
  rw [e, if_neg e3]
theorem pairs_of {dp : Pos} : ∀ {ks : List (Option Expr)} {vs : List Expr}, okPairs ks vs = true → Pairs w os (treesOf dp ks vs) (dataOf ks vs)
  | [], [], _ => .nil
  | [], _ :: _, h => by cases h
  | _ :: _, [], h => by cases h
  | k :: ks, v :: vs, h => by
    obtain ⟨h1, h2⟩ := Bool.and_eq_true_iff.mp h
    unfold okPair at h1
    split at h1
    · rename_i i _ _ s _ _
      split at h1
      · refine .cons ⟨fun L tk => ?_, fun L tk => ?_, hash_small h1⟩ (pairs_of h2)
        · exact goes_le (goes_fresh goes_pure) (by decide)
        · exact goes_le (goes_fresh (goes_at goes_pure)) (by decide)
      · cases h1
    · cases h1
theorem items_of {dp : Pos} : ∀ {ks : List (Option Expr)} {vs : List Expr}, okPairs ks vs = true → (evalEachOpt ks env0).zip ((evalEach vs env0).map fun v => do let x ← v; standAt dp; pure x) = (treesOf dp ks vs).map itm
  | [], [], _ => rfl
  | [], _ :: _, h => by cases h
  | _ :: _, [], h => by cases h
  | k :: ks, v :: vs, h => by
    obtain ⟨h1, h2⟩ := Bool.and_eq_true_iff.mp h
    have ih := items_of (dp := dp) h2
    cases k with
    | none => cases h1
    | some k =>
      show (evalOpt (some k) env0, _) :: _ = _
      rw [treesOf, List.map_cons, ← ih]
      rfl
noncomputable def risingB : List (Int × Str) → Bool
  | [] => true
  | q :: r => (match r with | [] => true | p :: _ => decide (q.1 < p.1)) && risingB r
theorem rising_of : ∀ {l : List (Int × Str)}, risingB l = true → (l.map (·.1)).Pairwise (· < ·)
  | [], _ => .nil
  | [q], _ => List.pairwise_singleton ..
  | q :: p :: r, h => by
    obtain ⟨h1, h2⟩ := Bool.and_eq_true_iff.mp h
    have ih := rising_of h2
    have h1' : q.1 < p.1 := of_decide_eq_true h1
    have ih' := List.pairwise_cons.mp ih
    rw [List.map_cons]
    refine List.Pairwise.cons (fun a ha => ?_) ih
    rw [List.map_cons] at ha
    rcases List.mem_cons.mp ha with rfl | ha
    · exact h1'
    · exact Int.lt_trans h1' (ih'.1 a ha)
end
noncomputable def dPos : Stmt → Pos
  | .Assign _ (.Dict _ _ p) _ => p
  | _ => default
noncomputable def sPos : Stmt → Pos
  | .Assign _ _ p => p
  | _ => default
theorem stm13 : stm 13 = .Assign [.Name (Str.ofString "b3_exceptions") ⟨129, 0, 129, 13⟩] (.Dict (dKeys (stm 13)) (dVals (stm 13)) (dPos (stm 13))) (sPos (stm 13)) := by kernel_rfl
noncomputable abbrev D3 : List (Int × Str) := dataOf (dKeys (stm 13)) (dVals (stm 13))
theorem ok13 : okPairs (dKeys (stm 13)) (dVals (stm 13)) = true := by kernel_rfl
theorem rise13 : risingB D3 = true := by kernel_rfl
theorem len13 : D3.length = 650 := by kernel_rfl
end Mine

namespace Mine
noncomputable section
noncomputable def LH (P : Params) : List Obj := TG P ++ (TH P).drop 147
theorem absG (P : Params) (os : OsState) : (Sh (TG P) 147 428 os).abs = St (TG P) 428 os := by kernel_rfl
theorem absL (P : Params) (os : OsState) : (Sh (LH P) 186 2378 os).abs = St (LH P) 2378 os := by kernel_rfl
theorem lenG (P : Params) : (TG P).length = 147 := by kernel_rfl
noncomputable def LD (P : Params) : List Obj := TG P ++ dOb ⟨ents (D3.take 17 ++ (cut17 37 (D3.drop 17)).flatten) 428 ++ entsS (D3.drop 646) 2366⟩ 650 :: (subsOf (cut17 37 (D3.drop 17)) 479 ++ [dOb ⟨entsS (D3.drop 646) 2366⟩ 4])
theorem LD_eq (P : Params) : LD P = LH P := by kernel_rfl
theorem goes_dict13 {w : World} {os : OsState} : Goes w 40000 (St (TG w.params) 428 os) (eval (.Dict (dKeys (stm 13)) (dVals (stm 13)) (dPos (stm 13))) env0) (.ref 147) (St (LH w.params) 2378 os) := by
  have hp := pairs_of (w := w) (os := os) (dp := dPos (stm 13)) ok13
  have hi := items_of (dp := dPos (stm 13)) ok13
  have hl := len13
  have hlp : (treesOf (dPos (stm 13)) (dKeys (stm 13)) (dVals (stm 13))).length = 650 := hp.length.trans hl
  have hr := rising_of rise13
  revert hi hlp hp
  show (∀ (_ : Pairs w os (treesOf (dPos (stm 13)) (dKeys (stm 13)) (dVals (stm 13))) D3) (_ : _ = _) (_ : _ = 650), _)
  generalize treesOf (dPos (stm 13)) (dKeys (stm 13)) (dVals (stm 13)) = ps
  intro hp hi hlp
  refine goes_le (c := 1 + (800 * 37 + 2000)) ?_ (by decide)
  refine goes_at ?_
  show Goes w _ _ (dictDisplay ((evalEachOpt (dKeys (stm 13)) env0).zip ((evalEach (dVals (stm 13)) env0).map fun v => do let x ← v; standAt (dPos (stm 13)); pure x))) _ _
  rw [hi]
  have sp : ∀ {α : Type} (l : List α), l.length = 650 → l = l.take 17 ++ (cut17 37 (l.drop 17)).flatten ++ l.drop 646 := fun l h => by
    rw [cut17_flat, ← List.take_add, List.take_append_drop]
  have hf : (cut17 37 (D3.drop 17)).flatten.length = 629 := by rw [cut17_flat, List.length_take, List.length_drop, hl]; rfl
  have e := goes_display (w := w) (os := os) (tk := 428) (L := TG w.params) (hp.take 17) (by rw [List.length_take, hl]; rfl) (Pairs.cut 37 (hp.drop 17) (by rw [List.length_drop, hl]; decide)) (hp.drop 646)
    (fun q => by have := congrArg List.length q; rw [List.length_drop, hl] at this; cases this) (by rw [List.length_drop, hl]; decide) (by rw [lenG]; rfl) (by rw [← sp D3 hl]; exact hr) (by rw [hf]; decide)
  rw [← sp ps hlp, lenG, hf, List.length_drop, hl] at e
  have e2 : (TG w.params ++ dOb ⟨ents (D3.take 17 ++ (cut17 37 (D3.drop 17)).flatten) 428 ++ entsS (D3.drop 646) (428 + 51 + 3 * 629)⟩ (17 + 629 + (650 - 646)) :: (subsOf (cut17 37 (D3.drop 17)) (428 + 51) ++ [dOb ⟨entsS (D3.drop 646) (428 + 51 + 3 * 629)⟩ (650 - 646)])) = LH w.params := LD_eq w.params
  rw [e2] at e
  have hc : (cut17 37 (D3.drop 17)).length = 37 := rfl
  rw [hc] at e
  exact e
theorem goes_of_seg {w : World} {x : Sem Flow} {n : Nat} {s s' : Shared} {f : Flow} {p' : Pos} (h : ∀ gd lv pos, segRun treeTable P0 w 11 ann0 1 n s ⟨x.wrap doneF deadEnd gd lv, cod0, pos, B0⟩ = some (f, s', cod0, p')) : Goes w n s x f s' := fun K H gd lv pos => by
  obtain ⟨a, ha, hN⟩ := seg_top (res := id) (K' := K) (H' := H) (gd := gd) (lv := lv) (B := B0) rfl n s ⟨x.wrap doneF deadEnd gd lv, cod0, pos, B0⟩ ⟨x.wrap K H gd lv, cod0, pos, B0⟩ _ _ _ _ ⟨rfl, rfl, .inl ⟨rfl, rfl, _, rfl, rfl⟩⟩ (h gd lv pos)
  obtain rfl : a = f := ha
  exact ⟨n, p', Nat.le_refl _, fun N r e => hN N r e⟩
noncomputable def bind13 : Sem Flow := (standAt ⟨129, 0, 129, 13⟩ >>= fun _ => bindName env0 (Str.ofString "b3_exceptions") (.ref 147) >>= fun _ => pure Flow.next)
theorem seg13 (w : World) (os : OsState) (gd : Bool → Bool) (lv : List Value → List Value) (pos : Pos) : segRunT treeTable P0 w 11 ann0 1 20 (Sh (LH w.params) 186 2378 os) ⟨bind13.wrap doneF deadEnd gd lv, cod0, pos, B0⟩ = some (.next, Sh (TH w.params) 186 2379 os, cod0, ⟨129, 0, 129, 13⟩) := by kernel_rfl
theorem sw13 : swapsWith (.Dict (dKeys (stm 13)) (dVals (stm 13)) (dPos (stm 13))) (some (.Name (Str.ofString "b3_exceptions") ⟨129, 0, 129, 13⟩)) (sPos (stm 13)).line env0 = pure false := by kernel_rfl
theorem goes_stm13 (w : World) (os : OsState) : Goes w 41000 (St (TG w.params) 428 os) (exec (stm 13) env0) .next (Sh (TH w.params) 186 2379 os).abs := by
  rw [stm13, exec_Assign_Name env0 _ _ _ _ sw13]
  refine goes_le (c := (1 + 0) + (40000 + 20)) ?_ (by decide)
  refine goes_bind' (x := standAt _) (a := ()) (goes_at goes_pure) ?_
  refine goes_bind' goes_dict13 ?_
  refine goes_of_seg (n := 20) (p' := ⟨129, 0, 129, 13⟩) fun gd lv pos => ?_
  rw [← absL]
  exact segRun_of (seg13 w os gd lv pos)
theorem pc13 (w : World) (os : OsState) (pos : Pos) (rest : List Stmt) : ∃ n p', n ≤ 41000 ∧ ∀ N r, topRun treeTable P0 w 11 ann0 N (Sh (TH w.params) 186 2379 os).abs (restOf rest env0 cod0 p' B0) = some r →
    topRun treeTable P0 w 11 ann0 (n + N) (Sh (TG w.params) 147 428 os).abs (restOf (stm 13 :: rest) env0 cod0 pos B0) = some r := by
  obtain ⟨n, p', hn, h⟩ := goes_stm13 w os (fun f => match f with | .next => (execs rest env0).wrap doneF (leaveH env0) id id | f => doneF f) (leaveH env0) id id pos
  refine ⟨n, p', hn, fun N r e => ?_⟩
  rw [absG]
  unfold restOf
  rw [execs_cons_wrap]
  exact h N r e
end
end Mine

namespace Mine
noncomputable section
noncomputable def PieceAt (w : World) (n : Nat) (l : List Stmt) (T : Params → List Obj) (n₁ t₁ : Nat) (p₁ : Pos) (T' : Params → List Obj) (n₂ t₂ : Nat) (p₂ : Pos) : Prop :=
  ∀ os : OsState, segRunT treeTable P0 w 11 ann0 1 n (Sh (T w.params) n₁ t₁ os) (piecesOf l env0 cod0 p₁ B0) = some (.next, Sh (T' w.params) n₂ t₂ os, cod0, p₂)
theorem pcC (w : World) : PieceAt w 39 [stm 0, stm 1] TA 15 187 ⟨0, 0, 0, 0⟩ TC 22 196 ⟨4, 0, 4, 8⟩ := fun os => by kernel_rfl
theorem pcD (w : World) : PieceAt w 489 [stm 2] TC 22 196 ⟨4, 0, 4, 8⟩ TD 88 292 ⟨5, 0, 51, 16⟩ := by
  refine byRow2 "special-get-raises" (P := fun w => PieceAt w 489 [stm 2] TC 22 196 ⟨4, 0, 4, 8⟩ TD 88 292 ⟨5, 0, 51, 16⟩) (fun w os => ?_) (fun w os => ?_) w
  · rw [PySem.W.Fast.te10110043849684766642, PySem.W.Fast.te14364793385576792824]
    kernel_rfl
  · rw [PySem.W.Fast.te10110043849684766642, PySem.W.Fast.te14364793385576792824]
    kernel_rfl
theorem pcE (w : World) : PieceAt w 234 [stm 3, stm 4, stm 5, stm 6, stm 7, stm 8, stm 9, stm 10] TD 88 292 ⟨5, 0, 51, 16⟩ TE 129 361 ⟨125, 0, 125, 8⟩ := fun os => by kernel_rfl
theorem pcF (w : World) : PieceAt w 999 [stm 11] TE 129 361 ⟨125, 0, 125, 8⟩ TF 140 421 ⟨126, 0, 126, 6⟩ := by
  refine byRow2 "special-get-raises" (P := fun w => PieceAt w 999 [stm 11] TE 129 361 ⟨125, 0, 125, 8⟩ TF 140 421 ⟨126, 0, 126, 6⟩) (fun w os => ?_) (fun w os => ?_) w
  · rw [PySem.W.Fast.te10110043849684766642, PySem.W.Fast.te14364793385576792824]
    kernel_rfl
  · rw [PySem.W.Fast.te10110043849684766642, PySem.W.Fast.te14364793385576792824]
    kernel_rfl
theorem pcG (w : World) : PieceAt w 30 [stm 12] TF 140 421 ⟨126, 0, 126, 6⟩ TG 147 428 ⟨127, 0, 128, 30⟩ := fun os => by kernel_rfl
theorem pcZ (w : World) (pos : Pos) : PieceAt w 217 [stm 14, stm 15, stm 16, stm 17, stm 18, stm 19, stm 20, stm 21] TH 186 2379 pos TZ 231 2438 ⟨157, 0, 192, 15⟩ := fun os => by kernel_rfl
theorem preA (w : World) (os : OsState) : topGo treeTable P0 w 11 ann0 12 ⟨boot_heap w.params, Array.mk [], boot_drawn, boot_toks, os⟩ (topStub P0) = some ((Sh (TA w.params) 15 187 os).abs, ⟨denote treeTable cod0, cod0, ⟨0, 0, 0, 0⟩, B0⟩) := by kernel_rfl
theorem blkA (w : World) (os : OsState) : segRun treeTable P0 w 11 ann0 1 1 (Sh (TA w.params) 15 187 os).abs (blockOf (behindTheImports P0) env0 cod0 ⟨0, 0, 0, 0⟩ B0) = some (.next, (Sh (TA w.params) 15 187 os).abs, cod0, ⟨0, 0, 0, 0⟩) := by kernel_rfl
theorem body0 : behindTheImports P0 = [stm 0, stm 1] ++ ([stm 2] ++ ([stm 3, stm 4, stm 5, stm 6, stm 7, stm 8, stm 9, stm 10] ++ ([stm 11] ++ ([stm 12] ++ (stm 13 :: ([stm 14, stm 15, stm 16, stm 17, stm 18, stm 19, stm 20, stm 21] ++ [])))))) := by kernel_rfl
theorem finZ (w : World) (os : OsState) : topRun treeTable P0 w 11 ann0 2 (Sh (TZ w.params) 231 2438 os).abs ⟨doneF .next, cod0, ⟨157, 0, 192, 15⟩, B0⟩ = some (Sh (TZ w.params) 231 2438 os).abs := by kernel_rfl
theorem absZ (P : Params) (os : OsState) : (Sh (TZ P) 231 2438 os).abs = St (TZ P) 2438 os := by kernel_rfl
theorem run0 (w : World) (os : OsState) : topRun treeTable P0 w 11 ann0 50000 ⟨boot_heap w.params, Array.mk [], boot_drawn, boot_toks, os⟩ (topStub P0) = some (St (TZ w.params) 2438 os) := by
  obtain ⟨n, p', hn, h13⟩ := pc13 w os ⟨127, 0, 128, 30⟩ ([stm 14, stm 15, stm 16, stm 17, stm 18, stm 19, stm 20, stm 21] ++ [])
  have k := piece_nil (env := env0) (c := cod0) (finZ w os)
  have k := piece_app (segRun_of (pcZ w p' os)) k
  have k := h13 _ _ k
  have k := piece_app (segRun_of (pcG w os)) k
  have k := piece_app (segRun_of (pcF w os)) k
  have k := piece_app (segRun_of (pcE w os)) k
  have k := piece_app (segRun_of (pcD w os)) k
  have k := piece_app (segRun_of (pcC w os)) k
  rw [← body0] at k
  have k := piece_block (blkA w os) k
  have k := go_top (preA w os) k
  rw [absZ] at k
  have k := topRun_mono (50000 - (12 + (1 + (39 + (489 + (234 + (999 + (30 + (n + (217 + 2)))))))))) _ _ _ _ k
  rwa [show 12 + (1 + (39 + (489 + (234 + (999 + (30 + (n + (217 + 2)))))))) + (50000 - (12 + (1 + (39 + (489 + (234 + (999 + (30 + (n + (217 + 2)))))))))) = 50000 by omega] at k
end
end Mine

namespace Mine
noncomputable section
noncomputable def q0 : Program := { P0 with main := { P0.main with body := [stm 21] } }
noncomputable def lo0 : List Str := [Str.ofString "_wall", Str.ofString "Whitespace", Str.ofString "_int2digits", Str.ofString "_digits2int", Str.ofString "bisect_right", Str.ofString "insort_left", Str.ofString "bisect_left", Str.ofString "b1_set", Str.ofString "in_table_b1", Str.ofString "b3_exceptions", Str.ofString "map_table_b3", Str.ofString "_law_word", Str.ofString "_law_typed", Str.ofString "_law_walked", Str.ofString "_law_kept", Str.ofString "_law_counts"]
noncomputable abbrev Xt0 (s : Shared) : Bool := xlAt q0 [] s && recOk [] s
theorem open0 : ∀ w : World, (fencedOpening treeTable P0 w 60000).map (fun s => (s.heap, s.gens, s.drawn, s.toks)) = some (boot_heap w.params, Array.mk [], boot_drawn, boot_toks) :=
  boot_open (by kernel_rfl) (by decide) (fun s => by kernel_rfl)
theorem size0 : ∀ w : World, ((boot_heap w.params).isNs mainGlobals && (Array.mk ([] : List GenState)).size == 0, (boot_heap w.params).objs.size, (boot_heap w.params).nsMap mainGlobals "__annotations__") = (true, 11, ann0) := fun w => by kernel_rfl
theorem look1 (w : World) (os : OsState) : (staticsOk (importedModules P0.main.body) (boot_heap w.params) (hp (TZ w.params)) && namesBound P0 (hp (TZ w.params)) && gensDone (St (TZ w.params) 2438 os) && laidKept (boot_heap w.params) (hp (TZ w.params))) = true := by kernel_rfl
theorem look2 (w : World) (os : OsState) : openSeen q0 lo0 (importedModules P0.main.body) Xt0 true (St (TZ w.params) 2438 os) = openGood q0 lo0 := by
  kernel_rfl
theorem left0 : LeftO P0 q0 lo0 Xt0 (fun s => (s.heap.objs, s.toks)) (fun w => ((⟨TZ w.params⟩ : Array Obj), 2438)) 60000 :=
  LeftO.of_pieces (H₀ := boot_heap) (H₁ := fun P => hp (TZ P)) (m₀ := 11) (ann := ann0) (M := 50000) open0 size0 run0 (by decide) (fun w => funext fun os => by
    have e1 := look1 w os
    have e2 := look2 w os
    exact Prod.ext e1 (Prod.ext e2 rfl))
end
end Mine

namespace Mine
noncomputable def KT (P : Params) : Frag := (nat_lit 0, PySem.W.boot_o_0 P) :: (nat_lit 1, PySem.W.boot_o_1 P) :: (nat_lit 2, PySem.W.boot_o_2 P) :: (nat_lit 3, ob3Z P) :: (nat_lit 4, PySem.W.boot_o_4 P) :: (nat_lit 5, PySem.W.boot_o_5 P) :: (nat_lit 6, PySem.W.boot_o_6 P) :: (nat_lit 7, PySem.W.boot_o_7 P) :: (nat_lit 8, PySem.W.boot_o_8 P) :: (nat_lit 9, PySem.W.boot_o_9 P) :: (nat_lit 10, PySem.W.boot_o_10 P) :: (nat_lit 11, ob11A P) :: (nat_lit 12, ob12Z P) :: (nat_lit 13, ob13A P) :: (nat_lit 14, ob14A P) :: (nat_lit 15, ob15C P) :: (nat_lit 16, ob16C P) :: (nat_lit 17, ob17C P) :: (nat_lit 18, ob18C P) :: (nat_lit 19, ob19C P) :: (nat_lit 20, ob20C P) :: (nat_lit 21, ob21C P) :: (nat_lit 22, ob22D P) :: (nat_lit 23, ob23D P) :: (nat_lit 24, ob24D P) :: (nat_lit 25, ob25D P) :: (nat_lit 26, ob26D P) :: (nat_lit 27, ob27D P) :: (nat_lit 28, ob28D P) :: (nat_lit 29, ob29D P) :: (nat_lit 30, ob30D P) :: (nat_lit 31, ob31D P) :: (nat_lit 32, ob32D P) :: (nat_lit 33, ob33D P) :: (nat_lit 34, ob34D P) :: (nat_lit 35, ob35D P) :: (nat_lit 36, ob36D P) :: (nat_lit 37, ob37D P) :: (nat_lit 38, ob38D P) :: (nat_lit 39, ob39D P) :: (nat_lit 40, ob40D P) :: (nat_lit 41, ob41D P) :: (nat_lit 42, ob42D P) :: (nat_lit 43, ob43D P) :: (nat_lit 44, ob44D P) :: (nat_lit 45, ob45D P) :: (nat_lit 46, ob46D P) :: (nat_lit 47, ob47D P) :: (nat_lit 48, ob48D P) :: (nat_lit 49, ob49D P) :: (nat_lit 50, ob50D P) :: (nat_lit 51, ob51D P) :: (nat_lit 52, ob52D P) :: (nat_lit 53, ob53D P) :: (nat_lit 54, ob54D P) :: (nat_lit 55, ob55D P) :: (nat_lit 56, ob56D P) :: (nat_lit 57, ob57D P) :: (nat_lit 58, ob58D P) :: (nat_lit 59, ob59D P) :: (nat_lit 60, ob60D P) :: (nat_lit 61, ob61D P) :: (nat_lit 62, ob62D P) :: (nat_lit 63, ob63D P) :: (nat_lit 64, ob64D P) :: (nat_lit 65, ob65D P) :: (nat_lit 66, ob66D P) :: (nat_lit 67, ob67D P) :: (nat_lit 68, ob68D P) :: (nat_lit 69, ob69D P) :: (nat_lit 70, ob70D P) :: (nat_lit 71, ob71D P) :: (nat_lit 72, ob72D P) :: (nat_lit 73, ob73D P) :: (nat_lit 74, ob74D P) :: (nat_lit 75, ob75D P) :: (nat_lit 76, ob76D P) :: (nat_lit 77, ob77D P) :: (nat_lit 78, ob78D P) :: (nat_lit 79, ob79D P) :: (nat_lit 80, ob80D P) :: (nat_lit 81, ob81D P) :: (nat_lit 82, ob82D P) :: (nat_lit 83, ob83D P) :: (nat_lit 84, ob84D P) :: (nat_lit 85, ob85D P) :: (nat_lit 86, ob86D P) :: (nat_lit 87, ob87D P) :: (nat_lit 88, ob88E P) :: (nat_lit 90, ob90E P) :: (nat_lit 91, ob91E P) :: (nat_lit 92, ob92E P) :: (nat_lit 93, ob93E P) :: (nat_lit 94, ob94E P) :: (nat_lit 95, ob95E P) :: (nat_lit 97, ob97E P) :: (nat_lit 98, ob98E P) :: (nat_lit 99, ob99E P) :: (nat_lit 100, ob100E P) :: (nat_lit 101, ob101E P) :: (nat_lit 102, ob102E P) :: (nat_lit 103, ob103E P) :: (nat_lit 104, ob104E P) :: (nat_lit 105, ob105E P) :: (nat_lit 106, ob106E P) :: (nat_lit 107, ob107E P) :: (nat_lit 108, ob108E P) :: (nat_lit 109, ob109E P) :: (nat_lit 110, ob110E P) :: (nat_lit 111, ob111E P) :: (nat_lit 112, ob112E P) :: (nat_lit 113, ob113E P) :: (nat_lit 114, ob114E P) :: (nat_lit 115, ob115E P) :: (nat_lit 116, ob116E P) :: (nat_lit 117, ob117E P) :: (nat_lit 118, ob118E P) :: (nat_lit 119, ob119E P) :: (nat_lit 120, ob120E P) :: (nat_lit 121, ob121E P) :: (nat_lit 122, ob122E P) :: (nat_lit 123, ob123E P) :: (nat_lit 124, ob124E P) :: (nat_lit 125, ob125E P) :: (nat_lit 126, ob126E P) :: (nat_lit 127, ob127E P) :: (nat_lit 128, ob128E P) :: (nat_lit 129, ob129F P) :: (nat_lit 130, ob130F P) :: (nat_lit 131, ob131F P) :: (nat_lit 132, ob132F P) :: (nat_lit 133, ob133F P) :: (nat_lit 134, ob134F P) :: (nat_lit 135, ob135F P) :: (nat_lit 136, ob136F P) :: (nat_lit 137, ob137F P) :: (nat_lit 138, ob138F P) :: (nat_lit 139, ob139F P) :: (nat_lit 140, ob140G P) :: (nat_lit 141, ob141G P) :: (nat_lit 142, ob142G P) :: (nat_lit 143, ob143G P) :: (nat_lit 144, ob144G P) :: (nat_lit 145, ob145G P) :: (nat_lit 146, ob146G P) :: (nat_lit 147, ob147H P) :: (nat_lit 186, ob186Z P) :: (nat_lit 187, ob187Z P) :: (nat_lit 188, ob188Z P) :: (nat_lit 189, ob189Z P) :: (nat_lit 190, ob190Z P) :: (nat_lit 191, ob191Z P) :: (nat_lit 192, ob192Z P) :: (nat_lit 193, ob193Z P) :: (nat_lit 194, ob194Z P) :: (nat_lit 195, ob195Z P) :: (nat_lit 196, ob196Z P) :: (nat_lit 197, ob197Z P) :: (nat_lit 198, ob198Z P) :: (nat_lit 199, ob199Z P) :: (nat_lit 200, ob200Z P) :: (nat_lit 201, ob201Z P) :: (nat_lit 202, ob202Z P) :: (nat_lit 203, ob203Z P) :: (nat_lit 204, ob204Z P) :: (nat_lit 205, ob205Z P) :: (nat_lit 206, ob206Z P) :: (nat_lit 207, ob207Z P) :: (nat_lit 208, ob208Z P) :: (nat_lit 209, ob209Z P) :: (nat_lit 210, ob210Z P) :: (nat_lit 211, ob211Z P) :: (nat_lit 212, ob212Z P) :: (nat_lit 213, ob213Z P) :: (nat_lit 214, ob214Z P) :: (nat_lit 215, ob215Z P) :: (nat_lit 216, ob216Z P) :: (nat_lit 217, ob217Z P) :: (nat_lit 218, ob218Z P) :: (nat_lit 219, ob219Z P) :: (nat_lit 220, ob220Z P) :: (nat_lit 221, ob221Z P) :: (nat_lit 222, ob222Z P) :: (nat_lit 223, ob223Z P) :: (nat_lit 224, ob224Z P) :: (nat_lit 225, ob225Z P) :: (nat_lit 226, ob226Z P) :: (nat_lit 227, ob227Z P) :: (nat_lit 228, ob228Z P) :: (nat_lit 229, ob229Z P) :: (nat_lit 230, ob230Z P) :: []
end Mine

namespace Mine
noncomputable def Kon (_ : OpenLaw) (_ : Params → Frag) (P : Prop) : Prop := P
theorem kon (R : OpenLaw) (K : Params → Frag) {P : Prop} (h : Kon R K P) : P := h
noncomputable abbrev Led := List (Addr × Obj)
noncomputable abbrev CL (w : World) (dd uu : Nat) (f : Addr) (vs : List Value) (news : Led) (Ret : Value → Led → Prop) : Prop :=
  ∀ (mean : ExcName → Option Value) (mg mb : Str → Option Value) (dp un : Nat) (gd : Option (List Code)) (cn : Str) (cs : Scope) (a : Addr) (ccd : Value) (cl : List (Str × Addr)) (outer : List Env) (A₀ : Around) (base h₀ : Heap) (L : Addr) (m : Str → Option Value) (s : Shared) (Q E : Value → Shared → Prop),
    Below A₀ base outer h₀ → Fr h₀ L s.heap m → (KT w.params).In h₀ → News h₀ L s.heap news → Top q0 (looseW q0 lo0) mean mg mb h₀ → cs.kind = .function →
    dp + dd < recursionLimit → un + uu < cLine →
    (∀ (v : Value) (news' : Led) (h' : Heap) (tk' : Nat), Ret v news' → Fr h₀ L h' m → News h₀ L h' news' → Q v { s with heap := h', toks := tk' }) →
    wpAny (model P0 w) (ktrTop dp un gd cn cs L a ccd cl outer) (call (.ref f) vs) Q E s
noncomputable def LW : List Str := [Str.ofString "f", Str.ofString "i", Str.ofString "l", Str.ofString "s", Str.ofString "t", Str.ofString "ff", Str.ofString "fi", Str.ofString "fl", Str.ofString "ffi", Str.ofString "ffl", Str.ofString "st", Str.ofString "ss"]
noncomputable def wordS (x : Int) : Str := LW.getD (x.fmod 12).toNat Str.empty
noncomputable def RStr (x : Str) (news : Led) : Value → Led → Prop := fun v nx => nx = news ∧ ∃ t, v = .str x t
noncomputable def RBool (x : Bool) (news : Led) : Value → Led → Prop := fun v nx => nx = news ∧ v = .bool x
noncomputable def RInt (x : Int) (news : Led) : Value → Led → Prop := fun v nx => nx = news ∧ ∃ t, v = .int x t
theorem RStr.mk {x y : Str} {t : Tok} {news : Led} (e : y = x := by rfl) : RStr x news (.str y t) news := ⟨rfl, t, by rw [e]⟩
theorem RBool.mk {x y : Bool} {news : Led} (e : y = x := by rfl) : RBool x news (.bool y) news := ⟨rfl, by rw [e]⟩
theorem RInt.mk {x y : Int} {t : Tok} {news : Led} (e : y = x := by rfl) : RInt x news (.int y t) news := ⟨rfl, t, by rw [e]⟩
theorem wordS_len (x : Int) : (wordS x).length ≤ 3 := KOpn.len_getD (by decide +kernel)
noncomputable def signsL : List Str := [Str.ofString "ℱ", Str.ofString "ℐ", Str.ofString "ℒ", Str.ofString "ſ", Str.ofString "𝐓", Str.ofString "ﬀ", Str.ofString "ﬁ", Str.ofString "ﬂ", Str.ofString "ﬃ", Str.ofString "ﬄ", Str.ofString "ﬆ", Str.ofString "ß"]
noncomputable def unseenL : List Str := [Str.ofString "", Str.ofString "\u00ad", Str.ofString "\u034f", Str.ofString "\u200b", Str.ofString "\ufeff"]
noncomputable def typedS (x : Int) : Str := unseenL.getD ((x.fdiv 12).fmod 5).toNat Str.empty ++ (if (x.fdiv 300).fmod 2 = 0 then signsL.getD (x.fmod 12).toNat Str.empty else Txt.upper (wordS x)) ++ unseenL.getD ((x.fdiv 60).fmod 5).toNat Str.empty
theorem rstr_len {x : Int} {news nx : Led} {v : Value} (_ : RStr (wordS x) news v nx) : (wordS x).length ≤ 3 := wordS_len x
theorem CL.use {w : World} {dd uu : Nat} {f : Addr} {vs : List Value} {news : Led} {Ret : Value → Led → Prop} {mean : ExcName → Option Value} {mg mb : Str → Option Value} {dp un : Nat} {gd : Option (List Code)} {cn : Str} {cs : Scope} {a : Addr} {ccd : Value} {cl : List (Str × Addr)} {outer : List Env} {A₀ : Around} {base h₀ : Heap} {L : Addr} {m : Str → Option Value} {s : Shared} {Q E : Value → Shared → Prop}
    (B : Below A₀ base outer h₀) (F : Fr h₀ L s.heap m) (X : (KT w.params).In h₀) (N : News h₀ L s.heap news) (T : Top q0 (looseW q0 lo0) mean mg mb h₀) (hk : cs.kind = .function)
    (C : CL w dd uu f vs news Ret) (hd : dp + dd < recursionLimit) (hu : un + uu < cLine)
    (ret : ∀ (v : Value) (news' : Led) (h' : Heap) (tk' : Nat), Ret v news' → Fr h₀ L h' m → News h₀ L h' news' → Q v { s with heap := h', toks := tk' }) :
    wpAny (model P0 w) (ktrTop dp un gd cn cs L a ccd cl outer) (call (.ref f) vs) Q E s := C _ _ _ _ _ _ _ _ _ _ _ _ _ _ _ _ _ _ _ _ B F X N T hk hd hu ret
theorem cj1 {P b : Prop} (h : P ∧ b) : P := h.1
theorem cj2 {a1 P b : Prop} (h : a1 ∧ P ∧ b) : P := h.2.1
theorem cj3 {a1 a2 P b : Prop} (h : a1 ∧ a2 ∧ P ∧ b) : P := h.2.2.1
theorem cj4 {a1 a2 a3 P b : Prop} (h : a1 ∧ a2 ∧ a3 ∧ P ∧ b) : P := h.2.2.2.1
theorem cj5 {a1 a2 a3 a4 P b : Prop} (h : a1 ∧ a2 ∧ a3 ∧ a4 ∧ P ∧ b) : P := h.2.2.2.2.1
theorem cj6 {a1 a2 a3 a4 a5 P b : Prop} (h : a1 ∧ a2 ∧ a3 ∧ a4 ∧ a5 ∧ P ∧ b) : P := h.2.2.2.2.2.1
theorem cj7 {a1 a2 a3 a4 a5 a6 P b : Prop} (h : a1 ∧ a2 ∧ a3 ∧ a4 ∧ a5 ∧ a6 ∧ P ∧ b) : P := h.2.2.2.2.2.2.1
theorem cj8 {a1 a2 a3 a4 a5 a6 a7 P b : Prop} (h : a1 ∧ a2 ∧ a3 ∧ a4 ∧ a5 ∧ a6 ∧ a7 ∧ P ∧ b) : P := h.2.2.2.2.2.2.2.1
theorem cj9 {a1 a2 a3 a4 a5 a6 a7 a8 P b : Prop} (h : a1 ∧ a2 ∧ a3 ∧ a4 ∧ a5 ∧ a6 ∧ a7 ∧ a8 ∧ P ∧ b) : P := h.2.2.2.2.2.2.2.2.1
theorem ck2 {a1 P : Prop} (h : a1 ∧ P) : P := h.2
theorem ck3 {a1 a2 P : Prop} (h : a1 ∧ a2 ∧ P) : P := h.2.2
theorem ck4 {a1 a2 a3 P : Prop} (h : a1 ∧ a2 ∧ a3 ∧ P) : P := h.2.2.2
theorem ck5 {a1 a2 a3 a4 P : Prop} (h : a1 ∧ a2 ∧ a3 ∧ a4 ∧ P) : P := h.2.2.2.2
theorem ck6 {a1 a2 a3 a4 a5 P : Prop} (h : a1 ∧ a2 ∧ a3 ∧ a4 ∧ a5 ∧ P) : P := h.2.2.2.2.2
theorem ck7 {a1 a2 a3 a4 a5 a6 P : Prop} (h : a1 ∧ a2 ∧ a3 ∧ a4 ∧ a5 ∧ a6 ∧ P) : P := h.2.2.2.2.2.2
theorem ck8 {a1 a2 a3 a4 a5 a6 a7 P : Prop} (h : a1 ∧ a2 ∧ a3 ∧ a4 ∧ a5 ∧ a6 ∧ a7 ∧ P) : P := h.2.2.2.2.2.2.2
theorem ck9 {a1 a2 a3 a4 a5 a6 a7 a8 P : Prop} (h : a1 ∧ a2 ∧ a3 ∧ a4 ∧ a5 ∧ a6 ∧ a7 ∧ a8 ∧ P) : P := h.2.2.2.2.2.2.2.2
theorem ck10 {a1 a2 a3 a4 a5 a6 a7 a8 a9 P : Prop} (h : a1 ∧ a2 ∧ a3 ∧ a4 ∧ a5 ∧ a6 ∧ a7 ∧ a8 ∧ a9 ∧ P) : P := h.2.2.2.2.2.2.2.2.2
theorem room0 {d K e R : Nat} (h : d + K < R) (hk : Nat.ble e K = true) : d + e < R := Nat.lt_of_le_of_lt (Nat.add_le_add_left (Nat.le_of_ble_eq_true hk) d) h
theorem room1 {d K e R : Nat} (h : d + K < R) (hk : Nat.ble (1 + e) K = true) : d + 1 + e < R := Nat.lt_of_le_of_lt (Nat.le_trans (Nat.le_of_eq (Nat.add_assoc d 1 e)) (Nat.add_le_add_left (Nat.le_of_ble_eq_true hk) d)) h
theorem roomz {d K R : Nat} (h : d + K < R) : d < R := Nat.lt_of_le_of_lt (Nat.le_add_right d K) h
theorem roomz1 {d K R : Nat} (h : d + K < R) (hk : Nat.ble 1 K = true) : d + 1 < R := room0 h hk
theorem unit3 {d K e R : Nat} (h : d + K < R) (hk : Nat.ble (3 + e) K = true) : d + 3 + e < R := Nat.lt_of_le_of_lt (Nat.le_trans (Nat.le_of_eq (Nat.add_assoc d 3 e)) (Nat.add_le_add_left (Nat.le_of_ble_eq_true hk) d)) h
theorem CL.useInt {w : World} {dd uu : Nat} {f : Addr} {vs : List Value} {news : Led} {x : Int} {mean : ExcName → Option Value} {mg mb : Str → Option Value} {dp un : Nat} {gd : Option (List Code)} {cn : Str} {cs : Scope} {a : Addr} {ccd : Value} {cl : List (Str × Addr)} {outer : List Env} {A₀ : Around} {base h₀ : Heap} {L : Addr} {m : Str → Option Value} {s : Shared} {Q E : Value → Shared → Prop}
    (B : Below A₀ base outer h₀) (F : Fr h₀ L s.heap m) (X : (KT w.params).In h₀) (N : News h₀ L s.heap news) (T : Top q0 (looseW q0 lo0) mean mg mb h₀) (hk : cs.kind = .function)
    (C : CL w dd uu f vs news (RInt x news)) (hd : dp + dd < recursionLimit) (hu : un + uu < cLine)
    (ret : ∀ (t : Tok) (h' : Heap) (tk' : Nat), Fr h₀ L h' m → News h₀ L h' news → Q (.int x t) { s with heap := h', toks := tk' }) :
    wpAny (model P0 w) (ktrTop dp un gd cn cs L a ccd cl outer) (call (.ref f) vs) Q E s := CL.use B F X N T hk C hd hu fun v nx h' tk' r F1 N1 => by
  obtain ⟨e1, t, e2⟩ := r
  rw [e1] at N1
  rw [e2]
  exact ret t h' tk' F1 N1
theorem CL.useStr {w : World} {dd uu : Nat} {f : Addr} {vs : List Value} {news : Led} {x : Str} {mean : ExcName → Option Value} {mg mb : Str → Option Value} {dp un : Nat} {gd : Option (List Code)} {cn : Str} {cs : Scope} {a : Addr} {ccd : Value} {cl : List (Str × Addr)} {outer : List Env} {A₀ : Around} {base h₀ : Heap} {L : Addr} {m : Str → Option Value} {s : Shared} {Q E : Value → Shared → Prop}
    (B : Below A₀ base outer h₀) (F : Fr h₀ L s.heap m) (X : (KT w.params).In h₀) (N : News h₀ L s.heap news) (T : Top q0 (looseW q0 lo0) mean mg mb h₀) (hk : cs.kind = .function)
    (C : CL w dd uu f vs news (RStr x news)) (hd : dp + dd < recursionLimit) (hu : un + uu < cLine)
    (ret : ∀ (t : Tok) (h' : Heap) (tk' : Nat), Fr h₀ L h' m → News h₀ L h' news → Q (.str x t) { s with heap := h', toks := tk' }) :
    wpAny (model P0 w) (ktrTop dp un gd cn cs L a ccd cl outer) (call (.ref f) vs) Q E s := CL.use B F X N T hk C hd hu fun v nx h' tk' r F1 N1 => by
  obtain ⟨e1, t, e2⟩ := r
  rw [e1] at N1
  rw [e2]
  exact ret t h' tk' F1 N1
theorem CL.useWord {w : World} {dd uu : Nat} {f : Addr} {vs : List Value} {news : Led} {x : Int} {mean : ExcName → Option Value} {mg mb : Str → Option Value} {dp un : Nat} {gd : Option (List Code)} {cn : Str} {cs : Scope} {a : Addr} {ccd : Value} {cl : List (Str × Addr)} {outer : List Env} {A₀ : Around} {base h₀ : Heap} {L : Addr} {m : Str → Option Value} {s : Shared} {Q E : Value → Shared → Prop}
    (B : Below A₀ base outer h₀) (F : Fr h₀ L s.heap m) (X : (KT w.params).In h₀) (N : News h₀ L s.heap news) (T : Top q0 (looseW q0 lo0) mean mg mb h₀) (hk : cs.kind = .function)
    (C : CL w dd uu f vs news (RStr (wordS x) news)) (hd : dp + dd < recursionLimit) (hu : un + uu < cLine)
    (ret : ∀ (t : Tok) (h' : Heap) (tk' : Nat), (wordS x).length ≤ 3 → Fr h₀ L h' m → News h₀ L h' news → Q (.str (wordS x) t) { s with heap := h', toks := tk' }) :
    wpAny (model P0 w) (ktrTop dp un gd cn cs L a ccd cl outer) (call (.ref f) vs) Q E s := CL.use B F X N T hk C hd hu fun v nx h' tk' r F1 N1 => by
  obtain ⟨e1, t, e2⟩ := r
  rw [e1] at N1
  rw [e2]
  exact ret t h' tk' (wordS_len x) F1 N1
theorem CL.useBool {w : World} {dd uu : Nat} {f : Addr} {vs : List Value} {news : Led} {x : Bool} {mean : ExcName → Option Value} {mg mb : Str → Option Value} {dp un : Nat} {gd : Option (List Code)} {cn : Str} {cs : Scope} {a : Addr} {ccd : Value} {cl : List (Str × Addr)} {outer : List Env} {A₀ : Around} {base h₀ : Heap} {L : Addr} {m : Str → Option Value} {s : Shared} {Q E : Value → Shared → Prop}
    (B : Below A₀ base outer h₀) (F : Fr h₀ L s.heap m) (X : (KT w.params).In h₀) (N : News h₀ L s.heap news) (T : Top q0 (looseW q0 lo0) mean mg mb h₀) (hk : cs.kind = .function)
    (C : CL w dd uu f vs news (RBool x news)) (hd : dp + dd < recursionLimit) (hu : un + uu < cLine)
    (ret : ∀ (h' : Heap) (tk' : Nat), Fr h₀ L h' m → News h₀ L h' news → Q (.bool x) { s with heap := h', toks := tk' }) :
    wpAny (model P0 w) (ktrTop dp un gd cn cs L a ccd cl outer) (call (.ref f) vs) Q E s := CL.use B F X N T hk C hd hu fun v nx h' tk' r F1 N1 => by
  obtain ⟨e1, e2⟩ := r
  rw [e1] at N1
  rw [e2]
  exact ret h' tk' F1 N1
end Mine

namespace Mine
local macro_rules | `(tactic| k_ne) => `(tactic| (refine neN ?_; (try dsimp only); first | exact (by assumption) | exact (cj1 (by assumption)) | exact (cj2 (by assumption)) | exact (cj3 (by assumption)) | exact (cj4 (by assumption)) | exact (cj5 (by assumption)) | exact (cj6 (by assumption)) | exact (cj7 (by assumption)) | exact (cj8 (by assumption)) | exact (cj9 (by assumption)) | exact (ck2 (by assumption)) | exact (ck3 (by assumption)) | exact (ck4 (by assumption)) | exact (ck5 (by assumption)) | exact (ck6 (by assumption)) | exact (ck7 (by assumption)) | exact (ck8 (by assumption)) | exact (ck9 (by assumption)) | exact (ck10 (by assumption)) | exact Ne.symm (by assumption) | exact Ne.symm (cj1 (by assumption)) | exact Ne.symm (cj2 (by assumption)) | exact Ne.symm (cj3 (by assumption)) | exact Ne.symm (cj4 (by assumption)) | exact Ne.symm (cj5 (by assumption)) | exact Ne.symm (cj6 (by assumption)) | exact Ne.symm (cj7 (by assumption)) | exact Ne.symm (cj8 (by assumption)) | exact Ne.symm (cj9 (by assumption)) | exact Ne.symm (ck2 (by assumption)) | exact Ne.symm (ck3 (by assumption)) | exact Ne.symm (ck4 (by assumption)) | exact Ne.symm (ck5 (by assumption)) | exact Ne.symm (ck6 (by assumption)) | exact Ne.symm (ck7 (by assumption)) | exact Ne.symm (ck8 (by assumption)) | exact Ne.symm (ck9 (by assumption)) | exact Ne.symm (ck10 (by assumption)) | exact Nat.ne_of_gt (by assumption) | exact Nat.ne_of_gt (cj1 (by assumption)) | exact Nat.ne_of_gt (cj2 (by assumption)) | exact Nat.ne_of_gt (cj3 (by assumption)) | exact Nat.ne_of_gt (cj4 (by assumption)) | exact Nat.ne_of_gt (cj5 (by assumption)) | exact Nat.ne_of_gt (cj6 (by assumption)) | exact Nat.ne_of_gt (cj7 (by assumption)) | exact Nat.ne_of_gt (cj8 (by assumption)) | exact Nat.ne_of_gt (cj9 (by assumption)) | exact Nat.ne_of_gt (ck2 (by assumption)) | exact Nat.ne_of_gt (ck3 (by assumption)) | exact Nat.ne_of_gt (ck4 (by assumption)) | exact Nat.ne_of_gt (ck5 (by assumption)) | exact Nat.ne_of_gt (ck6 (by assumption)) | exact Nat.ne_of_gt (ck7 (by assumption)) | exact Nat.ne_of_gt (ck8 (by assumption)) | exact Nat.ne_of_gt (ck9 (by assumption)) | exact Nat.ne_of_gt (ck10 (by assumption)) | exact Nat.ne_of_lt (by assumption) | exact Nat.ne_of_lt (cj1 (by assumption)) | exact Nat.ne_of_lt (cj2 (by assumption)) | exact Nat.ne_of_lt (cj3 (by assumption)) | exact Nat.ne_of_lt (cj4 (by assumption)) | exact Nat.ne_of_lt (cj5 (by assumption)) | exact Nat.ne_of_lt (cj6 (by assumption)) | exact Nat.ne_of_lt (cj7 (by assumption)) | exact Nat.ne_of_lt (cj8 (by assumption)) | exact Nat.ne_of_lt (cj9 (by assumption)) | exact Nat.ne_of_lt (ck2 (by assumption)) | exact Nat.ne_of_lt (ck3 (by assumption)) | exact Nat.ne_of_lt (ck4 (by assumption)) | exact Nat.ne_of_lt (ck5 (by assumption)) | exact Nat.ne_of_lt (ck6 (by assumption)) | exact Nat.ne_of_lt (ck7 (by assumption)) | exact Nat.ne_of_lt (ck8 (by assumption)) | exact Nat.ne_of_lt (ck9 (by assumption)) | exact Nat.ne_of_lt (ck10 (by assumption)) | omega))
local macro_rules | `(tactic| ktr_room) => `(tactic| first | exact roomz (by assumption) | exact room0 (by assumption) (by decide) | exact roomz1 (by assumption) (by decide) | exact room1 (by assumption) (by decide) | fail "room")
local macro_rules | `(tactic| ktr_units) => `(tactic| first | exact room0 (by assumption) (by decide) | exact unit3 (by assumption) (by decide) | fail "units")
local macro_rules | `(tactic| ktr_step) => `(tactic| (w_top off; refine kon PySem.Challenge.rw_sn0095_01 KT ?_; k_fill; unfold Kon; unfold CL; intros))
local macro_rules | `(tactic| cell_step) => `(tactic| ((case k1 => k_asm); (case k2 => k_asm); (case k3 => k_asm); (case k4 => k_asm); (case k5 => k_asm); (case kK => first | exact rfl | assumption); (case kd => ktr_room); (case ku => ktr_units)))
local macro_rules | `(tactic| cell_enter) => `(tactic| (first | (refine' code_def ?k1 ?k2 ?k3 ?k4 ?k5 ?kA ?kF ?kK ?k6 ?k7 ?k8 ?k9 ?kB ?_ ?c2 ?c3 ?c4 ?c5; (case kA => exact rfl); (case kF => exact rfl); (case kK => assumption); (case k1 => k_asm); (case k2 => k_asm); (case k3 => k_asm); (case k4 => k_asm); (case k5 => k_asm); (case k6 => k_is); (case k7 => k_is); (case k8 => ktr_room); (case k9 => first | exact BindsTo.of_eq rfl | (refine' kp_binds ?kx ?ke; (case kx => k_in); (case ke => exact fun _ => rfl)) | exact binds_K (by k_in) rfl (by k_is) rfl rfl rfl); (case c5 => decide); (case kB => exact locs rfl); (case c2 => exact rfl); (case c3 => exact rfl); (case c4 => exact rfl); k_whole; intro g' L' h' FG' F' N' B' X' T'; (try dsimp only); (try k_lift B'); (try k_fold)) | (refine' code_defC ?k1 ?k2 ?k3 ?k4 ?k5 ?kA ?kF ?kK ?k6 ?k7 ?k8 ?k9 ?kB ?kD ?_ ?c2 ?c3 ?c4; (case kA => exact rfl); (case kF => exact rfl); (case kK => assumption); (case k1 => k_asm); (case k2 => k_asm); (case k3 => k_asm); (case k4 => k_asm); (case k5 => k_asm); (case k6 => k_is); (case k7 => k_is); (case k8 => ktr_room); (case k9 => first | exact BindsTo.of_eq rfl | exact binds_K (by k_in) rfl (by k_is) rfl rfl rfl | fail "k_enter: no rule for these arguments"); (case kB => exact rfl); (case kD => decide +kernel); (case c2 => exact rfl); (case c3 => exact rfl); (case c4 => exact rfl); k_whole; intro g' L' h' tk' cells' FG' F' N' Y' B' X' T' l1; (try k_lt l1); k_cells Y'; (try simp only [List.cons_append, List.nil_append] at N'); (try dsimp only); (try k_lift B'); (try k_fold))))
section
theorem c_word (w : World) (x : Int) (t : Tok) (news : Led) (hx : 0 ≤ x) : CL w 1 8 199 [.int x t] news (RStr (wordS x) news) := by
  ktr_step
  rename_i hret
  refine wpAny_call ?_
  k_dflt cell_enter
  k_steps
  exact hret _ _ _ _ RStr.mk (by k_asm) (cb_drop (by k_asm) (by kcj_all))
local macro_rules | `(tactic| walk_at "call ref") => `(tactic| (k_here; refine' CL.useWord ?k1 ?k2 ?k3 ?k4 ?k5 ?kK (c_word _ _ _ _ ?kx) ?kd ?ku ?_; (case kx => omega); cell_step; intro t9 h9 tk9 hw9 F9 N9; (try k_fold)))
theorem c_typed (w : World) (x : Int) (t : Tok) (news : Led) (hx : 0 ≤ x) : CL w 2 16 206 [.int x t] news (RStr (typedS x) news) := by
  ktr_step
  rename_i hret
  refine wpAny_call ?_
  k_dflt cell_enter
  k_with "table" => skip
  k_steps
  all_goals (refine hret _ _ _ _ (RStr.mk ?_) (by k_asm) (cb_drop (by k_asm) (by kcj_all)))
  all_goals (unfold typedS; split <;> first | rfl | (exfalso; simp_all; done))

end
section
theorem lookK {w : World} {h : Heap} (X : (KT w.params).In h) {a : Addr} {o : Obj} (e : (KT w.params).lookup a = some o) : h.get? a = some o := X a o e
noncomputable def isB1 (c : Nat) : Bool := [65024, 65025, 65026, 65027, 65028, 65029, 6150, 65030, 65031, 65032, 65033, 6155, 6156, 6157, 8203, 8204, 8205, 65034, 65035, 65036, 65037, 65038, 65039, 173, 847, 8288, 65279].contains c
noncomputable def b1els (P : Params) : List (Int × Value) := match (ob136F P).data with | .set es _ _ => es.toList | _ => []
noncomputable def b1S (P : Params) (k : Int) : Bool := (b1els P).any fun e => Value.isInt k e.2
theorem b1S_eq (P : Params) (c : Nat) : b1S P c = isB1 c := by
  have e : ∀ (l : List Nat) (es : List (Int × Value)), es.map (fun e => match e.2 with | .int i _ => i | _ => -1) = l.map (fun (n : Nat) => (n : Int)) → es.any (fun e => Value.isInt (c : Int) e.2) = l.contains c := by
    intro l
    induction l with
    | nil => intro es h; cases es with | nil => rfl | cons => cases h
    | cons a l ih =>
      intro es h
      cases es with
      | nil => cases h
      | cons x r =>
        simp only [List.map_cons, List.cons.injEq] at h
        simp only [List.any_cons, List.contains_cons, ih r h.2]
        congr 1
        have h1 := h.1
        obtain ⟨x1, x2⟩ := x
        cases x2 <;> simp only at h1 <;> first | omega | skip
        simp only [Value.isInt]
        subst h1
        by_cases q : c = a
        · simp [q]
        · have : ((a : Int) == (c : Int)) = false := by simp; omega
          rw [this]; simp [q]
  exact e _ _ rfl
theorem b1elems (P : Params) : (b1els P).all (fun e => (match e.2 with | .int i _ => e.1 == hashInt i | _ => false) && e.2.scannable) = true := by rfl
theorem b1set {w : World} {h : Heap} (X : (KT w.params).In h) : h.SetOf (intKind P0 w) 136 (b1S w.params) 27 := by
  refine ⟨ob136F w.params, _, _, _, lookK X rfl, ⟨rfl, rfl, rfl⟩, rfl, ?_, ?_, by decide, rfl, rfl⟩
  · intro e he
    have := List.all_eq_true.mp (b1elems w.params) e he
    simp only [Bool.and_eq_true] at this
    refine ⟨?_, this.2⟩
    have h1 := this.1
    split at h1
    · rename_i i t q
      exact ⟨i, by rw [q]; show (i == i) = true; exact beq_self_eq_true i, eq_of_beq h1⟩
    · cases h1
  · intro k
    show ((b1els w.params).any fun e => Value.isInt k e.2) = true ↔ _
    rw [List.any_eq_true]
    exact Iff.rfl
noncomputable def b3arr : Array DictEntry := b3part 0 650
noncomputable def b3V (c : Int) : Value := (findBy Value.isInt b3arr c).getD .none
theorem b3ent_str : ∀ (ks : List (Option Expr)) (vs : List Expr) (i : Nat) (e : DictEntry), e ∈ b3ent ks vs i → ∃ x t, e.val = .str x t
  | k :: ks, v :: vs, i, e, h => by
    unfold b3ent at h
    rcases List.mem_cons.mp h with rfl | h
    · exact ⟨_, _, rfl⟩
    · exact b3ent_str ks vs (i + 1) e h
  | [], _, _, e, h => by unfold b3ent at h; cases h
  | _ :: _, [], _, e, h => by unfold b3ent at h; cases h
theorem b3V_cases (c : Int) : (∃ x t, b3V c = .str x t) ∨ b3V c = .none := by
  unfold b3V findBy
  cases h : b3arr.find? fun e => Value.isInt c e.key with
  | none => exact .inr rfl
  | some e =>
    have := Array.mem_of_find?_eq_some h
    obtain ⟨x, t, q⟩ := b3ent_str _ _ _ e (by simpa [b3arr, b3part] using this)
    exact .inl ⟨x, t, by simpa using q⟩
theorem b3keys : b3arr.toList.all (fun e => match e.key with | .int i _ => e.hash == hashInt i | _ => false) = true := by decide +kernel
theorem b3map {w : World} {h : Heap} (X : (KT w.params).In h) : h.MapOf (intKind P0 w) 147 (fun c => findBy Value.isInt b3arr c) := by
  refine ⟨ob147H w.params, b3arr, 650, lookK X rfl, ⟨rfl, rfl, rfl⟩, rfl, ?_, fun _ => rfl⟩
  intro e he
  have h1 := List.all_eq_true.mp b3keys e (Array.mem_toList_iff.mpr he)
  split at h1
  · rename_i i t q
    exact ⟨i, by rw [q]; show (i == i) = true; exact beq_self_eq_true i, eq_of_beq h1⟩
  · cases h1
theorem b3get {w : World} {A : Around} {E : Value → Shared → Prop} {s : Shared} {i : Int} {t : Tok} {Q : Value → Shared → Prop} (X : (KT w.params).In s.heap) (h1 : ∀ x t', b3V i = .str x t' → Q (.str x t') { s with toks := s.toks + 1 }) (h2 : b3V i = .none → Q .none { s with toks := s.toks + 1 }) :
    wpAny (model P0 w) A (call (.builtin "dict.get") [.ref 147, .int i t]) Q E s := by
  have M := b3map X
  obtain ⟨o, es, ep, ho, hx, hd, _⟩ := id M
  have hq : Q (b3V i) { s with toks := s.toks + 1 } := by
    rcases b3V_cases i with ⟨x, t', e⟩ | e
    · rw [e]; exact h1 x t' e
    · rw [e]; exact h2 e
  exact call_meetsIn PySem.F.slot_dict_get M.typeIs PySem.F.entry_dict_get (PySem.F.args_dict_get_2 _ _) (meets_dict_get (intKind P0 w) 147 (intKind_is P0 w i t) rfl) ⟨_, M, hq⟩
theorem b3getM {w : World} {A : Around} {E : Value → Shared → Prop} {s : Shared} {pl : Sem Bool} {Q : Value × List Value → Shared → Prop} (X : (KT w.params).In s.heap) (h : Q (.builtin "dict.get", [.ref 147]) s) :
    wpAny (model P0 w) A (getMethod (.ref 147) "get" pl) Q E s := getMethod_builtin (b3map X).typeIs PySem.F.plainAttrs_dict PySem.F.slot_dict_get PySem.F.type_dict_get (b3map X).noDict h
theorem inB1 {w : World} {A : Around} {E : Value → Shared → Prop} {s : Shared} {c : Nat} {t : Tok} {Q : Value → Shared → Prop} (X : (KT w.params).In s.heap) (h : Q (.bool (isB1 c)) { s with toks := s.toks + 1 }) :
    wpAny (model P0 w) A (compareOp .In (.int c t) (.ref 136)) Q E s := wpAny_inSet_of (intKind_is P0 w c t) rfl (b1set X) (by rw [b1S_eq]; exact h)
noncomputable def m3 (c : Nat) : Str := match b3V c with | .str x _ => x | _ => Txt.lower ⟨#[c]⟩
local macro_rules | `(tactic| walk_at "compareOp In int ref") => `(tactic| (k_here; refine inB1 (by k_in) ?_))
local macro_rules | `(tactic| walk_at "getMethod ref") => `(tactic| (k_here; refine b3getM (by k_in) ?_))
local macro_rules | `(tactic| walk_at "call builtin:dict.get") => `(tactic| (k_here; refine b3get (by k_in) ?_ ?_ <;> intros))
local macro_rules | `(tactic| walk_at "call builtin:str.lower") => `(tactic| (k_here; (with_unfolding_all refine SCL.lower (show 1 ≤ 5592405 by decide) ?_); intro _))
theorem c_inb1 (w : World) (c : Nat) (t : Tok) (news : Led) : CL w 1 8 146 [.str ⟨#[c]⟩ t] news (RBool (isB1 c) news) := by
  ktr_step
  rename_i hret
  refine wpAny_call ?_
  k_dflt cell_enter
  k_steps
  all_goals exact hret _ _ _ _ RBool.mk (by k_asm) (cb_drop (by k_asm) (by kcj_all))
theorem c_map (w : World) (c : Nat) (t : Tok) (news : Led) : CL w 1 8 192 [.str ⟨#[c]⟩ t] news (RStr (m3 c) news) := by
  ktr_step
  rename_i hret
  refine wpAny_call ?_
  k_dflt cell_enter
  k_steps
  · exact hret _ _ _ _ (RStr.mk (by unfold m3; rw [‹b3V _ = _›])) (by k_asm) (cb_drop (by k_asm) (by kcj_all))
  · exact hret _ _ _ _ (RStr.mk (by unfold m3; rw [‹b3V _ = _›])) (by k_asm) (cb_drop (by k_asm) (by kcj_all))

end
noncomputable def walkZ (size : Int) (l : List Int) : Int := l.foldl (fun c s => if s = 32 then c + 1 else (c.fdiv size + 1) * size) 0
theorem walkZ_nil (size : Int) : walkZ size [] = 0 := rfl
theorem walkZ_sp {size c : Int} {pre : List Int} {n : Int} (h : c = walkZ size pre) (hn : n = 32) : c + 1 = walkZ size (pre ++ [n]) := by
  subst h; subst hn; unfold walkZ; simp
theorem walkZ_tab {size c : Int} {pre : List Int} {n : Int} (h : c = walkZ size pre) (hn : ¬ n = 32) : (c.fdiv size + 1) * size = walkZ size (pre ++ [n]) := by
  subst h; unfold walkZ; simp [hn]
theorem chr_eq {n : Nat} {c : Nat} {y : Str} (hy : y = ⟨#[c]⟩) (h : ((⟨#[n]⟩ : Str) == y) = true) : n = c := by
  subst hy; have := eq_of_beq h; injection this with this; simpa using this
theorem chr_ne {n : Nat} {c : Nat} {y : Str} (hy : y = ⟨#[c]⟩) (h : ((⟨#[n]⟩ : Str) == y) = false) : ¬ n = c := by
  subst hy; intro e; subst e; simp at h
theorem walk_sp {size c : Int} {pre : List Int} {n : Nat} (h : c = walkZ size pre) (hn : ((⟨#[n]⟩ : Str) == Str.ofString " ") = true) : c + 1 = walkZ size (pre ++ [(n : Int)]) :=
  walkZ_sp h (by have := chr_eq (c := 32) rfl hn; omega)
theorem walk_tab {size c : Int} {pre : List Int} {n : Nat} (h : c = walkZ size pre) (hn : ((⟨#[n]⟩ : Str) == Str.ofString " ") = false) : (c.fdiv size + 1) * size = walkZ size (pre ++ [(n : Int)]) :=
  walkZ_tab h (by have := chr_ne (c := 32) rfl hn; omega)
theorem c_walked (w : World) (x : Str) (t u : Tok) (size : Int) (news : Led) (h1 : 1 ≤ size) (h3 : size ≤ 3) : CL w 1 8 213 [.str x t, .int size u] news (RInt (walkZ size (KStt.codes x)) news) := by
  ktr_step
  rename_i hret
  refine wpAny_call ?_
  k_dflt cell_enter
  k_with "pyIter str" => k_state (fun pre column => column = walkZ size pre) "column"
  k_with "state" => first | exact walk_sp (by assumption) (by assumption) | exact walk_tab (by assumption) (by assumption) | rfl
  k_steps
  exact hret _ _ _ _ (RInt.mk (by assumption)) (by k_asm) (cb_drop (by k_asm) (by kcj_all))

theorem count_cut {p : Int → Bool} (ns : List Int) (r : Nat) (hr : r ≤ ns.length) (h1 : ∀ i : Nat, i < r → p (ns.getD i 0) = true) (h2 : ∀ i : Nat, r ≤ i → i < ns.length → p (ns.getD i 0) = false) : ns.countP p = r := by
  induction ns generalizing r with
  | nil => simp at hr; simp [hr]
  | cons a l ih =>
    cases r with
    | zero =>
      have ha : p a = false := by simpa using h2 0 (Nat.le_refl _) (by simp)
      have := ih 0 (Nat.zero_le _) (fun i hi => absurd hi (Nat.not_lt_zero _)) (fun i _ hi => by simpa using h2 (i + 1) (Nat.zero_le _) (by simpa using hi))
      simp [ha, this]
    | succ r =>
      have ha : p a = true := by simpa using h1 0 (Nat.succ_pos _)
      have := ih r (by simpa using hr) (fun i hi => by simpa using h1 (i + 1) (by omega)) (fun i hr hi => by simpa using h2 (i + 1) (by omega) (by simpa using hi))
      simp [ha, this]
noncomputable def Cut (p : Int → Prop) (ns : List Int) (lo hi : Int) : Prop := (∀ i : Nat, (i : Int) < lo → p (ns.getD i 0)) ∧ (∀ i : Nat, hi ≤ (i : Int) → i < ns.length → ¬ p (ns.getD i 0))
theorem sorted_getD {ns : List Int} (hs : ns.Pairwise (· ≤ ·)) {i j : Nat} (hij : i ≤ j) (hj : j < ns.length) : ns.getD i 0 ≤ ns.getD j 0 := by
  have hi : i < ns.length := by omega
  rw [List.getD_eq_getElem?_getD, List.getD_eq_getElem?_getD, List.getElem?_eq_getElem hi, List.getElem?_eq_getElem hj]
  simp only [Option.getD_some]
  rcases Nat.lt_or_eq_of_le hij with h | h
  · exact List.pairwise_iff_getElem.mp hs i j hi hj h
  · subst h; exact Int.le_refl _
theorem mid_in {lo hi : Int} (h0 : 0 ≤ lo) (h : lo < hi) : lo ≤ (lo + hi).fdiv 2 ∧ (lo + hi).fdiv 2 < hi := by
  rw [Int.fdiv_eq_ediv_of_nonneg _ (by omega)]; omega
theorem cut_dn {p : Int → Prop} (hp : ∀ a b : Int, a ≤ b → p b → p a) {ns : List Int} (hs : ns.Pairwise (· ≤ ·)) {lo hi : Int} (h0 : 0 ≤ lo) (hl : hi ≤ (ns.length : Int)) (C : Cut p ns lo hi) (h : lo < hi) (hx : ¬ p (ns.getD ((lo + hi).fdiv 2).toNat 0)) :
    0 ≤ lo ∧ lo ≤ (lo + hi).fdiv 2 ∧ (lo + hi).fdiv 2 ≤ (ns.length : Int) ∧ Cut p ns lo ((lo + hi).fdiv 2) := by
  have M := mid_in h0 h
  generalize (lo + hi).fdiv 2 = mid at *
  refine ⟨h0, M.1, by omega, C.1, fun i hi' hlt hpi => hx (hp _ _ (sorted_getD hs (by omega) hlt) hpi)⟩
theorem cut_up {p : Int → Prop} (hp : ∀ a b : Int, a ≤ b → p b → p a) {ns : List Int} (hs : ns.Pairwise (· ≤ ·)) {lo hi : Int} (h0 : 0 ≤ lo) (hl : hi ≤ (ns.length : Int)) (C : Cut p ns lo hi) (h : lo < hi) (hx : p (ns.getD ((lo + hi).fdiv 2).toNat 0)) :
    0 ≤ (lo + hi).fdiv 2 + 1 ∧ (lo + hi).fdiv 2 + 1 ≤ hi ∧ hi ≤ (ns.length : Int) ∧ Cut p ns ((lo + hi).fdiv 2 + 1) hi := by
  have M := mid_in h0 h
  generalize (lo + hi).fdiv 2 = mid at *
  refine ⟨by omega, by omega, hl, fun i hi' => hp _ _ (sorted_getD hs (by omega) (by omega)) hx, C.2⟩
theorem cut_start {p : Int → Prop} {ns : List Int} : (0 : Int) ≤ 0 ∧ (0 : Int) ≤ (ns.length : Int) ∧ (ns.length : Int) ≤ (ns.length : Int) ∧ Cut p ns 0 (ns.length : Int) :=
  ⟨Int.le_refl _, Int.natCast_nonneg _, Int.le_refl _, fun i hi => by omega, fun i hi hlt => by omega⟩
theorem cut_end {p : Int → Prop} [DecidablePred p] {ns : List Int} {lo hi : Int} (h0 : 0 ≤ lo) (hlh : lo ≤ hi) (hl : hi ≤ (ns.length : Int)) (C : Cut p ns lo hi) (h : ¬ lo < hi) : lo = (ns.countP (fun v => decide (p v)) : Nat) := by
  rw [count_cut ns lo.toNat (by omega) (fun i hi' => decide_eq_true (C.1 i (by omega))) (fun i hr hlt => decide_eq_false (C.2 i (by omega) hlt))]
  omega
theorem mid_m1 {lo hi : Int} (h0 : 0 ≤ lo) (h : lo < hi) : ((lo + hi).fdiv 2 - lo).toNat < (hi - lo).toNat := by have M := mid_in h0 h; omega
theorem mid_m2 {lo hi : Int} (h0 : 0 ≤ lo) (h : lo < hi) : (hi - ((lo + hi).fdiv 2 + 1)).toNat < (hi - lo).toNat := by have M := mid_in h0 h; omega
noncomputable abbrev pR (x : Int) : Int → Prop := fun v => ¬ x < v
noncomputable abbrev pL (x : Int) : Int → Prop := fun v => v < x
theorem pR_mono (x : Int) : ∀ a b : Int, a ≤ b → pR x b → pR x a := fun a b h q => by unfold pR at *; omega
theorem pL_mono (x : Int) : ∀ a b : Int, a ≤ b → pL x b → pL x a := fun a b h q => by unfold pL at *; omega
theorem c_bright0 (w : World) (l : Addr) (vs : List Value) (ns : List Int) (nn : Nat) (x : Int) (t : Tok) (news : Led) (hi : IntsAre vs ns) (hlen : ns.length < 100)
    (hs : ns.Pairwise (· ≤ ·)) : CL w 1 8 110 [.ref l, .int x t] ((l, listOf vs.toArray nn) :: news) (RInt (ns.countP (fun v => decide (pR x v)) : Nat) ((l, listOf vs.toArray nn) :: news)) := by
  ktr_step
  rename_i hret
  have kstM := kstMark
  refine wpAny_call ?_
  k_dflt cell_enter
  k_with "exec While Compare cons nil" => k_while (fun (_ : List Int) lo hi => 0 ≤ lo ∧ lo ≤ hi ∧ hi ≤ (ns.length : Int) ∧ Cut (pR x) ns lo hi) (fun (_ : List Int) lo hi => (hi - lo).toNat) "lo" "hi"
  k_with "state" => first | exact cut_start | exact cut_dn (pR_mono x) hs (by assumption) (by assumption) (by assumption) (by assumption) (not_not_intro (by assumption)) | exact cut_up (pR_mono x) hs (by assumption) (by assumption) (by assumption) (by assumption) (by assumption)
  k_with "measure" => first | exact mid_m1 (by assumption) (by assumption) | exact mid_m2 (by assumption) (by assumption)
  k_steps
  exact hret _ _ _ _ (RInt.mk (cut_end (by assumption) (by assumption) (by assumption) (by assumption) (by assumption))) (by k_asm) (cb_drop (by k_asm) (by kcj_all))
theorem c_bleft0 (w : World) (l : Addr) (vs : List Value) (ns : List Int) (nn : Nat) (x : Int) (t u : Tok) (news : Led) (hi : IntsAre vs ns) (hlen : ns.length < 100)
    (hs : ns.Pairwise (· ≤ ·)) : CL w 1 8 128 [.ref l, .int x t, .int 0 u, .none] ((l, listOf vs.toArray nn) :: news) (RInt (ns.countP (fun v => decide (pL x v)) : Nat) ((l, listOf vs.toArray nn) :: news)) := by
  ktr_step
  rename_i hret
  have kstM := kstMark
  refine wpAny_call ?_
  k_dflt cell_enter
  k_with "exec While Compare cons nil" => k_while (fun (_ : List Int) lo hi => 0 ≤ lo ∧ lo ≤ hi ∧ hi ≤ (ns.length : Int) ∧ Cut (pL x) ns lo hi) (fun (_ : List Int) lo hi => (hi - lo).toNat) "lo" "hi"
  k_with "state" => first | exact cut_start | exact cut_dn (pL_mono x) hs (by assumption) (by assumption) (by assumption) (by assumption) (by assumption) | exact cut_up (pL_mono x) hs (by assumption) (by assumption) (by assumption) (by assumption) (by assumption)
  k_with "measure" => first | exact mid_m1 (by assumption) (by assumption) | exact mid_m2 (by assumption) (by assumption)
  k_steps
  exact hret _ _ _ _ (RInt.mk (cut_end (by assumption) (by assumption) (by assumption) (by assumption) (by assumption))) (by k_asm) (cb_drop (by k_asm) (by kcj_all))

section
noncomputable def insS (ns : List Int) (x : Int) : List Int := ns.take (ns.countP (fun v => decide (pL x v))) ++ x :: ns.drop (ns.countP (fun v => decide (pL x v)))
noncomputable def RIns (row : Addr) (ns : List Int) (news : Led) : Value → Led → Prop := fun v nx => v = .none ∧ ∃ vs nn, nx = (row, listOf (List.toArray vs) nn) :: news ∧ IntsAre vs ns
theorem fits_count {ns : List Int} {p : Int → Bool} (h : ns.length < 100) : Builtin.List.listFitsIndex (ns.countP p : Nat) = true := by
  have := List.countP_le_length (p := p) (l := ns)
  simp only [Builtin.List.listFitsIndex, Bool.and_eq_true, decide_eq_true_eq]
  omega
theorem size_ints {vs : List Value} {ns : List Int} (hi : IntsAre vs ns) (h : ns.length < 100) : vs.toArray.toList.length ≤ sizeLine := by
  have := hi.length
  have e : sizeLine = 16777216 := rfl
  simp only [e]
  show vs.length ≤ _
  omega
theorem ints_take {vs : List Value} {ns : List Int} (h : IntsAre vs ns) (k : Nat) : IntsAre (vs.take k) (ns.take k) := h.take k
theorem ints_drop {vs : List Value} {ns : List Int} (h : IntsAre vs ns) (k : Nat) : IntsAre (vs.drop k) (ns.drop k) := h.drop k
theorem ints_ins {vs : List Value} {ns : List Int} {x : Int} {t : Tok} (hi : IntsAre vs ns) (hlen : ns.length < 100) : IntsAre (kl_ins vs.toArray.toList (ns.countP (fun v => decide (pL x v)) : Nat) (.int x t)) (insS ns x) := by
  have hl := hi.length
  have hc := List.countP_le_length (p := fun v => decide (pL x v)) (l := ns)
  unfold kl_ins insS
  have e : (if ((ns.countP (fun v => decide (pL x v)) : Nat) : Int) < 0 then (((ns.countP (fun v => decide (pL x v)) : Nat) : Int) + (vs.length : Int)).toNat else min ((ns.countP (fun v => decide (pL x v)) : Nat) : Int).toNat vs.length) = ns.countP (fun v => decide (pL x v)) := by
    rw [if_neg (by omega)]; omega
  show IntsAre (vs.take _ ++ _ :: vs.drop _) _
  rw [e]
  exact (hi.take _).append (.cons _ _ (hi.drop _))
local macro_rules | `(tactic| walk_at "call ref") => `(tactic| (k_here; refine' CL.useInt ?k1 ?k2 ?k3 ?k4 ?k5 ?kK (c_bleft0 _ _ _ _ _ _ _ _ _ ?kx ?ky ?kz) ?kd ?ku ?_; (case kx => assumption); (case ky => assumption); (case kz => assumption); cell_step; intro t9 h9 tk9 F9 N9; (try k_fold)))
local macro_rules | `(tactic| walk_at "call builtin:list.insert") => `(tactic| (k_here; k_dflt (refine' kl_insert ?F ?N ?f rfl (Upd.head ?hne) ?z ?_; (case F => k_asm); (case N => k_asm); (case f => exact fits_count (by assumption)); (case hne => assumption); (case z => exact size_ints (by assumption) (by assumption))); intro h9 F9 N9; (try k_fold)))
theorem c_insort0 (w : World) (l : Addr) (vs : List Value) (ns : List Int) (nn : Nat) (x : Int) (t : Tok) (news : Led) (hi : IntsAre vs ns) (hlen : ns.length < 100)
    (hs : ns.Pairwise (· ≤ ·)) (hne : ∀ p ∈ news, p.1 ≠ l) : CL w 2 16 119 [.ref l, .int x t] ((l, listOf vs.toArray nn) :: news) (RIns l (insS ns x) news) := by
  ktr_step
  rename_i hret
  have kstM := kstMark
  refine wpAny_call ?_
  k_dflt cell_enter
  k_steps
  exact hret _ _ _ _ ⟨rfl, _, _, rfl, ints_ins (by assumption) (by assumption)⟩ (by k_asm) (by k_asm)
noncomputable def keptS (l : List Int) : List Int := l.foldl (fun r v => if v ≠ 0 ∧ v ∉ r then insS r v else r) []
theorem insS_lt {a x : Int} {l : List Int} (h : a < x) : insS (a :: l) x = a :: insS l x := by
  unfold insS
  simp [pL, h]
theorem insS_ge {x : Int} {l : List Int} (h : ∀ b ∈ l, x ≤ b) : insS l x = x :: l := by
  have e : l.countP (fun v => decide (pL x v)) = 0 := by
    rw [List.countP_eq_zero]
    intro b hb
    have := h b hb
    simp only [pL, decide_eq_true_eq]; omega
  unfold insS
  rw [e]; rfl
theorem mem_insS {x v : Int} {l : List Int} : v ∈ insS l x ↔ v = x ∨ v ∈ l := by
  unfold insS
  have e := List.take_append_drop (l.countP (fun v => decide (pL x v))) l
  generalize l.countP (fun v => decide (pL x v)) = k at *
  rw [List.mem_append, List.mem_cons]
  constructor
  · rintro (h | rfl | h)
    · exact .inr (List.mem_of_mem_take h)
    · exact .inl rfl
    · exact .inr (List.mem_of_mem_drop h)
  · rintro (rfl | h)
    · exact .inr (.inl rfl)
    · rw [← e] at h
      rcases List.mem_append.mp h with h | h
      · exact .inl h
      · exact .inr (.inr h)
theorem sorted_insS {x : Int} {l : List Int} (h : l.Pairwise (· ≤ ·)) : (insS l x).Pairwise (· ≤ ·) := by
  induction l with
  | nil => simp [insS]
  | cons a l ih =>
    have h' := List.pairwise_cons.mp h
    by_cases ha : a < x
    · rw [insS_lt ha, List.pairwise_cons]
      refine ⟨fun b hb => ?_, ih h'.2⟩
      rcases mem_insS.mp hb with rfl | hb
      · omega
      · exact h'.1 b hb
    · have hb : ∀ b ∈ a :: l, x ≤ b := fun b hb => by
        rcases List.mem_cons.mp hb with rfl | hb
        · omega
        · have := h'.1 b hb; omega
      rw [insS_ge hb, List.pairwise_cons]
      exact ⟨hb, h⟩
theorem len_insS {x : Int} {l : List Int} : (insS l x).length = l.length + 1 := by
  unfold insS
  simp only [List.length_append, List.length_cons, List.length_take, List.length_drop]
  have := List.countP_le_length (p := fun v => decide (pL x v)) (l := l)
  omega
theorem keptS_snoc (l : List Int) (v : Int) : keptS (l ++ [v]) = if v ≠ 0 ∧ v ∉ keptS l then insS (keptS l) v else keptS l := by
  unfold keptS; rw [List.foldl_append]; rfl
theorem kept_facts : ∀ (n : Nat) (l : List Int), l.length = n → (keptS l).Pairwise (· ≤ ·) ∧ (keptS l).length ≤ l.length := by
  intro n
  induction n with
  | zero => intro l h; have : l = [] := List.eq_nil_of_length_eq_zero h; subst this; simp [keptS]
  | succ n ih =>
    intro l h
    have hne : l ≠ [] := by intro e; subst e; simp at h
    obtain ⟨l', v, rfl⟩ : ∃ l' v, l = l' ++ [v] := ⟨l.dropLast, l.getLast hne, (List.dropLast_concat_getLast hne).symm⟩
    have hl : l'.length = n := by simpa using h
    have q := ih l' hl
    rw [keptS_snoc]
    split
    · refine ⟨sorted_insS q.1, ?_⟩
      rw [len_insS, List.length_append]; simp; omega
    · refine ⟨q.1, ?_⟩
      rw [List.length_append]; omega
theorem kept_word {pre post ns : List Int} {n : Int} (e : ns = pre ++ n :: post) (hl : ns.length < 50) {r : List Int} (h : r = keptS (pre ++ [n])) : r = keptS (pre ++ [n]) ∧ r.Pairwise (· ≤ ·) ∧ r.length < 100 := by
  have q := kept_facts _ (pre ++ [n]) rfl
  subst h
  refine ⟨rfl, q.1, ?_⟩
  have : (pre ++ [n]).length ≤ ns.length := by subst e; simp
  omega
theorem kept_ins {pre post ns row : List Int} {n : Int} (e : ns = pre ++ n :: post) (hl : ns.length < 50) (h : row = keptS pre) (h0 : n ≠ 0) (hc : (row.any fun x => x == n) = false) :
    insS row n = keptS (pre ++ [n]) ∧ (insS row n).Pairwise (· ≤ ·) ∧ (insS row n).length < 100 := by
  refine kept_word e hl ?_
  subst h
  have hn : n ∉ keptS pre := fun hm => by
    have := List.any_eq_false.mp hc n hm
    simp at this
  rw [keptS_snoc, if_pos ⟨h0, hn⟩]
theorem kept_zero {pre post ns row : List Int} {n : Int} (e : ns = pre ++ n :: post) (hl : ns.length < 50) (h : row = keptS pre) (h0 : ¬ n ≠ 0) : row = keptS (pre ++ [n]) ∧ row.Pairwise (· ≤ ·) ∧ row.length < 100 := by
  refine kept_word e hl ?_
  subst h
  rw [keptS_snoc, if_neg (fun q => h0 q.1)]
theorem kept_has {pre post ns row : List Int} {n : Int} (e : ns = pre ++ n :: post) (hl : ns.length < 50) (h : row = keptS pre) (hc : (row.any fun x => x == n) = true) : row = keptS (pre ++ [n]) ∧ row.Pairwise (· ≤ ·) ∧ row.length < 100 := by
  refine kept_word e hl ?_
  subst h
  rw [keptS_snoc, if_neg (fun q => q.2 (by simpa using hc))]
theorem allLt_mem {x : Addr} : ∀ {news : Led}, AllLt x news → ∀ p ∈ news, p.1 < x
  | [], _, p, hp => nomatch hp
  | q :: r, h, p, hp => by
    rcases List.mem_cons.mp hp with rfl | hp
    · exact h.1
    · exact allLt_mem h.2 p hp
theorem ints_at {vs : List Value} {a b : List Int} (h : IntsAre vs a) (e : a = b) : IntsAre vs b := e ▸ h
theorem rlt {l l' : Addr} {o : Obj} {news : Led} (h1 : l < l' ∧ AllLt l' news) : ∀ p ∈ (l, o) :: news, p.1 ≠ l' := by
  intro p hp
  rcases List.mem_cons.mp hp with rfl | hp
  · exact Nat.ne_of_lt h1.1
  · exact Nat.ne_of_lt (allLt_mem h1.2 p hp)
theorem ne_row {l l' : Addr} {o : Obj} {news own : Led} {adr : List Addr} (h1 : l < l' ∧ AllLt l' news) (h2 : OwnOff own (l' :: adr)) : ∀ p ∈ ((l, o) :: news) ++ own, p.1 ≠ l' := by
  intro p hp
  rcases List.mem_append.mp hp with hp | hp
  · rcases List.mem_cons.mp hp with rfl | hp
    · exact Nat.ne_of_lt h1.1
    · exact Nat.ne_of_lt (allLt_mem h1.2 p hp)
  · exact h2 p hp l' (.head _)
local macro_rules | `(tactic| walk_at "call ref") => `(tactic| (k_here; refine' CL.use ?k1 ?k2 ?k3 ?k4 ?k5 ?kK (c_insort0 _ _ _ _ _ _ _ _ ?kx ?ky ?kz ?kw) ?kd ?ku ?_; (case k4 => k_asm); (case kx => assumption); (case ky => assumption); (case kz => assumption); (case kw => exact ne_row (by assumption) (by assumption)); (case k1 => k_asm); (case k2 => k_asm); (case k3 => k_asm); (case k5 => k_asm); (case kK => first | exact rfl | assumption); (case kd => ktr_room); (case ku => ktr_units); intro v9 news9 h9 tk9 r9 F9 N9; (obtain ⟨e9, vs9, nn9, e8, i9⟩ := r9); subst e9; subst e8; (have kL9 := i9.length); (try k_fold)))
noncomputable def RList (ns : List Int) (news : Led) : Value → Led → Prop := fun v nx => ∃ q vs nn, v = .ref q ∧ nx = (q, listOf (List.toArray vs) nn) :: news ∧ IntsAre vs ns ∧ ∀ p ∈ news, p.1 ≠ q
theorem c_kept0 (w : World) (l : Addr) (vs : List Value) (ns : List Int) (nn : Nat) (news : Led) (hi : IntsAre vs ns) (hlen : ns.length < 50) : CL w 3 24 220 [.ref l] ((l, listOf vs.toArray nn) :: news) (RList (keptS ns) ((l, listOf vs.toArray nn) :: news)) := by
  ktr_step
  rename_i hret
  have kstM := kstMark
  refine wpAny_call ?_
  k_dflt cell_enter
  k_with "pyIter ref" => k_state (fun pre row => row = keptS pre ∧ row.Pairwise (· ≤ ·) ∧ row.length < 100) "row"
  k_with "state" => first | exact ⟨rfl, List.Pairwise.nil, by decide⟩ | exact kept_ins (by assumption) hlen (by assumption) (by assumption) (by assumption) | exact kept_zero (by assumption) hlen (by assumption) (by assumption) | exact kept_zero (by assumption) hlen (by assumption) (not_not_intro (by assumption)) | exact kept_has (by assumption) hlen (by assumption) (by assumption)
  k_steps
  exact hret _ _ _ _ ⟨_, _, _, rfl, rfl, ints_at (by assumption) (by assumption), rlt (by assumption)⟩ (by k_asm) (by k_asm)

end
section
structure HbMark : Prop where
  mark :: (one : True)
theorem bnd_of {ns : List Int} {M : Int} (h : ∀ x ∈ ns, 0 ≤ x ∧ x < 100) (hm : M ∈ ns) : 0 ≤ M ∧ M < 100 := h M hm
local macro_rules | `(tactic| walk_at "CompSrc") => `(tactic| (k_here; (fail_if_success (rename HbMark => x9)); (have hbm9 := HbMark.mark trivial); (obtain ⟨hb8, hb9⟩ := bnd_of (by assumption) (by assumption)); walk_at "CompSrc"))
noncomputable def maxS (ns : List Int) : Int := ns.foldl max 0
noncomputable def countsS (ns : List Int) : List Int := (rangeKs 0 (maxS ns + 1).toNat).map fun k => (ns.count k : Int)
theorem foldl_max : ∀ (ns : List Int) (a : Int), a ≤ ns.foldl max a ∧ (∀ x ∈ ns, x ≤ ns.foldl max a) ∧ (ns.foldl max a = a ∨ ns.foldl max a ∈ ns)
  | [], a => ⟨Int.le_refl _, (fun _ h => nomatch h), .inl rfl⟩
  | b :: l, a => by
    have q := foldl_max l (max a b)
    simp only [List.foldl_cons]
    refine ⟨by omega, fun x hx => ?_, ?_⟩
    · rcases List.mem_cons.mp hx with rfl | hx
      · omega
      · exact q.2.1 x hx
    · rcases q.2.2 with h | h
      · rw [h]
        by_cases hab : a ≤ b
        · right; rw [Int.max_eq_right hab]; exact .head _
        · left; omega
      · right; exact .tail _ h
theorem max_is {ns : List Int} {M : Int} (hm : M ∈ ns) (h : ∀ a ∈ ns, a ≤ M) (h0 : 0 ≤ M) : M = maxS ns := by
  have q := foldl_max ns 0
  have h1 := q.2.1 M hm
  unfold maxS
  rcases q.2.2 with e | e
  · omega
  · have := h _ e; omega
theorem counts_at {ns : List Int} {M : Int} {ys : List Value} (hm : M ∈ ns) (h : ∀ a ∈ ns, a ≤ M) (h0 : 0 ≤ M) (hy : IntsAre ys ((rangeKs 0 (M + 1 - 0).toNat).map fun k => (ns.count k : Int))) : IntsAre ys (countsS ns) := by
  have e := max_is hm h h0
  unfold countsS
  rw [← e]
  rw [Int.sub_zero] at hy
  exact hy
theorem off_mem {x : Addr} : ∀ {news : Led}, LCg.Off1 x news → ∀ p ∈ news, p.1 ≠ x
  | [], _, p, hp => nomatch hp
  | q :: r, h, p, hp => by
    rcases List.mem_cons.mp hp with rfl | hp
    · exact h.1
    · exact off_mem h.2 p hp
theorem off_all {x l y : Addr} {o : Obj} {news : Led} (h : y ≠ x ∧ l ≠ x ∧ LCg.Off1 x news) : ∀ p ∈ (l, o) :: news, p.1 ≠ x := by
  intro p hp
  rcases List.mem_cons.mp hp with rfl | hp
  · exact h.2.1
  · exact off_mem h.2.2 p hp
theorem c_counts0 (w : World) (l : Addr) (vs : List Value) (ns : List Int) (nn : Nat) (news : Led) (hi : IntsAre vs ns) (hlen : ns.length < 50) (hpos : 0 < ns.length) (hall : ∀ x ∈ ns, 0 ≤ x ∧ x < 100) : CL w 1 8 225 [.ref l] ((l, listOf vs.toArray nn) :: news) (RList (countsS ns) ((l, listOf vs.toArray nn) :: news)) := by
  ktr_step
  rename_i hret
  have kstM := kstMark
  refine wpAny_call ?_
  k_dflt cell_enter
  k_steps
  exact hret _ _ _ _ ⟨_, _, _, rfl, rfl, counts_at (by assumption) (by assumption) (by assumption) (by assumption), off_all (by assumption)⟩ (by k_asm) (cb_drop (by k_asm) (by kcj_all))

end
section
variable {prog : Program} {w : World} {A : Around} {E : Value → Shared → Prop} {s : Shared} {env : Env} {h₀ : Heap} {x : Str} {body : List Stmt} {Q : Flow → Shared → Prop}
noncomputable def InvEndM (h₀ : Heap) (L : Addr) (J : (Str → Option Value) → Led → Prop) (own : Led) (s₁ s₂ : Shared) : Prop :=
  ∃ h' tk m' news' nx, s₂ = { s₁ with heap := h', toks := tk } ∧ Fr h₀ L h' m' ∧ News h₀ L h' news' ∧ (∀ p ∈ nx, p ∈ news') ∧ (∀ p ∈ own, p ∈ news') ∧ OwnOff own (nx.map (·.1)) ∧ J m' nx
noncomputable def InvPostM (h₀ : Heap) (L : Addr) (J : (Str → Option Value) → Led → Prop) (own : Led) (s₁ : Shared) (Q : Flow → Shared → Prop) (f : Flow) (s₂ : Shared) : Prop :=
  match f with
  | .ret v => Q (.ret v) s₂
  | .brk => Q .next s₂
  | _ => InvEndM h₀ L J own s₁ s₂
theorem loop_invM {I : Addr} {n : Nat} {P : Nat → Value → Prop} {St : Nat → Heap → Prop} {m₀ : Str → Option Value} {news : Led} (J : Nat → (Str → Option Value) → Led → Prop)
    (W : Walks prog w A I [I] [I] n P St) (hI : ∀ i h, St i h → ∃ o, h.get? I = some o) (hLf : env.locals ≠ I) (hwr : h₀.get? I = none) (hnw : ∀ p ∈ news, p.1 ≠ I) (hst : St 0 s.heap) (F : Fr h₀ env.locals s.heap m₀) (N : News h₀ env.locals s.heap news) (hj : J 0 m₀ news)
    (turn : ∀ i v m₁ news₁ h tk own, i < n → P i v → OwnOff own (news₁.map (·.1)) → J i m₁ news₁ → Fr h₀ env.locals h (fun y => if y = x then some v else m₁ y) → News h₀ env.locals h (news₁ ++ own) →
      wpAny (model prog w) A (execs body env) (InvPostM h₀ env.locals (J (i + 1)) own { s with heap := h, toks := tk } Q) E { s with heap := h, toks := tk })
    (done : ∀ m₁ news₁ h tk, J n m₁ news₁ → Fr h₀ env.locals h m₁ → News h₀ env.locals h news₁ → Q .next { s with heap := h, toks := tk }) :
    LoopAtV prog w A h₀ env x body Q E (.ref I) s := by
  refine ⟨I, [I], [I], n, P, St, m₀, news, J, rfl, W, (fun q => hLf (List.mem_singleton.mp q)), (fun b hb => by rw [List.mem_singleton.mp hb]; exact hwr), (fun p hp q => hnw p hp (List.mem_singleton.mp q)), hst, F, N, hj, ?_, ?_⟩
  · rintro i v m₁ news₁ s₁ own ⟨hh', tk', rfl⟩ hin hP hJ hoff hown hget hall hSt F₁ N₁
    have hsep : OwnOff own (news₁.map (·.1)) := by
      intro p hp b hb e
      obtain ⟨q, hq, rfl⟩ := List.mem_map.mp hb
      exact hoff q hq (e ▸ hown p hp)
    have N₂ : News h₀ env.locals hh' (news₁ ++ own) := fun p hp => N₁ p ((List.mem_append.mp hp).elim (fun h => List.mem_append.mpr (.inr h)) fun h => List.mem_append.mpr (.inl h))
    obtain ⟨o, ho⟩ := hI _ _ hSt
    have hIo : (I, o) ∈ own := hall I (List.mem_singleton.mpr rfl) hwr o ho
    refine wpAny_mono (turn i v m₁ news₁ hh' tk' own hin hP hsep hJ F₁ N₂) (fun f s₂ p => ?_) fun _ _ e => e
    have fin : InvEndM h₀ env.locals (J (i + 1)) own { s with heap := hh', toks := tk' } s₂ → LoopStepU h₀ env.locals [I] own (J (i + 1)) { s with heap := hh', toks := tk' } .next s₂ := by
      rintro ⟨h', tk, m', news', nx, e, F', N', hn, ho', ha, hm⟩
      refine ⟨rfl, h', tk, m', nx, e, F', fun p hp => N' p ((List.mem_append.mp hp).elim (ho' p) (hn p)), fun p hp hq => ?_, hm⟩
      exact ha (I, o) hIo p.1 (List.mem_map.mpr ⟨p, hp, rfl⟩) (List.mem_singleton.mp hq).symm
    cases f with
    | ret v => exact .ret p
    | brk => exact .brk p
    | next => exact .next (fin p)
    | cont => exact .cont (fin p)
  · rintro h' tk m' news' F' N' _ hJ
    exact done m' news' h' tk hJ F' N'
theorem pyIter_strI {xt : Str} {t : Tok} {Q : Value → Shared → Prop}
    (hQ : ∀ (o : Obj) (St : Nat → Heap → Prop), (∀ A' : Around, A'.handled = none → Walks prog w A' s.heap.objs.size [s.heap.objs.size] [s.heap.objs.size] xt.cps.size (SignAt xt) St) → (∀ i h, St i h → ∃ o, h.get? s.heap.objs.size = some o) → St 0 (s.heap.push o) →
      Q (.ref s.heap.objs.size) { s with heap := s.heap.push o }) : wpAny (model prog w) A (pyIter (.str xt t)) Q E s := by
  cases ha : xt.cps.all (· < 128)
  · exact wpAny_pyIter_wide ha (hQ _ _ (fun A' hA => Walks.strWide hA _ xt t) (fun i h ⟨o, e, _⟩ => ⟨o, e⟩) ⟨_, Heap.get?_push_size _ rfl, rfl, rfl⟩)
  · exact wpAny_pyIter_ascii ha (hQ _ _ (fun A' hA => Walks.strAscii hA _ xt t) (fun i h ⟨o, e, _⟩ => ⟨o, e⟩) ⟨_, Heap.get?_push_size _ rfl, rfl, rfl⟩)
theorem kst_textM {σ : Type} {xt : Str} {tx : Tok} {m₀ : Str → Option Value} (Led : σ → Led) (ps : σ → List (Str × Value)) (Facts : σ → Prop) (stored : List Str) (P : List Int → σ → Prop) (c₀ : σ)
    (hh : A.handled = none) (F : Fr h₀ env.locals s.heap m₀) (N : News h₀ env.locals s.heap (Led c₀)) (hf : Facts c₀) (hk : ∀ p ∈ ps c₀, m₀ p.1 = some p.2) (hp : P [] c₀)
    (turn : ∀ (c : σ) (pre post : List Int) (n : Nat) t (u : Str → Option Value) h tk own, KStt.codes xt = pre ++ (n : Int) :: post → OwnOff own ((Led c).map (·.1)) → Facts c → P pre c →
      Fr h₀ env.locals h (fun y => if y = x then some (.str ⟨#[n]⟩ t) else kstB (fun z => if stored.contains z then u z else m₀ z) (ps c) y) → News h₀ env.locals h (Led c ++ own) →
      wpAny (model prog w) A (execs body env) (InvPostM h₀ env.locals (KstS Led ps Facts x stored m₀ P (pre ++ [(n : Int)])) own { s with heap := h, toks := tk } Q) E { s with heap := h, toks := tk })
    (done : ∀ (c : σ) (u : Str → Option Value) h tk, Facts c → P (KStt.codes xt) c → Fr h₀ env.locals h (fun y => if y = x then u y else kstB (fun z => if stored.contains z then u z else m₀ z) (ps c) y) → News h₀ env.locals h (Led c) → Q .next { s with heap := h, toks := tk }) :
    wpAny (model prog w) A (pyIter (.str xt tx)) (fun it s₂ => LoopAtV prog w A h₀ env x body Q E it s₂) E s := by
  refine pyIter_strI fun o St hW hI hst => ?_
  have W := hW A hh
  refine loop_invM (fun i m nx => KstS Led ps Facts x stored m₀ P ((KStt.codes xt).take i) m nx) W hI (fun e => ?_) (next_is_new F) (fun p hp e => ?_) hst (F.push _) (fun p hp => ⟨Heap.get?_push_of_some _ (N p hp).1, (N p hp).2⟩) ⟨c₀, rfl, hf, hk, fun _ _ _ _ => rfl, by simpa using hp⟩ ?_ ?_
  · exact absurd F.ns.lt (e ▸ Nat.lt_irrefl _)
  · exact absurd (Heap.lt_size (N p hp).1) (e ▸ Nat.lt_irrefl _)
  · rintro i v m₁ nx h tk own hi ⟨n, u, hn, rfl⟩ hoff ⟨c, rfl, hf', h1, h2, hp'⟩ F₁ N₁
    have hn' := KStt.code_at hn
    have hs : (KStt.codes xt).take (i + 1) = (KStt.codes xt).take i ++ [(n : Int)] := by simp [List.take_add_one, hn']
    have e : KStt.codes xt = (KStt.codes xt).take i ++ (n : Int) :: (KStt.codes xt).drop (i + 1) := by
      have ht := List.take_append_drop (i + 1) (KStt.codes xt)
      rw [hs, List.append_assoc] at ht
      exact ht.symm
    rw [hs]
    exact turn c _ _ n u m₁ h tk own e hoff hf' hp' (kst_fr h1 h2 F₁) N₁
  · rintro m₁ nx h tk ⟨c, rfl, hf', h1, h2, hp'⟩ F₁ N₁
    have hl : xt.cps.size = (KStt.codes xt).length := (KStt.codes_length xt).symm
    rw [hl, List.take_length] at hp'
    exact done c m₁ h tk hf' hp' (kst_frOut h1 h2 F₁) N₁
end

section
noncomputable abbrev WS := Addr × List Value × List Int × Nat × Int × Nat × Int × Nat × Int × Nat
noncomputable abbrev wsHd (c : WS) : Addr × Obj := (c.1, listOf c.2.1.toArray c.2.2.2.1)
noncomputable abbrev wsPs (c : WS) : List (Str × Value) := [(Str.ofString "count", .ref c.1), (Str.ofString "b", .int c.2.2.2.2.1 c.2.2.2.2.2.1), (Str.ofString "n", .int c.2.2.2.2.2.2.1 c.2.2.2.2.2.2.2.1), (Str.ofString "nt", .int c.2.2.2.2.2.2.2.2.1 c.2.2.2.2.2.2.2.2.2)]
noncomputable def bumpW (cnt : List Int) (b : Int) : List Int :=
  if (cnt.length : Int) ≤ b then (cnt ++ (List.replicate (b - (cnt.length : Int) + 1).toNat [(0 : Int)]).flatten).set b.toNat ((cnt ++ (List.replicate (b - (cnt.length : Int) + 1).toNat [(0 : Int)]).flatten).getD b.toNat 0 + 1)
  else cnt.set b.toNat (cnt.getD b.toNat 0 + 1)
noncomputable def stepW (s : List Int × Int × Int × Int) (c : Int) : List Int × Int × Int × Int := if c = 32 then (s.1, s.2.1 + 1, s.2.2.1 + 1, s.2.2.2) else (bumpW s.1 s.2.1, 0, s.2.2.1 + 1, s.2.2.2 + 1)
noncomputable def foldW (l : List Int) : List Int × Int × Int × Int := l.foldl stepW ([], 0, 0, 0)
noncomputable def wsP (rest : Led) (pre : List Int) (c : WS) : Prop := AllLt c.1 rest ∧ (c.2.2.1, c.2.2.2.2.1, c.2.2.2.2.2.2.1, c.2.2.2.2.2.2.2.2.1) = foldW pre ∧ 0 ≤ c.2.2.2.2.1 ∧ c.2.2.2.2.1 ≤ (pre.length : Int) ∧ c.2.2.1.length ≤ pre.length + 1
theorem foldW_snoc (l : List Int) (c : Int) : foldW (l ++ [c]) = stepW (foldW l) c := by unfold foldW; rw [List.foldl_append]; rfl
theorem bumpW_len {cnt : List Int} {b : Int} {k : Nat} (h0 : 0 ≤ b) (hb : b ≤ (k : Int)) (hc : cnt.length ≤ k + 1) : (bumpW cnt b).length ≤ k + 1 := by
  unfold bumpW
  split
  · rw [List.length_set, List.length_append, List.length_flatten, List.map_replicate, List.sum_replicate_nat]; simp; omega
  · rw [List.length_set]; exact hc
theorem wsP_sp {rest : Led} {pre : List Int} {q : Addr} {vs : List Value} {cnt : List Int} {nn t1 t2 t3 t1' t2' : Nat} {b n nt : Int} {k : Nat} (h : wsP rest pre (q, vs, cnt, nn, b, t1, n, t2, nt, t3)) (hk : ((⟨#[k]⟩ : Str) == Str.ofString " ") = true) :
    wsP rest (pre ++ [(k : Int)]) (q, vs, cnt, nn, b + 1, t1', n + 1, t2', nt, t3) := by
  obtain ⟨h0, h1, h2, h3, h4⟩ := h
  have e := chr_eq (c := 32) rfl hk
  subst e
  dsimp only at h0 h1 h2 h3 h4
  refine ⟨h0, ?_, by dsimp only; omega, by dsimp only; simp; omega, by dsimp only; simp; omega⟩
  rw [foldW_snoc, ← h1]; rfl
theorem wsP_tab {rest : Led} {pre : List Int} {q q' : Addr} {vs vs' : List Value} {cnt cnt' : List Int} {nn nn' t1 t2 t3 t1' t2' t3' : Nat} {b n nt : Int} {k : Nat} (h : wsP rest pre (q, vs, cnt, nn, b, t1, n, t2, nt, t3)) (hk : ((⟨#[k]⟩ : Str) == Str.ofString " ") = false)
    (hq : AllLt q' rest) (hc : cnt' = bumpW cnt b) : wsP rest (pre ++ [(k : Int)]) (q', vs', cnt', nn', 0, t1', n + 1, t2', nt + 1, t3') := by
  obtain ⟨h0, h1, h2, h3, h4⟩ := h
  have e := chr_ne (c := 32) rfl hk
  have e' : ¬ (k : Int) = 32 := by omega
  dsimp only at h0 h1 h2 h3 h4
  refine ⟨hq, ?_, by dsimp only; omega, by dsimp only; omega, ?_⟩
  · rw [foldW_snoc, ← h1]; subst hc; simp only [stepW, if_neg e']
  · have := bumpW_len h2 h3 h4
    subst hc; dsimp only; simp; omega
theorem ext_facts {a b c d e f D : Addr} {news own : Led} {o1 o2 o3 : Obj} (h : a < D ∧ b < D ∧ c < D ∧ d < D ∧ e < D ∧ f < D ∧ AllLt D (news ++ own)) : AllLt D ((d, o1) :: (e, o2) :: (f, o3) :: news) :=
  ⟨h.2.2.2.1, h.2.2.2.2.1, h.2.2.2.2.2.1, allLt_of fun p hp => allLt_mem h.2.2.2.2.2.2 p (List.mem_append_left _ hp)⟩
theorem ext_off {a b c d e f D q : Addr} {news own : Led} {l : List Addr} (h : a < D ∧ b < D ∧ c < D ∧ d < D ∧ e < D ∧ f < D ∧ AllLt D (news ++ own)) (ho : OwnOff own (q :: l)) : OwnOff own (D :: l) := fun p hp b hb => by
  rcases List.mem_cons.mp hb with rfl | hb
  · exact Nat.ne_of_lt (allLt_mem h.2.2.2.2.2.2 p (List.mem_append_right _ hp))
  · exact ho p hp b (.tail _ hb)
theorem ws_end {h₀ h' : Heap} {L : Addr} {x : Str} {rest own news' : Led} {m₀ m' : Str → Option Value} {pre : List Int} {s₁ : Shared} {Q : Flow → Shared → Prop} {tk : Nat} (c : WS) (F : Fr h₀ L h' m') (N : News h₀ L h' news') (hn : ∀ p ∈ wsHd c :: rest, p ∈ news') (ho : ∀ p ∈ own, p ∈ news') (ha : OwnOff own (c.1 :: rest.map (·.1)))
    (hf : IntsAre c.2.1 c.2.2.1) (hk : ∀ p ∈ wsPs c, m' p.1 = some p.2) (hr : ∀ z, z ≠ x → (∀ p ∈ wsPs c, z ≠ p.1) → ([] : List Str).contains z = false → m' z = m₀ z) (hp : wsP rest pre c) :
    InvPostM h₀ L (KstS (fun c => wsHd c :: rest) wsPs (fun c => IntsAre c.2.1 c.2.2.1) x [] m₀ (wsP rest) pre) own s₁ Q .next { s₁ with heap := h', toks := tk } :=
  ⟨h', tk, m', news', wsHd c :: rest, rfl, F, N, hn, ho, ha, c, rfl, hf, hk, hr, hp⟩
section
variable {prog : Program} {w : World} {A : Around} {E : Value → Shared → Prop} {s : Shared} {env : Env} {h₀ : Heap} {x : Str} {body : List Stmt} {Q : Flow → Shared → Prop}
theorem ws_text {xt : Str} {tx : Tok} {m₀ : Str → Option Value} {rest : Led} {q nn t1 t2 t3 : Nat} (hlt : AllLt q rest) (hlen : xt.length < 40) (hch : ∀ c ∈ KStt.codes xt, c = 32 ∨ c = 9)
    (hh : A.handled = none) (F : Fr h₀ env.locals s.heap m₀) (N : News h₀ env.locals s.heap ((q, listOf #[] nn) :: rest)) (hk : ∀ p ∈ wsPs (q, [], [], nn, 0, t1, 0, t2, 0, t3), m₀ p.1 = some p.2)
    (turn : ∀ (q' : Addr) (vs : List Value) (cnt : List Int) (nn' : Nat) (b : Int) (tb : Nat) (n : Int) (tn : Nat) (nt : Int) (tnt : Nat) (pre : List Int) (k : Nat) t (u : Str → Option Value) h tk own, pre.length < 40 → ((k : Int) = 32 ∨ (k : Int) = 9) → OwnOff own (q' :: rest.map (·.1)) → IntsAre vs cnt → AllLt q' rest → wsP rest pre (q', vs, cnt, nn', b, tb, n, tn, nt, tnt) →
      0 ≤ b → b < 40 → cnt.length ≤ 41 →
      Fr h₀ env.locals h (fun y => if y = x then some (.str ⟨#[k]⟩ t) else if y = Str.ofString "count" then some (.ref q') else if y = Str.ofString "b" then some (.int b tb) else if y = Str.ofString "n" then some (.int n tn) else if y = Str.ofString "nt" then some (.int nt tnt) else m₀ y) → News h₀ env.locals h ((q', listOf vs.toArray nn') :: rest ++ own) →
      wpAny (model prog w) A (execs body env) (InvPostM h₀ env.locals (KstS (fun c => wsHd c :: rest) wsPs (fun c => IntsAre c.2.1 c.2.2.1) x [] m₀ (wsP rest) (pre ++ [(k : Int)])) own { s with heap := h, toks := tk } Q) E { s with heap := h, toks := tk })
    (done : ∀ (q' : Addr) (vs : List Value) (cnt : List Int) (nn' : Nat) (b : Int) (tb : Nat) (n : Int) (tn : Nat) (nt : Int) (tnt : Nat) (u : Str → Option Value) h tk, IntsAre vs cnt → AllLt q' rest → (cnt, b, n, nt) = foldW (KStt.codes xt) → 0 ≤ b → b < 40 → cnt.length ≤ 41 →
      Fr h₀ env.locals h (fun y => if y = x then u y else if y = Str.ofString "count" then some (.ref q') else if y = Str.ofString "b" then some (.int b tb) else if y = Str.ofString "n" then some (.int n tn) else if y = Str.ofString "nt" then some (.int nt tnt) else m₀ y) → News h₀ env.locals h ((q', listOf vs.toArray nn') :: rest) → Q .next { s with heap := h, toks := tk }) :
    wpAny (model prog w) A (pyIter (.str xt tx)) (fun it s₂ => LoopAtV prog w A h₀ env x body Q E it s₂) E s := by
  have hcl := KStt.codes_length xt
  refine kst_textM (σ := WS) (fun c => wsHd c :: rest) wsPs (fun c => IntsAre c.2.1 c.2.2.1) [] (wsP rest) (q, [], [], nn, 0, t1, 0, t2, 0, t3) hh F N .nil hk ⟨hlt, rfl, Int.le_refl _, Int.le_refl _, Nat.zero_le _⟩ ?_ ?_
  · rintro ⟨q', vs, cnt, nn', b, tb, n, tn, nt, tnt⟩ pre post k t u h tk own e hoff hf ⟨p0, p1, p2, p3, p4⟩ F' N'
    have hl : pre.length < 40 := by have := congrArg List.length e; simp only [List.length_append, List.length_cons] at this; omega
    exact turn q' vs cnt nn' b tb n tn nt tnt pre k t u h tk own hl (hch _ (by rw [e]; simp)) hoff hf p0 ⟨p0, p1, p2, p3, p4⟩ p2 (by dsimp only at p3; omega) (by dsimp only at p4; omega) F' N'
  · rintro ⟨q', vs, cnt, nn', b, tb, n, tn, nt, tnt⟩ u h tk hf ⟨p0, p1, p2, p3, p4⟩ F' N'
    exact done q' vs cnt nn' b tb n tn nt tnt u h tk hf p0 p1 p2 (by dsimp only at p3; omega) (by dsimp only at p4; omega) F' N'
end
noncomputable abbrev tupW (vs : List Value) : Obj := { cls := .type "tuple", data := .seq vs.toArray }
structure WsObj where
  (x d tn tc : Addr) (vs : List Value) (xs : Str) (si : Bool) (n nt b : Int) (tx t1 t2 t3 k1 k2 k3 k4 k5 : Nat)
noncomputable abbrev wsEs (P : Params) (o : WsObj) : List DictEntry := [⟨PyData.keyHash P (Str.ofString "raw"), .str (Str.ofString "raw") o.k1, .str o.xs o.tx⟩, ⟨PyData.keyHash P (Str.ofString "n"), .str (Str.ofString "n") o.k2, .int o.n o.t1⟩, ⟨PyData.keyHash P (Str.ofString "nt"), .str (Str.ofString "nt") o.k3, .int o.nt o.t2⟩,
  ⟨PyData.keyHash P (Str.ofString "norm"), .str (Str.ofString "norm") o.k4, .ref o.tn⟩, ⟨PyData.keyHash P (Str.ofString "is_simple"), .str (Str.ofString "is_simple") o.k5, .bool o.si⟩]
noncomputable abbrev wsLed (P : Params) (o : WsObj) (news : Led) : Led := (o.tn, tupW [.ref o.tc, .int o.b o.t3]) :: (o.tc, tupW o.vs) :: (o.x, instObj 83 o.d) :: (o.d, dictOf (wsEs P o) 5) :: news
theorem ws_sub {P : Params} {o : WsObj} {news big : Led} (h1 : (o.tn, tupW [.ref o.tc, .int o.b o.t3]) ∈ big) (h2 : (o.tc, tupW o.vs) ∈ big) (h3 : (o.x, instObj 83 o.d) ∈ big) (h4 : (o.d, dictOf (wsEs P o) 5) ∈ big) (h5 : ∀ p ∈ news, p ∈ big) : ∀ p ∈ wsLed P o news, p ∈ big := by
  intro p hp
  rcases List.mem_cons.mp hp with rfl | hp
  · exact h1
  rcases List.mem_cons.mp hp with rfl | hp
  · exact h2
  rcases List.mem_cons.mp hp with rfl | hp
  · exact h3
  rcases List.mem_cons.mp hp with rfl | hp
  · exact h4
  exact h5 p hp
noncomputable def RWs (P : Params) (x : Str) (news : Led) : Value → Led → Prop := fun v nx => ∃ (o : WsObj) (cnt : List Int), v = .ref o.x ∧ nx = wsLed P o news ∧ IntsAre o.vs cnt ∧ (cnt, o.b, o.n, o.nt) = foldW (KStt.codes x) ∧ cnt.length ≤ 41 ∧ o.tc < o.tn ∧ o.x < o.tc ∧ o.d < o.x ∧ ∀ p ∈ news, p.1 < o.d
theorem tup_vs {prog : Program} {w : World} {A : Around} {E : Value → Shared → Prop} {s : Shared} {h₀ : Heap} {L l : Addr} {m : Str → Option Value} {news : Led} {vs : List Value} {cnt : List Int} {nn : Nat} {Q : Value → Shared → Prop} (F : Fr h₀ L s.heap m) (N : News h₀ L s.heap news) (hm : (l, listOf vs.toArray nn) ∈ news) (hi : IntsAre vs cnt) (hz : cnt.length ≤ 41)
    (h : ∀ D h', Fr h₀ L h' m → News h₀ L h' ((D, ({ cls := .type "tuple", data := .seq vs.toArray } : Obj)) :: news) → (∀ p ∈ news, p.1 < D) → Q (.ref D) { s with heap := h' }) : wpAny (model prog w) A (call (.type "tuple") [.ref l]) Q E s :=
  kde_tupleOf F N (News.isList N hm) (by have := hi.length; rw [List.size_toArray]; omega) rfl h
local macro_rules | `(tactic| walk_at "call type:tuple") => `(tactic| (k_here; k_dflt (refine' tup_vs ?k1 ?k2 ?k3 ?k4 ?k5 ?_; (case k1 => k_asm); (case k2 => k_asm); (case k3 => k_mem); (case k4 => assumption); (case k5 => assumption); k_whole); intro D' h' F' N' l1; (try k_lt l1)))
local macro_rules | `(tactic| walk_at "zz1") => `(tactic| fail)
theorem c_winit (w : World) (x : Str) (t : Tok) (news : Led) (hx : x.length < 40) (hch : ∀ c ∈ KStt.codes x, c = 32 ∨ c = 9) : CL w 3 24 83 [.str x t] news (RWs w.params x news) := by
  ktr_step
  rename_i hret
  have kstM := kstMark
  k_dflt (refine' call_cls ?k1 ?k2 ?k3 ?k4 ?k5 ?k6 ?_; (case k1 => k_asm); (case k2 => k_asm); (case k3 => k_asm); (case k4 => k_is); (case k5 => k_is); (case k6 => k_is); k_whole; intro x' d' h' F' N' l1 l2; (try k_lt l1); (try k_lt2 l2); (try k_sweep); cell_enter)
  k_steps
  k_here
  (rename Fr _ _ _ _ => lF'); (rename News _ _ _ _ => lN')
  with_unfolding_all refine ws_text (by simp only [AllLt]; assumption) hx hch rfl lF' lN' (by kst_all) ?_ ?_
  · intro q9 vs9 cnt nn9 b tb n tn nt tnt pre k t9 u h9 tk9 own hpl hk9 hoff hi9 hlt9 hfw hb0 hb1 hc9 F9 N9
    simp only [AllLt] at hlt9
    (try simp only [List.nil_append, List.cons_append, List.append_nil] at N9)
    (try simp only [List.map_cons, List.map_nil] at hoff)
    (try k_fold)
    k_steps
    · (rename News _ _ _ _ => nE'); exact ws_end (_, _, _, _, _, _, _, _, _, _) (by assumption) nE' (by kst_in) (by kst_in) hoff (by kst_facts) (by kst_all) (by kst_same) (wsP_sp hfw (by assumption))
    · (rename News _ _ _ _ => nE'); exact ws_end (_, _, _, _, _, _, _, _, _, _) (by assumption) nE' (by kst_in) (by kst_in) (ext_off (by assumption) hoff) (by kst_facts) (by kst_all) (by kst_same) (wsP_tab hfw (by assumption) (ext_facts (by assumption)) (if_pos (by assumption)).symm)
    · (rename News _ _ _ _ => nE'); exact ws_end (_, _, _, _, _, _, _, _, _, _) (by assumption) nE' (by kst_in) (by kst_in) hoff (by kst_facts) (by kst_all) (by kst_same) (wsP_tab hfw (by assumption) (by simp only [AllLt]; assumption) (if_neg (by assumption)).symm)
    · exfalso
      rcases hk9 with hk9 | hk9
      · exact chr_ne (c := 32) rfl (by assumption) (by omega)
      · exact chr_ne (n := k) (c := 9) (y := Str.ofString "\t") rfl (by assumption) (by omega)
  · intro q9 vs9 cnt nn9 b tb n tn nt tnt u h9 tk9 hi9 hlt9 hfw hb0 hb1 hc9 F9 N9
    simp only [AllLt] at hlt9
    (try simp only [List.nil_append, List.cons_append, List.append_nil] at N9)
    (try simp only [List.map_cons, List.map_nil] at hoff)
    (try k_fold)
    k_steps
    refine' hret _ _ _ _ ⟨⟨_, _, _, _, _, _, _, _, _, _, _, _, _, _, _, _, _, _, _⟩, cnt, rfl, rfl, hi9, hfw, hc9, ?a, ?b, ?c, l1⟩ ?F ?N
    case N => exact cb_drop (by k_asm) (ws_sub (.head _) (.tail _ (.head _)) (.tail _ (.tail _ (.tail _ (.tail _ (.head _))))) (.tail _ (.tail _ (.tail _ (.tail _ (.tail _ (.head _)))))) (fun _ h => .tail _ (.tail _ (.tail _ (.tail _ (.tail _ (.tail _ h)))))))
    case F => k_asm
    all_goals (have l3 : @LT.lt Nat _ d' x' := l2; dsimp only; first | exact l2 | omega | (simp only [Addr] at *; omega) | trace_state)

end
section
noncomputable def indZ (size : Int) (cnt : List Int) (pre : List Int) : Int := pre.foldl (fun il i => il + i.fdiv size * cnt.getD i.toNat 0) 0
theorem indZ_snoc {size il : Int} {cnt pre : List Int} {n : Int} (h : il = indZ size cnt pre) : il + n.fdiv size * cnt.getD n.toNat 0 = indZ size cnt (pre ++ [n]) := by
  subst h; unfold indZ; rw [List.foldl_append]; rfl
theorem ind_at {b size nt f z : Int} (h : f = z) : b + size * (f + nt) = b + size * (z + nt) := by rw [h]
theorem len_tup {prog : Program} {w : World} {A : Around} {E : Value → Shared → Prop} {s : Shared} {h₀ : Heap} {L l : Addr} {news : Led} {vs : List Value} {cnt : List Int} {Q : Value → Shared → Prop} (N : News h₀ L s.heap news) (hm : (l, tupW vs) ∈ news) (hi : IntsAre vs cnt) (hz : cnt.length ≤ 41)
    (h : Q (.int (cnt.length : Int) (s.toks + 1)) { s with toks := s.toks + 1 + 1 }) : wpAny (model prog w) A (call (.builtin "len") [.ref l]) Q E s :=
  kun_lenT (News.isTup N hm) (by have := hi.length; rw [List.size_toArray]; omega) (by omega) h
local macro_rules | `(tactic| walk_at "call builtin:len") => `(tactic| (k_here; k_dflt (refine' len_tup ?k1 ?k2 ?k3 ?k4 ?_; (case k1 => k_asm); (case k2 => k_mem); (case k3 => assumption); (case k4 => assumption); k_whole)))
theorem getD_b {cnt : List Int} {k : Nat} (hb : ∀ v ∈ cnt, 0 ≤ v ∧ v ≤ 41) : 0 ≤ cnt.getD k 0 ∧ cnt.getD k 0 ≤ 41 := by
  by_cases h : k < cnt.length
  · have e : cnt.getD k 0 = cnt[k] := by simp [List.getD, h]
    rw [e]; exact hb _ (List.getElem_mem h)
  · have e : cnt.getD k 0 = 0 := by simp [List.getD, Nat.not_lt.mp h]
    rw [e]; omega
theorem bits41 : ∀ n : Nat, n < 42 → Builtin.Int.intBits (n : Int) ≤ 64 := by decide +kernel
theorem mulOk_cnt {a : Int} {cnt : List Int} {k : Nat} (hb : ∀ v ∈ cnt, 0 ≤ v ∧ v ≤ 41) : IntMulOk a (cnt.getD k 0) :=
  .of_right (by
    have h := getD_b (k := k) hb
    obtain ⟨n, hn⟩ := Int.eq_ofNat_of_zero_le h.1
    rw [hn]
    exact bits41 n (by omega))
local macro_rules | `(tactic| walk_at "binaryOp Mult int int") => `(tactic| (k_here; k_dflt (refine mul_int ?_ (mulOk_cnt (by assumption)))))
local macro_rules | `(tactic| walk_at "zz2") => `(tactic| fail)
set_option maxHeartbeats 1000000 in
theorem c_ind (w : World) (x d tn tc : Addr) (vs : List Value) (xs : Str) (si : Bool) (n nt b : Int) (tx t1 t2 t3 k1 k2 k3 k4 k5 : Nat) (cnt : List Int) (size : Int) (t : Tok) (news : Led) (h1 : 1 ≤ size) (h3 : size ≤ 3) (hi : IntsAre vs cnt) (hc : cnt.length ≤ 41) (hb : ∀ v ∈ cnt, 0 ≤ v ∧ v ≤ 41) (hnt : 0 ≤ nt ∧ nt ≤ 41) :
    CL w 1 8 52 [.ref x, .int size t] (wsLed w.params ⟨x, d, tn, tc, vs, xs, si, n, nt, b, tx, t1, t2, t3, k1, k2, k3, k4, k5⟩ news) (RInt (b + size * (indZ size cnt (rangeKs size ((cnt.length : Int) - size).toNat) + nt)) (wsLed w.params ⟨x, d, tn, tc, vs, xs, si, n, nt, b, tx, t1, t2, t3, k1, k2, k3, k4, k5⟩ news)) := by
  ktr_step
  rename_i hret
  have kstM := kstMark
  refine wpAny_call ?_
  k_dflt cell_enter
  k_with "pyIter ref" => k_state (fun pre il => il = indZ size cnt pre) "il"
  k_with "state" => first | exact indZ_snoc (by assumption) | rfl
  k_steps
  exact hret _ _ _ _ (RInt.mk (ind_at (by assumption))) (by k_asm) (cb_drop (by k_asm) (by kcj_all))

end
section
variable {prog : Program} {w : World} {A : Around} {E : Value → Shared → Prop} {s : Shared} {env : Env} {h₀ : Heap} {L : Addr} {m : Str → Option Value}
theorem pyIter_strK {xt : Str} {t : Tok} {Q : Value → Shared → Prop}
    (hQ : ∀ (o : Obj) (St : Nat → Heap → Prop), (∀ A' : Around, A'.handled = none → Walks prog w A' s.heap.objs.size [s.heap.objs.size] [s.heap.objs.size] xt.cps.size (SignAt xt) St) → (∀ i h, St i h → ∃ o, h.get? s.heap.objs.size = some o) →
      (∀ i h h' o, St i h → h.get? s.heap.objs.size = some o → h'.get? s.heap.objs.size = some o → St i h') → St 0 (s.heap.push o) →
      Q (.ref s.heap.objs.size) { s with heap := s.heap.push o }) : wpAny (model prog w) A (pyIter (.str xt t)) Q E s := by
  cases ha : xt.cps.all (· < 128)
  · exact wpAny_pyIter_wide ha (hQ _ _ (fun A' hA => Walks.strWide hA _ xt t) (fun i h ⟨o, e, _⟩ => ⟨o, e⟩) (fun i h h' o ⟨o', e', r⟩ e1 e2 => by rw [e1] at e'; cases e'; exact ⟨o, e2, r⟩) ⟨_, Heap.get?_push_size _ rfl, rfl, rfl⟩)
  · exact wpAny_pyIter_ascii ha (hQ _ _ (fun A' hA => Walks.strAscii hA _ xt t) (fun i h ⟨o, e, _⟩ => ⟨o, e⟩) (fun i h h' o ⟨o', e', r⟩ e1 e2 => by rw [e1] at e'; cases e'; exact ⟨o, e2, r⟩) ⟨_, Heap.get?_push_size _ rfl, rfl, rfl⟩)
noncomputable def SrcST (prog : Program) (w : World) (A : Around) (h₀ : Heap) (L : Addr) (m : Str → Option Value) (env : Env) (ct elt : Expr) (x : Str) (scope : Scope) (cl : List (Str × Addr)) (Fin : Shared → List Value → Led → Prop) (xv : Value) (s₁ : Shared) : Prop :=
  ∃ y t news, xv = .str y t ∧ A.handled = none ∧ Fr h₀ L s₁.heap m ∧ News h₀ L s₁.heap news ∧ y.cps.size ≤ sizeLine ∧
    ∀ g, LCt.CompRestT prog w A h₀ L m env ct elt x scope cl { s₁ with heap := g } (fun _ => True) (SignAt y) (Fin { s₁ with heap := g }) y.cps.size 0 [] news
theorem ListComp_TS {ct elt iter : Expr} {x : Str} {px : Pos} {scope : Scope} {cl : List (Str × Addr)} {pos : Pos} {Q : Value → Shared → Prop} (F₀ : Fr h₀ L s.heap m)
    (hclos : closureFor scope env = pure cl) (hcell : ∀ y ∈ scope.names, y.2 ≠ .cell) (hkind : scope.kind = .function)
    (hnames : ∀ y ∈ scope.names, y.2 = .local → scope.names.lookup y.1 = some .local) (hx : scope.names.lookup x = some .local)
    (h : wpAny (model prog w) A (eval iter env) (SrcST prog w A h₀ L m env ct elt x scope cl (fun s₂ => LCg.FinE h₀ L m s₂ Q)) E s)
    (hs : ∀ x, foldedSetIterable iter env x = pure x := by intro _; rfl) :
    wpAny (model prog w) A (eval (.ListComp elt [⟨.Name x px, iter, [ct], 0⟩] scope pos) env) Q E s := by
  rw [eval_ListComp]
  refine wpAny_comprehension_free (use := none) rfl hs hclos hkind hnames (wpAny_mono h (fun xv s₁ h₁ => ?_) fun _ _ e => e)
  obtain ⟨y, t, news, rfl, hh, F, N, hsz, R⟩ := h₁
  refine pyIter_strK fun o St hW hI hSt hst => ?_
  refine LCt.block_T (hW A hh) hsz hI (fun i h h' o nw st e e' _ _ _ => hSt i h h' o st e e') hcell hkind hx hst (fun b hb => ?_)
    (F.keeps fun _ _ e => Heap.get?_push_of_some _ e) (N.grown fun _ _ e => Heap.get?_push_of_some _ e) (Nat.ne_of_lt F.ns.lt) (next_is_new F) (fun p hp => Nat.ne_of_lt (Heap.lt_size (N p hp).1)) trivial (R _) ?_
  · rw [List.mem_singleton.mp hb]
    show s₁.heap.objs.size < (s₁.heap.push _).objs.size
    rw [Heap.size_push]; exact Nat.lt_succ_self _
  · intro D C h tk m' ys news' F' N' o1 hn hC₀ hD₀ hCL hDL hCD offC fin
    refine ⟨m', hn, fun h'' hs'' => fin D h'' tk (F'.change hs'' hCL hC₀) (fun p hp => ?_) o1⟩
    refine ⟨hs''.extBut _ _ ?_ (N' p hp).1, (N' p hp).2⟩
    rcases List.mem_cons.mp hp with rfl | hp
    · exact Ne.symm hCD
    · exact offC p hp
noncomputable def SrcSU (prog : Program) (w : World) (A : Around) (h₀ : Heap) (L : Addr) (m : Str → Option Value) (env : Env) (elt : Expr) (x : Str) (scope : Scope) (cl : List (Str × Addr)) (Fin : Shared → List Value → Led → Prop) (xv : Value) (s₁ : Shared) : Prop :=
  ∃ y t news, xv = .str y t ∧ A.handled = none ∧ Fr h₀ L s₁.heap m ∧ News h₀ L s₁.heap news ∧ y.cps.size ≤ sizeLine ∧
    ∀ g, LCg.CompRest prog w A h₀ L m env elt x scope cl { s₁ with heap := g } (fun _ => True) (SignAt y) (Fin { s₁ with heap := g }) y.cps.size 0 [] news
theorem ListComp_US {elt iter : Expr} {x : Str} {px : Pos} {scope : Scope} {cl : List (Str × Addr)} {pos : Pos} {Q : Value → Shared → Prop} (F₀ : Fr h₀ L s.heap m)
    (hclos : closureFor scope env = pure cl) (hcell : ∀ y ∈ scope.names, y.2 ≠ .cell) (hkind : scope.kind = .function)
    (hnames : ∀ y ∈ scope.names, y.2 = .local → scope.names.lookup y.1 = some .local) (hx : scope.names.lookup x = some .local)
    (h : wpAny (model prog w) A (eval iter env) (SrcSU prog w A h₀ L m env elt x scope cl (fun s₂ => LCg.FinE h₀ L m s₂ Q)) E s)
    (hs : ∀ x, foldedSetIterable iter env x = pure x := by intro _; rfl) :
    wpAny (model prog w) A (eval (.ListComp elt [⟨.Name x px, iter, [], 0⟩] scope pos) env) Q E s := by
  rw [eval_ListComp]
  refine wpAny_comprehension_free (use := none) rfl hs hclos hkind hnames (wpAny_mono h (fun xv s₁ h₁ => ?_) fun _ _ e => e)
  obtain ⟨y, t, news, rfl, hh, F, N, hsz, R⟩ := h₁
  refine pyIter_strK fun o St hW hI hSt hst => ?_
  refine LCg.block_U (hW A hh) hsz hI (fun i h h' o nw st e e' _ _ _ => hSt i h h' o st e e') hcell hkind hx hst (fun b hb => ?_)
    (F.keeps fun _ _ e => Heap.get?_push_of_some _ e) (N.grown fun _ _ e => Heap.get?_push_of_some _ e) (Nat.ne_of_lt F.ns.lt) (next_is_new F) (fun p hp => Nat.ne_of_lt (Heap.lt_size (N p hp).1)) trivial (R _) ?_
  · rw [List.mem_singleton.mp hb]
    show s₁.heap.objs.size < (s₁.heap.push _).objs.size
    rw [Heap.size_push]; exact Nat.lt_succ_self _
  · intro D C h tk m' ys news' F' N' o1 hn hC₀ hD₀ hCL hDL hCD offC fin
    refine ⟨m', hn, fun h'' hs'' => fin D h'' tk (F'.change hs'' hCL hC₀) (fun p hp => ?_) o1⟩
    refine ⟨hs''.extBut _ _ ?_ (N' p hp).1, (N' p hp).2⟩
    rcases List.mem_cons.mp hp with rfl | hp
    · exact Ne.symm hCD
    · exact offC p hp
noncomputable def EndS (h₀ : Heap) (L : Addr) (m : Str → Option Value) (s : Shared) (all : Led) (x : Str) (v : Value) (s' : Shared) : Prop :=
  ∃ h' tk' u, s' = { s with heap := h', toks := tk' } ∧ Fr h₀ L h' m ∧ News h₀ L h' all ∧ v = .str x u
noncomputable def EndN (h₀ : Heap) (L : Addr) (m : Str → Option Value) (s : Shared) (all : Led) (s' : Shared) : Prop :=
  ∃ h' tk', s' = { s with heap := h', toks := tk' } ∧ Fr h₀ L h' m ∧ News h₀ L h' all
theorem compT_signs {ct elt : Expr} {x : Str} {scope : Scope} {cl : List (Str × Addr)} {y : Str} {news : Led} {Fin : List Value → Led → Prop} (p : Nat → Bool) (g : Nat → Str)
    (turn : ∀ c ∈ y.cps.toList, ∀ t I oI C oC D m₂ ys h tk (E' : Value → Shared → Prop), LCg.NsObj oC m₂ → m₂ x = some (.str ⟨#[c]⟩ t) → Fr h₀ L h m → News h₀ L h ((I, oI) :: (C, oC) :: (D, LCg.lst ys) :: news) → LCg.Off3 I C D news → ((@Ne Nat I C) ∧ (@Ne Nat I D) ∧ (@Ne Nat C D)) →
      wpAny (model prog w) A (isTrue ct (compEnvC scope cl C env) (eval ct (compEnvC scope cl C env))) (fun ok s' => ok = p c ∧ if ok = true then
        wpAny (model prog w) A (eval elt (compEnvC scope cl C env)) (EndS h₀ L m { s with heap := h, toks := tk } ((I, oI) :: (C, oC) :: (D, LCg.lst ys) :: news) (g c)) E' s'
        else EndN h₀ L m { s with heap := h, toks := tk } ((I, oI) :: (C, oC) :: (D, LCg.lst ys) :: news) s') E' { s with heap := h, toks := tk })
    (fin : ∀ ys, StrsAre ys ((y.cps.toList.filter p).map g) → Fin ys news) :
    LCt.CompRestT prog w A h₀ L m env ct elt x scope cl s (fun _ => True) (SignAt y) Fin y.cps.size 0 [] news := by
  have main : ∀ k i ys, i + k = y.cps.size → StrsAre ys (((y.cps.toList.take i).filter p).map g) → LCt.CompRestT prog w A h₀ L m env ct elt x scope cl s (fun _ => True) (SignAt y) Fin k i ys news := by
    intro k
    induction k with
    | zero =>
      intro i ys hi hy
      refine LCt.CompRestT.zero (fin ys ?_)
      have e : y.cps.toList.take i = y.cps.toList := List.take_of_length_le (by rw [Array.length_toList]; omega)
      rw [e] at hy; exact hy
    | succ k ih =>
      intro i ys hi hy
      refine LCt.CompRestT.succ fun v I oI C oC D m₂ h tk E' hv hC hx F N off ne => ?_
      obtain ⟨c, u, hc, rfl⟩ := hv
      have hc' : y.cps.toList[i]? = some c := by simpa using hc
      have hs : y.cps.toList.take (i + 1) = y.cps.toList.take i ++ [c] := by simp [List.take_add_one, hc']
      refine wpAny_mono (turn c (List.mem_of_getElem? hc') u I oI C oC D m₂ ys h tk E' hC hx F N off ne) (fun ok s' h' => ?_) fun _ _ e => e
      obtain ⟨hp, h'⟩ := h'
      cases ok with
      | true =>
        simp only [if_true] at h' ⊢
        refine wpAny_mono h' (fun v s'' h'' => ?_) fun _ _ e => e
        obtain ⟨h3, tk3, u3, rfl, F3, N3, rfl⟩ := h''
        refine ⟨h3, tk3, news, rfl, F3, N3, off, trivial, ih (i + 1) _ (by omega) ?_⟩
        rw [hs, List.filter_append, List.map_append]
        have : [c].filter p = [c] := by simp [← hp]
        rw [this]
        exact hy.append' (.cons _ _ .nil)
      | false =>
        simp only [Bool.false_eq_true, if_false] at h' ⊢
        obtain ⟨h3, tk3, rfl, F3, N3⟩ := h'
        refine ⟨h3, tk3, news, rfl, F3, N3, off, trivial, ih (i + 1) _ (by omega) ?_⟩
        rw [hs, List.filter_append, List.map_append]
        have : [c].filter p = [] := by simp [← hp]
        rw [this]
        simpa using hy
  exact main _ 0 [] (by omega) .nil
theorem compU_signs {elt : Expr} {x : Str} {scope : Scope} {cl : List (Str × Addr)} {y : Str} {news : Led} {Fin : List Value → Led → Prop} (g : Nat → Str)
    (turn : ∀ c ∈ y.cps.toList, ∀ t I oI C oC D m₂ ys h tk (E' : Value → Shared → Prop), LCg.NsObj oC m₂ → m₂ x = some (.str ⟨#[c]⟩ t) → Fr h₀ L h m → News h₀ L h ((I, oI) :: (C, oC) :: (D, LCg.lst ys) :: news) → LCg.Off3 I C D news → ((@Ne Nat I C) ∧ (@Ne Nat I D) ∧ (@Ne Nat C D)) →
        wpAny (model prog w) A (eval elt (compEnvC scope cl C env)) (EndS h₀ L m { s with heap := h, toks := tk } ((I, oI) :: (C, oC) :: (D, LCg.lst ys) :: news) (g c)) E' { s with heap := h, toks := tk })
    (fin : ∀ ys, StrsAre ys (y.cps.toList.map g) → Fin ys news) :
    LCg.CompRest prog w A h₀ L m env elt x scope cl s (fun _ => True) (SignAt y) Fin y.cps.size 0 [] news := by
  have main : ∀ k i ys, i + k = y.cps.size → StrsAre ys ((y.cps.toList.take i).map g) → LCg.CompRest prog w A h₀ L m env elt x scope cl s (fun _ => True) (SignAt y) Fin k i ys news := by
    intro k
    induction k with
    | zero =>
      intro i ys hi hy
      refine LCg.CompRest.zero (fin ys ?_)
      have e : y.cps.toList.take i = y.cps.toList := List.take_of_length_le (by rw [Array.length_toList]; omega)
      rw [e] at hy; exact hy
    | succ k ih =>
      intro i ys hi hy
      refine LCg.CompRest.succ fun v I oI C oC D m₂ h tk E' hv hC hx F N off ne => ?_
      obtain ⟨c, u, hc, rfl⟩ := hv
      have hc' : y.cps.toList[i]? = some c := by simpa using hc
      have hs : y.cps.toList.take (i + 1) = y.cps.toList.take i ++ [c] := by simp [List.take_add_one, hc']
      refine wpAny_mono (turn c (List.mem_of_getElem? hc') u I oI C oC D m₂ ys h tk E' hC hx F N off ne) (fun v s'' h'' => ?_) fun _ _ e => e
      obtain ⟨h3, tk3, u3, rfl, F3, N3, rfl⟩ := h''
      refine ⟨h3, tk3, news, rfl, F3, N3, off, trivial, ih (i + 1) _ (by omega) ?_⟩
      rw [hs, List.map_append]
      exact hy.append' (.cons _ _ .nil)
  exact main _ 0 [] (by omega) .nil
end

noncomputable def FM (s : Str) : List Str := (s.cps.toList.filter fun c => !isB1 c).map m3
theorem FM_app (a b : Str) : FM (a ++ b) = FM a ++ FM b := by
  unfold FM; rw [PySem.Str.cps_append, Array.toList_append, List.filter_append, List.map_append]
theorem FM_unseen (k : Nat) : FM (unseenL.getD k Str.empty) = [] := by
  have h : ∀ k < 5, FM (unseenL.getD k Str.empty) = [] := by decide +kernel
  by_cases hk : k < 5
  · exact h k hk
  · have e : unseenL.getD k Str.empty = Str.empty := by
      rw [List.getD_eq_getElem?_getD, List.getElem?_eq_none (show unseenL.length ≤ k by have : unseenL.length = 5 := rfl; omega)]; rfl
    rw [e]; rfl
noncomputable def okW (i : Nat) : Bool := (Txt.join (Str.ofString "") (FM (signsL.getD i Str.empty)) == LW.getD i Str.empty) && (Txt.join (Str.ofString "") (FM (Txt.upper (LW.getD i Str.empty))) == LW.getD i Str.empty) &&
  decide (((FM (signsL.getD i Str.empty)).map (·.length)).sum ≤ 100) && decide (((FM (Txt.upper (LW.getD i Str.empty))).map (·.length)).sum ≤ 100) && ((LW.getD i Str.empty).cps.toList.all fun c => [102, 105, 108, 115, 116].contains c)
theorem okW_all : ∀ i < 12, okW i = true := by decide +kernel
theorem mod12 (x : Int) : (x.fmod 12).toNat < 12 := by rw [Int.fmod_eq_emod_of_nonneg _ (by decide)]; omega
theorem FM_typed (x : Int) : FM (typedS x) = (if (x.fdiv 300).fmod 2 = 0 then FM (signsL.getD (x.fmod 12).toNat Str.empty) else FM (Txt.upper (wordS x))) := by
  unfold typedS
  rw [FM_app, FM_app, FM_unseen, FM_unseen, List.nil_append, List.append_nil]
  split <;> rfl
theorem okW_x (x : Int) : okW (x.fmod 12).toNat = true := okW_all _ (mod12 x)
theorem join_FM (x : Int) : Txt.join (Str.ofString "") (FM (typedS x)) = wordS x := by
  have h := okW_x x
  simp only [okW, Bool.and_eq_true, beq_iff_eq] at h
  rw [FM_typed]
  split
  · exact h.1.1.1.1
  · exact h.1.1.1.2
theorem size_FM (x : Int) : ((FM (typedS x)).map (·.length)).sum ≤ 100 := by
  have h := okW_x x
  simp only [okW, Bool.and_eq_true, decide_eq_true_eq] at h
  rw [FM_typed]
  split
  · exact h.1.1.2
  · exact h.1.2
theorem word_chars (x : Int) (c : Nat) (hc : c ∈ (wordS x).cps.toList) : c = 102 ∨ c = 105 ∨ c = 108 ∨ c = 115 ∨ c = 116 := by
  have h := okW_x x
  simp only [okW, Bool.and_eq_true, List.all_eq_true] at h
  have := h.2 c hc
  simpa using this
noncomputable def pieceS (c : Nat) : Str := if c = 102 then Str.ofString "\t" else if c = 105 then Str.ofString " \t" else if c = 108 then Str.ofString "  \t" else if c = 115 then Str.ofString "   \t" else Str.ofString "    \t"
noncomputable def leadS (x : Int) : Str := Txt.join (Str.ofString "") ((wordS x).cps.toList.map pieceS)
theorem piece_len (c : Nat) : (pieceS c).length ≤ 5 := by
  unfold pieceS
  repeat' split
  all_goals decide
theorem sum_le {l : List Str} {B : Nat} (h : ∀ a ∈ l, a.length ≤ B) : (l.map (·.length)).sum ≤ l.length * B := by
  induction l with
  | nil => simp
  | cons a l ih =>
    have := h a (.head _)
    have := ih fun b hb => h b (.tail _ hb)
    simp only [List.map_cons, List.sum_cons, List.length_cons, Nat.succ_mul]; omega
section
variable {prog : Program} {w : World} {A : Around} {E : Value → Shared → Prop} {s : Shared} {h₀ : Heap} {L : Addr} {news : Led} {D : Addr} {ys : List Value} {t : Tok} {x : Int} {Q : Value → Shared → Prop}
theorem join_word (N : News h₀ L s.heap news) (hm : (D, LCg.lst ys) ∈ news) (hi : StrsAre ys (((typedS x).cps.toList.filter fun c => !isB1 c).map m3)) (h : ∀ t' k, Q (.str (wordS x) t') { s with toks := k }) :
    wpAny (model prog w) A (call (.builtin "str.join") [.str (Str.ofString "") t, .ref D]) Q E s := by
  refine join_list (News.isList N hm) hi ?_ fun t' k => ?_
  · have := size_FM x
    show ((FM (typedS x)).map (·.length)).sum + (FM (typedS x)).length * 0 ≤ _
    omega
  · have e : Txt.join (Str.ofString "") (((typedS x).cps.toList.filter fun c => !isB1 c).map m3) = wordS x := join_FM x
    rw [e]; exact h t' k
theorem join_lead (N : News h₀ L s.heap news) (hm : (D, LCg.lst ys) ∈ news) (hi : StrsAre ys ((wordS x).cps.toList.map pieceS)) (h : ∀ t' k, Q (.str (leadS x) t') { s with toks := k }) :
    wpAny (model prog w) A (call (.builtin "str.join") [.str (Str.ofString "") t, .ref D]) Q E s := by
  refine join_list (News.isList N hm) hi ?_ fun t' k => h t' k
  have h1 := sum_le (l := (wordS x).cps.toList.map pieceS) (B := 5) fun a ha => by obtain ⟨c, _, rfl⟩ := List.mem_map.mp ha; exact piece_len c
  have h2 := wordS_len x
  have h3 : ((wordS x).cps.toList.map pieceS).length = (wordS x).length := by rw [List.length_map, Array.length_toList]; rfl
  have h4 : (Str.ofString "").length = 0 := rfl
  rw [h4]
  omega
end

section
theorem fr_name {h₀ h : Heap} {L : Addr} {m : Str → Option Value} {x : Str} {v : Value} (F : Fr h₀ L h m) (hv : m x = some v) : Fr h₀ L h (fun y => if y = x then some v else m y) := by
  have e : (fun y => if y = x then some v else m y) = m := by
    funext y
    by_cases q : y = x
    · rw [if_pos q, q, hv]
    · rw [if_neg q]
  rw [e]; exact F
theorem nn_of {xs : List Int} {x : Int} (h : ∀ x ∈ xs, 0 ≤ x) (hm : x ∈ xs) : 0 ≤ x := h x hm
theorem len_append (a b : Str) : (a ++ b).length = a.length + b.length := by
  show (a ++ b).cps.size = _; rw [PySem.Str.cps_append, Array.size_append]; rfl
theorem typedS_len (x : Int) : (typedS x).cps.size ≤ 30 := by
  have h1 := wordS_len x
  have h2 := len_upper (wordS x)
  have h3 : ∀ k, (unseenL.getD k Str.empty).length ≤ 1 := fun k => KOpn.len_getD (by decide +kernel)
  have h4 : ∀ k, (signsL.getD k Str.empty).length ≤ 1 := fun k => KOpn.len_getD (by decide +kernel)
  show (typedS x).length ≤ 30
  unfold typedS
  rw [len_append, len_append]
  have a := h3 ((x.fdiv 12).fmod 5).toNat
  have b := h3 ((x.fdiv 60).fmod 5).toNat
  have c := h4 (x.fmod 12).toNat
  split <;> omega
noncomputable abbrev envL (L : Addr) : Env := envOfC (Str.ofString "law") (dScope (stm 21)) L 230 (.ref 229)
noncomputable abbrev lawA (dp un : Nat) (gd : Option (List Code)) (outer : List Env) (L : Addr) : Around := ktrTop dp un gd (Str.ofString "law") (dScope (stm 21)) L 230 (.ref 229) (cellsFrom (L + 1) (dScope (stm 21)).names []) outer
local macro_rules | `(tactic| walk_at "call ref") => `(tactic| (k_here; refine' CL.useWord ?k1 ?k2 ?k3 ?k4 ?k5 ?kK (c_word _ _ _ _ ?kx) ?kd ?ku ?_; (case kx => first | assumption | omega | exact nn_of (by assumption) (by assumption)); cell_step; intro t9 h9 tk9 hw9 F9 N9; (try k_fold)))
local macro_rules | `(tactic| walk_at "call ref") => `(tactic| (k_here; refine' CL.useStr ?k1 ?k2 ?k3 ?k4 ?k5 ?kK (c_typed _ _ _ _ ?kx) ?kd ?ku ?_; (case kx => first | assumption | omega | exact nn_of (by assumption) (by assumption)); cell_step; intro t9 h9 tk9 F9 N9; (try k_fold)))
local macro_rules | `(tactic| walk_at "call ref") => `(tactic| (k_here; refine' CL.useBool ?k1 ?k2 ?k3 ?k4 ?k5 ?kK (c_inb1 _ _ _ _) ?kd ?ku ?_; cell_step; intro h9 tk9 F9 N9; (try k_fold)))
local macro_rules | `(tactic| walk_at "call ref") => `(tactic| (k_here; refine' CL.useStr ?k1 ?k2 ?k3 ?k4 ?k5 ?kK (c_map _ _ _ _) ?kd ?ku ?_; cell_step; intro t9 h9 tk9 F9 N9; (try k_fold)))
noncomputable def Stop (P : Prop) : Prop := P
theorem stop_of {P : Prop} (h : Stop P) : P := h
local macro_rules | `(tactic| walk_at "eval ListComp") => `(tactic| (refine stop_of ?_))
theorem idx_of {prog : Program} {w : World} {A : Around} {E : Value → Shared → Prop} {s : Shared} {t u : Tok} {c : Nat} {k : Int} {Q : Value → Shared → Prop} (hk : Txt.find (Str.ofString "filst") ⟨#[c]⟩ = k) (h0 : 0 ≤ k) (hA : A.handled = none) (h : Q (.int k s.toks) { s with toks := s.toks + 1 }) :
    wpAny (model prog w) A (call (.builtin "str.index") [.str (Str.ofString "filst") t, .str ⟨#[c]⟩ u]) Q E s :=
  index_or hA (fun e _ => by rw [hk] at e; omega) (fun _ _ => by rw [hk]; exact h)
theorem sz7 {vs : List Value} {ws : List Str} (h : StrsAre vs ws) (hl : ws.length ≤ 7) : vs.toArray.size ≤ sizeLine := by
  have := h.length; have e : sizeLine = 16777216 := rfl
  rw [List.size_toArray, e]; omega
theorem strs_at {vs : List Value} {a b : List Str} (h : StrsAre vs a) (e : a = b) : StrsAre vs b := e ▸ h
theorem leads_0 : ([] : List Str) = ([] : List Int).map leadS ∧ ([] : List Str).length ≤ 7 := ⟨rfl, by decide⟩
theorem leads_1 {xs pre post : List Int} {n : Int} {l : List Str} (e : xs = pre ++ n :: post) (hl : xs.length = 7) (h : l = pre.map leadS) : l ++ [leadS n] = (pre ++ [n]).map leadS ∧ (l ++ [leadS n]).length ≤ 7 := by
  subst h
  have := congrArg List.length e
  simp only [List.length_append, List.length_cons] at this
  refine ⟨by simp, ?_⟩
  simp only [List.length_append, List.length_map, List.length_cons, List.length_nil]; omega
local macro_rules | `(tactic| walk_at "call builtin:str.index") => `(tactic| (k_here; k_dflt (first | refine idx_of (k := 0) (by decide +kernel) (by decide) rfl ?_ | refine idx_of (k := 1) (by decide +kernel) (by decide) rfl ?_ | refine idx_of (k := 2) (by decide +kernel) (by decide) rfl ?_ | refine idx_of (k := 3) (by decide +kernel) (by decide) rfl ?_ | refine idx_of (k := 4) (by decide +kernel) (by decide) rfl ?_)))
local macro_rules | `(tactic| walk_at "call builtin:list.append") => `(tactic| (k_here; (with_reducible show wpAny _ _ (call (Value.builtin _) [Value.ref _, _]) _ _ _); k_dflt (refine' append_K ?k1 ?k2 ?k3 ?_ ?z; (case k1 => k_asm); (case k2 => k_asm); (case k3 => k_upd); (case z => exact sz7 (by assumption) (by assumption)); k_whole); intro h' F' N'; (try k_sweep)))
local macro_rules | `(tactic| walk_at "call builtin:str.join") => `(tactic| (k_here; k_dflt (first | (refine' join_word ?N ?m ?i ?_; (case N => k_asm); (case m => k_mem); (case i => assumption)) | (refine' join_lead ?N ?m ?i ?_; (case N => k_asm); (case m => k_mem); (case i => assumption))); intro _ _))
set_option maxHeartbeats 1000000 in
theorem p2 (w : World) {mean : ExcName → Option Value} {mg mb : Str → Option Value} {dp un : Nat} {gd : Option (List Code)} {outer : List Env} {A₀ : Around} {base g : Heap} {L' q : Addr} {m : Str → Option Value} {s : Shared} {Q : Flow → Shared → Prop} {E0 : Value → Shared → Prop} {o1 o2 o3 : Obj} {ys : List Value} {xs : List Int} {nn : Nat} {rest : List Stmt}
    (B : Below A₀ base outer g) (X : (KT w.params).In g) (T : Top q0 (looseW q0 lo0) mean mg mb g) (hd : dp + 12 < recursionLimit) (hu : un + 200 < cLine) (hL : @LT.lt Nat _ 96 L')
    (F : Fr g L' s.heap (fun y => if y = Str.ofString "numbers" then some (.ref q) else m y)) (N : News g L' s.heap ((q, listOf ys.toArray nn) :: (L' + 1 + 1 + 1, o3) :: (L' + 1 + 1, o2) :: (L' + 1, o1) :: (96, tabObj #[]) :: (89, tabObj #[]) :: [])) (hi : IntsAre ys xs) (hlen : xs.length = 7) (hx : ∀ x ∈ xs, 0 ≤ x)
    (lq : @Ne Nat (L' + 1 + 1 + 1) q ∧ @Ne Nat (L' + 1 + 1) q ∧ @Ne Nat (L' + 1) q)
    (hcont : ∀ q2 ws nn2 h' tk' m', StrsAre ws (xs.map leadS) → m' (Str.ofString "leads") = some (.ref q2) → Fr g L' h' m' → News g L' h' ((q2, listOf (List.toArray ws) nn2) :: (L' + 1 + 1 + 1, o3) :: (L' + 1 + 1, o2) :: (L' + 1, o1) :: (96, tabObj #[]) :: (89, tabObj #[]) :: []) →
      (@LT.lt Nat _ (L' + 1 + 1 + 1) q2 ∧ @LT.lt Nat _ (L' + 1 + 1) q2 ∧ @LT.lt Nat _ (L' + 1) q2) →
      wpAny (model P0 w) (lawA dp un gd outer L') (execs rest (envL L')) Q (fun e s' => wpAny (model P0 w) (lawA dp un gd outer L') (leaving (envL L') e) (fun _ s'' => E0 e s'') (fun e' s'' => E0 e' s'') s') { s with heap := h', toks := tk' })
    (hret : ∀ s', ¬ Q (.ret (.bool false)) s' → True) :
    wpAny (model P0 w) (lawA dp un gd outer L') (execs (((dBody (stm 21)).drop 3).take 2 ++ rest) (envL L')) Q (fun e s' => wpAny (model P0 w) (lawA dp un gd outer L') (leaving (envL L') e) (fun _ s'' => E0 e s'') (fun e' s'' => E0 e' s'') s') s := by
  w_top off; refine kon PySem.Challenge.rw_sn0095_01 KT ?_; k_fill; unfold Kon
  have kstM := kstMark
  k_with "pyIter ref" => k_state (fun pre leads => leads = pre.map leadS ∧ leads.length ≤ 7) "leads$"
  k_with "state" => first | exact leads_0 | exact leads_1 (by assumption) hlen (by assumption)
  k_steps
  unfold Stop
  k_here
  refine' ListComp_TS (F₀ := ?f) ?c1 ?c2 ?c3 ?c4 ?c5 ?c7 ?c6
  case f => k_asm
  case c6 => intro _; rfl
  case c2 => decide
  case c3 => rfl
  case c4 => decide
  case c5 => rfl
  case c1 => with_unfolding_all rfl
  · (try k_fold)
    k_steps
    (try k_unfold)
    refine ⟨_, _, _, rfl, rfl, by k_asm, by k_asm, Nat.le_trans (typedS_len _) (by decide), fun g9 => compT_signs (fun c => !isB1 c) m3 ?turn ?fin⟩
    · intro c hc t9 I9 oI9 C9 oC9 D9 m9 ys9 h9 tk9 E9 hC9 hx9 F9 N9 off9 ne9
      (try simp only [LCg.Off3, and_true] at off9)
      k_steps
      · exact ⟨_, _, rfl, by k_asm, by k_asm⟩
      · exact ⟨_, _, _, rfl, by k_asm, by k_asm, rfl⟩
    · intro ys9 hy9
      unfold LCg.FinE
      intro D9 h9 tk9 F9 N9 o9
      (try simp only [LCg.Off1, and_true] at o9)
      (try k_fold)
      k_steps
      · exfalso
        simp_all
      · unfold Stop
        k_here
        refine' ListComp_US (F₀ := ?f2) ?d1 ?d2 ?d3 ?d4 ?d5 ?d7 ?d6
        case f2 => k_asm
        case d6 => intro _; rfl
        case d2 => decide
        case d3 => rfl
        case d4 => decide
        case d5 => rfl
        case d1 => with_unfolding_all rfl
        (try k_fold)
        k_steps
        (try k_unfold)
        refine ⟨_, _, _, rfl, rfl, by k_asm, by k_asm, Nat.le_trans (wordS_len _) (by decide), fun g9 => compU_signs pieceS ?turn2 ?fin2⟩
        · intro c hc t9 I9 oI9 C9 oC9 D9 m9 ys9 h9 tk9 E9 hC9 hx9 F9 N9 off9 ne9
          (try simp only [LCg.Off3, and_true] at off9)
          rcases word_chars _ c hc with rfl | rfl | rfl | rfl | rfl
          all_goals k_steps
          all_goals exact ⟨_, _, _, rfl, by k_asm, by k_asm, by first | rfl | (congr 1; decide +kernel)⟩
        · intro ys9 hy9
          unfold LCg.FinE
          intro D9 h9 tk9 F9 N9 o9
          (try simp only [LCg.Off1, and_true] at o9)
          (try k_fold)
          k_steps
  · (rename News _ _ _ _ => nE'); (rename Fr _ _ _ _ => fE')
    refine' hcont _ _ _ _ _ _ ?sA ?sB fE' ?sN ?sL
    case sB => exact rfl
    case sA => exact strs_at (by assumption) (by assumption)
    case sN => exact cb_drop nE' (by kcj_all)
    case sL => omega

end
section
variable {prog : Program} {w : World} {A : Around} {E : Value → Shared → Prop} {R : Result → Shared → Prop} {s : Shared} {env : Env} {h₀ : Heap} {L : Addr} {m : Str → Option Value}
noncomputable abbrev lc2 (elt iter iter2 : Expr) (x y : Str) (px py : Pos) (scope : Scope) (pos : Pos) : Expr := .ListComp elt [⟨.Name x px, iter, [], 0⟩, ⟨.Name y py, iter2, [], 0⟩] scope pos
theorem compTurn2_1 (elt iter iter2 : Expr) (x y : Str) (px py : Pos) (scope : Scope) (pos : Pos) (it acc : Value) (env : Env) :
    compTurn (lc2 elt iter iter2 x y px py scope pos) 1 it acc env = (standAt iter2.pos >>= fun _ => pyNext it >>= fun r => match r with
      | none => pure (.done .next)
      | some v => letOwnedTupleGo (.Name y py) it v >>= fun _ => assign (.Name y py) env v >>= fun _ =>
        (eval elt env >>= fun x => call (.builtin "list.append") [acc, x] >>= fun _ => pure ()) >>= fun _ =>
          again (.compLoop (lc2 elt iter iter2 x y px py scope pos) 1 it acc env)) := by rfl
theorem compTurn2_0 (elt iter iter2 : Expr) (x y : Str) (px py : Pos) (scope : Scope) (pos : Pos) (it acc : Value) (env : Env) :
    compTurn (lc2 elt iter iter2 x y px py scope pos) 0 it acc env = (standAt iter.pos >>= fun _ => pyNext it >>= fun r => match r with
      | none => pure (.done .next)
      | some v => letOwnedTupleGo (.Name x px) it v >>= fun _ => assign (.Name x px) env v >>= fun _ =>
        (eval iter2 env >>= fun z => standAt iter2.pos >>= fun _ => foldedSetIterable iter2 env z >>= fun z => holding [z] (pyIter z) >>= fun z => runOwn (.compStart (lc2 elt iter iter2 x y px py scope pos) 1 z acc env) env >>= fun _ =>
          again (.compLoop (lc2 elt iter iter2 x y px py scope pos) 0 it acc env))) := by rfl
theorem compStart2_1 {elt iter iter2 : Expr} {x y : Str} {px py : Pos} {scope : Scope} {pos : Pos} {it acc : Value}
    (h0 : codeAny (model prog w) A (.compLoop (lc2 elt iter iter2 x y px py scope pos) 1 it acc env) R s)
    (h : wpAny (model prog w) A (pyIter it) (fun it' s' => codeAny (model prog w) A (.compLoop (lc2 elt iter iter2 x y px py scope pos) 1 it' acc env) R s')
      (notedBy (model prog w) A env fun x s' => R (.error x) s') s) :
    codeAny (model prog w) A (.compStart (lc2 elt iter iter2 x y px py scope pos) 1 it acc env) R s := by
  refine codeAny_of_tree ?_
  show wpAny _ _ ((compStart (lc2 elt iter iter2 x y px py scope pos) 1 it acc env).onRaise (fun x => do noteFrame x env; standAt theWindowsPlace)) _ _ s
  refine wpAny_notedAt ?_
  unfold compStart
  show wpAny _ _ (ask >>= _) _ _ s
  refine wpAny_bind (wpAny_askSetting (wpAny_ite ?_))
  split
  · first
      | exact wpAny_bind (wpAny_pure (wpAny_pure (And.intro rfl h0)))
      | exact wpAny_pure (And.intro rfl h0)
  · first
      | exact wpAny_bind (wpAny_rule (wpAny_bind (wpAny_standAt (wpAny_bind (wpAny_mono h (fun it' s' h' => wpAny_pure (And.intro rfl h')) fun _ _ x => x)))))
      | (refine wpAny_bind (wpAny_rule ?_); show wpAny _ _ (standAt iter2.pos >>= _) _ _ s; exact wpAny_bind (wpAny_standAt (wpAny_bind (wpAny_mono h (fun it' s' h' => wpAny_pure (And.intro rfl h')) fun _ _ x => x))))
theorem compLoop2_1 {elt iter iter2 : Expr} {x y : Str} {px py : Pos} {scope : Scope} {pos : Pos} {it acc : Value} (I : Nat → Shared → Prop)
    (turn : ∀ n s, I n s → wpAny (model prog w) A (pyNext it) (fun r s₁ => match r with
      | none => R (.ok .next) s₁
      | some v => wpAny (model prog w) A (assign (.Name y py) env v) (fun _ s₂ => wpAny (model prog w) A (eval elt env) (fun x s₃ =>
          wpAny (model prog w) A (call (.builtin "list.append") [acc, x]) (fun _ s₄ => ∃ m, m < n ∧ I m s₄) (notedBy (model prog w) A env fun e s' => R (.error e) s') s₃)
          (notedBy (model prog w) A env fun e s' => R (.error e) s') s₂) (notedBy (model prog w) A env fun e s' => R (.error e) s') s₁) (notedBy (model prog w) A env fun e s' => R (.error e) s') s)
    (n : Nat) (h : I n s) :
    codeAny (model prog w) A (.compLoop (lc2 elt iter iter2 x y px py scope pos) 1 it acc env) R s := by
  refine codeAny_loop rfl I (fun n s hI => ?_) n h
  show wpAny _ _ ((compTurn (lc2 elt iter iter2 x y px py scope pos) 1 it acc env).onRaise (fun x => do noteFrame x env; theTreesLotGoes x)) _ _ s
  refine wpAny_noted ?_
  rw [compTurn2_1]
  refine wpAny_bind (wpAny_standAt (wpAny_bind (wpAny_mono (turn n s hI) (fun r s₁ h₁ => ?_) fun _ _ h' => h')))
  cases r with
  | none => exact wpAny_pure h₁
  | some v =>
    refine wpAny_bind (wpAny_of_eq (rfl : letOwnedTupleGo (.Name y py) it v = pure ()) ?_)
    exact wpAny_bind (wpAny_mono h₁ (fun _ s₂ h₂ => wpAny_bind (wpAny_bind (wpAny_mono h₂ (fun x s₃ h₃ => wpAny_bind (wpAny_mono h₃
      (fun _ s₄ h₄ => wpAny_pure (wpAny_pure ⟨rfl, h₄⟩)) fun _ _ h' => h')) fun _ _ h' => h'))) fun _ _ h' => h')
theorem compLoop2_0 {elt iter iter2 : Expr} {x y : Str} {px py : Pos} {scope : Scope} {pos : Pos} {it acc : Value} (I : Nat → Shared → Prop)
    (hs : ∀ z, foldedSetIterable iter2 env z = pure z)
    (turn : ∀ n s, I n s → ∀ E' : Value → Shared → Prop, wpAny (model prog w) A (pyNext it) (fun r s₁ => match r with
      | none => R (.ok .next) s₁
      | some v => wpAny (model prog w) A (assign (.Name x px) env v) (fun _ s₂ => wpAny (model prog w) A (eval iter2 env) (fun z s₃ => wpAny (model prog w) A (pyIter z) (fun z s₄ =>
          codeAny (model prog w) A (.compStart (lc2 elt iter iter2 x y px py scope pos) 1 z acc env) (fun r s₅ => r = .ok .next ∧ ∃ m, m < n ∧ I m s₅) s₄) E' s₃)
          E' s₂) E' s₁) E' s)
    (n : Nat) (h : I n s) :
    codeAny (model prog w) A (.compLoop (lc2 elt iter iter2 x y px py scope pos) 0 it acc env) R s := by
  refine codeAny_loop rfl I (fun n s hI => ?_) n h
  show wpAny _ _ ((compTurn (lc2 elt iter iter2 x y px py scope pos) 0 it acc env).onRaise (fun x => do noteFrame x env; theTreesLotGoes x)) _ _ s
  refine wpAny_noted ?_
  rw [compTurn2_0]
  refine wpAny_bind (wpAny_standAt (wpAny_bind (wpAny_mono (turn n s hI _) (fun r s₁ h₁ => ?_) fun _ _ h' => h')))
  cases r with
  | none => exact wpAny_pure h₁
  | some v =>
    refine wpAny_bind (wpAny_of_eq (rfl : letOwnedTupleGo (.Name x px) it v = pure ()) ?_)
    refine wpAny_bind (wpAny_mono h₁ (fun _ s₂ h₂ => wpAny_bind (wpAny_mono h₂ (fun z s₃ h₃ => wpAny_bind (wpAny_standAt (wpAny_bind (wpAny_of_eq (hs z) (wpAny_bind (wpAny_holding (wpAny_mono h₃
      (fun z s₄ h₄ => wpAny_bind (wpAny_runOwn (h := none) (codeAny_mono h₄ (fun r s₅ h₅ => ?_)))) fun _ _ h' => h'))))))) fun _ _ h' => h')) fun _ _ h' => h')
    obtain ⟨rfl, h₅⟩ := h₅
    exact wpAny_pure ⟨rfl, h₅⟩
end
section
variable {prog : Program} {w : World} {A : Around} {E : Value → Shared → Prop} {R : Result → Shared → Prop} {s : Shared} {env : Env} {h₀ : Heap} {L : Addr} {m : Str → Option Value}
noncomputable def Off4 (J I C D : Addr) : Led → Prop
  | [] => True
  | p :: r => ((@Ne Nat p.1 J) ∧ (@Ne Nat p.1 I) ∧ (@Ne Nat p.1 C) ∧ (@Ne Nat p.1 D)) ∧ Off4 J I C D r
theorem Off4.of {J I C D : Addr} : ∀ {l : Led}, (∀ p ∈ l, p.1 ≠ J ∧ p.1 ≠ I ∧ p.1 ≠ C ∧ p.1 ≠ D) → Off4 J I C D l
  | [], _ => trivial
  | _ :: _, h => ⟨h _ List.mem_cons_self, Off4.of fun p hp => h p (List.mem_cons_of_mem _ hp)⟩
noncomputable def EndG (h₀ : Heap) (L : Addr) (m : Str → Option Value) (s : Shared) (all : Led) (g : Value → Prop) (v : Value) (s' : Shared) : Prop :=
  ∃ h' tk', s' = { s with heap := h', toks := tk' } ∧ Fr h₀ L h' m ∧ News h₀ L h' all ∧ g v
theorem paired_take {α β : Type} {F : α → β → Prop} {l : List α} {i : Nat} {ys : List β} {v : α} {y : β} (h : Paired F (l.take i) ys) (e : l[i]? = some v) (k : F v y) : Paired F (l.take (i + 1)) (ys ++ [y]) := by
  have : l.take (i + 1) = l.take i ++ [v] := by simp [List.take_add_one, e]
  rw [this]; exact h.snoc k
theorem inner2 {elt iter iter2 : Expr} {x y : Str} {px py : Pos} {scope : Scope} {pos : Pos} {cl : List (Str × Addr)} {J C D qb : Addr} {lv2 : List Value} {nb : Nat} {nw : Led} {v1 : Value} {ys₀ : List Value} {m₁ : Str → Option Value} {G : Value → Value → Value → Prop}
    (hh : A.handled = none) (hy : scope.names.lookup y = some .local) (hkind : scope.kind = .function) (hyx : x ≠ y)
    (F : Fr h₀ L s.heap m) (N : News h₀ L s.heap ((D, LCg.lst ys₀) :: nw)) (hqb : (qb, listOf lv2.toArray nb) ∈ nw)
    (hit : s.heap.IsListIter J qb 0) (hJ₀ : h₀.get? J = none) (hJL : L ≠ J) (hJC : J ≠ C) (hJD : J ≠ D) (offJ : ∀ p ∈ nw, p.1 ≠ J)
    (hn : s.heap.Ns C m₁) (hx1 : m₁ x = some v1) (hC₀ : h₀.get? C = none) (hCL : C ≠ L) (hCD : C ≠ D) (offC : ∀ p ∈ nw, p.1 ≠ C) (offD : ∀ p ∈ nw, p.1 ≠ D)
    (hsz : ys₀.length + lv2.length ≤ sizeLine)
    (turn : ∀ v2 ∈ lv2, ∀ oJ oC m₂ ys h tk (E' : Value → Shared → Prop), LCg.NsObj oC m₂ → m₂ x = some v1 → m₂ y = some v2 → Fr h₀ L h m → News h₀ L h ((J, oJ) :: (C, oC) :: (D, LCg.lst ys) :: nw) →
      wpAny (model prog w) A (eval elt (compEnvC scope cl C env)) (EndG h₀ L m { s with heap := h, toks := tk } ((J, oJ) :: (C, oC) :: (D, LCg.lst ys) :: nw) (G v1 v2)) E' { s with heap := h, toks := tk })
    (fin : ∀ h tk ys m', Fr h₀ L h m → News h₀ L h ((D, LCg.lst (ys₀ ++ ys)) :: nw) → h.Ns C m' → Paired (G v1) lv2 ys → R (.ok .next) { s with heap := h, toks := tk }) :
    codeAny (model prog w) A (.compStart (lc2 elt iter iter2 x y px py scope pos) 1 (.ref J) (.ref D) (compEnvC scope cl C env)) R s := by
  have hDL : D ≠ L := (N _ List.mem_cons_self).2.1
  have hD₀ : h₀.get? D = none := (N _ List.mem_cons_self).2.2
  have hqJ : qb ≠ J := offJ _ hqb
  have W := Walks.list (prog := prog) (w := w) hh J qb hqJ lv2.toArray
  have hlist : ∀ {h : Heap} {o : Obj}, News h₀ L h ((D, o) :: nw) → h.IsList qb lv2.toArray := fun N => ⟨_, (N _ (List.mem_cons_of_mem _ hqb)).1, rfl, _, rfl⟩
  have loop : ∀ s₃ : Shared, s₃ = s → codeAny (model prog w) A (.compLoop (lc2 elt iter iter2 x y px py scope pos) 1 (.ref J) (.ref D) (compEnvC scope cl C env)) R s₃ := by
    rintro s₃ rfl
    refine compLoop2_1 (fun k s' => ∃ h' tk i ys m', s' = { s₃ with heap := h', toks := tk } ∧ i ≤ lv2.length ∧ k = lv2.length + 1 - i ∧ ys.length = i ∧ h'.IsListIter J qb i ∧ Fr h₀ L h' m ∧ h'.Ns C m' ∧ m' x = some v1 ∧
      News h₀ L h' ((D, LCg.lst (ys₀ ++ ys)) :: nw) ∧ Paired (G v1) (lv2.take i) ys) ?_ (lv2.length + 1) ⟨s₃.heap, _, 0, [], m₁, rfl, Nat.zero_le _, rfl, rfl, hit, F, hn, hx1, by simpa using N, .nil⟩
    rintro k s' ⟨h', tk, i, ys, m', rfl, hi, rfl, hyl, hit', F', hn', hx', N', hp⟩
    have hst' : (fun i h => h.IsListIter J qb i ∧ h.IsList qb lv2.toArray) i h' := ⟨hit', hlist N'⟩
    by_cases hlt : i < lv2.length
    · refine W.item i _ _ _ (by simpa using hlt) hst' fun v h₂ tk₂ hPv hst₂ hk₂ => ?_
      have hPv' : lv2[i]? = some v := by simpa using hPv
      refine wpAny_assign_Name (wpAny_storeName_local (lookup_relabel_local hy) (hn'.at' fun o e => hk₂ _ o (by simpa using Ne.symm hJC) e) (fun h₃ hn₃ hs₃ => ?_) (by simp [compEnvC, relabel, hkind]))
      have hJ₃ : h₃.IsListIter J qb (i + 1) := by
        obtain ⟨o, e, r⟩ := hst₂.1
        exact ⟨o, hs₃.extBut _ _ hJC e, r⟩
      obtain ⟨oJ, heJ⟩ : ∃ o, h₃.get? J = some o := by obtain ⟨o, e, _⟩ := hJ₃; exact ⟨o, e⟩
      obtain ⟨oC, heC, hoC⟩ := LCg.ns_obj hn₃
      have F₃ : Fr h₀ L h₃ m := (LCg.fr_but F' hk₂ hJL hJ₀).change hs₃ hCL hC₀
      have N₂ : News h₀ L h₂ ((D, LCg.lst (ys₀ ++ ys)) :: nw) := LCg.news_but N' hk₂ fun p hp => by
        rcases List.mem_cons.mp hp with rfl | hp
        · exact Ne.symm hJD
        · exact offJ p hp
      have N₃ : News h₀ L h₃ ((J, oJ) :: (C, oC) :: (D, LCg.lst (ys₀ ++ ys)) :: nw) := fun p hp => by
        rcases List.mem_cons.mp hp with rfl | hp
        · exact ⟨heJ, Ne.symm hJL, hJ₀⟩
        · rcases List.mem_cons.mp hp with rfl | hp
          · exact ⟨heC, hCL, hC₀⟩
          · have z := N₂ p hp
            refine ⟨hs₃.extBut _ _ ?_ z.1, z.2⟩
            rcases List.mem_cons.mp hp with rfl | hp
            · exact Ne.symm hCD
            · exact offC p hp
      refine wpAny_mono (turn v (List.mem_of_getElem? hPv') oJ oC _ (ys₀ ++ ys) h₃ _ _ hoC (by simp [hyx, hx']) (by simp) F₃ N₃) (fun z s₄ h₄ => ?_) fun _ _ e => e
      obtain ⟨h₄, tk₄, rfl, F₄, N₄, hg⟩ := h₄
      have zJ := (N₄ (J, oJ) List.mem_cons_self).1
      have zC := (N₄ (C, oC) (List.mem_cons_of_mem _ List.mem_cons_self)).1
      have zD := (N₄ (D, LCg.lst (ys₀ ++ ys)) (List.mem_cons_of_mem _ (List.mem_cons_of_mem _ List.mem_cons_self))).1
      have N₄' : News h₀ L h₄ nw := fun p hp => N₄ p (List.mem_cons_of_mem _ (List.mem_cons_of_mem _ (List.mem_cons_of_mem _ hp)))
      refine append_at (hsz := by show (ys₀ ++ ys).toArray.size ≤ sizeLine; rw [List.size_toArray, List.length_append, hyl]; omega) zD fun h₅ hs₅ hD₅ => ?_
      refine ⟨lv2.length + 1 - (i + 1), by omega, h₅, tk₄, i + 1, ys ++ [z], _, rfl, hlt, rfl, by rw [List.length_append, List.length_singleton, hyl], ?_, F₄.change hs₅ hDL hD₀,
        (hoC.ns zC).sameBut hs₅ hCD, by simp [hyx, hx'], fun p hp => ?_, paired_take hp hPv' hg⟩
      · obtain ⟨o, e, r⟩ := hJ₃
        rw [heJ] at e; cases e
        exact ⟨_, hs₅.extBut _ _ hJD zJ, r⟩
      · rcases List.mem_cons.mp hp with rfl | hp
        · exact ⟨hD₅.trans (congrArg some ((LCg.lst_snoc (ys₀ ++ ys) z).trans (by rw [List.append_assoc]))), hDL, hD₀⟩
        · exact ⟨hs₅.extBut _ _ (offD p hp) (N₄' p hp).1, (N₄' p hp).2⟩
    · obtain rfl : i = lv2.length := Nat.le_antisymm hi (Nat.not_lt.mp hlt)
      refine W.done _ _ _ (by simpa using hst') fun h₂ tk₂ hk₂ => ?_
      rw [List.take_length] at hp
      exact fin h₂ tk₂ ys _ (LCg.fr_but F' hk₂ hJL hJ₀) (LCg.news_but N' hk₂ fun p hp => by
        rcases List.mem_cons.mp hp with rfl | hp
        · exact Ne.symm hJD
        · exact offJ p hp) (hn'.at' fun o e => hk₂ _ o (by simpa using Ne.symm hJC) e) hp
  exact compStart2_1 (loop _ rfl) (wpAny_pyIter_listiter hit (loop _ rfl))
end
section
variable {prog : Program} {w : World} {A : Around} {E : Value → Shared → Prop} {R : Result → Shared → Prop} {s : Shared} {env : Env} {h₀ : Heap} {L : Addr} {m : Str → Option Value}
noncomputable def pairs2 (l1 l2 : List Value) : List (Value × Value) := l1.flatMap fun a => l2.map fun b => (a, b)
theorem paired_append {α β : Type} {F : α → β → Prop} : ∀ {l₁ : List α} {l₂ : List β} {k₁ : List α} {k₂ : List β}, Paired F l₁ l₂ → Paired F k₁ k₂ → Paired F (l₁ ++ k₁) (l₂ ++ k₂)
  | _, _, _, _, .nil, h => h
  | _, _, _, _, .cons a t, h => .cons a (paired_append t h)
theorem paired_map {α β γ : Type} {F : α → β → Prop} {f : γ → α} : ∀ {l : List γ} {ys : List β}, Paired (fun c => F (f c)) l ys → Paired F (l.map f) ys
  | _, _, .nil => .nil
  | _, _, .cons a t => .cons a (paired_map t)
theorem pairs2_take {l1 l2 : List Value} {i : Nat} {v : Value} {ys zs : List Value} {G : Value → Value → Value → Prop} (h : Paired (fun (p : Value × Value) => G p.1 p.2) (pairs2 (l1.take i) l2) ys) (e : l1[i]? = some v) (k : Paired (G v) l2 zs) :
    Paired (fun (p : Value × Value) => G p.1 p.2) (pairs2 (l1.take (i + 1)) l2) (ys ++ zs) := by
  have e2 : pairs2 (l1.take (i + 1)) l2 = pairs2 (l1.take i) l2 ++ l2.map (fun b => (v, b)) := by
    have : l1.take (i + 1) = l1.take i ++ [v] := by simp [List.take_add_one, e]
    rw [this]; simp [pairs2]
  rw [e2]; exact paired_append h (paired_map (f := fun b => (v, b)) k)
theorem pairs2_len (l1 l2 : List Value) : (pairs2 l1 l2).length = l1.length * l2.length := by
  induction l1 with
  | nil => simp [pairs2]
  | cons a r ih =>
    have : pairs2 (a :: r) l2 = l2.map (fun b => (a, b)) ++ pairs2 r l2 := by simp [pairs2]
    rw [this, List.length_append, ih, List.length_map, List.length_cons, Nat.add_mul, Nat.one_mul, Nat.add_comm]
noncomputable def TurnI (prog : Program) (w : World) (A : Around) (h₀ : Heap) (L : Addr) (m : Str → Option Value) (env : Env) (iter2 : Expr) (x : Str) (scope : Scope) (cl : List (Str × Addr)) (s : Shared) (news : Led) (qb : Addr) (v1 : Value) : Prop :=
  ∀ I oI C oC D m₂ ys h tk (E' : Value → Shared → Prop), LCg.NsObj oC m₂ → m₂ x = some v1 → Fr h₀ L h m → News h₀ L h ((I, oI) :: (C, oC) :: (D, LCg.lst ys) :: news) → LCg.Off3 I C D news → ((@Ne Nat I C) ∧ (@Ne Nat I D) ∧ (@Ne Nat C D)) →
    wpAny (model prog w) A (eval iter2 (compEnvC scope cl C env)) (EndG h₀ L m { s with heap := h, toks := tk } ((I, oI) :: (C, oC) :: (D, LCg.lst ys) :: news) (fun v => v = .ref qb)) E' { s with heap := h, toks := tk }
noncomputable def TurnE (prog : Program) (w : World) (A : Around) (h₀ : Heap) (L : Addr) (m : Str → Option Value) (env : Env) (elt : Expr) (x y : Str) (scope : Scope) (cl : List (Str × Addr)) (s : Shared) (news : Led) (v1 v2 : Value) (G : Value → Prop) : Prop :=
  ∀ J oJ I oI C oC D m₂ ys h tk (E' : Value → Shared → Prop), LCg.NsObj oC m₂ → m₂ x = some v1 → m₂ y = some v2 → Fr h₀ L h m → News h₀ L h ((J, oJ) :: (I, oI) :: (C, oC) :: (D, LCg.lst ys) :: news) → Off4 J I C D news →
    ((@Ne Nat J I) ∧ (@Ne Nat J C) ∧ (@Ne Nat J D) ∧ (@Ne Nat I C) ∧ (@Ne Nat I D) ∧ (@Ne Nat C D)) →
    wpAny (model prog w) A (eval elt (compEnvC scope cl C env)) (EndG h₀ L m { s with heap := h, toks := tk } ((J, oJ) :: (I, oI) :: (C, oC) :: (D, LCg.lst ys) :: news) G) E' { s with heap := h, toks := tk }
noncomputable def Src2 (prog : Program) (w : World) (A : Around) (h₀ : Heap) (L : Addr) (m : Str → Option Value) (env : Env) (elt iter2 : Expr) (x y : Str) (scope : Scope) (cl : List (Str × Addr)) (Fin : Shared → List Value → Led → Prop) (xv : Value) (s₁ : Shared) : Prop :=
  ∃ (qh qb : Addr) (lv1 lv2 : List Value) (nh nb : Nat) (news : Led) (G : Value → Value → Value → Prop), xv = .ref qh ∧ A.handled = none ∧ Fr h₀ L s₁.heap m ∧ News h₀ L s₁.heap news ∧ (qh, listOf lv1.toArray nh) ∈ news ∧ (qb, listOf lv2.toArray nb) ∈ news ∧ lv1.length * lv2.length + lv2.length ≤ sizeLine ∧ lv1.length ≤ sizeLine ∧
    (∀ v1 ∈ lv1, TurnI prog w A h₀ L m env iter2 x scope cl s₁ news qb v1) ∧ (∀ v1 ∈ lv1, ∀ v2 ∈ lv2, TurnE prog w A h₀ L m env elt x y scope cl s₁ news v1 v2 (G v1 v2)) ∧
    (∀ ys, Paired (fun (p : Value × Value) => G p.1 p.2) (pairs2 lv1 lv2) ys → Fin s₁ ys news)
theorem comp_2 {use : Option (Value → Sem Unit)} {elt iter iter2 : Expr} {x y : Str} {px py : Pos} {scope : Scope} {cl : List (Str × Addr)} {pos : Pos} {Q : Value → Shared → Prop} (F₀ : Fr h₀ L s.heap m)
    (hclos : closureFor scope env = pure cl) (hcell : ∀ y ∈ scope.names, y.2 ≠ .cell) (hkind : scope.kind = .function)
    (hnames : ∀ y ∈ scope.names, y.2 = .local → scope.names.lookup y.1 = some .local) (hx : scope.names.lookup x = some .local) (hy : scope.names.lookup y = some .local) (hyx : x ≠ y)
    (hs : ∀ x, foldedSetIterable iter env x = pure x) (hs2 : ∀ C x, foldedSetIterable iter2 (compEnvC scope cl C env) x = pure x) (Fin : Shared → List Value → Led → Prop)
    (h : wpAny (model prog w) A (eval iter env) (Src2 prog w A h₀ L m env elt iter2 x y scope cl Fin) E s)
    (hfin : ∀ (s₁ : Shared) D C h tk m' ys news, Fin s₁ ys news → Fr h₀ L h m → News h₀ L h ((D, LCg.lst ys) :: news) → LCg.Off1 D news → h.Ns C m' → h₀.get? C = none → h₀.get? D = none → C ≠ L → D ≠ L → C ≠ D → (∀ p ∈ news, p.1 ≠ C) →
      compPost (model prog w) A E use Q (.ref D) C (.ok .next) { s₁ with heap := h, toks := tk }) :
    wpAny (model prog w) A (comprehension (lc2 elt iter iter2 x y px py scope pos) scope env (firstIterPos [⟨.Name x px, iter, [], 0⟩, ⟨.Name y py, iter2, [], 0⟩] pos) (newList []) false (eval iter env) use) Q E s := by
  refine wpAny_comprehension_free (use := use) rfl hs hclos hkind hnames (wpAny_mono h (fun xv s₁ h₁ => ?_) fun _ _ e => e)
  obtain ⟨qh, qb, lv1, lv2, nh, nb, news, G, rfl, hh, F, N, mh, mb, hsz, hsz1, TI, TE, fin⟩ := h₁
  have hl : s₁.heap.IsList qh lv1.toArray := ⟨_, (N _ mh).1, rfl, _, rfl⟩
  have hlt : qh < s₁.heap.objs.size := by obtain ⟨_, e, _⟩ := hl; exact Heap.lt_size e
  refine wpAny_pyIter_list hl ?_
  generalize hs2e : ({ s₁ with heap := s₁.heap.push { cls := .type "list_iterator", data := .fields #[.ref qh, .int 0 0] } } : Shared) = s₂
  have ehp : s₂.heap = s₁.heap.push { cls := .type "list_iterator", data := .fields #[.ref qh, .int 0 0] } := by rw [← hs2e]
  have up : ∀ b o, s₁.heap.get? b = some o → s₂.heap.get? b = some o := fun b o e => ehp ▸ Heap.get?_push_of_some _ e
  have F2 : Fr h₀ L s₂.heap m := F.keeps up
  have N2 : News h₀ L s₂.heap news := N.grown up
  have hIlt : s₁.heap.objs.size < s₂.heap.objs.size := by rw [ehp, Heap.size_push]; exact Nat.lt_succ_self _
  have hI₀ : h₀.get? s₁.heap.objs.size = none := next_is_new F
  have hIL : L ≠ s₁.heap.objs.size := Nat.ne_of_lt F.ns.lt
  have offI : ∀ p ∈ news, p.1 ≠ s₁.heap.objs.size := fun p hp => Nat.ne_of_lt (Heap.lt_size (N p hp).1)
  have hit0 : s₂.heap.IsListIter s₁.heap.objs.size qh 0 := ⟨_, by rw [ehp]; exact Heap.get?_push_size _ rfl, rfl, rfl⟩
  have es : ∀ h tk, ({ s₁ with heap := h, toks := tk } : Shared) = { s₂ with heap := h, toks := tk } := fun h tk => by rw [← hs2e]
  have eTI : ∀ v1 ∈ lv1, TurnI prog w A h₀ L m env iter2 x scope cl s₂ news qb v1 := fun v1 h1 => by
    intro I oI C oC D m₂ ys h tk E' a1 a2 a3 a4 a5 a6
    have := TI v1 h1 I oI C oC D m₂ ys h tk E' a1 a2 a3 a4 a5 a6
    rw [es] at this; exact this
  have eTE : ∀ v1 ∈ lv1, ∀ v2 ∈ lv2, TurnE prog w A h₀ L m env elt x y scope cl s₂ news v1 v2 (G v1 v2) := fun v1 h1 v2 h2 => by
    intro J oJ I oI C oC D m₂ ys h tk E' a1 a2 a3 a4 a5 a6 a7
    have := TE v1 h1 v2 h2 J oJ I oI C oC D m₂ ys h tk E' a1 a2 a3 a4 a5 a6 a7
    rw [es] at this; exact this
  have efin : ∀ D C h tk m' ys, Paired (fun (p : Value × Value) => G p.1 p.2) (pairs2 lv1 lv2) ys → Fr h₀ L h m → News h₀ L h ((D, LCg.lst ys) :: news) → LCg.Off1 D news → h.Ns C m' → h₀.get? C = none → h₀.get? D = none → C ≠ L → D ≠ L → C ≠ D → (∀ p ∈ news, p.1 ≠ C) →
      compPost (model prog w) A E use Q (.ref D) C (.ok .next) { s₂ with heap := h, toks := tk } := fun D C h tk m' ys hp a1 a2 a3 a4 a5 a6 a7 a8 a9 b1 => by
    have := hfin s₁ D C h tk m' ys news (fin ys hp) a1 a2 a3 a4 a5 a6 a7 a8 a9 b1
    rw [es] at this; exact this
  clear TI TE fin es hs2e hl hlt hfin
  generalize s₁.heap.objs.size = I at *
  clear ehp up F N
  refine wpAny_newObj_type (wpAny_newFunctionEnv hcell (by intro y hy; simp at hy) (fun h₁ hns₁ hsb₁ => ?_) hkind)
  dsimp only at hns₁ hsb₁ ⊢
  generalize hH2 : s₂.heap.push { cls := .type "list", dict := none, data := .seq ([] : List Value).toArray } = H2 at hns₁ hsb₁ ⊢
  have hC : H2.objs.size = s₂.heap.objs.size + 1 := by rw [← hH2, Heap.size_push]
  have hDC : s₂.heap.objs.size ≠ H2.objs.size := by rw [hC]; exact Nat.ne_of_lt (Nat.lt_succ_self _)
  have below : ∀ b, b < s₂.heap.objs.size → b ≠ H2.objs.size ∧ b ≠ s₂.heap.objs.size := fun b hb => ⟨by rw [hC]; exact Nat.ne_of_lt (Nat.lt_succ_of_lt hb), Nat.ne_of_lt hb⟩
  have old : ∀ b o, s₂.heap.get? b = some o → h₁.get? b = some o := fun b o e => hsb₁.extBut b o (below b (Heap.lt_size e)).1 (Heap.get?_push_of_some _ (hH2 ▸ Heap.get?_push_of_some _ e))
  have hacc : h₁.get? s₂.heap.objs.size = some (LCg.lst []) := hsb₁.extBut _ _ hDC (Heap.get?_push_of_some _ (hH2 ▸ Heap.get?_push_size _ rfl))
  have fresh₀ : ∀ a, s₂.heap.objs.size ≤ a → h₀.get? a = none := fun a ha => by
    cases e : h₀.get? a with
    | none => rfl
    | some o' => exact absurd (Heap.lt_size (F2.keep a o' e)) (Nat.not_lt.mpr ha)
  have hD₀ : h₀.get? s₂.heap.objs.size = none := fresh₀ _ (Nat.le_refl _)
  have hC₀ : h₀.get? H2.objs.size = none := fresh₀ _ (by rw [hC]; exact Nat.le_succ _)
  have hLlt : L < s₂.heap.objs.size := F2.ns.lt
  have hDL : s₂.heap.objs.size ≠ L := Ne.symm (below L hLlt).2
  have hCL : H2.objs.size ≠ L := Ne.symm (below L hLlt).1
  have hCI : I ≠ H2.objs.size := (below I hIlt).1
  have hDI : I ≠ s₂.heap.objs.size := (below I hIlt).2
  have offC : ∀ p ∈ news, p.1 ≠ H2.objs.size := fun p hp => (below _ (Heap.lt_size (N2 p hp).1)).1
  have offD : ∀ p ∈ news, p.1 ≠ s₂.heap.objs.size := fun p hp => (below _ (Heap.lt_size (N2 p hp).1)).2
  have off3 : LCg.Off3 I H2.objs.size s₂.heap.objs.size news := LCg.Off3.of fun p hp => ⟨offI p hp, offC p hp, offD p hp⟩
  have N1 : News h₀ L h₁ ((s₂.heap.objs.size, LCg.lst []) :: news) := fun p hp => by
    rcases List.mem_cons.mp hp with rfl | hp
    · exact ⟨hacc, hDL, hD₀⟩
    · exact ⟨old _ _ (N2 p hp).1, (N2 p hp).2⟩
  have hit1 : h₁.IsListIter I qh 0 := by obtain ⟨o, e, r⟩ := hit0; exact ⟨o, old _ _ e, r⟩
  have F1 : Fr h₀ L h₁ m := F2.keeps old
  have hqI : qh ≠ I := offI _ mh
  have W := Walks.list (prog := prog) (w := w) hh I qh hqI lv1.toArray
  clear hH2 hsb₁ below old hacc fresh₀ hsz1 hit0 N2 F2 hs
  generalize hgD : s₂.heap.objs.size = D at *
  generalize hgC : H2.objs.size = C at *
  have loop : ∀ s₃ : Shared, s₃ = { s₂ with heap := h₁, toks := s₂.toks + ([] : List (Str × Value)).length } → codeAny (model prog w) A (.compLoop (lc2 elt iter iter2 x y px py scope pos) 0 (.ref I) (.ref D) (compEnvC scope cl C env)) (compPost (model prog w) A E use Q (.ref D) C) s₃ := by
    rintro s₃ rfl
    refine compLoop2_0 (fun k s' => ∃ h' tk i ys m', s' = { s₂ with heap := h', toks := tk } ∧ i ≤ lv1.length ∧ k = lv1.length + 1 - i ∧ ys.length = i * lv2.length ∧ h'.IsListIter I qh i ∧ Fr h₀ L h' m ∧ h'.Ns C m' ∧
      News h₀ L h' ((D, LCg.lst ys) :: news) ∧ Paired (fun (p : Value × Value) => G p.1 p.2) (pairs2 (lv1.take i) lv2) ys) (hs2 C) ?_ (lv1.length + 1) ⟨h₁, _, 0, [], _, rfl, Nat.zero_le _, rfl, by simp, hit1, F1, hns₁, N1, .nil⟩
    rintro k s' ⟨h', tk, i, ys, m', rfl, hi, rfl, hyl, hit', F', hn', N', hp⟩ E'
    have hst' : (fun i h => h.IsListIter I qh i ∧ h.IsList qh lv1.toArray) i h' := ⟨hit', ⟨_, (N' _ (List.mem_cons_of_mem _ mh)).1, rfl, _, rfl⟩⟩
    by_cases hlt : i < lv1.length
    · refine W.item i _ _ _ (by simpa using hlt) hst' fun v h₂ tk₂ hPv hst₂ hk₂ => ?_
      have hPv' : lv1[i]? = some v := by simpa using hPv
      have hvm := List.mem_of_getElem? hPv'
      refine wpAny_assign_Name (wpAny_storeName_local (lookup_relabel_local hx) (hn'.at' fun o e => hk₂ _ o (by simpa using Ne.symm hCI) e) (fun h₃ hn₃ hs₃ => ?_) (by simp [compEnvC, relabel, hkind]))
      have hI₃ : h₃.IsListIter I qh (i + 1) := by
        obtain ⟨o, e, r⟩ := hst₂.1
        exact ⟨o, hs₃.extBut _ _ hCI e, r⟩
      obtain ⟨oI, heI, hoI⟩ : ∃ o, h₃.get? I = some o ∧ ∀ h : Heap, h.get? I = some o → h.IsListIter I qh (i + 1) := by obtain ⟨o, e, r⟩ := hI₃; exact ⟨o, e, fun h e' => ⟨o, e', r⟩⟩
      obtain ⟨oC, heC, hoC⟩ := LCg.ns_obj hn₃
      have F₃ : Fr h₀ L h₃ m := (LCg.fr_but F' hk₂ hIL hI₀).change hs₃ hCL hC₀
      have N₂ : News h₀ L h₂ ((D, LCg.lst ys) :: news) := LCg.news_but N' hk₂ fun p hp => by
        rcases List.mem_cons.mp hp with rfl | hp
        · exact Ne.symm hDI
        · exact offI p hp
      have N₃ : News h₀ L h₃ ((I, oI) :: (C, oC) :: (D, LCg.lst ys) :: news) := fun p hp => by
        rcases List.mem_cons.mp hp with rfl | hp
        · exact ⟨heI, Ne.symm hIL, hI₀⟩
        · rcases List.mem_cons.mp hp with rfl | hp
          · exact ⟨heC, hCL, hC₀⟩
          · have z := N₂ p hp
            refine ⟨hs₃.extBut _ _ ?_ z.1, z.2⟩
            rcases List.mem_cons.mp hp with rfl | hp
            · exact hDC
            · exact offC p hp
      refine wpAny_mono (eTI v hvm I oI C oC D _ ys h₃ _ _ hoC (by simp) F₃ N₃ off3 ⟨hCI, hDI, Ne.symm hDC⟩) (fun z s₄ h₄ => ?_) fun _ _ e => e
      obtain ⟨h₄, tk₄, rfl, F₄, N₄, rfl⟩ := h₄
      have zI := (N₄ (I, oI) List.mem_cons_self).1
      have zC := (N₄ (C, oC) (List.mem_cons_of_mem _ List.mem_cons_self)).1
      have N₄' : News h₀ L h₄ ((D, LCg.lst ys) :: news) := fun p hp => N₄ p (List.mem_cons_of_mem _ (List.mem_cons_of_mem _ hp))
      have hl2 : h₄.IsList qb lv2.toArray := ⟨_, (N₄' _ (List.mem_cons_of_mem _ mb)).1, rfl, _, rfl⟩
      refine wpAny_pyIter_list hl2 ?_
      have lt4 : ∀ {b o}, h₄.get? b = some o → b < h₄.objs.size := fun e => Heap.lt_size e
      have up4 : ∀ b o, h₄.get? b = some o → (h₄.push { cls := .type "list_iterator", data := .fields #[.ref qb, .int 0 0] }).get? b = some o := fun b o e => Heap.get?_push_of_some _ e
      have hIJ : I ≠ h₄.objs.size := Nat.ne_of_lt (lt4 zI)
      have hCJ : C ≠ h₄.objs.size := Nat.ne_of_lt (lt4 zC)
      have hDJ : D ≠ h₄.objs.size := Nat.ne_of_lt (lt4 (N₄' _ List.mem_cons_self).1)
      have offJ : ∀ p ∈ news, p.1 ≠ h₄.objs.size := fun p hp => Nat.ne_of_lt (lt4 (N₄' _ (List.mem_cons_of_mem _ hp)).1)
      refine inner2 (s := { s₂ with heap := _, toks := tk₄ }) (L := L) (m := m) (h₀ := h₀) (J := h₄.objs.size) (qb := qb) (lv2 := lv2) (nb := nb) (nw := (I, oI) :: news) (v1 := v) (ys₀ := ys) (G := G) hh hy hkind hyx
        (F₄.keeps up4) (fun p hp => ⟨up4 _ _ ?_, ?_⟩) (List.mem_cons_of_mem _ mb) ⟨_, Heap.get?_push_size _ rfl, rfl, rfl⟩ (next_is_new F₄) (Nat.ne_of_lt F₄.ns.lt) (Ne.symm hCJ) (Ne.symm hDJ) ?_ ((hoC.ns zC).at' fun o e => up4 _ _ e) (by simp) hC₀ hCL (Ne.symm hDC) ?_ ?_ ?_ ?_ ?_
      · rcases List.mem_cons.mp hp with rfl | hp
        · exact (N₄' _ List.mem_cons_self).1
        · rcases List.mem_cons.mp hp with rfl | hp
          · exact zI
          · exact (N₄' _ (List.mem_cons_of_mem _ hp)).1
      · rcases List.mem_cons.mp hp with rfl | hp
        · exact (N₄' _ List.mem_cons_self).2
        · rcases List.mem_cons.mp hp with rfl | hp
          · exact ⟨Ne.symm hIL, hI₀⟩
          · exact (N₄' _ (List.mem_cons_of_mem _ hp)).2
      · intro p hp
        rcases List.mem_cons.mp hp with rfl | hp
        · exact hIJ
        · exact offJ p hp
      · intro p hp
        rcases List.mem_cons.mp hp with rfl | hp
        · exact hCI
        · exact offC p hp
      · intro p hp
        rcases List.mem_cons.mp hp with rfl | hp
        · exact hDI
        · exact offD p hp
      · have a1 : (i + 1) * lv2.length ≤ lv1.length * lv2.length := Nat.mul_le_mul_right _ hlt
        rw [Nat.add_mul, Nat.one_mul] at a1
        rw [hyl]; omega
      · intro v2 hv2 oJ oC' m₃ ys' h₅ tk₅ E'' b1 b2 b3 b4 b5
        have := eTE v hvm v2 hv2 h₄.objs.size oJ I oI C oC' D m₃ ys' h₅ tk₅ E'' b1 b2 b3 b4 (fun p hp => b5 p (by
          simp only [List.mem_cons] at hp ⊢
          rcases hp with rfl | rfl | rfl | rfl | hp
          · exact .inl rfl
          · exact .inr (.inr (.inr (.inl rfl)))
          · exact .inr (.inl rfl)
          · exact .inr (.inr (.inl rfl))
          · exact .inr (.inr (.inr (.inr hp))))) (Off4.of fun p hp => ⟨offJ p hp, offI p hp, offC p hp, offD p hp⟩) ⟨Ne.symm hIJ, Ne.symm hCJ, Ne.symm hDJ, hCI, hDI, Ne.symm hDC⟩
        refine wpAny_mono this (fun z s₆ h₆ => ?_) fun _ _ e => e
        obtain ⟨h₆, tk₆, rfl, F₆, N₆, hg⟩ := h₆
        refine ⟨h₆, tk₆, rfl, F₆, fun p hp => N₆ p ?_, hg⟩
        simp only [List.mem_cons] at hp ⊢
        rcases hp with rfl | rfl | rfl | rfl | hp
        · exact .inl rfl
        · exact .inr (.inr (.inl rfl))
        · exact .inr (.inr (.inr (.inl rfl)))
        · exact .inr (.inl rfl)
        · exact .inr (.inr (.inr (.inr hp)))
      · intro h₅ tk₅ zs m₃ F₅ N₅ hn₅ hz
        refine ⟨rfl, lv1.length + 1 - (i + 1), by omega, h₅, tk₅, i + 1, ys ++ zs, m₃, rfl, hlt, rfl, ?_, hoI _ (N₅ (I, oI) (List.mem_cons_of_mem _ List.mem_cons_self)).1, F₅, hn₅, fun p hp => N₅ p ?_, pairs2_take hp hPv' hz⟩
        · rw [List.length_append, hyl, ← hz.length, Nat.add_mul, Nat.one_mul]
        · rcases List.mem_cons.mp hp with rfl | hp
          · exact List.mem_cons_self
          · exact List.mem_cons_of_mem _ (List.mem_cons_of_mem _ hp)
    · obtain rfl : i = lv1.length := Nat.le_antisymm hi (Nat.not_lt.mp hlt)
      refine W.done _ _ _ (by simpa using hst') fun h₂ tk₂ hk₂ => ?_
      rw [List.take_length] at hp
      have F₂ := LCg.fr_but F' hk₂ hIL hI₀
      have N₂ : News h₀ L h₂ ((D, LCg.lst ys) :: news) := LCg.news_but N' hk₂ fun p hp => by
        rcases List.mem_cons.mp hp with rfl | hp
        · exact Ne.symm hDI
        · exact offI p hp
      exact efin D C h₂ tk₂ m' ys hp F₂ N₂ off3.one (hn'.at' fun o e => hk₂ _ o (by simpa using Ne.symm hCI) e) hC₀ hD₀ hCL hDL (Ne.symm hDC) offC
  exact codeAny_compStart_list (loop _ rfl) (wpAny_pyIter_listiter hit1 (loop _ rfl))
theorem ListComp_2 {elt iter iter2 : Expr} {x y : Str} {px py : Pos} {scope : Scope} {cl : List (Str × Addr)} {pos : Pos} {Q : Value → Shared → Prop} (F₀ : Fr h₀ L s.heap m)
    (hclos : closureFor scope env = pure cl) (hcell : ∀ y ∈ scope.names, y.2 ≠ .cell) (hkind : scope.kind = .function)
    (hnames : ∀ y ∈ scope.names, y.2 = .local → scope.names.lookup y.1 = some .local) (hx : scope.names.lookup x = some .local) (hy : scope.names.lookup y = some .local) (hyx : x ≠ y)
    (h : wpAny (model prog w) A (eval iter env) (Src2 prog w A h₀ L m env elt iter2 x y scope cl (fun s₂ => LCg.FinE h₀ L m s₂ Q)) E s)
    (hs : ∀ x, foldedSetIterable iter env x = pure x := by intro _; rfl) (hs2 : ∀ C x, foldedSetIterable iter2 (compEnvC scope cl C env) x = pure x := by intro _ _; rfl) :
    wpAny (model prog w) A (eval (lc2 elt iter iter2 x y px py scope pos) env) Q E s := by
  rw [eval_ListComp]
  refine comp_2 F₀ hclos hcell hkind hnames hx hy hyx hs hs2 _ h ?_
  intro s₁ D C h tk m' ys news fin F' N' o1 hn hC₀ hD₀ hCL hDL hCD offC
  refine ⟨m', hn, fun h'' hs'' => fin D h'' tk (F'.change hs'' hCL hC₀) (fun p hp => ?_) o1⟩
  refine ⟨hs''.extBut _ _ ?_ (N' p hp).1, (N' p hp).2⟩
  rcases List.mem_cons.mp hp with rfl | hp
  · exact Ne.symm hCD
  · exact offC p hp
theorem Assign_ListComp_2 {elt iter iter2 : Expr} {x y z : Str} {px py pz : Pos} {scope : Scope} {cl : List (Str × Addr)} {pos spos : Pos} {Q : Flow → Shared → Prop} (F₀ : Fr h₀ L s.heap m) (hLe : env.locals = L)
    (hsw : swapsWith (lc2 elt iter iter2 x y px py scope pos) (some (.Name z pz)) spos.line env = pure true)
    (hclos : closureFor scope env = pure cl) (hcell : ∀ y ∈ scope.names, y.2 ≠ .cell) (hkind : scope.kind = .function)
    (hnames : ∀ y ∈ scope.names, y.2 = .local → scope.names.lookup y.1 = some .local) (hx : scope.names.lookup x = some .local) (hy : scope.names.lookup y = some .local) (hyx : x ≠ y)
    (hz : env.kindOf z = some .local) (hp : (env.scope.kind == .class || (env.scope.kind == .module && env.locals != env.globals)) = false)
    (h : wpAny (model prog w) A (eval iter env) (Src2 prog w A h₀ L m env elt iter2 x y scope cl (fun s₂ => LCg.FinA h₀ L m s₂ z Q)) E s)
    (hs : ∀ x, foldedSetIterable iter env x = pure x := by intro _; rfl) (hs2 : ∀ C x, foldedSetIterable iter2 (compEnvC scope cl C env) x = pure x := by intro _ _; rfl) :
    wpAny (model prog w) A (exec (.Assign [.Name z pz] (lc2 elt iter iter2 x y px py scope pos) spos) env) Q E s := by
  subst hLe
  rw [exec_Assign_Name_used _ _ _ _ hsw]
  refine wpAny_bind (wpAny_standAt (wpAny_bind ?_))
  show wpAny _ A (do let _ ← comprehension (lc2 elt iter iter2 x y px py scope pos) scope env _ (newList []) false (eval iter env) (some (assign (.Name z pz) env))) _ _ s
  refine wpAny_bind (wpAny_mono (comp_2 (use := some (assign (.Name z pz) env)) (Q := fun _ s' => Q .next s') F₀ hclos hcell hkind hnames hx hy hyx hs hs2 _ h ?_) (fun _ s' hq => wpAny_pure (wpAny_pure hq)) fun _ _ e => e)
  intro s₁ D C h' tk m' ys news fin F' N' o1 hn hC₀ hD₀ hCL hDL hCD offC
  show wpAny _ A (assign (.Name z pz) env (.ref D)) _ _ _
  refine wpAny_assign_Name (wpAny_storeName_local hz F'.ns (fun h₂ hn₂ hs₂ => ?_) hp)
  have hL₀ : h₀.get? env.locals = none := Heap.get?_none_of_le F'.above
  have F₂ : Fr h₀ env.locals h₂ (fun y => if y = z then some (.ref D) else m y) := ⟨hn₂, fun b o e => hs₂.extBut b o (fun q => by rw [q, hL₀] at e; cases e) (F'.keep b o e), F'.above⟩
  refine ⟨m', hn.sameBut hs₂ hCL, fun h'' hs'' => fin D h'' _ (F₂.change hs'' hCL hC₀) (fun p hp => ?_) o1⟩
  have z : h₂.get? p.1 = some p.2 := hs₂.extBut _ _ (N' p hp).2.1 (N' p hp).1
  refine ⟨hs''.extBut _ _ ?_ z, (N' p hp).2⟩
  rcases List.mem_cons.mp hp with rfl | hp
  · exact Ne.symm hCD
  · exact offC p hp
end

section
noncomputable def outS (size : Int) (l : List Str) : List Int := l.map fun x => (walkZ size (KStt.codes x)).fdiv size
section
variable {prog : Program} {w : World} {A : Around} {s : Shared} {env : Env} {h₀ : Heap} {L : Addr} {m : Str → Option Value}
theorem strs_get {vs : List Value} {xs : List Str} (h : StrsAre vs xs) : ∀ (i : Nat) (v : Value), vs[i]? = some v → ∃ x t, xs[i]? = some x ∧ v = .str x t := by
  induction h with
  | nil => intro i v e; simp at e
  | cons x t h ih =>
    intro i v e
    cases i with
    | zero => simp at e; exact ⟨x, t, rfl, e.symm⟩
    | succ i => simp at e; obtain ⟨x', t', h1, h2⟩ := ih i v e; exact ⟨x', t', by simpa using h1, h2⟩
theorem ints_snoc {vs : List Value} {xs : List Int} (h : IntsAre vs xs) (n : Int) (t : Tok) : IntsAre (vs ++ [.int n t]) (xs ++ [n]) := by
  induction h with
  | nil => exact .cons n t .nil
  | cons x u h ih => exact .cons x u ih
theorem compU_strs {elt : Expr} {x : Str} {scope : Scope} {cl : List (Str × Addr)} {ax : Addr} {vs : List Value} {nn : Nat} {xs : List Str} {news : Led} {Fin : List Value → Led → Prop} (f : Str → Int) (hi : StrsAre vs xs) (hm : (ax, listOf vs.toArray nn) ∈ news)
    (turn : ∀ c ∈ xs, ∀ t I oI C oC D m₂ ys h tk (E' : Value → Shared → Prop), LCg.NsObj oC m₂ → m₂ x = some (.str c t) → Fr h₀ L h m → News h₀ L h ((I, oI) :: (C, oC) :: (D, LCg.lst ys) :: news) → LCg.Off3 I C D news → ((@Ne Nat I C) ∧ (@Ne Nat I D) ∧ (@Ne Nat C D)) →
        wpAny (model prog w) A (eval elt (compEnvC scope cl C env)) (EndG h₀ L m { s with heap := h, toks := tk } ((I, oI) :: (C, oC) :: (D, LCg.lst ys) :: news) (fun v => ∃ u, v = .int (f c) u)) E' { s with heap := h, toks := tk })
    (fin : ∀ ys, IntsAre ys (xs.map f) → Fin ys news) :
    LCg.CompRest prog w A h₀ L m env elt x scope cl s (LCg.SrcAt h₀ ax vs.toArray) (fun i v => vs.toArray[i]? = some v) Fin vs.toArray.size 0 [] news := by
  have hl : vs.toArray.size = xs.length := by rw [List.size_toArray]; exact hi.length
  have main : ∀ k i ys, i + k = xs.length → IntsAre ys ((xs.take i).map f) → LCg.CompRest prog w A h₀ L m env elt x scope cl s (LCg.SrcAt h₀ ax vs.toArray) (fun i v => vs.toArray[i]? = some v) Fin k i ys news := by
    intro k
    induction k with
    | zero =>
      intro i ys hk hy
      refine LCg.CompRest.zero (fin ys ?_)
      rw [List.take_of_length_le (by omega)] at hy; exact hy
    | succ k ih =>
      intro i ys hk hy
      refine LCg.CompRest.succ fun v I oI C oC D m₂ h tk E' hv hC hx F N off ne => ?_
      obtain ⟨c, u, hc, rfl⟩ := strs_get hi i v (by simpa using hv)
      have hs : xs.take (i + 1) = xs.take i ++ [c] := by simp [List.take_add_one, hc]
      refine wpAny_mono (turn c (List.mem_of_getElem? hc) u I oI C oC D m₂ ys h tk E' hC hx F N off ne) (fun v s'' h'' => ?_) fun _ _ e => e
      obtain ⟨h3, tk3, rfl, F3, N3, u3, rfl⟩ := h''
      refine ⟨h3, tk3, news, rfl, F3, N3, off, .inr ⟨_, hm, rfl, _, rfl⟩, ih (i + 1) _ (by omega) ?_⟩
      rw [hs, List.map_append]
      exact ints_snoc hy _ _
  rw [hl]
  exact main _ 0 [] (by omega) .nil
end
noncomputable def StopP (P : Prop) : Prop := P
theorem stopP_of {P : Prop} (h : StopP P) : P := h
local macro_rules | `(tactic| walk_at "CompSrc") => `(tactic| (refine stopP_of ?_))
local macro_rules | `(tactic| walk_at "exec Assign cons ListComp") => `(tactic| (refine stopP_of ?_))
theorem strs5 {vs : List Value} {a b c d e : Str} (h : StrsAre vs [a, b, c, d, e]) : vs.toArray.size ≤ sizeLine := by
  have := h.length
  rw [List.size_toArray, this]
  have e : sizeLine = 16777216 := rfl
  show 5 ≤ _
  omega
local macro_rules | `(tactic| walk_at "call ref") => `(tactic| (k_here; refine' CL.useInt ?k1 ?k2 ?k3 ?k4 ?k5 ?kK (c_walked _ _ _ _ _ _ ?kx ?ky) ?kd ?ku ?_; (case kx => assumption); (case ky => assumption); cell_step; intro t9 h9 tk9 F9 N9; (try k_fold)))
set_option maxHeartbeats 800000 in
theorem p3a (w : World) {mean : ExcName → Option Value} {mg mb : Str → Option Value} {dp un : Nat} {gd : Option (List Code)} {outer : List Env} {A₀ : Around} {base g : Heap} {L' q : Addr} {m : Str → Option Value} {s : Shared} {Q : Flow → Shared → Prop} {E0 : Value → Shared → Prop} {o1 o2 o3 : Obj} {ws : List Value} {x0 x1 x2 x3 x4 x5 x6 : Str} {nn : Nat} {rest : List Stmt} {size : Int} {tz : Tok}
    (B : Below A₀ base outer g) (X : (KT w.params).In g) (T : Top q0 (looseW q0 lo0) mean mg mb g) (hd : dp + 12 < recursionLimit) (hu : un + 200 < cLine) (hL : @LT.lt Nat _ 96 L')
    (F : Fr g L' s.heap (fun y => if y = Str.ofString "leads" then some (.ref q) else m y)) (N : News g L' s.heap ((q, listOf ws.toArray nn) :: (L' + 1 + 1 + 1, o3) :: (L' + 1 + 1, o2) :: (L' + 1, o1) :: (96, tabObj #[]) :: (89, tabObj #[]) :: [])) (hi : StrsAre ws [x0, x1, x2, x3, x4, x5, x6])
    (hs1 : 1 ≤ size) (hs3 : size ≤ 3) (d1 : o1.data = .cell (some (.int size tz))) (d2 : ∃ v, o2.data = .cell v) (d3 : ∃ v, o3.data = .cell v)
    (lq : @LT.lt Nat _ (L' + 1 + 1 + 1) q ∧ @LT.lt Nat _ (L' + 1 + 1) q ∧ @LT.lt Nat _ (L' + 1) q)
    (hcont : ∀ (qo qh qb : Addr) h' tk' m' o2' (vo vh vb : List Value) (no nh nb : Nat), IntsAre vo (outS size [Str.ofString "", Str.ofString "\t", x0, x2, x4]) → StrsAre vh [Str.ofString "", Str.ofString "\t", x0, x2, x4] → StrsAre vb [Str.ofString "", x1, x3, x5, x6] →
      m' (Str.ofString "outer") = some (.ref qo) → m' (Str.ofString "heads") = some (.ref qh) → o2'.data = .cell (some (.ref qb)) → Fr g L' h' m' →
      News g L' h' ((qo, listOf vo.toArray no) :: (qb, listOf vb.toArray nb) :: (qh, listOf vh.toArray nh) :: (L' + 1 + 1 + 1, o3) :: (L' + 1 + 1, o2') :: (L' + 1, o1) :: (96, tabObj #[]) :: (89, tabObj #[]) :: []) →
      (@LT.lt Nat _ (L' + 1 + 1 + 1) qh ∧ @LT.lt Nat _ qh qb ∧ @Ne Nat qo qb ∧ @Ne Nat qo qh ∧ @Ne Nat qo (L' + 1 + 1 + 1) ∧ @Ne Nat qo (L' + 1 + 1) ∧ @Ne Nat qo (L' + 1)) →
      wpAny (model P0 w) (lawA dp un gd outer L') (execs rest (envL L')) Q (fun e s' => wpAny (model P0 w) (lawA dp un gd outer L') (leaving (envL L') e) (fun _ s'' => E0 e s'') (fun e' s'' => E0 e' s'') s') { s with heap := h', toks := tk' }) :
    wpAny (model P0 w) (lawA dp un gd outer L') (execs (((dBody (stm 21)).drop 5).take 3 ++ rest) (envL L')) Q (fun e s' => wpAny (model P0 w) (lawA dp un gd outer L') (leaving (envL L') e) (fun _ s'' => E0 e s'') (fun e' s'' => E0 e' s'') s') s := by
  w_top off; refine kon PySem.Challenge.rw_sn0095_01 KT ?_; k_fill; unfold Kon
  have kstM := kstMark
  obtain ⟨v2, d2⟩ := d2
  obtain ⟨v3, d3⟩ := d3
  obtain _ | ⟨_, t0, hi⟩ := hi
  obtain _ | ⟨_, t1, hi⟩ := hi
  obtain _ | ⟨_, t2, hi⟩ := hi
  obtain _ | ⟨_, t3, hi⟩ := hi
  obtain _ | ⟨_, t4, hi⟩ := hi
  obtain _ | ⟨_, t5, hi⟩ := hi
  obtain _ | ⟨_, t6, hi⟩ := hi
  cases hi
  k_steps
  unfold StopP
  refine' LCg.Assign_ListComp_U (F₀ := ?f) ?c0 ?c00 ?c1 ?c2 ?c3 ?c4 ?c5 ?c11 ?c12 ?c8 ?c9
  case f => k_asm
  case c0 => rfl
  case c00 => with_unfolding_all rfl
  case c11 => rfl
  case c12 => rfl
  case c9 => intro _; rfl
  case c2 => decide
  case c3 => rfl
  case c4 => decide
  case c5 => rfl
  case c1 => with_unfolding_all rfl
  (try k_fold)
  k_steps
  unfold StopP
  (try k_unfold)
  refine' LCg.CompSrc.ledger (news := _) rfl ?kF ?kN ?km ?sz (fun g9 => compU_strs (fun x => (walkZ size (KStt.codes x)).fdiv size) (xs := [Str.ofString "", Str.ofString "\t", x0, x2, x4]) ?kh ?km2 ?turn ?fin)
  case kF => k_asm
  case kN => k_asm
  case km => k_mem
  case kh => exact .cons _ _ (.cons _ _ (.cons _ _ (.cons _ _ (.cons _ _ .nil))))
  case km2 => k_mem
  case sz => exact strs5 (.cons _ _ (.cons _ _ (.cons _ _ (.cons _ _ (.cons _ _ .nil)))))
  case turn =>
    intro c hc t9 I9 oI9 C9 oC9 D9 m9 ys9 h9 tk9 E9 hC9 hx9 F9 N9 off9 ne9
    (try simp only [LCg.Off3, and_true] at off9)
    k_steps
    exact ⟨_, _, rfl, by k_asm, cb_drop (by k_asm) (by kcj_all), ⟨_, rfl⟩⟩
  case fin =>
    intro ys9 hy9
    unfold LCg.FinA
    intro D9 h9 tk9 F9 N9 o9
    (try simp only [LCg.Off1, and_true] at o9)
    with_unfolding_all show wpAny _ _ (execs rest _) _ _ _
    refine' hcont D9 _ _ _ _ _ _ ys9 _ _ ys9.length _ _ hy9 ?eh ?eb ?mo ?mh ?dO F9 ?eN ?eL
    case mo => exact rfl
    case mh => exact rfl
    case dO => assumption
    case eN => exact cb_drop N9 (by kcj_all)
    case eh => exact .cons _ _ (.cons _ _ (.cons _ _ (.cons _ _ (.cons _ _ .nil))))
    case eb => exact .cons _ _ (.cons _ _ (.cons _ _ (.cons _ _ (.cons _ _ .nil))))
    case eL => exact ⟨by clear o9 F9 N9; omega, by clear o9 F9 N9; omega, Ne.symm o9.1, Ne.symm o9.2.1, Ne.symm o9.2.2.2.1, Ne.symm o9.2.2.2.2.1, Ne.symm o9.2.2.2.2.2.1⟩

end
section
local macro_rules | `(tactic| walk_at "call ref") => `(tactic| (k_here; refine' CL.useInt ?k1 ?k2 ?k3 ?k4 ?k5 ?kK (c_walked _ _ _ _ _ _ ?kx ?ky) ?kd ?ku ?_; (case kx => assumption); (case ky => assumption); cell_step; intro t9 h9 tk9 F9 N9; (try k_fold)))
theorem st_inner {M : Model} {A : Around} {E : Value → Shared → Prop} {s : Shared} {g : Heap} {L' : Addr} {m : Str → Option Value} {news others : Led} {o3 : Obj} {v3 : Option Value} {v : Value} {Q : Unit → Shared → Prop} (F : Fr g L' s.heap m) (N : News g L' s.heap news) (hm : (L' + 1 + 1 + 1, o3) ∈ news) (d3 : o3.data = .cell v3) (hoth : ∀ p ∈ others, p ∈ news) (hne : ∀ p ∈ others, p.1 ≠ L' + 1 + 1 + 1)
    (h : ∀ h' o', Fr g L' h' m → News g L' h' ((L' + 1 + 1 + 1, o') :: others) → o'.data = .cell (some v) → Q () { s with heap := h' }) : wpAny M A (storeName (envL L') (Str.ofString "inner") v) Q E s :=
  storeX_C (news := (L' + 1 + 1 + 1, o3) :: others) F (fun p hp => N p (by rcases List.mem_cons.mp hp with rfl | hp; exact hm; exact hoth p hp)) (by with_unfolding_all rfl) (UpdF.head hne) d3 h (by with_unfolding_all rfl) (by with_unfolding_all rfl)
theorem p3b_ne {L' D qo qb qh : Nat} {od oo ob oh o2 o1 : Obj} (h : @Ne Nat qo D ∧ @Ne Nat qb D ∧ @Ne Nat qh D ∧ @Ne Nat (L' + 1 + 1 + 1) D ∧ @Ne Nat (L' + 1 + 1) D ∧ @Ne Nat (L' + 1) D ∧ @Ne Nat 96 D ∧ @Ne Nat 89 D)
    (lq : @LT.lt Nat _ (L' + 1 + 1 + 1) qh ∧ @LT.lt Nat _ qh qb ∧ @Ne Nat qo qb ∧ @Ne Nat qo qh ∧ @Ne Nat qo (L' + 1 + 1 + 1) ∧ @Ne Nat qo (L' + 1 + 1) ∧ @Ne Nat qo (L' + 1)) (hL : @LT.lt Nat _ 96 L') :
    (∀ p ∈ ([(D, od), (qo, oo), (qb, ob), (qh, oh), (L' + 1 + 1, o2), (L' + 1, o1), (96, tabObj #[]), (89, tabObj #[])] : Led), p.1 ≠ L' + 1 + 1 + 1) := by
  intro p hp
  simp only [List.mem_cons, List.not_mem_nil, or_false] at hp
  rcases hp with rfl | rfl | rfl | rfl | rfl | rfl | rfl | rfl
  · exact Ne.symm h.2.2.2.1
  · exact lq.2.2.2.2.1
  · exact Nat.ne_of_gt (Nat.lt_trans lq.1 lq.2.1)
  · exact Nat.ne_of_gt lq.1
  · exact Nat.ne_of_lt (Nat.lt_succ_self _)
  · exact Nat.ne_of_lt (Nat.lt_succ_of_lt (Nat.lt_succ_self _))
  · exact Nat.ne_of_lt (Nat.lt_trans hL (Nat.lt_succ_of_lt (Nat.lt_succ_of_lt (Nat.lt_succ_self _))))
  · exact Nat.ne_of_lt (Nat.lt_trans (Nat.lt_trans (by decide) hL) (Nat.lt_succ_of_lt (Nat.lt_succ_of_lt (Nat.lt_succ_self _))))
theorem p3b_ne2 {L' D qo qb qh : Nat} (h : @Ne Nat qo D ∧ @Ne Nat qb D ∧ @Ne Nat qh D ∧ @Ne Nat (L' + 1 + 1 + 1) D ∧ @Ne Nat (L' + 1 + 1) D ∧ @Ne Nat (L' + 1) D ∧ @Ne Nat 96 D ∧ @Ne Nat 89 D) :
    @Ne Nat D qo ∧ @Ne Nat D qb ∧ @Ne Nat D qh ∧ @Ne Nat D (L' + 1 + 1 + 1) ∧ @Ne Nat D (L' + 1 + 1) ∧ @Ne Nat D (L' + 1) := ⟨Ne.symm h.1, Ne.symm h.2.1, Ne.symm h.2.2.1, Ne.symm h.2.2.2.1, Ne.symm h.2.2.2.2.1, Ne.symm h.2.2.2.2.2.1⟩
noncomputable def Stop2 (P : Prop) : Prop := P
theorem stop2_of {P : Prop} (h : Stop2 P) : P := h
local macro_rules | `(tactic| walk_at "CompSrc") => `(tactic| (refine stop2_of ?_))
local macro_rules | `(tactic| walk_at "eval ListComp") => `(tactic| (refine stop2_of ?_))
local macro_rules | `(tactic| walk_at "storeName") => `(tactic| (refine stop2_of ?_))
set_option maxHeartbeats 800000 in
theorem p3b (w : World) {mean : ExcName → Option Value} {mg mb : Str → Option Value} {dp un : Nat} {gd : Option (List Code)} {outer : List Env} {A₀ : Around} {base g : Heap} {L' qo qb qh : Addr} {m : Str → Option Value} {s : Shared} {Q : Flow → Shared → Prop} {E0 : Value → Shared → Prop} {o1 o2 o3 oo oh : Obj} {vb : List Value} {x1 x3 x5 x6 : Str} {nb : Nat} {rest : List Stmt} {size : Int} {tz : Tok}
    (B : Below A₀ base outer g) (X : (KT w.params).In g) (T : Top q0 (looseW q0 lo0) mean mg mb g) (hd : dp + 12 < recursionLimit) (hu : un + 200 < cLine) (hL : @LT.lt Nat _ 96 L')
    (F : Fr g L' s.heap m) (N : News g L' s.heap ((qo, oo) :: (qb, listOf vb.toArray nb) :: (qh, oh) :: (L' + 1 + 1 + 1, o3) :: (L' + 1 + 1, o2) :: (L' + 1, o1) :: (96, tabObj #[]) :: (89, tabObj #[]) :: [])) (hi : StrsAre vb [Str.ofString "", x1, x3, x5, x6])
    (hs1 : 1 ≤ size) (hs3 : size ≤ 3) (d1 : o1.data = .cell (some (.int size tz))) (d2 : o2.data = .cell (some (.ref qb))) (d3 : ∃ v, o3.data = .cell v)
    (lq : @LT.lt Nat _ (L' + 1 + 1 + 1) qh ∧ @LT.lt Nat _ qh qb ∧ @Ne Nat qo qb ∧ @Ne Nat qo qh ∧ @Ne Nat qo (L' + 1 + 1 + 1) ∧ @Ne Nat qo (L' + 1 + 1) ∧ @Ne Nat qo (L' + 1))
    (hcont : ∀ (qi : Addr) h' o3' (vi : List Value) (ni tk' : Nat), IntsAre vi (outS size [Str.ofString "", x1, x3, x5, x6]) → o3'.data = .cell (some (.ref qi)) → Fr g L' h' m →
      News g L' h' ((L' + 1 + 1 + 1, o3') :: (qi, listOf vi.toArray ni) :: (qo, oo) :: (qb, listOf vb.toArray nb) :: (qh, oh) :: (L' + 1 + 1, o2) :: (L' + 1, o1) :: (96, tabObj #[]) :: (89, tabObj #[]) :: []) →
      (@Ne Nat qi qo ∧ @Ne Nat qi qb ∧ @Ne Nat qi qh ∧ @Ne Nat qi (L' + 1 + 1 + 1) ∧ @Ne Nat qi (L' + 1 + 1) ∧ @Ne Nat qi (L' + 1)) →
      wpAny (model P0 w) (lawA dp un gd outer L') (execs rest (envL L')) Q (fun e s' => wpAny (model P0 w) (lawA dp un gd outer L') (leaving (envL L') e) (fun _ s'' => E0 e s'') (fun e' s'' => E0 e' s'') s') { s with heap := h', toks := tk' }) :
    wpAny (model P0 w) (lawA dp un gd outer L') (execs (((dBody (stm 21)).drop 8).take 1 ++ rest) (envL L')) Q (fun e s' => wpAny (model P0 w) (lawA dp un gd outer L') (leaving (envL L') e) (fun _ s'' => E0 e s'') (fun e' s'' => E0 e' s'') s') s := by
  w_top off; refine kon PySem.Challenge.rw_sn0095_01 KT ?_; k_fill; unfold Kon
  have kstM := kstMark
  obtain ⟨v3, d3⟩ := d3
  k_steps
  unfold Stop2
  k_here
  refine' LCg.ListComp_U (F₀ := ?f) ?c1 ?c2 ?c3 ?c4 ?c5 ?c8 ?c9
  case f => k_asm
  case c9 => intro _; rfl
  case c2 => decide
  case c3 => rfl
  case c4 => decide
  case c5 => rfl
  case c1 => with_unfolding_all rfl
  (try k_fold)
  k_steps
  unfold Stop2
  (try k_unfold)
  refine' LCg.CompSrc.ledger (news := _) rfl ?kF ?kN ?km ?sz (fun g9 => compU_strs (fun x => (walkZ size (KStt.codes x)).fdiv size) hi ?km2 ?turn ?fin)
  case kF => k_asm
  case kN => k_asm
  case km => k_mem
  case km2 => k_mem
  case sz => exact strs5 hi
  case turn =>
    intro c hc t9 I9 oI9 C9 oC9 D9 m9 ys9 h9 tk9 E9 hC9 hx9 F9 N9 off9 ne9
    (try simp only [LCg.Off3, and_true] at off9)
    k_steps
    exact ⟨_, _, rfl, by k_asm, cb_drop (by k_asm) (by kcj_all), ⟨_, rfl⟩⟩
  case fin =>
    intro ys9 hy9
    unfold LCg.FinE
    intro D9 h9 tk9 F9 N9 o9
    (try simp only [LCg.Off1, and_true] at o9)
    (try k_fold)
    k_steps
    unfold Stop2
    (rename News _ _ _ _ => nE'); (rename Fr _ _ _ _ => fE')
    refine' st_inner (others := [_, (qo, oo), (qb, _), (qh, oh), (L' + 1 + 1, o2), (L' + 1, o1), (96, tabObj #[]), (89, tabObj #[])]) fE' nE' ?km d3 ?oth ?hne (fun h9 o9 F9 N9 d9 => ?_)
    case km => k_mem
    case oth => kcj_all
    case hne => exact p3b_ne (by assumption) lq hL
    refine hcont _ _ _ _ _ _ ?ei d9 F9 N9 ?eL
    case ei => exact hy9
    case eL => exact p3b_ne2 (by assumption)

end
section
noncomputable def colS (size : Int) (x y : Str) : Int := size * ((walkZ size (KStt.codes x)).fdiv size + (walkZ size (KStt.codes y)).fdiv size)
noncomputable def ColOk (size : Int) (x y : Str) : Prop := (x ++ y).length < 40 ∧ (∀ c ∈ KStt.codes (x ++ y), c = 32 ∨ c = 9) ∧
  ∀ cnt b n nt, (cnt, b, n, nt) = foldW (KStt.codes (x ++ y)) → (∀ v ∈ cnt, 0 ≤ v ∧ v ≤ 41) ∧ (0 ≤ nt ∧ nt ≤ 41) ∧ b + size * (indZ size cnt (rangeKs size ((cnt.length : Int) - size).toNat) + nt) = colS size x y
noncomputable def Stop3 (P : Prop) : Prop := P
theorem stop3_of {P : Prop} (h : Stop3 P) : P := h
noncomputable def GC (size : Int) (v1 v2 r : Value) : Prop := ∃ x y t u k, v1 = .str x t ∧ v2 = .str y u ∧ r = .int (colS size x y) k
theorem strs_mem {vs : List Value} {xs : List Str} (h : StrsAre vs xs) {v : Value} (hv : v ∈ vs) : ∃ x t, x ∈ xs ∧ v = .str x t := by
  induction h with
  | nil => cases hv
  | cons x t h ih =>
    rcases List.mem_cons.mp hv with rfl | hv
    · exact ⟨x, t, .head _, rfl⟩
    · obtain ⟨x', t', h1, h2⟩ := ih hv; exact ⟨x', t', .tail _ h1, h2⟩
theorem cols_row {size : Int} {x : Str} {t : Tok} {lv2 : List Value} {zs : List Str} (h : StrsAre lv2 zs) : ∀ {ys : List Value}, Paired (fun (p : Value × Value) => GC size p.1 p.2) (lv2.map fun b => (Value.str x t, b)) ys → IntsAre ys (zs.map (colS size x)) := by
  induction h with
  | nil => intro ys hp; cases hp; exact .nil
  | cons z u h ih =>
    intro ys hp
    cases hp with
    | cons hg hp =>
      obtain ⟨x', y', t', u', k, e1, e2, rfl⟩ := hg
      cases e1; cases e2
      exact .cons _ _ (ih hp)
theorem paired_split {α β : Type} {F : α → β → Prop} : ∀ {l₁ k₁ : List α} {ys : List β}, Paired F (l₁ ++ k₁) ys → ∃ a b, ys = a ++ b ∧ Paired F l₁ a ∧ Paired F k₁ b
  | [], _, ys, h => ⟨[], ys, rfl, .nil, h⟩
  | _ :: _, _, _, .cons a t => by
    obtain ⟨x, y, e, h1, h2⟩ := paired_split t
    exact ⟨_ :: x, y, by rw [e]; rfl, .cons a h1, h2⟩
theorem ints_app {a b : List Value} {x y : List Int} (h : IntsAre a x) (k : IntsAre b y) : IntsAre (a ++ b) (x ++ y) := by
  induction h with
  | nil => exact k
  | cons n t h ih => exact .cons n t ih
theorem cols_all {size : Int} {lv1 lv2 : List Value} {xs zs : List Str} (h1 : StrsAre lv1 xs) (h2 : StrsAre lv2 zs) : ∀ {ys : List Value}, Paired (fun (p : Value × Value) => GC size p.1 p.2) (pairs2 lv1 lv2) ys → IntsAre ys (xs.flatMap fun x => zs.map (colS size x)) := by
  induction h1 with
  | nil => intro ys hp; cases hp; exact .nil
  | cons x t h ih =>
    rename_i vs xs
    intro ys hp
    have e : pairs2 (Value.str x t :: vs) lv2 = (lv2.map fun b => (Value.str x t, b)) ++ pairs2 vs lv2 := by simp [pairs2]
    rw [e] at hp
    obtain ⟨a, b, rfl, ha, hb⟩ := paired_split hp
    rw [List.flatMap_cons]
    exact ints_app (cols_row h2 ha) (ih hb)
theorem col_use {size : Int} {x y : Str} (hk : ColOk size x y) {cnt : List Int} {b n nt : Int} (hw : (cnt, b, n, nt) = foldW (KStt.codes (x ++ y))) :
    (∀ v ∈ cnt, 0 ≤ v ∧ v ≤ 41) ∧ (0 ≤ nt ∧ nt ≤ 41) ∧ b + size * (indZ size cnt (rangeKs size ((cnt.length : Int) - size).toNat) + nt) = colS size x y := hk.2.2 _ _ _ _ hw
theorem col_len {size : Int} {x y : Str} (hk : ColOk size x y) : (x ++ y).length < 40 := hk.1
theorem col_l1 {size : Int} {x y : Str} (hk : ColOk size x y) : x.length < 40 ∧ y.length < 40 := by
  have h := hk.1
  rw [len_append] at h
  omega
theorem col_chr {size : Int} {x y : Str} (hk : ColOk size x y) : ∀ c ∈ KStt.codes (x ++ y), c = 32 ∨ c = 9 := hk.2.1
theorem gc_of {size : Int} {x y : Str} {t u : Tok} {z : Int} {k : Tok} (h : z = colS size x y) : GC size (.str x t) (.str y u) (.int z k) := ⟨x, y, t, u, k, rfl, rfl, by rw [h]⟩
local macro_rules | `(tactic| walk_at "call ref") => `(tactic| (k_here; refine' CL.use ?k1 ?k2 ?k3 ?k4 ?k5 ?kK (c_winit _ _ _ _ ?kx ?ky) ?kd ?ku ?_; (case kx => exact col_len (by assumption)); (case ky => exact col_chr (by assumption)); cell_step; intro v9 news9 h9 tk9 r9 F9 N9; (obtain ⟨⟨x', d', tn', tc', vs', xs', si', n', nt', b', tx', t1', t2', t3', k1', k2', k3', k4', k5'⟩, cnt', e9, e8, hi', hw', hc', l1', l2', l3', l4'⟩ := r9); subst e9; subst e8; (have hq9 := col_use (by assumption) hw'); (obtain ⟨hq1, hq2, hq3⟩ := hq9); clear hw'; (try k_fold)))
local macro_rules | `(tactic| walk_at "call ref") => `(tactic| (k_here; refine' CL.useInt ?k1 ?k2 ?k3 ?k4 ?k5 ?kK (c_ind _ _ _ _ _ _ _ _ _ _ _ _ _ _ _ _ _ _ _ _ _ _ _ _ ?ka ?kb ?kc ?ke ?kf ?kg) ?kd ?ku ?_; (case kc => assumption); (case ka => assumption); (case kb => assumption); (case ke => assumption); (case kf => assumption); (case kg => assumption); cell_step; intro t9 h9 tk9 F9 N9; (try k_fold)))
local macro_rules | `(tactic| walk_at "eval ListComp") => `(tactic| (refine stop3_of ?_))
set_option maxHeartbeats 800000 in
theorem p4a (w : World) {mean : ExcName → Option Value} {mg mb : Str → Option Value} {dp un : Nat} {gd : Option (List Code)} {outer : List Env} {A₀ : Around} {base g : Heap} {L' qo qi qb qh : Addr} {m : Str → Option Value} {s : Shared} {Q : Flow → Shared → Prop} {E0 : Value → Shared → Prop} {o1 o2 o3 oo oi : Obj} {vb vh : List Value} {xh xb : List Str} {nb nh : Nat} {rest : List Stmt} {size : Int} {tz : Tok}
    (B : Below A₀ base outer g) (X : (KT w.params).In g) (T : Top q0 (looseW q0 lo0) mean mg mb g) (hd : dp + 12 < recursionLimit) (hu : un + 200 < cLine) (hL : @LT.lt Nat _ 96 L')
    (hmh : m (Str.ofString "heads") = some (.ref qh)) (F : Fr g L' s.heap m) (N : News g L' s.heap ((qi, oi) :: (qo, oo) :: (qb, listOf vb.toArray nb) :: (qh, listOf vh.toArray nh) :: (L' + 1 + 1 + 1, o3) :: (L' + 1 + 1, o2) :: (L' + 1, o1) :: (96, tabObj #[]) :: (89, tabObj #[]) :: []))
    (hib : StrsAre vb xb) (hih : StrsAre vh xh) (hlb : xb.length = 5) (hlh : xh.length = 5)
    (hs1 : 1 ≤ size) (hs3 : size ≤ 3) (d1 : o1.data = .cell (some (.int size tz))) (d2 : o2.data = .cell (some (.ref qb)))
    (hcol : ∀ x ∈ xh, ∀ y ∈ xb, ColOk size x y)
    (hcont : ∀ (qc : Addr) h' (vc : List Value) (nc tk' : Nat) m', IntsAre vc (xh.flatMap fun x => xb.map (colS size x)) → m' (Str.ofString "columns") = some (.ref qc) → (∀ z, z ≠ Str.ofString "columns" → m' z = m z) → Fr g L' h' m' →
      News g L' h' ((qc, listOf vc.toArray nc) :: (qi, oi) :: (qo, oo) :: (L' + 1 + 1 + 1, o3) :: (L' + 1 + 1, o2) :: (L' + 1, o1) :: (96, tabObj #[]) :: (89, tabObj #[]) :: []) →
      (@Ne Nat qc qi ∧ @Ne Nat qc qo ∧ @Ne Nat qc (L' + 1 + 1 + 1) ∧ @Ne Nat qc (L' + 1 + 1) ∧ @Ne Nat qc (L' + 1)) →
      wpAny (model P0 w) (lawA dp un gd outer L') (execs rest (envL L')) Q (fun e s' => wpAny (model P0 w) (lawA dp un gd outer L') (leaving (envL L') e) (fun _ s'' => E0 e s'') (fun e' s'' => E0 e' s'') s') { s with heap := h', toks := tk' }) :
    wpAny (model P0 w) (lawA dp un gd outer L') (execs (((dBody (stm 21)).drop 9).take 1 ++ rest) (envL L')) Q (fun e s' => wpAny (model P0 w) (lawA dp un gd outer L') (leaving (envL L') e) (fun _ s'' => E0 e s'') (fun e' s'' => E0 e' s'') s') s := by
  w_top off; refine kon PySem.Challenge.rw_sn0095_01 KT ?_; k_fill; unfold Kon
  have kstM := kstMark
  replace F := fr_name F hmh
  k_steps
  refine' Assign_ListComp_2 (F₀ := ?f) ?c0 ?c00 ?c1 ?c2 ?c3 ?c4 ?c5 ?c6 ?c7 ?c11 ?c12 ?c8 ?c9 ?c10
  case f => k_asm
  case c0 => rfl
  case c00 => with_unfolding_all rfl
  case c11 => rfl
  case c12 => rfl
  case c9 => intro _; rfl
  case c10 => intro _ _; rfl
  case c2 => decide
  case c3 => rfl
  case c4 => decide
  case c5 => rfl
  case c6 => rfl
  case c7 => decide
  case c1 => with_unfolding_all rfl
  (try k_fold)
  k_steps
  (try k_unfold)
  refine ⟨qh, qb, vh, vb, nh, nb, _, GC size, rfl, rfl, by k_asm, by k_asm, by k_mem, by k_mem, ?sz, ?sz1, ?TI, ?TE, ?fin⟩
  case sz => rw [hih.length, hib.length, hlb, hlh]; decide
  case sz1 => rw [hih.length, hlh]; decide
  case TI =>
    intro v1 hv1
    obtain ⟨x, t, hx, rfl⟩ := strs_mem hih hv1
    intro I9 oI9 C9 oC9 D9 m9 ys9 h9 tk9 E9 hC9 hx9 F9 N9 off9 ne9
    (try simp only [LCg.Off3, and_true] at off9)
    k_steps
    exact ⟨_, _, rfl, by k_asm, by k_asm, rfl⟩
  case TE =>
    intro v1 hv1 v2 hv2
    obtain ⟨x, t, hx, rfl⟩ := strs_mem hih hv1
    obtain ⟨y, u, hy, rfl⟩ := strs_mem hib hv2
    have hk9 := hcol x hx y hy
    clear hcol
    obtain ⟨hxl, hyl⟩ := col_l1 hk9
    intro J9 oJ9 I9 oI9 C9 oC9 D9 m9 ys9 h9 tk9 E9 hC9 hx9 hy9 F9 N9 off9 ne9
    (try simp only [Off4, and_true] at off9)
    k_steps
    exact ⟨_, _, rfl, by k_asm, cb_drop (by k_asm) (by kcj_all), gc_of (by assumption)⟩
  case fin =>
    intro ys9 hy9
    unfold LCg.FinA
    intro D9 h9 tk9 F9 N9 o9
    (try simp only [LCg.Off1, and_true] at o9)
    with_unfolding_all show wpAny _ _ (execs rest _) _ _ _
    refine hcont D9 _ ys9 ys9.length _ _ (cols_all hih hib hy9) ?cm ?co F9 ?cN ?cL
    case cm => exact if_pos rfl
    case co =>
      intro z hz
      rw [if_neg hz]
      dsimp only
      by_cases e : z = Str.ofString "heads"
      · rw [if_pos e, e, hmh]
      · rw [if_neg e]
    case cN => exact cb_drop N9 (by kcj_all)
    case cL => exact ⟨Ne.symm o9.1, Ne.symm o9.2.1, Ne.symm o9.2.2.2.2.1, Ne.symm o9.2.2.2.2.2.1, Ne.symm o9.2.2.2.2.2.2.1⟩

end
section
noncomputable def GI (size : Int) (v1 v2 r : Value) : Prop := ∃ x y t u k, v1 = .int x t ∧ v2 = .int y u ∧ r = .int (size * (x + y)) k
theorem ints_mem {vs : List Value} {xs : List Int} (h : IntsAre vs xs) {v : Value} (hv : v ∈ vs) : ∃ x t, x ∈ xs ∧ v = .int x t := by
  induction h with
  | nil => cases hv
  | cons x t h ih =>
    rcases List.mem_cons.mp hv with rfl | hv
    · exact ⟨x, t, .head _, rfl⟩
    · obtain ⟨x', t', h1, h2⟩ := ih hv; exact ⟨x', t', .tail _ h1, h2⟩
theorem gi_row {size : Int} {x : Int} {t : Tok} {lv2 : List Value} {zs : List Int} (h : IntsAre lv2 zs) : ∀ {ys : List Value}, Paired (fun (p : Value × Value) => GI size p.1 p.2) (lv2.map fun b => (Value.int x t, b)) ys → IntsAre ys (zs.map fun z => size * (x + z)) := by
  induction h with
  | nil => intro ys hp; cases hp; exact .nil
  | cons z u h ih =>
    intro ys hp
    cases hp with
    | cons hg hp =>
      obtain ⟨x', y', t', u', k, e1, e2, rfl⟩ := hg
      cases e1; cases e2
      exact .cons _ _ (ih hp)
theorem gi_all {size : Int} {lv1 lv2 : List Value} {xs zs : List Int} (h1 : IntsAre lv1 xs) (h2 : IntsAre lv2 zs) : ∀ {ys : List Value}, Paired (fun (p : Value × Value) => GI size p.1 p.2) (pairs2 lv1 lv2) ys → IntsAre ys (xs.flatMap fun x => zs.map fun z => size * (x + z)) := by
  induction h1 with
  | nil => intro ys hp; cases hp; exact .nil
  | cons x t h ih =>
    rename_i vs xs
    intro ys hp
    have e : pairs2 (Value.int x t :: vs) lv2 = (lv2.map fun b => (Value.int x t, b)) ++ pairs2 vs lv2 := by simp [pairs2]
    rw [e] at hp
    obtain ⟨a, b, rfl, ha, hb⟩ := paired_split hp
    rw [List.flatMap_cons]
    exact ints_app (gi_row h2 ha) (ih hb)
theorem gi_of {size x y : Int} {t u k : Tok} : GI size (.int x t) (.int y u) (.int (size * (x + y)) k) := ⟨x, y, t, u, k, rfl, rfl, rfl⟩
theorem cols_eq (size : Int) (xh xb : List Str) : (xh.flatMap fun x => xb.map (colS size x)) = (outS size xh).flatMap fun x => (outS size xb).map fun z => size * (x + z) := by
  unfold outS
  rw [List.flatMap_map]
  congr 1
  funext x
  rw [List.map_map]
  rfl
noncomputable def Stop4 (P : Prop) : Prop := P
theorem stop4_of {P : Prop} (h : Stop4 P) : P := h
theorem mul_sz {size y : Int} (h1 : 1 ≤ size) (h3 : size ≤ 3) : IntMulOk size y := .of_left (by
  obtain ⟨n, hn⟩ := Int.eq_ofNat_of_zero_le (show 0 ≤ size by omega)
  rw [hn]; exact bits41 n (by omega))
theorem fr_un {h₀ h : Heap} {L : Addr} {m : Str → Option Value} {x : Str} {v : Value} (F : Fr h₀ L h (fun y => if y = x then some v else m y)) (hv : m x = some v) : Fr h₀ L h m := by
  have e : (fun y => if y = x then some v else m y) = m := by
    funext y
    by_cases q : y = x
    · rw [if_pos q, q, hv]
    · rw [if_neg q]
  rw [e] at F; exact F
local macro_rules | `(tactic| walk_at "eval ListComp") => `(tactic| (refine stop4_of ?_))
local macro_rules | `(tactic| walk_at "binaryOp Mult int int") => `(tactic| (k_here; k_dflt (refine mul_int ?_ (mul_sz (by assumption) (by assumption)))))
set_option maxHeartbeats 800000 in
theorem p4b (w : World) {mean : ExcName → Option Value} {mg mb : Str → Option Value} {dp un : Nat} {gd : Option (List Code)} {outer : List Env} {A₀ : Around} {base g : Heap} {L' qo qi qc : Addr} {m : Str → Option Value} {s : Shared} {Q : Flow → Shared → Prop} {E0 : Value → Shared → Prop} {o1 o2 o3 : Obj} {vo vi vc : List Value} {xh xb : List Str} {no ni nc : Nat} {rest : List Stmt} {size : Int} {tz : Tok}
    (B : Below A₀ base outer g) (X : (KT w.params).In g) (T : Top q0 (looseW q0 lo0) mean mg mb g) (hd : dp + 12 < recursionLimit) (hu : un + 200 < cLine) (hL : @LT.lt Nat _ 96 L')
    (hmo : m (Str.ofString "outer") = some (.ref qo)) (hmc : m (Str.ofString "columns") = some (.ref qc)) (F : Fr g L' s.heap m) (N : News g L' s.heap ((qc, listOf vc.toArray nc) :: (qi, listOf vi.toArray ni) :: (qo, listOf vo.toArray no) :: (L' + 1 + 1 + 1, o3) :: (L' + 1 + 1, o2) :: (L' + 1, o1) :: (96, tabObj #[]) :: (89, tabObj #[]) :: []))
    (hio : IntsAre vo (outS size xh)) (hii : IntsAre vi (outS size xb)) (hic : IntsAre vc (xh.flatMap fun x => xb.map (colS size x))) (hlb : xb.length = 5) (hlh : xh.length = 5)
    (hs1 : 1 ≤ size) (hs3 : size ≤ 3) (d1 : o1.data = .cell (some (.int size tz))) (d3 : o3.data = .cell (some (.ref qi)))
    (hcont : ∀ h' (tk' : Nat), Fr g L' h' m → News g L' h' ((qc, listOf vc.toArray nc) :: (qi, listOf vi.toArray ni) :: (qo, listOf vo.toArray no) :: (L' + 1 + 1 + 1, o3) :: (L' + 1 + 1, o2) :: (L' + 1, o1) :: (96, tabObj #[]) :: (89, tabObj #[]) :: []) →
      wpAny (model P0 w) (lawA dp un gd outer L') (execs rest (envL L')) Q (fun e s' => wpAny (model P0 w) (lawA dp un gd outer L') (leaving (envL L') e) (fun _ s'' => E0 e s'') (fun e' s'' => E0 e' s'') s') { s with heap := h', toks := tk' }) :
    wpAny (model P0 w) (lawA dp un gd outer L') (execs (((dBody (stm 21)).drop 10).take 1 ++ rest) (envL L')) Q (fun e s' => wpAny (model P0 w) (lawA dp un gd outer L') (leaving (envL L') e) (fun _ s'' => E0 e s'') (fun e' s'' => E0 e' s'') s') s := by
  w_top off; refine kon PySem.Challenge.rw_sn0095_01 KT ?_; k_fill; unfold Kon
  have kstM := kstMark
  replace F := fr_name (fr_name F hmo) (x := Str.ofString "columns") (v := .ref qc) (by rw [if_neg (by decide), hmc])
  k_steps
  unfold Stop4
  k_here
  refine' ListComp_2 (F₀ := ?f) ?c1 ?c2 ?c3 ?c4 ?c5 ?c6 ?c7 ?c8 ?c9 ?c10
  case f => k_asm
  case c9 => intro _; rfl
  case c10 => intro _ _; rfl
  case c2 => decide
  case c3 => rfl
  case c4 => decide
  case c5 => rfl
  case c6 => rfl
  case c7 => decide
  case c1 => with_unfolding_all rfl
  (try k_fold)
  k_steps
  (try k_unfold)
  refine ⟨qo, qi, vo, vi, no, ni, _, GI size, rfl, rfl, by k_asm, by k_asm, by k_mem, by k_mem, ?sz, ?sz1, ?TI, ?TE, ?fin⟩
  case sz => rw [hio.length, hii.length]; unfold outS; rw [List.length_map, List.length_map, hlb, hlh]; decide
  case sz1 => rw [hio.length]; unfold outS; rw [List.length_map, hlh]; decide
  case TI =>
    intro v1 hv1
    obtain ⟨x, t, hx, rfl⟩ := ints_mem hio hv1
    intro I9 oI9 C9 oC9 D9 m9 ys9 h9 tk9 E9 hC9 hx9 F9 N9 off9 ne9
    (try simp only [LCg.Off3, and_true] at off9)
    k_steps
    exact ⟨_, _, rfl, by k_asm, by k_asm, rfl⟩
  case TE =>
    intro v1 hv1 v2 hv2
    obtain ⟨x, t, hx, rfl⟩ := ints_mem hio hv1
    obtain ⟨y, u, hy, rfl⟩ := ints_mem hii hv2
    intro J9 oJ9 I9 oI9 C9 oC9 D9 m9 ys9 h9 tk9 E9 hC9 hx9 hy9 F9 N9 off9 ne9
    (try simp only [Off4, and_true] at off9)
    k_steps
    exact ⟨_, _, rfl, by k_asm, cb_drop (by k_asm) (by kcj_all), gi_of⟩
  case fin =>
    intro ys9 hy9
    have hi9 := gi_all hio hii hy9
    rw [← cols_eq] at hi9
    unfold LCg.FinE
    intro D9 h9 tk9 F9 N9 o9
    (try simp only [LCg.Off1, and_true] at o9)
    (try k_fold)
    k_steps
    with_unfolding_all show wpAny _ _ (execs rest _) _ _ _
    refine hcont _ _ (fr_un (fr_un (by assumption) (by rw [if_neg (by decide), hmc])) hmo) (cb_drop (by assumption) (by kcj_all))

end
section
theorem hd100 {P : Params} {h : Heap} (X : (KT P).In h) : CodeHd h 100 96 := by
  have e := X 100 _ (by rfl)
  refine ⟨_, _, _, _, _, _, _, _, _, e, rfl, rfl, rfl, rfl, rfl, rfl, rfl, rfl, by decide⟩
theorem hd93 {P : Params} {h : Heap} (X : (KT P).In h) : CodeHd h 93 89 := by
  have e := X 93 _ (by rfl)
  refine ⟨_, _, _, _, _, _, _, _, _, e, rfl, rfl, rfl, rfl, rfl, rfl, rfl, rfl, by decide⟩
theorem allne_e {l L' X : Nat} {news : Led} (h : @LT.lt Nat _ l L' ∧ @LT.lt Nat _ 96 L' ∧ AllLt L' news) (hX : L' ≤ X) : ∀ p ∈ news, p.1 ≠ X := fun p hp => Nat.ne_of_lt (Nat.lt_of_lt_of_le (allLt_mem h.2.2 p hp) hX)
noncomputable abbrev inS : Stmt := sub (stm 5) 0
noncomputable abbrev inQ : Str := Str.ofString "_digits2int.<locals>.inner"
noncomputable def valD (l : List Int) : Int := l.foldr (fun d r => d + 64 * r) 0
noncomputable def sl (ns : List Int) (a b : Int) : List Int := (ns.drop a.toNat).take (b - a).toNat
noncomputable abbrev inLed (f c' cI cN cD l : Addr) (doc pm ctv : Value) (oc oI oN oD ol : Obj) (tail : Led) : Led :=
  (f, fnMade (Str.ofString "inner") inQ (dArgs inS) (dBody inS) (dScope inS) [(Str.ofString "n", cN), (Str.ofString "inner", cI), (Str.ofString "digits", cD)] doc pm c' ctv) :: (c', oc) :: (cI, oI) :: (cN, oN) :: (cD, oD) :: (l, ol) :: tail
theorem valD_one {ns : List Int} {a b : Int} (h0 : 0 ≤ a) (h1 : a + 1 = b) (h2 : b ≤ (ns.length : Int)) : ns.getD a.toNat 0 = valD (sl ns a b) := by
  have e1 : (b - a).toNat = 1 := by omega
  have e2 : a.toNat < ns.length := by omega
  unfold sl
  rw [e1, List.drop_eq_getElem_cons e2]
  have e3 : ns.getD a.toNat 0 = ns[a.toNat] := by simp [List.getD, e2]
  rw [e3]
  show ns[a.toNat] = ns[a.toNat] + 64 * 0
  omega
theorem valD_app (x y : List Int) : valD (x ++ y) = valD x + 64 ^ x.length * valD y := by
  induction x with
  | nil => simp [valD]
  | cons d r ih =>
    have e : valD (d :: r ++ y) = d + 64 * valD (r ++ y) := rfl
    have e2 : valD (d :: r) = d + 64 * valD r := rfl
    rw [e, e2, ih, List.length_cons, Int.pow_succ, Int.mul_add, Int.add_assoc]
    rw [Int.mul_comm (64 ^ r.length) 64, Int.mul_assoc]
theorem valD_midN {ns : List Int} {a j k : Nat} (h3 : a + j + k ≤ ns.length) : valD ((ns.drop a).take (j + k)) = valD ((ns.drop a).take j) + 64 ^ j * valD ((ns.drop (a + j)).take k) := by
  have hl : ((ns.drop a).take j).length = j := by
    rw [List.length_take, List.length_drop]
    exact Nat.min_eq_left (Nat.le_sub_of_add_le (Nat.le_trans (Nat.le_of_eq (Nat.add_comm j a)) (Nat.le_trans (Nat.le_add_right _ k) h3)))
  rw [List.take_add, List.drop_drop, valD_app, hl]
theorem nat3 {a b m : Int} (h0 : 0 ≤ a) (h1 : a < m) (h2 : m < b) : ∃ (x j k : Nat), a = (x : Int) ∧ m = ((x + j : Nat) : Int) ∧ b = ((x + j + k : Nat) : Int) ∧ (m - a).toNat = j ∧ (b - m).toNat = k ∧ (b - a).toNat = j + k ∧ ((m - a) * 6).toNat = 6 * j := by
  obtain ⟨x, rfl⟩ := Int.eq_ofNat_of_zero_le h0
  obtain ⟨j, hj⟩ := Int.le.dest (Int.le_of_lt h1)
  obtain ⟨k, hk⟩ := Int.le.dest (Int.le_of_lt h2)
  refine ⟨x, j, k, rfl, ?_, ?_, ?_, ?_, ?_, ?_⟩ <;> omega
theorem valD_mid {ns : List Int} {a b m : Int} (h0 : 0 ≤ a) (h1 : a < m) (h2 : m < b) (h3 : b ≤ (ns.length : Int)) : valD (sl ns a b) = valD (sl ns a m) + 64 ^ (m - a).toNat * valD (sl ns m b) := by
  obtain ⟨x, j, k, ea, em, eb, e1, e2, e3, _⟩ := nat3 h0 h1 h2
  unfold sl
  rw [e1, e2, e3, ea, em, Int.toNat_natCast, Int.toNat_natCast]
  exact valD_midN (Int.ofNat_le.mp (eb ▸ h3))
theorem mid_f {a b : Int} (h0 : 0 ≤ a) (h1 : a < b) : a + 1 = b ∨ (a < (a + b).fdiv (2 ^ Int.toNat 1) ∧ (a + b).fdiv (2 ^ Int.toNat 1) < b) := by
  have e : (2 : Int) ^ Int.toNat 1 = 2 := rfl
  rw [e, Int.fdiv_eq_ediv_of_nonneg _ (by decide)]
  omega
theorem shl_mid {ns : List Int} {a b m : Int} (h0 : 0 ≤ a) (h1 : a < m) (h2 : m < b) (h3 : b ≤ (ns.length : Int)) {x y : Int} (hx : x = valD (sl ns m b)) (hy : y = valD (sl ns a m)) : x * 2 ^ ((m - a) * 6).toNat + y = valD (sl ns a b) := by
  obtain ⟨_, j, _, _, _, _, e1, _, _, e4⟩ := nat3 h0 h1 h2
  rw [valD_mid h0 h1 h2 h3, e1, e4, Int.pow_mul, hx, hy, Int.mul_comm, Int.add_comm]
  rfl
structure InIH (w : World) (f c' cI cN cD l : Addr) (doc pm ctv : Value) (oc oI oN oD ol : Obj) (tail : Led) (ns : List Int) (k : Nat) : Prop where
  get : ∀ (a b : Int) (t u : Tok), 0 ≤ a → a < b → b ≤ (ns.length : Int) → b - a ≤ (k : Int) →
      CL w (k + 1) (8 * k + 8) f [.int a t, .int b u] (inLed f c' cI cN cD l doc pm ctv oc oI oN oD ol tail) (RInt (valD (sl ns a b)) (inLed f c' cI cN cD l doc pm ctv oc oI oN oD ol tail))
theorem valD_lt (l : List Int) (h : ∀ x ∈ l, 0 ≤ x ∧ x < 64) : 0 ≤ valD l ∧ valD l < 64 ^ l.length := by
  induction l with
  | nil => exact ⟨Int.le_refl _, by decide⟩
  | cons d r ih =>
    have h1 := h d (.head _)
    have h2 := ih fun x hx => h x (.tail _ hx)
    have e2 : valD (d :: r) = d + 64 * valD r := rfl
    rw [e2, List.length_cons, Int.pow_succ]
    omega
theorem sl_mem {ns : List Int} {a b x : Int} (h : x ∈ sl ns a b) : x ∈ ns := List.mem_of_mem_drop (List.mem_of_mem_take h)
theorem valD_bits {l : List Int} (h : ∀ x ∈ l, 0 ≤ x ∧ x < 64) : Builtin.Int.intBits (valD l) ≤ 6 * l.length := by
  have h1 := valD_lt l h
  refine intBits_le ?_
  have e : (64 : Nat) ^ l.length = 2 ^ (6 * l.length) := by rw [Nat.pow_mul]
  rw [← e]
  have e2 : ((64 : Int) ^ l.length) = (((64 : Nat) ^ l.length : Nat) : Int) := by simp
  rw [e2] at h1
  omega
theorem shift_ok {ns : List Int} {a b n : Int} (hall : ∀ x ∈ ns, 0 ≤ x ∧ x < 64) (hlen : ns.length < 50) (hn : n ≤ 600) : (Builtin.Int.intBits (valD (sl ns a b)) : Int) + n ≤ 2 ^ 27 := by
  have h1 := valD_bits (l := sl ns a b) fun x hx => hall x (sl_mem hx)
  have h2 : (sl ns a b).length ≤ ns.length := by unfold sl; exact Nat.le_trans (List.take_sublist _ _).length_le (List.drop_sublist _ _).length_le
  omega
local macro_rules | `(tactic| walk_at "binaryOp LShift int int") => `(tactic| (k_here; k_dflt (refine lshift_int (by omega) (shift_ok (by assumption) (by assumption) (by omega)) ?_)))
local macro_rules | `(tactic| kn_enter) => `(tactic| (refine' code_nest ?k1 ?k2 ?k3 ?k4 ?k5 ?kA ?kF ?kK ?k6 ?k7 ?k8 ?k9 ?kB ?_ ?c2 ?c3 ?c4 ?c5; (case kA => exact rfl); (case kF => exact rfl); (case kK => first | exact rfl | assumption); (case k1 => k_asm); (case k2 => k_asm); (case k3 => k_asm); (case k4 => k_asm); (case k5 => k_asm); (case k6 => k_mem); (case k7 => exact codeRec_news (by k_asm) (by k_mem) (by assumption) (by assumption)); (case k8 => ktr_room); (case k9 => exact BindsTo.of_eq rfl); (case c5 => decide); (case kB => exact locs rfl); (case c2 => exact rfl); (case c3 => exact rfl); (case c4 => exact rfl); k_whole; intro g' L' h' FG' F' N' B' X' T'; (try dsimp only); (try k_lift B'); (try k_fold)))
noncomputable def Stop5 (P : Prop) : Prop := P
theorem stop5_of {P : Prop} (h : Stop5 P) : P := h
local macro_rules | `(tactic| walk_at "call ref") => `(tactic| (refine stop5_of ?_))
local macro_rules | `(tactic| walk_at "zz3") => `(tactic| fail)
set_option maxHeartbeats 400000 in
theorem d2i_in (w : World) (f c' cI cN cD l : Addr) (doc pm ctv : Value) (oc oI oN oD : Obj) (vc : Array Value) (tq tn : Tok) (vs : List Value) (ns : List Int) (nn : Nat) (tail : Led)
    (hc1 : oc.data = .fields vc) (hc2 : vc[1]? = some (.str inQ tq)) (hI : oI.data = .cell (some (.ref f))) (hN : oN.data = .cell (some (.int 6 tn))) (hD : oD.data = .cell (some (.ref l))) (hi : IntsAre vs ns) (hlen : ns.length < 50) (hall : ∀ x ∈ ns, 0 ≤ x ∧ x < 64) :
    ∀ k : Nat, InIH w f c' cI cN cD l doc pm ctv oc oI oN oD (listOf vs.toArray nn) tail ns k := by
  intro k
  induction k with
  | zero => constructor; intro a b t u h0 h1 h2 h3; exfalso; omega
  | succ k ih =>
  constructor
  intro a b t u h0 h1 h2 h3
  ktr_step
  rename_i hret
  have kstM := kstMark
  have hm := mid_f h0 h1
  refine wpAny_call ?_
  k_dflt kn_enter
  have hC1 := hd100 (by assumption)
  k_steps
  · exact hret _ _ _ _ (RInt.mk (valD_one h0 (by assumption) h2)) (by k_asm) (cb_drop (by k_asm) (by kcj_all))
  · skip
    unfold Stop5
    k_here
    refine' CL.use ?k1 ?k2 ?k3 ?k4 ?k5 ?kK (InIH.get ih _ _ _ _ ?ka ?kb ?kc ?ke) ?kd ?ku ?_
    (case k4 => k_asm); (case ka => omega); (case kb => omega); (case kc => omega); (case ke => omega); (case k1 => k_asm); (case k2 => k_asm); (case k3 => k_asm); (case k5 => k_asm); (case kK => first | exact rfl | assumption)
    (case kd => ktr_room); (case ku => ktr_units)
    intro v9 news9 h9 tk9 r9 F9 N9; (obtain ⟨e9, t9, e8⟩ := r9); subst e9; subst e8; (try k_fold)
    k_steps
    unfold Stop5
    k_here
    refine' CL.use ?k1b ?k2b ?k3b ?k4b ?k5b ?kKb (InIH.get ih _ _ _ _ ?kab ?kbb ?kcb ?keb) ?kdb ?kub ?_
    (case k4b => k_asm); (case kab => omega); (case kbb => omega); (case kcb => omega); (case keb => omega); (case k1b => k_asm); (case k2b => k_asm); (case k3b => k_asm); (case k5b => k_asm); (case kKb => first | exact rfl | assumption)
    (case kdb => ktr_room); (case kub => ktr_units)
    intro v9 news9 h9 tk9 r9 F9 N9; (obtain ⟨e9, t9, e8⟩ := r9); subst e9; subst e8; (try k_fold)
    k_steps
    exact hret _ _ _ _ (RInt.mk (shl_mid h0 (by omega) (by omega) h2 rfl rfl)) (by k_asm) (cb_drop (by k_asm) (by kcj_all))
theorem sl_all (ns : List Int) : sl ns 0 (ns.length : Int) = ns := by
  unfold sl
  simp
noncomputable def RD1 (x : Int) (l : Addr) (ol : Obj) (news : Led) : Value → Led → Prop := fun v nx => ∃ (c' : Addr) (oc : Obj) (vc : Array Value) (tq t : Tok), v = .int x t ∧ nx = (l, ol) :: (c', oc) :: (96, tabObj #[rawInt 71, rawInt 4, .ref c']) :: news ∧ oc.data = .fields vc ∧ vc[1]? = some (.str inQ tq) ∧ @LT.lt Nat _ l c' ∧ @LT.lt Nat _ 96 c' ∧ AllLt c' news
local macro_rules | `(tactic| k_all) => `(tactic| first | assumption | exact allne_e (by assumption) (by omega))
theorem d2i_l {a b c l D : Nat} {news : Led} (h : @LT.lt Nat _ a D ∧ @LT.lt Nat _ b D ∧ @LT.lt Nat _ c D ∧ @LT.lt Nat _ l D ∧ @LT.lt Nat _ 96 D ∧ AllLt D news) : @LT.lt Nat _ l D ∧ @LT.lt Nat _ 96 D ∧ AllLt D news := h.2.2.2
theorem allne_e2 {l c L' X : Nat} {news : Led} (h : @LT.lt Nat _ l L' ∧ @LT.lt Nat _ c L' ∧ @LT.lt Nat _ 96 L' ∧ AllLt L' news) (hX : L' ≤ X) : ∀ p ∈ news, p.1 ≠ X := fun p hp => Nat.ne_of_lt (Nat.lt_of_lt_of_le (allLt_mem h.2.2.2 p hp) hX)
set_option maxHeartbeats 800000 in
theorem c_d2i1 (w : World) (l : Addr) (vs : List Value) (ns : List Int) (nn : Nat) (t : Tok) (news : Led) (hi : IntsAre vs ns) (hlen : ns.length < 50) (hpos : 0 < ns.length) (hall : ∀ x ∈ ns, 0 ≤ x ∧ x < 64) (hl : @Ne Nat l 96) (hnw : ∀ p ∈ news, p.1 ≠ 96) : CL w 60 500 101 [.ref l, .int 6 t] ((l, listOf vs.toArray nn) :: (96, tabObj #[]) :: news) (RD1 (valD ns) l (listOf vs.toArray nn) news) := by
  ktr_step
  rename_i hret
  have kstM := kstMark
  refine wpAny_call ?_
  k_dflt cell_enter
  have hC1 := hd100 (by assumption)
  k_steps
  unfold Stop5
  k_here
  refine' CL.use ?k1 ?k2 ?k3 ?k4 ?k5 ?kK (InIH.get (d2i_in w _ _ _ _ _ l _ _ _ _ _ _ _ _ _ _ vs ns nn ((96, _) :: news) ?q1 ?q2 ?q3 ?q4 ?q5 hi hlen hall ns.length) _ _ _ _ ?ka ?kb ?kc ?ke) ?kd ?ku ?_
  (case k4 => k_asm); (case k1 => k_asm); (case k2 => k_asm); (case k3 => k_asm); (case k5 => k_asm); (case kK => exact rfl); (case q1 => assumption); (case q2 => assumption); (case q3 => assumption); (case q4 => assumption); (case q5 => assumption); (case ka => omega); (case kb => omega); (case kc => omega); (case ke => omega); (case kd => ktr_room); (case ku => ktr_units)
  intro v9 news9 h9 tk9 r9 F9 N9
  obtain ⟨e9, t9, e8⟩ := r9
  subst e9
  subst e8
  rw [sl_all]
  (try k_fold)
  k_steps
  exact hret _ _ _ _ ⟨_, _, _, _, _, rfl, rfl, by assumption, by assumption, d2i_l (by assumption)⟩ (by k_asm) (cb_drop (by k_asm) (by kcj_all))
local macro_rules | `(tactic| k_all) => `(tactic| first | assumption | exact allne_e2 (by assumption) (by omega))
set_option maxHeartbeats 800000 in
theorem c_d2i2 (w : World) (c' : Addr) (oc : Obj) (vc : Array Value) (tq : Tok) (l : Addr) (vs : List Value) (ns : List Int) (nn : Nat) (t : Tok) (news : Led) (hi : IntsAre vs ns) (hlen : ns.length < 50) (hpos : 0 < ns.length) (hall : ∀ x ∈ ns, 0 ≤ x ∧ x < 64) (hc1 : oc.data = .fields vc) (hc2 : vc[1]? = some (.str inQ tq)) : CL w 60 500 101 [.ref l, .int 6 t] ((l, listOf vs.toArray nn) :: (c', oc) :: (96, tabObj #[rawInt 71, rawInt 4, .ref c']) :: news) (RInt (valD ns) ((l, listOf vs.toArray nn) :: (c', oc) :: (96, tabObj #[rawInt 71, rawInt 4, .ref c']) :: news)) := by
  ktr_step
  rename_i hret
  have kstM := kstMark
  refine wpAny_call ?_
  k_dflt cell_enter
  have hC1 := hd100 (by assumption)
  k_steps
  unfold Stop5
  k_here
  refine' CL.use ?k1 ?k2 ?k3 ?k4 ?k5 ?kK (InIH.get (d2i_in w _ c' _ _ _ l _ _ _ _ _ _ _ _ _ _ vs ns nn ((96, _) :: news) ?q1 ?q2 ?q3 ?q4 ?q5 hi hlen hall ns.length) _ _ _ _ ?ka ?kb ?kc ?ke) ?kd ?ku ?_
  (case k4 => refine cb_drop (by k_asm) ?_; kcj_all); (case k1 => k_asm); (case k2 => k_asm); (case k3 => k_asm); (case k5 => k_asm); (case kK => exact rfl); (case q1 => assumption); (case q2 => assumption); (case q3 => assumption); (case q4 => assumption); (case q5 => assumption); (case ka => omega); (case kb => omega); (case kc => omega); (case ke => omega); (case kd => ktr_room); (case ku => ktr_units)
  intro v9 news9 h9 tk9 r9 F9 N9
  obtain ⟨e9, t9, e8⟩ := r9
  subst e9
  subst e8
  rw [sl_all]
  (try k_fold)
  k_steps
  exact hret _ _ _ _ ⟨rfl, _, rfl⟩ (by k_asm) (cb_drop (by k_asm) (by kcj_all))

end
section
noncomputable abbrev i2S : Stmt := sub (stm 4) 1
noncomputable abbrev i2Q : Str := Str.ofString "_int2digits.<locals>.inner"
noncomputable def Stop6 (P : Prop) : Prop := P
theorem stop6_of {P : Prop} (h : Stop6 P) : P := h
theorem allne_f {L' X : Nat} {news : Led} (h : @LT.lt Nat _ 89 L' ∧ AllLt L' news) (hX : L' ≤ X) : ∀ p ∈ news, p.1 ≠ X := fun p hp => Nat.ne_of_lt (Nat.lt_of_lt_of_le (allLt_mem h.2 p hp) hX)
theorem hd93' {P : Params} {h : Heap} (X : (KT P).In h) : CodeHd h 93 89 := hd93 X
theorem bits_k {x : Int} (h0 : 0 < x) (h1 : x < 64 ^ 50) : 1 ≤ ((Builtin.Int.intBits x : Int) + 6 - 1).fdiv 6 ∧ ((Builtin.Int.intBits x : Int) + 6 - 1).fdiv 6 ≤ 50 := by
  have a : Builtin.Int.intBits x ≤ 300 := intBits_le (by
    have e : (64 : Int) ^ 50 = ((2 ^ 300 : Nat) : Int) := by decide
    rw [e] at h1; omega)
  have b : 1 ≤ Builtin.Int.intBits x := by
    unfold Builtin.Int.intBits
    rw [if_neg (by simp; omega)]; omega
  rw [Int.fdiv_eq_ediv_of_nonneg _ (by decide)]
  omega
noncomputable def digs : Nat → Nat → List Int
  | 0, _ => []
  | k + 1, x => ((x % 64 : Nat) : Int) :: digs k (x / 64)
noncomputable def putD (ds : List Int) (a b : Int) (x : Nat) : List Int := ds.take a.toNat ++ digs (b - a).toNat x ++ ds.drop b.toNat
theorem digs_len : ∀ (k x : Nat), (digs k x).length = k
  | 0, _ => rfl
  | k + 1, x => by unfold digs; rw [List.length_cons, digs_len k]
theorem digs_add : ∀ (j k x : Nat), digs (j + k) x = digs j (x % 64 ^ j) ++ digs k (x / 64 ^ j)
  | 0, k, x => by simp [digs]
  | j + 1, k, x => by
    have e : j + 1 + k = (j + k) + 1 := by omega
    rw [e]
    show _ :: digs (j + k) (x / 64) = (_ :: digs j ((x % 64 ^ (j + 1)) / 64)) ++ _
    rw [digs_add j k (x / 64), Nat.div_div_eq_div_mul, ← Nat.pow_succ', List.cons_append]
    have e1 : x % 64 ^ (j + 1) % 64 = x % 64 := Nat.mod_mod_of_dvd _ ⟨64 ^ j, by rw [Nat.pow_succ, Nat.mul_comm]⟩
    have e2 : x % 64 ^ (j + 1) / 64 = (x / 64) % 64 ^ j := by
      rw [Nat.pow_succ', Nat.mod_mul_right_div_self]
    rw [e1, e2]
theorem land_high (x k : Nat) : x &&& (x / 2 ^ k * 2 ^ k) = x / 2 ^ k * 2 ^ k := by
  apply Nat.eq_of_testBit_eq
  intro i
  rw [Nat.testBit_and, Nat.testBit_mul_two_pow]
  by_cases h : k ≤ i
  · simp only [h, decide_true, Bool.true_and]
    rw [Nat.testBit_div_two_pow]
    have : i - k + k = i := by omega
    rw [this]; simp
  · simp [h]
theorem fdiv_pow (x k : Nat) : ((x : Int)).fdiv (2 ^ k) = ((x / 2 ^ k : Nat) : Int) := by
  have e : ((2 : Int) ^ k) = ((2 ^ k : Nat) : Int) := by simp
  rw [e, Int.fdiv_eq_ediv_of_nonneg _ (Int.natCast_nonneg _)]
  rfl
theorem xor_low (x k : Nat) : Builtin.bitXor (x : Int) (((x : Int)).fdiv (2 ^ k) * 2 ^ k) = ((x % 2 ^ k : Nat) : Int) := by
  have e : ((2 : Int) ^ k) = ((2 ^ k : Nat) : Int) := by simp
  rw [fdiv_pow, e, ← Int.natCast_mul, bitXor_and, bitAnd_pp (Int.natCast_nonneg _) (Int.natCast_nonneg _), Int.toNat_natCast, Int.toNat_natCast, land_high]
  have h := Nat.div_add_mod x (2 ^ k)
  rw [Nat.mul_comm] at h
  omega
structure I2Facts (ds : List Int) (x a b m lo up : Int) : Prop where
  l0 : 0 ≤ lo
  l1 : lo < 64 ^ (m - a).toNat
  u0 : 0 ≤ up
  u1 : up < 64 ^ (b - m).toNat
  put : putD (putD ds a m lo.toNat) m b up.toNat = putD ds a b x.toNat
theorem putD_nat (ds : List Int) (x j n : Nat) : putD ds (x : Int) ((x + j : Nat) : Int) n = ds.take x ++ digs j n ++ ds.drop (x + j) := by
  unfold putD
  have e : (((x + j : Nat) : Int) - (x : Int)).toNat = j := by rw [Int.natCast_add, Int.add_comm (x : Int) (j : Int), Int.add_sub_cancel, Int.toNat_natCast]
  rw [Int.toNat_natCast, Int.toNat_natCast, e]
theorem put_put {ds : List Int} {x j k n1 n2 : Nat} (h : x + j + k ≤ ds.length) : (ds.take x ++ digs j n1 ++ ds.drop (x + j)).take (x + j) ++ digs k n2 ++ (ds.take x ++ digs j n1 ++ ds.drop (x + j)).drop (x + j + k) = ds.take x ++ (digs j n1 ++ digs k n2) ++ ds.drop (x + j + k) := by
  have l1 : (ds.take x).length = x := by
    rw [List.length_take]; exact Nat.min_eq_left (Nat.le_trans (Nat.le_add_right x (j + k)) (Nat.le_trans (Nat.le_of_eq (Nat.add_assoc x j k).symm) h))
  have l2 : (ds.take x ++ digs j n1).length = x + j := by rw [List.length_append, l1, digs_len]
  have e6 : (ds.take x ++ digs j n1 ++ ds.drop (x + j)).drop (x + j + k) = ds.drop (x + j + k) := by
    have := List.drop_length_add_append (l₁ := ds.take x ++ digs j n1) (l₂ := ds.drop (x + j)) (i := k)
    rw [l2] at this
    rw [this, List.drop_drop]
  rw [List.take_left' l2, e6, List.append_assoc (ds.take x)]
theorem i2_facts {ds : List Int} {x a b m : Int} (hx0 : 0 ≤ x) (hx1 : x < 64 ^ (b - a).toNat) (h0 : 0 ≤ a) (h1 : a < m) (h2 : m < b) (h3 : b ≤ (ds.length : Int)) :
    I2Facts ds x a b m (Builtin.bitXor x (x.fdiv (2 ^ ((m - a) * 6).toNat) * 2 ^ ((m - a) * 6).toNat)) (x.fdiv (2 ^ ((m - a) * 6).toNat)) := by
  obtain ⟨n, rfl⟩ := Int.eq_ofNat_of_zero_le hx0
  obtain ⟨q, j, k, ea, em, eb, t1, t2, t3, t4⟩ := nat3 h0 h1 h2
  have e2 : (2 : Nat) ^ (6 * j) = 64 ^ j := by rw [Nat.pow_mul]
  have e3 : ∀ k : Nat, ((64 : Int) ^ k) = (((64 : Nat) ^ k : Nat) : Int) := fun k => (Int.natCast_pow 64 k).symm
  rw [t3, e3] at hx1
  have hn : n < 64 ^ j * 64 ^ k := by rw [← Nat.pow_add]; exact Int.ofNat_lt.mp hx1
  rw [t4, xor_low, fdiv_pow, e2]
  refine ⟨Int.natCast_nonneg _, ?_, Int.natCast_nonneg _, ?_, ?_⟩
  · rw [t1, e3]
    exact Int.ofNat_lt.mpr (Nat.mod_lt n (Nat.pow_pos (n := j) (show 0 < 64 by decide)))
  · rw [t2, e3]
    exact Int.ofNat_lt.mpr (Nat.div_lt_of_lt_mul hn)
  · rw [Int.toNat_natCast, Int.toNat_natCast, Int.toNat_natCast, ea, em, eb, putD_nat, putD_nat]
    have e7 : ((q : Int)) = ((q : Nat) : Int) := rfl
    rw [show ((q + j + k : Nat) : Int) = ((q + (j + k) : Nat) : Int) by rw [Nat.add_assoc], putD_nat, digs_add, ← Nat.add_assoc]
    rw [eb] at h3
    exact put_put (Int.ofNat_le.mp h3)
theorem put_one {ds : List Int} {x a b : Int} (hx0 : 0 ≤ x) (hx1 : x < 64 ^ (b - a).toNat) (h0 : 0 ≤ a) (h1 : a + 1 = b) (h3 : b ≤ (ds.length : Int)) : ds.set a.toNat x = putD ds a b x.toNat := by
  obtain ⟨n, rfl⟩ := Int.eq_ofNat_of_zero_le hx0
  have e1 : (b - a).toNat = 1 := by omega
  have e2 : b.toNat = a.toNat + 1 := by omega
  rw [e1] at hx1
  have hn : n < 64 := by omega
  unfold putD
  rw [e1, e2, Int.toNat_natCast]
  show _ = ds.take a.toNat ++ [((n % 64 : Nat) : Int)] ++ ds.drop (a.toNat + 1)
  rw [Nat.mod_eq_of_lt hn, List.set_eq_take_append_cons_drop, if_pos (by omega)]
  simp
theorem put_all (k x : Nat) (z : Int) : putD (List.replicate k z) 0 (k : Int) x = digs k x := by
  unfold putD
  simp
theorem shift2_ok {x y a b n : Int} (hx0 : 0 ≤ x) (hx1 : x < 64 ^ (b - a).toNat) (hb : b - a ≤ 50) (hn : n ≤ 600) : (Builtin.Int.intBits (x.fdiv y) : Int) + n ≤ 2 ^ 27 := by
  have e3 : ((64 : Int) ^ (b - a).toNat) = ((2 ^ (6 * (b - a).toNat) : Nat) : Int) := by rw [Nat.pow_mul]; simp
  rw [e3] at hx1
  have h1 : Builtin.Int.intBits x ≤ 6 * (b - a).toNat := intBits_le (by omega)
  have h2 := intBits_fdiv_le (y := y) h1
  omega
noncomputable abbrev i2Led (f c' cI cN cD l : Addr) (doc pm ctv : Value) (oc oI oN oD ol : Obj) (tail : Led) : Led :=
  (f, fnMade (Str.ofString "inner") i2Q (dArgs i2S) (dBody i2S) (dScope i2S) [(Str.ofString "n", cN), (Str.ofString "inner", cI), (Str.ofString "a_digits", cD)] doc pm c' ctv) :: (c', oc) :: (l, ol) :: (cI, oI) :: (cD, oD) :: (cN, oN) :: tail
noncomputable def RPut (ds : List Int) (l : Addr) (led : Obj → Led) : Value → Led → Prop := fun _ nx => ∃ (vs' : List Value) (nn : Nat), nx = led (listOf vs'.toArray nn) ∧ IntsAre vs' ds
structure I2IH (w : World) (f c' cI cN cD l : Addr) (doc pm ctv : Value) (oc oI oN oD : Obj) (tail : Led) (len k : Nat) : Prop where
  get : ∀ (x a b : Int) (t u v : Tok) (vs : List Value) (ds : List Int) (nn : Nat), IntsAre vs ds → ds.length = len → 0 ≤ x → x < 64 ^ (b - a).toNat → 0 ≤ a → a < b → b ≤ (len : Int) → b - a ≤ (k : Int) →
      CL w (k + 1) (8 * k + 8) f [.int x t, .int a u, .int b v] (i2Led f c' cI cN cD l doc pm ctv oc oI oN oD (listOf vs.toArray nn) tail) (RPut (putD ds a b x.toNat) l (fun o => i2Led f c' cI cN cD l doc pm ctv oc oI oN oD o tail))
local macro_rules | `(tactic| kn_enter) => `(tactic| (refine' code_nest ?k1 ?k2 ?k3 ?k4 ?k5 ?kA ?kF ?kK ?k6 ?k7 ?k8 ?k9 ?kB ?_ ?c2 ?c3 ?c4 ?c5; (case kA => exact rfl); (case kF => exact rfl); (case kK => first | exact rfl | assumption); (case k1 => k_asm); (case k2 => k_asm); (case k3 => k_asm); (case k4 => k_asm); (case k5 => k_asm); (case k6 => k_mem); (case k7 => exact codeRec_news (by k_asm) (by k_mem) (by assumption) (by assumption)); (case k8 => ktr_room); (case k9 => exact BindsTo.of_eq rfl); (case c5 => decide); (case kB => exact locs rfl); (case c2 => exact rfl); (case c3 => exact rfl); (case c4 => exact rfl); k_whole; intro g' L' h' FG' F' N' B' X' T'; (try dsimp only); (try k_lift B'); (try k_fold)))
local macro_rules | `(tactic| walk_at "call ref") => `(tactic| (refine stop6_of ?_))
local macro_rules | `(tactic| walk_at "binaryOp LShift int int") => `(tactic| (k_here; k_dflt (refine lshift_int (by omega) (shift2_ok (by assumption) (by assumption) (by omega) (by omega)) ?_)))
theorem putD_len {ds : List Int} {a b : Int} {x : Nat} (h0 : 0 ≤ a) (h1 : a < b) (h2 : b ≤ (ds.length : Int)) : (putD ds a b x).length = ds.length := by
  obtain ⟨q, rfl⟩ := Int.eq_ofNat_of_zero_le h0
  obtain ⟨j, hj⟩ := Int.le.dest (Int.le_of_lt h1)
  have eb : b = ((q + j : Nat) : Int) := by rw [← hj]; rfl
  subst eb
  have h3 : q + j ≤ ds.length := Int.ofNat_le.mp h2
  rw [putD_nat, List.length_append, List.length_append, digs_len, List.length_take, List.length_drop, Nat.min_eq_left (Nat.le_trans (Nat.le_add_right q j) h3)]
  exact Nat.add_sub_cancel' h3
theorem ints_eq {vs : List Value} {a b : List Int} (h : IntsAre vs a) (e : a = b) : IntsAre vs b := e ▸ h
section
local macro_rules | `(tactic| k_all) => `(tactic| assumption)
set_option maxHeartbeats 800000 in
theorem i2d_in (w : World) (f c' cI cN cD l : Addr) (doc pm ctv : Value) (oc oI oN oD : Obj) (vc : Array Value) (tq tn : Tok) (tail : Led) (len : Nat)
    (hc1 : oc.data = .fields vc) (hc2 : vc[1]? = some (.str i2Q tq)) (hI : oI.data = .cell (some (.ref f))) (hN : oN.data = .cell (some (.int 6 tn))) (hD : oD.data = .cell (some (.ref l))) (hlen : len ≤ 50)
    (hne : @Ne Nat f l ∧ @Ne Nat c' l ∧ @Ne Nat cI l ∧ @Ne Nat cN l ∧ @Ne Nat cD l) (hnt : ∀ p ∈ tail, p.1 ≠ l) :
    ∀ k : Nat, I2IH w f c' cI cN cD l doc pm ctv oc oI oN oD tail len k := by
  intro k
  induction k with
  | zero => constructor; intro x a b t u v vs ds nn hi hdl hx0 hx1 h0 h1 h2 h3; exfalso; omega
  | succ k ih =>
  constructor
  intro x a b t u v vs ds nn hi hdl hx0 hx1 h0 h1 h2 h3
  subst hdl
  ktr_step
  rename_i hret
  have kstM := kstMark
  have hm := mid_f h0 h1
  refine wpAny_call ?_
  k_dflt kn_enter
  have hC1 := hd93 (by assumption)
  k_steps
  · exact hret _ _ _ _ ⟨_, _, rfl, ints_eq (by assumption) (put_one hx0 hx1 h0 (by assumption) h2)⟩ (by k_asm) (cb_drop (by k_asm) (by kcj_all))
  · have hf := i2_facts hx0 hx1 h0 (show a < (a + b).fdiv (2 ^ Int.toNat 1) by omega) (by omega) h2
    unfold Stop6
    k_here
    refine' CL.use ?k1p ?k2p ?k3p ?k4p ?k5p ?kKp (I2IH.get ih _ _ _ _ _ _ _ _ _ ?hip ?hlp ?hxp ?hyp ?kap ?kbp ?kcp ?kep) ?kdp ?kup ?_
    (case k4p => k_asm)
    (case hip => exact hi); (case hlp => exact rfl); (case hxp => exact hf.l0); (case hyp => exact hf.l1)
    (case kap => omega); (case kbp => omega); (case kcp => omega); (case kep => omega); (case k1p => k_asm); (case k2p => k_asm); (case k3p => k_asm); (case k5p => k_asm); (case kKp => first | exact rfl | assumption)
    (case kdp => ktr_room); (case kup => ktr_units)
    intro v9p news9 h9p tk9p r9 F9p N9p; (obtain ⟨vs9p, nn9p, e9, hi9p⟩ := r9); subst e9; (try k_fold)
    k_steps
    unfold Stop6
    k_here
    refine' CL.use ?k1q ?k2q ?k3q ?k4q ?k5q ?kKq (I2IH.get ih _ _ _ _ _ _ _ _ _ ?hiq ?hlq ?hxq ?hyq ?kaq ?kbq ?kcq ?keq) ?kdq ?kuq ?_
    (case k4q => k_asm)
    (case hiq => exact hi9p); (case hlq => exact putD_len (by omega) (by omega) (by omega)); (case hxq => exact hf.u0); (case hyq => exact hf.u1)
    (case kaq => omega); (case kbq => omega); (case kcq => omega); (case keq => omega); (case k1q => k_asm); (case k2q => k_asm); (case k3q => k_asm); (case k5q => k_asm); (case kKq => first | exact rfl | assumption)
    (case kdq => ktr_room); (case kuq => ktr_units)
    intro v9q news9 h9q tk9q r9 F9q N9q; (obtain ⟨vs9q, nn9q, e9, hi9q⟩ := r9); subst e9; (try k_fold)
    k_steps
    exact hret _ _ _ _ ⟨_, _, rfl, ints_eq hi9q hf.put⟩ (by k_asm) (cb_drop (by k_asm) (by kcj_all))
end
local macro_rules | `(tactic| k_all) => `(tactic| first | assumption | exact allne_f (by assumption) (by omega))
theorem rep_ints {k : Nat} {t : Tok} : IntsAre (List.replicate k [Value.int 0 t]).flatten (List.replicate k [(0 : Int)]).flatten := by
  induction k with
  | zero => exact .nil
  | succ k ih => rw [List.replicate_succ, List.replicate_succ, List.flatten_cons, List.flatten_cons]; exact .cons _ _ ih
theorem rep_flat (k : Nat) : (List.replicate k [(0 : Int)]).flatten = List.replicate k 0 := by
  induction k with
  | zero => rfl
  | succ k ih => rw [List.replicate_succ, List.flatten_cons, ih]; rfl
noncomputable def RD2 (ds : List Int) (news : Led) : Value → Led → Prop := fun v nx => ∃ (l c' : Addr) (vs : List Value) (nn : Nat), v = .ref l ∧ nx = (l, listOf vs.toArray nn) :: (89, tabObj #[rawInt 56, rawInt 4, .ref c']) :: news ∧ IntsAre vs ds ∧ @LT.lt Nat _ 89 l ∧ AllLt l news
theorem i2_ne {a b c l D : Nat} {news : Led} {o : Obj} (h : @LT.lt Nat _ a l ∧ @LT.lt Nat _ b l ∧ @LT.lt Nat _ c l ∧ @LT.lt Nat _ 89 l ∧ AllLt l news) (hD : l ≤ D) : ∀ p ∈ ((89, o) :: news : Led), p.1 ≠ D := by
  intro p hp
  rcases List.mem_cons.mp hp with rfl | hp
  · show @Ne Nat 89 D; omega
  · exact Nat.ne_of_lt (Nat.lt_of_lt_of_le (allLt_mem h.2.2.2.2 p hp) hD)
theorem i2_lt {a b c l D : Nat} {news : Led} (h : @LT.lt Nat _ a l ∧ @LT.lt Nat _ b l ∧ @LT.lt Nat _ c l ∧ @LT.lt Nat _ 89 l ∧ AllLt l news) (hD : l ≤ D) : @LT.lt Nat _ 89 D ∧ AllLt D news :=
  ⟨by omega, allLt_of fun p hp => Nat.lt_of_lt_of_le (allLt_mem h.2.2.2.2 p hp) hD⟩
theorem digs_end {x : Int} {K : Int} {vs : List Value} (hK : 1 ≤ K) (h : IntsAre vs (putD (List.replicate K.toNat [(0 : Int)]).flatten 0 (((List.replicate K.toNat [(0 : Int)]).flatten.length : Nat) : Int) x.toNat)) : IntsAre vs (digs K.toNat x.toNat) := by
  rw [rep_flat, List.length_replicate, put_all] at h
  exact h
theorem x_lt {x K : Int} (h0 : 0 < x) (hK : K = ((Builtin.Int.intBits x : Int) + 6 - 1).fdiv 6) : x < 64 ^ (((List.replicate K.toNat [(0 : Int)]).flatten.length : Int) - 0).toNat := by
  rw [rep_flat, List.length_replicate]
  have h1 := (intBits_le_iff (m := Builtin.Int.intBits x) (x := x)).mp (Nat.le_refl _)
  rw [Int.fdiv_eq_ediv_of_nonneg _ (by decide)] at hK
  have h2 : Builtin.Int.intBits x ≤ 6 * K.toNat := by omega
  have h3 := Nat.lt_of_lt_of_le h1 (Nat.pow_le_pow_right (by decide) h2)
  have e0 : ((K.toNat : Int) - 0).toNat = K.toNat := by omega
  have e : ((64 : Int) ^ ((K.toNat : Int) - 0).toNat) = ((2 ^ (6 * K.toNat) : Nat) : Int) := by rw [e0, Nat.pow_mul]; simp
  rw [e]; omega
set_option maxHeartbeats 800000 in
theorem c_i2d1 (w : World) (x : Int) (u t : Tok) (news : Led) (hx : 0 < x) (hx2 : x < 64 ^ 50) (hnw : ∀ p ∈ news, p.1 ≠ 89) : CL w 60 600 94 [.int x u, .int 6 t] ((89, tabObj #[]) :: news) (RD2 (digs (((Builtin.Int.intBits x : Int) + 6 - 1).fdiv 6).toNat x.toNat) news) := by
  ktr_step
  rename_i hret
  have kstM := kstMark
  obtain ⟨hk1, hk2⟩ := bits_k hx hx2
  refine wpAny_call ?_
  k_dflt cell_enter
  have hC1 := hd93 (by assumption)
  k_steps
  · unfold Stop6
    k_here
    refine' CL.use ?k1 ?k2 ?k3 ?k4 ?k5 ?kK (I2IH.get (i2d_in w _ _ _ _ _ _ _ _ _ _ _ _ _ _ _ _ ((89, _) :: news) _ ?q1 ?q2 ?q3 ?q4 ?q5 ?q6 ?q7 ?q8 (((Builtin.Int.intBits x : Int) + 6 - 1).fdiv 6).toNat) _ _ _ _ _ _ _ _ _ rep_ints rfl ?hx ?hy ?ka ?kb ?kc ?ke) ?kd ?ku ?_
    (case k4 => refine cb_drop (by k_asm) ?_; kcj_all)
    (case k1 => k_asm); (case k2 => k_asm); (case k3 => k_asm); (case k5 => k_asm); (case kK => exact rfl); (case q1 => assumption); (case q2 => assumption); (case q3 => assumption); (case q4 => assumption); (case q5 => assumption)
    case hx => omega
    case hy => exact x_lt hx rfl
    case ka => omega
    case kb => rw [rep_flat, List.length_replicate]; omega
    case kc => omega
    case ke => rw [rep_flat, List.length_replicate]; omega
    case q6 => rw [rep_flat, List.length_replicate]; omega
    case q8 => exact i2_ne (by assumption) (by omega)
    case q7 => (refine ⟨?_, ?_, ?_, ?_, ?_⟩ <;> omega)
    (case kd => ktr_room); (case ku => ktr_units)
    intro v9 news9 h9 tk9 r9 F9 N9
    obtain ⟨vs9, nn9, e9, hi9⟩ := r9
    subst e9
    (try k_fold)
    k_steps
    exact hret _ _ _ _ ⟨_, _, _, _, rfl, rfl, digs_end hk1 hi9, i2_lt (by assumption) (by omega)⟩ (by k_asm) (cb_drop (by k_asm) (by kcj_all))
  · exfalso; omega

end
section
inductive Pick (x : Addr × Obj) : Led → Led → Prop
  | head (r : Led) : Pick x (x :: r) r
  | tail (y : Addr × Obj) {r r' : Led} (h : Pick x r r') : Pick x (y :: r) (y :: r')
theorem Pick.sub {x : Addr × Obj} {led rest : Led} (P : Pick x led rest) : ∀ p ∈ x :: rest, p ∈ led := by
  induction P with
  | head r => exact fun p hp => hp
  | tail y h ih =>
    intro p hp
    rcases List.mem_cons.mp hp with rfl | hp
    · exact .tail _ (ih _ (.head _))
    · rcases List.mem_cons.mp hp with rfl | hp
      · exact .head _
      · exact .tail _ (ih _ (.tail _ hp))
theorem CL.useP {w : World} {dd uu : Nat} {f : Addr} {vs : List Value} {x : Addr × Obj} {news rest : Led} {Ret : Value → Led → Prop} {mean : ExcName → Option Value} {mg mb : Str → Option Value} {dp un : Nat} {gd : Option (List Code)} {cn : Str} {cs : Scope} {a : Addr} {ccd : Value} {cl : List (Str × Addr)} {outer : List Env} {A₀ : Around} {base h₀ : Heap} {L : Addr} {m : Str → Option Value} {s : Shared} {Q E : Value → Shared → Prop}
    (B : Below A₀ base outer h₀) (F : Fr h₀ L s.heap m) (X : (KT w.params).In h₀) (N : News h₀ L s.heap news) (P : Pick x news rest) (T : Top q0 (looseW q0 lo0) mean mg mb h₀) (hk : cs.kind = .function)
    (C : CL w dd uu f vs (x :: rest) Ret) (hd : dp + dd < recursionLimit) (hu : un + uu < cLine)
    (ret : ∀ (v : Value) (news' : Led) (h' : Heap) (tk' : Nat), Ret v news' → Fr h₀ L h' m → News h₀ L h' news' → Q v { s with heap := h', toks := tk' }) :
    wpAny (model P0 w) (ktrTop dp un gd cn cs L a ccd cl outer) (call (.ref f) vs) Q E s := C _ _ _ _ _ _ _ _ _ _ _ _ _ _ _ _ _ _ _ _ B F X (fun p hp => N p (P.sub p hp)) T hk hd hu ret
noncomputable def Stop7 (P : Prop) : Prop := P
theorem stop7_of {P : Prop} (h : Stop7 P) : P := h
theorem CL.useP2 {w : World} {dd uu : Nat} {f : Addr} {vs : List Value} {x y : Addr × Obj} {news mid rest : Led} {Ret : Value → Led → Prop} {mean : ExcName → Option Value} {mg mb : Str → Option Value} {dp un : Nat} {gd : Option (List Code)} {cn : Str} {cs : Scope} {a : Addr} {ccd : Value} {cl : List (Str × Addr)} {outer : List Env} {A₀ : Around} {base h₀ : Heap} {L : Addr} {m : Str → Option Value} {s : Shared} {Q E : Value → Shared → Prop}
    (B : Below A₀ base outer h₀) (F : Fr h₀ L s.heap m) (X : (KT w.params).In h₀) (N : News h₀ L s.heap news) (P : Pick x news mid) (P2 : Pick y mid rest) (T : Top q0 (looseW q0 lo0) mean mg mb h₀) (hk : cs.kind = .function)
    (C : CL w dd uu f vs (x :: y :: rest) Ret) (hd : dp + dd < recursionLimit) (hu : un + uu < cLine)
    (ret : ∀ (v : Value) (news' : Led) (h' : Heap) (tk' : Nat), Ret v news' → Fr h₀ L h' m → News h₀ L h' news' → Q v { s with heap := h', toks := tk' }) :
    wpAny (model P0 w) (ktrTop dp un gd cn cs L a ccd cl outer) (call (.ref f) vs) Q E s := C _ _ _ _ _ _ _ _ _ _ _ _ _ _ _ _ _ _ _ _ B F X (fun p hp => N p (P.sub p (by
      rcases List.mem_cons.mp hp with rfl | hp
      · exact .head _
      · exact .tail _ (P2.sub p hp)))) T hk hd hu ret
theorem CL.useP3 {w : World} {dd uu : Nat} {f : Addr} {vs : List Value} {x y z : Addr × Obj} {news mid mid2 rest : Led} {Ret : Value → Led → Prop} {mean : ExcName → Option Value} {mg mb : Str → Option Value} {dp un : Nat} {gd : Option (List Code)} {cn : Str} {cs : Scope} {a : Addr} {ccd : Value} {cl : List (Str × Addr)} {outer : List Env} {A₀ : Around} {base h₀ : Heap} {L : Addr} {m : Str → Option Value} {s : Shared} {Q E : Value → Shared → Prop}
    (B : Below A₀ base outer h₀) (F : Fr h₀ L s.heap m) (X : (KT w.params).In h₀) (N : News h₀ L s.heap news) (P : Pick x news mid) (P2 : Pick y mid mid2) (P3 : Pick z mid2 rest) (T : Top q0 (looseW q0 lo0) mean mg mb h₀) (hk : cs.kind = .function)
    (C : CL w dd uu f vs (x :: y :: z :: rest) Ret) (hd : dp + dd < recursionLimit) (hu : un + uu < cLine)
    (ret : ∀ (v : Value) (news' : Led) (h' : Heap) (tk' : Nat), Ret v news' → Fr h₀ L h' m → News h₀ L h' news' → Q v { s with heap := h', toks := tk' }) :
    wpAny (model P0 w) (ktrTop dp un gd cn cs L a ccd cl outer) (call (.ref f) vs) Q E s := C _ _ _ _ _ _ _ _ _ _ _ _ _ _ _ _ _ _ _ _ B F X (fun p hp => N p (P.sub p (by
      rcases List.mem_cons.mp hp with rfl | hp
      · exact .head _
      · refine .tail _ (P2.sub p ?_)
        rcases List.mem_cons.mp hp with rfl | hp
        · exact .head _
        · exact .tail _ (P3.sub p hp)))) T hk hd hu ret
theorem off1_of {D : Addr} : ∀ {l : Led}, (∀ p ∈ l, p.1 ≠ D) → LCg.Off1 D l
  | [], _ => trivial
  | _ :: _, h => ⟨h _ List.mem_cons_self, off1_of fun p hp => h p (List.mem_cons_of_mem _ hp)⟩
theorem CL.usePList {w : World} {dd uu : Nat} {f : Addr} {vs : List Value} {x : Addr × Obj} {news rest : Led} {ns : List Int} {mean : ExcName → Option Value} {mg mb : Str → Option Value} {dp un : Nat} {gd : Option (List Code)} {cn : Str} {cs : Scope} {a : Addr} {ccd : Value} {cl : List (Str × Addr)} {outer : List Env} {A₀ : Around} {base h₀ : Heap} {L : Addr} {m : Str → Option Value} {s : Shared} {Q E : Value → Shared → Prop}
    (B : Below A₀ base outer h₀) (F : Fr h₀ L s.heap m) (X : (KT w.params).In h₀) (N : News h₀ L s.heap news) (P : Pick x news rest) (T : Top q0 (looseW q0 lo0) mean mg mb h₀) (hk : cs.kind = .function)
    (C : CL w dd uu f vs (x :: rest) (RList ns (x :: rest))) (hd : dp + dd < recursionLimit) (hu : un + uu < cLine)
    (ret : ∀ (q : Addr) (vs' : List Value) (nn : Nat) (h' : Heap) (tk' : Nat), IntsAre vs' ns → LCg.Off1 q (x :: rest) → Fr h₀ L h' m → News h₀ L h' ((q, listOf vs'.toArray nn) :: x :: rest) → Q (.ref q) { s with heap := h', toks := tk' }) :
    wpAny (model P0 w) (ktrTop dp un gd cn cs L a ccd cl outer) (call (.ref f) vs) Q E s := CL.useP B F X N P T hk C hd hu fun v nx h' tk' r F1 N1 => by
  obtain ⟨q, vs', nn, e1, e2, hi, hf⟩ := r
  rw [e2] at N1
  rw [e1]
  exact ret q vs' nn h' tk' hi (off1_of hf) F1 N1
theorem CL.useP3Int {w : World} {dd uu : Nat} {f : Addr} {vs : List Value} {x y z : Addr × Obj} {news mid mid2 rest : Led} {v0 : Int} {mean : ExcName → Option Value} {mg mb : Str → Option Value} {dp un : Nat} {gd : Option (List Code)} {cn : Str} {cs : Scope} {a : Addr} {ccd : Value} {cl : List (Str × Addr)} {outer : List Env} {A₀ : Around} {base h₀ : Heap} {L : Addr} {m : Str → Option Value} {s : Shared} {Q E : Value → Shared → Prop}
    (B : Below A₀ base outer h₀) (F : Fr h₀ L s.heap m) (X : (KT w.params).In h₀) (N : News h₀ L s.heap news) (P : Pick x news mid) (P2 : Pick y mid mid2) (P3 : Pick z mid2 rest) (T : Top q0 (looseW q0 lo0) mean mg mb h₀) (hk : cs.kind = .function)
    (C : CL w dd uu f vs (x :: y :: z :: rest) (RInt v0 (x :: y :: z :: rest))) (hd : dp + dd < recursionLimit) (hu : un + uu < cLine)
    (ret : ∀ (t : Tok) (h' : Heap) (tk' : Nat), Fr h₀ L h' m → News h₀ L h' (x :: y :: z :: rest) → Q (.int v0 t) { s with heap := h', toks := tk' }) :
    wpAny (model P0 w) (ktrTop dp un gd cn cs L a ccd cl outer) (call (.ref f) vs) Q E s := CL.useP3 B F X N P P2 P3 T hk C hd hu fun v nx h' tk' r F1 N1 => by
  obtain ⟨e1, t, e2⟩ := r
  rw [e1] at N1
  rw [e2]
  exact ret t h' tk' F1 N1
theorem news_ne {h₀ h : Heap} {L a b : Addr} {o1 o2 : Obj} {news : Led} (N : News h₀ L h news) (h1 : (a, o1) ∈ news) (h2 : (b, o2) ∈ news) (hc : o1.cls = .type "list") (hd : o2.cls = .none) : @Ne Nat a b := by
  intro e
  have e1 := (N _ h1).1
  have e2 := (N _ h2).1
  dsimp only at e1 e2
  have e' : a = b := e
  subst e'
  rw [e1] at e2
  cases e2
  rw [hc] at hd
  cases hd
local macro_rules | `(tactic| walk_at "pick") => `(tactic| (first | exact Pick.head _ | (refine' Pick.tail _ ?kh; (case kh => walk_at "pick"))))
local macro_rules | `(tactic| walk_at "call ref") => `(tactic| (k_here; refine' CL.usePList ?k1 ?k2 ?k3 ?k4 ?kP ?k5 ?kK (c_counts0 _ _ _ _ _ _ ?kx ?ky ?kz ?kv) ?kd ?ku ?_; (case k4 => k_asm); (case kP => walk_at "pick"); (case kx => assumption); (case ky => assumption); (case kz => assumption); (case kv => assumption); (case k1 => k_asm); (case k2 => k_asm); (case k3 => k_asm); (case k5 => k_asm); (case kK => first | exact rfl | assumption); (case kd => ktr_room); (case ku => ktr_units); intro q9 vs9 nn9 h9 tk9 hi9 n9 F9 N9; (simp only [LCg.Off1, and_true] at n9); (try k_fold)))
local macro_rules | `(tactic| walk_at "call ref") => `(tactic| (k_here; refine' CL.useP2 ?k1 ?k2 ?k3 ?k4 ?kP ?kQ ?k5 ?kK (c_d2i1 _ _ _ _ _ _ _ ?kx ?ky ?kz ?kv ?kw ?ks) ?kd ?ku ?_; (case k4 => k_asm); (case kP => walk_at "pick"); (case kQ => walk_at "pick"); (case kx => assumption); (case ky => assumption); (case kz => assumption); (case kv => assumption); (case kw => k_ne); (case ks => k_all); (case k1 => k_asm); (case k2 => k_asm); (case k3 => k_asm); (case k5 => k_asm); (case kK => first | exact rfl | assumption); (case kd => ktr_room); (case ku => ktr_units); intro v9 news9 h9 tk9 r9 F9 N9; (obtain ⟨c9, oc9, vc9, tq9, t9, e9, e8, d91, d92, l91, l92, l93⟩ := r9); subst e9; subst e8; (simp only [AllLt, and_true] at l93); (try k_fold)))
local macro_rules | `(tactic| walk_at "call ref") => `(tactic| (k_here; refine' CL.useP3Int ?k1 ?k2 ?k3 ?k4 ?kP ?kQ ?kR ?k5 ?kK (c_d2i2 _ _ _ _ _ _ _ _ _ _ _ ?kx ?ky ?kz ?kv ?kw ?ks) ?kd ?ku ?_; (case k4 => k_asm); (case kP => walk_at "pick"); (case kw => assumption); (case ks => assumption); (case kQ => walk_at "pick"); (case kR => walk_at "pick"); (case kx => assumption); (case ky => assumption); (case kz => assumption); (case kv => assumption); (case k1 => k_asm); (case k2 => k_asm); (case k3 => k_asm); (case k5 => k_asm); (case kK => first | exact rfl | assumption); (case kd => ktr_room); (case ku => ktr_units); intro t9 h9 tk9 F9 N9; (try k_fold)))
theorem ints_eq9 {vs : List Value} {a b : List Int} (h : IntsAre vs a) (e : a = b) : IntsAre vs b := e ▸ h
local macro_rules | `(tactic| walk_at "binaryOp Mult int int") => `(tactic| (k_here; k_dflt (refine mul_int ?_ (by assumption))))
set_option maxHeartbeats 800000 in
theorem p5 (w : World) {mean : ExcName → Option Value} {mg mb : Str → Option Value} {dp un : Nat} {gd : Option (List Code)} {outer : List Env} {A₀ : Around} {base g : Heap} {L' qo qi qc : Addr} {m : Str → Option Value} {s : Shared} {Q : Flow → Shared → Prop} {E0 : Value → Shared → Prop} {o1 o2 o3 : Obj} {vo vi vc : List Value} {no ni nc : Nat} {cols lo li pl fg : List Int} {rest : List Stmt} {size : Int} {tz : Tok}
    (B : Below A₀ base outer g) (X : (KT w.params).In g) (T : Top q0 (looseW q0 lo0) mean mg mb g) (hd : dp + 80 < recursionLimit) (hu : un + 900 < cLine) (hL : @LT.lt Nat _ 96 L')
    (hmo : m (Str.ofString "outer") = some (.ref qo)) (hmc : m (Str.ofString "columns") = some (.ref qc)) (F : Fr g L' s.heap m) (N : News g L' s.heap ((qc, listOf vc.toArray nc) :: (qi, listOf vi.toArray ni) :: (qo, listOf vo.toArray no) :: (L' + 1 + 1 + 1, o3) :: (L' + 1 + 1, o2) :: (L' + 1, o1) :: (96, tabObj #[]) :: (89, tabObj #[]) :: []))
    (hic : IntsAre vc cols) (hlc : cols.length = 25)
    (hs1 : 1 ≤ size) (hs3 : size ≤ 3) (d1 : o1.data = .cell (some (.int size tz))) (d3 : o3.data = .cell (some (.ref qi)))
    (hio : IntsAre vo lo) (hii : IntsAre vi li) (hpl : cols.map (fun k' => k'.fdiv size) = pl) (hfg : digs (((Builtin.Int.intBits (valD (countsS lo) * valD (countsS li)) : Int) + 6 - 1).fdiv 6).toNat (valD (countsS lo) * valD (countsS li)).toNat = countsS pl)
    (b1 : pl.length < 50) (b2 : 0 < pl.length) (b3 : ∀ x ∈ pl, 0 ≤ x ∧ x < 100) (b4 : lo.length < 50) (b5 : 0 < lo.length) (b6 : ∀ x ∈ lo, 0 ≤ x ∧ x < 100) (b7 : li.length < 50) (b8 : 0 < li.length) (b9 : ∀ x ∈ li, 0 ≤ x ∧ x < 100)
    (e1 : (countsS lo).length < 50) (e2 : 0 < (countsS lo).length) (e3 : ∀ x ∈ countsS lo, 0 ≤ x ∧ x < 64) (e4 : (countsS li).length < 50) (e5 : 0 < (countsS li).length) (e6 : ∀ x ∈ countsS li, 0 ≤ x ∧ x < 64)
    (hj0 : 0 < valD (countsS lo) * valD (countsS li)) (hj1 : valD (countsS lo) * valD (countsS li) < 64 ^ 50) (hjm : IntMulOk (valD (countsS lo)) (valD (countsS li))) 
    (hcont : ∀ (qf qp : Addr) h' (tk' : Nat) m' (vf vp : List Value) (nf np : Nat) (ps : Array Value) (tj : Tok), IntsAre vf (countsS pl) → IntsAre vp pl → m' (Str.ofString "figures") = some (.ref qf) → m' (Str.ofString "places") = some (.ref qp) → m' (Str.ofString "outer") = some (.ref qo) → m' (Str.ofString "joined") = some (.int (valD (countsS lo) * valD (countsS li)) tj) → Fr g L' h' m' →
      News g L' h' ((qf, listOf vf.toArray nf) :: (qp, listOf vp.toArray np) :: (qi, listOf vi.toArray ni) :: (qo, listOf vo.toArray no) :: (L' + 1 + 1 + 1, o3) :: (L' + 1 + 1, o2) :: (L' + 1, o1) :: (96, tabObj ps) :: (89, tabObj #[]) :: []) →
      wpAny (model P0 w) (lawA dp un gd outer L') (execs rest (envL L')) Q (fun e s' => wpAny (model P0 w) (lawA dp un gd outer L') (leaving (envL L') e) (fun _ s'' => E0 e s'') (fun e' s'' => E0 e' s'') s') { s with heap := h', toks := tk' }) :
    wpAny (model P0 w) (lawA dp un gd outer L') (execs (((dBody (stm 21)).drop 11).take 3 ++ rest) (envL L')) Q (fun e s' => wpAny (model P0 w) (lawA dp un gd outer L') (leaving (envL L') e) (fun _ s'' => E0 e s'') (fun e' s'' => E0 e' s'') s') s := by
  w_top off; refine kon PySem.Challenge.rw_sn0095_01 KT ?_; k_fill; unfold Kon
  have kstM := kstMark
  replace F := fr_name (fr_name F hmo) (x := Str.ofString "columns") (v := .ref qc) (by rw [if_neg (by decide), hmc])
  have c2 := news_ne (a := qi) (b := 96) N (.tail _ (.head _)) (.tail _ (.tail _ (.tail _ (.tail _ (.tail _ (.tail _ (.head _))))))) rfl rfl
  have c3 := news_ne (a := qo) (b := 96) N (.tail _ (.tail _ (.head _))) (.tail _ (.tail _ (.tail _ (.tail _ (.tail _ (.tail _ (.head _))))))) rfl rfl
  have c4 := news_ne (a := qc) (b := 89) N (.head _) (.tail _ (.tail _ (.tail _ (.tail _ (.tail _ (.tail _ (.tail _ (.head _)))))))) rfl rfl
  have c5 := news_ne (a := qi) (b := 89) N (.tail _ (.head _)) (.tail _ (.tail _ (.tail _ (.tail _ (.tail _ (.tail _ (.tail _ (.head _)))))))) rfl rfl
  have c6 := news_ne (a := qo) (b := 89) N (.tail _ (.tail _ (.head _))) (.tail _ (.tail _ (.tail _ (.tail _ (.tail _ (.tail _ (.tail _ (.head _)))))))) rfl rfl
  have c1 := news_ne (a := qc) (b := 96) N (.head _) (.tail _ (.tail _ (.tail _ (.tail _ (.tail _ (.tail _ (.head _))))))) rfl rfl
  subst hpl
  k_steps
  (rename News _ _ _ _ => nE'); (rename Fr _ _ _ _ => fE')
  with_unfolding_all show wpAny _ _ (execs rest _) _ _ _
  refine' hcont _ _ _ _ _ _ _ _ _ _ _ ?i1 ?i2 ?m1 ?m2 ?m3 ?m4 fE' ?nn
  case m1 => exact rfl
  case m2 => exact rfl
  case m3 => exact rfl
  case m4 => exact rfl
  case nn => exact cb_drop nE' (by kcj_all)
  case i1 => assumption
  case i2 => assumption

end
section
theorem fr_un2 {h₀ h : Heap} {L : Addr} {m : Str → Option Value} {x : Str} {v : Value} (F : Fr h₀ L h (fun y => if y = x then some v else m y)) (hv : m x = some v) : Fr h₀ L h m := by
  have e : (fun y => if y = x then some v else m y) = m := by
    funext y
    by_cases q : y = x
    · rw [if_pos q, q, hv]
    · rw [if_neg q]
  rw [e] at F; exact F
local macro_rules | `(tactic| walk_at "pick") => `(tactic| (first | exact Pick.head _ | (refine' Pick.tail _ ?kh; (case kh => walk_at "pick"))))
local macro_rules | `(tactic| walk_at "call ref") => `(tactic| (k_here; refine' CL.useP ?k1 ?k2 ?k3 ?k4 ?kP ?k5 ?kK (c_i2d1 _ _ _ _ _ ?kx ?ky ?ks) ?kd ?ku ?_; (case k4 => k_asm); (case kP => walk_at "pick"); (case kx => assumption); (case ky => assumption); (case ks => k_all); (case k1 => k_asm); (case k2 => k_asm); (case k3 => k_asm); (case k5 => k_asm); (case kK => first | exact rfl | assumption); (case kd => ktr_room); (case ku => ktr_units); intro v9 news9 h9 tk9 r9 F9 N9; (obtain ⟨l9, c9, vs9, nn9, e9, e8, hi9, l91, l92⟩ := r9); subst e9; subst e8; (simp only [AllLt, and_true] at l92); (have hi99 := ints_eq9 hi9 (by assumption)); clear hi9; (try k_fold)))
theorem cell_fact {a b c : Nat} : True := trivial
set_option maxHeartbeats 800000 in
theorem p5c (w : World) {mean : ExcName → Option Value} {mg mb : Str → Option Value} {dp un : Nat} {gd : Option (List Code)} {outer : List Env} {A₀ : Around} {base g : Heap} {L' qo qi qf qp : Addr} {m : Str → Option Value} {s : Shared} {Q : Flow → Shared → Prop} {E0 : Value → Shared → Prop} {o1 o2 o3 : Obj} {vo vi vf vp : List Value} {no ni nf np : Nat} {ps : Array Value} {lf : List Int} {rest : List Stmt} {j : Int} {tj : Tok}
    (B : Below A₀ base outer g) (X : (KT w.params).In g) (T : Top q0 (looseW q0 lo0) mean mg mb g) (hd : dp + 80 < recursionLimit) (hu : un + 900 < cLine) (hL : @LT.lt Nat _ 96 L')
    (hmf : m (Str.ofString "figures") = some (.ref qf)) (hmj : m (Str.ofString "joined") = some (.int j tj)) (F : Fr g L' s.heap m)
    (N : News g L' s.heap ((qf, listOf vf.toArray nf) :: (qp, listOf vp.toArray np) :: (qi, listOf vi.toArray ni) :: (qo, listOf vo.toArray no) :: (L' + 1 + 1 + 1, o3) :: (L' + 1 + 1, o2) :: (L' + 1, o1) :: (96, tabObj ps) :: (89, tabObj #[]) :: []))
    (hif : IntsAre vf lf) (hfg : digs (((Builtin.Int.intBits j : Int) + 6 - 1).fdiv 6).toNat j.toNat = lf) (hj0 : 0 < j) (hj1 : j < 64 ^ 50)
    (hcont : ∀ h' (tk' : Nat) (ps2 : Array Value), Fr g L' h' m →
      News g L' h' ((qf, listOf vf.toArray nf) :: (qp, listOf vp.toArray np) :: (qi, listOf vi.toArray ni) :: (qo, listOf vo.toArray no) :: (L' + 1 + 1 + 1, o3) :: (L' + 1 + 1, o2) :: (L' + 1, o1) :: (96, tabObj ps) :: (89, tabObj ps2) :: []) →
      wpAny (model P0 w) (lawA dp un gd outer L') (execs rest (envL L')) Q (fun e s' => wpAny (model P0 w) (lawA dp un gd outer L') (leaving (envL L') e) (fun _ s'' => E0 e s'') (fun e' s'' => E0 e' s'') s') { s with heap := h', toks := tk' }) :
    wpAny (model P0 w) (lawA dp un gd outer L') (execs (((dBody (stm 21)).drop 14).take 1 ++ rest) (envL L')) Q (fun e s' => wpAny (model P0 w) (lawA dp un gd outer L') (leaving (envL L') e) (fun _ s'' => E0 e s'') (fun e' s'' => E0 e' s'') s') s := by
  w_top off; refine kon PySem.Challenge.rw_sn0095_01 KT ?_; k_fill; unfold Kon
  have kstM := kstMark
  have c4 := news_ne (a := qf) (b := 89) N (.head _) (.tail _ (.tail _ (.tail _ (.tail _ (.tail _ (.tail _ (.tail _ (.tail _ (.head _))))))))) rfl rfl
  have c5 := news_ne (a := qp) (b := 89) N (.tail _ (.head _)) (.tail _ (.tail _ (.tail _ (.tail _ (.tail _ (.tail _ (.tail _ (.tail _ (.head _))))))))) rfl rfl
  have c6 := news_ne (a := qi) (b := 89) N (.tail _ (.tail _ (.head _))) (.tail _ (.tail _ (.tail _ (.tail _ (.tail _ (.tail _ (.tail _ (.tail _ (.head _))))))))) rfl rfl
  have c7 := news_ne (a := qo) (b := 89) N (.tail _ (.tail _ (.tail _ (.head _)))) (.tail _ (.tail _ (.tail _ (.tail _ (.tail _ (.tail _ (.tail _ (.tail _ (.head _))))))))) rfl rfl
  have hm2 : (fun y => if y = Str.ofString "figures" then some (Value.ref qf) else m y) (Str.ofString "joined") = some (.int j tj) := (if_neg (by decide)).trans hmj
  replace F := fr_name (fr_name F hmf) hm2
  k_steps
  (rename News _ _ _ _ => nE'); (rename Fr _ _ _ _ => fE')
  with_unfolding_all show wpAny _ _ (execs rest _) _ _ _
  exact hcont _ _ _ (fr_un2 (fr_un2 fE' hm2) hmf) (cb_drop nE' (by kcj_all))

end
section
local macro_rules | `(tactic| walk_at "pick") => `(tactic| (first | exact Pick.head _ | (refine' Pick.tail _ ?kh; (case kh => walk_at "pick"))))
local macro_rules | `(tactic| walk_at "call ref") => `(tactic| (k_here; refine' CL.usePList ?k1 ?k2 ?k3 ?k4 ?kP ?k5 ?kK (c_kept0 _ _ _ _ _ _ ?kx ?ky) ?kd ?ku ?_; (case k4 => k_asm); (case kP => walk_at "pick"); (case kx => assumption); (case ky => assumption); (case k1 => k_asm); (case k2 => k_asm); (case k3 => k_asm); (case k5 => k_asm); (case kK => first | exact rfl | assumption); (case kd => ktr_room); (case ku => ktr_units); intro q9 vs9 nn9 h9 tk9 hi9 n9 F9 N9; (simp only [LCg.Off1, and_true] at n9); (try k_fold)))
local macro_rules | `(tactic| walk_at "zz4") => `(tactic| fail)
set_option maxHeartbeats 800000 in
theorem p6a (w : World) {mean : ExcName → Option Value} {mg mb : Str → Option Value} {dp un : Nat} {gd : Option (List Code)} {outer : List Env} {A₀ : Around} {base g : Heap} {L' qo qi qf qp : Addr} {m : Str → Option Value} {s : Shared} {Q : Flow → Shared → Prop} {E0 : Value → Shared → Prop} {o1 o2 o3 : Obj} {vo vi vf vp : List Value} {no ni nf np : Nat} {ps ps2 : Array Value} {lo li lf pl : List Int} {rest : List Stmt}
    (B : Below A₀ base outer g) (X : (KT w.params).In g) (T : Top q0 (looseW q0 lo0) mean mg mb g) (hd : dp + 80 < recursionLimit) (hu : un + 900 < cLine) (hL : @LT.lt Nat _ 96 L')
    (hmp : m (Str.ofString "places") = some (.ref qp)) (hmo : m (Str.ofString "outer") = some (.ref qo)) (hmf : m (Str.ofString "figures") = some (.ref qf)) (d3 : o3.data = .cell (some (.ref qi))) (F : Fr g L' s.heap m)
    (N : News g L' s.heap ((qf, listOf vf.toArray nf) :: (qp, listOf vp.toArray np) :: (qi, listOf vi.toArray ni) :: (qo, listOf vo.toArray no) :: (L' + 1 + 1 + 1, o3) :: (L' + 1 + 1, o2) :: (L' + 1, o1) :: (96, tabObj ps) :: (89, tabObj ps2) :: []))
    (hip : IntsAre vp pl) (hio : IntsAre vo lo) (hii : IntsAre vi li) (b1 : pl.length < 50) (b4 : lo.length < 50) (b7 : li.length < 50)
    (hcont : ∀ (q1 q2 q3 : Addr) h' (tk' : Nat) m' (v1 v2 v3 : List Value) (n1 n2 n3 : Nat) (ta tb tc : Tok), IntsAre v1 (keptS lo) → IntsAre v2 (keptS li) → IntsAre v3 (keptS pl) →
      m' (Str.ofString "first") = some (.ref q1) → m' (Str.ofString "second") = some (.ref q2) → m' (Str.ofString "third") = some (.ref q3) → m' (Str.ofString "figures") = some (.ref qf) → m' (Str.ofString "places") = some (.ref qp) → m' (Str.ofString "part") = some (.int 1 ta) → m' (Str.ofString "whole") = some (.int 1 tb) → m' (Str.ofString "told") = some (.int 0 tc) → Fr g L' h' m' →
      News g L' h' ((q1, listOf v1.toArray n1) :: (q2, listOf v2.toArray n2) :: (q3, listOf v3.toArray n3) :: (qf, listOf vf.toArray nf) :: (qp, listOf vp.toArray np) :: (96, tabObj ps) :: (89, tabObj ps2) :: []) →
      wpAny (model P0 w) (lawA dp un gd outer L') (execs rest (envL L')) Q (fun e s' => wpAny (model P0 w) (lawA dp un gd outer L') (leaving (envL L') e) (fun _ s'' => E0 e s'') (fun e' s'' => E0 e' s'') s') { s with heap := h', toks := tk' }) :
    wpAny (model P0 w) (lawA dp un gd outer L') (execs (((dBody (stm 21)).drop 15).take 3 ++ rest) (envL L')) Q (fun e s' => wpAny (model P0 w) (lawA dp un gd outer L') (leaving (envL L') e) (fun _ s'' => E0 e s'') (fun e' s'' => E0 e' s'') s') s := by
  w_top off; refine kon PySem.Challenge.rw_sn0095_01 KT ?_; k_fill; unfold Kon
  have kstM := kstMark
  have hm2 : (fun y => if y = Str.ofString "places" then some (Value.ref qp) else m y) (Str.ofString "outer") = some (.ref qo) := (if_neg (by decide)).trans hmo
  replace F := fr_name (fr_name F hmp) hm2
  k_steps
  (rename News _ _ _ _ => nE'); (rename Fr _ _ _ _ => fE')
  with_unfolding_all show wpAny _ _ (execs rest _) _ _ _
  refine' hcont _ _ _ _ _ _ _ _ _ _ _ _ _ _ _ ?i1 ?i2 ?i3 ?m1 ?m2 ?m3 ?m4 ?m5 ?m6 ?m7 ?m8 fE' ?nn
  case m1 => exact rfl
  case m2 => exact rfl
  case m3 => exact rfl
  case m4 => exact hmf
  case m5 => exact rfl
  case m6 => exact rfl
  case m7 => exact rfl
  case m8 => exact rfl
  case nn => exact cb_drop nE' (by kcj_all)
  case i1 => assumption
  case i2 => assumption
  case i3 => assumption

end
section
noncomputable def cR (n : Int) (f : List Int) : Nat := f.countP (fun v => decide (pR n v))
theorem c_bright1 (w : World) (l : Addr) (vs : List Value) (ns : List Int) (nn : Nat) (x : Int) (t : Tok) (news : Led) (hi : IntsAre vs ns) (hlen : ns.length < 100)
    (hs : ns.Pairwise (· ≤ ·)) : CL w 1 8 110 [.ref l, .int x t] ((l, listOf vs.toArray nn) :: news) (RInt ((cR x ns : Nat) : Int) ((l, listOf vs.toArray nn) :: news)) := c_bright0 w l vs ns nn x t news hi hlen hs
theorem cR_le (n : Int) (f : List Int) : cR n f ≤ f.length := List.countP_le_length
noncomputable def stepL (pl f1 f2 : List Int) (s : Int × Int × Int) (n : Int) : Int × Int × Int :=
  if (pl.any fun x => x == n) = true then (s.1 + 1, s.2.1, s.2.2) else if ((cR n f1 : Int) + (cR n f2 : Int)) * s.2.2 < s.2.1 * n then (s.1, (cR n f1 : Int) + (cR n f2 : Int), n) else s
noncomputable def stL (pl f1 f2 : List Int) (k : Nat) : Int × Int × Int := (rangeKs 1 k).foldl (stepL pl f1 f2) (0, 1, 1)
theorem range_succ (a : Int) (k : Nat) : rangeKs a (k + 1) = rangeKs a k ++ [a + (k : Int)] := by
  simp [rangeKs, List.range_succ]
theorem stL_succ (pl f1 f2 : List Int) (k : Nat) : stL pl f1 f2 (k + 1) = stepL pl f1 f2 (stL pl f1 f2 k) (1 + (k : Int)) := by
  unfold stL; rw [range_succ, List.foldl_append]; rfl
structure LpS (pl f1 f2 : List Int) (pre : List Int) (told part whole : Int) : Prop where
  a : pre = rangeKs 1 pre.length
  b : (told, part, whole) = stL pl f1 f2 pre.length
theorem LpS.init {pl f1 f2 : List Int} : LpS pl f1 f2 [] 0 1 1 := ⟨rfl, rfl⟩
theorem LpS.next {pl f1 f2 pre : List Int} {told part whole told' part' whole' n : Int} (h : LpS pl f1 f2 pre told part whole) (hn : n = 1 + (pre.length : Int)) (e : (told', part', whole') = stepL pl f1 f2 (told, part, whole) n) : LpS pl f1 f2 (pre ++ [n]) told' part' whole' := by
  have hl : (pre ++ [n]).length = pre.length + 1 := by simp
  refine ⟨?_, ?_⟩
  · rw [hl, range_succ, ← h.a, hn]
  · rw [hl, stL_succ, ← h.b, e, hn]
theorem LpS.in {pl f1 f2 pre : List Int} {told part whole n : Int} (h : LpS pl f1 f2 pre told part whole) (hn : n = 1 + (pre.length : Int)) (hp : (pl.any fun x => x == n) = true) : LpS pl f1 f2 (pre ++ [n]) (told + 1) part whole :=
  h.next hn (by unfold stepL; rw [if_pos hp])
theorem LpS.lt {pl f1 f2 pre : List Int} {told part whole n : Int} (h : LpS pl f1 f2 pre told part whole) (hn : n = 1 + (pre.length : Int)) (hp : (pl.any fun x => x == n) = false) (hc : ((cR n f1 : Int) + (cR n f2 : Int)) * whole < part * n) : LpS pl f1 f2 (pre ++ [n]) told ((cR n f1 : Int) + (cR n f2 : Int)) n :=
  h.next hn (by unfold stepL; rw [if_neg (by rw [hp]; decide), if_pos hc])
theorem LpS.ge {pl f1 f2 pre : List Int} {told part whole n : Int} (h : LpS pl f1 f2 pre told part whole) (hn : n = 1 + (pre.length : Int)) (hp : (pl.any fun x => x == n) = false) (hc : ¬ ((cR n f1 : Int) + (cR n f2 : Int)) * whole < part * n) : LpS pl f1 f2 (pre ++ [n]) told part whole :=
  h.next hn (by unfold stepL; rw [if_neg (by rw [hp]; decide), if_neg hc])
noncomputable def OkAll (pl f1 f2 f3 : List Int) (N : Nat) : Prop := ∀ k < N, (cR (1 + (k : Int)) f3 : Int) = (stL pl f1 f2 (k + 1)).1 ∧ ¬ (cR (1 + (k : Int)) f3 : Int) * (stL pl f1 f2 (k + 1)).2.2 < (stL pl f1 f2 (k + 1)).2.1 * (1 + (k : Int))
theorem LpS.ok {pl f1 f2 f3 pre : List Int} {told part whole n : Int} {N : Nat} (h : LpS pl f1 f2 (pre ++ [n]) told part whole) (hok : OkAll pl f1 f2 f3 N) (hn : n = 1 + (pre.length : Int)) (hl : pre.length < ((N : Int) + 1 - 1).toNat) : (cR n f3 : Int) = told ∧ ¬ (cR n f3 : Int) * whole < part * n := by
  have hl' : (pre ++ [n]).length = pre.length + 1 := by simp
  have e := h.b
  rw [hl'] at e
  have := hok pre.length (by omega)
  rw [← e, ← hn] at this
  exact this
theorem cR_of {x : Int} {f : List Int} {news nx : Led} {v : Value} (_ : RInt ((cR x f : Nat) : Int) news v nx) : cR x f ≤ f.length := cR_le _ _
theorem CL.usePcR {w : World} {dd uu : Nat} {f : Addr} {vs : List Value} {x : Addr × Obj} {news rest : Led} {n : Int} {fl : List Int} {mean : ExcName → Option Value} {mg mb : Str → Option Value} {dp un : Nat} {gd : Option (List Code)} {cn : Str} {cs : Scope} {a : Addr} {ccd : Value} {cl : List (Str × Addr)} {outer : List Env} {A₀ : Around} {base h₀ : Heap} {L : Addr} {m : Str → Option Value} {s : Shared} {Q E : Value → Shared → Prop}
    (B : Below A₀ base outer h₀) (F : Fr h₀ L s.heap m) (X : (KT w.params).In h₀) (N : News h₀ L s.heap news) (P : Pick x news rest) (T : Top q0 (looseW q0 lo0) mean mg mb h₀) (hk : cs.kind = .function)
    (C : CL w dd uu f vs (x :: rest) (RInt ((cR n fl : Nat) : Int) (x :: rest))) (hd : dp + dd < recursionLimit) (hu : un + uu < cLine)
    (ret : ∀ (t : Tok) (h' : Heap) (tk' : Nat), cR n fl ≤ fl.length → Fr h₀ L h' m → News h₀ L h' (x :: rest) → Q (.int ((cR n fl : Nat) : Int) t) { s with heap := h', toks := tk' }) :
    wpAny (model P0 w) (ktrTop dp un gd cn cs L a ccd cl outer) (call (.ref f) vs) Q E s := CL.useP B F X N P T hk C hd hu fun v nx h' tk' r F1 N1 => by
  obtain ⟨e1, t, e2⟩ := r
  rw [e1] at N1
  rw [e2]
  exact ret t h' tk' (cR_le _ _) F1 N1
local macro_rules | `(tactic| walk_at "pick") => `(tactic| (first | exact Pick.head _ | (refine' Pick.tail _ ?kh; (case kh => walk_at "pick"))))
local macro_rules | `(tactic| walk_at "call ref") => `(tactic| (k_here; refine' CL.usePcR ?k1 ?k2 ?k3 ?k4 ?kP ?k5 ?kK (c_bright1 _ _ _ _ _ _ _ _ ?kx ?ky ?kz) ?kd ?ku ?_; (case k4 => k_asm); (case kP => walk_at "pick"); (case kx => assumption); (case ky => assumption); (case kz => assumption); (case k1 => k_asm); (case k2 => k_asm); (case k3 => k_asm); (case k5 => k_asm); (case kK => first | exact rfl | assumption); (case kd => ktr_room); (case ku => ktr_units); intro t9 h9 tk9 b9 F9 N9; (try k_fold)))
local macro_rules | `(tactic| walk_at "binaryOp Mult int int") => `(tactic| (k_here; k_dflt (refine mul_int ?_ (by first | exact IntMulOk.of_left (intBits_le_64 (by omega) (by omega)) | exact IntMulOk.of_right (intBits_le_64 (by omega) (by omega))))))
theorem bad_in {pl f1 f2 f3 pre : List Int} {told part whole n : Int} {N : Nat} (hok : OkAll pl f1 f2 f3 N) (h : LpS pl f1 f2 pre told part whole) (hn : n = 1 + (pre.length : Int)) (hl : pre.length < ((N : Int) + 1 - 1).toNat) (hp : (pl.any fun x => x == n) = true) : (cR n f3 : Int) = told + 1 ∧ ¬ (cR n f3 : Int) * whole < part * n := (h.in hn hp).ok hok hn hl
theorem bad_lt {pl f1 f2 f3 pre : List Int} {told part whole n : Int} {N : Nat} (hok : OkAll pl f1 f2 f3 N) (h : LpS pl f1 f2 pre told part whole) (hn : n = 1 + (pre.length : Int)) (hl : pre.length < ((N : Int) + 1 - 1).toNat) (hp : (pl.any fun x => x == n) = false) (hc : ((cR n f1 : Int) + (cR n f2 : Int)) * whole < part * n) : (cR n f3 : Int) = told ∧ ¬ (cR n f3 : Int) * n < ((cR n f1 : Int) + (cR n f2 : Int)) * n := (h.lt hn hp hc).ok hok hn hl
theorem bad_ge {pl f1 f2 f3 pre : List Int} {told part whole n : Int} {N : Nat} (hok : OkAll pl f1 f2 f3 N) (h : LpS pl f1 f2 pre told part whole) (hn : n = 1 + (pre.length : Int)) (hl : pre.length < ((N : Int) + 1 - 1).toNat) (hp : (pl.any fun x => x == n) = false) (hc : ¬ ((cR n f1 : Int) + (cR n f2 : Int)) * whole < part * n) : (cR n f3 : Int) = told ∧ ¬ (cR n f3 : Int) * whole < part * n := (h.ge hn hp hc).ok hok hn hl
local macro_rules | `(tactic| walk_at "zz5") => `(tactic| fail)
set_option maxHeartbeats 800000 in
theorem p6b (w : World) {mean : ExcName → Option Value} {mg mb : Str → Option Value} {dp un : Nat} {gd : Option (List Code)} {outer : List Env} {A₀ : Around} {base g : Heap} {L' q1 q2 q3 qf qp : Addr} {m : Str → Option Value} {s : Shared} {Q : Flow → Shared → Prop} {E0 : Value → Shared → Prop} {v1 v2 v3 vf vp : List Value} {n1 n2 n3 nf np : Nat} {ps ps2 : Array Value} {f1 f2 f3 lf pl : List Int} {ta tb tc : Tok}
    (B : Below A₀ base outer g) (X : (KT w.params).In g) (T : Top q0 (looseW q0 lo0) mean mg mb g) (hd : dp + 80 < recursionLimit) (hu : un + 900 < cLine) (hL : @LT.lt Nat _ 96 L')
    (F : Fr g L' s.heap (fun y => if y = Str.ofString "told" then some (.int 0 tc) else if y = Str.ofString "whole" then some (.int 1 tb) else if y = Str.ofString "part" then some (.int 1 ta) else if y = Str.ofString "places" then some (.ref qp) else if y = Str.ofString "figures" then some (.ref qf) else if y = Str.ofString "third" then some (.ref q3) else if y = Str.ofString "second" then some (.ref q2) else if y = Str.ofString "first" then some (.ref q1) else m y))
    (N : News g L' s.heap ((q1, listOf v1.toArray n1) :: (q2, listOf v2.toArray n2) :: (q3, listOf v3.toArray n3) :: (qf, listOf vf.toArray nf) :: (qp, listOf vp.toArray np) :: (96, tabObj ps) :: (89, tabObj ps2) :: []))
    (hi1 : IntsAre v1 f1) (hi2 : IntsAre v2 f2) (hi3 : IntsAre v3 f3) (hif : IntsAre vf lf) (hip : IntsAre vp pl) (l1 : f1.length < 50) (l2 : f2.length < 50) (l3 : f3.length < 50) (lf' : lf.length < 50) (lp : pl.length < 50)
    (s1 : f1.Pairwise (· ≤ ·)) (s2 : f2.Pairwise (· ≤ ·)) (s3 : f3.Pairwise (· ≤ ·))
    (hok : OkAll pl f1 f2 f3 lf.length)
    (hret : ∀ h' (tk' : Nat) m', Fr g L' h' m' → News g L' h' ((96, tabObj ps) :: (89, tabObj ps2) :: []) → Q (.ret (.bool true)) { s with heap := h', toks := tk' }) :
    wpAny (model P0 w) (lawA dp un gd outer L') (execs ((dBody (stm 21)).drop 18) (envL L')) Q (fun e s' => wpAny (model P0 w) (lawA dp un gd outer L') (leaving (envL L') e) (fun _ s'' => E0 e s'') (fun e' s'' => E0 e' s'') s') s := by
  w_top off; refine kon PySem.Challenge.rw_sn0095_01 KT ?_; k_fill; unfold Kon
  have kstM := kstMark
  have m1 : f1.length < 100 := by omega
  have m2 : f2.length < 100 := by omega
  have m3 : f3.length < 100 := by omega
  k_with "pyIter ref" => k_state (fun pre told part whole => LpS pl f1 f2 pre told part whole) "told" "part" "whole"
  k_with "state" => first | exact LpS.init | exact LpS.in (by assumption) (by first | assumption | rfl) (by assumption) | exact LpS.lt (by assumption) (by first | assumption | rfl) (by assumption) (by assumption) | exact LpS.ge (by assumption) (by first | assumption | rfl) (by assumption) (by assumption)
  k_steps
  · exfalso
    first
      | (have hb := bad_in hok (by assumption) (by assumption) (by assumption) (by assumption); first | exact absurd hb.1 (by assumption) | exact absurd (by assumption) hb.2)
      | (have hb := bad_lt hok (by assumption) (by assumption) (by assumption) (by assumption) (by assumption); first | exact absurd hb.1 (by assumption) | exact absurd (by assumption) hb.2)
      | (have hb := bad_ge hok (by assumption) (by assumption) (by assumption) (by assumption) (by assumption); first | exact absurd hb.1 (by assumption) | exact absurd (by assumption) hb.2)
  · exfalso
    first
      | (have hb := bad_in hok (by assumption) (by assumption) (by assumption) (by assumption); first | exact absurd hb.1 (by assumption) | exact absurd (by assumption) hb.2)
      | (have hb := bad_lt hok (by assumption) (by assumption) (by assumption) (by assumption) (by assumption); first | exact absurd hb.1 (by assumption) | exact absurd (by assumption) hb.2)
      | (have hb := bad_ge hok (by assumption) (by assumption) (by assumption) (by assumption) (by assumption); first | exact absurd hb.1 (by assumption) | exact absurd (by assumption) hb.2)
  · exfalso
    first
      | (have hb := bad_in hok (by assumption) (by assumption) (by assumption) (by assumption); first | exact absurd hb.1 (by assumption) | exact absurd (by assumption) hb.2)
      | (have hb := bad_lt hok (by assumption) (by assumption) (by assumption) (by assumption) (by assumption); first | exact absurd hb.1 (by assumption) | exact absurd (by assumption) hb.2)
      | (have hb := bad_ge hok (by assumption) (by assumption) (by assumption) (by assumption) (by assumption); first | exact absurd hb.1 (by assumption) | exact absurd (by assumption) hb.2)
  · exfalso
    first
      | (have hb := bad_in hok (by assumption) (by assumption) (by assumption) (by assumption); first | exact absurd hb.1 (by assumption) | exact absurd (by assumption) hb.2)
      | (have hb := bad_lt hok (by assumption) (by assumption) (by assumption) (by assumption) (by assumption); first | exact absurd hb.1 (by assumption) | exact absurd (by assumption) hb.2)
      | (have hb := bad_ge hok (by assumption) (by assumption) (by assumption) (by assumption) (by assumption); first | exact absurd hb.1 (by assumption) | exact absurd (by assumption) hb.2)
  · exfalso
    first
      | (have hb := bad_in hok (by assumption) (by assumption) (by assumption) (by assumption); first | exact absurd hb.1 (by assumption) | exact absurd (by assumption) hb.2)
      | (have hb := bad_lt hok (by assumption) (by assumption) (by assumption) (by assumption) (by assumption); first | exact absurd hb.1 (by assumption) | exact absurd (by assumption) hb.2)
      | (have hb := bad_ge hok (by assumption) (by assumption) (by assumption) (by assumption) (by assumption); first | exact absurd hb.1 (by assumption) | exact absurd (by assumption) hb.2)
  · exfalso
    first
      | (have hb := bad_in hok (by assumption) (by assumption) (by assumption) (by assumption); first | exact absurd hb.1 (by assumption) | exact absurd (by assumption) hb.2)
      | (have hb := bad_lt hok (by assumption) (by assumption) (by assumption) (by assumption) (by assumption); first | exact absurd hb.1 (by assumption) | exact absurd (by assumption) hb.2)
      | (have hb := bad_ge hok (by assumption) (by assumption) (by assumption) (by assumption) (by assumption); first | exact absurd hb.1 (by assumption) | exact absurd (by assumption) hb.2)
  · (rename News _ _ _ _ => nE'); (rename Fr _ _ _ _ => fE')
    with_unfolding_all show Q (Flow.ret (Value.bool true)) _
    exact hret _ _ _ fE' (cb_drop nE' (by kcj_all))

end
section
noncomputable abbrev numsS (ns : List Int) : List Int := List.map (fun k' => k'.fmod (10 ^ Int.toNat 6)) (List.take 7 (ns ++ List.drop (ns.length : Int).toNat [16, 24, 45, 69, 130, 364, 612]))
local macro_rules | `(tactic| walk_at "subscriptTail Name Slice ref ref") => `(tactic| (k_here; (with_reducible show wpAny _ _ (subscriptTail _ (PySem.Expr.Slice _ _ none _) (Value.ref _) (Value.ref _)) _ _ _); k_dflt (refine' kmk_slice_ints ?F ?N ?l ?p ?q ?i ?m ?c ?_ ?s ?t ?z; (case F => k_asm); (case N => k_asm); (case l => kmk_list); (case p => kmk_part); (case q => kmk_part); (case i => l_ints); (case m => first | ((with_reducible refine' kmk_from ?za ?zb); (case za => l_ints); (case zb => kmk_sign)) | ((with_reducible refine' kmk_upto ?za ?zb); (case za => l_ints); (case zb => kmk_sign))); (case c => kmk_len); (case s => with_unfolding_all rfl); (case t => kmk_pure); (case z => kmk_size)); intro D' ws' h' F' N' l1 hI' hC' hL'; (try simp only [Int.reduceNeg, Int.neg_neg, Int.reduceToNat] at hI' hC' hL'); (try k_lt l1); (try k_sweep)))
set_option maxHeartbeats 4000000 in
theorem p1 (w : World) {mean : ExcName → Option Value} {mg mb : Str → Option Value} {dp un : Nat} {gd : Option (List Code)} {outer : List Env} {A₀ : Around} {base g : Heap} {L' l : Addr} {m : Str → Option Value} {s : Shared} {Q : Flow → Shared → Prop} {E0 : Value → Shared → Prop} {o1 o2 o3 : Obj} {vs : List Value} {ns : List Int} {rest : List Stmt}
    (B : Below A₀ base outer g) (X : (KT w.params).In g) (T : Top q0 (looseW q0 lo0) mean mg mb g) (hd : dp + 12 < recursionLimit) (hu : un + 200 < cLine) (hL : @LT.lt Nat _ 96 L') (hms : m (Str.ofString "script") = some (.ref l))
    (F : Fr g L' s.heap m) (N : News g L' s.heap ((L' + 1 + 1 + 1, o3) :: (L' + 1 + 1, o2) :: (L' + 1, o1) :: (96, tabObj #[]) :: (89, tabObj #[]) :: [])) (hS : g.IsList l vs.toArray) (hi : IntsAre vs ns) (hlen : ns.length < 64) (d1 : ∃ v, o1.data = .cell v)
    (hcont : ∀ (q : Addr) h' (tk' : Nat) m' (ys : List Value) (o1' : Obj) (tz : Tok), IntsAre ys (numsS ns) → o1'.data = .cell (some (.int (1 + (numsS ns).sum.fmod 3) tz)) → m' (Str.ofString "numbers") = some (.ref q) → Fr g L' h' m' →
      News g L' h' ((q, listOf ys.toArray ys.length) :: (L' + 1 + 1 + 1, o3) :: (L' + 1 + 1, o2) :: (L' + 1, o1') :: (96, tabObj #[]) :: (89, tabObj #[]) :: []) → (@Ne Nat (L' + 1 + 1 + 1) q ∧ @Ne Nat (L' + 1 + 1) q ∧ @Ne Nat (L' + 1) q) →
      wpAny (model P0 w) (lawA dp un gd outer L') (execs rest (envL L')) Q (fun e s' => wpAny (model P0 w) (lawA dp un gd outer L') (leaving (envL L') e) (fun _ s'' => E0 e s'') (fun e' s'' => E0 e' s'') s') { s with heap := h', toks := tk' }) :
    wpAny (model P0 w) (lawA dp un gd outer L') (execs (((dBody (stm 21)).drop 0).take 3 ++ rest) (envL L')) Q (fun e s' => wpAny (model P0 w) (lawA dp un gd outer L') (leaving (envL L') e) (fun _ s'' => E0 e s'') (fun e' s'' => E0 e' s'') s') s := by
  w_top off; refine kon PySem.Challenge.rw_sn0095_01 KT ?_; k_fill; unfold Kon
  have kstM := kstMark
  obtain ⟨v1, d1⟩ := d1
  replace F := fr_name F hms
  k_steps
  (rename News _ _ _ _ => nE'); (rename Fr _ _ _ _ => fE')
  with_unfolding_all show wpAny _ _ (execs rest _) _ _ _
  refine' hcont _ _ _ _ _ _ _ ?i1 ?dd ?m1 fE' ?nn ?ll
  case m1 => exact rfl
  case i1 => assumption
  case dd => assumption
  case nn => exact cb_drop nE' (by kcj_all)
  case ll => clear nE' fE'; exact ⟨by first | exact (cj5 (by assumption)) | omega, by first | exact (cj6 (by assumption)) | omega, by first | exact (cj7 (by assumption)) | omega⟩

end
noncomputable def leadW (i : Nat) : Str := Txt.join (Str.ofString "") ((LW.getD i Str.empty).cps.toList.map pieceS)
noncomputable def leadsL : List Str := [leadW 0, leadW 1, leadW 2, leadW 3, leadW 4, leadW 5, leadW 6, leadW 7, leadW 8, leadW 9, leadW 10, leadW 11]
noncomputable def colOkB (size : Int) (x y : Str) : Bool :=
  decide ((x ++ y).length < 40) && (KStt.codes (x ++ y)).all (fun c => c == 32 || c == 9) &&
  (let r := foldW (KStt.codes (x ++ y)); r.1.all (fun v => decide (0 ≤ v) && decide (v ≤ 41)) && (decide (0 ≤ r.2.2.2) && decide (r.2.2.2 ≤ 41)) && (r.2.1 + size * (indZ size r.1 (rangeKs size ((r.1.length : Int) - size).toNat) + r.2.2.2) == colS size x y))
theorem colOkB_sound {size : Int} {x y : Str} (h : colOkB size x y = true) : ColOk size x y := by
  simp only [colOkB, Bool.and_eq_true, decide_eq_true_eq, List.all_eq_true, Bool.or_eq_true, beq_iff_eq] at h
  obtain ⟨⟨h1, h2⟩, ⟨h3, h4⟩, h5⟩ := h
  refine ⟨h1, h2, fun cnt b n nt e => ?_⟩
  rw [← e] at h3 h4 h5
  exact ⟨h3, h4, h5⟩
set_option maxHeartbeats 0 in
theorem col_all : ∀ x ∈ Str.ofString "" :: Str.ofString "\t" :: leadsL, ∀ y ∈ Str.ofString "" :: leadsL, colOkB 1 x y = true ∧ colOkB 2 x y = true ∧ colOkB 3 x y = true := by decide +kernel

noncomputable def bN (m n : Nat) : Nat := (m >>> n) % 2
theorem bN_eq (m n : Nat) : bN m n = if m.testBit n = true then 1 else 0 := by
  unfold bN
  rw [Nat.shiftRight_eq_div_pow, Nat.testBit_eq_decide_div_mod_eq]
  by_cases h : m / 2 ^ n % 2 = 1
  · simp [h]
  · have : m / 2 ^ n % 2 = 0 := by omega
    simp [this]
noncomputable def maskOf (l : List Nat) : Nat := l.foldr (fun x m => (1 <<< x) ||| m) 0
theorem test_mask (l : List Nat) (n : Nat) : (maskOf l).testBit n = true ↔ n ∈ l := by
  induction l with
  | nil => simp [maskOf]
  | cons x l ih =>
    have e : maskOf (x :: l) = (1 <<< x) ||| maskOf l := rfl
    rw [e, Nat.testBit_or, Bool.or_eq_true, ih, List.mem_cons]
    have h1 : (1 <<< x).testBit n = true ↔ n = x := by
      rw [Nat.one_shiftLeft, Nat.testBit_two_pow]
      simp [eq_comm]
    rw [h1]
noncomputable def sumM (mA mB : Nat) : Nat → Nat
  | 0 => bN mA 0 * mB
  | k + 1 => (bN mA (k + 1) * (mB <<< (k + 1))) ||| sumM mA mB k
theorem test_mul (mA a x n : Nat) : (bN mA a * x).testBit n = true ↔ mA.testBit a = true ∧ x.testBit n = true := by
  rw [bN_eq]
  by_cases h : mA.testBit a = true
  · simp [h]
  · simp [h]
theorem test_sum (mA mB : Nat) : ∀ (k n : Nat), (sumM mA mB k).testBit n = true ↔ ∃ a, a ≤ k ∧ mA.testBit a = true ∧ a ≤ n ∧ mB.testBit (n - a) = true
  | 0, n => by
    show (bN mA 0 * mB).testBit n = true ↔ _
    rw [test_mul]
    constructor
    · rintro ⟨h1, h2⟩; exact ⟨0, Nat.le_refl _, h1, Nat.zero_le _, by simpa using h2⟩
    · rintro ⟨a, h0, h1, h2, h3⟩
      have : a = 0 := by omega
      subst this; exact ⟨h1, by simpa using h3⟩
  | k + 1, n => by
    show ((bN mA (k + 1) * (mB <<< (k + 1))) ||| sumM mA mB k).testBit n = true ↔ _
    rw [Nat.testBit_or, Bool.or_eq_true, test_mul, test_sum mA mB k n, Nat.testBit_shiftLeft]
    simp only [Bool.and_eq_true, decide_eq_true_eq]
    constructor
    · rintro (⟨h1, h2, h3⟩ | ⟨a, h0, h1, h2, h3⟩)
      · exact ⟨k + 1, Nat.le_refl _, h1, h2, h3⟩
      · exact ⟨a, by omega, h1, h2, h3⟩
    · rintro ⟨a, h0, h1, h2, h3⟩
      by_cases e : a = k + 1
      · subst e; exact .inl ⟨h1, h2, h3⟩
      · exact .inr ⟨a, by omega, h1, h2, h3⟩
noncomputable def cntM (m : Nat) : Nat → Nat
  | 0 => 0
  | n + 1 => cntM m n + bN m (n + 1)
theorem perm_ins (x : Int) (l : List Int) : (insS l x).Perm (x :: l) := by
  unfold insS
  refine List.perm_middle.trans ?_
  rw [List.take_append_drop]
theorem kept_fold : ∀ (l r : List Int), r.Nodup → (l.foldl (fun r v => if v ≠ 0 ∧ v ∉ r then insS r v else r) r).Nodup ∧ ∀ v, v ∈ l.foldl (fun r v => if v ≠ 0 ∧ v ∉ r then insS r v else r) r ↔ v ∈ r ∨ (v ≠ 0 ∧ v ∈ l)
  | [], r, h => ⟨h, fun v => by simp⟩
  | a :: l, r, h => by
    rw [List.foldl_cons]
    by_cases c : a ≠ 0 ∧ a ∉ r
    · rw [if_pos c]
      have h' : (insS r a).Nodup := (perm_ins a r).nodup_iff.mpr (List.nodup_cons.mpr ⟨c.2, h⟩)
      obtain ⟨h1, h2⟩ := kept_fold l (insS r a) h'
      refine ⟨h1, fun v => ?_⟩
      rw [h2, mem_insS, List.mem_cons]
      constructor
      · rintro ((rfl | h) | h)
        · exact .inr ⟨c.1, .inl rfl⟩
        · exact .inl h
        · exact .inr ⟨h.1, .inr h.2⟩
      · rintro (h | ⟨h3, rfl | h⟩)
        · exact .inl (.inr h)
        · exact .inl (.inl rfl)
        · exact .inr ⟨h3, h⟩
    · rw [if_neg c]
      obtain ⟨h1, h2⟩ := kept_fold l r h
      refine ⟨h1, fun v => ?_⟩
      rw [h2, List.mem_cons]
      constructor
      · rintro (h | h)
        · exact .inl h
        · exact .inr ⟨h.1, .inr h.2⟩
      · rintro (h | ⟨h3, rfl | h⟩)
        · exact .inl h
        · by_cases hr : v ∈ r
          · exact .inl hr
          · exact absurd ⟨h3, hr⟩ c
        · exact .inr ⟨h3, h⟩
theorem kept_mem {l : List Int} {v : Int} : v ∈ keptS l ↔ v ≠ 0 ∧ v ∈ l := by
  have := (kept_fold l [] List.nodup_nil).2 v
  simpa [keptS] using this
theorem kept_nodup (l : List Int) : (keptS l).Nodup := (kept_fold l [] List.nodup_nil).1
theorem count_nodup : ∀ {l : List Int}, l.Nodup → ∀ v : Int, l.count v = if v ∈ l then 1 else 0
  | [], _, v => by simp
  | a :: l, h, v => by
    have h' := List.nodup_cons.mp h
    rw [List.count_cons, count_nodup h'.2 v]
    by_cases e : a = v
    · subst e
      rw [if_neg h'.1]; simp
    · have e' : (a == v) = false := by simp only [beq_eq_false_iff_ne]; exact e
      rw [e']
      by_cases c : v ∈ l
      · rw [if_pos c, if_pos (List.mem_cons_of_mem _ c)]; rfl
      · rw [if_neg c, if_neg (fun q => (List.mem_cons.mp q).elim (fun q => e q.symm) c)]; rfl
theorem cR_cons (n v : Int) (f : List Int) : cR n (v :: f) = cR n f + if v ≤ n then 1 else 0 := by
  unfold cR
  rw [List.countP_cons]
  by_cases h : v ≤ n
  · have : decide (pR n v) = true := decide_eq_true (by show ¬ n < v; omega)
    rw [this, if_pos h]; rfl
  · have : decide (pR n v) = false := decide_eq_false (by show ¬ ¬ n < v; omega)
    rw [this, if_neg h]; rfl
theorem cR_succ (n : Nat) (f : List Int) : cR ((n + 1 : Nat) : Int) f = cR (n : Int) f + f.count ((n + 1 : Nat) : Int) := by
  induction f with
  | nil => rfl
  | cons v f ih =>
    rw [cR_cons, cR_cons, List.count_cons, ih]
    by_cases h1 : v = ((n + 1 : Nat) : Int)
    · subst h1
      have hb : (((n + 1 : Nat) : Int) == ((n + 1 : Nat) : Int)) = true := by simp
      rw [hb, if_pos (Int.le_refl _), if_neg (by omega)]
      simp only [if_true]; omega
    · have hb : (v == ((n + 1 : Nat) : Int)) = false := by simp only [beq_eq_false_iff_ne]; exact h1
      rw [hb]
      by_cases h2 : v ≤ (n : Int)
      · rw [if_pos h2, if_pos (by omega)]; simp only [Bool.false_eq_true, if_false]; omega
      · rw [if_neg h2, if_neg (by omega)]; simp only [Bool.false_eq_true, if_false]; omega
theorem cR_zero {f : List Int} (h : ∀ v ∈ f, 0 < v) : cR ((0 : Nat) : Int) f = 0 := by
  unfold cR
  rw [List.countP_eq_zero]
  intro v hv
  have := h v hv
  rw [decide_eq_true_eq]
  show ¬ ¬ ((0 : Nat) : Int) < v
  omega
theorem cR_mask {lo : List Int} {m : Nat} (h0 : ∀ v ∈ lo, 0 ≤ v) (hm : ∀ n : Nat, m.testBit n = true ↔ (n : Int) ∈ lo) : ∀ n : Nat, cR (n : Int) (keptS lo) = cntM m n
  | 0 => cR_zero fun v hv => by
      have := kept_mem.mp hv
      have := h0 v this.2
      omega
  | n + 1 => by
    rw [cR_succ, cR_mask h0 hm n, count_nodup (kept_nodup lo)]
    show _ = cntM m n + bN m (n + 1)
    rw [bN_eq]
    have e : (m.testBit (n + 1) = true) ↔ ((n + 1 : Nat) : Int) ∈ keptS lo := by
      rw [hm, kept_mem]
      constructor
      · intro h; exact ⟨by omega, h⟩
      · intro h; exact h.2
    by_cases c : m.testBit (n + 1) = true
    · rw [if_pos c, if_pos (e.mp c)]
    · rw [if_neg c, if_neg (fun q => c (e.mpr q))]
noncomputable def runM (mA mB mC : Nat) : Nat → Nat → Nat → Nat → Nat → Nat → Nat → Bool
  | 0, _, _, _, _, _, _ => true
  | k + 1, n, cA, cB, told, part, whole =>
    if bN mC n = 1 then (Nat.ble (part * n) ((told + 1) * whole)) && runM mA mB mC k (n + 1) (cA + bN mA n) (cB + bN mB n) (told + 1) part whole
    else if ((cA + bN mA n) + (cB + bN mB n)) * whole < part * n then (Nat.ble (((cA + bN mA n) + (cB + bN mB n)) * n) (told * n)) && runM mA mB mC k (n + 1) (cA + bN mA n) (cB + bN mB n) told ((cA + bN mA n) + (cB + bN mB n)) n
    else (Nat.ble (part * n) (told * whole)) && runM mA mB mC k (n + 1) (cA + bN mA n) (cB + bN mB n) told part whole
noncomputable def OkAt (pl f1 f2 f3 : List Int) (q : Nat) : Prop := (cR (1 + (q : Int)) f3 : Int) = (stL pl f1 f2 (q + 1)).1 ∧ ¬ (cR (1 + (q : Int)) f3 : Int) * (stL pl f1 f2 (q + 1)).2.2 < (stL pl f1 f2 (q + 1)).2.1 * (1 + (q : Int))
theorem okAt_of {pl f1 f2 f3 : List Int} {q told part whole : Nat} (e : stL pl f1 f2 (q + 1) = ((told : Int), (part : Int), (whole : Int))) (h3 : cR (1 + (q : Int)) f3 = told) (h : Nat.ble (part * (q + 1)) (told * whole) = true) : OkAt pl f1 f2 f3 q := by
  unfold OkAt
  rw [e, h3]
  refine ⟨rfl, ?_⟩
  have h' := Nat.le_of_ble_eq_true h
  have e2 : (1 + (q : Int)) = ((q + 1 : Nat) : Int) := by omega
  show ¬ (told : Int) * (whole : Int) < (part : Int) * (1 + (q : Int))
  rw [e2, ← Int.natCast_mul, ← Int.natCast_mul]
  omega
theorem run_ok {pl f1 f2 f3 : List Int} {mA mB mC : Nat} (h1 : ∀ n : Nat, cR (n : Int) f1 = cntM mA n) (h2 : ∀ n : Nat, cR (n : Int) f2 = cntM mB n) (h3 : ∀ n : Nat, cR (n : Int) f3 = cntM mC n) (hp : ∀ n : Nat, (pl.any fun x => x == (n : Int)) = true ↔ mC.testBit n = true) :
    ∀ (k i told part whole : Nat), told = cntM mC i → stL pl f1 f2 i = ((told : Int), (part : Int), (whole : Int)) → runM mA mB mC k (i + 1) (cntM mA i) (cntM mB i) told part whole = true → ∀ j < k, OkAt pl f1 f2 f3 (i + j)
  | 0, _, _, _, _, _, _, _, j, hj => absurd hj (Nat.not_lt_zero _)
  | k + 1, i, told, part, whole, ht, hs, hr, j, hj => by
    have e2 : (1 + (i : Int)) = ((i + 1 : Nat) : Int) := by omega
    have eA : cntM mA i + bN mA (i + 1) = cntM mA (i + 1) := rfl
    have eB : cntM mB i + bN mB (i + 1) = cntM mB (i + 1) := rfl
    unfold runM at hr
    rw [eA, eB] at hr
    by_cases c : bN mC (i + 1) = 1
    · rw [if_pos c, Bool.and_eq_true] at hr
      have ct : mC.testBit (i + 1) = true := by
        rw [bN_eq] at c
        by_cases q : mC.testBit (i + 1) = true
        · exact q
        · rw [if_neg q] at c; cases c
      have hs' : stL pl f1 f2 (i + 1) = (((told + 1 : Nat) : Int), (part : Int), (whole : Int)) := by
        rw [stL_succ, hs]
        unfold stepL
        rw [e2, if_pos ((hp (i + 1)).mpr ct)]
        rfl
      have ht' : told + 1 = cntM mC (i + 1) := by show told + 1 = cntM mC i + bN mC (i + 1); rw [c, ht]
      cases j with
      | zero => rw [Nat.add_zero]; exact okAt_of hs' (by rw [e2, h3, ← ht']) hr.1
      | succ j =>
        have := run_ok h1 h2 h3 hp k (i + 1) (told + 1) part whole ht' hs' hr.2 j (by omega)
        rw [show i + (j + 1) = i + 1 + j by omega]; exact this
    · rw [if_neg c] at hr
      have ct : ¬ mC.testBit (i + 1) = true := by
        intro q
        rw [bN_eq, if_pos q] at c; exact c rfl
      have cn : ¬ (pl.any fun x => x == ((i + 1 : Nat) : Int)) = true := fun q => ct ((hp (i + 1)).mp q)
      have c0 : bN mC (i + 1) = 0 := by rw [bN_eq, if_neg ct]
      have ht' : told = cntM mC (i + 1) := by show told = cntM mC i + bN mC (i + 1); rw [c0, ht]; rfl
      by_cases d : (cntM mA (i + 1) + cntM mB (i + 1)) * whole < part * (i + 1)
      · rw [if_pos d, Bool.and_eq_true] at hr
        have hs' : stL pl f1 f2 (i + 1) = ((told : Int), ((cntM mA (i + 1) + cntM mB (i + 1) : Nat) : Int), ((i + 1 : Nat) : Int)) := by
          rw [stL_succ, hs]
          unfold stepL
          rw [e2, if_neg cn, h1, h2, ← Int.natCast_add]
          dsimp only
          rw [← Int.natCast_mul, ← Int.natCast_mul, if_pos (by omega)]
        cases j with
        | zero => rw [Nat.add_zero]; exact okAt_of hs' (by rw [e2, h3, ← ht']) hr.1
        | succ j =>
          have := run_ok h1 h2 h3 hp k (i + 1) told _ (i + 1) ht' hs' hr.2 j (by omega)
          rw [show i + (j + 1) = i + 1 + j by omega]; exact this
      · rw [if_neg d, Bool.and_eq_true] at hr
        have hs' : stL pl f1 f2 (i + 1) = ((told : Int), (part : Int), (whole : Int)) := by
          rw [stL_succ, hs]
          unfold stepL
          rw [e2, if_neg cn, h1, h2, ← Int.natCast_add]
          dsimp only
          rw [← Int.natCast_mul, ← Int.natCast_mul, if_neg (by omega)]
        cases j with
        | zero => rw [Nat.add_zero]; exact okAt_of hs' (by rw [e2, h3, ← ht']) hr.1
        | succ j =>
          have := run_ok h1 h2 h3 hp k (i + 1) told part whole ht' hs' hr.2 j (by omega)
          rw [show i + (j + 1) = i + 1 + j by omega]; exact this
noncomputable def okM (mA mB : Nat) : Bool := runM mA mB (sumM mA mB 9) 19 1 0 0 0 1 1
theorem mask_ok {lo li pl : List Int} {mA mB : Nat} {N : Nat} (hA0 : ∀ v ∈ lo, 0 ≤ v ∧ v ≤ 9) (hB0 : ∀ v ∈ li, 0 ≤ v) (hA : ∀ n : Nat, mA.testBit n = true ↔ (n : Int) ∈ lo) (hB : ∀ n : Nat, mB.testBit n = true ↔ (n : Int) ∈ li)
    (hpl : ∀ v, v ∈ pl ↔ ∃ a ∈ lo, ∃ b ∈ li, v = a + b) (hN : N ≤ 19) (h : okM mA mB = true) : OkAll pl (keptS lo) (keptS li) (keptS pl) N := by
  have hC : ∀ n : Nat, (sumM mA mB 9).testBit n = true ↔ (n : Int) ∈ pl := fun n => by
    rw [test_sum, hpl]
    constructor
    · rintro ⟨a, h0, h1, h2, h3⟩
      exact ⟨a, (hA a).mp h1, ((n - a : Nat) : Int), (hB _).mp h3, by omega⟩
    · rintro ⟨a, ha, b, hb, e⟩
      have a0 := hA0 a ha
      have b0 := hB0 b hb
      obtain ⟨x, rfl⟩ := Int.eq_ofNat_of_zero_le a0.1
      obtain ⟨y, rfl⟩ := Int.eq_ofNat_of_zero_le b0
      refine ⟨x, by omega, (hA x).mpr ha, by omega, ?_⟩
      have : n - x = y := by omega
      rw [this]; exact (hB y).mpr hb
  have hP0 : ∀ v ∈ pl, 0 ≤ v := fun v hv => by
    obtain ⟨a, ha, b, hb, e⟩ := (hpl v).mp hv
    have := hA0 a ha
    have := hB0 b hb
    omega
  have main := run_ok (pl := pl) (cR_mask (fun v hv => (hA0 v hv).1) hA) (cR_mask hB0 hB) (cR_mask hP0 hC) (fun n => by
    rw [hC n, List.any_eq_true]
    constructor
    · rintro ⟨x, hx, e⟩; rw [beq_iff_eq] at e; subst e; exact hx
    · intro hx; exact ⟨_, hx, by simp⟩) 19 0 0 1 1 rfl rfl h
  intro k hk
  have := main k (by omega)
  rw [Nat.zero_add] at this
  exact this

noncomputable def W64 : Nat → (Nat → Int) → Int
  | 0, _ => 0
  | n + 1, f => f 0 + 64 * W64 n (fun k => f (k + 1))
theorem valD_map : ∀ (n : Nat) (f : Nat → Int), valD ((List.range n).map f) = W64 n f
  | 0, _ => rfl
  | n + 1, f => by
    rw [List.range_succ_eq_map, List.map_cons, List.map_map]
    show f 0 + 64 * valD _ = f 0 + 64 * W64 n _
    rw [← valD_map n]
    rfl
theorem W_add : ∀ (n : Nat) (f g : Nat → Int), W64 n (fun k => f k + g k) = W64 n f + W64 n g
  | 0, _, _ => rfl
  | n + 1, f, g => by
    show f 0 + g 0 + 64 * W64 n _ = (f 0 + 64 * W64 n _) + (g 0 + 64 * W64 n _)
    rw [W_add n (fun k => f (k + 1)) (fun k => g (k + 1))]
    omega
theorem W_zero : ∀ (n : Nat), W64 n (fun _ => 0) = 0
  | 0 => rfl
  | n + 1 => by
    show (0 : Int) + 64 * W64 n _ = 0
    rw [W_zero n]; rfl
theorem W_ind : ∀ (n x : Nat), x < n → W64 n (fun k => if k = x then 1 else 0) = 64 ^ x
  | 0, _, h => absurd h (Nat.not_lt_zero _)
  | n + 1, 0, _ => by
    show (if 0 = 0 then (1 : Int) else 0) + 64 * W64 n (fun k => if k + 1 = 0 then 1 else 0) = 64 ^ 0
    have : (fun k => if k + 1 = 0 then (1 : Int) else 0) = fun _ => 0 := by funext k; rw [if_neg (by omega)]
    rw [this, W_zero]; rfl
  | n + 1, x + 1, h => by
    show (if 0 = x + 1 then (1 : Int) else 0) + 64 * W64 n (fun k => if k + 1 = x + 1 then 1 else 0) = 64 ^ (x + 1)
    have : (fun k => if k + 1 = x + 1 then (1 : Int) else 0) = fun k => if k = x then 1 else 0 := by
      funext k
      by_cases e : k = x
      · rw [if_pos e, if_pos (by omega)]
      · rw [if_neg e, if_neg (by omega)]
    rw [this, W_ind n x (by omega), if_neg (by omega), Int.pow_succ]
    omega
noncomputable def S64 (l : List Int) : Int := (l.map fun x => (64 : Int) ^ x.toNat).sum
theorem W_count {n : Nat} : ∀ (l : List Int), (∀ x ∈ l, 0 ≤ x ∧ x < (n : Int)) → W64 n (fun k => (l.count (k : Int) : Int)) = S64 l
  | [], _ => by
    have : (fun k : Nat => (([] : List Int).count (k : Int) : Int)) = fun _ => 0 := by funext k; rfl
    rw [this, W_zero]; rfl
  | x :: l, h => by
    have hx := h x (.head _)
    have e : (fun k : Nat => ((x :: l).count (k : Int) : Int)) = fun k : Nat => ((l.count (k : Int) : Int) + (if k = x.toNat then 1 else 0)) := by
      funext k
      rw [List.count_cons]
      by_cases c : k = x.toNat
      · have : (x == (k : Int)) = true := by rw [beq_iff_eq]; omega
        rw [this, if_pos c]; simp
      · have : (x == (k : Int)) = false := by rw [beq_eq_false_iff_ne]; omega
        rw [this, if_neg c]; simp
    rw [e, W_add, W_count l fun y hy => h y (.tail _ hy), W_ind n x.toNat (by omega)]
    unfold S64
    rw [List.map_cons, List.sum_cons]
    omega
theorem maxS_le {l : List Int} {B : Int} (h0 : 0 ≤ B) (h : ∀ x ∈ l, x ≤ B) : maxS l ≤ B := by
  rcases (foldl_max l 0).2.2 with e | e
  · unfold maxS; omega
  · exact h _ e
theorem le_maxS {l : List Int} {x : Int} (h : x ∈ l) : x ≤ maxS l := (foldl_max l 0).2.1 x h
theorem maxS_nn (l : List Int) : 0 ≤ maxS l := (foldl_max l 0).1
theorem rangeKs_zero (n : Nat) : rangeKs 0 n = (List.range n).map fun i : Nat => (i : Int) := by
  simp [rangeKs]
theorem valD_counts {l : List Int} (h : ∀ x ∈ l, 0 ≤ x) : valD (countsS l) = S64 l := by
  unfold countsS
  rw [rangeKs_zero, List.map_map]
  show valD ((List.range _).map fun k : Nat => (l.count (k : Int) : Int)) = _
  rw [valD_map]
  refine W_count l fun x hx => ⟨h x hx, ?_⟩
  have := le_maxS hx
  have := maxS_nn l
  omega
theorem S_app (a b : List Int) : S64 (a ++ b) = S64 a + S64 b := by
  unfold S64; rw [List.map_append, List.sum_append]
theorem S_shift {a : Int} (ha : 0 ≤ a) : ∀ (l : List Int), (∀ x ∈ l, 0 ≤ x) → S64 (l.map fun b => a + b) = 64 ^ a.toNat * S64 l
  | [], _ => by unfold S64; simp
  | b :: l, h => by
    have hb := h b (.head _)
    have e1 : S64 ((b :: l).map fun b => a + b) = 64 ^ (a + b).toNat + S64 (l.map fun b => a + b) := rfl
    have e2 : S64 (b :: l) = 64 ^ b.toNat + S64 l := rfl
    have e3 : (a + b).toNat = a.toNat + b.toNat := by omega
    rw [e1, e2, S_shift ha l fun x hx => h x (.tail _ hx), e3, Int.pow_add, Int.mul_add]
theorem S_prod {li : List Int} (hi : ∀ x ∈ li, 0 ≤ x) : ∀ (lo : List Int), (∀ x ∈ lo, 0 ≤ x) → S64 (lo.flatMap fun a => li.map fun b => a + b) = S64 lo * S64 li
  | [], _ => by unfold S64; simp
  | a :: lo, h => by
    have e2 : S64 (a :: lo) = 64 ^ a.toNat + S64 lo := rfl
    rw [List.flatMap_cons, S_app, S_prod hi lo fun x hx => h x (.tail _ hx), S_shift (h a (.head _)) li hi, e2, Int.add_mul]
theorem S_pos {l : List Int} (h : 0 < l.length) : 0 < S64 l := by
  have nn : ∀ l : List Int, 0 ≤ S64 l := fun l => by
    induction l with
    | nil => exact Int.le_refl _
    | cons a l ih =>
      have e2 : S64 (a :: l) = 64 ^ a.toNat + S64 l := rfl
      have : (0 : Int) < 64 ^ a.toNat := Int.pow_pos (by decide)
      omega
  cases l with
  | nil => cases h
  | cons a l =>
    have e2 : S64 (a :: l) = 64 ^ a.toNat + S64 l := rfl
    have : (0 : Int) < 64 ^ a.toNat := Int.pow_pos (by decide)
    have := nn l
    omega
theorem digs_val : ∀ (l : List Int), (∀ x ∈ l, 0 ≤ x ∧ x < 64) → digs l.length (valD l).toNat = l
  | [], _ => rfl
  | d :: r, h => by
    have hd := h d (.head _)
    have h' := fun x hx => h x (.tail d hx)
    have hv := (valD_lt r h').1
    have e : valD (d :: r) = d + 64 * valD r := rfl
    obtain ⟨m, hm⟩ := Int.eq_ofNat_of_zero_le hv
    obtain ⟨n, rfl⟩ := Int.eq_ofNat_of_zero_le hd.1
    have e1 : (valD ((n : Int) :: r)).toNat = n + 64 * m := by rw [e, hm]; omega
    rw [e1, List.length_cons]
    show (((n + 64 * m) % 64 : Nat) : Int) :: digs r.length ((n + 64 * m) / 64) = _
    have e2 : (n + 64 * m) % 64 = n := by omega
    have e3 : (n + 64 * m) / 64 = m := by omega
    have e4 : m = (valD r).toNat := by rw [hm]; rfl
    rw [e2, e3, e4, digs_val r h']
theorem digs_bits {l : List Int} {z : Int} (h : ∀ x ∈ l ++ [z], 0 ≤ x ∧ x < 64) (hz : 0 < z) : (((Builtin.Int.intBits (valD (l ++ [z])) : Int) + 6 - 1).fdiv 6).toNat = (l ++ [z]).length := by
  have h1 := valD_bits h
  have h2 : ¬ Builtin.Int.intBits (valD (l ++ [z])) ≤ 6 * l.length := by
    rw [intBits_le_iff, valD_app]
    have hl := (valD_lt l fun x hx => h x (List.mem_append_left _ hx)).1
    have e : (2 : Nat) ^ (6 * l.length) = 64 ^ l.length := by rw [Nat.pow_mul]
    have ez : valD [z] = z := by show z + 64 * 0 = z; omega
    have e2 : ((64 : Int) ^ l.length) = ((64 ^ l.length : Nat) : Int) := by simp
    have hp : (64 : Int) ^ l.length ≤ 64 ^ l.length * z := by
      have : (0 : Int) < 64 ^ l.length := Int.pow_pos (by decide)
      calc (64 : Int) ^ l.length = 64 ^ l.length * 1 := by omega
        _ ≤ 64 ^ l.length * z := Int.mul_le_mul_of_nonneg_left (by omega) (by omega)
    rw [ez, e]
    rw [e2] at hp
    rw [e2]
    omega
  have hl : (l ++ [z]).length = l.length + 1 := by simp
  rw [hl] at h1 ⊢
  rw [Int.fdiv_eq_ediv_of_nonneg _ (by decide)]
  omega
theorem counts_last {l : List Int} (h0 : ∀ x ∈ l, 0 ≤ x) (hp : 0 < l.length) : ∃ i z, countsS l = i ++ [z] ∧ 0 < z := by
  have hm := maxS_nn l
  have hmem : maxS l ∈ l := by
    rcases (foldl_max l 0).2.2 with e | e
    · cases l with
      | nil => cases hp
      | cons a l =>
        have h1 := le_maxS (l := a :: l) (.head _)
        have h2 := h0 a (.head _)
        have e' : maxS (a :: l) = 0 := e
        have : a = maxS (a :: l) := by omega
        rw [← this]; exact .head _
    · exact e
  obtain ⟨M, hM⟩ := Int.eq_ofNat_of_zero_le hm
  refine ⟨(rangeKs 0 M).map fun k => (l.count k : Int), (l.count (maxS l) : Int), ?_, ?_⟩
  · unfold countsS
    have e : (maxS l + 1).toNat = M + 1 := by omega
    rw [e, range_succ, List.map_append, List.map_cons, List.map_nil, Int.zero_add, hM]
  · have := List.count_pos_iff.mpr hmem
    omega
theorem counts_bound {l : List Int} (hl : l.length < 64) : ∀ x ∈ countsS l, 0 ≤ x ∧ x < 64 := by
  intro x hx
  unfold countsS at hx
  obtain ⟨k, _, rfl⟩ := List.mem_map.mp hx
  have := List.count_le_length (a := k) (l := l)
  omega
theorem counts_len {l : List Int} : (countsS l).length = (maxS l + 1).toNat := by
  unfold countsS; rw [List.length_map, rangeKs_length]
structure DigLaw (lo li pl : List Int) : Prop where
  fg : digs (((Builtin.Int.intBits (valD (countsS lo) * valD (countsS li)) : Int) + 6 - 1).fdiv 6).toNat (valD (countsS lo) * valD (countsS li)).toNat = countsS pl
  j0 : 0 < valD (countsS lo) * valD (countsS li)
  j1 : valD (countsS lo) * valD (countsS li) < 64 ^ 50
  jm : IntMulOk (valD (countsS lo)) (valD (countsS li))
theorem digLaw {lo li : List Int} (hlo : ∀ x ∈ lo, 0 ≤ x ∧ x ≤ 9) (hli : ∀ x ∈ li, 0 ≤ x ∧ x ≤ 9) (po : lo.length = 5) (pi : li.length = 5) : DigLaw lo li (lo.flatMap fun a => li.map fun b => a + b) := by
  have hpl : ∀ x ∈ (lo.flatMap fun a => li.map fun b => a + b), 0 ≤ x ∧ x ≤ 18 := by
    intro x hx
    obtain ⟨a, ha, hx⟩ := List.mem_flatMap.mp hx
    obtain ⟨b, hb, rfl⟩ := List.mem_map.mp hx
    have := hlo a ha
    have := hli b hb
    omega
  have hlen : (lo.flatMap fun a => li.map fun b => a + b).length = 25 := by
    rw [List.length_flatMap]
    have : (lo.map fun a => (li.map fun b => a + b).length) = List.replicate 5 5 := by
      rw [List.eq_replicate_iff]
      refine ⟨by rw [List.length_map, po], fun b hb => ?_⟩
      obtain ⟨a, _, rfl⟩ := List.mem_map.mp hb
      rw [List.length_map, pi]
    rw [this]; rfl
  generalize hp : (lo.flatMap fun a => li.map fun b => a + b) = pl at *
  have e : valD (countsS lo) * valD (countsS li) = valD (countsS pl) := by
    rw [valD_counts fun x hx => (hlo x hx).1, valD_counts fun x hx => (hli x hx).1, valD_counts fun x hx => (hpl x hx).1, ← hp, S_prod (fun x hx => (hli x hx).1) lo fun x hx => (hlo x hx).1]
  have bl := counts_bound (l := pl) (by omega)
  obtain ⟨i, z, hc, hz⟩ := counts_last (l := pl) (fun x hx => (hpl x hx).1) (by omega)
  have hmax : maxS pl ≤ 18 := maxS_le (by decide) fun x hx => (hpl x hx).2
  refine ⟨?_, ?_, ?_, ?_⟩
  · rw [e]
    have h1 := digs_val _ bl
    have h2 := digs_bits (l := i) (z := z) (hc ▸ bl) hz
    rw [hc] at h1 ⊢
    rw [h2]; exact h1
  · rw [e, valD_counts fun x hx => (hpl x hx).1]
    exact S_pos (by omega)
  · rw [e]
    have h1 := (valD_lt _ bl).2
    have h2 : (countsS pl).length ≤ 50 := by rw [counts_len]; omega
    have h3 : (64 : Nat) ^ (countsS pl).length ≤ 64 ^ 50 := Nat.pow_le_pow_right (by decide) h2
    have e2 : ∀ k : Nat, ((64 : Int) ^ k) = ((64 ^ k : Nat) : Int) := fun k => by simp
    rw [e2] at h1 ⊢
    omega
  · have b1 := valD_bits (counts_bound (l := lo) (by omega))
    have b2 := valD_bits (counts_bound (l := li) (by omega))
    have m1 : maxS lo ≤ 9 := maxS_le (by decide) fun x hx => (hlo x hx).2
    have m2 : maxS li ≤ 9 := maxS_le (by decide) fun x hx => (hli x hx).2
    rw [counts_len] at b1 b2
    exact IntMulOk.of_le (m := 300) (n := 300) (by omega) (by omega) (by decide)

noncomputable def mAs : List Nat := [3, 7, 11, 15, 19, 23, 27, 31, 35, 39, 43, 47, 51, 55, 59, 259, 263, 267, 271, 275, 279, 283, 291, 295, 299, 307, 515, 519, 523, 527, 531, 535, 539, 547, 551, 555, 563, 771, 775, 779, 787, 803]
noncomputable def mBs : List Nat := [3, 5, 7, 9, 11, 13, 15, 17, 19, 21, 23, 25, 27, 29, 31, 33, 35, 37, 39, 41, 43, 45, 47, 49, 51, 53, 55, 57, 59, 61, 257, 259, 261, 263, 265, 267, 269, 271, 273, 275, 277, 279, 281, 283, 285, 289, 291, 293, 295, 297, 299, 301, 305, 307, 309, 313, 513, 515, 517, 519, 521, 523, 525, 527, 529, 531, 533, 535, 537, 539, 541, 545, 547, 549, 551, 553, 555, 557, 561, 563, 565, 569, 769, 771, 773, 775, 777, 779, 781, 785, 787, 789, 793, 801, 803, 805, 809, 817]
noncomputable def bR (m n : Nat) : Nat := Nat.mod (Nat.shiftRight m n) 2
noncomputable def runR (mA mB mC : Nat) : Nat → Nat → Nat → Nat → Nat → Nat → Nat → Bool
  | 0, _, _, _, _, _, _ => true
  | Nat.succ k, n, cA, cB, told, part, whole =>
    cond (Nat.beq (bR mC n) 1) (cond (Nat.ble (Nat.mul part n) (Nat.mul (Nat.succ told) whole)) (runR mA mB mC k (Nat.succ n) (Nat.add cA (bR mA n)) (Nat.add cB (bR mB n)) (Nat.succ told) part whole) false)
    (cond (Nat.ble (Nat.mul part n) (Nat.mul (Nat.add (Nat.add cA (bR mA n)) (Nat.add cB (bR mB n))) whole))
      (cond (Nat.ble (Nat.mul part n) (Nat.mul told whole)) (runR mA mB mC k (Nat.succ n) (Nat.add cA (bR mA n)) (Nat.add cB (bR mB n)) told part whole) false)
      (cond (Nat.ble (Nat.mul (Nat.add (Nat.add cA (bR mA n)) (Nat.add cB (bR mB n))) n) (Nat.mul told n)) (runR mA mB mC k (Nat.succ n) (Nat.add cA (bR mA n)) (Nat.add cB (bR mB n)) told (Nat.add (Nat.add cA (bR mA n)) (Nat.add cB (bR mB n))) n) false))
noncomputable def sumR (mA mB : Nat) : Nat → Nat
  | 0 => Nat.mul (bR mA 0) mB
  | Nat.succ k => Nat.lor (Nat.mul (bR mA (Nat.succ k)) (Nat.shiftLeft mB (Nat.succ k))) (sumR mA mB k)
noncomputable def okR (mA mB : Nat) : Bool := runR mA mB (sumR mA mB 9) 19 1 0 0 0 1 1
theorem bR_eq (m n : Nat) : bR m n = bN m n := rfl
theorem sumR_eq (mA mB : Nat) : ∀ k, sumR mA mB k = sumM mA mB k
  | 0 => rfl
  | k + 1 => by
    show Nat.lor _ (sumR mA mB k) = _
    rw [sumR_eq mA mB k]; rfl
theorem cond_of {a b : Bool} (h : cond a b false = true) : a = true ∧ b = true := by
  cases a
  · cases h
  · exact ⟨rfl, h⟩
theorem runR_run (mA mB mC : Nat) : ∀ (k n cA cB told part whole : Nat), runR mA mB mC k n cA cB told part whole = true → runM mA mB mC k n cA cB told part whole = true
  | 0, _, _, _, _, _, _, _ => rfl
  | k + 1, n, cA, cB, told, part, whole, h => by
    unfold runR at h
    unfold runM
    by_cases c : bN mC n = 1
    · have e : Nat.beq (bR mC n) 1 = true := by rw [bR_eq, c]; rfl
      rw [e] at h
      obtain ⟨h1, h2⟩ := cond_of h
      rw [if_pos c, Bool.and_eq_true]
      exact ⟨h1, runR_run mA mB mC k _ _ _ _ _ _ h2⟩
    · have e : Nat.beq (bR mC n) 1 = false := by
        cases q : Nat.beq (bR mC n) 1
        · rfl
        · exact absurd (Nat.eq_of_beq_eq_true q) c
      rw [e] at h
      rw [if_neg c]
      by_cases d : (cA + bN mA n + (cB + bN mB n)) * whole < part * n
      · have e2 : Nat.ble (Nat.mul part n) (Nat.mul (Nat.add (Nat.add cA (bR mA n)) (Nat.add cB (bR mB n))) whole) = false := by
          cases q : Nat.ble (Nat.mul part n) (Nat.mul (Nat.add (Nat.add cA (bR mA n)) (Nat.add cB (bR mB n))) whole)
          · rfl
          · exact absurd (Nat.le_of_ble_eq_true q) (Nat.not_le_of_lt d)
        have h' := h
        rw [cond_false, e2, cond_false] at h'
        obtain ⟨h1, h2⟩ := cond_of h'
        rw [if_pos d, Bool.and_eq_true]
        exact ⟨h1, runR_run mA mB mC k _ _ _ _ _ _ h2⟩
      · have e2 : Nat.ble (Nat.mul part n) (Nat.mul (Nat.add (Nat.add cA (bR mA n)) (Nat.add cB (bR mB n))) whole) = true := Nat.ble_eq_true_of_le (Nat.not_lt.mp d)
        have h' := h
        rw [cond_false, e2, cond_true] at h'
        obtain ⟨h1, h2⟩ := cond_of h'
        rw [if_neg d, Bool.and_eq_true]
        exact ⟨h1, runR_run mA mB mC k _ _ _ _ _ _ h2⟩
theorem okR_ok {mA mB : Nat} (h : okR mA mB = true) : okM mA mB = true := by
  unfold okR at h
  rw [sumR_eq] at h
  exact runR_run _ _ _ _ _ _ _ _ _ _ h
set_option maxHeartbeats 0 in
theorem okR_a : (([3, 7, 11, 15, 19, 23, 27] : List Nat).all fun a => mBs.all fun b => okR a b) = true := by decide +kernel
set_option maxHeartbeats 0 in
theorem okR_b : (([31, 35, 39, 43, 47, 51, 55] : List Nat).all fun a => mBs.all fun b => okR a b) = true := by decide +kernel
set_option maxHeartbeats 0 in
theorem okR_c : (([59, 259, 263, 267, 271, 275, 279] : List Nat).all fun a => mBs.all fun b => okR a b) = true := by decide +kernel
set_option maxHeartbeats 0 in
theorem okR_d : (([283, 291, 295, 299, 307, 515, 519] : List Nat).all fun a => mBs.all fun b => okR a b) = true := by decide +kernel
set_option maxHeartbeats 0 in
theorem okR_e : (([523, 527, 531, 535, 539, 547, 551] : List Nat).all fun a => mBs.all fun b => okR a b) = true := by decide +kernel
set_option maxHeartbeats 0 in
theorem okR_f : (([555, 563, 771, 775, 779, 787, 803] : List Nat).all fun a => mBs.all fun b => okR a b) = true := by decide +kernel
theorem okM_all : (mAs.all fun a => mBs.all fun b => okM a b) = true := by
  have e : mAs = ([3, 7, 11, 15, 19, 23, 27] : List Nat) ++ ([31, 35, 39, 43, 47, 51, 55] : List Nat) ++ ([59, 259, 263, 267, 271, 275, 279] : List Nat) ++ ([283, 291, 295, 299, 307, 515, 519] : List Nat) ++ ([523, 527, 531, 535, 539, 547, 551] : List Nat) ++ ([555, 563, 771, 775, 779, 787, 803] : List Nat) := rfl
  have h : (mAs.all fun a => mBs.all fun b => okR a b) = true := by
    rw [e]
    simp only [List.all_append, Bool.and_eq_true]
    exact ⟨⟨⟨⟨⟨okR_a, okR_b⟩, okR_c⟩, okR_d⟩, okR_e⟩, okR_f⟩
  rw [List.all_eq_true] at h ⊢
  intro a ha
  have h2 := h a ha
  rw [List.all_eq_true] at h2 ⊢
  exact fun b hb => okR_ok (h2 b hb)
noncomputable def L7 : List Nat := [1, 2, 3, 4, 5, 8, 9]
noncomputable def memR (m : Nat) : List Nat → Bool
  | [] => false
  | x :: l => cond (Nat.beq m x) true (memR m l)
theorem memR_mem {m : Nat} : ∀ {l : List Nat}, memR m l = true → m ∈ l
  | [], h => by cases h
  | x :: l, h => by
    unfold memR at h
    cases c : Nat.beq m x
    · rw [c] at h; exact List.mem_cons_of_mem _ (memR_mem h)
    · rw [Nat.eq_of_beq_eq_true c]; exact List.mem_cons_self
noncomputable def sL (x m : Nat) : Nat := Nat.lor (Nat.shiftLeft 1 x) m
set_option maxHeartbeats 0 in
theorem maskA_raw : (L7.all fun a => L7.all fun b => L7.all fun c => memR (sL 0 (sL 1 (sL a (sL b (sL c 0))))) mAs) = true := by decide +kernel
theorem maskB_d1 : (L7.all fun c => L7.all fun b => L7.all fun a => memR (sL 0 (sL a (sL b (sL c (sL 1 0))))) mBs) = true := by decide +kernel
theorem maskB_d2 : (L7.all fun c => L7.all fun b => L7.all fun a => memR (sL 0 (sL a (sL b (sL c (sL 2 0))))) mBs) = true := by decide +kernel
theorem maskB_d3 : (L7.all fun c => L7.all fun b => L7.all fun a => memR (sL 0 (sL a (sL b (sL c (sL 3 0))))) mBs) = true := by decide +kernel
theorem maskB_d4 : (L7.all fun c => L7.all fun b => L7.all fun a => memR (sL 0 (sL a (sL b (sL c (sL 4 0))))) mBs) = true := by decide +kernel
theorem maskB_d5 : (L7.all fun c => L7.all fun b => L7.all fun a => memR (sL 0 (sL a (sL b (sL c (sL 5 0))))) mBs) = true := by decide +kernel
theorem maskB_d8 : (L7.all fun c => L7.all fun b => L7.all fun a => memR (sL 0 (sL a (sL b (sL c (sL 8 0))))) mBs) = true := by decide +kernel
theorem maskB_d9 : (L7.all fun c => L7.all fun b => L7.all fun a => memR (sL 0 (sL a (sL b (sL c (sL 9 0))))) mBs) = true := by decide +kernel
theorem maskB_raw : (L7.all fun d => L7.all fun c => L7.all fun b => L7.all fun a => memR (sL 0 (sL a (sL b (sL c (sL d 0))))) mBs) = true := by
  rw [List.all_eq_true]
  intro d hd
  have hd' : d = 1 ∨ d = 2 ∨ d = 3 ∨ d = 4 ∨ d = 5 ∨ d = 8 ∨ d = 9 := by simpa [L7] using hd
  rcases hd' with rfl | rfl | rfl | rfl | rfl | rfl | rfl
  · exact maskB_d1
  · exact maskB_d2
  · exact maskB_d3
  · exact maskB_d4
  · exact maskB_d5
  · exact maskB_d8
  · exact maskB_d9
theorem maskA_in {a b c : Nat} (ha : a ∈ L7) (hb : b ∈ L7) (hc : c ∈ L7) : maskOf [0, 1, a, b, c] ∈ mAs := by
  have h := List.all_eq_true.mp (List.all_eq_true.mp (List.all_eq_true.mp maskA_raw a ha) b hb) c hc
  exact memR_mem h
theorem maskB_in {a b c d : Nat} (ha : a ∈ L7) (hb : b ∈ L7) (hc : c ∈ L7) (hd : d ∈ L7) : maskOf [0, a, b, c, d] ∈ mBs := by
  have h := List.all_eq_true.mp (List.all_eq_true.mp (List.all_eq_true.mp (List.all_eq_true.mp maskB_raw d hd) c hc) b hb) a ha
  exact memR_mem h
noncomputable def lvl (size : Int) (x : Str) : Int := (walkZ size (KStt.codes x)).fdiv size
set_option maxHeartbeats 0 in
theorem lvl_all : (([1, 2, 3] : List Int).all fun size => (lvl size (Str.ofString "") == 0) && (lvl size (Str.ofString "\t") == 1) && leadsL.all fun x => L7.any fun n => lvl size x == (n : Int)) = true := by decide +kernel

theorem lead_mem (x : Int) : leadS x ∈ leadsL := by
  have h : ∀ i < 12, leadW i ∈ leadsL := by
    intro i hi
    have : leadsL = (List.range 12).map leadW := rfl
    rw [this]
    exact List.mem_map_of_mem (List.mem_range.mpr hi)
  exact h _ (mod12 x)
theorem size3 {size : Int} (h1 : 1 ≤ size) (h3 : size ≤ 3) : size = 1 ∨ size = 2 ∨ size = 3 := by omega
theorem lvl_facts {size : Int} (h1 : 1 ≤ size) (h3 : size ≤ 3) : lvl size (Str.ofString "") = 0 ∧ lvl size (Str.ofString "\t") = 1 ∧ ∀ x ∈ leadsL, ∃ n ∈ L7, lvl size x = (n : Int) := by
  have h := List.all_eq_true.mp lvl_all size (by rcases size3 h1 h3 with rfl | rfl | rfl <;> simp)
  simp only [Bool.and_eq_true, beq_iff_eq, List.all_eq_true, List.any_eq_true] at h
  exact ⟨h.1.1, h.1.2, h.2⟩
theorem col_facts {size : Int} (h1 : 1 ≤ size) (h3 : size ≤ 3) {x y : Str} (hx : x ∈ Str.ofString "" :: Str.ofString "\t" :: leadsL) (hy : y ∈ Str.ofString "" :: leadsL) : ColOk size x y := by
  have h := col_all x hx y hy
  rcases size3 h1 h3 with rfl | rfl | rfl
  · exact colOkB_sound h.1
  · exact colOkB_sound h.2.1
  · exact colOkB_sound h.2.2
theorem L7_le : ∀ n ∈ L7, n ≤ 9 := by decide
theorem pl_eq {size : Int} (h1 : 1 ≤ size) (h3 : size ≤ 3) (xh xb : List Str) : (xh.flatMap fun x => xb.map (colS size x)).map (fun k' => k'.fdiv size) = (outS size xh).flatMap fun a => (outS size xb).map fun b => a + b := by
  rw [cols_eq, List.map_flatMap]
  congr 1
  funext a
  rw [List.map_map]
  congr 1
  funext b
  show (size * (a + b)).fdiv size = a + b
  rw [Int.mul_comm, Int.mul_fdiv_cancel _ (by omega)]
theorem mem_cast {l : List Nat} {n : Nat} : (n : Int) ∈ l.map (fun k : Nat => (k : Int)) ↔ n ∈ l := by
  constructor
  · intro h
    obtain ⟨k, hk, e⟩ := List.mem_map.mp h
    have : k = n := by omega
    subst this; exact hk
  · intro h; exact List.mem_map_of_mem h
structure LawFacts (size : Int) (xh xb : List Str) : Prop where
  col : ∀ x ∈ xh, ∀ y ∈ xb, ColOk size x y
  lo : ∀ x ∈ outS size xh, 0 ≤ x ∧ x ≤ 9
  li : ∀ x ∈ outS size xb, 0 ≤ x ∧ x ≤ 9
  lol : (outS size xh).length = 5
  lil : (outS size xb).length = 5
  ok : OkAll ((outS size xh).flatMap fun a => (outS size xb).map fun b => a + b) (keptS (outS size xh)) (keptS (outS size xb)) (keptS ((outS size xh).flatMap fun a => (outS size xb).map fun b => a + b)) (countsS ((outS size xh).flatMap fun a => (outS size xb).map fun b => a + b)).length
theorem pl_mem {lo li : List Int} (v : Int) : v ∈ (lo.flatMap fun a => li.map fun b => a + b) ↔ ∃ a ∈ lo, ∃ b ∈ li, v = a + b := by
  rw [List.mem_flatMap]
  constructor
  · rintro ⟨a, ha, h⟩
    obtain ⟨b, hb, rfl⟩ := List.mem_map.mp h
    exact ⟨a, ha, b, hb, rfl⟩
  · rintro ⟨a, ha, b, hb, rfl⟩
    exact ⟨a, ha, List.mem_map_of_mem hb⟩
theorem law_facts {size : Int} (h1 : 1 ≤ size) (h3 : size ≤ 3) {x0 x1 x2 x3 x4 x5 x6 : Str} (m0 : x0 ∈ leadsL) (m1 : x1 ∈ leadsL) (m2 : x2 ∈ leadsL) (m3 : x3 ∈ leadsL) (m4 : x4 ∈ leadsL) (m5 : x5 ∈ leadsL) (m6 : x6 ∈ leadsL) :
    LawFacts size [Str.ofString "", Str.ofString "\t", x0, x2, x4] [Str.ofString "", x1, x3, x5, x6] := by
  obtain ⟨z0, z1, zl⟩ := lvl_facts h1 h3
  obtain ⟨a, ha, ea⟩ := zl x0 m0
  obtain ⟨b, hb, eb⟩ := zl x2 m2
  obtain ⟨c, hc, ec⟩ := zl x4 m4
  obtain ⟨d, hd, ed⟩ := zl x1 m1
  obtain ⟨e, he, ee⟩ := zl x3 m3
  obtain ⟨f, hf, ef⟩ := zl x5 m5
  obtain ⟨g, hg, eg⟩ := zl x6 m6
  have elo : outS size [Str.ofString "", Str.ofString "\t", x0, x2, x4] = [0, 1, a, b, c].map (fun k : Nat => (k : Int)) := by
    show [lvl size (Str.ofString ""), lvl size (Str.ofString "\t"), lvl size x0, lvl size x2, lvl size x4] = _
    rw [z0, z1, ea, eb, ec]; rfl
  have eli : outS size [Str.ofString "", x1, x3, x5, x6] = [0, d, e, f, g].map (fun k : Nat => (k : Int)) := by
    show [lvl size (Str.ofString ""), lvl size x1, lvl size x3, lvl size x5, lvl size x6] = _
    rw [z0, ed, ee, ef, eg]; rfl
  have la := L7_le a ha
  have lb := L7_le b hb
  have lc := L7_le c hc
  have ld := L7_le d hd
  have le := L7_le e he
  have lf := L7_le f hf
  have lg := L7_le g hg
  have blo : ∀ x ∈ outS size [Str.ofString "", Str.ofString "\t", x0, x2, x4], 0 ≤ x ∧ x ≤ 9 := by
    rw [elo]; intro x hx
    simp only [List.map_cons, List.map_nil, List.mem_cons, List.not_mem_nil, or_false] at hx
    omega
  have bli : ∀ x ∈ outS size [Str.ofString "", x1, x3, x5, x6], 0 ≤ x ∧ x ≤ 9 := by
    rw [eli]; intro x hx
    simp only [List.map_cons, List.map_nil, List.mem_cons, List.not_mem_nil, or_false] at hx
    omega
  refine ⟨?_, blo, bli, rfl, rfl, ?_⟩
  · intro x hx y hy
    refine col_facts h1 h3 ?_ ?_
    · simp only [List.mem_cons, List.not_mem_nil, or_false] at hx ⊢
      rcases hx with rfl | rfl | rfl | rfl | rfl
      · exact .inl rfl
      · exact .inr (.inl rfl)
      · exact .inr (.inr m0)
      · exact .inr (.inr m2)
      · exact .inr (.inr m4)
    · simp only [List.mem_cons, List.not_mem_nil, or_false] at hy ⊢
      rcases hy with rfl | rfl | rfl | rfl | rfl
      · exact .inl rfl
      · exact .inr m1
      · exact .inr m3
      · exact .inr m5
      · exact .inr m6
  · have ok := List.all_eq_true.mp (List.all_eq_true.mp okM_all _ (maskA_in ha hb hc)) _ (maskB_in hd he hf hg)
    refine mask_ok blo (fun v hv => (bli v hv).1) (fun n => ?_) (fun n => ?_) pl_mem ?_ ok
    · rw [test_mask, elo, mem_cast]
    · rw [test_mask, eli, mem_cast]
    · rw [counts_len]
      have : maxS ((outS size [Str.ofString "", Str.ofString "\t", x0, x2, x4]).flatMap fun a => (outS size [Str.ofString "", x1, x3, x5, x6]).map fun b => a + b) ≤ 18 := maxS_le (by decide) fun v hv => by
        obtain ⟨p, hp, q, hq, rfl⟩ := (pl_mem v).mp hv
        have := blo p hp
        have := bli q hq
        omega
      omega

theorem cut {α : Type} (l : List α) (k j : Nat) : l.drop k = (l.drop k).take j ++ l.drop (k + j) := by
  rw [← List.drop_drop, List.take_append_drop]
theorem nums_len (ns : List Int) : (numsS ns).length = 7 := by
  unfold numsS
  rw [List.length_map, List.length_take, List.length_append, List.length_drop]
  show min 7 (ns.length + (7 - ns.length)) = 7
  omega
theorem nums_nn (ns : List Int) : ∀ x ∈ numsS ns, 0 ≤ x := by
  intro x hx
  obtain ⟨k, _, rfl⟩ := List.mem_map.mp hx
  rw [Int.fmod_eq_emod_of_nonneg _ (by decide)]
  exact Int.emod_nonneg _ (by decide)
theorem size_b (z : Int) : 1 ≤ 1 + z.fmod 3 ∧ 1 + z.fmod 3 ≤ 3 := by
  rw [Int.fmod_eq_emod_of_nonneg _ (by decide)]
  omega
theorem seven {l : List Int} (h : l.length = 7) : ∃ a b c d e f g, l = [a, b, c, d, e, f, g] := by
  match l, h with
  | [a, b, c, d, e, f, g], _ => exact ⟨a, b, c, d, e, f, g, rfl⟩
theorem kept_sorted (l : List Int) : (keptS l).Pairwise (· ≤ ·) := (kept_facts l.length l rfl).1
theorem kept_len (l : List Int) : (keptS l).length ≤ l.length := (kept_facts l.length l rfl).2
theorem law_walk (w : World) {mean : ExcName → Option Value} {mg mb : Str → Option Value} {dp un : Nat} {gd : Option (List Code)} {outer : List Env} {A₀ : Around} {base g : Heap} {L' l : Addr} {m : Str → Option Value} {s : Shared} {Q : Flow → Shared → Prop} {E0 : Value → Shared → Prop} {o1 o2 o3 : Obj} {vs : List Value} {ns : List Int}
    (B : Below A₀ base outer g) (X : (KT w.params).In g) (T : Top q0 (looseW q0 lo0) mean mg mb g) (hd : dp + 80 < recursionLimit) (hu : un + 900 < cLine) (hL : @LT.lt Nat _ 96 L') (hms : m (Str.ofString "script") = some (.ref l))
    (F : Fr g L' s.heap m) (N : News g L' s.heap ((L' + 1 + 1 + 1, o3) :: (L' + 1 + 1, o2) :: (L' + 1, o1) :: (96, tabObj #[]) :: (89, tabObj #[]) :: [])) (hS : g.IsList l vs.toArray) (hi : IntsAre vs ns) (hlen : ns.length < 64) (d1 : ∃ v, o1.data = .cell v) (d2 : ∃ v, o2.data = .cell v) (d3 : ∃ v, o3.data = .cell v)
    (hret : ∀ h' (tk' : Nat) m' ps ps2, Fr g L' h' m' → News g L' h' ((96, tabObj ps) :: (89, tabObj ps2) :: []) → Q (.ret (.bool true)) { s with heap := h', toks := tk' }) :
    wpAny (model P0 w) (lawA dp un gd outer L') (execs ((dBody (stm 21)).drop 0) (envL L')) Q (fun e s' => wpAny (model P0 w) (lawA dp un gd outer L') (leaving (envL L') e) (fun _ s'' => E0 e s'') (fun e' s'' => E0 e' s'') s') s := by
  have hd2 : dp + 12 < recursionLimit := by omega
  have hu2 : un + 200 < cLine := by omega
  rw [cut (dBody (stm 21)) 0 3]
  refine p1 w B X T hd2 hu2 hL hms F N hS hi hlen d1 ?_
  intro q h1 tk1 m1 ys o1' tz iy dd1 mn F1 N1 ne1
  obtain ⟨hs1, hs3⟩ := size_b (numsS ns).sum
  generalize hsz : 1 + (numsS ns).sum.fmod 3 = size at *
  rw [cut (dBody (stm 21)) (0 + 3) 2]
  refine p2 w B X T hd2 hu2 hL (fr_name F1 mn) N1 iy (nums_len ns) (nums_nn ns) ne1 ?_ (fun _ _ => trivial)
  intro q2 ws nn2 h2 tk2 m2 sw ml F2 N2 lt2
  obtain ⟨y0, y1, y2, y3, y4, y5, y6, e7⟩ := seven (nums_len ns)
  rw [e7] at sw
  have LF := law_facts hs1 hs3 (lead_mem y0) (lead_mem y1) (lead_mem y2) (lead_mem y3) (lead_mem y4) (lead_mem y5) (lead_mem y6)
  have DL := digLaw LF.lo LF.li LF.lol LF.lil
  have sw' : StrsAre ws [leadS y0, leadS y1, leadS y2, leadS y3, leadS y4, leadS y5, leadS y6] := sw
  generalize leadS y0 = x0 at *
  generalize leadS y1 = x1 at *
  generalize leadS y2 = x2 at *
  generalize leadS y3 = x3 at *
  generalize leadS y4 = x4 at *
  generalize leadS y5 = x5 at *
  generalize leadS y6 = x6 at *
  clear sw e7
  rw [cut (dBody (stm 21)) (0 + 3 + 2) 3]
  refine p3a w B X T hd2 hu2 hL (fr_name F2 ml) N2 sw' hs1 hs3 dd1 d2 d3 lt2 ?_
  intro qo qh qb h3 tk3 m3 o2' vo vh vb no nh nb io ih ib mo mh db F3 N3 l3
  rw [cut (dBody (stm 21)) (0 + 3 + 2 + 3) 1]
  refine p3b w B X T hd2 hu2 hL F3 N3 ib hs1 hs3 dd1 db d3 l3 ?_
  intro qi h4 o3' vi ni tk4 ii dO F4 N4 l4
  rw [cut (dBody (stm 21)) (0 + 3 + 2 + 3 + 1) 1]
  refine p4a (qi := qi) (qo := qo) (qb := qb) (qh := qh) w B X T hd2 hu2 hL mh F4 (cb_drop N4 (by kcj_all)) ib ih rfl rfl hs1 hs3 dd1 db LF.col ?_
  intro qc h5 vc nc tk5 m5 ic mc mo5 F5 N5 l5
  have hmo5 : m5 (Str.ofString "outer") = some (.ref qo) := (mo5 _ (by decide)).trans mo
  rw [cut (dBody (stm 21)) (0 + 3 + 2 + 3 + 1 + 1) 1]
  refine p4b w B X T hd2 hu2 hL hmo5 mc F5 N5 io ii ic rfl rfl hs1 hs3 dd1 dO ?_
  intro h6 tk6 F6 N6
  have epl := pl_eq hs1 hs3 [Str.ofString "", Str.ofString "\t", x0, x2, x4] [Str.ofString "", x1, x3, x5, x6]
  have llo := LF.lol
  have lli := LF.lil
  have lpl : ((outS size [Str.ofString "", Str.ofString "\t", x0, x2, x4]).flatMap fun a => (outS size [Str.ofString "", x1, x3, x5, x6]).map fun b => a + b).length = 25 := rfl
  have bpl : ∀ x ∈ ((outS size [Str.ofString "", Str.ofString "\t", x0, x2, x4]).flatMap fun a => (outS size [Str.ofString "", x1, x3, x5, x6]).map fun b => a + b), 0 ≤ x ∧ x ≤ 18 := fun v hv => by
    obtain ⟨p, hp, q, hq, rfl⟩ := (pl_mem v).mp hv
    have := LF.lo p hp
    have := LF.li q hq
    omega
  have mlo := maxS_le (l := outS size [Str.ofString "", Str.ofString "\t", x0, x2, x4]) (B := 9) (by decide) fun x hx => (LF.lo x hx).2
  have mli := maxS_le (l := outS size [Str.ofString "", x1, x3, x5, x6]) (B := 9) (by decide) fun x hx => (LF.li x hx).2
  have mpl := maxS_le (B := 18) (by decide) fun x hx => (bpl x hx).2
  have nlo := maxS_nn (outS size [Str.ofString "", Str.ofString "\t", x0, x2, x4])
  have nli := maxS_nn (outS size [Str.ofString "", x1, x3, x5, x6])
  have ok := LF.ok
  rw [cut (dBody (stm 21)) (0 + 3 + 2 + 3 + 1 + 1 + 1) 3]
  refine p5 (fg := []) w B X T hd hu hL hmo5 mc F6 N6 ic rfl hs1 hs3 dd1 dO io ii epl DL.fg (by rw [lpl]; decide) (by rw [lpl]; decide) (fun x hx => by have := bpl x hx; omega) (by rw [llo]; decide) (by rw [llo]; decide) (fun x hx => by have := LF.lo x hx; omega) (by rw [lli]; decide) (by rw [lli]; decide) (fun x hx => by have := LF.li x hx; omega)
    (by rw [counts_len]; omega) (by rw [counts_len]; omega) (counts_bound (by rw [llo]; decide)) (by rw [counts_len]; omega) (by rw [counts_len]; omega) (counts_bound (by rw [lli]; decide)) DL.j0 DL.j1 DL.jm ?_
  intro qf qp h7 tk7 m7 vf vp nf np ps tj iff ip mf mp mo7 mj F7 N7
  rw [cut (dBody (stm 21)) (0 + 3 + 2 + 3 + 1 + 1 + 1 + 3) 1]
  refine p5c w B X T hd hu hL mf mj F7 N7 iff DL.fg DL.j0 DL.j1 ?_
  intro h8 tk8 ps2 F8 N8
  rw [cut (dBody (stm 21)) (0 + 3 + 2 + 3 + 1 + 1 + 1 + 3 + 1) 3]
  refine p6a (lf := []) w B X T hd hu hL mp mo7 mf dO F8 N8 ip io ii (by rw [lpl]; decide) (by rw [llo]; decide) (by rw [lli]; decide) ?_
  intro q1 q2 q3 h9 tk9 m9 v1 v2 v3 n1 n2 n3 ta tb tc i1 i2 i3 e1 e2 e3 e4 e5 e6 e7 e8 F9 N9
  have g1 := fr_name F9 e1
  have g2 := fr_name g1 (x := Str.ofString "second") (v := .ref q2) ((if_neg (by decide)).trans e2)
  have g3 := fr_name g2 (x := Str.ofString "third") (v := .ref q3) ((if_neg (by decide)).trans ((if_neg (by decide)).trans e3))
  have g4 := fr_name g3 (x := Str.ofString "figures") (v := .ref qf) ((if_neg (by decide)).trans ((if_neg (by decide)).trans ((if_neg (by decide)).trans e4)))
  have g5 := fr_name g4 (x := Str.ofString "places") (v := .ref qp) ((if_neg (by decide)).trans ((if_neg (by decide)).trans ((if_neg (by decide)).trans ((if_neg (by decide)).trans e5))))
  have g6 := fr_name g5 (x := Str.ofString "part") (v := .int 1 ta) ((if_neg (by decide)).trans ((if_neg (by decide)).trans ((if_neg (by decide)).trans ((if_neg (by decide)).trans ((if_neg (by decide)).trans e6)))))
  have g7 := fr_name g6 (x := Str.ofString "whole") (v := .int 1 tb) ((if_neg (by decide)).trans ((if_neg (by decide)).trans ((if_neg (by decide)).trans ((if_neg (by decide)).trans ((if_neg (by decide)).trans ((if_neg (by decide)).trans e7))))))
  have g8 := fr_name g7 (x := Str.ofString "told") (v := .int 0 tc) ((if_neg (by decide)).trans ((if_neg (by decide)).trans ((if_neg (by decide)).trans ((if_neg (by decide)).trans ((if_neg (by decide)).trans ((if_neg (by decide)).trans ((if_neg (by decide)).trans e8)))))))
  have k1 := kept_len (outS size [Str.ofString "", Str.ofString "\t", x0, x2, x4])
  have k2 := kept_len (outS size [Str.ofString "", x1, x3, x5, x6])
  have k3 := kept_len ((outS size [Str.ofString "", Str.ofString "\t", x0, x2, x4]).flatMap fun a => (outS size [Str.ofString "", x1, x3, x5, x6]).map fun b => a + b)
  exact p6b w B X T hd hu hL g8 N9 i1 i2 i3 iff ip (by omega) (by omega) (by omega) (by rw [counts_len]; omega) (by rw [lpl]; decide) (kept_sorted _) (kept_sorted _) (kept_sorted _) ok (fun h' tk' m' F' N' => hret h' tk' m' _ _ F' N')

theorem kt_list (P : Params) : (KT P).map (fun p => (hp (TZ P)).get? p.1) = (KT P).map (fun p => some p.2) := by kernel_rfl
theorem frag_of {K : Frag} {h : Heap} (e : K.map (fun p => h.get? p.1) = K.map (fun p => some p.2)) : K.In h := fun a o ha => by
  have hm := mem_of_lookupK ha
  have := List.map_inj_left.mp e (a, o) hm
  exact this
theorem kt_in (P : Params) : (KT P).In (hp (TZ P)) := frag_of (kt_list P)
theorem get_objs {h h' : Heap} (e : h.objs = h'.objs) (a : Addr) : h.get? a = h'.get? a := by
  obtain ⟨o, l⟩ := h; obtain ⟨o', l'⟩ := h'; cases e; rfl
theorem t96 (P : Params) : (hp (TZ P)).get? 96 = some (tabObj #[]) := by kernel_rfl
theorem t89 (P : Params) : (hp (TZ P)).get? 89 = some (tabObj #[]) := by kernel_rfl
theorem law_tab (P : Params) : ∃ Q, tabIn (KT P) (Str.ofString "law") = some (229, Q) ∧ Q ≠ 96 ∧ Q ≠ 89 := by
  exact ⟨227, by kernel_rfl, by decide, by decide⟩
theorem recs_law : (recsOf q0).map (·.name) = [Str.ofString "law"] := by decide +kernel
theorem owns_law : ownsOf q0 = [] := by rfl
theorem law_at (P : Params) : nsIn (KT P) mainGlobals (Str.ofString "law") = some (some (.ref 230)) := by kernel_rfl
theorem ghost_codeRec {h : Heap} {tabs : List (Addr × Addr)} {code : Value} {nm : Str} (hT : TabsAt tabs h) (x : h.CodeRec code nm) : (ghostOf h tabs).CodeRec code nm := by
  obtain ⟨c, oc, vs, t, e, h1, h2, h3⟩ := x
  refine ⟨c, oc, vs, t, e, ghost_get hT h1 (fun q => ?_), h2, h3⟩
  subst q
  cases h2
  cases h3
theorem ghost_top0 {P : Params} {h : Heap} {mean : ExcName → Option Value} {mg mb : Str → Option Value} (X : (KT P).In h) (hT : TabsAt [(100, 96), (93, 89)] h) (T : Top q0 (looseW q0 lo0) mean mg mb h) : Top q0 (looseW q0 lo0) mean mg mb (ghostOf h [(100, 96), (93, 89)]) where
  g := ghost_ns hT T.g
  b := ghost_ns hT T.b
  nolimit := let ⟨mc, a, r⟩ := T.nolimit; ⟨mc, ghost_ns hT a, r⟩
  nodigits := let ⟨mc, a, r⟩ := T.nodigits; ⟨mc, ghost_ns hT a, r⟩
  fn := fun d hd => let ⟨a, o, pm, code, doc, h1, h2, h3, h4⟩ := T.fn d hd; ⟨a, o, pm, code, doc, h1, ghost_get hT h2 (fun q => by rw [q] at h3; cases h3), h3, ghost_codeRec hT h4⟩
  own := fun o ho => by rw [owns_law] at ho; cases ho
  const := T.const
  free := T.free
  builtins := T.builtins
  tab := fun d hd => by
    have hn : d.name = Str.ofString "law" := by
      have := List.mem_map_of_mem (f := (·.name)) hd
      rw [recs_law] at this
      exact List.mem_singleton.mp this
    obtain ⟨a, o, fd, c, R, h1, h2, h3, h4, h5, h6⟩ := T.tab d hd
    obtain ⟨R', ht, n1, n2⟩ := law_tab P
    have hc := law_code X T.g ht (hn ▸ h1) h2 h3
    rw [h4] at hc
    cases hc
    have h6' := h6
    obtain ⟨⟨oc, vs, g1, g2, g3, g4⟩, g5⟩ := h6'
    have hR : R = R' := by
      unfold tabIn at ht
      split at ht
      · split at ht
        · split at ht
          · split at ht
            · rename_i hco
              split at ht
              · rename_i hv
                cases ht
                have e3 := X _ _ hco
                rw [e3] at g1
                cases g1
                cases g3
                rw [hv] at g4
                cases g4
                rfl
              · cases ht
            · cases ht
          · cases ht
        · cases ht
      · cases ht
    subst hR
    have C := CodeHd.of h5 h6
    have hP : (ghostOf h [(100, 96), (93, 89)]).get? R = some (tabObj #[]) := ghost_ne g5 (by
      intro q
      rcases List.mem_cons.mp q with q | q
      · exact n1 q
      · exact n2 (List.mem_singleton.mp q))
    have C' : CodeHd (ghostOf h [(100, 96), (93, 89)]) 229 R := by
      obtain ⟨o, vs, file, tf, flags, tg, inF, text, tt, e1, r1, r⟩ := C
      exact ⟨o, vs, file, tf, flags, tg, inF, text, tt, ghost_get hT e1 (fun q => by rw [q] at r1; cases r1), r1, r⟩
    exact ⟨a, o, fd, 229, R, h1, ghost_get hT h2 (fun q => by rw [q] at h3; cases h3), h3, h4, C'.code hP trivial, C'.tab hP⟩
  bmain := let ⟨bm, ob, a1, a2, a3, a4, r⟩ := T.bmain; ⟨bm, ob, a1, a2, ghost_get hT a3 (fun q => by rw [q] at a4; cases a4), a4, r⟩
  seer := fun e => by
    have x := T.seer e
    exact {
      statics := let ⟨mc, a, b⟩ := x.statics; ⟨mc, ghost_ns hT a, b⟩
      mods := let ⟨mc, a, b⟩ := x.mods; ⟨mc, ghost_ns hT a, b⟩
      imp := let ⟨mc, a, b⟩ := x.imp; ⟨mc, ghost_ns hT a, b⟩
      main := let ⟨mg, bm, ob, a, b, c, d, e⟩ := x.main; ⟨mg, bm, ob, ghost_ns hT a, b, ghost_get hT c (fun q => by rw [q] at d; cases d), d, e⟩ }

theorem kt_keys (P : Params) : ((KT P).all fun p => !(Nat.beq p.1 96) && !(Nat.beq p.1 89)) = true := by kernel_rfl
theorem ghost_K0 {P : Params} {h : Heap} (X : (KT P).In h) : (KT P).In (ghostOf h [(100, 96), (93, 89)]) := fun a o e => by
  refine ghost_ne (X a o e) fun q => ?_
  have h2 := List.all_eq_true.mp (kt_keys P) (a, o) (mem_of_lookupK e)
  simp only [Bool.and_eq_true, Bool.not_eq_true'] at h2
  rcases List.mem_cons.mp q with q | q
  · rw [q] at h2; exact absurd h2.1 (by decide)
  · rw [List.mem_singleton.mp q] at h2; exact absurd h2.2 (by decide)
theorem law_call (w : World) {s₁ : Shared} {mean : ExcName → Option Value} {mg mb : Str → Option Value} {R : Result → Shared → Prop} {l : Addr} {vs : List Value} {ns : List Int} (X : (KT w.params).In s₁.heap) (hT : TabsAt [(100, 96), (93, 89)] s₁.heap) (T : Top q0 (looseW q0 lo0) mean mg mb s₁.heap)
    (hl : s₁.heap.IsList l vs.toArray) (hi : IntsAre vs ns) (hlen : ns.length < 64)
    (hret : ∀ L h' (tk' : Nat) m' ps ps2, Fr (ghostOf s₁.heap [(100, 96), (93, 89)]) L h' m' → News (ghostOf s₁.heap [(100, 96), (93, 89)]) L h' ((96, tabObj ps) :: (89, tabObj ps2) :: []) → R (.ok (.ret (.bool true))) { s₁ with heap := h', toks := tk' }) :
    codeAny (model P0 w) callerA (.call (.ref 230) ⟨[.ref l], []⟩) R s₁ := by
  have hcd : s₁.heap.CodeRec (.ref 229) (Str.ofString "law") := ⟨229, _, _, _, rfl, X 229 _ (by rfl), rfl, rfl⟩
  have h96 : 96 < s₁.heap.objs.size := Heap.lt_size ((hT (100, 96) (.head _)).2)
  refine call_cellsN (name := Str.ofString "law") (params := dArgs (stm 21)) (body := dBody (stm 21)) (scope := dScope (stm 21)) (cd := .ref 229) (by decide) (X 230 _ (by rfl)) rfl T.nolimit hcd rfl (kinds_of (by kinds_ok)) (by decide) fun h₁ tk cells F N Y => ?_
  k_cells Y
  refine' law_walk (dp := callerA.depth + 1) (un := callerA.units + 3) (gd := some []) (outer := []) (A₀ := callerA) (base := ghostOf s₁.heap [(100, 96), (93, 89)]) (g := ghostOf s₁.heap [(100, 96), (93, 89)]) (E0 := fun e s'' => R (.error e) s'') (vs := vs) (ns := ns) (l := l) w (ghost_below hT) (ghost_K0 X) (ghost_top0 X hT T) (by decide) (by decide) h96 rfl (ghost_fr hT F) ?kN (ghost_list hT hl) hi hlen ?k1 ?k2 ?k3 ?kR
  case kN => exact cb_drop (ghost_news hT F N) (fun p hp => hp)
  case k1 => exact ⟨_, by assumption⟩
  case k2 => exact ⟨_, by assumption⟩
  case k3 => exact ⟨_, by assumption⟩
  case kR =>
    intro h' tk' m' ps ps2 F' N'
    exact hret _ h' tk' m' ps ps2 F' N'

end Mine
theorem PySem.Challenge.cw_sn0095_01_holds : PySem.Challenge.rw_sn0095_01.Holds := by
  w_on
  have said0 : PySem.Challenge.rw_sn0095_01.wellSaid = true := by
    unfold OpenLaw.wellSaid
    repeat' (first | with_reducible refine Bool.and_eq_true_iff.mpr ⟨?_, ?_⟩ | unfold OpenRow.wellSaid | unfold OpenRow.partSaid | unfold OpenScript.wellSaid | unfold looksOpen)
    all_goals decide +kernel
  refine holds_law said0 fun said => ?_
  refine holds_openX (q := Mine.q0) (loose := Mine.lo0) (Xt := Mine.Xt0) (XP := XL Mine.q0 []) Mine.left0 (fun s e => xl_of s (Bool.and_eq_true_iff.mp e).1) XL.keeps (by rfl) (by rfl) (by rfl) (fun s e => recFacts_of (Bool.and_eq_true_iff.mp e).2) (by rfl) (by assumption) (by decide +kernel) ⟨rfl, rfl, rfl, rfl, rfl, by decide +kernel⟩ ?hw ?hc
  case hw => w_witness2
  intro w s₀ s₁ mg mb G y fa o pm cd doc dV kV ho hd hcd hD hmg hg args vals as L hpre hlay hrd hwl hlo
  have hobj : s₀.heap.objs = (Mine.hp (Mine.TZ w.params)).objs := congrArg Prod.fst y
  have hX : (Mine.KT w.params).In s₁.heap := fun a o e => L.keeps a o ((Mine.get_objs hobj a).trans (Mine.kt_in w.params a o e))
  have h96 : s₁.heap.get? 96 = some (tabObj #[]) := L.keeps _ _ ((Mine.get_objs hobj 96).trans (Mine.t96 w.params))
  have h89 : s₁.heap.get? 89 = some (tabObj #[]) := L.keeps _ _ ((Mine.get_objs hobj 89).trans (Mine.t89 w.params))
  have hT9 : TabsAt [(100, 96), (93, 89)] s₁.heap := List.forall_mem_cons.mpr ⟨⟨Mine.hd100 hX, h96⟩, List.forall_mem_cons.mpr ⟨⟨Mine.hd93 hX, h89⟩, fun _ h => nomatch h⟩⟩
  refine Ground.open G ?_
  intro T B D TE TW
  have hfa : Value.ref 230 = Value.ref fa := Option.some.inj ((mg_of hX T.g (Mine.law_at w.params)).symm.trans hmg)
  clear ho hd hcd hD hmg
  cases hfa
  wrow_args hpre hlay hrd hwl hlo
  first | refine callC_kw (enter_call ?_) | refine enter_call ?_
  w_top on
  refine kn_post hT9 (fun _ _ => rfl) ?_
  refine Mine.law_call w hX hT9 T (by assumption) (by assumption) (by omega) ?_
  intro L' h' tk' m' ps ps2 F' N'
  refine ⟨⟨.inl ⟨_, _, [], rfl, fun _ => rfl, ReadsW.bool true, ?_, fun _ => ⟨List.nodup_nil, fun _ h => nomatch h⟩⟩, F'.keep, rfl, hg⟩, ⟨ps, (N' _ (.head _)).1⟩, ⟨ps2, (N' _ (.tail _ (.head _))).1⟩, trivial⟩
  first | rfl | wrow_post

