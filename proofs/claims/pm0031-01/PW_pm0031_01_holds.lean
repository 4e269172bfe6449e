import PyProof.Rows.All
import Wide.All
import OpenK.AllK
import Wide.FinOn
import PyProof.InstLoad
import PyProof.DictIter
import Lean
import PySem.Challenge.RW_pm0031_01
open PySem PySem.W PyProof.Rows
set_option Elab.async false
set_option rowWalk.seconds 0
set_option compiler.extract_closed false
section
namespace Mine
noncomputable def clsBody : Option PySem.Stmt → List PySem.Stmt
  | some (.ClassDef _ _ _ b _ _ _ _ _ _ _) => b
  | _ => []
noncomputable def fnOf : PySem.Stmt → PySem.Arguments × List PySem.Stmt × PySem.Scope
  | .FunctionDef _ p b _ _ _ s _ _ _ => (p, b, s)
  | _ => default
noncomputable abbrev pwBody : List PySem.Stmt := PySem.Challenge.pw_pm0031_01.main.body
set_option maxRecDepth 100000 in
set_option maxHeartbeats 8000000 in
noncomputable def KF : Params → Frag := by
  apply (?f : ∀ (p21 : PySem.Arguments) (b21 : List PySem.Stmt) (s21 : PySem.Scope) (p35 : PySem.Arguments) (b35 : List PySem.Stmt) (s35 : PySem.Scope) (p42 : PySem.Arguments) (b42 : List PySem.Stmt) (s42 : PySem.Scope) (p49 : PySem.Arguments) (b49 : List PySem.Stmt) (s49 : PySem.Scope) (p56 : PySem.Arguments) (b56 : List PySem.Stmt) (s56 : PySem.Scope) (p77 : PySem.Arguments) (b77 : List PySem.Stmt) (s77 : PySem.Scope) (p84 : PySem.Arguments) (b84 : List PySem.Stmt) (s84 : PySem.Scope) (p98 : PySem.Arguments) (b98 : List PySem.Stmt) (s98 : PySem.Scope) (p105 : PySem.Arguments) (b105 : List PySem.Stmt) (s105 : PySem.Scope) (p112 : PySem.Arguments) (b112 : List PySem.Stmt) (s112 : PySem.Scope) (p119 : PySem.Arguments) (b119 : List PySem.Stmt) (s119 : PySem.Scope) (p124 : PySem.Arguments) (b124 : List PySem.Stmt) (s124 : PySem.Scope) (p129 : PySem.Arguments) (b129 : List PySem.Stmt) (s129 : PySem.Scope) (p134 : PySem.Arguments) (b134 : List PySem.Stmt) (s134 : PySem.Scope) (p139 : PySem.Arguments) (b139 : List PySem.Stmt) (s139 : PySem.Scope) (p146 : PySem.Arguments) (b146 : List PySem.Stmt) (s146 : PySem.Scope) (p153 : PySem.Arguments) (b153 : List PySem.Stmt) (s153 : PySem.Scope) (p158 : PySem.Arguments) (b158 : List PySem.Stmt) (s158 : PySem.Scope), (((pwBody)[2]?).map fnOf = some (p21, b21, s21)) → (((clsBody ((pwBody)[4]?))[0]?).map fnOf = some (p35, b35, s35)) → (((clsBody ((pwBody)[4]?))[1]?).map fnOf = some (p42, b42, s42)) → (((clsBody ((pwBody)[4]?))[2]?).map fnOf = some (p49, b49, s49)) → (((clsBody ((pwBody)[4]?))[3]?).map fnOf = some (p56, b56, s56)) → (((clsBody ((pwBody)[6]?))[0]?).map fnOf = some (p77, b77, s77)) → (((clsBody ((pwBody)[6]?))[1]?).map fnOf = some (p84, b84, s84)) → (((pwBody)[7]?).map fnOf = some (p98, b98, s98)) → (((pwBody)[8]?).map fnOf = some (p105, b105, s105)) → (((pwBody)[9]?).map fnOf = some (p112, b112, s112)) → (((pwBody)[11]?).map fnOf = some (p119, b119, s119)) → (((pwBody)[12]?).map fnOf = some (p124, b124, s124)) → (((pwBody)[13]?).map fnOf = some (p129, b129, s129)) → (((pwBody)[14]?).map fnOf = some (p134, b134, s134)) → (((pwBody)[15]?).map fnOf = some (p139, b139, s139)) → (((pwBody)[16]?).map fnOf = some (p146, b146, s146)) → (((pwBody)[17]?).map fnOf = some (p153, b153, s153)) → (((pwBody)[18]?).map fnOf = some (p158, b158, s158)) → (Params → Frag))
  case f => exact fun p21 b21 s21 p35 b35 s35 p42 b42 s42 p49 b49 s49 p56 b56 s56 p77 b77 s77 p84 b84 s84 p98 b98 s98 p105 b105 s105 p112 b112 s112 p119 b119 s119 p124 b124 s124 p129 b129 s129 p134 b134 s134 p139 b139 s139 p146 b146 s146 p153 b153 s153 p158 b158 s158 _ _ _ _ _ _ _ _ _ _ _ _ _ _ _ _ _ _ => fun P => (@Prod.mk Nat PySem.Obj (nat_lit 2) ({ cls := PySem.Value.none, data := PySem.Data.dict #[] })) :: (@Prod.mk Nat PySem.Obj (nat_lit 3) ({ cls := PySem.Value.type "dict", data := PySem.Data.dict #[{ hash := PySem.PyData.keyHash P (PySem.Str.ofString "__name__"), key := PySem.Value.str (PySem.Str.ofString "__name__") 165, val := PySem.Value.str (PySem.Str.ofString "law_pm0031_01") 345 }, { hash := PySem.PyData.keyHash P (PySem.Str.ofString "__doc__"), key := PySem.Value.str (PySem.Str.ofString "__doc__") 166, val := PySem.Value.none }, { hash := PySem.PyData.keyHash P (PySem.Str.ofString "__package__"), key := PySem.Value.str (PySem.Str.ofString "__package__") 167, val := PySem.Value.none }, { hash := PySem.PyData.keyHash P (PySem.Str.ofString "__loader__"), key := PySem.Value.str (PySem.Str.ofString "__loader__") 168, val := PySem.Value.builtin "__main__.__loader__#opaque" }, { hash := PySem.PyData.keyHash P (PySem.Str.ofString "__spec__"), key := PySem.Value.str (PySem.Str.ofString "__spec__") 169, val := PySem.Value.none }, { hash := PySem.PyData.keyHash P (PySem.Str.ofString "__annotations__"), key := PySem.Value.str (PySem.Str.ofString "__annotations__") 170, val := PySem.Value.ref 6 }, { hash := PySem.PyData.keyHash P (PySem.Str.ofString "__builtins__"), key := PySem.Value.str (PySem.Str.ofString "__builtins__") 171, val := PySem.Value.ref 4 }, { hash := PySem.PyData.keyHash P (PySem.Str.ofString "__file__"), key := PySem.Value.str (PySem.Str.ofString "__file__") 173, val := PySem.Value.str (PySem.Str.ofString "/claim/cut.py") 172 }, { hash := PySem.PyData.keyHash P (PySem.Str.ofString "__cached__"), key := PySem.Value.str (PySem.Str.ofString "__cached__") 174, val := PySem.Value.none }, { hash := PySem.PyData.keyHash P (PySem.Str.ofString "ELLIPSIS_MARKER"), key := PySem.Value.str (PySem.Str.ofString "ELLIPSIS_MARKER") 190, val := PySem.Value.str (PySem.Str.ofString "...") 189 }, { hash := PySem.PyData.keyHash P (PySem.Str.ofString "_ellipsis_match"), key := PySem.Value.str (PySem.Str.ofString "_ellipsis_match") 202, val := PySem.Value.ref 21 }, { hash := PySem.PyData.keyHash P (PySem.Str.ofString "_netrclex"), key := PySem.Value.str (PySem.Str.ofString "_netrclex") 262, val := PySem.Value.ref 59 }, { hash := PySem.PyData.keyHash P (PySem.Str.ofString "TupleComp"), key := PySem.Value.str (PySem.Str.ofString "TupleComp") 306, val := PySem.Value.ref 87 }, { hash := PySem.PyData.keyHash P (PySem.Str.ofString "add_func_stats"), key := PySem.Value.str (PySem.Str.ofString "add_func_stats") 324, val := PySem.Value.ref 98 }, { hash := PySem.PyData.keyHash P (PySem.Str.ofString "add_callers"), key := PySem.Value.str (PySem.Str.ofString "add_callers") 335, val := PySem.Value.ref 105 }, { hash := PySem.PyData.keyHash P (PySem.Str.ofString "count_calls"), key := PySem.Value.str (PySem.Str.ofString "count_calls") 344, val := PySem.Value.ref 112 }, { hash := PySem.PyData.keyHash P (PySem.Str.ofString "_law_stream"), key := PySem.Value.str (PySem.Str.ofString "_law_stream") 357, val := PySem.Value.ref 119 }, { hash := PySem.PyData.keyHash P (PySem.Str.ofString "_law_written"), key := PySem.Value.str (PySem.Str.ofString "_law_written") 363, val := PySem.Value.ref 124 }, { hash := PySem.PyData.keyHash P (PySem.Str.ofString "_law_texts"), key := PySem.Value.str (PySem.Str.ofString "_law_texts") 369, val := PySem.Value.ref 129 }, { hash := PySem.PyData.keyHash P (PySem.Str.ofString "_law_books"), key := PySem.Value.str (PySem.Str.ofString "_law_books") 375, val := PySem.Value.ref 134 }, { hash := PySem.PyData.keyHash P (PySem.Str.ofString "_law_product"), key := PySem.Value.str (PySem.Str.ofString "_law_product") 381, val := PySem.Value.ref 139 }, { hash := PySem.PyData.keyHash P (PySem.Str.ofString "_law_times"), key := PySem.Value.str (PySem.Str.ofString "_law_times") 392, val := PySem.Value.ref 146 }, { hash := PySem.PyData.keyHash P (PySem.Str.ofString "_law_moved"), key := PySem.Value.str (PySem.Str.ofString "_law_moved") 407, val := PySem.Value.ref 153 }, { hash := PySem.PyData.keyHash P (PySem.Str.ofString "law"), key := PySem.Value.str (PySem.Str.ofString "law") 413, val := PySem.Value.ref 158 }] 24 })) :: (@Prod.mk Nat PySem.Obj (nat_lit 15) ({ cls := PySem.Value.type "tuple", data := PySem.Data.seq #[] })) :: (@Prod.mk Nat PySem.Obj (nat_lit 17) ({ cls := PySem.Value.type "tuple", data := PySem.Data.seq #[PySem.Value.str (PySem.Str.ofString "want") 194, PySem.Value.str (PySem.Str.ofString "got") 195, PySem.Value.str (PySem.Str.ofString "ws") 196, PySem.Value.str (PySem.Str.ofString "startpos") 197, PySem.Value.str (PySem.Str.ofString "endpos") 198, PySem.Value.str (PySem.Str.ofString "w") 199] })) :: (@Prod.mk Nat PySem.Obj (nat_lit 18) ({ cls := PySem.Value.type "tuple", data := PySem.Data.seq #[] })) :: (@Prod.mk Nat PySem.Obj (nat_lit 20) ({ cls := PySem.Value.type "code", data := PySem.Data.fields #[PySem.Value.str (PySem.Str.ofString "_ellipsis_match") 191, PySem.Value.str (PySem.Str.ofString "_ellipsis_match") 192, PySem.Value.str (PySem.Str.ofString "/claim/cut.py") 193, PySem.Value.int 3 0, PySem.Value.int 2 0, PySem.Value.int 0 0, PySem.Value.int 0 0, PySem.Value.int 3 0, PySem.Value.ref 15, PySem.Value.bool Bool.true, PySem.Value.int 181 0, PySem.Value.ref 16, PySem.Value.none, PySem.Value.ref 17, PySem.Value.ref 18, PySem.Value.ref 19, PySem.Value.int 200 0, PySem.Value.int 3 0, PySem.Value.str (PySem.Str.ofString "/claim/cut.py") 201] })) :: (@Prod.mk Nat PySem.Obj (nat_lit 21) ({ cls := PySem.Value.type "function", data := PySem.Data.func { name := PySem.Str.ofString "_ellipsis_match", qualname := PySem.Str.ofString "_ellipsis_match", params := p21, body := PySem.FuncBody.stmts b21, scope := s21, globals := 3, closure := [], defaults := PySem.Value.none, kwdefaults := PySem.Value.none, pyModule := PySem.Value.str (PySem.Str.ofString "cpy313.doctest") 187, code := PySem.Value.ref 20 } })) :: (@Prod.mk Nat PySem.Obj (nat_lit 29) ({ cls := PySem.Value.type "tuple", data := PySem.Data.seq #[] })) :: (@Prod.mk Nat PySem.Obj (nat_lit 31) ({ cls := PySem.Value.type "tuple", data := PySem.Data.seq #[PySem.Value.str (PySem.Str.ofString "self") 220, PySem.Value.str (PySem.Str.ofString "fp") 221] })) :: (@Prod.mk Nat PySem.Obj (nat_lit 32) ({ cls := PySem.Value.type "tuple", data := PySem.Data.seq #[] })) :: (@Prod.mk Nat PySem.Obj (nat_lit 34) ({ cls := PySem.Value.type "code", data := PySem.Data.fields #[PySem.Value.str (PySem.Str.ofString "__init__") 217, PySem.Value.str (PySem.Str.ofString "_netrclex.__init__") 218, PySem.Value.str (PySem.Str.ofString "/claim/cut.py") 219, PySem.Value.int 34 0, PySem.Value.int 2 0, PySem.Value.int 0 0, PySem.Value.int 0 0, PySem.Value.int 3 0, PySem.Value.ref 29, PySem.Value.bool Bool.true, PySem.Value.int 181 0, PySem.Value.ref 30, PySem.Value.none, PySem.Value.ref 31, PySem.Value.ref 32, PySem.Value.ref 33, PySem.Value.int 222 0, PySem.Value.int 34 0, PySem.Value.str (PySem.Str.ofString "/claim/cut.py") 223] })) :: (@Prod.mk Nat PySem.Obj (nat_lit 35) ({ cls := PySem.Value.type "function", data := PySem.Data.func { name := PySem.Str.ofString "__init__", qualname := PySem.Str.ofString "_netrclex.__init__", params := p35, body := PySem.FuncBody.stmts b35, scope := s35, globals := 3, closure := [], defaults := PySem.Value.none, kwdefaults := PySem.Value.none, pyModule := PySem.Value.str (PySem.Str.ofString "cpy313.netrc") 203, code := PySem.Value.ref 34 } })) :: (@Prod.mk Nat PySem.Obj (nat_lit 36) ({ cls := PySem.Value.type "tuple", data := PySem.Data.seq #[] })) :: (@Prod.mk Nat PySem.Obj (nat_lit 38) ({ cls := PySem.Value.type "tuple", data := PySem.Data.seq #[PySem.Value.str (PySem.Str.ofString "self") 228, PySem.Value.str (PySem.Str.ofString "ch") 229] })) :: (@Prod.mk Nat PySem.Obj (nat_lit 39) ({ cls := PySem.Value.type "tuple", data := PySem.Data.seq #[] })) :: (@Prod.mk Nat PySem.Obj (nat_lit 41) ({ cls := PySem.Value.type "code", data := PySem.Data.fields #[PySem.Value.str (PySem.Str.ofString "_read_char") 225, PySem.Value.str (PySem.Str.ofString "_netrclex._read_char") 226, PySem.Value.str (PySem.Str.ofString "/claim/cut.py") 227, PySem.Value.int 40 0, PySem.Value.int 1 0, PySem.Value.int 0 0, PySem.Value.int 0 0, PySem.Value.int 3 0, PySem.Value.ref 36, PySem.Value.bool Bool.true, PySem.Value.int 181 0, PySem.Value.ref 37, PySem.Value.none, PySem.Value.ref 38, PySem.Value.ref 39, PySem.Value.ref 40, PySem.Value.int 230 0, PySem.Value.int 40 0, PySem.Value.str (PySem.Str.ofString "/claim/cut.py") 231] })) :: (@Prod.mk Nat PySem.Obj (nat_lit 42) ({ cls := PySem.Value.type "function", data := PySem.Data.func { name := PySem.Str.ofString "_read_char", qualname := PySem.Str.ofString "_netrclex._read_char", params := p42, body := PySem.FuncBody.stmts b42, scope := s42, globals := 3, closure := [], defaults := PySem.Value.none, kwdefaults := PySem.Value.none, pyModule := PySem.Value.str (PySem.Str.ofString "cpy313.netrc") 203, code := PySem.Value.ref 41 } })) :: (@Prod.mk Nat PySem.Obj (nat_lit 43) ({ cls := PySem.Value.type "tuple", data := PySem.Data.seq #[] })) :: (@Prod.mk Nat PySem.Obj (nat_lit 45) ({ cls := PySem.Value.type "tuple", data := PySem.Data.seq #[PySem.Value.str (PySem.Str.ofString "self") 236, PySem.Value.str (PySem.Str.ofString "token") 237, PySem.Value.str (PySem.Str.ofString "fiter") 238, PySem.Value.str (PySem.Str.ofString "ch") 239] })) :: (@Prod.mk Nat PySem.Obj (nat_lit 46) ({ cls := PySem.Value.type "tuple", data := PySem.Data.seq #[] })) :: (@Prod.mk Nat PySem.Obj (nat_lit 48) ({ cls := PySem.Value.type "code", data := PySem.Data.fields #[PySem.Value.str (PySem.Str.ofString "get_token") 233, PySem.Value.str (PySem.Str.ofString "_netrclex.get_token") 234, PySem.Value.str (PySem.Str.ofString "/claim/cut.py") 235, PySem.Value.int 46 0, PySem.Value.int 1 0, PySem.Value.int 0 0, PySem.Value.int 0 0, PySem.Value.int 3 0, PySem.Value.ref 43, PySem.Value.bool Bool.true, PySem.Value.int 181 0, PySem.Value.ref 44, PySem.Value.none, PySem.Value.ref 45, PySem.Value.ref 46, PySem.Value.ref 47, PySem.Value.int 240 0, PySem.Value.int 46 0, PySem.Value.str (PySem.Str.ofString "/claim/cut.py") 241] })) :: (@Prod.mk Nat PySem.Obj (nat_lit 49) ({ cls := PySem.Value.type "function", data := PySem.Data.func { name := PySem.Str.ofString "get_token", qualname := PySem.Str.ofString "_netrclex.get_token", params := p49, body := PySem.FuncBody.stmts b49, scope := s49, globals := 3, closure := [], defaults := PySem.Value.none, kwdefaults := PySem.Value.none, pyModule := PySem.Value.str (PySem.Str.ofString "cpy313.netrc") 203, code := PySem.Value.ref 48 } })) :: (@Prod.mk Nat PySem.Obj (nat_lit 50) ({ cls := PySem.Value.type "tuple", data := PySem.Data.seq #[] })) :: (@Prod.mk Nat PySem.Obj (nat_lit 52) ({ cls := PySem.Value.type "tuple", data := PySem.Data.seq #[PySem.Value.str (PySem.Str.ofString "self") 246, PySem.Value.str (PySem.Str.ofString "token") 247] })) :: (@Prod.mk Nat PySem.Obj (nat_lit 53) ({ cls := PySem.Value.type "tuple", data := PySem.Data.seq #[] })) :: (@Prod.mk Nat PySem.Obj (nat_lit 55) ({ cls := PySem.Value.type "code", data := PySem.Data.fields #[PySem.Value.str (PySem.Str.ofString "push_token") 243, PySem.Value.str (PySem.Str.ofString "_netrclex.push_token") 244, PySem.Value.str (PySem.Str.ofString "/claim/cut.py") 245, PySem.Value.int 73 0, PySem.Value.int 2 0, PySem.Value.int 0 0, PySem.Value.int 0 0, PySem.Value.int 3 0, PySem.Value.ref 50, PySem.Value.bool Bool.true, PySem.Value.int 181 0, PySem.Value.ref 51, PySem.Value.none, PySem.Value.ref 52, PySem.Value.ref 53, PySem.Value.ref 54, PySem.Value.int 248 0, PySem.Value.int 73 0, PySem.Value.str (PySem.Str.ofString "/claim/cut.py") 249] })) :: (@Prod.mk Nat PySem.Obj (nat_lit 56) ({ cls := PySem.Value.type "function", data := PySem.Data.func { name := PySem.Str.ofString "push_token", qualname := PySem.Str.ofString "_netrclex.push_token", params := p56, body := PySem.FuncBody.stmts b56, scope := s56, globals := 3, closure := [], defaults := PySem.Value.none, kwdefaults := PySem.Value.none, pyModule := PySem.Value.str (PySem.Str.ofString "cpy313.netrc") 203, code := PySem.Value.ref 55 } })) :: (@Prod.mk Nat PySem.Obj (nat_lit 57) ({ cls := PySem.Value.type "tuple", data := PySem.Data.seq #[PySem.Value.str (PySem.Str.ofString "instream") 251, PySem.Value.str (PySem.Str.ofString "lineno") 252, PySem.Value.str (PySem.Str.ofString "pushback") 253, PySem.Value.str (PySem.Str.ofString "whitespace") 254] })) :: (@Prod.mk Nat PySem.Obj (nat_lit 58) ({ cls := PySem.Value.type "dict", data := PySem.Data.dict #[{ hash := PySem.PyData.keyHash P (PySem.Str.ofString "__module__"), key := PySem.Value.str (PySem.Str.ofString "__module__") 212, val := PySem.Value.str (PySem.Str.ofString "cpy313.netrc") 203 }, { hash := PySem.PyData.keyHash P (PySem.Str.ofString "__firstlineno__"), key := PySem.Value.str (PySem.Str.ofString "__firstlineno__") 216, val := PySem.Value.int 32 215 }, { hash := PySem.PyData.keyHash P (PySem.Str.ofString "__init__"), key := PySem.Value.str (PySem.Str.ofString "__init__") 224, val := PySem.Value.ref 35 }, { hash := PySem.PyData.keyHash P (PySem.Str.ofString "_read_char"), key := PySem.Value.str (PySem.Str.ofString "_read_char") 232, val := PySem.Value.ref 42 }, { hash := PySem.PyData.keyHash P (PySem.Str.ofString "get_token"), key := PySem.Value.str (PySem.Str.ofString "get_token") 242, val := PySem.Value.ref 49 }, { hash := PySem.PyData.keyHash P (PySem.Str.ofString "push_token"), key := PySem.Value.str (PySem.Str.ofString "push_token") 250, val := PySem.Value.ref 56 }, { hash := PySem.PyData.keyHash P (PySem.Str.ofString "__static_attributes__"), key := PySem.Value.str (PySem.Str.ofString "__static_attributes__") 255, val := PySem.Value.ref 57 }, { hash := PySem.PyData.keyHash P (PySem.Str.ofString "__dict__"), key := PySem.Value.str (PySem.Str.ofString "__dict__") 257, val := PySem.Value.ref 60 }, { hash := PySem.PyData.keyHash P (PySem.Str.ofString "__weakref__"), key := PySem.Value.str (PySem.Str.ofString "__weakref__") 259, val := PySem.Value.ref 61 }, { hash := PySem.PyData.keyHash P (PySem.Str.ofString "__doc__"), key := PySem.Value.str (PySem.Str.ofString "__doc__") 260, val := PySem.Value.none }] 4 })) :: (@Prod.mk Nat PySem.Obj (nat_lit 59) ({ cls := PySem.Value.type "type", data := PySem.Data.cls { name := PySem.Str.ofString "_netrclex", bases := [PySem.Value.type "object"], mro := [PySem.Value.ref 59, PySem.Value.type "object"], ns := 58, qualname := PySem.Str.ofString "_netrclex" }, slots := #[Option.none, Option.none, Option.some (PySem.Value.str (PySem.Str.ofString "_netrclex") 205), Option.some (PySem.Value.str (PySem.Str.ofString "_netrclex") 213), Option.some (PySem.Value.builtin "object.__new__"), Option.some (PySem.Value.bool Bool.true)] })) :: (@Prod.mk Nat PySem.Obj (nat_lit 60) ({ cls := PySem.Value.type "getset_descriptor", data := PySem.Data.fields #[PySem.Value.str (PySem.Str.ofString "__dict__") 256, PySem.Value.ref 59, PySem.Value.builtin "function.__dict__", PySem.Value.builtin "function.__dict__#set"] })) :: (@Prod.mk Nat PySem.Obj (nat_lit 61) ({ cls := PySem.Value.type "getset_descriptor", data := PySem.Data.fields #[PySem.Value.str (PySem.Str.ofString "__weakref__") 258, PySem.Value.ref 59, PySem.Value.builtin "ExceptionGroup.__weakref__", PySem.Value.none] })) :: (@Prod.mk Nat PySem.Obj (nat_lit 71) ({ cls := PySem.Value.type "tuple", data := PySem.Data.seq #[] })) :: (@Prod.mk Nat PySem.Obj (nat_lit 73) ({ cls := PySem.Value.type "tuple", data := PySem.Data.seq #[PySem.Value.str (PySem.Str.ofString "self") 280, PySem.Value.str (PySem.Str.ofString "comp_select_list") 281] })) :: (@Prod.mk Nat PySem.Obj (nat_lit 74) ({ cls := PySem.Value.type "tuple", data := PySem.Data.seq #[] })) :: (@Prod.mk Nat PySem.Obj (nat_lit 76) ({ cls := PySem.Value.type "code", data := PySem.Data.fields #[PySem.Value.str (PySem.Str.ofString "__init__") 277, PySem.Value.str (PySem.Str.ofString "TupleComp.__init__") 278, PySem.Value.str (PySem.Str.ofString "/claim/cut.py") 279, PySem.Value.int 78 0, PySem.Value.int 2 0, PySem.Value.int 0 0, PySem.Value.int 0 0, PySem.Value.int 3 0, PySem.Value.ref 71, PySem.Value.bool Bool.true, PySem.Value.int 181 0, PySem.Value.ref 72, PySem.Value.none, PySem.Value.ref 73, PySem.Value.ref 74, PySem.Value.ref 75, PySem.Value.int 282 0, PySem.Value.int 78 0, PySem.Value.str (PySem.Str.ofString "/claim/cut.py") 283] })) :: (@Prod.mk Nat PySem.Obj (nat_lit 77) ({ cls := PySem.Value.type "function", data := PySem.Data.func { name := PySem.Str.ofString "__init__", qualname := PySem.Str.ofString "TupleComp.__init__", params := p77, body := PySem.FuncBody.stmts b77, scope := s77, globals := 3, closure := [], defaults := PySem.Value.none, kwdefaults := PySem.Value.none, pyModule := PySem.Value.str (PySem.Str.ofString "cpy313.pstats") 263, code := PySem.Value.ref 76 } })) :: (@Prod.mk Nat PySem.Obj (nat_lit 78) ({ cls := PySem.Value.type "tuple", data := PySem.Data.seq #[] })) :: (@Prod.mk Nat PySem.Obj (nat_lit 80) ({ cls := PySem.Value.type "tuple", data := PySem.Data.seq #[PySem.Value.str (PySem.Str.ofString "self") 288, PySem.Value.str (PySem.Str.ofString "left") 289, PySem.Value.str (PySem.Str.ofString "right") 290, PySem.Value.str (PySem.Str.ofString "index") 291, PySem.Value.str (PySem.Str.ofString "direction") 292, PySem.Value.str (PySem.Str.ofString "l") 293, PySem.Value.str (PySem.Str.ofString "r") 294] })) :: (@Prod.mk Nat PySem.Obj (nat_lit 81) ({ cls := PySem.Value.type "tuple", data := PySem.Data.seq #[] })) :: (@Prod.mk Nat PySem.Obj (nat_lit 83) ({ cls := PySem.Value.type "code", data := PySem.Data.fields #[PySem.Value.str (PySem.Str.ofString "compare") 285, PySem.Value.str (PySem.Str.ofString "TupleComp.compare") 286, PySem.Value.str (PySem.Str.ofString "/claim/cut.py") 287, PySem.Value.int 81 0, PySem.Value.int 3 0, PySem.Value.int 0 0, PySem.Value.int 0 0, PySem.Value.int 3 0, PySem.Value.ref 78, PySem.Value.bool Bool.true, PySem.Value.int 181 0, PySem.Value.ref 79, PySem.Value.none, PySem.Value.ref 80, PySem.Value.ref 81, PySem.Value.ref 82, PySem.Value.int 295 0, PySem.Value.int 81 0, PySem.Value.str (PySem.Str.ofString "/claim/cut.py") 296] })) :: (@Prod.mk Nat PySem.Obj (nat_lit 84) ({ cls := PySem.Value.type "function", data := PySem.Data.func { name := PySem.Str.ofString "compare", qualname := PySem.Str.ofString "TupleComp.compare", params := p84, body := PySem.FuncBody.stmts b84, scope := s84, globals := 3, closure := [], defaults := PySem.Value.none, kwdefaults := PySem.Value.none, pyModule := PySem.Value.str (PySem.Str.ofString "cpy313.pstats") 263, code := PySem.Value.ref 83 } })) :: (@Prod.mk Nat PySem.Obj (nat_lit 85) ({ cls := PySem.Value.type "tuple", data := PySem.Data.seq #[PySem.Value.str (PySem.Str.ofString "comp_select_list") 298] })) :: (@Prod.mk Nat PySem.Obj (nat_lit 86) ({ cls := PySem.Value.type "dict", data := PySem.Data.dict #[{ hash := PySem.PyData.keyHash P (PySem.Str.ofString "__module__"), key := PySem.Value.str (PySem.Str.ofString "__module__") 272, val := PySem.Value.str (PySem.Str.ofString "cpy313.pstats") 263 }, { hash := PySem.PyData.keyHash P (PySem.Str.ofString "__firstlineno__"), key := PySem.Value.str (PySem.Str.ofString "__firstlineno__") 276, val := PySem.Value.int 76 275 }, { hash := PySem.PyData.keyHash P (PySem.Str.ofString "__init__"), key := PySem.Value.str (PySem.Str.ofString "__init__") 284, val := PySem.Value.ref 77 }, { hash := PySem.PyData.keyHash P (PySem.Str.ofString "compare"), key := PySem.Value.str (PySem.Str.ofString "compare") 297, val := PySem.Value.ref 84 }, { hash := PySem.PyData.keyHash P (PySem.Str.ofString "__static_attributes__"), key := PySem.Value.str (PySem.Str.ofString "__static_attributes__") 299, val := PySem.Value.ref 85 }, { hash := PySem.PyData.keyHash P (PySem.Str.ofString "__dict__"), key := PySem.Value.str (PySem.Str.ofString "__dict__") 301, val := PySem.Value.ref 88 }, { hash := PySem.PyData.keyHash P (PySem.Str.ofString "__weakref__"), key := PySem.Value.str (PySem.Str.ofString "__weakref__") 303, val := PySem.Value.ref 89 }, { hash := PySem.PyData.keyHash P (PySem.Str.ofString "__doc__"), key := PySem.Value.str (PySem.Str.ofString "__doc__") 304, val := PySem.Value.none }] 4 })) :: (@Prod.mk Nat PySem.Obj (nat_lit 87) ({ cls := PySem.Value.type "type", data := PySem.Data.cls { name := PySem.Str.ofString "TupleComp", bases := [PySem.Value.type "object"], mro := [PySem.Value.ref 87, PySem.Value.type "object"], ns := 86, qualname := PySem.Str.ofString "TupleComp" }, slots := #[Option.none, Option.none, Option.some (PySem.Value.str (PySem.Str.ofString "TupleComp") 265), Option.some (PySem.Value.str (PySem.Str.ofString "TupleComp") 273), Option.some (PySem.Value.builtin "object.__new__"), Option.some (PySem.Value.bool Bool.true)] })) :: (@Prod.mk Nat PySem.Obj (nat_lit 88) ({ cls := PySem.Value.type "getset_descriptor", data := PySem.Data.fields #[PySem.Value.str (PySem.Str.ofString "__dict__") 300, PySem.Value.ref 87, PySem.Value.builtin "function.__dict__", PySem.Value.builtin "function.__dict__#set"] })) :: (@Prod.mk Nat PySem.Obj (nat_lit 89) ({ cls := PySem.Value.type "getset_descriptor", data := PySem.Data.fields #[PySem.Value.str (PySem.Str.ofString "__weakref__") 302, PySem.Value.ref 87, PySem.Value.builtin "ExceptionGroup.__weakref__", PySem.Value.none] })) :: (@Prod.mk Nat PySem.Obj (nat_lit 92) ({ cls := PySem.Value.type "tuple", data := PySem.Data.seq #[] })) :: (@Prod.mk Nat PySem.Obj (nat_lit 94) ({ cls := PySem.Value.type "tuple", data := PySem.Data.seq #[PySem.Value.str (PySem.Str.ofString "target") 310, PySem.Value.str (PySem.Str.ofString "source") 311, PySem.Value.str (PySem.Str.ofString "cc") 312, PySem.Value.str (PySem.Str.ofString "nc") 313, PySem.Value.str (PySem.Str.ofString "tt") 314, PySem.Value.str (PySem.Str.ofString "ct") 315, PySem.Value.str (PySem.Str.ofString "callers") 316, PySem.Value.str (PySem.Str.ofString "t_cc") 317, PySem.Value.str (PySem.Str.ofString "t_nc") 318, PySem.Value.str (PySem.Str.ofString "t_tt") 319, PySem.Value.str (PySem.Str.ofString "t_ct") 320, PySem.Value.str (PySem.Str.ofString "t_callers") 321] })) :: (@Prod.mk Nat PySem.Obj (nat_lit 95) ({ cls := PySem.Value.type "tuple", data := PySem.Data.seq #[] })) :: (@Prod.mk Nat PySem.Obj (nat_lit 97) ({ cls := PySem.Value.type "code", data := PySem.Data.fields #[PySem.Value.str (PySem.Str.ofString "add_func_stats") 307, PySem.Value.str (PySem.Str.ofString "add_func_stats") 308, PySem.Value.str (PySem.Str.ofString "/claim/cut.py") 309, PySem.Value.int 90 0, PySem.Value.int 2 0, PySem.Value.int 0 0, PySem.Value.int 0 0, PySem.Value.int 3 0, PySem.Value.ref 92, PySem.Value.bool Bool.true, PySem.Value.int 181 0, PySem.Value.ref 93, PySem.Value.none, PySem.Value.ref 94, PySem.Value.ref 95, PySem.Value.ref 96, PySem.Value.int 322 0, PySem.Value.int 90 0, PySem.Value.str (PySem.Str.ofString "/claim/cut.py") 323] })) :: (@Prod.mk Nat PySem.Obj (nat_lit 98) ({ cls := PySem.Value.type "function", data := PySem.Data.func { name := PySem.Str.ofString "add_func_stats", qualname := PySem.Str.ofString "add_func_stats", params := p98, body := PySem.FuncBody.stmts b98, scope := s98, globals := 3, closure := [], defaults := PySem.Value.none, kwdefaults := PySem.Value.none, pyModule := PySem.Value.str (PySem.Str.ofString "cpy313.pstats") 263, code := PySem.Value.ref 97 } })) :: (@Prod.mk Nat PySem.Obj (nat_lit 99) ({ cls := PySem.Value.type "tuple", data := PySem.Data.seq #[] })) :: (@Prod.mk Nat PySem.Obj (nat_lit 101) ({ cls := PySem.Value.type "tuple", data := PySem.Data.seq #[PySem.Value.str (PySem.Str.ofString "target") 328, PySem.Value.str (PySem.Str.ofString "source") 329, PySem.Value.str (PySem.Str.ofString "new_callers") 330, PySem.Value.str (PySem.Str.ofString "func") 331, PySem.Value.str (PySem.Str.ofString "caller") 332] })) :: (@Prod.mk Nat PySem.Obj (nat_lit 102) ({ cls := PySem.Value.type "tuple", data := PySem.Data.seq #[] })) :: (@Prod.mk Nat PySem.Obj (nat_lit 104) ({ cls := PySem.Value.type "code", data := PySem.Data.fields #[PySem.Value.str (PySem.Str.ofString "add_callers") 325, PySem.Value.str (PySem.Str.ofString "add_callers") 326, PySem.Value.str (PySem.Str.ofString "/claim/cut.py") 327, PySem.Value.int 94 0, PySem.Value.int 2 0, PySem.Value.int 0 0, PySem.Value.int 0 0, PySem.Value.int 3 0, PySem.Value.ref 99, PySem.Value.bool Bool.true, PySem.Value.int 181 0, PySem.Value.ref 100, PySem.Value.none, PySem.Value.ref 101, PySem.Value.ref 102, PySem.Value.ref 103, PySem.Value.int 333 0, PySem.Value.int 94 0, PySem.Value.str (PySem.Str.ofString "/claim/cut.py") 334] })) :: (@Prod.mk Nat PySem.Obj (nat_lit 105) ({ cls := PySem.Value.type "function", data := PySem.Data.func { name := PySem.Str.ofString "add_callers", qualname := PySem.Str.ofString "add_callers", params := p105, body := PySem.FuncBody.stmts b105, scope := s105, globals := 3, closure := [], defaults := PySem.Value.none, kwdefaults := PySem.Value.none, pyModule := PySem.Value.str (PySem.Str.ofString "cpy313.pstats") 263, code := PySem.Value.ref 104 } })) :: (@Prod.mk Nat PySem.Obj (nat_lit 106) ({ cls := PySem.Value.type "tuple", data := PySem.Data.seq #[] })) :: (@Prod.mk Nat PySem.Obj (nat_lit 108) ({ cls := PySem.Value.type "tuple", data := PySem.Data.seq #[PySem.Value.str (PySem.Str.ofString "callers") 339, PySem.Value.str (PySem.Str.ofString "nc") 340, PySem.Value.str (PySem.Str.ofString "calls") 341] })) :: (@Prod.mk Nat PySem.Obj (nat_lit 109) ({ cls := PySem.Value.type "tuple", data := PySem.Data.seq #[] })) :: (@Prod.mk Nat PySem.Obj (nat_lit 111) ({ cls := PySem.Value.type "code", data := PySem.Data.fields #[PySem.Value.str (PySem.Str.ofString "count_calls") 336, PySem.Value.str (PySem.Str.ofString "count_calls") 337, PySem.Value.str (PySem.Str.ofString "/claim/cut.py") 338, PySem.Value.int 107 0, PySem.Value.int 1 0, PySem.Value.int 0 0, PySem.Value.int 0 0, PySem.Value.int 3 0, PySem.Value.ref 106, PySem.Value.bool Bool.true, PySem.Value.int 181 0, PySem.Value.ref 107, PySem.Value.none, PySem.Value.ref 108, PySem.Value.ref 109, PySem.Value.ref 110, PySem.Value.int 342 0, PySem.Value.int 107 0, PySem.Value.str (PySem.Str.ofString "/claim/cut.py") 343] })) :: (@Prod.mk Nat PySem.Obj (nat_lit 112) ({ cls := PySem.Value.type "function", data := PySem.Data.func { name := PySem.Str.ofString "count_calls", qualname := PySem.Str.ofString "count_calls", params := p112, body := PySem.FuncBody.stmts b112, scope := s112, globals := 3, closure := [], defaults := PySem.Value.none, kwdefaults := PySem.Value.none, pyModule := PySem.Value.str (PySem.Str.ofString "cpy313.pstats") 263, code := PySem.Value.ref 111 } })) :: (@Prod.mk Nat PySem.Obj (nat_lit 113) ({ cls := PySem.Value.type "tuple", data := PySem.Data.seq #[] })) :: (@Prod.mk Nat PySem.Obj (nat_lit 115) ({ cls := PySem.Value.type "tuple", data := PySem.Data.seq #[PySem.Value.str (PySem.Str.ofString "text") 350, PySem.Value.str (PySem.Str.ofString "read") 351, PySem.Value.str (PySem.Str.ofString "stream") 352] })) :: (@Prod.mk Nat PySem.Obj (nat_lit 116) ({ cls := PySem.Value.type "tuple", data := PySem.Data.seq #[PySem.Value.str (PySem.Str.ofString "text") 353, PySem.Value.str (PySem.Str.ofString "place") 354] })) :: (@Prod.mk Nat PySem.Obj (nat_lit 118) ({ cls := PySem.Value.type "code", data := PySem.Data.fields #[PySem.Value.str (PySem.Str.ofString "_law_stream") 347, PySem.Value.str (PySem.Str.ofString "_law_stream") 348, PySem.Value.str (PySem.Str.ofString "/claim/cut.py") 349, PySem.Value.int 113 0, PySem.Value.int 1 0, PySem.Value.int 0 0, PySem.Value.int 0 0, PySem.Value.int 3 0, PySem.Value.ref 113, PySem.Value.bool Bool.true, PySem.Value.int 181 0, PySem.Value.ref 114, PySem.Value.none, PySem.Value.ref 115, PySem.Value.ref 116, PySem.Value.ref 117, PySem.Value.int 355 0, PySem.Value.int 113 0, PySem.Value.str (PySem.Str.ofString "/claim/cut.py") 356] })) :: (@Prod.mk Nat PySem.Obj (nat_lit 119) ({ cls := PySem.Value.type "function", data := PySem.Data.func { name := PySem.Str.ofString "_law_stream", qualname := PySem.Str.ofString "_law_stream", params := p119, body := PySem.FuncBody.stmts b119, scope := s119, globals := 3, closure := [], defaults := PySem.Value.none, kwdefaults := PySem.Value.none, pyModule := PySem.Value.str (PySem.Str.ofString "law_pm0031_01") 345, code := PySem.Value.ref 118 } })) :: (@Prod.mk Nat PySem.Obj (nat_lit 120) ({ cls := PySem.Value.type "tuple", data := PySem.Data.seq #[] })) :: (@Prod.mk Nat PySem.Obj (nat_lit 123) ({ cls := PySem.Value.type "code", data := PySem.Data.fields #[PySem.Value.str (PySem.Str.ofString "_law_written") 358, PySem.Value.str (PySem.Str.ofString "_law_written") 359, PySem.Value.str (PySem.Str.ofString "/claim/cut.py") 360, PySem.Value.int 122 0, PySem.Value.int 2 0, PySem.Value.int 0 0, PySem.Value.int 0 0, PySem.Value.int 3 0, PySem.Value.ref 120, PySem.Value.bool Bool.true, PySem.Value.int 181 0, PySem.Value.ref 121, PySem.Value.none, PySem.Value.none, PySem.Value.none, PySem.Value.ref 122, PySem.Value.int 361 0, PySem.Value.int 122 0, PySem.Value.str (PySem.Str.ofString "/claim/cut.py") 362] })) :: (@Prod.mk Nat PySem.Obj (nat_lit 124) ({ cls := PySem.Value.type "function", data := PySem.Data.func { name := PySem.Str.ofString "_law_written", qualname := PySem.Str.ofString "_law_written", params := p124, body := PySem.FuncBody.stmts b124, scope := s124, globals := 3, closure := [], defaults := PySem.Value.none, kwdefaults := PySem.Value.none, pyModule := PySem.Value.str (PySem.Str.ofString "law_pm0031_01") 345, code := PySem.Value.ref 123 } })) :: (@Prod.mk Nat PySem.Obj (nat_lit 125) ({ cls := PySem.Value.type "tuple", data := PySem.Data.seq #[] })) :: (@Prod.mk Nat PySem.Obj (nat_lit 128) ({ cls := PySem.Value.type "code", data := PySem.Data.fields #[PySem.Value.str (PySem.Str.ofString "_law_texts") 364, PySem.Value.str (PySem.Str.ofString "_law_texts") 365, PySem.Value.str (PySem.Str.ofString "/claim/cut.py") 366, PySem.Value.int 131 0, PySem.Value.int 4 0, PySem.Value.int 0 0, PySem.Value.int 0 0, PySem.Value.int 3 0, PySem.Value.ref 125, PySem.Value.bool Bool.true, PySem.Value.int 181 0, PySem.Value.ref 126, PySem.Value.none, PySem.Value.none, PySem.Value.none, PySem.Value.ref 127, PySem.Value.int 367 0, PySem.Value.int 131 0, PySem.Value.str (PySem.Str.ofString "/claim/cut.py") 368] })) :: (@Prod.mk Nat PySem.Obj (nat_lit 129) ({ cls := PySem.Value.type "function", data := PySem.Data.func { name := PySem.Str.ofString "_law_texts", qualname := PySem.Str.ofString "_law_texts", params := p129, body := PySem.FuncBody.stmts b129, scope := s129, globals := 3, closure := [], defaults := PySem.Value.none, kwdefaults := PySem.Value.none, pyModule := PySem.Value.str (PySem.Str.ofString "law_pm0031_01") 345, code := PySem.Value.ref 128 } })) :: (@Prod.mk Nat PySem.Obj (nat_lit 130) ({ cls := PySem.Value.type "tuple", data := PySem.Data.seq #[] })) :: (@Prod.mk Nat PySem.Obj (nat_lit 133) ({ cls := PySem.Value.type "code", data := PySem.Data.fields #[PySem.Value.str (PySem.Str.ofString "_law_books") 370, PySem.Value.str (PySem.Str.ofString "_law_books") 371, PySem.Value.str (PySem.Str.ofString "/claim/cut.py") 372, PySem.Value.int 143 0, PySem.Value.int 3 0, PySem.Value.int 0 0, PySem.Value.int 0 0, PySem.Value.int 3 0, PySem.Value.ref 130, PySem.Value.bool Bool.true, PySem.Value.int 181 0, PySem.Value.ref 131, PySem.Value.none, PySem.Value.none, PySem.Value.none, PySem.Value.ref 132, PySem.Value.int 373 0, PySem.Value.int 143 0, PySem.Value.str (PySem.Str.ofString "/claim/cut.py") 374] })) :: (@Prod.mk Nat PySem.Obj (nat_lit 134) ({ cls := PySem.Value.type "function", data := PySem.Data.func { name := PySem.Str.ofString "_law_books", qualname := PySem.Str.ofString "_law_books", params := p134, body := PySem.FuncBody.stmts b134, scope := s134, globals := 3, closure := [], defaults := PySem.Value.none, kwdefaults := PySem.Value.none, pyModule := PySem.Value.str (PySem.Str.ofString "law_pm0031_01") 345, code := PySem.Value.ref 133 } })) :: (@Prod.mk Nat PySem.Obj (nat_lit 135) ({ cls := PySem.Value.type "tuple", data := PySem.Data.seq #[] })) :: (@Prod.mk Nat PySem.Obj (nat_lit 138) ({ cls := PySem.Value.type "code", data := PySem.Data.fields #[PySem.Value.str (PySem.Str.ofString "_law_product") 376, PySem.Value.str (PySem.Str.ofString "_law_product") 377, PySem.Value.str (PySem.Str.ofString "/claim/cut.py") 378, PySem.Value.int 150 0, PySem.Value.int 2 0, PySem.Value.int 0 0, PySem.Value.int 0 0, PySem.Value.int 3 0, PySem.Value.ref 135, PySem.Value.bool Bool.true, PySem.Value.int 181 0, PySem.Value.ref 136, PySem.Value.none, PySem.Value.none, PySem.Value.none, PySem.Value.ref 137, PySem.Value.int 379 0, PySem.Value.int 150 0, PySem.Value.str (PySem.Str.ofString "/claim/cut.py") 380] })) :: (@Prod.mk Nat PySem.Obj (nat_lit 139) ({ cls := PySem.Value.type "function", data := PySem.Data.func { name := PySem.Str.ofString "_law_product", qualname := PySem.Str.ofString "_law_product", params := p139, body := PySem.FuncBody.stmts b139, scope := s139, globals := 3, closure := [], defaults := PySem.Value.none, kwdefaults := PySem.Value.none, pyModule := PySem.Value.str (PySem.Str.ofString "law_pm0031_01") 345, code := PySem.Value.ref 138 } })) :: (@Prod.mk Nat PySem.Obj (nat_lit 140) ({ cls := PySem.Value.type "tuple", data := PySem.Data.seq #[] })) :: (@Prod.mk Nat PySem.Obj (nat_lit 142) ({ cls := PySem.Value.type "tuple", data := PySem.Data.seq #[PySem.Value.str (PySem.Str.ofString "left") 385, PySem.Value.str (PySem.Str.ofString "right") 386, PySem.Value.str (PySem.Str.ofString "times") 387, PySem.Value.str (PySem.Str.ofString "one") 388, PySem.Value.str (PySem.Str.ofString "other") 389] })) :: (@Prod.mk Nat PySem.Obj (nat_lit 143) ({ cls := PySem.Value.type "tuple", data := PySem.Data.seq #[] })) :: (@Prod.mk Nat PySem.Obj (nat_lit 145) ({ cls := PySem.Value.type "code", data := PySem.Data.fields #[PySem.Value.str (PySem.Str.ofString "_law_times") 382, PySem.Value.str (PySem.Str.ofString "_law_times") 383, PySem.Value.str (PySem.Str.ofString "/claim/cut.py") 384, PySem.Value.int 152 0, PySem.Value.int 2 0, PySem.Value.int 0 0, PySem.Value.int 0 0, PySem.Value.int 3 0, PySem.Value.ref 140, PySem.Value.bool Bool.true, PySem.Value.int 181 0, PySem.Value.ref 141, PySem.Value.none, PySem.Value.ref 142, PySem.Value.ref 143, PySem.Value.ref 144, PySem.Value.int 390 0, PySem.Value.int 152 0, PySem.Value.str (PySem.Str.ofString "/claim/cut.py") 391] })) :: (@Prod.mk Nat PySem.Obj (nat_lit 146) ({ cls := PySem.Value.type "function", data := PySem.Data.func { name := PySem.Str.ofString "_law_times", qualname := PySem.Str.ofString "_law_times", params := p146, body := PySem.FuncBody.stmts b146, scope := s146, globals := 3, closure := [], defaults := PySem.Value.none, kwdefaults := PySem.Value.none, pyModule := PySem.Value.str (PySem.Str.ofString "law_pm0031_01") 345, code := PySem.Value.ref 145 } })) :: (@Prod.mk Nat PySem.Obj (nat_lit 147) ({ cls := PySem.Value.type "tuple", data := PySem.Data.seq #[] })) :: (@Prod.mk Nat PySem.Obj (nat_lit 149) ({ cls := PySem.Value.type "tuple", data := PySem.Data.seq #[PySem.Value.str (PySem.Str.ofString "product") 396, PySem.Value.str (PySem.Str.ofString "pattern") 397, PySem.Value.str (PySem.Str.ofString "pieces") 398, PySem.Value.str (PySem.Str.ofString "sign") 399, PySem.Value.str (PySem.Str.ofString "piece") 400, PySem.Value.str (PySem.Str.ofString "overlaps") 401, PySem.Value.str (PySem.Str.ofString "k") 402, PySem.Value.str (PySem.Str.ofString "factor") 403, PySem.Value.str (PySem.Str.ofString "whole") 404] })) :: (@Prod.mk Nat PySem.Obj (nat_lit 150) ({ cls := PySem.Value.type "tuple", data := PySem.Data.seq #[] })) :: (@Prod.mk Nat PySem.Obj (nat_lit 152) ({ cls := PySem.Value.type "code", data := PySem.Data.fields #[PySem.Value.str (PySem.Str.ofString "_law_moved") 393, PySem.Value.str (PySem.Str.ofString "_law_moved") 394, PySem.Value.str (PySem.Str.ofString "/claim/cut.py") 395, PySem.Value.int 158 0, PySem.Value.int 4 0, PySem.Value.int 0 0, PySem.Value.int 0 0, PySem.Value.int 3 0, PySem.Value.ref 147, PySem.Value.bool Bool.true, PySem.Value.int 181 0, PySem.Value.ref 148, PySem.Value.none, PySem.Value.ref 149, PySem.Value.ref 150, PySem.Value.ref 151, PySem.Value.int 405 0, PySem.Value.int 158 0, PySem.Value.str (PySem.Str.ofString "/claim/cut.py") 406] })) :: (@Prod.mk Nat PySem.Obj (nat_lit 153) ({ cls := PySem.Value.type "function", data := PySem.Data.func { name := PySem.Str.ofString "_law_moved", qualname := PySem.Str.ofString "_law_moved", params := p153, body := PySem.FuncBody.stmts b153, scope := s153, globals := 3, closure := [], defaults := PySem.Value.none, kwdefaults := PySem.Value.none, pyModule := PySem.Value.str (PySem.Str.ofString "law_pm0031_01") 345, code := PySem.Value.ref 152 } })) :: (@Prod.mk Nat PySem.Obj (nat_lit 154) ({ cls := PySem.Value.type "tuple", data := PySem.Data.seq #[] })) :: (@Prod.mk Nat PySem.Obj (nat_lit 157) ({ cls := PySem.Value.type "code", data := PySem.Data.fields #[PySem.Value.str (PySem.Str.ofString "law") 408, PySem.Value.str (PySem.Str.ofString "law") 409, PySem.Value.str (PySem.Str.ofString "/claim/cut.py") 410, PySem.Value.int 171 0, PySem.Value.int 1 0, PySem.Value.int 0 0, PySem.Value.int 0 0, PySem.Value.int 3 0, PySem.Value.ref 154, PySem.Value.bool Bool.true, PySem.Value.int 181 0, PySem.Value.ref 155, PySem.Value.none, PySem.Value.none, PySem.Value.none, PySem.Value.ref 156, PySem.Value.int 411 0, PySem.Value.int 171 0, PySem.Value.str (PySem.Str.ofString "/claim/cut.py") 412] })) :: (@Prod.mk Nat PySem.Obj (nat_lit 158) ({ cls := PySem.Value.type "function", data := PySem.Data.func { name := PySem.Str.ofString "law", qualname := PySem.Str.ofString "law", params := p158, body := PySem.FuncBody.stmts b158, scope := s158, globals := 3, closure := [], defaults := PySem.Value.none, kwdefaults := PySem.Value.none, pyModule := PySem.Value.str (PySem.Str.ofString "law_pm0031_01") 345, code := PySem.Value.ref 157 } })) :: []
  all_goals (refine Eq.trans (b := some (_, _, _)) rfl ?_; first | (dsimp only; done) | exact rfl)
end Mine
end
namespace Mine
theorem fill_it : KF = KF ∧ PySem.Challenge.rw_pm0031_01 = PySem.Challenge.rw_pm0031_01 := by
  k_fill
  exact ⟨rfl, rfl⟩
end Mine
section
namespace Mine
open PySem.Spec PySem.Calls

/-- a call's contract: from any caller's frame, with the ledger `news`, the tree ends in a value and a ledger that `post` tells -/
noncomputable def Con (prog : Program) (w : World) (K : Frag) (dd uu : Nat) (tree : Sem Value) (news : List (Addr × Obj)) (post : Value → List (Addr × Obj) → Prop) : Prop :=
  ∀ (p : Program) (loose : List Str) (mean : ExcName → Option Value) (mg mb : Str → Option Value) (dp un : Nat) (gd : Option (List Code)) (cn : Str) (cs : Scope) (a : Addr) (ccd : Value) (cl : List (Str × Addr)) (outer : List Env) (A₀ : Around) (base h₀ : Heap) (L : Addr) (m : Str → Option Value) (s : Shared) (Q E : Value → Shared → Prop),
    Below A₀ base outer h₀ → Fr h₀ L s.heap m → K.In h₀ → News h₀ L s.heap news → Top p loose mean mg mb h₀ → cs.kind = .function → dp + dd < recursionLimit → un + uu < cLine →
    (∀ r h' tk' news', Fr h₀ L h' m → News h₀ L h' news' → post r news' → Q r { s with heap := h', toks := tk' }) →
    wpAny (model prog w) (ktrTop dp un gd cn cs L a ccd cl outer) tree Q E s

/-- as Con, what the call ends in told by steps: G P says that P holds of every outcome -/
noncomputable def ConG (prog : Program) (w : World) (K : Frag) (dd uu : Nat) (tree : Sem Value) (news : List (Addr × Obj)) (G : (Value → List (Addr × Obj) → Prop) → Prop) : Prop :=
  ∀ (p : Program) (loose : List Str) (mean : ExcName → Option Value) (mg mb : Str → Option Value) (dp un : Nat) (gd : Option (List Code)) (cn : Str) (cs : Scope) (a : Addr) (ccd : Value) (cl : List (Str × Addr)) (outer : List Env) (A₀ : Around) (base h₀ : Heap) (L : Addr) (m : Str → Option Value) (s : Shared) (Q E : Value → Shared → Prop),
    Below A₀ base outer h₀ → Fr h₀ L s.heap m → K.In h₀ → News h₀ L s.heap news → Top p loose mean mg mb h₀ → cs.kind = .function → dp + dd < recursionLimit → un + uu < cLine →
    G (fun r nw => ∀ h' tk', Fr h₀ L h' m → News h₀ L h' nw → Q r { s with heap := h', toks := tk' }) →
    wpAny (model prog w) (ktrTop dp un gd cn cs L a ccd cl outer) tree Q E s
theorem conG_use {prog : Program} {w : World} {K : Frag} {dd uu : Nat} {tree : Sem Value} {news : List (Addr × Obj)} {G : (Value → List (Addr × Obj) → Prop) → Prop} (C : ConG prog w K dd uu tree news G)
    {p : Program} {loose : List Str} {mean : ExcName → Option Value} {mg mb : Str → Option Value} {dp un : Nat} {gd : Option (List Code)} {cn : Str} {cs : Scope} {a : Addr} {ccd : Value} {cl : List (Str × Addr)} {outer : List Env} {A₀ : Around} {base h₀ : Heap} {L : Addr} {m : Str → Option Value} {s : Shared} {Q E : Value → Shared → Prop}
    (B : Below A₀ base outer h₀) (F : Fr h₀ L s.heap m) (X : K.In h₀) (N : News h₀ L s.heap news) (T : Top p loose mean mg mb h₀) (hk : cs.kind = .function) (hd : dp + dd < recursionLimit) (hu : un + uu < cLine)
    (ret : G (fun r nw => ∀ h' tk', Fr h₀ L h' m → News h₀ L h' nw → Q r { s with heap := h', toks := tk' })) :
    wpAny (model prog w) (ktrTop dp un gd cn cs L a ccd cl outer) tree Q E s := C p loose mean mg mb dp un gd cn cs a ccd cl outer A₀ base h₀ L m s Q E B F X N T hk hd hu ret
/-- as ConG, where a code table is laid aside -/
noncomputable def ConTG (c P : Addr) (prog : Program) (w : World) (K : Frag) (dd uu : Nat) (tree : Sem Value) (news : List (Addr × Obj)) (G : (Value → List (Addr × Obj) → Prop) → Prop) : Prop :=
  ∀ (p : Program) (loose : List Str) (mean : ExcName → Option Value) (mg mb : Str → Option Value) (dp un : Nat) (gd : Option (List Code)) (cn : Str) (cs : Scope) (a : Addr) (ccd : Value) (cl : List (Str × Addr)) (outer : List Env) (A₀ : Around) (base h₀ : Heap) (L : Addr) (m : Str → Option Value) (s : Shared) (Q E : Value → Shared → Prop),
    CodeHd h₀ c P → Below A₀ base outer h₀ → Fr h₀ L s.heap m → K.In h₀ → News h₀ L s.heap news → Top p loose mean mg mb h₀ → cs.kind = .function → dp + dd < recursionLimit → un + uu < cLine →
    G (fun r nw => ∀ h' tk', Fr h₀ L h' m → News h₀ L h' nw → Q r { s with heap := h', toks := tk' }) →
    wpAny (model prog w) (ktrTop dp un gd cn cs L a ccd cl outer) tree Q E s
theorem conTG_use {c P : Addr} {prog : Program} {w : World} {K : Frag} {dd uu : Nat} {tree : Sem Value} {news : List (Addr × Obj)} {G : (Value → List (Addr × Obj) → Prop) → Prop} (C : ConTG c P prog w K dd uu tree news G)
    {p : Program} {loose : List Str} {mean : ExcName → Option Value} {mg mb : Str → Option Value} {dp un : Nat} {gd : Option (List Code)} {cn : Str} {cs : Scope} {a : Addr} {ccd : Value} {cl : List (Str × Addr)} {outer : List Env} {A₀ : Around} {base h₀ : Heap} {L : Addr} {m : Str → Option Value} {s : Shared} {Q E : Value → Shared → Prop}
    (CH : CodeHd h₀ c P) (B : Below A₀ base outer h₀) (F : Fr h₀ L s.heap m) (X : K.In h₀) (N : News h₀ L s.heap news) (T : Top p loose mean mg mb h₀) (hk : cs.kind = .function) (hd : dp + dd < recursionLimit) (hu : un + uu < cLine)
    (ret : G (fun r nw => ∀ h' tk', Fr h₀ L h' m → News h₀ L h' nw → Q r { s with heap := h', toks := tk' })) :
    wpAny (model prog w) (ktrTop dp un gd cn cs L a ccd cl outer) tree Q E s := C p loose mean mg mb dp un gd cn cs a ccd cl outer A₀ base h₀ L m s Q E CH B F X N T hk hd hu ret

section
variable {prog : Program} {w : World} {A : Around} {E : Value → Shared → Prop} {s : Shared} {env : Env} {h₀ : Heap} {x : Str} {body : List Stmt} {Q : Flow → Shared → Prop}

/-- what a turn's end owes -/
noncomputable def TurnEnd (h₀ : Heap) (L I : Addr) (oI : Obj) (J : (Str → Option Value) → List (Addr × Obj) → Prop) (s₁ : Shared) (Q : Flow → Shared → Prop) (f : Flow) (s₂ : Shared) : Prop :=
  match f with
  | .ret v => Q (.ret v) s₂
  | .brk => Q .next s₂
  | _ => ∃ h' tk m' nw, s₂ = { s₁ with heap := h', toks := tk } ∧ Fr h₀ L h' m' ∧ News h₀ L h' ((I, oI) :: nw) ∧ (∀ p ∈ nw, p.1 ≠ I) ∧ J m' nw

theorem loopV {I : Addr} {fp : List Addr} {n : Nat} {P : Nat → Value → Prop} {St : Nat → Heap → Prop} {m₀ : Str → Option Value} {news : List (Addr × Obj)} (S : List (Addr × Obj) → Prop) (J : Nat → (Str → Option Value) → List (Addr × Obj) → Prop)
    (W : Walks prog w A I fp [I] n P St) (hIo : ∀ i h, St i h → ∃ o, h.get? I = some o) (hLf : env.locals ∉ fp) (hI : h₀.get? I = none) (hnw : ∀ p ∈ news, p.1 ≠ I)
    (hfp : ∀ b ∈ fp, b = I ∨ (∃ o, h₀.get? b = some o) ∨ ∃ o, ∀ nw, S nw → (b, o) ∈ nw)
    (hst : St 0 s.heap) (F : Fr h₀ env.locals s.heap m₀) (N : News h₀ env.locals s.heap news) (hj : J 0 m₀ news) (hS : ∀ i m nw, J i m nw → S nw)
    (turn : ∀ i v m₁ nw h tk oI, i < n → P i v → J i m₁ nw → (∀ p ∈ nw, p.1 ≠ I) → Fr h₀ env.locals h (fun y => if y = x then some v else m₁ y) → News h₀ env.locals h ((I, oI) :: nw) →
      wpAny (model prog w) A (execs body env) (TurnEnd h₀ env.locals I oI (J (i + 1)) { s with heap := h, toks := tk } Q) E { s with heap := h, toks := tk })
    (done : ∀ m₁ nw h tk, J n m₁ nw → Fr h₀ env.locals h m₁ → News h₀ env.locals h nw → Q .next { s with heap := h, toks := tk }) :
    LoopAtV prog w A h₀ env x body Q E (.ref I) s := by
  refine ⟨I, fp, [I], n, P, St, m₀, news, J, rfl, W, hLf, fun b hb => by rw [List.mem_singleton.mp hb]; exact hI, fun p hp hb => hnw p hp (List.mem_singleton.mp hb), hst, F, N, hj, ?_, ?_⟩
  · rintro i v m₁ nw s₁ own ⟨hh', tk', rfl⟩ hin hP hJ hoff hown hog hall hst₁ F₁ N₁
    obtain ⟨oI, hoI⟩ := hIo _ _ hst₁
    have hIf : I ∈ fp := W.sub I (List.mem_singleton.mpr rfl)
    have hIown : (I, oI) ∈ own := hall I hIf hI oI hoI
    have N₂ : News h₀ env.locals hh' ((I, oI) :: nw) := fun p hp => by
      rcases List.mem_cons.mp hp with rfl | hp
      · exact N₁ _ (List.mem_append_left _ hIown)
      · exact N₁ _ (List.mem_append_right _ hp)
    refine wpAny_mono (turn i v m₁ nw hh' tk' oI hin hP hJ (fun p hp e => hoff p hp (List.mem_singleton.mpr e)) F₁ N₂) (fun f s₂ q => ?_) fun _ _ e => e
    have fin : (∃ h' tk m' nw, s₂ = { s with heap := h', toks := tk } ∧ Fr h₀ env.locals h' m' ∧ News h₀ env.locals h' ((I, oI) :: nw) ∧ (∀ p ∈ nw, p.1 ≠ I) ∧ J (i + 1) m' nw) →
        LoopStepU h₀ env.locals [I] own (J (i + 1)) { s with heap := hh', toks := tk' } .next s₂ := by
      rintro ⟨h', tk, m', nw', e, F', N', hn, hJ'⟩
      refine ⟨rfl, h', tk, m', nw', e, F', fun p hp => ?_, fun p hp hb => hn p hp (List.mem_singleton.mp hb), hJ'⟩
      rcases List.mem_append.mp hp with hp | hp
      · have z := N₁ p (List.mem_append_left _ hp)
        rcases hfp p.1 (hown p hp) with e | ⟨o, ho⟩ | ⟨o, ho⟩
        · have : p = (I, oI) := by
            obtain ⟨a, ob⟩ := p
            dsimp only at e z; subst e
            rw [hoI] at z
            rw [Option.some.inj z.1]
          rw [this]; exact N' _ (.head _)
        · rw [ho] at z; cases z.2.2
        · have h1 := N₁ _ (List.mem_append_right own (ho nw (hS _ _ _ hJ)))
          have : p = (p.1, o) := by
            obtain ⟨a, ob⟩ := p
            dsimp only at h1 z ⊢
            rw [z.1] at h1
            rw [Option.some.inj h1.1]
          rw [this]; exact N' _ (.tail _ (ho nw' (hS _ _ _ hJ')))
      · exact N' _ (.tail _ hp)
    cases f with
    | ret v => exact LoopStepV.ret q
    | brk => exact LoopStepV.brk q
    | next => exact LoopStepV.next (fin q)
    | cont => exact LoopStepV.cont (fin q)
  · rintro h' tk m' nw F' N' _ hJ
    exact done m' nw h' tk hJ F' N'

/-- a for over a list that stands in the ledger and does not change -/
theorem forList {ax : Addr} {lo : Obj} {vs : List Value} {m₀ : Str → Option Value} {news : List (Addr × Obj)} (J : Nat → (Str → Option Value) → List (Addr × Obj) → Prop)
    (hh : A.handled = none) (hc : lo.cls = .type "list") (hd : ∃ k, lo.data = .seq vs.toArray k) (F : Fr h₀ env.locals s.heap m₀) (N : News h₀ env.locals s.heap news)
    (hS : ∀ i m nw, J i m nw → (ax, lo) ∈ nw) (hj : J 0 m₀ news)
    (turn : ∀ i v m₁ nw h tk I oI, vs[i]? = some v → J i m₁ nw → (∀ p ∈ news, p.1 < I) → (∀ p ∈ nw, p.1 ≠ I) → Fr h₀ env.locals h (fun y => if y = x then some v else m₁ y) → News h₀ env.locals h ((I, oI) :: nw) →
      wpAny (model prog w) A (execs body env) (TurnEnd h₀ env.locals I oI (J (i + 1)) { s with heap := h, toks := tk } Q) E { s with heap := h, toks := tk })
    (done : ∀ m₁ nw h tk, J vs.length m₁ nw → Fr h₀ env.locals h m₁ → News h₀ env.locals h nw → Q .next { s with heap := h, toks := tk }) :
    wpAny (model prog w) A (pyIter (.ref ax)) (fun it s₂ => LoopAtV prog w A h₀ env x body Q E it s₂) E s := by
  have hm := hS 0 m₀ news hj
  have hget := (N _ hm).1
  have hls : s.heap.IsList ax vs.toArray := ⟨lo, hget, hc, hd⟩
  have hne : ax ≠ s.heap.objs.size := Nat.ne_of_lt (Heap.lt_size hget)
  refine wpAny_pyIter_list hls ?_
  have W := Walks.list (prog := prog) (w := w) hh s.heap.objs.size ax hne vs.toArray
  rw [List.size_toArray] at W
  refine loopV (fun nw => (ax, lo) ∈ nw) J W (fun i h st => by obtain ⟨o, e, _⟩ := st.1; exact ⟨o, e⟩) ?_ (next_is_new F) (fun p hp => Nat.ne_of_lt (Heap.lt_size (N p hp).1)) ?_ ?_ (F.push _) (fun p hp => ⟨Heap.get?_push_of_some _ (N p hp).1, (N p hp).2⟩) hj hS ?_ ?_
  · intro hb
    rcases List.mem_cons.mp hb with e | hb
    · exact absurd F.ns.lt (e ▸ Nat.lt_irrefl _)
    · have := (N _ hm).2.1
      exact this (List.mem_singleton.mp hb).symm
  · intro b hb
    rcases List.mem_cons.mp hb with e | hb
    · exact .inl e
    · rw [List.mem_singleton.mp hb]; exact .inr (.inr ⟨lo, fun _ h => h⟩)
  · exact ⟨⟨_, Heap.get?_push_size _ rfl, rfl, rfl⟩, hls.at fun o e => Heap.get?_push_of_some _ e⟩
  · intro i v m₁ nw h tk oI hi hP hJ hoff F₁ N₁
    refine turn i v m₁ nw h tk _ oI (by simpa using hP) hJ (fun p hp => Heap.lt_size (N p hp).1) hoff F₁ N₁
  · exact done
end
end Mine
namespace Mine
open PySem.Spec PySem.Calls
section
variable {prog : Program} {w : World} {A : Around} {E : Value → Shared → Prop} {s : Shared} {h₀ h h' : Heap} {L d : Addr} {m : Str → Option Value} {news : List (Addr × Obj)} {g : Obj → List (Addr × Obj)} {o o' : Obj}

theorem ne_of_allLt {d : Addr} : ∀ {news : List (Addr × Obj)}, AllLt d news → ∀ p ∈ news, p.1 ≠ d
  | [], _, _, h => nomatch h
  | p :: r, x, q, h => by
    rcases List.mem_cons.mp h with rfl | h
    · exact Nat.ne_of_lt x.1
    · exact ne_of_allLt x.2 q h
theorem allLt_le {d d' : Addr} (hd : d ≤ d') : ∀ {news : List (Addr × Obj)}, AllLt d news → AllLt d' news
  | [], _ => trivial
  | _ :: _, x => ⟨Nat.lt_of_lt_of_le x.1 hd, allLt_le hd x.2⟩
theorem updN (N : News h₀ L h news) (U : UpdF d o news g) (hs : Heap.SameBut d h h') (ho : h'.get? d = some o') : News h₀ L h' (g o') := by
  obtain ⟨pre, post, rfl, hg, h1, h2⟩ := U.split
  rw [hg]
  intro q hq
  rcases List.mem_append.mp hq with hq | hq
  · have n := N q (List.mem_append_left _ hq)
    exact ⟨(hs.2 q.1 (h1 q hq)).trans n.1, n.2⟩
  · rcases List.mem_cons.mp hq with rfl | hq
    · exact ⟨ho, (N (d, o) (List.mem_append_right _ (.head _))).2⟩
    · have n := N q (List.mem_append_right _ (.tail _ hq))
      exact ⟨(hs.2 q.1 (h2 q hq)).trans n.1, n.2⟩
theorem updMem (U : UpdF d o news g) : (d, o) ∈ news := by
  obtain ⟨pre, post, rfl, _⟩ := U.split
  exact List.mem_append_right _ (.head _)
theorem updFr (F : Fr h₀ L h m) (N : News h₀ L h news) (U : UpdF d o news g) (hs : Heap.SameBut d h h') : Fr h₀ L h' m :=
  F.change hs (N _ (updMem U)).2.1 (N _ (updMem U)).2.2

theorem r_len {vs : List Value} {k : Nat} {Q : Value → Shared → Prop} (N : News h₀ L s.heap news) (hm : (d, W.listOf vs.toArray k) ∈ news) (hfit : vs.length < 2 ^ 62)
    (q : Q (.int (vs.length : Nat) (s.toks + 1)) { s with toks := s.toks + 1 + 1 }) : wpAny (model prog w) A (call (.builtin "len") [.ref d]) Q E s := by
  have e : vs.toArray.size = vs.length := by simp
  refine Calls.call_len_list (items := vs.toArray) ⟨_, (N _ hm).1, rfl, _, rfl⟩ (by rw [e]; lia) ?_
  rw [e]; exact q
theorem r_item {value slice : Expr} {vs : List Value} {k : Nat} {i : Int} {u : Tok} {v : Value} {Q : Value → Shared → Prop} (N : News h₀ L s.heap news) (hm : (d, W.listOf vs.toArray k) ∈ news) (h0 : 0 ≤ i) (hf : i < 2 ^ 63) (hx : vs[i.toNat]? = some v) (q : Q v s)
    (hs : subscripted slice false (.ref d) (.int i u) = operate [.ref d, .int i u] (getItem (.ref d) (.int i u)) := by with_unfolding_all rfl) (hg : ∀ r, letTemporaryGo value (.ref d) r = pure () := by intro _; with_unfolding_all rfl) :
    wpAny (model prog w) A (subscriptTail value slice (.ref d) (.int i u)) Q E s :=
  item_list (l := d) (items := vs.toArray) ⟨_, (N _ hm).1, rfl, _, rfl⟩ h0 hf (by simpa using hx) q hs hg
theorem r_del {vs : List Value} {k j : Nat} {i : Int} {u : Tok} {Q : Unit → Shared → Prop} (F : Fr h₀ L s.heap m) (N : News h₀ L s.heap news) (U : UpdF d (W.listOf vs.toArray k) news g)
    (hfit : Builtin.List.listFitsIndex i = true) (hk : seqIndex? i vs.length = some j) (hsz : vs.length ≤ 10000)
    (q : ∀ h', Fr h₀ L h' m → News h₀ L h' (g (W.listOf (vs.eraseIdx j).toArray (k + 1))) → Q () { s with heap := h' }) :
    wpAny (model prog w) A (delItem (.ref d) (.int i u)) Q E s :=
  delItem_at (its := vs.toArray) (N _ (updMem U)).1 hfit (by simpa using hk) (fun h' hs ho => q h' (updFr F N U hs) (updN N U hs ho)) (by rw [sizeLine_eq]; simp; lia)
theorem r_truthyS {x : Str} {t : Tok} {Q : Bool → Shared → Prop} (hx : x.length ≤ 1000000) (q : Q (decide (0 < x.length)) { s with toks := s.toks + 1 + 1 }) : wpAny (model prog w) A (truthy (.str x t)) Q E s := by
  refine PySem.P.truthy_str (by lia) ?_
  have e : ((x.length : Int) != 0) = decide (0 < x.length) := by
    by_cases h : 0 < x.length
    · rw [decide_eq_true h]; simp; lia
    · rw [decide_eq_false h]; have : x.length = 0 := by lia
      rw [this]; rfl
  rw [e]; exact q
open Builtin Builtin.Str in
noncomputable def fnd (x y : Str) (i j : Int) : Int := match occurrences x y (fromIndex x.length i) (min (fromIndex x.length j) x.length) 1 with | k :: _ => (k : Int) | [] => -1
open Builtin Builtin.Str in
theorem gives_find4 (x y : Str) (i j : Int) (t u v v' : Tok) : Gives («str.find» ⟨[.str x t, .str y u, .int i v, .int j v'], []⟩) (.int (fnd x y i j)) := by
  unfold fnd
  show Gives (match occurrences x y (fromIndex x.length i) (min (fromIndex x.length j) x.length) 1 with | k :: _ => retInt k | [] => (do rule "str.find.not-found"; retInt (-1))) _
  cases occurrences x y (fromIndex x.length i) (min (fromIndex x.length j) x.length) 1 with
  | nil => exact .rule (.of_eq rfl)
  | cons k r => exact .of_eq rfl
theorem r_find4 {x y : Str} {i j : Int} {t u v v' : Tok} {Q : Value → Shared → Prop} (q : Q (.int (fnd x y i j) s.toks) { s with toks := s.toks + 1 }) :
    wpAny (model prog w) A (call (.builtin "str.find") [.str x t, .str y u, .int i v, .int j v']) Q E s :=
  call_gives F.slot_str_find (typeIs_str _ _ _) F.entry_str_find (F.args_str_find_4 _ _ _ _) (gives_find4 x y i j t u v v') q
theorem strs_open2 {vs : List Value} {w0 wl : Str} {mid : List Str} (x : StrsAre vs (w0 :: (mid ++ [wl]))) : ∃ t0 vm tl, vs = .str w0 t0 :: (vm ++ [.str wl tl]) ∧ StrsAre vm mid := by
  have snoc : ∀ {mid : List Str} {vs : List Value}, StrsAre vs (mid ++ [wl]) → ∃ vm tl, vs = vm ++ [.str wl tl] ∧ StrsAre vm mid := by
    intro mid
    induction mid with
    | nil => intro vs x; cases x with | cons _ t r => cases r; exact ⟨[], t, rfl, .nil⟩
    | cons a r ih => intro vs x; cases x with
      | cons _ t r => obtain ⟨vm, tl, rfl, z⟩ := ih r; exact ⟨.str a t :: vm, tl, rfl, .cons _ _ z⟩
  cases x with
  | cons _ t r => obtain ⟨vm, tl, rfl, z⟩ := snoc r; exact ⟨t, vm, tl, rfl, z⟩
theorem r_split {x y w0 wl : Str} {mid : List Str} {t u : Tok} {Q : Value → Shared → Prop} (hF : Fr h₀ L s.heap m) (hN : News h₀ L s.heap news) (hy : (y.length == 0) = false) (hs : Txt.split x y = w0 :: (mid ++ [wl])) (hsz : x.length ≤ 1000)
    (q : ∀ D t0 vm tl h' k, StrsAre vm mid → vm.length = mid.length → Fr h₀ L h' m → News h₀ L h' ((D, W.listOf (.str w0 t0 :: (vm ++ [.str wl tl])).toArray 0) :: news) → AllLt D news → Q (.ref D) { s with heap := h', toks := k }) :
    wpAny (model prog w) A (call (.builtin "str.split") [.str x t, .str y u]) Q E s := by
  refine KSpl.split1 hF hN hy (fun D l h' k e a F' N' l1 => ?_) (by rw [sizeLine_eq]; lia)
  rw [e, hs] at a
  obtain ⟨t0, vm, tl, e2, z⟩ := strs_open2 a
  rw [e2] at N'
  exact q D t0 vm tl h' k z z.length F' N' (allLt_of l1)
end
end Mine
namespace Mine
open PySem.Spec PySem.Calls
section
variable {prog : Program} {w : World} {A : Around} {E : Value → Shared → Prop} {s : Shared} {h₀ h h' : Heap} {L d : Addr} {m : Str → Option Value} {news : List (Addr × Obj)} {g : Obj → List (Addr × Obj)} {o o' : Obj}
theorem last_snoc {α : Type} (pre : List α) (v : α) : (pre ++ [v]).getLast? = some v := by simp
theorem last_cons {α : Type} (a : α) (pre : List α) (v : α) : (a :: (pre ++ [v])).getLast? = some v := by rw [← List.cons_append]; exact last_snoc _ _
theorem seq_first {n : Nat} (h : 0 < n) : seqIndex? 0 n = some 0 := by
  simp [seqIndex?]; lia
theorem seq_last {n : Nat} (h : 0 < n) : seqIndex? (-1) n = some (n - 1) := by
  simp [seqIndex?]; lia
theorem r_itemLast {value slice : Expr} {vs : List Value} {k : Nat} {u : Tok} {v : Value} {Q : Value → Shared → Prop} (N : News h₀ L s.heap news) (hm : (d, W.listOf vs.toArray k) ∈ news) (hsz : vs.length < 2 ^ 62) (hx : vs.getLast? = some v) (q : Q v s)
    (hs : subscripted slice false (.ref d) (.int (-1) u) = operate [.ref d, .int (-1) u] (getItem (.ref d) (.int (-1) u)) := by with_unfolding_all rfl) (hg : ∀ r, letTemporaryGo value (.ref d) r = pure () := by intro _; with_unfolding_all rfl) :
    wpAny (model prog w) A (subscriptTail value slice (.ref d) (.int (-1) u)) Q E s := by
  have hl : s.heap.IsList d vs.toArray := ⟨_, (N _ hm).1, rfl, _, rfl⟩
  have hpos : 0 < vs.length := by
    cases vs with
    | nil => cases hx
    | cons _ _ => simp
  have hsz' : vs.toArray.size = vs.length := by simp
  have hx' : vs.toArray[((-1 : Int) + vs.toArray.size).toNat]? = some v := by
    have e : ((-1 : Int) + vs.toArray.size).toNat = vs.length - 1 := by rw [hsz']; lia
    rw [e, List.getElem?_toArray, ← hx, List.getLast?_eq_getElem?]
  exact subscriptTail_builtin hl.typeIs slot_list_getitem.lookup (wpAny_getItem_list_neg hl (by lia) (by rw [hsz']; lia) (by lia) (by simpa using hx') q) hs hg
end
end Mine

namespace Mine
open PySem.Spec PySem.Calls
section
variable {prog : Program} {w : World} {A : Around} {E : Value → Shared → Prop} {s : Shared} {h₀ h h' : Heap} {L d : Addr} {m : Str → Option Value} {news : List (Addr × Obj)} {g : Obj → List (Addr × Obj)} {o o' : Obj}
theorem turn_ret {I : Addr} {oI : Obj} {J : (Str → Option Value) → List (Addr × Obj) → Prop} {s₁ s₂ : Shared} {Q : Flow → Shared → Prop} {v : Value} (q : Q (.ret v) s₂) : TurnEnd h₀ L I oI J s₁ Q (.ret v) s₂ := q
theorem turn_brk {I : Addr} {oI : Obj} {J : (Str → Option Value) → List (Addr × Obj) → Prop} {s₁ s₂ : Shared} {Q : Flow → Shared → Prop} (q : Q .next s₂) : TurnEnd h₀ L I oI J s₁ Q .brk s₂ := q
theorem turn_next {I : Addr} {oI : Obj} {J : (Str → Option Value) → List (Addr × Obj) → Prop} {s₁ : Shared} {Q : Flow → Shared → Prop} {h' : Heap} {tk : Nat} {m' : Str → Option Value} {nw : List (Addr × Obj)} (F : Fr h₀ L h' m') (N : News h₀ L h' ((I, oI) :: nw)) (hn : ∀ p ∈ nw, p.1 ≠ I) (hJ : J m' nw) :
    TurnEnd h₀ L I oI J s₁ Q .next { s₁ with heap := h', toks := tk } := ⟨h', tk, m', nw, rfl, F, N, hn, hJ⟩
theorem turn_cont {I : Addr} {oI : Obj} {J : (Str → Option Value) → List (Addr × Obj) → Prop} {s₁ : Shared} {Q : Flow → Shared → Prop} {h' : Heap} {tk : Nat} {m' : Str → Option Value} {nw : List (Addr × Obj)} (F : Fr h₀ L h' m') (N : News h₀ L h' ((I, oI) :: nw)) (hn : ∀ p ∈ nw, p.1 ≠ I) (hJ : J m' nw) :
    TurnEnd h₀ L I oI J s₁ Q .cont { s₁ with heap := h', toks := tk } := ⟨h', tk, m', nw, rfl, F, N, hn, hJ⟩

noncomputable def ellLoop (got : Str) (ep : Int) : List Str → Int → Bool
  | [], _ => true
  | x :: r, sp => if fnd got x sp ep < 0 then false else ellLoop got ep r (fnd got x sp ep + x.length)
noncomputable def ellEnd (got : Str) (pre : List Str) (wl : Str) (sp : Int) : Bool :=
  if 0 < wl.length then (if Txt.endswith got wl then (if sp > (got.length : Int) - wl.length then false else ellLoop got ((got.length : Int) - wl.length) pre sp) else false)
  else if sp > (got.length : Int) then false else ellLoop got got.length (pre ++ [wl]) sp
noncomputable def ellM (got w0 : Str) (mid : List Str) (wl : Str) : Bool :=
  if 0 < w0.length then (if Txt.startswith got w0 then ellEnd got mid wl w0.length else false) else ellEnd got (w0 :: mid) wl 0
end
end Mine
namespace Mine
open PySem.Spec PySem.Calls
inductive Are {α : Type} (Is : α → Value → Prop) : List Value → List α → Prop
  | nil : Are Is [] []
  | cons {v : Value} {a : α} {vs : List Value} {xs : List α} : Is a v → Are Is vs xs → Are Is (v :: vs) (a :: xs)
theorem Are.length {α : Type} {Is : α → Value → Prop} {vs : List Value} {xs : List α} (x : Are Is vs xs) : vs.length = xs.length := by
  induction x with
  | nil => rfl
  | cons _ _ ih => simp [ih]
theorem Are.at {α : Type} {Is : α → Value → Prop} {vs : List Value} {xs : List α} (x : Are Is vs xs) : ∀ (i : Nat) (v : Value), vs[i]? = some v → ∃ a, xs[i]? = some a ∧ Is a v := by
  induction x with
  | nil => intro i v h; simp at h
  | cons h r ih =>
    intro i v hv
    cases i with
    | zero => simp at hv; subst hv; exact ⟨_, rfl, h⟩
    | succ i => simpa using ih i v (by simpa using hv)
theorem Are.get {α : Type} {Is : α → Value → Prop} {vs : List Value} {xs : List α} (x : Are Is vs xs) : ∀ (i : Nat) (a : α), xs[i]? = some a → ∃ v, vs[i]? = some v ∧ Is a v := by
  induction x with
  | nil => intro i v h; simp at h
  | cons h r ih =>
    intro i v hv
    cases i with
    | zero => simp at hv; subst hv; exact ⟨_, rfl, h⟩
    | succ i => simpa using ih i v (by simpa using hv)
theorem Are.append {α : Type} {Is : α → Value → Prop} {vs ws : List Value} {xs ys : List α} (x : Are Is vs xs) (y : Are Is ws ys) : Are Is (vs ++ ws) (xs ++ ys) := by
  induction x with
  | nil => exact y
  | cons h _ ih => exact .cons h ih
noncomputable def IsStr (a : Str) (v : Value) : Prop := ∃ t, v = .str a t
noncomputable def IsInt (a : Int) (v : Value) : Prop := ∃ t, v = .int a t
theorem areStrs {vs : List Value} {ss : List Str} (x : StrsAre vs ss) : Are IsStr vs ss := by
  induction x with
  | nil => exact .nil
  | cons a t _ ih => exact .cons ⟨t, rfl⟩ ih
theorem areInts {vs : List Value} {ss : List Int} (x : IntsAre vs ss) : Are IsInt vs ss := by
  induction x with
  | nil => exact .nil
  | cons a t _ ih => exact .cons ⟨t, rfl⟩ ih
section
variable {prog : Program} {w : World} {A : Around} {E : Value → Shared → Prop} {s : Shared} {env : Env} {h₀ : Heap} {x : Str} {body : List Stmt} {Q : Flow → Shared → Prop}
/-- a for over a list in the ledger, its state told by Rep, what is to come by K -/
theorem forItems {α σ : Type} {Is : α → Value → Prop} {ax : Addr} {vs : List Value} {k : Nat} {xs : List α} {m₀ : Str → Option Value} {news : List (Addr × Obj)} (Rep : (Str → Option Value) → List (Addr × Obj) → σ → (Str → Option Value) → List (Addr × Obj) → Prop) (K : List α → σ → Prop) (st₀ : σ)
    (hh : A.handled = none) (F : Fr h₀ env.locals s.heap m₀) (N : News h₀ env.locals s.heap news) (hR : Rep m₀ news st₀ m₀ news) (hK : K xs st₀) (hS : ∀ st m nw, Rep m₀ news st m nw → (ax, W.listOf vs.toArray k) ∈ nw) (hvs : Are Is vs xs)
    (turn : ∀ a rest st v m₁ nw h tk I oI, K (a :: rest) st → Is a v → a ∈ xs → Rep m₀ news st m₁ nw → AllLt I news → (∀ p ∈ nw, p.1 ≠ I) → Fr h₀ env.locals h (fun y => if y = x then some v else m₁ y) → News h₀ env.locals h ((I, oI) :: nw) →
      wpAny (model prog w) A (execs body env) (TurnEnd h₀ env.locals I oI (fun m' nw' => ∃ st', Rep m₀ news st' m' nw' ∧ K rest st') { s with heap := h, toks := tk } Q) E { s with heap := h, toks := tk })
    (done : ∀ st m₁ nw h tk, K [] st → Rep m₀ news st m₁ nw → Fr h₀ env.locals h m₁ → News h₀ env.locals h nw → Q .next { s with heap := h, toks := tk }) :
    wpAny (model prog w) A (pyIter (.ref ax)) (fun it s₂ => LoopAtV prog w A h₀ env x body Q E it s₂) E s := by
  refine forList (lo := W.listOf vs.toArray k) (vs := vs) (fun i m nw => ∃ st, Rep m₀ news st m nw ∧ K (xs.drop i) st) hh rfl ⟨k, rfl⟩ F N (fun i m nw ⟨st, h, _⟩ => hS st m nw h) ⟨st₀, hR, by simpa using hK⟩ ?_ ?_
  · rintro i v m₁ nw h tk I oI hv ⟨st, hRe, hKe⟩ hlt hoff F₁ N₁
    obtain ⟨a, ha, hIs⟩ := hvs.at i v hv
    have e : xs.drop i = a :: xs.drop (i + 1) := by
      obtain ⟨hl, he⟩ := List.getElem?_eq_some_iff.mp ha
      rw [← he]; exact List.drop_eq_getElem_cons hl
    rw [e] at hKe
    exact turn a _ st v m₁ nw h tk I oI hKe hIs (List.mem_of_getElem? ha) hRe (allLt_of hlt) hoff F₁ N₁
  · rintro m₁ nw h tk ⟨st, hRe, hKe⟩ F₁ N₁
    rw [hvs.length, List.drop_length] at hKe
    exact done st m₁ nw h tk hKe hRe F₁ N₁
end
end Mine
namespace Mine
open PySem.Spec PySem.Calls
section
variable {prog : Program} {w : World} {A : Around} {E : Value → Shared → Prop} {s : Shared} {env : Env} {h₀ : Heap} {x : Str} {body : List Stmt} {Q : Flow → Shared → Prop} {L d : Addr} {m : Str → Option Value} {news : List (Addr × Obj)} {g : Obj → List (Addr × Obj)}
theorem r_delFirst {v : Value} {r : List Value} {k : Nat} {u : Tok} {Q : Unit → Shared → Prop} (F : Fr h₀ L s.heap m) (N : News h₀ L s.heap news) (U : UpdF d (W.listOf (v :: r).toArray k) news g) (hsz : r.length < 10000)
    (q : ∀ h', Fr h₀ L h' m → News h₀ L h' (g (W.listOf r.toArray (k + 1))) → Q () { s with heap := h' }) : wpAny (model prog w) A (delItem (.ref d) (.int 0 u)) Q E s :=
  r_del F N U (by decide) (seq_first (by simp)) (by simp; lia) q
theorem erase_snoc (r : List Value) (v : Value) : (r ++ [v]).eraseIdx ((r ++ [v]).length - 1) = r := by simp [List.eraseIdx_append_of_length_le]
theorem erase_cons (a : Value) (r : List Value) (v : Value) : (a :: (r ++ [v])).eraseIdx ((a :: (r ++ [v])).length - 1) = a :: r := by rw [← List.cons_append]; exact erase_snoc _ _
theorem r_delLast {vs ws : List Value} {k : Nat} {u : Tok} {Q : Unit → Shared → Prop} (F : Fr h₀ L s.heap m) (N : News h₀ L s.heap news) (U : UpdF d (W.listOf vs.toArray k) news g) (hw : vs.eraseIdx (vs.length - 1) = ws) (hp : 0 < vs.length) (hsz : vs.length < 10000)
    (q : ∀ h', Fr h₀ L h' m → News h₀ L h' (g (W.listOf ws.toArray (k + 1))) → Q () { s with heap := h' }) : wpAny (model prog w) A (delItem (.ref d) (.int (-1) u)) Q E s :=
  r_del F N U (by decide) (seq_last hp) (by lia) (by rw [hw]; exact q)
/-- the loop of _ellipsis_match -/
theorem ellFor {ax : Addr} {vs : List Value} {k : Nat} {ss : List Str} {got : Str} {ep sp₀ : Int} {te t₀ : Tok} {R : Bool} {m₀ : Str → Option Value}
    (hh : A.handled = none) (F : Fr h₀ env.locals s.heap m₀) (N : News h₀ env.locals s.heap news) (hm : (ax, W.listOf vs.toArray k) ∈ news) (_hep : m₀ (Str.ofString "endpos") = some (.int ep te)) (hsp : m₀ (Str.ofString "startpos") = some (.int sp₀ t₀))
    (hvs : Are IsStr vs ss) (hall : ∀ y ∈ ss, y.length ≤ 1000) (hR : ellLoop got ep ss sp₀ = R)
    (turn : ∀ y rest sp (tsp t : Tok) h tk I oI, ellLoop got ep (y :: rest) sp = R → y.length ≤ 1000 → AllLt I news → Fr h₀ env.locals h (fun z => if z = Str.ofString "w" then some (.str y t) else if z = Str.ofString "startpos" then some (.int sp tsp) else m₀ z) → News h₀ env.locals h ((I, oI) :: news) →
      wpAny (model prog w) A (execs body env) (TurnEnd h₀ env.locals I oI (fun m' nw' => ∃ sp', (nw' = news ∧ (∃ t', m' (Str.ofString "startpos") = some (.int sp' t')) ∧ ∀ z, z ≠ Str.ofString "w" → z ≠ Str.ofString "startpos" → m' z = m₀ z) ∧ ellLoop got ep rest sp' = R) { s with heap := h, toks := tk } Q) E { s with heap := h, toks := tk })
    (done : ∀ m₁ h tk, R = true → Fr h₀ env.locals h m₁ → News h₀ env.locals h news → Q .next { s with heap := h, toks := tk }) :
    wpAny (model prog w) A (pyIter (.ref ax)) (fun it s₂ => LoopAtV prog w A h₀ env (Str.ofString "w") body Q E it s₂) E s := by
  refine forItems (σ := Int) (Is := IsStr) (k := k) (fun m0 n0 sp m nw => nw = n0 ∧ (∃ t, m (Str.ofString "startpos") = some (.int sp t)) ∧ ∀ z, z ≠ Str.ofString "w" → z ≠ Str.ofString "startpos" → m z = m0 z) (fun r sp => ellLoop got ep r sp = R) sp₀ hh F N ⟨rfl, ⟨t₀, hsp⟩, fun _ _ _ => rfl⟩ hR (fun st m nw h => by rw [h.1]; exact hm) hvs ?_ ?_
  · rintro y rest sp v m₁ nw h tk I oI hK ⟨t, rfl⟩ hmem ⟨hnw, ⟨tsp, hsp⟩, hm⟩ hlt hoff F₁ N₁
    rw [map_one hsp hm] at F₁
    rw [hnw] at N₁
    exact turn y rest sp tsp t h tk I oI hK (hall y hmem) hlt F₁ N₁
  · rintro sp m₁ nw h tk hK ⟨hnw, _, _⟩ F₁ N₁
    rw [hnw] at N₁
    exact done m₁ h tk (by rw [← hK]; rfl) F₁ N₁
end
end Mine
namespace Mine
theorem intsOf {vs : List Value} {ns : List Int} (x : Are IsInt vs ns) : IntsAre vs ns := by
  induction x with
  | nil => exact .nil
  | cons h _ ih => obtain ⟨t, rfl⟩ := h; exact .cons _ t ih
theorem strsOf {vs : List Value} {ns : List Str} (x : Are IsStr vs ns) : StrsAre vs ns := by
  induction x with
  | nil => exact .nil
  | cons h _ ih => obtain ⟨t, rfl⟩ := h; exact .cons _ t ih
theorem subs_nil {led : List (Addr × Obj)} : ∀ p ∈ ([] : List (Addr × Obj)), p ∈ led := fun _ h => nomatch h
theorem subs_cons {q : Addr × Obj} {r led : List (Addr × Obj)} (h : q ∈ led) (hr : ∀ p ∈ r, p ∈ led) : ∀ p ∈ q :: r, p ∈ led := fun p hp => by
  rcases List.mem_cons.mp hp with rfl | hp
  · exact h
  · exact hr p hp
theorem subs_tail {q : Addr × Obj} {r led : List (Addr × Obj)} (hr : ∀ p ∈ r, p ∈ led) : ∀ p ∈ r, p ∈ q :: led := fun p hp => .tail _ (hr p hp)
theorem subs_refl {r : List (Addr × Obj)} : ∀ p ∈ r, p ∈ r := fun _ h => h
end Mine

namespace Mine
theorem isI {a b : Int} {t : Tok} (e : b = a) : IsInt a (.int b t) := ⟨t, by rw [e]⟩
theorem isS {a b : Str} {t : Tok} (e : b = a) : IsStr a (.str b t) := ⟨t, by rw [e]⟩
end Mine

namespace Mine
noncomputable def Mid (P : Flow → Shared → Prop) (f : Flow) (s : Shared) : Prop := P f s
theorem mid_out {P : Flow → Shared → Prop} {f : Flow} {s : Shared} (h : Mid P f s) : P f s := h
theorem mid_in {P : Flow → Shared → Prop} {f : Flow} {s : Shared} (h : P f s) : Mid P f s := h
end Mine
namespace Mine
noncomputable def over (xs : List Str) (m₁ m₀ : Str → Option Value) : Str → Option Value := xs.foldr (fun x acc z => if z = x then m₁ x else acc z) m₀
theorem map_over {m₁ m₀ : Str → Option Value} : ∀ (xs : List Str), (∀ z, z ∉ xs → m₁ z = m₀ z) → m₁ = over xs m₁ m₀ := by
  intro xs
  induction xs generalizing m₀ with
  | nil => intro h; funext z; exact h z (by simp)
  | cons x r ih =>
    intro h
    have h2 : over (x :: r) m₁ m₀ = fun z => if z = x then m₁ x else over r m₁ m₀ z := rfl
    rw [h2]
    funext z
    by_cases e : z = x
    · subst e; simp
    · simp only [e, if_false]
      have := ih (m₀ := fun y => if y = x then m₁ x else m₀ y) (fun y hy => by
        by_cases e' : y = x
        · subst e'; simp
        · simp only [e', if_false]; exact h y (by simp [e', hy]))
      have h3 : ∀ (r : List Str) (z : Str), z ≠ x → over r m₁ (fun y => if y = x then m₁ x else m₀ y) z = over r m₁ m₀ z := by
        intro r
        induction r with
        | nil => intro z hz; simp [over, hz]
        | cons y r ih2 =>
          intro z hz
          show (if z = y then m₁ y else over r m₁ _ z) = (if z = y then m₁ y else over r m₁ _ z)
          rw [ih2 z hz]
      rw [← h3 r z e, ← this]
end Mine
namespace Mine
noncomputable def seen (xs : List (Str × Value)) (m : Str → Option Value) : Str → Option Value := xs.foldr (fun p acc z => if z = p.1 then some p.2 else acc z) m
theorem map_seen {m : Str → Option Value} : ∀ (xs : List (Str × Value)), (∀ p ∈ xs, m p.1 = some p.2) → m = seen xs m := by
  intro xs h
  funext z
  induction xs with
  | nil => rfl
  | cons p r ih =>
    show m z = if z = p.1 then some p.2 else seen r m z
    by_cases e : z = p.1
    · rw [if_pos e, e]; exact h p (.head _)
    · rw [if_neg e]; exact ih fun q hq => h q (.tail _ hq)
end Mine
end
section
namespace Mine
open PySem.Spec PySem.Calls PyProof.V

/-- an iterator just made: what it walks over -/
structure IterAt (prog : Program) (w : World) (A : Around) (h₀ : Heap) (L : Addr) (S : List (Addr × Obj) → Prop) (n : Nat) (P : Nat → Value → Prop) (I : Addr) (fp : List Addr) (St : Nat → Heap → Prop) (h : Heap) : Prop where
  W : Walks prog w A I fp [I] n P St
  io : ∀ i h, St i h → ∃ o, h.get? I = some o
  st : ∀ i h h' o nw, St i h → h.get? I = some o → h'.get? I = some o → (∀ b o, h₀.get? b = some o → h'.get? b = some o) → News h₀ L h' nw → S nw → St i h'
  fpk : ∀ b ∈ fp, b = I ∨ (∃ o, h₀.get? b = some o) ∨ ∃ o, ∀ nw, S nw → (b, o) ∈ nw
  st0 : St 0 h
  fpl : ∀ b ∈ fp, b < h.objs.size
  lf : L ∉ fp
  nI : h₀.get? I = none

section
variable {prog : Program} {w : World} {A : Around} {E : Value → Shared → Prop} {s : Shared} {h₀ : Heap} {L : Addr} {m : Str → Option Value} {news : List (Addr × Obj)} {Q : Value → Shared → Prop}
theorem iterList {ax : Addr} {vs : List Value} {k : Nat} (hh : A.handled = none) (F : Fr h₀ L s.heap m) (N : News h₀ L s.heap news) (hm : (ax, W.listOf vs.toArray k) ∈ news)
    (q : ∀ I fp St o, IterAt prog w A h₀ L (fun nw => (ax, W.listOf vs.toArray k) ∈ nw) vs.length (fun i v => vs[i]? = some v) I fp St (s.heap.push o) → Fr h₀ L (s.heap.push o) m → News h₀ L (s.heap.push o) news → AllLt I news → Q (.ref I) { s with heap := s.heap.push o }) :
    wpAny (model prog w) A (pyIter (.ref ax)) Q E s := by
  have hget := (N _ hm).1
  have hls : s.heap.IsList ax vs.toArray := ⟨_, hget, rfl, k, rfl⟩
  have hlt := Heap.lt_size hget
  have hne : ax ≠ s.heap.objs.size := Nat.ne_of_lt hlt
  refine wpAny_pyIter_list hls ?_
  have W := Walks.list (prog := prog) (w := w) hh s.heap.objs.size ax hne vs.toArray
  rw [List.size_toArray] at W
  refine q _ [s.heap.objs.size, ax] (fun i h => h.IsListIter s.heap.objs.size ax i ∧ h.IsList ax vs.toArray) _ ⟨by simpa using W, (fun i h st => by obtain ⟨o, e, _⟩ := st.1; exact ⟨o, e⟩), ?_, ?_, ⟨⟨_, Heap.get?_push_size _ rfl, rfl, rfl⟩, hls.at fun o e => Heap.get?_push_of_some _ e⟩, ?_, ?_, next_is_new F⟩ (F.push _) (fun p hp => ⟨Heap.get?_push_of_some _ (N p hp).1, (N p hp).2⟩) (allLt_of fun p hp => Heap.lt_size (N p hp).1)
  · intro i h h' o nw st e e' k' N' S
    exact ⟨by obtain ⟨o', q', r⟩ := st.1; rw [e] at q'; cases q'; exact ⟨o, e', r⟩, ⟨_, (N' _ S).1, rfl, k, rfl⟩⟩
  · intro b hb
    rcases List.mem_cons.mp hb with e | hb
    · exact .inl e
    · rw [List.mem_singleton.mp hb]; exact .inr (.inr ⟨_, fun _ h => h⟩)
  · intro b hb
    rw [Heap.size_push]
    rcases List.mem_cons.mp hb with e | hb
    · rw [e]; exact Nat.lt_succ_self _
    · rw [List.mem_singleton.mp hb]; exact Nat.lt_succ_of_lt hlt
  · intro hb
    rcases List.mem_cons.mp hb with e | hb
    · exact absurd F.ns.lt (e ▸ Nat.lt_irrefl _)
    · exact (N _ hm).2.1 (List.mem_singleton.mp hb).symm
theorem iterStr {x : Str} {t : Tok} (hh : A.handled = none) (F : Fr h₀ L s.heap m) (N : News h₀ L s.heap news)
    (q : ∀ I fp St o, IterAt prog w A h₀ L (fun _ => True) x.cps.toList.length (fun i v => ∃ c u, x.cps.toList[i]? = some c ∧ v = .str ⟨#[c]⟩ u) I fp St (s.heap.push o) → Fr h₀ L (s.heap.push o) m → News h₀ L (s.heap.push o) news → AllLt I news → Q (.ref I) { s with heap := s.heap.push o }) :
    wpAny (model prog w) A (pyIter (.str x t)) Q E s := by
  have one : ∀ (T : String) (o : Obj), o.cls = .type T → o.data = .fields #[.str x t, .int 0 0] → True := fun _ _ _ _ => trivial
  have main : ∀ (T : String) (o : Obj), (∀ i (h h' : Heap) (ob : Obj), h.IsStrIter s.heap.objs.size T x t i → h.get? s.heap.objs.size = some ob → h'.get? s.heap.objs.size = some ob → h'.IsStrIter s.heap.objs.size T x t i) →
      Walks prog w A s.heap.objs.size [s.heap.objs.size] [s.heap.objs.size] x.cps.size (SignAt x) (fun i h => h.IsStrIter s.heap.objs.size T x t i) → (s.heap.push o).IsStrIter s.heap.objs.size T x t 0 → Q (.ref s.heap.objs.size) { s with heap := s.heap.push o } := by
    intro T o hst W h0
    refine q _ _ _ _ ⟨?_, (fun i h st => by obtain ⟨o, e, _⟩ := st; exact ⟨o, e⟩), (fun i h h' o nw st e e' _ _ _ => hst i h h' o st e e'), (fun b hb => .inl (List.mem_singleton.mp hb)), h0, (fun b hb => ?_), (fun hb => ?_), next_is_new F⟩ (F.push _) (fun p hp => ⟨Heap.get?_push_of_some _ (N p hp).1, (N p hp).2⟩) (allLt_of fun p hp => Heap.lt_size (N p hp).1)
    · have e : x.cps.size = x.cps.toList.length := by simp
      rw [e] at W
      exact { sub := W.sub, frame := W.frame, done := W.done, self := W.self,
              item := fun i s Q E hi st hQ => W.item i s Q E hi st fun v h' tk hP => hQ v h' tk (by obtain ⟨c, u, h1, h2⟩ := hP; exact ⟨c, u, by simpa using h1, h2⟩) }
    · rw [List.mem_singleton.mp hb, Heap.size_push]; exact Nat.lt_succ_self _
    · exact absurd F.ns.lt (List.mem_singleton.mp hb ▸ Nat.lt_irrefl _)
  have up : ∀ T i (h h' : Heap) (ob : Obj), h.IsStrIter s.heap.objs.size T x t i → h.get? s.heap.objs.size = some ob → h'.get? s.heap.objs.size = some ob → h'.IsStrIter s.heap.objs.size T x t i := by
    intro T i h h' ob st e e'
    obtain ⟨o', q', r⟩ := st; rw [e] at q'; cases q'; exact ⟨ob, e', r⟩
  cases ha : x.cps.all (· < 128)
  · exact wpAny_pyIter_wide ha (main _ _ (up _) (Walks.strWide hh _ x t) ⟨_, Heap.get?_push_size _ rfl, rfl, rfl⟩)
  · exact wpAny_pyIter_ascii ha (main _ _ (up _) (Walks.strAscii hh _ x t) ⟨_, Heap.get?_push_size _ rfl, rfl, rfl⟩)
theorem iterRange {r : Addr} {a b : Int} {t u v : Tok} {n : Nat} (hh : A.handled = none) (F : Fr h₀ L s.heap m) (N : News h₀ L s.heap news) (hr : IsRange s.heap r a b 1 t u v) (hsm : Builtin.Range.small a b 1 = true) (hn : Builtin.Range.rangeSize a b 1 = ((n : Nat) : Int))
    (q : ∀ I fp St o, IterAt prog w A h₀ L (fun _ => True) n (fun i v => ∃ t, v = .int (a + (i : Int)) t) I fp St (s.heap.push o) → Fr h₀ L (s.heap.push o) m → News h₀ L (s.heap.push o) news → AllLt I news → Q (.ref I) { s with heap := s.heap.push o }) :
    wpAny (model prog w) A (pyIter (.ref r)) Q E s := by
  refine wpAny_pyIter_range hr hsm ?_
  have h0 : (fun i h => IsRangeIter h s.heap.objs.size (a + (i : Nat) * 1) ((n : Int) - (i : Nat)) 1) 0 (s.heap.push { cls := .type "range_iterator", data := .fields #[rawInt a, rawInt (Builtin.Range.rangeSize a b 1), rawInt 1] }) := by
    show IsRangeIter _ _ _ _ _
    rw [hn]; simpa using Heap.get?_push_size _ rfl
  refine q _ _ _ _ ⟨LCg.range_walks hh a n, (fun i h st => ⟨_, st⟩), LCg.range_st, (fun b hb => .inl (List.mem_singleton.mp hb)), h0, (fun b hb => ?_), (fun hb => ?_), next_is_new F⟩ (F.push _) (fun p hp => ⟨Heap.get?_push_of_some _ (N p hp).1, (N p hp).2⟩) (allLt_of fun p hp => Heap.lt_size (N p hp).1)
  · rw [List.mem_singleton.mp hb, Heap.size_push]; exact Nat.lt_succ_self _
  · exact absurd F.ns.lt (List.mem_singleton.mp hb ▸ Nat.lt_irrefl _)
/-- the ledger bears at o a dict of ints, its pairs c in order -/
noncomputable def IsD (prog : Program) (w : World) (o : Obj) (c : List (Int × Int)) : Prop := ∃ kvs, o.IsDictOf (intKind prog w) kvs ∧ FlatPairs PyData.int kvs (kdfD c)
theorem iterDict {d : Addr} {od : Obj} {c : List (Int × Int)} (hh : A.handled = none) (F : Fr h₀ L s.heap m) (N : News h₀ L s.heap news) (hm : (d, od) ∈ news) (hd : IsD prog w od c) (lo : (d == sysModules) = false)
    (q : ∀ I fp St o, IterAt prog w A h₀ L (fun nw => (d, od) ∈ nw) c.length (fun i v => ∃ p t, c[i]? = some p ∧ v = .int p.1 t) I fp St (s.heap.push o) → Fr h₀ L (s.heap.push o) m → News h₀ L (s.heap.push o) news → AllLt I news → Q (.ref I) { s with heap := s.heap.push o }) :
    wpAny (model prog w) A (pyIter (.ref d)) Q E s := by
  obtain ⟨kvs, hk, hf⟩ := hd
  have hget := (N _ hm).1
  have hlt := Heap.lt_size hget
  have hne : d ≠ s.heap.objs.size := Nat.ne_of_lt hlt
  have hdo : s.heap.DictOf (intKind prog w) d kvs := Heap.dictOf_iff.mpr ⟨od, hget, hk⟩
  obtain ⟨ep, hat⟩ := hdo.dictAt
  have hlen : kvs.length = c.length := by rw [← hf.length, kdfD_length]
  refine wpAny_pyIter_dict lo hat ?_
  have W := Walks.dictKeys (prog := prog) (w := w) hh s.heap.objs.size d hne kvs ep (knd := intKind prog w)
  refine q _ [s.heap.objs.size, d] (fun i h => h.IsKeyIter s.heap.objs.size d i kvs.length ep ∧ h.DictAt (intKind prog w) d kvs ep) _ ⟨?_, (fun i h st => by obtain ⟨o, e, _⟩ := st.1; exact ⟨o, e⟩), ?_, ?_, ⟨⟨_, Heap.get?_push_size _ rfl, rfl, rfl⟩, hat.at' fun o e => Heap.get?_push_of_some _ e⟩, ?_, ?_, next_is_new F⟩ (F.push _) (fun p hp => ⟨Heap.get?_push_of_some _ (N p hp).1, (N p hp).2⟩) (allLt_of fun p hp => Heap.lt_size (N p hp).1)
  · have e : c.length = kvs.length := hlen.symm
    rw [e]
    exact { sub := W.sub, frame := W.frame, done := W.done, self := W.self,
            item := fun i s Q E hi st hQ => W.item i s Q E hi st fun v h' tk hP => hQ v h' tk (by
              obtain ⟨k, x, hx, hk'⟩ := hP
              obtain ⟨dv, hd', _⟩ := hf.at hx
              have hd2 : (c[i]?).map (fun p => (PyData.int p.1, PyData.int p.2)) = some (PyData.int k, dv) := by rw [← List.getElem?_map]; exact hd'
              cases hcj : c[i]? with
              | none => rw [hcj] at hd2; cases hd2
              | some p =>
                rw [hcj] at hd2
                have e1 : PyData.int p.1 = PyData.int k := congrArg Prod.fst (Option.some.inj hd2)
                injection e1 with e1
                obtain ⟨t, rfl⟩ := Value.isInt_shape hk'
                exact ⟨p, t, rfl, by rw [e1]⟩) }
  · intro i h h' o nw st e e' k' N' S
    refine ⟨by obtain ⟨o', q', r⟩ := st.1; rw [e] at q'; cases q'; exact ⟨o, e', r⟩, ?_⟩
    obtain ⟨o', es, h1, r⟩ := hat
    rw [hget] at h1; cases h1
    exact ⟨od, es, (N' _ S).1, r⟩
  · intro b hb
    rcases List.mem_cons.mp hb with e | hb
    · exact .inl e
    · rw [List.mem_singleton.mp hb]; exact .inr (.inr ⟨_, fun _ h => h⟩)
  · intro b hb
    rw [Heap.size_push]
    rcases List.mem_cons.mp hb with e | hb
    · rw [e]; exact Nat.lt_succ_self _
    · rw [List.mem_singleton.mp hb]; exact Nat.lt_succ_of_lt hlt
  · intro hb
    rcases List.mem_cons.mp hb with e | hb
    · exact absurd F.ns.lt (e ▸ Nat.lt_irrefl _)
    · exact (N _ hm).2.1 (List.mem_singleton.mp hb).symm
end
end Mine
namespace Mine
open PySem.Spec PySem.Calls PyProof.V LCg LCt
section
variable {prog : Program} {w : World} {A : Around} {E : Value → Shared → Prop} {s : Shared} {h₀ : Heap} {L : Addr} {m : Str → Option Value} {env : Env}
noncomputable def CompAt (prog : Program) (w : World) (A : Around) (h₀ : Heap) (L : Addr) (m : Str → Option Value) (env : Env) (elt : Expr) (x : Str) (scope : Scope) (cl : List (Str × Addr)) (Fin : Shared → List Value → List (Addr × Obj) → Prop) (it : Value) (s₂ : Shared) : Prop :=
  ∃ I fp St n P S news, it = .ref I ∧ IterAt prog w A h₀ L S n P I fp St s₂.heap ∧ n ≤ sizeLine ∧ Fr h₀ L s₂.heap m ∧ News h₀ L s₂.heap news ∧ (∀ p ∈ news, p.1 ≠ I) ∧ S news ∧ CompRest prog w A h₀ L m env elt x scope cl s₂ S P (Fin s₂) n 0 [] news
noncomputable def CompAtT (prog : Program) (w : World) (A : Around) (h₀ : Heap) (L : Addr) (m : Str → Option Value) (env : Env) (ct elt : Expr) (x : Str) (scope : Scope) (cl : List (Str × Addr)) (Fin : Shared → List Value → List (Addr × Obj) → Prop) (it : Value) (s₂ : Shared) : Prop :=
  ∃ I fp St n P S news, it = .ref I ∧ IterAt prog w A h₀ L S n P I fp St s₂.heap ∧ n ≤ sizeLine ∧ Fr h₀ L s₂.heap m ∧ News h₀ L s₂.heap news ∧ (∀ p ∈ news, p.1 ≠ I) ∧ S news ∧ CompRestT prog w A h₀ L m env ct elt x scope cl s₂ S P (Fin s₂) n 0 [] news

theorem postE {D C : Addr} {h : Heap} {tk : Nat} {m' : Str → Option Value} {ys : List Value} {news' : List (Addr × Obj)} {Q : Value → Shared → Prop} {s₂ : Shared} (F' : Fr h₀ L h m) (N' : News h₀ L h ((D, lst ys) :: news')) (o1 : Off1 D news') (hn : h.Ns C m') (hC₀ : h₀.get? C = none) (hCL : C ≠ L) (hCD : C ≠ D) (offC : ∀ p ∈ news', p.1 ≠ C)
    (fin : FinE h₀ L m s₂ Q ys news') : compPost (model prog w) A E none Q (.ref D) C (.ok .next) { s₂ with heap := h, toks := tk } := by
  refine ⟨m', hn, fun h'' hs'' => fin D h'' tk (F'.change hs'' hCL hC₀) (fun p hp => ?_) o1⟩
  refine ⟨hs''.extBut _ _ ?_ (N' p hp).1, (N' p hp).2⟩
  rcases List.mem_cons.mp hp with rfl | hp
  · exact Ne.symm hCD
  · exact offC p hp
theorem postA {D C : Addr} {h : Heap} {tk : Nat} {m' : Str → Option Value} {ys : List Value} {news' : List (Addr × Obj)} {y : Str} {py : Pos} {Q : Flow → Shared → Prop} {s₂ : Shared} (hLe : env.locals = L) (hy : env.kindOf y = some .local) (hp : (env.scope.kind == .class || (env.scope.kind == .module && env.locals != env.globals)) = false)
    (F' : Fr h₀ L h m) (N' : News h₀ L h ((D, lst ys) :: news')) (o1 : Off1 D news') (hn : h.Ns C m') (hC₀ : h₀.get? C = none) (hCL : C ≠ L) (hCD : C ≠ D) (offC : ∀ p ∈ news', p.1 ≠ C)
    (fin : FinA h₀ L m s₂ y Q ys news') : compPost (model prog w) A E (some (assign (.Name y py) env)) (fun _ s' => Q .next s') (.ref D) C (.ok .next) { s₂ with heap := h, toks := tk } := by
  subst hLe
  show wpAny _ A (assign (.Name y py) env (.ref D)) _ _ _
  refine wpAny_assign_Name (wpAny_storeName_local hy F'.ns (fun h₂ hn₂ hs₂ => ?_) hp)
  have hL₀ : h₀.get? env.locals = none := Heap.get?_none_of_le F'.above
  have F₂ : Fr h₀ env.locals h₂ (fun z => if z = y then some (.ref D) else m z) := ⟨hn₂, fun b o e => hs₂.extBut b o (fun q => by rw [q, hL₀] at e; cases e) (F'.keep b o e), F'.above⟩
  refine ⟨m', hn.sameBut hs₂ hCL, fun h'' hs'' => fin D h'' _ (F₂.change hs'' hCL hC₀) (fun p hp => ?_) o1⟩
  have z : h₂.get? p.1 = some p.2 := hs₂.extBut _ _ (N' p hp).2.1 (N' p hp).1
  refine ⟨hs''.extBut _ _ ?_ z, (N' p hp).2⟩
  rcases List.mem_cons.mp hp with rfl | hp
  · exact Ne.symm hCD
  · exact offC p hp

theorem listComp {elt iter : Expr} {x : Str} {px : Pos} {scope : Scope} {cl : List (Str × Addr)} {pos : Pos} {Q : Value → Shared → Prop} (_F₀ : Fr h₀ L s.heap m)
    (hclos : closureFor scope env = pure cl) (hcell : ∀ y ∈ scope.names, y.2 ≠ .cell) (hkind : scope.kind = .function)
    (hnames : ∀ y ∈ scope.names, y.2 = .local → scope.names.lookup y.1 = some .local) (hx : scope.names.lookup x = some .local)
    (h : wpAny (model prog w) A (eval iter env) (fun xv s₁ => wpAny (model prog w) A (pyIter xv) (CompAt prog w A h₀ L m env elt x scope cl (fun s₂ => FinE h₀ L m s₂ Q)) E s₁) E s)
    (hs : ∀ x, foldedSetIterable iter env x = pure x := by intro _; rfl) :
    wpAny (model prog w) A (eval (.ListComp elt [⟨.Name x px, iter, [], 0⟩] scope pos) env) Q E s := by
  rw [eval_ListComp]
  refine wpAny_comprehension_free (use := none) rfl hs hclos hkind hnames (wpAny_mono h (fun xv s₁ h₁ => wpAny_mono h₁ (fun it s₂ h₂ => ?_) fun _ _ e => e) fun _ _ e => e)
  obtain ⟨I, fp, St, n, P, S, news, rfl, B, hsz, F, N, off, hS, R⟩ := h₂
  exact block_U B.W hsz B.io B.st hcell hkind hx B.st0 B.fpl F N (fun e => B.lf (e ▸ B.W.sub I (List.mem_singleton.mpr rfl))) B.nI off hS R
    fun D C h tk m' ys news' F' N' o1 hn hC₀ hD₀ hCL hDL hCD offC fin => postE F' N' o1 hn hC₀ hCL hCD offC fin
theorem listCompA {elt iter : Expr} {x y : Str} {px py : Pos} {scope : Scope} {cl : List (Str × Addr)} {pos spos : Pos} {Q : Flow → Shared → Prop} (_F₀ : Fr h₀ L s.heap m) (hLe : env.locals = L)
    (hsw : swapsWith (.ListComp elt [⟨.Name x px, iter, [], 0⟩] scope pos) (some (.Name y py)) spos.line env = pure true)
    (hclos : closureFor scope env = pure cl) (hcell : ∀ z ∈ scope.names, z.2 ≠ .cell) (hkind : scope.kind = .function)
    (hnames : ∀ z ∈ scope.names, z.2 = .local → scope.names.lookup z.1 = some .local) (hx : scope.names.lookup x = some .local)
    (hy : env.kindOf y = some .local) (hp : (env.scope.kind == .class || (env.scope.kind == .module && env.locals != env.globals)) = false)
    (h : wpAny (model prog w) A (eval iter env) (fun xv s₁ => wpAny (model prog w) A (pyIter xv) (CompAt prog w A h₀ L m env elt x scope cl (fun s₂ => FinA h₀ L m s₂ y Q)) E s₁) E s)
    (hs : ∀ x, foldedSetIterable iter env x = pure x := by intro _; rfl) :
    wpAny (model prog w) A (exec (.Assign [.Name y py] (.ListComp elt [⟨.Name x px, iter, [], 0⟩] scope pos) spos) env) Q E s := by
  rw [exec_Assign_Name_used _ _ _ _ hsw]
  refine wpAny_bind (wpAny_standAt (wpAny_bind ?_))
  show wpAny _ A (do let _ ← comprehension (.ListComp elt [⟨.Name x px, iter, [], 0⟩] scope pos) scope env _ (newList []) false (eval iter env) (some (assign (.Name y py) env))) _ _ s
  refine wpAny_bind (wpAny_mono (wpAny_comprehension_free (use := some (assign (.Name y py) env)) (Q := fun _ s' => Q .next s') rfl hs hclos hkind hnames
    (wpAny_mono h (fun xv s₁ h₁ => wpAny_mono h₁ (fun it s₂ h₂ => ?_) fun _ _ e => e) fun _ _ e => e)) (fun _ s' hq => wpAny_pure (wpAny_pure hq)) fun _ _ e => e)
  obtain ⟨I, fp, St, n, P, S, news, rfl, B, hsz, F, N, off, hS, R⟩ := h₂
  exact block_U B.W hsz B.io B.st hcell hkind hx B.st0 B.fpl F N (fun e => B.lf (e ▸ B.W.sub I (List.mem_singleton.mpr rfl))) B.nI off hS R
    fun D C h tk m' ys news' F' N' o1 hn hC₀ hD₀ hCL hDL hCD offC fin => postA hLe hy hp F' N' o1 hn hC₀ hCL hCD offC fin
theorem listCompT {ct elt iter : Expr} {x : Str} {px : Pos} {scope : Scope} {cl : List (Str × Addr)} {pos : Pos} {Q : Value → Shared → Prop} (_F₀ : Fr h₀ L s.heap m)
    (hclos : closureFor scope env = pure cl) (hcell : ∀ y ∈ scope.names, y.2 ≠ .cell) (hkind : scope.kind = .function)
    (hnames : ∀ y ∈ scope.names, y.2 = .local → scope.names.lookup y.1 = some .local) (hx : scope.names.lookup x = some .local)
    (h : wpAny (model prog w) A (eval iter env) (fun xv s₁ => wpAny (model prog w) A (pyIter xv) (CompAtT prog w A h₀ L m env ct elt x scope cl (fun s₂ => FinE h₀ L m s₂ Q)) E s₁) E s)
    (hs : ∀ x, foldedSetIterable iter env x = pure x := by intro _; rfl) :
    wpAny (model prog w) A (eval (.ListComp elt [⟨.Name x px, iter, [ct], 0⟩] scope pos) env) Q E s := by
  rw [eval_ListComp]
  refine wpAny_comprehension_free (use := none) rfl hs hclos hkind hnames (wpAny_mono h (fun xv s₁ h₁ => wpAny_mono h₁ (fun it s₂ h₂ => ?_) fun _ _ e => e) fun _ _ e => e)
  obtain ⟨I, fp, St, n, P, S, news, rfl, B, hsz, F, N, off, hS, R⟩ := h₂
  exact block_T B.W hsz B.io B.st hcell hkind hx B.st0 B.fpl F N (fun e => B.lf (e ▸ B.W.sub I (List.mem_singleton.mpr rfl))) B.nI off hS R
    fun D C h tk m' ys news' F' N' o1 hn hC₀ hD₀ hCL hDL hCD offC fin => postE F' N' o1 hn hC₀ hCL hCD offC fin
theorem listCompTA {ct elt iter : Expr} {x y : Str} {px py : Pos} {scope : Scope} {cl : List (Str × Addr)} {pos spos : Pos} {Q : Flow → Shared → Prop} (_F₀ : Fr h₀ L s.heap m) (hLe : env.locals = L)
    (hsw : swapsWith (.ListComp elt [⟨.Name x px, iter, [ct], 0⟩] scope pos) (some (.Name y py)) spos.line env = pure true)
    (hclos : closureFor scope env = pure cl) (hcell : ∀ z ∈ scope.names, z.2 ≠ .cell) (hkind : scope.kind = .function)
    (hnames : ∀ z ∈ scope.names, z.2 = .local → scope.names.lookup z.1 = some .local) (hx : scope.names.lookup x = some .local)
    (hy : env.kindOf y = some .local) (hp : (env.scope.kind == .class || (env.scope.kind == .module && env.locals != env.globals)) = false)
    (h : wpAny (model prog w) A (eval iter env) (fun xv s₁ => wpAny (model prog w) A (pyIter xv) (CompAtT prog w A h₀ L m env ct elt x scope cl (fun s₂ => FinA h₀ L m s₂ y Q)) E s₁) E s)
    (hs : ∀ x, foldedSetIterable iter env x = pure x := by intro _; rfl) :
    wpAny (model prog w) A (exec (.Assign [.Name y py] (.ListComp elt [⟨.Name x px, iter, [ct], 0⟩] scope pos) spos) env) Q E s := by
  rw [exec_Assign_Name_used _ _ _ _ hsw]
  refine wpAny_bind (wpAny_standAt (wpAny_bind ?_))
  show wpAny _ A (do let _ ← comprehension (.ListComp elt [⟨.Name x px, iter, [ct], 0⟩] scope pos) scope env _ (newList []) false (eval iter env) (some (assign (.Name y py) env))) _ _ s
  refine wpAny_bind (wpAny_mono (wpAny_comprehension_free (use := some (assign (.Name y py) env)) (Q := fun _ s' => Q .next s') rfl hs hclos hkind hnames
    (wpAny_mono h (fun xv s₁ h₁ => wpAny_mono h₁ (fun it s₂ h₂ => ?_) fun _ _ e => e) fun _ _ e => e)) (fun _ s' hq => wpAny_pure (wpAny_pure hq)) fun _ _ e => e)
  obtain ⟨I, fp, St, n, P, S, news, rfl, B, hsz, F, N, off, hS, R⟩ := h₂
  exact block_T B.W hsz B.io B.st hcell hkind hx B.st0 B.fpl F N (fun e => B.lf (e ▸ B.W.sub I (List.mem_singleton.mpr rfl))) B.nI off hS R
    fun D C h tk m' ys news' F' N' o1 hn hC₀ hD₀ hCL hDL hCD offC fin => postA hLe hy hp F' N' o1 hn hC₀ hCL hCD offC fin

theorem compJ {elt : Expr} {x : Str} {scope : Scope} {cl : List (Str × Addr)} {S : List (Addr × Obj) → Prop} {P : Nat → Value → Prop} {Fin : List Value → List (Addr × Obj) → Prop} {n : Nat} {news : List (Addr × Obj)} (J : Nat → List Value → List (Addr × Obj) → Prop)
    (turn : ∀ i v I oI C oC D m₂ h tk (E' : Value → Shared → Prop) ys nw, i < n → P i v → J i ys nw → NsObj oC m₂ → m₂ x = some v → Fr h₀ L h m → News h₀ L h ((I, oI) :: (C, oC) :: (D, lst ys) :: nw) → Off3 I C D nw → ((@Ne Nat I C) ∧ (@Ne Nat I D) ∧ (@Ne Nat C D)) →
      wpAny (model prog w) A (eval elt (compEnvC scope cl C env)) (CompEnd h₀ L m { s with heap := h, toks := tk } I oI C oC D (lst ys) S (fun y nw' => J (i + 1) (ys ++ [y]) nw')) E' { s with heap := h, toks := tk })
    (fin : ∀ ys nw, J n ys nw → Fin ys nw) (h0 : J 0 [] news) : CompRest prog w A h₀ L m env elt x scope cl s S P Fin n 0 [] news := by
  have key : ∀ (j i : Nat) (ys : List Value) (nw : List (Addr × Obj)), i + j = n → J i ys nw → CompRest prog w A h₀ L m env elt x scope cl s S P Fin j i ys nw := by
    intro j
    induction j with
    | zero => intro i ys nw hi hJ; exact CompRest.zero (fin ys nw (by rw [← hi]; exact hJ))
    | succ j ih =>
      intro i ys nw hi hJ
      refine CompRest.succ ?_
      intro v I oI C oC D m₂ h tk E' hv hC hx F N off ne
      refine wpAny_mono (turn i v I oI C oC D m₂ h tk E' ys nw (by lia) hv hJ hC hx F N off ne) (fun y s₂ hq => ?_) fun _ _ e => e
      obtain ⟨h', tk', nw', e, F', N', off', hS, hJ'⟩ := hq
      exact ⟨h', tk', nw', e, F', N', off', hS, ih (i + 1) _ _ (by lia) hJ'⟩
  exact key n 0 [] news (by lia) h0

/-- an element's end: nothing of the ledger is lost -/
noncomputable def EltEnd (h₀ : Heap) (L : Addr) (m : Str → Option Value) (s₁ : Shared) (led : List (Addr × Obj)) (Out : Value → Prop) (y : Value) (s₂ : Shared) : Prop :=
  ∃ h' tk all, s₂ = { s₁ with heap := h', toks := tk } ∧ Fr h₀ L h' m ∧ News h₀ L h' all ∧ (∀ p ∈ led, p ∈ all) ∧ Out y
theorem eltEnd {s₁ : Shared} {led all : List (Addr × Obj)} {Out : Value → Prop} {y : Value} {h' : Heap} {tk : Nat} (F : Fr h₀ L h' m) (N : News h₀ L h' all) (hs : ∀ p ∈ led, p ∈ all) (ho : Out y) : EltEnd h₀ L m s₁ led Out y { s₁ with heap := h', toks := tk } :=
  ⟨h', tk, all, rfl, F, N, hs, ho⟩

theorem compPure {α β : Type} {Is : α → Value → Prop} {Out : β → Value → Prop} {xs : List α} (g : α → β) {elt : Expr} {x : Str} {scope : Scope} {cl : List (Str × Addr)} {S : List (Addr × Obj) → Prop} {P : Nat → Value → Prop} {Fin : List Value → List (Addr × Obj) → Prop} {n : Nat} {news : List (Addr × Obj)}
    (hn : n = xs.length) (hP : ∀ i v, P i v → ∃ a, xs[i]? = some a ∧ Is a v) (hS : S news)
    (turn : ∀ a v I oI C oC D m₂ h tk (E' : Value → Shared → Prop) ys, a ∈ xs → Is a v → NsObj oC m₂ → m₂ x = some v → Fr h₀ L h m → News h₀ L h ((I, oI) :: (C, oC) :: (D, lst ys) :: news) →
      wpAny (model prog w) A (eval elt (compEnvC scope cl C env)) (EltEnd h₀ L m { s with heap := h, toks := tk } ((I, oI) :: (C, oC) :: (D, lst ys) :: news) (Out (g a))) E' { s with heap := h, toks := tk })
    (fin : ∀ ys, Are Out ys (xs.map g) → Fin ys news) : CompRest prog w A h₀ L m env elt x scope cl s S P Fin n 0 [] news := by
  refine compJ (fun i ys nw => nw = news ∧ Are Out ys ((xs.take i).map g)) ?_ ?_ ⟨rfl, by simpa using Are.nil⟩
  · rintro i v I oI C oC D m₂ h tk E' ys nw hi hv ⟨rfl, hy⟩ hC hx F N off ne
    obtain ⟨a, ha, hIs⟩ := hP i v hv
    refine wpAny_mono (turn a v I oI C oC D m₂ h tk E' ys (List.mem_of_getElem? ha) hIs hC hx F N) (fun y s₂ hq => ?_) fun _ _ e => e
    obtain ⟨h', tk', all, e, F', N', hsub, ho⟩ := hq
    refine ⟨h', tk', nw, e, F', fun p hp => N' p (hsub p hp), off, hS, rfl, ?_⟩
    rw [List.take_add_one, ha]
    simpa using hy.append (.cons ho .nil)
  · rintro ys nw ⟨rfl, hy⟩
    refine fin ys ?_
    rw [hn, List.take_length] at hy
    exact hy
theorem compPureT {α β : Type} {Is : α → Value → Prop} {Out : β → Value → Prop} {xs : List α} (keep : α → Bool) (g : α → β) {ct elt : Expr} {x : Str} {scope : Scope} {cl : List (Str × Addr)} {S : List (Addr × Obj) → Prop} {P : Nat → Value → Prop} {Fin : List Value → List (Addr × Obj) → Prop} {n : Nat} {news : List (Addr × Obj)}
    (hn : n = xs.length) (hP : ∀ i v, P i v → ∃ a, xs[i]? = some a ∧ Is a v) (hS : S news)
    (turn : ∀ a v I oI C oC D m₂ h tk (E' : Value → Shared → Prop) ys, a ∈ xs → Is a v → NsObj oC m₂ → m₂ x = some v → Fr h₀ L h m → News h₀ L h ((I, oI) :: (C, oC) :: (D, lst ys) :: news) →
      wpAny (model prog w) A (isTrue ct (compEnvC scope cl C env) (eval ct (compEnvC scope cl C env))) (fun ok s' => if ok = true then
        wpAny (model prog w) A (eval elt (compEnvC scope cl C env)) (EltEnd h₀ L m { s with heap := h, toks := tk } ((I, oI) :: (C, oC) :: (D, lst ys) :: news) (fun y => keep a = true ∧ Out (g a) y)) E' s'
        else EltEnd h₀ L m { s with heap := h, toks := tk } ((I, oI) :: (C, oC) :: (D, lst ys) :: news) (fun _ => keep a = false) .none s') E' { s with heap := h, toks := tk })
    (fin : ∀ ys, Are Out ys ((xs.filter keep).map g) → Fin ys news) : CompRestT prog w A h₀ L m env ct elt x scope cl s S P Fin n 0 [] news := by
  have key : ∀ (j i : Nat) (ys : List Value), i + j = n → Are Out ys (((xs.take i).filter keep).map g) → CompRestT prog w A h₀ L m env ct elt x scope cl s S P Fin j i ys news := by
    intro j
    induction j with
    | zero =>
      intro i ys hi hy
      have e : i = xs.length := by lia
      rw [e, List.take_length] at hy
      exact CompRestT.zero (fin ys hy)
    | succ j ih =>
      intro i ys hi hy
      refine CompRestT.succ ?_
      intro v I oI C oC D m₂ h tk E' hv hC hx F N off ne
      obtain ⟨a, ha, hIs⟩ := hP i v hv
      have e1 : xs.take (i + 1) = xs.take i ++ [a] := by rw [List.take_add_one, ha]; rfl
      refine wpAny_mono (turn a v I oI C oC D m₂ h tk E' ys (List.mem_of_getElem? ha) hIs hC hx F N) (fun ok s' hq => ?_) fun _ _ e => e
      cases ok with
      | true =>
        simp only [if_true] at hq ⊢
        refine wpAny_mono hq (fun y s₂ hq => ?_) fun _ _ e => e
        obtain ⟨h', tk', all, e, F', N', hsub, hk, ho⟩ := hq
        refine ⟨h', tk', news, e, F', fun p hp => N' p (hsub p hp), off, hS, ih (i + 1) _ (by lia) ?_⟩
        rw [e1, List.filter_append, List.map_append]
        have : [a].filter keep = [a] := by simp [hk]
        rw [this]
        exact hy.append (.cons ho .nil)
      | false =>
        simp only [Bool.false_eq_true, if_false] at hq ⊢
        obtain ⟨h', tk', all, e, F', N', hsub, hk⟩ := hq
        refine ⟨h', tk', news, e, F', fun p hp => N' p (hsub p hp), off, hS, ih (i + 1) _ (by lia) ?_⟩
        rw [e1, List.filter_append, List.map_append]
        have : [a].filter keep = [] := by simp [hk]
        rw [this]
        simpa using hy
  exact key n 0 [] (by lia) (by simpa using Are.nil)
end
end Mine
/-- SRC -/
theorem Mine.srcMark : True := trivial
theorem Mine.cpsLe {xs : Str} (h : xs.length ≤ 10000) : xs.cps.toList.length ≤ sizeLine := by
  have e : xs.cps.toList.length = xs.length := by simp [Str.length]
  rw [sizeLine_eq]; lia
namespace Mine
open PySem.Spec PySem.Calls PyProof.V LCg LCt
section
variable {prog : Program} {w : World} {A : Around} {E : Value → Shared → Prop} {s : Shared} {h₀ : Heap} {L : Addr} {m : Str → Option Value} {env : Env} {news : List (Addr × Obj)} {β : Type} {Out : β → Value → Prop} {elt ct : Expr} {x : Str} {scope : Scope} {cl : List (Str × Addr)} {Fin : Shared → List Value → List (Addr × Obj) → Prop}
theorem compStr {xs : Str} {tx : Tok} (g : Nat → β) (hh : A.handled = none) (F : Fr h₀ L s.heap m) (N : News h₀ L s.heap news) (hsz : xs.length ≤ 10000)
    (turn : ∀ (c : Nat) (u : Tok) I oI C oC D m₂ h tk (E' : Value → Shared → Prop) ys, c ∈ xs.cps.toList → NsObj oC m₂ → m₂ x = some (.str ⟨#[c]⟩ u) → Fr h₀ L h m → News h₀ L h ((I, oI) :: (C, oC) :: (D, lst ys) :: news) →
      wpAny (model prog w) A (eval elt (compEnvC scope cl C env)) (EltEnd h₀ L m { s with heap := h, toks := tk } ((I, oI) :: (C, oC) :: (D, lst ys) :: news) (Out (g c))) E' { s with heap := h, toks := tk })
    (fin : ∀ hp ys, Are Out ys (xs.cps.toList.map g) → Fin { s with heap := hp } ys news) : wpAny (model prog w) A (pyIter (.str xs tx)) (CompAt prog w A h₀ L m env elt x scope cl Fin) E s := by
  refine iterStr hh F N fun I fp St o B F1 N1 hlt => ⟨I, fp, St, _, _, _, news, rfl, B, (cpsLe hsz), F1, N1, ne_of_allLt hlt, trivial, ?_⟩
  refine compPure (Is := (fun (c : Nat) v => ∃ u, v = Value.str ⟨#[c]⟩ u)) (Out := Out) (xs := xs.cps.toList) g rfl (fun i v hv => by obtain ⟨c, u, h1, h2⟩ := hv; exact ⟨c, h1, u, h2⟩) trivial ?_ ?_
  · rintro c v I oI C oC D m₂ h tk E' ys hmem ⟨u, rfl⟩ hC hx F2 N2
    exact turn c u I oI C oC D m₂ h tk E' ys hmem hC hx F2 N2
  · intro ys hy
    exact fin _ ys hy
theorem compStrT {xs : Str} {tx : Tok} (keep : Nat → Bool) (g : Nat → β) (hh : A.handled = none) (F : Fr h₀ L s.heap m) (N : News h₀ L s.heap news) (hsz : xs.length ≤ 10000)
    (turn : ∀ (c : Nat) (u : Tok) I oI C oC D m₂ h tk (E' : Value → Shared → Prop) ys, c ∈ xs.cps.toList → NsObj oC m₂ → m₂ x = some (.str ⟨#[c]⟩ u) → Fr h₀ L h m → News h₀ L h ((I, oI) :: (C, oC) :: (D, lst ys) :: news) →
      wpAny (model prog w) A (isTrue ct (compEnvC scope cl C env) (eval ct (compEnvC scope cl C env))) (fun ok s' => if ok = true then
        wpAny (model prog w) A (eval elt (compEnvC scope cl C env)) (EltEnd h₀ L m { s with heap := h, toks := tk } ((I, oI) :: (C, oC) :: (D, lst ys) :: news) (fun y => keep c = true ∧ Out (g c) y)) E' s'
        else EltEnd h₀ L m { s with heap := h, toks := tk } ((I, oI) :: (C, oC) :: (D, lst ys) :: news) (fun _ => keep c = false) .none s') E' { s with heap := h, toks := tk })
    (fin : ∀ hp ys, Are Out ys ((xs.cps.toList.filter keep).map g) → Fin { s with heap := hp } ys news) : wpAny (model prog w) A (pyIter (.str xs tx)) (CompAtT prog w A h₀ L m env ct elt x scope cl Fin) E s := by
  refine iterStr hh F N fun I fp St o B F1 N1 hlt => ⟨I, fp, St, _, _, _, news, rfl, B, (cpsLe hsz), F1, N1, ne_of_allLt hlt, trivial, ?_⟩
  refine compPureT (Is := (fun (c : Nat) v => ∃ u, v = Value.str ⟨#[c]⟩ u)) (Out := Out) (xs := xs.cps.toList) keep g rfl (fun i v hv => by obtain ⟨c, u, h1, h2⟩ := hv; exact ⟨c, h1, u, h2⟩) trivial ?_ ?_
  · rintro c v I oI C oC D m₂ h tk E' ys hmem ⟨u, rfl⟩ hC hx F2 N2
    exact turn c u I oI C oC D m₂ h tk E' ys hmem hC hx F2 N2
  · intro ys hy
    exact fin _ ys hy
theorem compList {γ : Type} {Is : γ → Value → Prop} {xs : List γ} {ax : Addr} {vs : List Value} {k : Nat} (g : γ → β) (hh : A.handled = none) (F : Fr h₀ L s.heap m) (N : News h₀ L s.heap news) (hm : (ax, W.listOf vs.toArray k) ∈ news) (hvs : Are Is vs xs) (hsz : xs.length ≤ 10000)
    (turn : ∀ (c : γ) (v : Value) I oI C oC D m₂ h tk (E' : Value → Shared → Prop) ys, c ∈ xs → Is c v → NsObj oC m₂ → m₂ x = some (v) → Fr h₀ L h m → News h₀ L h ((I, oI) :: (C, oC) :: (D, lst ys) :: news) →
      wpAny (model prog w) A (eval elt (compEnvC scope cl C env)) (EltEnd h₀ L m { s with heap := h, toks := tk } ((I, oI) :: (C, oC) :: (D, lst ys) :: news) (Out (g c))) E' { s with heap := h, toks := tk })
    (fin : ∀ hp ys, Are Out ys (xs.map g) → Fin { s with heap := hp } ys news) : wpAny (model prog w) A (pyIter (.ref ax)) (CompAt prog w A h₀ L m env elt x scope cl Fin) E s := by
  refine iterList hh F N hm fun I fp St o B F1 N1 hlt => ⟨I, fp, St, _, _, _, news, rfl, B, (by rw [sizeLine_eq, hvs.length]; lia), F1, N1, ne_of_allLt hlt, hm, ?_⟩
  refine compPure (Is := Is) (Out := Out) (xs := xs) g hvs.length (fun i v hv => hvs.at i v hv) hm ?_ ?_
  · rintro c v I oI C oC D m₂ h tk E' ys hmem hIs hC hx F2 N2
    exact turn c v I oI C oC D m₂ h tk E' ys hmem hIs hC hx F2 N2
  · intro ys hy
    exact fin _ ys hy
theorem compListT {γ : Type} {Is : γ → Value → Prop} {xs : List γ} {ax : Addr} {vs : List Value} {k : Nat} (keep : γ → Bool) (g : γ → β) (hh : A.handled = none) (F : Fr h₀ L s.heap m) (N : News h₀ L s.heap news) (hm : (ax, W.listOf vs.toArray k) ∈ news) (hvs : Are Is vs xs) (hsz : xs.length ≤ 10000)
    (turn : ∀ (c : γ) (v : Value) I oI C oC D m₂ h tk (E' : Value → Shared → Prop) ys, c ∈ xs → Is c v → NsObj oC m₂ → m₂ x = some (v) → Fr h₀ L h m → News h₀ L h ((I, oI) :: (C, oC) :: (D, lst ys) :: news) →
      wpAny (model prog w) A (isTrue ct (compEnvC scope cl C env) (eval ct (compEnvC scope cl C env))) (fun ok s' => if ok = true then
        wpAny (model prog w) A (eval elt (compEnvC scope cl C env)) (EltEnd h₀ L m { s with heap := h, toks := tk } ((I, oI) :: (C, oC) :: (D, lst ys) :: news) (fun y => keep c = true ∧ Out (g c) y)) E' s'
        else EltEnd h₀ L m { s with heap := h, toks := tk } ((I, oI) :: (C, oC) :: (D, lst ys) :: news) (fun _ => keep c = false) .none s') E' { s with heap := h, toks := tk })
    (fin : ∀ hp ys, Are Out ys ((xs.filter keep).map g) → Fin { s with heap := hp } ys news) : wpAny (model prog w) A (pyIter (.ref ax)) (CompAtT prog w A h₀ L m env ct elt x scope cl Fin) E s := by
  refine iterList hh F N hm fun I fp St o B F1 N1 hlt => ⟨I, fp, St, _, _, _, news, rfl, B, (by rw [sizeLine_eq, hvs.length]; lia), F1, N1, ne_of_allLt hlt, hm, ?_⟩
  refine compPureT (Is := Is) (Out := Out) (xs := xs) keep g hvs.length (fun i v hv => hvs.at i v hv) hm ?_ ?_
  · rintro c v I oI C oC D m₂ h tk E' ys hmem hIs hC hx F2 N2
    exact turn c v I oI C oC D m₂ h tk E' ys hmem hIs hC hx F2 N2
  · intro ys hy
    exact fin _ ys hy
theorem compRange {r : Addr} {a b : Int} {t u v : Tok} {k : Nat} (g : Int → β) (hh : A.handled = none) (F : Fr h₀ L s.heap m) (N : News h₀ L s.heap news) (hr : IsRange s.heap r a b 1 t u v) (hsm : Builtin.Range.small a b 1 = true) (hk : Builtin.Range.rangeSize a b 1 = ((k : Nat) : Int)) (hsz : k ≤ 10000)
    (turn : ∀ (c : Int) (tc : Tok) I oI C oC D m₂ h tk (E' : Value → Shared → Prop) ys, c ∈ rangeKs a k → NsObj oC m₂ → m₂ x = some (.int c tc) → Fr h₀ L h m → News h₀ L h ((I, oI) :: (C, oC) :: (D, lst ys) :: news) →
      wpAny (model prog w) A (eval elt (compEnvC scope cl C env)) (EltEnd h₀ L m { s with heap := h, toks := tk } ((I, oI) :: (C, oC) :: (D, lst ys) :: news) (Out (g c))) E' { s with heap := h, toks := tk })
    (fin : ∀ hp ys, Are Out ys ((rangeKs a k).map g) → Fin { s with heap := hp } ys news) : wpAny (model prog w) A (pyIter (.ref r)) (CompAt prog w A h₀ L m env elt x scope cl Fin) E s := by
  refine iterRange hh F N hr hsm hk fun I fp St o B F1 N1 hlt => ⟨I, fp, St, _, fun i v => i < k ∧ ∃ t, v = .int (a + (i : Int)) t, _, news, rfl, { W := B.W.bound, io := B.io, st := B.st, fpk := B.fpk, st0 := B.st0, fpl := B.fpl, lf := B.lf, nI := B.nI }, (by rw [sizeLine_eq]; lia), F1, N1, ne_of_allLt hlt, trivial, ?_⟩
  refine compPure (Is := IsInt) (Out := Out) (xs := (rangeKs a k)) g (rangeKs_length a k).symm (fun i v hv => by obtain ⟨hi, t, e⟩ := hv; exact ⟨a + (i : Int), by simp [rangeKs, hi], t, e⟩) trivial ?_ ?_
  · rintro c v I oI C oC D m₂ h tk E' ys hmem ⟨tc, rfl⟩ hC hx F2 N2
    exact turn c tc I oI C oC D m₂ h tk E' ys hmem hC hx F2 N2
  · intro ys hy
    exact fin _ ys hy
theorem compRangeT {r : Addr} {a b : Int} {t u v : Tok} {k : Nat} (keep : Int → Bool) (g : Int → β) (hh : A.handled = none) (F : Fr h₀ L s.heap m) (N : News h₀ L s.heap news) (hr : IsRange s.heap r a b 1 t u v) (hsm : Builtin.Range.small a b 1 = true) (hk : Builtin.Range.rangeSize a b 1 = ((k : Nat) : Int)) (hsz : k ≤ 10000)
    (turn : ∀ (c : Int) (tc : Tok) I oI C oC D m₂ h tk (E' : Value → Shared → Prop) ys, c ∈ rangeKs a k → NsObj oC m₂ → m₂ x = some (.int c tc) → Fr h₀ L h m → News h₀ L h ((I, oI) :: (C, oC) :: (D, lst ys) :: news) →
      wpAny (model prog w) A (isTrue ct (compEnvC scope cl C env) (eval ct (compEnvC scope cl C env))) (fun ok s' => if ok = true then
        wpAny (model prog w) A (eval elt (compEnvC scope cl C env)) (EltEnd h₀ L m { s with heap := h, toks := tk } ((I, oI) :: (C, oC) :: (D, lst ys) :: news) (fun y => keep c = true ∧ Out (g c) y)) E' s'
        else EltEnd h₀ L m { s with heap := h, toks := tk } ((I, oI) :: (C, oC) :: (D, lst ys) :: news) (fun _ => keep c = false) .none s') E' { s with heap := h, toks := tk })
    (fin : ∀ hp ys, Are Out ys (((rangeKs a k).filter keep).map g) → Fin { s with heap := hp } ys news) : wpAny (model prog w) A (pyIter (.ref r)) (CompAtT prog w A h₀ L m env ct elt x scope cl Fin) E s := by
  refine iterRange hh F N hr hsm hk fun I fp St o B F1 N1 hlt => ⟨I, fp, St, _, fun i v => i < k ∧ ∃ t, v = .int (a + (i : Int)) t, _, news, rfl, { W := B.W.bound, io := B.io, st := B.st, fpk := B.fpk, st0 := B.st0, fpl := B.fpl, lf := B.lf, nI := B.nI }, (by rw [sizeLine_eq]; lia), F1, N1, ne_of_allLt hlt, trivial, ?_⟩
  refine compPureT (Is := IsInt) (Out := Out) (xs := (rangeKs a k)) keep g (rangeKs_length a k).symm (fun i v hv => by obtain ⟨hi, t, e⟩ := hv; exact ⟨a + (i : Int), by simp [rangeKs, hi], t, e⟩) trivial ?_ ?_
  · rintro c v I oI C oC D m₂ h tk E' ys hmem ⟨tc, rfl⟩ hC hx F2 N2
    exact turn c tc I oI C oC D m₂ h tk E' ys hmem hC hx F2 N2
  · intro ys hy
    exact fin _ ys hy
theorem compDict {d : Addr} {od : Obj} {xs : List (Int × Int)} (g : (Int × Int) → β) (hh : A.handled = none) (F : Fr h₀ L s.heap m) (N : News h₀ L s.heap news) (hm : (d, od) ∈ news) (hd : IsD prog w od xs) (lo : (d == sysModules) = false) (hsz : xs.length ≤ 10000)
    (turn : ∀ (c : Int × Int) (tc : Tok) I oI C oC D m₂ h tk (E' : Value → Shared → Prop) ys, c ∈ xs → NsObj oC m₂ → m₂ x = some (.int c.1 tc) → Fr h₀ L h m → News h₀ L h ((I, oI) :: (C, oC) :: (D, lst ys) :: news) →
      wpAny (model prog w) A (eval elt (compEnvC scope cl C env)) (EltEnd h₀ L m { s with heap := h, toks := tk } ((I, oI) :: (C, oC) :: (D, lst ys) :: news) (Out (g c))) E' { s with heap := h, toks := tk })
    (fin : ∀ hp ys, Are Out ys (xs.map g) → Fin { s with heap := hp } ys news) : wpAny (model prog w) A (pyIter (.ref d)) (CompAt prog w A h₀ L m env elt x scope cl Fin) E s := by
  refine iterDict hh F N hm hd lo fun I fp St o B F1 N1 hlt => ⟨I, fp, St, _, _, _, news, rfl, B, (by rw [sizeLine_eq]; lia), F1, N1, ne_of_allLt hlt, hm, ?_⟩
  refine compPure (Is := (fun (c : Int × Int) v => IsInt c.1 v)) (Out := Out) (xs := xs) g rfl (fun i v hv => by obtain ⟨c, u, h1, h2⟩ := hv; exact ⟨c, h1, u, h2⟩) hm ?_ ?_
  · rintro c v I oI C oC D m₂ h tk E' ys hmem ⟨tc, rfl⟩ hC hx F2 N2
    exact turn c tc I oI C oC D m₂ h tk E' ys hmem hC hx F2 N2
  · intro ys hy
    exact fin _ ys hy
theorem compDictT {d : Addr} {od : Obj} {xs : List (Int × Int)} (keep : (Int × Int) → Bool) (g : (Int × Int) → β) (hh : A.handled = none) (F : Fr h₀ L s.heap m) (N : News h₀ L s.heap news) (hm : (d, od) ∈ news) (hd : IsD prog w od xs) (lo : (d == sysModules) = false) (hsz : xs.length ≤ 10000)
    (turn : ∀ (c : Int × Int) (tc : Tok) I oI C oC D m₂ h tk (E' : Value → Shared → Prop) ys, c ∈ xs → NsObj oC m₂ → m₂ x = some (.int c.1 tc) → Fr h₀ L h m → News h₀ L h ((I, oI) :: (C, oC) :: (D, lst ys) :: news) →
      wpAny (model prog w) A (isTrue ct (compEnvC scope cl C env) (eval ct (compEnvC scope cl C env))) (fun ok s' => if ok = true then
        wpAny (model prog w) A (eval elt (compEnvC scope cl C env)) (EltEnd h₀ L m { s with heap := h, toks := tk } ((I, oI) :: (C, oC) :: (D, lst ys) :: news) (fun y => keep c = true ∧ Out (g c) y)) E' s'
        else EltEnd h₀ L m { s with heap := h, toks := tk } ((I, oI) :: (C, oC) :: (D, lst ys) :: news) (fun _ => keep c = false) .none s') E' { s with heap := h, toks := tk })
    (fin : ∀ hp ys, Are Out ys ((xs.filter keep).map g) → Fin { s with heap := hp } ys news) : wpAny (model prog w) A (pyIter (.ref d)) (CompAtT prog w A h₀ L m env ct elt x scope cl Fin) E s := by
  refine iterDict hh F N hm hd lo fun I fp St o B F1 N1 hlt => ⟨I, fp, St, _, _, _, news, rfl, B, (by rw [sizeLine_eq]; lia), F1, N1, ne_of_allLt hlt, hm, ?_⟩
  refine compPureT (Is := (fun (c : Int × Int) v => IsInt c.1 v)) (Out := Out) (xs := xs) keep g rfl (fun i v hv => by obtain ⟨c, u, h1, h2⟩ := hv; exact ⟨c, h1, u, h2⟩) hm ?_ ?_
  · rintro c v I oI C oC D m₂ h tk E' ys hmem ⟨tc, rfl⟩ hC hx F2 N2
    exact turn c tc I oI C oC D m₂ h tk E' ys hmem hC hx F2 N2
  · intro ys hy
    exact fin _ ys hy
end
end Mine
namespace Mine
open PySem.Spec PySem.Calls PyProof.V
section
variable {prog : Program} {w : World} {A : Around} {E : Value → Shared → Prop} {s : Shared} {h₀ : Heap} {L : Addr} {m : Str → Option Value} {env : Env} {target : Expr} {body : List Stmt} {Q : Flow → Shared → Prop}
theorem restJ {β : Type} {ws : List (Addr × String)} {keep : List (Addr × Obj)} (f : β → Itm) (J : List β → (Str → Option Value) → List (Addr × Obj) → Prop)
    (turn : ∀ a rest m nw v h tk its, J (a :: rest) m nw → (f a).Is v h → Fr h₀ env.locals h m → Objs ws its → News h₀ env.locals h (its ++ nw) →
      wpAny (model prog w) A (assign target env v) (fun _ s₂ => wpAny (model prog w) A (execs body env) (UnrPostW h₀ env.locals { s with heap := h, toks := tk } its (fun m' n' => SubL keep n' ∧ J rest m' n') Q) E s₂) E { s with heap := h, toks := tk })
    (done : ∀ m nw h tk, J [] m nw → Fr h₀ env.locals h m → News h₀ env.locals h nw → Q .next { s with heap := h, toks := tk }) :
    ∀ (xs : List β) (m : Str → Option Value) (nw : List (Addr × Obj)), J xs m nw → ItemsRest prog w A E h₀ env target body Q s ws keep (xs.map f) m nw := by
  intro xs
  induction xs with
  | nil => intro m nw hJ h tk F N; exact done m nw h tk hJ F N
  | cons a r ih =>
    intro m nw hJ v h tk hv F
    have key : ∀ (ws : List (Addr × String)) (k : List (Addr × Obj) → Prop), (∀ its, Objs ws its → k its) → AllObj ws k := by
      intro ws
      induction ws with
      | nil => intro k h; exact AllObj.nil (h [] trivial)
      | cons q r ih => intro k h; exact AllObj.cons fun o ho => ih _ fun its hi => h _ ⟨⟨rfl, ho⟩, hi⟩
    refine key _ _ fun its hits N => ?_
    refine wpAny_mono (turn a r m nw v h tk its hJ hv F hits N) (fun _ s₂ h₂ => wpAny_mono h₂ (fun fl s₃ q => ?_) fun _ _ e => e) fun _ _ e => e
    cases fl with
    | ret v => exact q
    | brk => exact q
    | next =>
      obtain ⟨h', tk', m', n', e, F', N', ho, hk, hJ'⟩ := q
      exact ⟨h', tk', m', n', e, F', N', ho, hk, ih m' n' hJ'⟩
    | cont =>
      obtain ⟨h', tk', m', n', e, F', N', ho, hk, hJ'⟩ := q
      exact ⟨h', tk', m', n', e, F', N', ho, hk, ih m' n' hJ'⟩
theorem unr_ret {its : List (Addr × Obj)} {rest : (Str → Option Value) → List (Addr × Obj) → Prop} {s₁ s₂ : Shared} {v : Value} (q : Q (.ret v) s₂) : UnrPostW h₀ L s₁ its rest Q (.ret v) s₂ := q
theorem unr_next {I : Addr} {oI : Obj} {rest : (Str → Option Value) → List (Addr × Obj) → Prop} {s₁ : Shared} {h' : Heap} {tk : Nat} {m' : Str → Option Value} {nw all : List (Addr × Obj)} (F : Fr h₀ L h' m') (N : News h₀ L h' all) (hs : ∀ p ∈ (I, oI) :: nw, p ∈ all) (hn : ∀ p ∈ nw, p.1 ≠ I) (hr : rest m' nw) :
    UnrPostW h₀ L s₁ [(I, oI)] rest Q .next { s₁ with heap := h', toks := tk } :=
  ⟨h', tk, m', nw, rfl, F, fun p hp => N p (hs p hp), fun p hp q hq => by rw [List.mem_singleton.mp hq]; exact hn p hp, hr⟩
theorem objs_one {a : Addr} {c : String} {its : List (Addr × Obj)} (h : Objs [(a, c)] its) : ∃ o, its = [(a, o)] := by
  cases its with
  | nil => exact (show False from h).elim
  | cons p r =>
    cases r with
    | nil =>
      obtain ⟨⟨e, _⟩, _⟩ := h
      obtain ⟨pa, po⟩ := p
      have e' : pa = a := e
      subst e'
      exact ⟨po, rfl⟩
    | cons q r => exact (show False from h.2).elim
end
end Mine
namespace Mine
open PySem.Spec PySem.Calls PyProof.V
section
variable {prog : Program} {w : World} {A : Around} {E : Value → Shared → Prop} {s : Shared} {h₀ : Heap} {m : Str → Option Value} {env : Env} {target : Expr} {body : List Stmt} {Q : Flow → Shared → Prop}
theorem postOf {L I : Addr} {oI : Obj} {k : Addr} {ok : Obj} {J : (Str → Option Value) → List (Addr × Obj) → Prop} (hk : ∀ m nw, J m nw → (k, ok) ∈ nw) {s₁ : Shared} {f : Flow} {s₂ : Shared} (h : TurnEnd h₀ L I oI J s₁ Q f s₂) :
    UnrPostW h₀ L s₁ [(I, oI)] (fun m' n' => SubL [(k, ok)] n' ∧ J m' n') Q f s₂ := by
  have key : (∃ h' tk m' nw, s₂ = { s₁ with heap := h', toks := tk } ∧ Fr h₀ L h' m' ∧ News h₀ L h' ((I, oI) :: nw) ∧ (∀ p ∈ nw, p.1 ≠ I) ∧ J m' nw) → UnrEndW h₀ L s₁ [(I, oI)] (fun m' n' => SubL [(k, ok)] n' ∧ J m' n') s₂ := by
    rintro ⟨h', tk, m', nw, e, F, N, hn, hJ⟩
    exact ⟨h', tk, m', nw, e, F, N, fun p hp q hq => by rw [List.mem_singleton.mp hq]; exact hn p hp, ⟨hk _ _ hJ, trivial⟩, hJ⟩
  cases f with
  | ret v => exact h
  | brk => exact h
  | next => exact key h
  | cont => exact key h
theorem dictVals {vw d : Addr} {od : Obj} {c : List (Int × Int)} {m₀ : Str → Option Value} {news : List (Addr × Obj)} (J : (Str → Option Value) → List (Addr × Obj) → List (Int × Int) → (Str → Option Value) → List (Addr × Obj) → Prop)
    (hh : A.handled = none) (F : Fr h₀ env.locals s.heap m₀) (N : News h₀ env.locals s.heap news) (hv : (vw, ({ cls := .type "dict_values", data := .fields #[.ref d] } : Obj)) ∈ news) (hd : IsD prog w od c) (lo : (d == sysModules) = false)
    (hk : ∀ r m nw, J m₀ news r m nw → (d, od) ∈ nw) (hJ : J m₀ news c m₀ news)
    (turn : ∀ k x rest m₁ nw h tk t I oI, J m₀ news ((k, x) :: rest) m₁ nw → AllLt I news → Fr h₀ env.locals h m₁ → News h₀ env.locals h ((I, oI) :: nw) →
      wpAny (model prog w) A (assign target env (.int x t)) (fun _ s₂ => wpAny (model prog w) A (execs body env) (TurnEnd h₀ env.locals I oI (J m₀ news rest) { s with heap := h, toks := tk } Q) E s₂) E { s with heap := h, toks := tk })
    (done : ∀ m nw h tk, J m₀ news [] m nw → Fr h₀ env.locals h m → News h₀ env.locals h nw → Q .next { s with heap := h, toks := tk }) :
    wpAny (model prog w) A (pyIter (.ref vw)) (fun it s₂ => TurnsAt prog w A h₀ env target body Q E it s₂) E s := by
  obtain ⟨kvs, hi, hf⟩ := hd
  have hm := hk _ _ _ hJ
  have hdo : s.heap.DictOf (intKind prog w) d kvs := Heap.dictOf_iff.mpr ⟨od, (N _ hm).1, hi⟩
  refine kti_vals (knd := intKind prog w) (enc := PyData.int) (D := kdfD c) (od := od) hh F N ⟨_, (N _ hv).1, rfl, rfl⟩ ⟨lo, kvs, hdo, hf⟩ hm (show _ = c.map (fun p => Itm.flat (PyData.int p.2)) by simp only [kdfD, List.map_map]; rfl) fun I hI => ?_
  refine restJ (fun p : Int × Int => Itm.flat (PyData.int p.2)) (J m₀ news) ?_ done c m₀ news hJ
  rintro ⟨k, x⟩ rest m₁ nw v h tk its hJ' hv' F₁ hits N₁
  obtain ⟨oI, rfl⟩ := objs_one hits
  obtain ⟨t, rfl⟩ := PyProof.V.Flat.int_inv (show Flat v (PyData.int x) from hv')
  exact wpAny_mono (turn k x rest m₁ nw h tk t I oI hJ' (allLt_of hI) F₁ N₁) (fun _ s₂ h₂ => wpAny_mono h₂ (fun f s₃ q => postOf (hk rest) q) fun _ _ e => e) fun _ _ e => e
theorem dictItems {elts : List Expr} {kk : Nat} {pos : Pos} {vw d : Addr} {od : Obj} {c : List (Int × Int)} {m₀ : Str → Option Value} {news : List (Addr × Obj)} (J : (Str → Option Value) → List (Addr × Obj) → List (Int × Int) → (Str → Option Value) → List (Addr × Obj) → Prop)
    (hh : A.handled = none) (F : Fr h₀ env.locals s.heap m₀) (N : News h₀ env.locals s.heap news) (hv : (vw, ({ cls := .type "dict_items", data := .fields #[.ref d] } : Obj)) ∈ news) (hd : IsD prog w od c) (lo : (d == sysModules) = false)
    (hk : ∀ r m nw, J m₀ news r m nw → (d, od) ∈ nw) (hJ : J m₀ news c m₀ news)
    (turn : ∀ k x rest m₁ nw h tk t u I oI T, J m₀ news ((k, x) :: rest) m₁ nw → AllLt I news → IsTup h T #[.int k t, .int x u] → Fr h₀ env.locals h m₁ → News h₀ env.locals h ((I, oI) :: nw) →
      wpAny (model prog w) A (assign (.Tuple elts kk pos) env (.ref T)) (fun _ s₂ => wpAny (model prog w) A (execs body env) (TurnEnd h₀ env.locals I oI (J m₀ news rest) { s with heap := h, toks := tk } Q) E s₂) E { s with heap := h, toks := tk })
    (done : ∀ m nw h tk, J m₀ news [] m nw → Fr h₀ env.locals h m → News h₀ env.locals h nw → Q .next { s with heap := h, toks := tk }) :
    wpAny (model prog w) A (pyIter (.ref vw)) (fun it s₂ => TurnsAt prog w A h₀ env (.Tuple elts kk pos) body Q E it s₂) E s := by
  obtain ⟨kvs, hi, hf⟩ := hd
  have hm := hk _ _ _ hJ
  have hdo : s.heap.DictOf (intKind prog w) d kvs := Heap.dictOf_iff.mpr ⟨od, (N _ hm).1, hi⟩
  refine kti_items (knd := intKind prog w) (enc := PyData.int) (D := kdfD c) (od := od) hh F N ⟨_, (N _ hv).1, rfl, rfl⟩ ⟨lo, kvs, hdo, hf⟩ hm (fun k v h => Value.isInt_shape h) (show _ = c.map (fun p => Itm.pairF (fun t => .int p.1 t) (PyData.int p.2)) by simp only [kdfD, List.map_map]; rfl) fun I hI => ?_
  refine restJ (fun p : Int × Int => Itm.pairF (fun t => .int p.1 t) (PyData.int p.2)) (J m₀ news) ?_ done c m₀ news hJ
  rintro ⟨k, x⟩ rest m₁ nw v h tk its hJ' hv' F₁ hits N₁
  obtain ⟨oI, rfl⟩ := objs_one hits
  obtain ⟨T, t, y, rfl, hy, hT⟩ := hv'
  obtain ⟨u, rfl⟩ := PyProof.V.Flat.int_inv hy
  exact wpAny_mono (turn k x rest m₁ nw h tk t u I oI T hJ' (allLt_of hI) hT F₁ N₁) (fun _ s₂ h₂ => wpAny_mono h₂ (fun f s₃ q => postOf (hk rest) q) fun _ _ e => e) fun _ _ e => e
end
end Mine

namespace Mine
theorem map_form1 {x y : Str} {m₁ m₀ : Str → Option Value} {u : Value} (ha : m₁ y = some u) (hm : ∀ z, z ≠ x → z ≠ y → m₁ z = m₀ z) : m₁ = fun z => if z = y then some u else if z = x then m₁ x else m₀ z := by
  funext z
  by_cases h2 : z = y
  · subst h2; simp [ha]
  · by_cases h1 : z = x
    · subst h1; simp [h2]
    · simp [h1, h2, hm z h1 h2]
theorem map_form0 {x : Str} {m₁ m₀ : Str → Option Value} (hm : ∀ z, z ≠ x → m₁ z = m₀ z) : m₁ = fun z => if z = x then m₁ x else m₀ z := by
  funext z
  by_cases h1 : z = x
  · subst h1; simp
  · simp [h1, hm z h1]
theorem map_form2 {x y : Str} {m₁ m₀ : Str → Option Value} (hm : ∀ z, z ≠ x → z ≠ y → m₁ z = m₀ z) : m₁ = fun z => if z = y then m₁ y else if z = x then m₁ x else m₀ z := by
  funext z
  by_cases h2 : z = y
  · subst h2; simp
  · by_cases h1 : z = x
    · subst h1; simp [h2]
    · simp [h1, h2, hm z h1 h2]
end Mine
namespace Mine
theorem lt1 {I a : Addr} {x : Obj} {r : List (Addr × Obj)} (h : AllLt I ((a, x) :: r)) : @LT.lt Nat _ a I ∧ AllLt I r := h
theorem lt2 {I a b : Addr} {x y : Obj} {r : List (Addr × Obj)} (h : AllLt I ((a, x) :: (b, y) :: r)) : @LT.lt Nat _ a I ∧ @LT.lt Nat _ b I ∧ AllLt I r := h
theorem lt3 {I a b c : Addr} {x y z : Obj} {r : List (Addr × Obj)} (h : AllLt I ((a, x) :: (b, y) :: (c, z) :: r)) : @LT.lt Nat _ a I ∧ @LT.lt Nat _ b I ∧ @LT.lt Nat _ c I ∧ AllLt I r := h
end Mine
namespace Mine
open PySem.Spec PySem.Calls PyProof.V
theorem d_getItem {prog : Program} {w : World} {A : Around} {E : Value → Shared → Prop} {s : Shared} {d : Addr} {c : List (Int × Int)} {k : Int} {t : Tok} {Q : Value → Shared → Prop} (T : IntTab prog w s.heap d (kdfD c)) (hk : kdfHas c k = true) (h : ∀ t, Q (.int (kdfLook c k 0) t) { s with toks := s.toks + 1 }) : wpAny (model prog w) A (getItem (.ref d) (.int k t)) Q E s := by
  refine getItem_tab same_int (intKind_is prog w k t) T (kdfD_item hk) fun v hv => ?_
  obtain ⟨u, rfl⟩ := PyProof.V.Flat.int_inv hv
  exact h u
end Mine
namespace Mine
open PySem.Spec PySem.Calls PyProof.V
theorem con_use {prog : Program} {w : World} {K : Frag} {dd uu : Nat} {tree : Sem Value} {news : List (Addr × Obj)} {post : Value → List (Addr × Obj) → Prop} (C : Con prog w K dd uu tree news post)
    {p : Program} {loose : List Str} {mean : ExcName → Option Value} {mg mb : Str → Option Value} {dp un : Nat} {gd : Option (List Code)} {cn : Str} {cs : Scope} {a : Addr} {ccd : Value} {cl : List (Str × Addr)} {outer : List Env} {A₀ : Around} {base h₀ : Heap} {L : Addr} {m : Str → Option Value} {s : Shared} {Q E : Value → Shared → Prop}
    (B : Below A₀ base outer h₀) (F : Fr h₀ L s.heap m) (X : K.In h₀) (N : News h₀ L s.heap news) (T : Top p loose mean mg mb h₀) (hk : cs.kind = .function) (hd : dp + dd < recursionLimit) (hu : un + uu < cLine)
    (ret : ∀ r h' tk' news', Fr h₀ L h' m → News h₀ L h' news' → post r news' → Q r { s with heap := h', toks := tk' }) :
    wpAny (model prog w) (ktrTop dp un gd cn cs L a ccd cl outer) tree Q E s := C p loose mean mg mb dp un gd cn cs a ccd cl outer A₀ base h₀ L m s Q E B F X N T hk hd hu ret
end Mine
namespace Mine
theorem ne_le {d d' : Addr} {news : List (Addr × Obj)} (h : AllLt d news) (hd : @LE.le Nat _ d d') : ∀ p ∈ news, p.1 ≠ d' := ne_of_allLt (allLt_le hd h)
end Mine
namespace Mine
theorem rsize {a b : Int} (n : Nat) (h : b = a + n) : Builtin.Range.rangeSize a b 1 = ((n : Nat) : Int) := by rw [rangeSize_nat]; lia
theorem rsmall {a b : Int} (ha : 0 ≤ a) (hb : 0 ≤ b) (ha' : a ≤ 100000) (hb' : b ≤ 100000) : Builtin.Range.small a b 1 = true := small_one (by lia) (by lia) (by lia) (by lia)
theorem are_replicate {α : Type} {Is : α → Value → Prop} {a : α} {ys : List Value} {n : Nat} : Are Is ys (List.replicate n a) → ∀ y ∈ ys, Is a y := by
  intro h y hy
  obtain ⟨i, hi⟩ := List.getElem?_of_mem hy
  obtain ⟨b, hb, hI⟩ := h.at i y hi
  rw [List.getElem?_replicate] at hb
  split at hb
  · cases hb; exact hI
  · cases hb
theorem are_imp {α : Type} {Is Js : α → Value → Prop} {ys : List Value} {xs : List α} (h : Are Is ys xs) (f : ∀ a v, a ∈ xs → Is a v → Js a v) : Are Js ys xs := by
  induction h with
  | nil => exact .nil
  | cons h _ ih => exact .cons (f _ _ (.head _) h) (ih fun a v ha => f a v (.tail _ ha))
theorem are_const {α β : Type} {Is : α → Value → Prop} {Js : β → Value → Prop} {ys : List Value} {xs : List α} {b : β} (h : Are Is ys xs) (f : ∀ a v, Is a v → Js b v) : Are Js ys (List.replicate xs.length b) := by
  induction h with
  | nil => exact .nil
  | cons h _ ih => exact .cons (f _ _ h) ih
theorem are_set {α : Type} {Is : α → Value → Prop} {ys : List Value} {xs : List α} (h : Are Is ys xs) (i : Nat) {a : α} {v : Value} (hv : Is a v) : Are Is (ys.set i v) (xs.set i a) := by
  induction h generalizing i with
  | nil => exact .nil
  | cons h r ih =>
    cases i with
    | zero => exact .cons hv r
    | succ i => exact .cons h (ih i)
end Mine
namespace Mine
open PySem.Spec PySem.Calls PyProof.V
theorem r_set {prog : Program} {w : World} {A : Around} {E : Value → Shared → Prop} {s : Shared} {h₀ : Heap} {L d : Addr} {m : Str → Option Value} {news : List (Addr × Obj)} {g : Obj → List (Addr × Obj)} {vs : List Value} {k : Nat} {i : Int} {u : Tok} {v : Value} {Q : Unit → Shared → Prop} (F : Fr h₀ L s.heap m) (N : News h₀ L s.heap news) (U : UpdF d (W.listOf vs.toArray k) news g) (h0 : 0 ≤ i) (hfit : i < 2 ^ 63) (hn : i.toNat < vs.length)
    (q : ∀ h', Fr h₀ L h' m → News h₀ L h' (g (W.listOf (vs.set i.toNat v).toArray k)) → Q () { s with heap := h' }) : wpAny (model prog w) A (setItem (.ref d) (.int i u) v) Q E s := by
  have z := (N _ (updMem U)).1
  refine ki_setAt z h0 hfit (by simp; lia) (q _ (updFr F N U (Heap.SameBut.update ..)) (updN N U (Heap.SameBut.update ..) ?_))
  rw [Heap.get?_update_self _ z rfl]
  simp [W.listOf, Obj.mapSeq]
end Mine
namespace Mine
theorem Off1.all {D : Addr} : ∀ {l : List (Addr × Obj)}, LCg.Off1 D l → ∀ p ∈ l, p.1 ≠ D
  | [], _, _, h => nomatch h
  | p :: r, x, q, h => by
    rcases List.mem_cons.mp h with rfl | h
    · exact x.1
    · exact Off1.all x.2 q h
end Mine
namespace Mine
open PySem.Spec PySem.Calls PyProof.V
section
variable {prog : Program} {w : World} {A : Around} {E : Value → Shared → Prop} {s : Shared} {env : Env} {h₀ : Heap} {x : Str} {body : List Stmt} {Q : Flow → Shared → Prop}
/-- a for over an iterator just made, its state told by Rep, what is to come by K -/
theorem forGen {α σ : Type} {Is : α → Value → Prop} {S : List (Addr × Obj) → Prop} {n : Nat} {P : Nat → Value → Prop} {I : Addr} {fp : List Addr} {St : Nat → Heap → Prop} {xs : List α} {m₀ : Str → Option Value} {news : List (Addr × Obj)} (Rep : (Str → Option Value) → List (Addr × Obj) → σ → (Str → Option Value) → List (Addr × Obj) → Prop) (K : List α → σ → Prop) (st₀ : σ)
    (B : IterAt prog w A h₀ env.locals S n P I fp St s.heap) (hn : n = xs.length) (hP : ∀ i v, P i v → ∃ a, xs[i]? = some a ∧ Is a v) (F : Fr h₀ env.locals s.heap m₀) (N : News h₀ env.locals s.heap news) (hlt : AllLt I news) (hR : Rep m₀ news st₀ m₀ news) (hK : K xs st₀) (hS : ∀ st m nw, Rep m₀ news st m nw → S nw)
    (turn : ∀ a rest st v m₁ nw h tk oI, K (a :: rest) st → Is a v → a ∈ xs → Rep m₀ news st m₁ nw → AllLt I news → (∀ p ∈ nw, p.1 ≠ I) → Fr h₀ env.locals h (fun y => if y = x then some v else m₁ y) → News h₀ env.locals h ((I, oI) :: nw) →
      wpAny (model prog w) A (execs body env) (TurnEnd h₀ env.locals I oI (fun m' nw' => ∃ st', Rep m₀ news st' m' nw' ∧ K rest st') { s with heap := h, toks := tk } Q) E { s with heap := h, toks := tk })
    (done : ∀ st m₁ nw h tk, K [] st → Rep m₀ news st m₁ nw → Fr h₀ env.locals h m₁ → News h₀ env.locals h nw → Q .next { s with heap := h, toks := tk }) :
    LoopAtV prog w A h₀ env x body Q E (.ref I) s := by
  refine loopV S (fun i m nw => ∃ st, Rep m₀ news st m nw ∧ K (xs.drop i) st) B.W B.io B.lf B.nI (ne_of_allLt hlt) B.fpk B.st0 F N ⟨st₀, hR, by simpa using hK⟩ (fun i m nw ⟨st, h, _⟩ => hS st m nw h) ?_ ?_
  · rintro i v m₁ nw h tk oI hi hPv ⟨st, hRe, hKe⟩ hoff F₁ N₁
    obtain ⟨a, ha, hIs⟩ := hP i v hPv
    have e : xs.drop i = a :: xs.drop (i + 1) := by
      obtain ⟨hl, he⟩ := List.getElem?_eq_some_iff.mp ha
      rw [← he]; exact List.drop_eq_getElem_cons hl
    rw [e] at hKe
    exact turn a _ st v m₁ nw h tk oI hKe hIs (List.mem_of_getElem? ha) hRe hlt hoff F₁ N₁
  · rintro m₁ nw h tk ⟨st, hRe, hKe⟩ F₁ N₁
    rw [hn, List.drop_length] at hKe
    exact done st m₁ nw h tk hKe hRe F₁ N₁
theorem forKeys {σ : Type} {d : Addr} {od : Obj} {c : List (Int × Int)} {m₀ : Str → Option Value} {news : List (Addr × Obj)} (Rep : (Str → Option Value) → List (Addr × Obj) → σ → (Str → Option Value) → List (Addr × Obj) → Prop) (K : List (Int × Int) → σ → Prop) (st₀ : σ)
    (hh : A.handled = none) (F : Fr h₀ env.locals s.heap m₀) (N : News h₀ env.locals s.heap news) (hd : IsD prog w od c) (lo : (d == sysModules) = false) (hR : Rep m₀ news st₀ m₀ news) (hK : K c st₀) (hS : ∀ st m nw, Rep m₀ news st m nw → (d, od) ∈ nw)
    (turn : ∀ k y rest st t m₁ nw h tk I oI, K ((k, y) :: rest) st → (k, y) ∈ c → Rep m₀ news st m₁ nw → AllLt I news → (∀ p ∈ nw, p.1 ≠ I) → Fr h₀ env.locals h (fun y => if y = x then some (.int k t) else m₁ y) → News h₀ env.locals h ((I, oI) :: nw) →
      wpAny (model prog w) A (execs body env) (TurnEnd h₀ env.locals I oI (fun m' nw' => ∃ st', Rep m₀ news st' m' nw' ∧ K rest st') { s with heap := h, toks := tk } Q) E { s with heap := h, toks := tk })
    (done : ∀ st m₁ nw h tk, K [] st → Rep m₀ news st m₁ nw → Fr h₀ env.locals h m₁ → News h₀ env.locals h nw → Q .next { s with heap := h, toks := tk }) :
    wpAny (model prog w) A (pyIter (.ref d)) (fun it s₂ => LoopAtV prog w A h₀ env x body Q E it s₂) E s := by
  refine iterDict hh F N (hS _ _ _ hR) hd lo fun I fp St o B F1 N1 hlt => ?_
  refine forGen (Is := fun (p : Int × Int) v => IsInt p.1 v) (xs := c) Rep K st₀ B rfl (fun i v hv => by obtain ⟨p, t, h1, h2⟩ := hv; exact ⟨p, h1, t, h2⟩) F1 N1 hlt hR hK hS ?_ ?_
  · rintro ⟨k, y⟩ rest st v m₁ nw h tk oI hK' ⟨t, rfl⟩ hmem hRe hlt' hoff F₁ N₁
    exact turn k y rest st t m₁ nw h tk I oI hK' hmem hRe hlt' hoff F₁ N₁
  · exact done
theorem forRange {σ : Type} {r : Addr} {a b : Int} {t u v : Tok} {k : Nat} {m₀ : Str → Option Value} {news : List (Addr × Obj)} (Rep : (Str → Option Value) → List (Addr × Obj) → σ → (Str → Option Value) → List (Addr × Obj) → Prop) (K : List Int → σ → Prop) (st₀ : σ)
    (hh : A.handled = none) (F : Fr h₀ env.locals s.heap m₀) (N : News h₀ env.locals s.heap news) (hr : IsRange s.heap r a b 1 t u v) (hsm : Builtin.Range.small a b 1 = true) (hk : Builtin.Range.rangeSize a b 1 = ((k : Nat) : Int)) (hR : Rep m₀ news st₀ m₀ news) (hK : K (rangeKs a k) st₀)
    (turn : ∀ c rest st t m₁ nw h tk I oI, K (c :: rest) st → c ∈ rangeKs a k → Rep m₀ news st m₁ nw → AllLt I news → (∀ p ∈ nw, p.1 ≠ I) → Fr h₀ env.locals h (fun y => if y = x then some (.int c t) else m₁ y) → News h₀ env.locals h ((I, oI) :: nw) →
      wpAny (model prog w) A (execs body env) (TurnEnd h₀ env.locals I oI (fun m' nw' => ∃ st', Rep m₀ news st' m' nw' ∧ K rest st') { s with heap := h, toks := tk } Q) E { s with heap := h, toks := tk })
    (done : ∀ st m₁ nw h tk, K [] st → Rep m₀ news st m₁ nw → Fr h₀ env.locals h m₁ → News h₀ env.locals h nw → Q .next { s with heap := h, toks := tk }) :
    wpAny (model prog w) A (pyIter (.ref r)) (fun it s₂ => LoopAtV prog w A h₀ env x body Q E it s₂) E s := by
  refine iterRange hh F N hr hsm hk fun I fp St o B F1 N1 hlt => ?_
  have B' : IterAt prog w A h₀ env.locals (fun _ => True) k (fun i v => i < k ∧ ∃ t, v = .int (a + (i : Int)) t) I fp St (s.heap.push o) := { W := B.W.bound, io := B.io, st := B.st, fpk := B.fpk, st0 := B.st0, fpl := B.fpl, lf := B.lf, nI := B.nI }
  refine forGen (Is := IsInt) (xs := rangeKs a k) Rep K st₀ B' (rangeKs_length a k).symm (fun i v hv => by obtain ⟨hi, t, e⟩ := hv; exact ⟨a + (i : Int), by simp [rangeKs, hi], t, e⟩) F1 N1 hlt hR hK (fun _ _ _ _ => trivial) ?_ ?_
  · rintro c rest st v m₁ nw h tk oI hK' ⟨t, rfl⟩ hmem hRe hlt' hoff F₁ N₁
    exact turn c rest st t m₁ nw h tk I oI hK' hmem hRe hlt' hoff F₁ N₁
  · exact done
end
end Mine
namespace Mine
open PySem.Spec PySem.Calls PyProof.V
theorem look_mem {c : List (Int × Int)} {k y : Int} (hn : (c.map (·.1)).Nodup) (h : (k, y) ∈ c) : kdfHas c k = true ∧ kdfLook c k 0 = y := by
  induction c with
  | nil => cases h
  | cons p r ih =>
    obtain ⟨pk, py⟩ := p
    simp only [List.map_cons, List.nodup_cons] at hn
    unfold kdfHas kdfLook
    rcases List.mem_cons.mp h with e | h
    · cases e; simp
    · have hne : pk ≠ k := fun e => hn.1 (e ▸ List.mem_map.mpr ⟨(k, y), h, rfl⟩)
      have := ih hn.2 h
      unfold kdfHas kdfLook at this
      simp only [List.any_cons, List.find?_cons, hne, decide_false, Bool.false_or]
      exact this
end Mine
namespace Mine
open PySem.Spec PySem.Calls PyProof.V
theorem flat_keys {kvs : List (Int × Value)} {D : List (PyData × PyData)} (h : FlatPairs PyData.int kvs D) : ∀ {c : List (Int × Int)}, D = kdfD c → kvs.map (·.1) = c.map (·.1) := by
  induction h with
  | nil =>
    intro c e
    cases c with
    | nil => rfl
    | cons p r => simp [kdfD] at e
  | cons hf _ ih =>
    intro c e
    cases c with
    | nil => simp [kdfD] at e
    | cons p r =>
      simp only [kdfD, List.map_cons, List.cons.injEq, Prod.mk.injEq, PyData.int.injEq] at e
      obtain ⟨⟨e1, _⟩, e2⟩ := e
      simp only [List.map_cons, e1, ih (c := r) e2]
theorem IsD.nodup {prog : Program} {w : World} {o : Obj} {c : List (Int × Int)} (h : IsD prog w o c) : (c.map (·.1)).Nodup := by
  obtain ⟨kvs, hk, hf⟩ := h
  rw [← flat_keys hf rfl]
  exact keysNodup_of_isDictOf hk
end Mine
namespace Mine
theorem allLt_mem {d : Addr} : ∀ {l : List (Addr × Obj)}, AllLt d l → ∀ p ∈ l, @LT.lt Nat _ p.1 d
  | [], _, _, h => nomatch h
  | p :: r, x, q, h => by
    rcases List.mem_cons.mp h with rfl | h
    · exact x.1
    · exact allLt_mem x.2 q h
theorem allLt_sub {d : Addr} {l l' : List (Addr × Obj)} (h : AllLt d l) (hs : ∀ p ∈ l', p ∈ l) : AllLt d l' := allLt_of fun p hp => allLt_mem h p (hs p hp)
end Mine
namespace Mine
theorem map_same {m : Str → Option Value} {x : Str} {v : Value} (h : m x = some v) : m = fun y => if y = x then some v else m y := by
  funext y
  by_cases e : y = x
  · subst e; simp [h]
  · simp [e]
end Mine
namespace Mine
open PySem.Spec PySem.Calls PyProof.V
noncomputable def nth (ss : List Str) (i : Int) : Str := ss[i.toNat]?.getD ⟨#[]⟩
/-- xs[i] of a list of strs -/
theorem r_itemS {prog : Program} {w : World} {A : Around} {E : Value → Shared → Prop} {s : Shared} {h₀ : Heap} {L d : Addr} {news : List (Addr × Obj)} {value slice : Expr} {vs : List Value} {ss : List Str} {k : Nat} {i : Int} {u : Tok} {Q : Value → Shared → Prop} (N : News h₀ L s.heap news) (hm : (d, W.listOf vs.toArray k) ∈ news) (hvs : Are IsStr vs ss) (h0 : 0 ≤ i) (hi : i < ss.length) (hl : ss.length ≤ 1000000) (q : ∀ t, Q (.str (nth ss i) t) s)
    (hs : subscripted slice false (.ref d) (.int i u) = operate [.ref d, .int i u] (getItem (.ref d) (.int i u)) := by with_unfolding_all rfl) (hg : ∀ r, letTemporaryGo value (.ref d) r = pure () := by intro _; with_unfolding_all rfl) :
    wpAny (model prog w) A (subscriptTail value slice (.ref d) (.int i u)) Q E s := by
  have hlt : i.toNat < ss.length := by lia
  obtain ⟨v, hv, t, rfl⟩ := hvs.get i.toNat ss[i.toNat] (List.getElem?_eq_getElem hlt)
  have e : nth ss i = ss[i.toNat] := by unfold nth; rw [List.getElem?_eq_getElem hlt]; rfl
  exact r_item N hm h0 (by lia) hv (e ▸ q t) hs hg
end Mine
namespace Mine
theorem nth_len {ws : List Str} {n : Nat} (h : ∀ y ∈ ws, y.length ≤ n) (i : Int) : (nth ws i).length ≤ n := by
  unfold nth
  cases e : ws[i.toNat]? with
  | none => exact Nat.zero_le _
  | some y => exact h y (List.mem_of_getElem? e)
end Mine
namespace Mine
open PySem.Spec PySem.Calls PyProof.V
theorem r_join {prog : Program} {w : World} {A : Around} {E : Value → Shared → Prop} {s : Shared} {h₀ : Heap} {L d : Addr} {news : List (Addr × Obj)} {ys : List Value} {ss : List Str} {k : Nat} {x : Str} {t : Tok} {Q : Value → Shared → Prop} (N : News h₀ L s.heap news) (hm : (d, W.listOf ys.toArray k) ∈ news) (hys : StrsAre ys ss) (hsep : x.length ≤ 16) (hw : (ss.map (·.length)).sum + ss.length ≤ 1048576)
    (q : ∀ t' k, Q (.str (Txt.join x ss) t') { s with toks := k }) : wpAny (model prog w) A (call (.builtin "str.join") [.str x t, .ref d]) Q E s :=
  join_listW ⟨_, (N _ hm).1, rfl, _, rfl⟩ (by simpa using hys) hsep hw q
theorem weight_le {ss : List Str} {n : Nat} (h : ∀ y ∈ ss, y.length ≤ n) : (ss.map (·.length)).sum + ss.length ≤ ss.length * (n + 1) := by
  induction ss with
  | nil => simp
  | cons y r ih =>
    have h1 := ih fun z hz => h z (.tail _ hz)
    have h2 := h y (.head _)
    simp only [List.map_cons, List.sum_cons, List.length_cons, Nat.add_mul, Nat.one_mul]
    lia
end Mine
namespace Mine
open PySem.Spec PySem.Calls PyProof.V
theorem listTurns {prog : Program} {w : World} {A : Around} {E : Value → Shared → Prop} {s : Shared} {h₀ : Heap} {env : Env} {target : Expr} {body : List Stmt} {Q : Flow → Shared → Prop} {ax : Addr} {vs : List Value} {k : Nat} {m₀ : Str → Option Value} {news : List (Addr × Obj)} (J : List Value → (Str → Option Value) → List (Addr × Obj) → Prop)
    (hh : A.handled = none) (F : Fr h₀ env.locals s.heap m₀) (N : News h₀ env.locals s.heap news) (hm : (ax, W.listOf vs.toArray k) ∈ news) (hk : ∀ r m nw, J r m nw → (ax, W.listOf vs.toArray k) ∈ nw) (hJ : J vs m₀ news)
    (turn : ∀ v rest m₁ nw h tk I oI, J (v :: rest) m₁ nw → AllLt I news → Fr h₀ env.locals h m₁ → News h₀ env.locals h ((I, oI) :: nw) →
      wpAny (model prog w) A (assign target env v) (fun _ s₂ => wpAny (model prog w) A (execs body env) (TurnEnd h₀ env.locals I oI (J rest) { s with heap := h, toks := tk } Q) E s₂) E { s with heap := h, toks := tk })
    (done : ∀ m nw h tk, J [] m nw → Fr h₀ env.locals h m → News h₀ env.locals h nw → Q .next { s with heap := h, toks := tk }) :
    wpAny (model prog w) A (pyIter (.ref ax)) (fun it s₂ => TurnsAt prog w A h₀ env target body Q E it s₂) E s := by
  refine iter_listTurns hh F N hm rfl rfl fun I hI => ?_
  refine restJ (fun v : Value => Itm.val v) J ?_ done vs m₀ news hJ
  rintro v rest m₁ nw u h tk its hJ' hv F₁ hits N₁
  obtain ⟨oI, rfl⟩ := objs_one hits
  have e : u = v := hv
  subst e
  exact wpAny_mono (turn u rest m₁ nw h tk I oI hJ' (allLt_of hI) F₁ N₁) (fun _ s₂ h₂ => wpAny_mono h₂ (fun f s₃ q => postOf (hk rest) q) fun _ _ e => e) fun _ _ e => e
end Mine
end
section
namespace Mine
open PySem.Spec PySem.Calls PyProof.V LCg
section
variable {prog : Program} {w : World} {A : Around} {E : Value → Shared → Prop} {s : Shared} {env : Env} {h₀ : Heap} {L : Addr} {m : Str → Option Value} {x : Str} {body : List Stmt} {Q : Flow → Shared → Prop}
/-- a loop whose ledger and read variables are told by functions of the turn and of a state -/
theorem forE {τ : Type} {S : List (Addr × Obj) → Prop} {n : Nat} {P : Nat → Value → Prop} {I : Addr} {fp : List Addr} {St : Nat → Heap → Prop} {m₀ : Str → Option Value} (led : Nat → τ → List (Addr × Obj)) (vars : Nat → τ → List (Str × Value)) (Inv : Nat → τ → Prop) (t0 : τ)
    (B : IterAt prog w A h₀ env.locals S n P I fp St s.heap) (F : Fr h₀ env.locals s.heap m₀) (N : News h₀ env.locals s.heap (led 0 t0)) (hlt : AllLt I (led 0 t0)) (hv : ∀ p ∈ vars 0 t0, m₀ p.1 = some p.2) (hI : Inv 0 t0) (hS : ∀ i t, S (led i t)) (hadr : ∀ i t, (led i t).map (·.1) = (led 0 t0).map (·.1))
    (turn : ∀ i t v m₁ h tk oI (JJ : Flow → Shared → Prop), i < n → P i v → Inv i t → Fr h₀ env.locals h (fun y => if y = x then some v else seen (vars i t) m₁ y) → News h₀ env.locals h ((I, oI) :: led i t) →
      (∀ h' tk' m' t', Fr h₀ env.locals h' m' → News h₀ env.locals h' ((I, oI) :: led (i + 1) t') → (∀ p ∈ vars (i + 1) t', m' p.1 = some p.2) → Inv (i + 1) t' → JJ .next { s with heap := h', toks := tk' }) → (∀ s', JJ .next s' → JJ .cont s') → (∀ v s', Q (.ret v) s' → JJ (.ret v) s') → (∀ s', Q .next s' → JJ .brk s') →
      wpAny (model prog w) A (execs body env) JJ E { s with heap := h, toks := tk })
    (done : ∀ t m₁ h tk, Inv n t → Fr h₀ env.locals h (seen (vars n t) m₁) → News h₀ env.locals h (led n t) → Q .next { s with heap := h, toks := tk }) :
    LoopAtV prog w A h₀ env x body Q E (.ref I) s := by
  have off : ∀ i t, ∀ p ∈ led i t, p.1 ≠ I := fun i t p hp => by
    have h1 : p.1 ∈ (led 0 t0).map (·.1) := by rw [← hadr i t]; exact List.mem_map_of_mem hp
    obtain ⟨q, hq, e⟩ := List.mem_map.mp h1
    rw [← e]; exact ne_of_allLt hlt q hq
  refine loopV S (fun i m nw => ∃ t, nw = led i t ∧ Inv i t ∧ ∀ p ∈ vars i t, m p.1 = some p.2) B.W B.io B.lf B.nI (ne_of_allLt hlt) B.fpk B.st0 F N ⟨t0, rfl, hI, hv⟩ (by rintro i m nw ⟨t, rfl, _⟩; exact hS i t) ?_ ?_
  · rintro i v m₁ nw h tk oI hi hP ⟨t, rfl, hInv, hm⟩ _ F₁ N₁
    have e : (fun y => if y = x then some v else m₁ y) = fun y => if y = x then some v else seen (vars i t) m₁ y := by rw [← map_seen (vars i t) hm]
    rw [e] at F₁
    refine turn i t v m₁ h tk oI _ hi hP hInv F₁ N₁ ?_ ?_ ?_ ?_
    · intro h' tk' m' t' F' N' hm' hI'
      exact ⟨h', tk', m', led (i + 1) t', rfl, F', N', off _ _, t', rfl, hI', hm'⟩
    · exact fun _ h => h
    · exact fun _ _ h => h
    · exact fun _ h => h
  · rintro m₁ nw h tk ⟨t, rfl, hInv, hm⟩ F₁ N₁
    rw [map_seen (vars n t) hm] at F₁
    exact done t m₁ h tk hInv F₁ N₁
/-- the same, of range(0, n) -/
theorem forRangeE {τ : Type} {r : Addr} {t u v : Tok} {n : Nat} {m₀ : Str → Option Value} (led : Nat → τ → List (Addr × Obj)) (vars : Nat → τ → List (Str × Value)) (Inv : Nat → τ → Prop) (t0 : τ)
    (hh : A.handled = none) (F : Fr h₀ env.locals s.heap m₀) (N : News h₀ env.locals s.heap (led 0 t0)) (hr : IsRange s.heap r 0 (n : Nat) 1 t u v) (hn : n ≤ 10000) (hv : ∀ p ∈ vars 0 t0, m₀ p.1 = some p.2) (hI : Inv 0 t0) (hadr : ∀ i t, (led i t).map (·.1) = (led 0 t0).map (·.1))
    (turn : ∀ i t u m₁ h tk I oI (JJ : Flow → Shared → Prop), i < n → AllLt I (led 0 t0) → Inv i t → Fr h₀ env.locals h (fun y => if y = x then some (.int (i : Nat) u) else seen (vars i t) m₁ y) → News h₀ env.locals h ((I, oI) :: led i t) →
      (∀ h' tk' m' t', Fr h₀ env.locals h' m' → News h₀ env.locals h' ((I, oI) :: led (i + 1) t') → (∀ p ∈ vars (i + 1) t', m' p.1 = some p.2) → Inv (i + 1) t' → JJ .next { s with heap := h', toks := tk' }) → (∀ s', JJ .next s' → JJ .cont s') → (∀ v s', Q (.ret v) s' → JJ (.ret v) s') → (∀ s', Q .next s' → JJ .brk s') →
      wpAny (model prog w) A (execs body env) JJ E { s with heap := h, toks := tk })
    (done : ∀ t m₁ h tk, Inv n t → Fr h₀ env.locals h (seen (vars n t) m₁) → News h₀ env.locals h (led n t) → Q .next { s with heap := h, toks := tk }) :
    wpAny (model prog w) A (pyIter (.ref r)) (fun it s₂ => LoopAtV prog w A h₀ env x body Q E it s₂) E s := by
  refine iterRange hh F N hr (rsmall (by lia) (by lia) (by lia) (by lia)) (rsize n (by lia)) fun I fp St o B F1 N1 hlt => ?_
  refine forE led vars Inv t0 B F1 N1 hlt hv hI (fun _ _ => trivial) hadr ?_ done
  rintro i t v m₁ h tk oI JJ hi ⟨u, rfl⟩ hInv F₁ N₁ q1 q2 q3 q4
  rw [Int.zero_add] at F₁
  exact turn i t u m₁ h tk I oI JJ hi hlt hInv F₁ N₁ q1 q2 q3 q4
end
section
variable {prog : Program} {w : World} {A : Around} {E : Value → Shared → Prop} {s : Shared} {env : Env} {h₀ : Heap} {L : Addr} {m : Str → Option Value} {x : Str} {elt : Expr} {scope : Scope} {cl : List (Str × Addr)} {Fin : Shared → List Value → List (Addr × Obj) → Prop}
/-- a list comprehension over range(n), its ledger told by a function of the turn and of a state -/
theorem compRangeE {τ : Type} {r : Addr} {t u v : Tok} {n : Nat} (led : Nat → τ → List (Addr × Obj)) (Inv : Nat → τ → List Value → Prop) (t0 : τ)
    (hh : A.handled = none) (F : Fr h₀ L s.heap m) (N : News h₀ L s.heap (led 0 t0)) (hr : IsRange s.heap r 0 (n : Nat) 1 t u v) (hn : n ≤ 10000) (hI : Inv 0 t0 []) (hadr : ∀ i t, (led i t).map (·.1) = (led 0 t0).map (·.1))
    (turn : ∀ i t ys u I oI C oC D m₂ h tk (E' PE : Value → Shared → Prop), i < n → Inv i t ys → NsObj oC m₂ → m₂ x = some (.int (i : Nat) u) → Fr h₀ L h m → News h₀ L h ((I, oI) :: (C, oC) :: (D, lst ys) :: led i t) → (∀ i t, Off3 I C D (led i t)) → ((@Ne Nat I C) ∧ (@Ne Nat I D) ∧ (@Ne Nat C D)) →
      (∀ y h' tk' t', Fr h₀ L h' m → News h₀ L h' ((I, oI) :: (C, oC) :: (D, lst ys) :: led (i + 1) t') → Inv (i + 1) t' (ys ++ [y]) → PE y { s with heap := h', toks := tk' }) →
      wpAny (model prog w) A (eval elt (compEnvC scope cl C env)) PE E' { s with heap := h, toks := tk })
    (fin : ∀ hp ys t, Inv n t ys → Fin { s with heap := hp } ys (led n t)) : wpAny (model prog w) A (pyIter (.ref r)) (CompAt prog w A h₀ L m env elt x scope cl Fin) E s := by
  refine iterRange hh F N hr (rsmall (by lia) (by lia) (by lia) (by lia)) (rsize n (by lia)) fun I fp St o B F1 N1 hlt => ⟨I, fp, St, n, fun i v => ∃ t, v = .int (0 + (i : Int)) t, _, _, rfl, B, (by rw [sizeLine_eq]; lia), F1, N1, ne_of_allLt hlt, trivial, ?_⟩
  refine compJ (fun i ys nw => ∃ t, nw = led i t ∧ Inv i t ys) ?_ ?_ ⟨t0, rfl, hI⟩
  · rintro i v I oI C oC D m₂ h tk E' ys nw hi ⟨u, rfl⟩ ⟨t, rfl, hInv⟩ hC hx F4 N4 off ne
    rw [Int.zero_add] at hx
    have offA : ∀ i t, Off3 I C D (led i t) := fun j t' => Off3.of fun p hp => by
      have h1 : p.1 ∈ (led i t).map (·.1) := by rw [hadr i t, ← hadr j t']; exact List.mem_map_of_mem hp
      obtain ⟨q, hq, e⟩ := List.mem_map.mp h1
      rw [← e]; exact Off3.mem off q hq
    refine turn i t ys u I oI C oC D m₂ h tk E' _ hi hInv hC hx F4 N4 offA ne ?_
    intro y h' tk' t' F' N' hI'
    exact ⟨h', tk', led (i + 1) t', rfl, F', N', offA _ _, trivial, t', rfl, hI'⟩
  · rintro ys nw ⟨t, rfl, hInv⟩
    exact fin _ ys t hInv
end
end Mine
end
section
set_option maxRecDepth 100000
namespace Mine
open PySem.Spec PySem.Calls Builtin.ObjectAttr
theorem fn_sa_slot : Slot "function" "__setattr__" "object.__setattr__" := .of (owner := "object") (n := "__setattr__") (by rw [typeLookup_type, builtinLookup_eq_fast]; kernel_rfl) (by decide +kernel) (by decide +kernel) (by decide +kernel)
    (by first | exact .inl (by decide +kernel) | exact .inr (by decide +kernel)) (by rw [isSubtype_type]; kernel_rfl)
theorem fn_read_none : typeLookup (.type "function") "read" = pure none := by rw [typeLookup_type, builtinLookup_eq_fast]; kernel_rfl
theorem fn_mro : mroOf (.type "function") = pure [.type "function", .type "object"] := by kernel_rfl
theorem fn_passes (self : Value) : refuseLoop self "__setattr__" [.type "function", .type "object"] = pure () := by kernel_rfl
theorem sa_args (a b c : Value) : argsOk "object.__setattr__" ⟨[a, b, c], []⟩ := by unfold argsOk; kernel_rfl
theorem fn_ga : typeLookup (.type "function") "__getattribute__" = pure (some (.builtin "object.__getattribute__")) := by rw [typeLookup_type, builtinLookup_eq_fast]; kernel_rfl
theorem fn_getattr_none : typeLookup (.type "function") "__getattr__" = pure none := by rw [typeLookup_type, builtinLookup_eq_fast]; kernel_rfl
theorem ci_next_slot : Slot "callable_iterator" "__next__" "callable_iterator.__next__" := .of (owner := "callable_iterator") (n := "__next__") (by rw [typeLookup_type, builtinLookup_eq_fast]; kernel_rfl) (by decide +kernel) (by decide +kernel) (by decide +kernel)
    (by first | exact .inl (by decide +kernel) | exact .inr (by decide +kernel)) (by rw [isSubtype_type]; kernel_rfl)
theorem ci_entry : entryFor table "callable_iterator.__next__" = some Builtin.«callable_iterator.__next__» := entryFor_of_tree (by kernel_rfl)
theorem ci_args (a : Value) : argsOk "callable_iterator.__next__" ⟨[a], []⟩ := by unfold argsOk; kernel_rfl
theorem iter_entry : entryFor table "iter" = some Builtin.«iter» := entryFor_of_tree (by kernel_rfl)
theorem iter_kind : builtinKind "iter" = none := by decide +kernel
theorem iter_plain : plainId "iter" = true := by decide +kernel
theorem iter_args (a b : Value) : argsOk "iter" ⟨[a, b], []⟩ := by unfold argsOk; kernel_rfl
theorem fn_ga_slot : Slot "function" "__getattribute__" "object.__getattribute__" := .of (owner := "object") (n := "__getattribute__") (by rw [typeLookup_type, builtinLookup_eq_fast]; kernel_rfl) (by decide +kernel) (by decide +kernel) (by decide +kernel)
    (by first | exact .inl (by decide +kernel) | exact .inr (by decide +kernel)) (by rw [isSubtype_type]; kernel_rfl)
theorem meth_call : typeLookup (.type "method") "__call__" = pure (some (.builtin "method.__call__")) := by rw [typeLookup_type, builtinLookup_eq_fast]; kernel_rfl
theorem ci_iter_slot : Slot "callable_iterator" "__iter__" "callable_iterator.__iter__" := .of (owner := "callable_iterator") (n := "__iter__") (by rw [typeLookup_type, builtinLookup_eq_fast]; kernel_rfl) (by decide +kernel) (by decide +kernel) (by decide +kernel)
    (by first | exact .inl (by decide +kernel) | exact .inr (by decide +kernel)) (by rw [isSubtype_type]; kernel_rfl)
theorem ci_iter_entry : entryFor table "callable_iterator.__iter__" = some Builtin.«dict_keyiterator.__iter__» :=
  entryFor_alias (id' := "dict_keyiterator.__iter__") (by kernel_rfl) (by first | rfl | decide +kernel | (unfold String.splitOn; simp +decide [String.splitOnAux])) (by decide +kernel) (by kernel_rfl)
theorem ci_iter_args (a : Value) : argsOk "callable_iterator.__iter__" ⟨[a], []⟩ := by unfold argsOk; kernel_rfl
section
variable {prog : Program} {w : World} {A : Around} {E : Value → Shared → Prop} {s : Shared} {h₀ : Heap} {L : Addr} {m : Str → Option Value} {news : List (Addr × Obj)}
abbrev fnObj (fd : FuncData) (d : Option Addr) : Obj := { cls := .type "function", dict := d, data := .func fd }
abbrev ciObj (f x : Value) (b : Bool) : Obj := { cls := .type "callable_iterator", data := .fields #[f, x, .bool b] }
theorem fn_set_read {x : Addr} {fd : FuncData} {v : Value} {tk : Tok} {Q : Fin → Shared → Prop} (hx : s.heap.get? x = some (fnObj fd none)) 
    (h : ∀ h' dx tk', h'.get? x = some (fnObj fd (some dx)) → h'.get? dx = some (dictOf [DictEntry.mk (PyData.keyHash w.params "read") (.str "read" s.toks) v] 1) → (∀ b o, b ≠ x → s.heap.get? b = some o → h'.get? b = some o) → s.heap.objs.size ≤ dx → Q (.done (.ret .none)) { s with heap := h', toks := tk' }) :
    wpAny (model prog w) A (Builtin.«object.__setattr__» ⟨[.ref x, .str "read" tk, v], []⟩) Q E s := by
  obtain ⟨hh, g, d, t, os⟩ := s
  dsimp only at hx h
  have hT : (⟨hh, g, d, t, os⟩ : Shared).TypeIs (.ref x) "function" := ⟨_, hx, rfl⟩
  have f1 := fn_read_none
  have hpass := fn_passes (.ref x)
  have hm := fn_mro
  unfold Builtin.«object.__setattr__»
  repeat (first | rw [refuse_eq] | rw [hm] | rw [hpass] | (with_reducible refine wpAny_typeOf hT ?_) | (with_reducible refine wpAny_loadPart_at hx ?_) | wp_step)
  have hx₁ : (hh.push { cls := .type "dict", data := .dict #[] }).get? x = some (fnObj fd none) := Heap.get?_push_of_some _ hx
  have hxs : x ≠ hh.objs.size := Nat.ne_of_lt (Heap.lt_size hx)
  have hgd : ((hh.push { cls := .type "dict", data := .dict #[] }).update x fun o => { cls := o.cls, dict := some hh.objs.size, data := o.data, slots := o.slots }).get? hh.objs.size
          = some { cls := .type "dict", data := .dict #[] } := (Heap.get?_update_ne _ _ _ _ hxs.symm).trans (Heap.get?_push_at rfl rfl)
  refine wpAny_askSetting (wpAny_pure (wpAny_bind (wpAny_mkText (wpAny_bind (wpAny_loadPart hgd ?_)))))
  dsimp only
  rw [if_neg (by decide)]
  refine wpAny_updatePart hgd ?_
  have hgd2 := Heap.get?_update_self (Obj.putName "read" (PyData.keyHash w.params "read") (.str "read" t) v) hgd (by rw [show Obj.putName "read" (PyData.keyHash w.params "read") (.str "read" t) v { cls := .type "dict", data := .dict #[] } = _ from putName_dict _ _ _ _ [] 0]; rfl)
  have e : Obj.putName "read" (PyData.keyHash w.params "read") (.str "read" t) v (dictOf [] 0) = dictOf [DictEntry.mk (PyData.keyHash w.params "read") (.str "read" t) v] 1 := putName_dict _ _ _ _ [] 0
  refine wpAny_bind (wpAny_lookBehind hgd2 (by rw [show Obj.putName "read" (PyData.keyHash w.params "read") (.str "read" t) v { cls := .type "dict", data := .dict #[] } = _ from e]; exact pastItsLine_dict (Nat.le_trans (Nat.le_of_eq rfl : _ ≤ 1) (by decide))) (wpAny_pure ?_))
  refine h _ hh.objs.size _ ?_ ?_ ?_ (Nat.le_refl _)
  · refine (Heap.get?_update_ne _ _ _ _ hxs).trans ((Heap.get?_update_self _ hx₁ rfl).trans rfl)
  · exact hgd2.trans (congrArg some e)
  · intro b o hb e
    exact (Heap.get?_update_ne _ _ _ _ (Nat.ne_of_lt (Heap.lt_size e))).trans ((Heap.get?_update_ne _ _ _ _ hb).trans (Heap.get?_push_of_some _ e))

theorem fn_setattr {x : Addr} {fd : FuncData} {v : Value} {Q : Unit → Shared → Prop} (hx : s.heap.get? x = some (fnObj fd none))
    (h : ∀ h' dx tk tk', h'.get? x = some (fnObj fd (some dx)) → h'.get? dx = some (dictOf [DictEntry.mk (PyData.keyHash w.params "read") (.str "read" tk) v] 1) → (∀ b o, b ≠ x → s.heap.get? b = some o → h'.get? b = some o) → s.heap.objs.size ≤ dx → Q () { s with heap := h', toks := tk' }) :
    wpAny (model prog w) A (setAttr (.ref x) "read" v) Q E s := by
  obtain ⟨hh, g, d, t, os⟩ := s
  dsimp only at hx h
  have hT : ∀ tk, (⟨hh, g, d, tk, os⟩ : Shared).TypeIs (.ref x) "function" := fun _ => ⟨_, hx, rfl⟩
  unfold setAttr
  refine wpAny_bind (wpAny_mkText ?_)
  refine wpAny_bind (wpAny_callSpecial?_slot (name := Str.ofString "__setattr__") (hT _) fn_sa_slot (wpAny_call_entry fn_sa_slot (hT _) F.entry_object_sa ?_ (sa_args _ _ _)))
  refine fn_set_read (s := ⟨hh, g, d, t + 1, os⟩) hx fun h' dx tk' e1 e2 e3 e4 => ?_
  exact ⟨_, rfl, wpAny_pure (h h' dx _ tk' e1 e2 e3 e4)⟩
theorem fn_setattr_K {x : Addr} {fd : FuncData} {v : Value} {Q : Unit → Shared → Prop} (F : Fr h₀ L s.heap m) (N : News h₀ L s.heap ((x, fnObj fd none) :: news)) (hn : ∀ p ∈ news, p.1 ≠ x)
    (h : ∀ h' dx tk tk', Fr h₀ L h' m → News h₀ L h' ((dx, dictOf [DictEntry.mk (PyData.keyHash w.params "read") (.str "read" tk) v] 1) :: (x, fnObj fd (some dx)) :: news) → @LT.lt Nat _ x dx → (∀ p ∈ news, p.1 < dx) → Q () { s with heap := h', toks := tk' }) :
    wpAny (model prog w) A (setAttr (.ref x) "read" v) Q E s := by
  have Nx := N _ (.head _)
  refine fn_setattr Nx.1 fun h' dx tk tk' e1 e2 e3 e4 => ?_
  have lt : ∀ b o, s.heap.get? b = some o → b < dx := fun b o e => Nat.lt_of_lt_of_le (Heap.lt_size e) e4
  have dxL : dx ≠ L := Nat.ne_of_gt (Nat.lt_of_lt_of_le F.ns.lt e4)
  have dx0 : h₀.get? dx = none := Heap.get?_none_of_le (Nat.le_trans F.above (Nat.le_of_lt (Nat.lt_of_lt_of_le F.ns.lt e4)))
  refine h h' dx tk tk' ⟨F.ns.at' fun o e => e3 _ _ Nx.2.1.symm e, fun b o e => e3 _ _ (fun q => by rw [q, Nx.2.2] at e; cases e) (F.keep b o e), F.above⟩ ?_ (lt _ _ Nx.1) fun p hp => lt _ _ (N p (.tail _ hp)).1
  intro p hp
  rcases List.mem_cons.mp hp with rfl | hp
  · exact ⟨e2, dxL, dx0⟩
  · rcases List.mem_cons.mp hp with rfl | hp
    · exact ⟨e1, Nx.2⟩
    · exact ⟨e3 _ _ (hn p hp) (N p (.tail _ hp)).1, (N p (.tail _ hp)).2⟩
theorem fn_method {x dx : Addr} {fd : FuncData} {v : Value} {tk : Tok} {pl : Sem Bool} {Q : Value × List Value → Shared → Prop} (hx : s.heap.get? x = some (fnObj fd (some dx))) (hd : s.heap.get? dx = some (dictOf [DictEntry.mk (PyData.keyHash w.params "read") (.str "read" tk) v] 1)) (hh : handedIn v = true)
    (h : Q (v, []) { s with toks := s.toks + 1 }) : wpAny (model prog w) A (getMethod (.ref x) "read" pl) Q E s := by
  obtain ⟨hp, g, d, t, os⟩ := s
  dsimp only at hx hd h
  have hT : ∀ tk, (⟨hp, g, d, tk, os⟩ : Shared).TypeIs (.ref x) "function" := fun _ => ⟨_, hx, rfl⟩
  have f1 := fn_read_none
  have f2 := fn_ga
  have f3 := fn_getattr_none
  have f4 := fn_ga_slot.bind (.ref x)
  have hcan := F.canon_object_ga
  unfold getMethod
  refine wpAny_bind (wpAny_specialOf (hT _) fn_ga ?_)
  simp only [hcan, Bool.false_eq_true, if_false]
  refine wpAny_bind (wpAny_specialOf (hT _) fn_getattr_none ?_)
  simp only [Option.isSome_none, Bool.false_eq_true, if_false]
  refine wpAny_bind (wpAny_specialOf (hT _) fn_read_none ?_)
  show wpAny _ _ ((getAttr (.ref x) (Str.ofString "read")) >>= _) _ _ _
  refine wpAny_bind (wpAny_mono (Q := fun v' s' => v' = v ∧ s' = ⟨hp, g, d, t + 1, os⟩) (E := E) ?_ (fun v' s' z => ?_) fun _ _ z => z)
  · unfold getAttr getAttrBy
    refine wpAny_bind (wpAny_mkText (wpAny_holding (wpAny_bind (wpAny_typeOf (hT _) (wpAny_bind (wpAny_of_eq fn_ga ?_))))))
    show wpAny _ _ (getAttrByItsOwn _ _ _ _ _ _) _ _ _
    unfold getAttrByItsOwn
    refine wpAny_bind (wpAny_pure ?_)
    refine wpAny_bind (wpAny_attempt (wpAny_holding ?_))
    unfold callGetattribute
    rw [if_neg (by decide)]
    unfold boundAndCalled
    rw [f4]
    refine wpAny_bind (wpAny_pure ?_)
    refine wpAny_call_entry fn_ga_slot (hT _) F.entry_object_getattribute ?_ (F.args_object_getattribute_2 _ _)
    unfold Builtin.«object.__getattribute__»
    refine wpAny_bind (wpAny_of_eq (a := (.ref x, [.str (Str.ofString "read") t])) rfl ?_)
    refine wpAny_bind (wpAny_pure ?_)
    refine wpAny_bind (wpAny_typeOf (hT _) ?_)
    unfold find
    refine wpAny_bind (wpAny_bind (wpAny_of_eq fn_read_none ?_))
    refine wpAny_bind (wpAny_pure (wpAny_bind (wpAny_pure ?_)))
    show wpAny _ _ (ownThenClass _ _ _ _) _ _ _
    unfold ownThenClass
    refine wpAny_bind (wpAny_mono (Q := fun r s' => r = some v ∧ s' = ⟨hp, g, d, t + 1, os⟩) (E := fun _ _ => False) ?_ (fun r s' z => ?_) fun _ _ z => z.elim)
    · unfold inOwnDict Builtin.ObjectAttr.ownDict instanceDict
      have hns : hp.Ns dx (fun y => if y = Str.ofString "read" then some v else none) := by
        refine ⟨_, _, _, hd, rfl, fun e he => ?_, fun y => ?_⟩
        · simp at he; subst he; exact ⟨_, _, rfl⟩
        · show (Array.find? _ #[_]).map _ = _
          simp only [List.find?_toArray]
          by_cases e : y = Str.ofString "read"
          · subst e; simp [Value.isStr]
          · rw [if_neg e]; simp [Value.isStr, Ne.symm e]
      repeat (first | (with_reducible refine wpAny_loadPart_at hx ?_) | (with_reducible refine wpAny_nsGet hns ?_) | wp_step)
      exact ⟨if_pos rfl, rfl⟩
    · obtain ⟨rfl, rfl⟩ := z
      refine wpAny_bind (wpAny_rule (wpAny_pure ?_))
      refine wpAny_pure (Exists.intro v (And.intro rfl ?_))
      show wpAny _ _ (handedOut v) _ _ _
      rw [handedOut_of hh]
      exact wpAny_pure ⟨rfl, rfl⟩
  · obtain ⟨rfl, rfl⟩ := z
    exact wpAny_pure h

theorem fn_method_K {x dx : Addr} {fd : FuncData} {v : Value} {tk : Tok} {pl : Sem Bool} {Q : Value × List Value → Shared → Prop} (N : News h₀ L s.heap news) (hx : (x, fnObj fd (some dx)) ∈ news) (hd : (dx, dictOf [DictEntry.mk (PyData.keyHash w.params "read") (.str "read" tk) v] 1) ∈ news) (hh : handedIn v = true)
    (h : Q (v, []) { s with toks := s.toks + 1 }) : wpAny (model prog w) A (getMethod (.ref x) "read" pl) Q E s := fn_method (N _ hx).1 (N _ hd).1 hh h
theorem wpAny_callBorrowed {M : Model} {f : Value} {pos : List Value} {Q : Value → Shared → Prop}
    (hc : codeAny M A (.call f ⟨pos, []⟩) (fun r s' => match r with | .ok (.ret v) => Q v s' | .ok _ => False | .error e => E e s') s) :
    wpAny M A (callBorrowed f pos) Q E s := fun Γ p hΓ => by
  have h := hc _ p rfl (hΓ.enter (.call f ⟨pos, []⟩) none p (by intro x; cases x))
  refine wpCode_mono (fun r s' hr => ?_) h
  rcases r with e | f
  · exact hr
  · cases f <;> exact hr
theorem ci_iter {I : Addr} {f x : Value} {b : Bool} {Q : Value → Shared → Prop} (hI : s.heap.get? I = some (ciObj f x b)) (h : Q (.ref I) s) : wpAny (model prog w) A (pyIter (.ref I)) Q E s := by
  have hT : s.TypeIs (.ref I) "callable_iterator" := ⟨_, hI, rfl⟩
  refine wpAny_pyIter_slot hT ci_iter_slot (wpAny_call_entry ci_iter_slot hT ci_iter_entry ?_ (ci_iter_args _))
  show wpAny _ _ (ret (.ref I)) _ _ s
  exact wpAny_pure ⟨_, rfl, "callable_iterator", _, hT, ci_next_slot.lookup, h⟩
theorem ci_new {b : Addr} {f self x : Value} {Q : Value → Shared → Prop} (hb : s.heap.get? b = some (methodObj f self)) (h : Q (.ref s.heap.objs.size) { s with heap := s.heap.push (ciObj (.ref b) x false) }) :
    wpAny (model prog w) A (call (.builtin "iter") [.ref b, x]) Q E s := by
  have hT : s.TypeIs (.ref b) "method" := ⟨_, hb, rfl⟩
  refine Calls.call_function_entry iter_kind iter_plain iter_entry (iter_args _ _) ?_
  unfold Builtin.«iter»
  refine wpAny_bind (wpAny_of_eq (a := [.ref b, x]) (by first | rfl | kernel_rfl) ?_)
  dsimp only
  refine wpAny_bind (wpAny_specialOf hT meth_call ?_)
  simp only [Option.isNone_some, Bool.false_eq_true, if_false]
  refine wpAny_bind (wpAny_rule ?_)
  exact wpAny_bind (wpAny_newObj_type (wpAny_pure ⟨_, rfl, h⟩) (by size_fits))
theorem ci_new_K {b : Addr} {f self x : Value} {Q : Value → Shared → Prop} (F : Fr h₀ L s.heap m) (N : News h₀ L s.heap news) (hb : (b, methodObj f self) ∈ news)
    (h : ∀ I h', Fr h₀ L h' m → News h₀ L h' ((I, ciObj (.ref b) x false) :: news) → (∀ p ∈ news, p.1 < I) → Q (.ref I) { s with heap := h' }) :
    wpAny (model prog w) A (call (.builtin "iter") [.ref b, x]) Q E s :=
  ci_new (N _ hb).1 (h _ _ (F.push _) (N.push F _) fun p hp => Heap.lt_size (N p hp).1)
theorem raise_stop {α : Type} {P : α → Shared → Prop} {Q : Option Value → Shared → Prop} (hh : A.handled = none) (k : ∀ h', (∀ b o, s.heap.get? b = some o → h'.get? b = some o) → Q none { s with heap := h' }) :
    wpAny (model prog w) A.in1 (Builtin.SmallTypes.stopIteration : Sem α) P
      (fun e s' => wpAny (model prog w) A (isInstance e (.type "StopIteration") >>= fun c => if c then pure none else throw e) Q E s') s := by
  unfold Builtin.SmallTypes.stopIteration
  refine wpAny_bind ?_
  simp only [newExc, newTuple]
  refine wpAny_bind (wpAny_newObj_type ?_ (by size_fits))
  refine wpAny_bind (m := firstArgMember _ _) (wpAny_of_eq (a := Value.none) (by first | rfl | (simp only [firstArgMember]; rfl)) ?_)
  refine wpAny_newObj_type ?_ (by size_fits)
  simp only [raiseNew]
  refine wpAny_bind (wpAny_handled ?_)
  rw [show A.in1.handled = none from hh]
  refine wpAny_bind (wpAny_pure (wpAny_throw ?_))
  refine wpAny_bind (wpAny_isInstance (T := "StopIteration") (b := true) ⟨_, Heap.get?_push_size _ rfl, rfl⟩ isSubtype_stop ?_)
  exact wpAny_pure (k _ fun b o e => Heap.get?_push_of_some _ (Heap.get?_push_of_some _ e))
theorem ci_next_done {I : Addr} {Q : Option Value → Shared → Prop} (hh : A.handled = none) (hI : s.heap.get? I = some (ciObj .none .none true)) (k : ∀ h', (∀ b o, s.heap.get? b = some o → h'.get? b = some o) → Q none { s with heap := h' }) :
    wpAny (model prog w) A (pyNext (.ref I)) Q E s := by
  have hT : s.TypeIs (.ref I) "callable_iterator" := ⟨_, hI, rfl⟩
  unfold pyNext
  refine wpAny_bind (wpAny_attempt (wpAny_callSpecial?_slot (name := Str.ofString "__next__") hT ci_next_slot (wpAny_call_entry ci_next_slot hT ci_entry ?_ (ci_args _))))
  unfold Builtin.«callable_iterator.__next__»
  refine wpAny_bind (wpAny_of_eq (a := (Value.ref I, [])) rfl ?_)
  try dsimp only
  refine wpAny_bind (wpAny_field hI rfl (x := .bool true) rfl ?_)
  rw [if_pos (by decide)]
  refine wpAny_bind (wpAny_rule ?_)
  exact wpAny_bind (raise_stop hh k)

theorem borrows_meth {b f : Addr} {self : Value} {o : Obj} {fd : FuncData} {Q : Bool → Shared → Prop} (hb : s.heap.get? b = some (methodObj (.ref f) self)) (hf : s.heap.get? f = some o) (hd : o.data = .func fd) (h : Q true s) : wpAny (model prog w) A (borrowsExactly (.ref b)) Q E s := by
  unfold borrowsExactly
  refine wpAny_bind (wpAny_load hb ?_)
  dsimp only
  rw [if_pos (by rfl)]
  show wpAny _ _ (load f >>= _) _ _ _
  refine wpAny_bind (wpAny_load hf ?_)
  rw [hd]
  exact wpAny_pure h
theorem ci_next {I b f : Addr} {self : Value} {x : Str} {t : Tok} {o : Obj} {fd : FuncData} {Q : Option Value → Shared → Prop} (hh : A.handled = none) (F : Fr h₀ L s.heap m) (N : News h₀ L s.heap ((I, ciObj (.ref b) (.str x t) false) :: news)) (hb : (b, methodObj (.ref f) self) ∈ news) (hf : h₀.get? f = some o) (hd : o.data = .func fd)
    (hc : codeAny (model prog w) A.in1 (.call (.ref b) ⟨[], []⟩) (fun r s' => match r with
      | .ok (.ret v) => ∃ y u h' tk' news', v = .str y u ∧ s' = { s with heap := h', toks := tk' } ∧ Fr h₀ L h' m ∧ News h₀ L h' ((I, ciObj (.ref b) (.str x t) false) :: news') ∧ (b, methodObj (.ref f) self) ∈ news' ∧ (∀ p ∈ news', p.1 ≠ I) ∧
          (y ≠ x → Q (some (.str y u)) s') ∧ (y = x → ∀ h'', Fr h₀ L h'' m → News h₀ L h'' ((I, ciObj .none .none true) :: news') → Q none { s with heap := h'', toks := tk' })
      | _ => False) s) :
    wpAny (model prog w) A (pyNext (.ref I)) Q E s := by
  have hI := (N _ (.head _)).1
  have hT : s.TypeIs (.ref I) "callable_iterator" := ⟨_, hI, rfl⟩
  unfold pyNext
  refine wpAny_bind (wpAny_attempt (wpAny_callSpecial?_slot (name := Str.ofString "__next__") hT ci_next_slot (wpAny_call_entry ci_next_slot hT ci_entry ?_ (ci_args _))))
  unfold Builtin.«callable_iterator.__next__»
  refine wpAny_bind (wpAny_of_eq (a := (Value.ref I, [])) rfl ?_)
  try dsimp only
  refine wpAny_bind (wpAny_field hI rfl (x := .bool false) rfl ?_)
  rw [if_neg (by decide)]
  refine wpAny_bind (wpAny_field hI rfl (x := .ref b) rfl ?_)
  refine wpAny_bind (wpAny_attempt ?_)
  unfold callOutOfASlot
  refine wpAny_bind (borrows_meth (N _ (.tail _ hb)).1 (F.keep _ _ hf) hd ?_)
  rw [if_pos rfl]
  refine wpAny_callBorrowed (codeAny_mono hc fun r s' hr => ?_)
  rcases r with e | fl
  · exact hr.elim
  cases fl with
  | next => exact hr.elim
  | cont => exact hr.elim
  | brk => exact hr.elim
  | ret v =>
    obtain ⟨y, u, h', tk', news', rfl, rfl, F', N', hb', off, q1, q2⟩ := hr
    have hI' := (N' _ (.head _)).1
    refine wpAny_bind (wpAny_field hI' rfl (x := .bool false) rfl ?_)
    rw [if_neg (by decide)]
    refine wpAny_bind (wpAny_field hI' rfl (x := .str x t) rfl ?_)
    refine wpAny_bind (wpAny_holding (wpAny_eqBool_str ?_))
    by_cases e : x = y
    · subst e
      rw [if_neg (by simp)]
      refine wpAny_bind (wpAny_rule ?_)
      show wpAny _ _ ((field (.ref I) 0 >>= fun v => slotLetsGo "callable_iterator.__next__" v _ >>= fun _ => setField (.ref I) 0 .none >>= fun _ => setField (.ref I) 1 .none >>= fun _ => setField (.ref I) 2 (.bool true)) >>= _) _ _ _
      refine wpAny_bind (wpAny_bind (wpAny_field hI' rfl (x := .ref b) rfl (wpAny_bind ?_)))
      unfold slotLetsGo
      refine wpAny_bind (borrows_meth (N' _ (.tail _ hb')).1 (F'.keep _ _ hf) hd ?_)
      rw [if_pos rfl]
      refine wpAny_pure ?_
      refine wpAny_bind (wpAny_setField hI' rfl (by simp) ?_)
      have g1 := Heap.get?_update_self (Obj.mapFields (·.setIfInBounds 0 Value.none)) hI' rfl
      refine wpAny_bind (wpAny_setField g1 rfl (by simp) ?_)
      have g2 := Heap.get?_update_self (Obj.mapFields (·.setIfInBounds 1 Value.none)) g1 rfl
      refine wpAny_setField g2 rfl (by simp) ?_
      have g3 := Heap.get?_update_self (Obj.mapFields (·.setIfInBounds 2 (Value.bool true))) g2 rfl
      refine raise_stop hh fun h'' k => ?_
      have kk : ∀ b o, b ≠ I → h'.get? b = some o → h''.get? b = some o := fun b o hb e => k b o ((Heap.get?_update_ne _ _ _ _ hb).trans ((Heap.get?_update_ne _ _ _ _ hb).trans ((Heap.get?_update_ne _ _ _ _ hb).trans e)))
      have NI := N' _ (.head _)
      refine q2 rfl h'' ⟨F'.ns.at' fun o e => kk _ _ NI.2.1.symm e, fun b o e => kk _ _ (fun q => by rw [q, NI.2.2] at e; cases e) (F'.keep b o e), F'.above⟩ fun p hp => ?_
      rcases List.mem_cons.mp hp with rfl | hp
      · exact ⟨k _ _ g3, NI.2⟩
      · exact ⟨kk _ _ (off p hp) (N' p (.tail _ hp)).1, (N' p (.tail _ hp)).2⟩
    · rw [if_pos (by simp [e])]
      refine wpAny_bind (wpAny_pure (wpAny_pure ⟨_, rfl, wpAny_pure (q1 (Ne.symm e))⟩))

theorem ci_done_K {I : Addr} {Q : Option Value → Shared → Prop} (hh : A.handled = none) (F : Fr h₀ L s.heap m) (N : News h₀ L s.heap news) (hI : (I, ciObj .none .none true) ∈ news)
    (k : ∀ h', Fr h₀ L h' m → News h₀ L h' news → Q none { s with heap := h' }) : wpAny (model prog w) A (pyNext (.ref I)) Q E s :=
  ci_next_done hh (N _ hI).1 fun h' kk => k h' ⟨F.ns.at' fun o e => kk _ _ e, fun b o e => kk _ _ (F.keep b o e), F.above⟩ fun p hp => ⟨kk _ _ (N p hp).1, (N p hp).2⟩
end
section
variable {prog : Program} {w : World} {A : Around} {E : Value → Shared → Prop} {s : Shared} {env : Env}
/-- what a turn of the loop over a shared iterator owes -/
noncomputable def NextEnd (J : Nat → Shared → Prop) (n : Nat) (Q : Flow → Shared → Prop) (f : Flow) (s₃ : Shared) : Prop := match f with
  | .brk => Q .next s₃
  | .ret v => Q (.ret v) s₃
  | _ => ∃ k, k < n ∧ J k s₃
/-- the loop over a shared iterator -/
noncomputable def ForNext (prog : Program) (w : World) (A : Around) (E : Value → Shared → Prop) (env : Env) (v : Str) (body : List Stmt) (Q : Flow → Shared → Prop) (it : Value) (s₂ : Shared) : Prop :=
  ∃ (J : Nat → Shared → Prop) (n : Nat), J n s₂ ∧ ∀ n s', J n s' → wpAny (model prog w) A (pyNext it) (fun r s₁ => match r with
      | none => Q .next s₁
      | some y => wpAny (model prog w) A (storeName env v y) (fun _ s₂ => wpAny (model prog w) A (execs body env) (NextEnd J n Q) E s₂) E s₁) E s'
theorem for_nextK {v : Str} {px pos : Pos} {iter : Expr} {body : List Stmt} {Q : Flow → Shared → Prop}
    (h : wpAny (model prog w) A (eval iter env) (fun xv s₁ => wpAny (model prog w) A (pyIter xv) (fun it s₂ => ForNext prog w A E env v body Q it s₂) E s₁) E s)
    (hs : ∀ x, foldedSetIterable iter env x = pure x := by intro _; rfl) (hE : PassesOwn (model prog w) A env E := by passes_own) :
    wpAny (model prog w) A (exec (.For (.Name v px) iter body [] pos) env) Q E s := by
  refine wpAny_For (wpAny_mono h (fun xv s₁ h₁ => wpAny_mono h₁ (fun it s₂ h₂ => ?_) fun _ _ z => z) fun _ _ z => z) hs
  obtain ⟨J, n, hJ, turn⟩ := h₂
  refine codeAny_forLoop (R := fun r s' => match r with | .ok f => Q f s' | .error e => cameBackBy (model prog w) A env E e s') J ?_ n hJ (by intro _; rfl)
  intro k s' hk
  refine wpAny_passesOwn hE (wpAny_mono (turn k s' hk) (fun r s₁ hr => ?_) fun _ _ z => z)
  cases r with
  | none => exact wpAny_execs_nil hr
  | some y =>
    refine wpAny_passesOwn hE (wpAny_assign_Name (wpAny_mono hr (fun _ s₂ h₂ => ?_) fun _ _ z => z))
    refine wpAny_passesOwn hE (wpAny_mono h₂ (fun f s₃ h₃ => ?_) fun _ _ z => z)
    cases f with
    | next => exact h₃
    | cont => exact h₃
    | brk => exact h₃
    | ret _ => exact h₃
end
end Mine
end
namespace Mine
open PySem.Spec PySem.Calls
local macro_rules | `(tactic| k_all) => `(tactic| first | assumption | exact ne_le (by assumption) (by lia) | exact fun p hp => Nat.ne_of_lt ((by assumption : ∀ p ∈ _, p.1 < _) p hp) | exact ne_of_allLt (by assumption) | exact ne_of_allLt (allLt_le (by lia) (by assumption)))
-- «lcg_sub»: every entry of the one ledger stands in the other
local macro_rules | `(tactic| lcg_sub) => `(tactic| first | exact subs_refl | exact subs_nil | (refine subs_cons (by k_mem) ?_; lcg_sub) | (refine subs_tail ?_; lcg_sub))
local macro_rules | `(tactic| walk_at "STEP") => `(tactic| ((fail_if_success (with_reducible show wpAny _ _ (pyIter _) _ _ _)); (first | (k_unfold; (try dsimp only)) | (k_end; wrow_close) | refine turn_ret ?_ | refine turn_brk ?_ | walk1 | (dsimp only; walk1) | (leave1; (try dsimp only)))))
local macro_rules | `(tactic| k_steps) => `(tactic| repeat' walk_at "STEP")
local macro_rules | `(tactic| k_mem) => `(tactic| assumption)
local macro_rules | `(tactic| k_ne) => `(tactic| (refine neN ?_; (try dsimp only); first | assumption | exact Nat.ne_of_lt (by assumption) | exact Nat.ne_of_gt (by assumption)))
section
-- Ell0
set_option maxRecDepth 100000 in
set_option maxHeartbeats 2000000 in
theorem c_ell0 (prog : Program) (w : World) (news : List (Addr × Obj)) (want got : Str) (t1 t2 : Tok)
   (hc : (Builtin.Str.occurrences want "..." 0 want.length 1).isEmpty = true) :
   Con prog w (KF w.params) 1 8 (call (.ref 21) [.str want t1, .str got t2]) news (fun r nw => nw = news ∧ r = .bool (want == got)) := by
  intro p loose mean mg mb dp un gd cn cs a ccd cl outer A₀ base h₀ L m s Q E B F X N T hk hd hu hret
  refine wpAny_call ?_
  k_dflt (refine' code_def ?k1 ?k2 ?k3 ?k4 ?k5 ?kA ?kF ?kK ?k6 ?k7 ?k8 ?k9 ?kB ?_ ?c2 ?c3 ?c4 ?c5; (case kA => exact rfl); (case kF => exact rfl); (case kK => assumption); (case k1 => k_asm); (case k2 => k_asm); (case k3 => k_asm); (case k4 => k_asm); (case k5 => k_asm); (case k6 => k_is); (case k7 => k_is); (case k8 => ktr_room); (case k9 => exact BindsTo.of_eq rfl); (case c5 => decide); (case kB => exact locs rfl); (case c2 => exact rfl); (case c3 => exact rfl); (case c4 => exact rfl); k_whole; intro g' L' h' FG' F' N' B' X' T'; (try dsimp only); (try k_lift B'); (try k_fold); revert g' L' h' FG' F' N' B' X' T'; intros)
  k_steps
  all_goals exact hret _ _ _ news (by k_asm) (by k_asm) ⟨rfl, rfl⟩
end
section
local macro_rules | `(tactic| walk_at "none of these") => `(tactic| fail)
-- Ell

noncomputable def CutAt (M : Model) (A : Around) (t : Sem Flow) (Q : Flow → Shared → Prop) (E : Value → Shared → Prop) (s : Shared) : Prop := wpAny M A t Q E s
theorem cutAt {M : Model} {A : Around} {t : Sem Flow} {Q : Flow → Shared → Prop} {E : Value → Shared → Prop} {s : Shared} (h : CutAt M A t Q E s) : wpAny M A t Q E s := h
theorem cutF {M : Model} {A : Around} {t : Sem Flow} {Q : Flow → Shared → Prop} {E : Value → Shared → Prop} {s : Shared} (P : Flow → Shared → Prop) (h1 : ∀ PP : Flow → Shared → Prop, (∀ f s, P f s → PP f s) → wpAny M A t PP E s) (h2 : ∀ f s, P f s → Q f s) : CutAt M A t Q E s := wpAny_mono (h1 P fun _ _ h => h) h2 fun _ _ e => e
/-- after an 'if' of _ellipsis_match: 'return False', or on with these variables -/
inductive EllS (g' : Heap) (L' : Addr) (s : Shared) (news : List (Addr × Obj)) (no : Prop) (on : List Value → List Str → Int → Int → Prop) (got : Str) : Flow → Shared → Prop
  | ret (h : Heap) (tk : Nat) (m : Str → Option Value) (nw : List (Addr × Obj)) : no → Fr g' L' h m → News g' L' h (nw ++ news) → EllS g' L' s news no on got (.ret (.bool false)) { s with heap := h, toks := tk }
  | next (h : Heap) (tk : Nat) (m : Str → Option Value) (D : Addr) (k : Nat) (vs : List Value) (l : List Str) (sp ep : Int) (tg t3 t4 : Tok) : Fr g' L' h m → News g' L' h ((D, W.listOf vs.toArray k) :: news) → AllLt D news → Are IsStr vs l → on vs l sp ep → (∀ y ∈ l, y.length ≤ 1000) →
      m (Str.ofString "ws") = some (.ref D) → m (Str.ofString "got") = some (.str got tg) → m (Str.ofString "startpos") = some (.int sp t3) → m (Str.ofString "endpos") = some (.int ep t4) → EllS g' L' s news no on got .next { s with heap := h, toks := tk }
theorem ell_vars {m : Str → Option Value} {x y z u : Str} {a b c d : Value} (h1 : m x = some a) (h2 : m y = some b) (h3 : m z = some c) (h4 : m u = some d) : m = seen [(x, a), (y, b), (z, c), (u, d)] m := map_seen _ (List.forall_mem_cons.mpr ⟨h1, List.forall_mem_cons.mpr ⟨h2, List.forall_mem_cons.mpr ⟨h3, List.forall_mem_cons.mpr ⟨h4, fun _ h => nomatch h⟩⟩⟩⟩)
/-- after the first 'if' -/
noncomputable def EllOn1 (got w0 wl : Str) (mid : List Str) (vs : List Value) (l : List Str) (sp ep : Int) : Prop := ∃ pre vp tl, l = pre ++ [wl] ∧ vs = vp ++ [.str wl tl] ∧ vp.length ≤ 1001 ∧ Are IsStr vp pre ∧ ep = got.length ∧ ellM got w0 mid wl = ellEnd got pre wl sp
noncomputable def EllOn2 (got w0 wl : Str) (mid : List Str) (_ : List Value) (l : List Str) (sp ep : Int) : Prop := ellM got w0 mid wl = if sp > ep then false else ellLoop got ep l sp
theorem on1_same {got w0 wl : Str} {mid : List Str} {vm : List Value} {t0 tl : Tok} (hz : StrsAre vm mid) (hl : vm.length ≤ 1000) (h : ¬ 0 < w0.length) : EllOn1 got w0 wl mid (.str w0 t0 :: (vm ++ [.str wl tl])) (w0 :: (mid ++ [wl])) 0 got.length :=
  ⟨w0 :: mid, .str w0 t0 :: vm, tl, rfl, rfl, Nat.succ_le_succ hl, .cons ⟨_, rfl⟩ (areStrs hz), rfl, if_neg h⟩
theorem on1_cut {got w0 wl : Str} {mid : List Str} {vm : List Value} {tl : Tok} (hz : StrsAre vm mid) (hl : vm.length ≤ 1000) (h : 0 < w0.length) (h2 : Txt.startswith got w0 = true) : EllOn1 got w0 wl mid (vm ++ [.str wl tl]) (mid ++ [wl]) w0.length got.length :=
  ⟨mid, vm, tl, rfl, rfl, Nat.le_succ_of_le hl, areStrs hz, rfl, (if_pos h).trans (if_pos h2)⟩
theorem on2_same {got w0 wl : Str} {mid pre : List Str} {sp : Int} {vs : List Value} (e : ellM got w0 mid wl = ellEnd got pre wl sp) (h : ¬ 0 < wl.length) : EllOn2 got w0 wl mid vs (pre ++ [wl]) sp got.length := e.trans (if_neg h)
theorem on2_cut {got w0 wl : Str} {mid pre : List Str} {sp : Int} {vs : List Value} (e : ellM got w0 mid wl = ellEnd got pre wl sp) (h : 0 < wl.length) (h2 : Txt.endswith got wl = true) : EllOn2 got w0 wl mid vs pre sp ((got.length : Int) - wl.length) := e.trans ((if_pos h).trans (if_pos h2))
theorem sub3 {a b : Addr × Obj} {l : List (Addr × Obj)} : ∀ p ∈ b :: l, p ∈ a :: b :: l := fun _ h => .tail _ h
theorem ell_cont {M : Model} {A : Around} {E : Value → Shared → Prop} {s : Shared} {t : Sem Flow} {Q : Flow → Shared → Prop} (h : ∀ Q' : Flow → Shared → Prop, (∀ f s, Q f s → Q' f s) → wpAny M A t Q' E s) : wpAny M A t Q E s := h Q fun _ _ h => h
theorem ell_keep {x y : Str} {u v : Option Value} {m : Str → Option Value} : ∀ z, z ≠ x → z ≠ y → (fun z => if z = y then u else if z = x then v else m z) z = m z := fun z h1 h2 => (if_neg h2).trans (if_neg h1)
theorem snoc_lt {vm : List Value} {v : Value} (h : vm.length ≤ 1000) : (vm ++ [v]).length < 10000 := by rw [List.length_append, List.length_singleton]; lia
theorem sum_fit {n : Nat} (h : n ≤ 1001) : n + 1 < 2 ^ 62 ∧ n + 1 < 10000 := by lia
set_option maxRecDepth 100000 in
set_option maxHeartbeats 2000000 in
theorem c_ell1G (prog : Program) (w : World) (news : List (Addr × Obj)) (want got w0 wl : Str) (mid : List Str) (t1 t2 : Tok) (hw : want.length ≤ 1000) (hg : got.length ≤ 1000)
   (hs : Txt.split want "..." = w0 :: (mid ++ [wl])) (hc : (Builtin.Str.occurrences want "..." 0 want.length 1).isEmpty = false) (hmid : mid.length ≤ 1000) (hw0 : w0.length ≤ 1000) (hwl : wl.length ≤ 1000) (hall : ∀ y ∈ mid, y.length ≤ 1000) :
   ConG prog w (KF w.params) 1 8 (call (.ref 21) [.str want t1, .str got t2]) news (fun P => P (.bool (ellM got w0 mid wl)) news) := by
  intro p loose mean mg mb dp un gd cn cs a ccd cl outer A₀ base h₀ L m s Q E B F X N T hk hd hu hret
  have hw0' : w0.length ≤ 1000000 := Nat.le_trans hw0 (by decide)
  have hwl' : wl.length ≤ 1000000 := Nat.le_trans hwl (by decide)
  refine wpAny_call ?_
  k_dflt (refine' code_def ?k1 ?k2 ?k3 ?k4 ?k5 ?kA ?kF ?kK ?k6 ?k7 ?k8 ?k9 ?kB ?_ ?c2 ?c3 ?c4 ?c5; (case kA => exact rfl); (case kF => exact rfl); (case kK => assumption); (case k1 => k_asm); (case k2 => k_asm); (case k3 => k_asm); (case k4 => k_asm); (case k5 => k_asm); (case k6 => k_is); (case k7 => k_is); (case k8 => ktr_room); (case k9 => exact BindsTo.of_eq rfl); (case c5 => decide); (case kB => exact locs rfl); (case c2 => exact rfl); (case c3 => exact rfl); (case c4 => exact rfl); k_whole; intro g' L' h' FG' F' N' B' X' T'; (try dsimp only); (try k_lift B'); (try k_fold))
  (repeat' first | with_reducible ((with_reducible show wpAny _ _ (exec (Stmt.If (Expr.Name _ _) _ _ _) _) _ _ _); refine cutAt ?_) | with_reducible ((with_reducible show wpAny _ _ (call (Value.builtin "str.split") _) _ _ _); k_dflt (refine' r_split ?F ?N ?y ?s ?z ?_; (case F => k_asm); (case N => k_asm); (case y => decide); (case s => assumption); (case z => assumption)); intro _ _ _ _ _ _ _ _ _ _ _) | with_reducible ((with_reducible show wpAny _ _ (call (Value.builtin "len") [Value.ref _]) _ _ _); k_dflt (refine' r_len ?N ?m ?z ?_; (case N => k_asm); (case m => k_mem); (case z => (simp; lia)))) | with_reducible ((with_reducible show wpAny _ _ (subscriptTail _ (Expr.Constant _ _ _) (Value.ref _) (Value.int _ _)) _ _ _); k_dflt (refine' r_item ?N ?m ?a ?b ?x ?_; (case N => k_asm); (case m => k_mem); (case a => decide); (case b => decide); (case x => rfl))) | (walk_at "STEP" <;> (try dsimp only)))
  all_goals first
    | (exfalso; simp only [List.length_cons, List.length_append, List.length_nil] at *; lia)
    | skip
  rename News _ _ _ _ => NN
  rename StrsAre _ _ => hz
  rename AllLt _ news => hlD
  rename (List.length _ = List.length mid) => hvl
  have hvl' := Nat.le_trans (Nat.le_of_eq hvl) hmid
  have hlen0 := fun v : Value => snoc_lt (v := v) hvl'
  clear hvl hs hc hw
  refine cutF (EllS g' L' s news (ellM got w0 mid wl = false) (EllOn1 got w0 wl mid) got) ?_ ?_
  · intro PP hPP
    walk1
    (repeat' first | with_reducible ((with_reducible show wpAny _ _ (truthy (Value.str _ _)) _ _ _); k_dflt (refine' r_truthyS ?z ?_; (case z => assumption))) | with_reducible ((with_reducible show wpAny _ _ (delItem (Value.ref _) (Value.int 0 _)) _ _ _); k_dflt (refine' r_delFirst ?F ?N ?U ?c ?_; (case F => k_asm); (case N => k_asm); (case U => k_updF); (case c => exact hlen0 _)); intro _ _ N'; (try dsimp only at N'); revert N'; intro _) | (walk_at "STEP" <;> (try dsimp only)))
    all_goals
      rename Fr _ _ _ _ => FE
      rename News _ _ _ _ => NE
    · exact hPP _ _ (.next _ _ _ _ _ _ _ _ _ _ _ _ FE (cb_drop NE sub3) hlD ((areStrs hz).append (.cons ⟨_, rfl⟩ .nil)) (on1_cut hz hvl' (by assumption) (by assumption)) (List.forall_mem_append.mpr ⟨hall, List.forall_mem_singleton.mpr hwl⟩) rfl rfl rfl rfl)
    · exact hPP _ _ (.ret _ _ _ [_, _] ((if_pos (by assumption)).trans (if_neg (by first | assumption | exact Bool.eq_false_iff.mp (by assumption)))) FE NE)
    · exact hPP _ _ (.next _ _ _ _ _ _ _ _ _ _ _ _ FE (cb_drop NE sub3) hlD (.cons ⟨_, rfl⟩ ((areStrs hz).append (.cons ⟨_, rfl⟩ .nil))) (on1_same hz hvl' (by assumption)) (List.forall_mem_cons.mpr ⟨hw0, List.forall_mem_append.mpr ⟨hall, List.forall_mem_singleton.mpr hwl⟩⟩) rfl rfl rfl rfl)
  clear NN hz hvl' hlen0 hlD
  intro f s' HS
  cases HS with
  | ret h1 tk1 m1 nw1 hno F1 N1 =>
    rw [hno] at hret
    dsimp only
    k_steps
    exact hret _ _ (by k_asm) (cb_drop (by assumption) fun p hp => List.mem_append_right _ hp)
  | next h1 tk1 m1 D k vs l sp ep tg t3 t4 F1 N1 hlD ha ho hy m_ws m_got m_sp m_ep =>
    obtain ⟨pre, vp, tl, rfl, rfl, hvp, hpre, rfl, hM⟩ := ho
    have hlast : (vp ++ [Value.str wl tl]).getLast? = some (.str wl tl) := List.getLast?_concat
    have hln := sum_fit hvp
    have hls : (vp ++ [Value.str wl tl]).length = vp.length + 1 := List.length_append
    have hlen : (vp ++ [Value.str wl tl]).length < 2 ^ 62 := hls ▸ hln.1
    have hlen4 : (vp ++ [Value.str wl tl]).length < 10000 := hls ▸ hln.2
    have hpos : 0 < (vp ++ [Value.str wl tl]).length := hls ▸ Nat.succ_pos _
    have hyp : ∀ y ∈ pre, y.length ≤ 1000 := fun y h => hy y (List.mem_append_left _ h)
    have e := ell_vars m_ws m_got m_sp m_ep
    rw [e] at F1
    clear e m_ws m_got m_sp m_ep
    dsimp only
    (repeat' first | with_reducible ((with_reducible show wpAny _ _ (exec (Stmt.If (Expr.Name _ _) _ _ _) _) _ _ _); refine cutAt ?_) | with_reducible ((with_reducible show wpAny _ _ (subscriptTail _ (Expr.UnaryOp _ _ _) (Value.ref _) (Value.int _ _)) _ _ _); k_dflt (refine' r_itemLast ?N ?m ?a ?x ?_; (case N => k_asm); (case m => k_mem); (case x => exact hlast); (case a => exact hlen))) | (walk_at "STEP" <;> (try dsimp only)))
    refine cutF (EllS g' L' s news (ellM got w0 mid wl = false) (EllOn2 got w0 wl mid) got) ?_ ?_
    · intro PP hPP
      walk1
      (repeat' first | with_reducible ((with_reducible show wpAny _ _ (truthy (Value.str _ _)) _ _ _); k_dflt (refine' r_truthyS ?z ?_; (case z => assumption))) | with_reducible ((with_reducible show wpAny _ _ (delItem (Value.ref _) (Value.int (-1) _)) _ _ _); k_dflt (refine' r_delLast ?dF ?dN ?dU ?dw ?dp ?dc ?_; (case dF => k_asm); (case dN => k_asm); (case dU => k_updF); (case dw => exact erase_snoc _ _); (case dp => exact hpos); (case dc => exact hlen4)); intro _ _ N'; (try dsimp only at N'); revert N'; intro _) | (walk_at "STEP" <;> (try dsimp only)))
      all_goals
        rename Fr _ _ _ _ => FE
        rename News _ _ _ _ => NE
      · exact hPP _ _ (.next _ _ _ _ _ _ _ _ _ _ _ _ FE NE hlD hpre (on2_cut hM (by assumption) (by assumption)) hyp rfl rfl rfl rfl)
      · exact hPP _ _ (.ret _ _ _ [_] (hM.trans ((if_pos (by assumption)).trans (if_neg (by first | assumption | exact Bool.eq_false_iff.mp (by assumption))))) FE NE)
      · exact hPP _ _ (.next _ _ _ _ _ _ _ _ _ _ _ _ FE NE hlD ha (on2_same hM (by assumption)) hy rfl rfl rfl rfl)
    clear hlast hlen hlen4 hpos hyp hln hls ha hpre hy hvp hM
    intro f s' HS
    cases HS with
    | ret h2 tk2 m2 nw2 hno F2 N2 =>
      rw [hno] at hret
      dsimp only
      k_steps
      exact hret _ _ (by k_asm) (cb_drop (by assumption) fun p hp => List.mem_append_right _ hp)
    | next h2 tk2 m2 D2 k2 vs2 l2 sp2 ep2 tg2 t5 t6 F2 N2 hlD2 ha2 hM hy m_ws m_got m_sp m_ep =>
      have e := ell_vars m_ws m_got m_sp m_ep
      rw [e] at F2
      clear e m_ws m_got m_sp m_ep
      dsimp only
      (repeat' first | with_reducible ((with_reducible show wpAny _ _ (call (Value.builtin "str.find") _) _ _ _); k_dflt (refine r_find4 ?_)) | with_reducible ((with_reducible show wpAny _ _ (exec (Stmt.For (Expr.Name _ _) _ _ _ _) _) _ _ _); (with_unfolding_all refine' For_invVF (by (rename Fr _ _ _ _ => lF'); exact lF') ?k1 ?k2 ?_; (case k1 => exact rfl); (case k2 => exact rfl); k_whole)) | ((fail_if_success (with_reducible show wpAny _ _ (pyIter (Value.ref _)) _ _ _)); (first | (k_unfold; (try dsimp only)) | (k_end; wrow_close) | walk1 | (dsimp only; walk1) | (leave1; try dsimp only) | fail "no step")))
      · rw [show ellM got w0 mid wl = false from Eq.trans hM (if_pos (by assumption))] at hret
        exact hret _ _ (by k_asm) (cb_drop (by assumption) fun p hp => .tail _ hp)
      · have hM' : ellM got w0 mid wl = ellLoop got ep2 l2 sp2 := Eq.trans hM (if_neg (by assumption))
        rename Fr _ _ _ _ => FF
        rename News _ _ _ _ => NN
        clear hM
        refine ellFor (got := got) (R := ellM got w0 mid wl) rfl FF NN (.head _) rfl rfl ha2 hy hM'.symm ?_ ?_
        · intro y rest sp tsp t h tk I oI hK hy hlt F₁ N₁
          clear FF NN
          refine ell_cont ?_
          intro Q9 hQ9
          (repeat' first | with_reducible ((with_reducible show wpAny _ _ (call (Value.builtin "str.find") _) _ _ _); k_dflt (refine r_find4 ?_)) | with_reducible ((with_reducible show wpAny _ _ (exec (Stmt.For (Expr.Name _ _) _ _ _ _) _) _ _ _); (with_unfolding_all refine' For_invVF (by (rename Fr _ _ _ _ => lF'); exact lF') ?k1 ?k2 ?_; (case k1 => exact rfl); (case k2 => exact rfl); k_whole)) | ((fail_if_success (with_reducible show wpAny _ _ (pyIter (Value.ref _)) _ _ _)); (first | (k_unfold; (try dsimp only)) | (k_end; wrow_close) | walk1 | (dsimp only; walk1) | (leave1; try dsimp only) | fail "no step")))
          · have hR : ellM got w0 mid wl = false := hK.symm.trans (if_pos (by assumption))
            refine hQ9 _ _ (turn_ret ?_)
            clear hQ9
            rw [hR] at hret
            dsimp only
            k_steps
            exact hret _ _ (by k_asm) (cb_drop (by assumption) fun p hp => .tail _ (.tail _ hp))
          · rename Fr _ _ _ _ => FE
            rename News _ _ _ _ => NE
            exact hQ9 _ _ (turn_next FE NE (ne_of_allLt hlt) ⟨_, ⟨rfl, ⟨_, rfl⟩, fun z h1 h2 => by simp only [h1, h2, if_false]⟩, (if_neg (by assumption)).symm.trans hK⟩)
        · intro m₁ h tk hR F₁ N₁
          rw [hR] at hret
          clear FF NN
          k_steps
          exact hret _ _ (by k_asm) (cb_drop (by assumption) fun p hp => .tail _ hp)
theorem c_ell1 (prog : Program) (w : World) (news : List (Addr × Obj)) (want got w0 wl : Str) (mid : List Str) (t1 t2 : Tok) (hw : want.length ≤ 1000) (hg : got.length ≤ 1000)
   (hs : Txt.split want "..." = w0 :: (mid ++ [wl])) (hc : (Builtin.Str.occurrences want "..." 0 want.length 1).isEmpty = false) (hmid : mid.length ≤ 1000) (hw0 : w0.length ≤ 1000) (hwl : wl.length ≤ 1000) (hall : ∀ y ∈ mid, y.length ≤ 1000) :
   Con prog w (KF w.params) 1 8 (call (.ref 21) [.str want t1, .str got t2]) news (fun r nw => nw = news ∧ r = .bool (ellM got w0 mid wl)) :=
  fun p loose mean mg mb dp un gd cn cs a ccd cl outer A₀ base h₀ L m s Q E B F X N T hk hd hu ret => c_ell1G prog w news want got w0 wl mid t1 t2 hw hg hs hc hmid hw0 hwl hall p loose mean mg mb dp un gd cn cs a ccd cl outer A₀ base h₀ L m s Q E B F X N T hk hd hu fun h' tk' F' N' => ret _ h' tk' _ F' N' ⟨rfl, rfl⟩
end
section
-- Prod
noncomputable def prodZ (piece sign : Str) : Int := (piece.cps.toList.map (fun c => if (⟨#[c]⟩ : Str) == sign then (1 : Int) else 16)).sum

set_option maxRecDepth 100000 in
set_option maxHeartbeats 2000000 in
theorem c_prod (prog : Program) (w : World) (news : List (Addr × Obj)) (piece sign : Str) (t1 t2 : Tok) (hp : piece.length ≤ 1000) :
   Con prog w (KF w.params) 1 8 (call (.ref 139) [.str piece t1, .str sign t2]) news (fun r nw => nw = news ∧ IsInt (prodZ piece sign) r) := by
  intro p loose mean mg mb dp un gd cn cs a ccd cl outer A₀ base h₀ L m s Q E B F X N T hk hd hu hret
  refine wpAny_call ?_
  k_dflt (refine' code_defC (binds := [(Str.ofString "piece", .str piece t1), (Str.ofString "sign", .str sign t2)]) ?k1 ?k2 ?k3 ?k4 ?k5 ?kA ?kF ?kK ?k6 ?k7 ?k8 ?k9 ?kB ?kD ?_ ?c2 ?c3 ?c4; (case kA => exact rfl); (case kF => exact rfl); (case kK => assumption); (case k1 => k_asm); (case k2 => k_asm); (case k3 => k_asm); (case k4 => k_asm); (case k5 => k_asm); (case k6 => k_is); (case k7 => k_is); (case k8 => ktr_room); (case k9 => exact BindsTo.of_eq rfl); (case kB => exact rfl); (case kD => decide +kernel); (case c2 => exact rfl); (case c3 => exact rfl); (case c4 => exact rfl); k_whole; intro g' L' h' tk' cells' FG' F' N' Y' B' X' T' l1'; k_cells Y'; (try simp only [List.cons_append, List.nil_append] at N'); (try dsimp only); (try k_lift B'); (try k_fold))
  have l1 := allLt_of l1'
  clear l1'
  (repeat' first | with_reducible (k_here; (with_reducible show wpAny _ _ (eval (Expr.ListComp _ [⟨_, _, [], _⟩] _ _) _) _ _ _); k_dflt (refine listComp (by k_asm) (by rfl) (by decide) (by rfl) (by decide) (by rfl) ?_)) | walk_at "STEP")
  refine compStr (fun c => if (⟨#[c]⟩ : Str) == sign then (1 : Int) else 16) (Out := IsInt) rfl (by k_asm) (by k_asm) (by lia) ?_ ?_
  · intro c u I oI C oC D m₂ h tk E' ys hc hC hx F2 N2
    (try dsimp only)
    (repeat' first | with_reducible (k_here; (with_reducible show wpAny _ _ (eval (Expr.ListComp _ [⟨_, _, [], _⟩] _ _) _) _ _ _); k_dflt (refine listComp (by k_asm) (by rfl) (by decide) (by rfl) (by decide) (by rfl) ?_)) | walk_at "STEP")
    all_goals exact eltEnd (by k_asm) N2 subs_refl (isI (by simp [*]))
  · intro hp ys hy
    have hy' := intsOf hy
    (repeat' first | with_reducible (k_here; (with_reducible show wpAny _ _ (eval (Expr.ListComp _ [⟨_, _, [], _⟩] _ _) _) _ _ _); k_dflt (refine listComp (by k_asm) (by rfl) (by decide) (by rfl) (by decide) (by rfl) ?_)) | walk_at "STEP")
    all_goals exact hret _ _ _ news (by k_asm) (cb_drop (by assumption) (by lcg_sub)) ⟨rfl, isI rfl⟩
theorem c_prodG (prog : Program) (w : World) (news : List (Addr × Obj)) (piece sign : Str) (t1 t2 : Tok) (hp : piece.length ≤ 1000) :
   ConG prog w (KF w.params) 1 8 (call (.ref 139) [.str piece t1, .str sign t2]) news (fun P => ∀ t, P (.int (prodZ piece sign) t) news) :=
  fun p loose mean mg mb dp un gd cn cs a ccd cl outer A₀ base h₀ L m s Q E B F X N T hk hd hu ret => c_prod prog w news piece sign t1 t2 hp p loose mean mg mb dp un gd cn cs a ccd cl outer A₀ base h₀ L m s Q E B F X N T hk hd hu fun r h' tk' nw F' N' ⟨e, t, e2⟩ => by subst e; subst e2; exact ret t h' tk' F' N'
end
section
-- Count
set_option maxRecDepth 100000 in
set_option maxHeartbeats 2000000 in
theorem c_count (prog : Program) (w : World) (news : List (Addr × Obj)) (d : Addr) (od : Obj) (c : List (Int × Int)) (hm : (d, od) ∈ news) (hc : IsD prog w od c) (lo : (d == sysModules) = false) :
   Con prog w (KF w.params) 1 8 (call (.ref 112) [.ref d]) news (fun r nw => nw = news ∧ IsInt (c.map (·.2)).sum r) := by
  obtain ⟨kvs, hk0, hf0⟩ := hc
  intro p loose mean mg mb dp un gd cn cs a ccd cl outer A₀ base h₀ L m s Q E B F X N T hk hd hu hret
  refine wpAny_call ?_
  k_dflt (refine' code_def (binds := [(Str.ofString "callers", .ref d)]) ?k1 ?k2 ?k3 ?k4 ?k5 ?kA ?kF ?kK ?k6 ?k7 ?k8 ?k9 ?kB ?_ ?c2 ?c3 ?c4 ?c5; (case kA => exact rfl); (case kF => exact rfl); (case kK => assumption); (case k1 => k_asm); (case k2 => k_asm); (case k3 => k_asm); (case k4 => k_asm); (case k5 => k_asm); (case k6 => k_is); (case k7 => k_is); (case k8 => ktr_room); (case k9 => exact BindsTo.of_eq rfl); (case c5 => decide); (case kB => exact locs rfl); (case c2 => exact rfl); (case c3 => exact rfl); (case c4 => exact rfl); k_whole; intro g' L' h' FG' F' N' B' X' T'; (try dsimp only); (try k_lift B'); (try k_fold))
  (repeat' first | with_reducible ((with_reducible show wpAny _ _ (exec (Stmt.For _ _ _ _ _) _) _ _ _); (k_here; (with_unfolding_all refine' For_turns (by (rename Fr _ _ _ _ => lF'); exact lF') ?_); k_whole)) | walk_at "STEP")
  rename Fr _ _ _ _ => FF
  rename News _ _ _ _ => NN
  refine dictVals (fun m0 n0 r m' nw => nw = n0 ∧ ∃ a t, m' (Str.ofString "nc") = some (.int a t) ∧ (∀ z, z ≠ Str.ofString "calls" → z ≠ Str.ofString "nc" → m' z = m0 z) ∧ a + (r.map (·.2)).sum = (c.map (·.2)).sum) rfl FF NN (.head _) ⟨kvs, hk0, hf0⟩ lo ?_ ⟨rfl, 0, _, rfl, fun _ _ _ => rfl, by simp⟩ ?_ ?_
  · rintro r m' nw ⟨hnw, _⟩; rw [hnw]; exact .tail _ hm
  · rintro k x rest m₁ nw h tk t I oI ⟨hnw, a, ta, ha, hm', hsum⟩ hlt F₁ N₁
    rw [map_form1 ha hm'] at F₁
    rw [hnw] at N₁
    clear FF NN
    (try dsimp only)
    (repeat' first | with_reducible ((with_reducible show wpAny _ _ (exec (Stmt.For _ _ _ _ _) _) _ _ _); (k_here; (with_unfolding_all refine' For_turns (by (rename Fr _ _ _ _ => lF'); exact lF') ?_); k_whole)) | walk_at "STEP")
    all_goals
      rename Fr _ _ _ _ => FE
      rename News _ _ _ _ => NE
      exact turn_next FE NE (ne_of_allLt hlt) ⟨rfl, _, _, rfl, fun z h1 h2 => by simp [h1, h2], by rw [← hsum]; simp; lia⟩
  · rintro m₁ nw h tk ⟨hnw, a, ta, ha, hm', hsum⟩ F₁ N₁
    rw [map_form1 ha hm'] at F₁
    rw [hnw] at N₁
    clear FF NN
    (repeat' first | with_reducible ((with_reducible show wpAny _ _ (exec (Stmt.For _ _ _ _ _) _) _ _ _); (k_here; (with_unfolding_all refine' For_turns (by (rename Fr _ _ _ _ => lF'); exact lF') ?_); k_whole)) | walk_at "STEP")
    all_goals exact hret _ _ _ news (by k_asm) (cb_drop (by assumption) (by lcg_sub)) ⟨rfl, isI (by simpa using hsum)⟩
end
section
-- AddC
noncomputable def putAll (ct : List (Int × Int)) : List (Int × Int) := ct.foldl (fun acc p => kdfPut acc p.1 p.2) []
noncomputable def addOne (acc : List (Int × Int)) (p : Int × Int) : List (Int × Int) := kdfPut acc p.1 (if kdfHas acc p.1 then kdfLook acc p.1 0 + p.2 else p.2)
noncomputable def addC (ct cu : List (Int × Int)) : List (Int × Int) := cu.foldl addOne (putAll ct)

set_option maxRecDepth 100000 in
set_option maxHeartbeats 2000000 in
theorem c_addc (prog : Program) (w : World) (news : List (Addr × Obj)) (d e : Addr) (od oe : Obj) (c f : List (Int × Int)) (hm : (d, od) ∈ news) (hc : IsD prog w od c) (lo : (d == sysModules) = false)
   (hme : (e, oe) ∈ news) (he : IsD prog w oe f) (loe : (e == sysModules) = false) (hsz : c.length + f.length ≤ 1000) :
   Con prog w (KF w.params) 1 8 (call (.ref 105) [.ref d, .ref e]) news (fun r nw => ∃ D o, r = .ref D ∧ nw = (D, o) :: news ∧ IsD prog w o (addC c f) ∧ (D == sysModules) = false ∧ AllLt D news) := by
  obtain ⟨kvs, hk0, hf0⟩ := hc
  obtain ⟨kve, hke, hfe⟩ := he
  intro p loose mean mg mb dp un gd cn cs a ccd cl outer A₀ base h₀ L m s Q E B F X N T hk hd hu hret
  refine wpAny_call ?_
  k_dflt (refine' code_def (binds := [(Str.ofString "target", .ref d), (Str.ofString "source", .ref e)]) ?k1 ?k2 ?k3 ?k4 ?k5 ?kA ?kF ?kK ?k6 ?k7 ?k8 ?k9 ?kB ?_ ?c2 ?c3 ?c4 ?c5; (case kA => exact rfl); (case kF => exact rfl); (case kK => assumption); (case k1 => k_asm); (case k2 => k_asm); (case k3 => k_asm); (case k4 => k_asm); (case k5 => k_asm); (case k6 => k_is); (case k7 => k_is); (case k8 => ktr_room); (case k9 => exact BindsTo.of_eq rfl); (case c5 => decide); (case kB => exact locs rfl); (case c2 => exact rfl); (case c3 => exact rfl); (case c4 => exact rfl); k_whole; intro g' L' h' FG' F' N' B' X' T'; (try dsimp only); (try k_lift B'); (try k_fold))
  (repeat' first | with_reducible ((with_reducible show wpAny _ _ (compareOp CmpOp.In (Value.int _ _) (Value.ref _)) _ _ _); (k_here; k_dflt (refine kdf_in (by k_tabat) ?_))) | with_reducible (k_here; (with_reducible show wpAny _ _ (setItem (Value.ref _) (Value.int _ _) (Value.int _ _)) _ _ _); k_dflt (refine' kdf_setItem ?F ?N ?U ?d ?f ?z ?_; (case F => k_asm); (case N => k_asm); (case U => k_updF); (case d => k_asm); (case f => k_asm); (case z => lia)); intro h' o' kvs' F' N' hd' hf'; (try dsimp only at N'); revert h' o' kvs' F' N' hd' hf'; intros) | with_reducible ((with_reducible show wpAny _ _ (exec (Stmt.For _ _ _ _ _) _) _ _ _); (k_here; (with_unfolding_all refine' For_turns (by (rename Fr _ _ _ _ => lF'); exact lF') ?_); k_whole)) | with_reducible ((with_reducible show wpAny _ _ (getItem (Value.ref _) (Value.int _ _)) _ _ _); (k_here; k_dflt (refine d_getItem (by k_tabat) (by assumption) ?_); intro _)) | walk_at "STEP")
  rename_i D hD1 oD l1D loD hsD fsD hiD fiD h2 lF2 N2 vw h3 FF NN l3
  refine dictItems (fun m0 n0 r m' nw => ∃ oA acc, nw = (vw, { cls := .type "dict_items", data := .fields #[.ref d] }) :: (D, oA) :: news ∧ IsD prog w oA acc ∧ (∀ z, z ≠ Str.ofString "func" → z ≠ Str.ofString "caller" → m' z = m0 z) ∧ r.foldl (fun acc p => kdfPut acc p.1 p.2) acc = putAll c ∧ acc.length + r.length ≤ c.length) rfl FF NN (.head _) ⟨kvs, hk0, hf0⟩ lo ?_ ⟨oD, [], rfl, ⟨[], hiD, fiD⟩, fun _ _ _ => rfl, rfl, by simp⟩ ?_ ?_
  · rintro r m' nw ⟨oA, acc, hnw, _⟩; rw [hnw]; exact .tail _ (.tail _ hm)
  · rintro k x rest m₁ nw h tk t u I oI T' ⟨oA, acc, hnw, ⟨kva, hka, hfa⟩, hm', hacc, hlen⟩ hlt hT F₁ N₁
    rw [map_form2 hm'] at F₁
    rw [hnw] at N₁
    simp only [List.length_cons] at hlen
    clear FF NN lF2 N2 hsD fsD
    obtain ⟨hI1, hI2, hI3⟩ := lt2 hlt
    (try dsimp only)
    (repeat' first | with_reducible ((with_reducible show wpAny _ _ (compareOp CmpOp.In (Value.int _ _) (Value.ref _)) _ _ _); (k_here; k_dflt (refine kdf_in (by k_tabat) ?_))) | with_reducible (k_here; (with_reducible show wpAny _ _ (setItem (Value.ref _) (Value.int _ _) (Value.int _ _)) _ _ _); k_dflt (refine' kdf_setItem ?F ?N ?U ?d ?f ?z ?_; (case F => k_asm); (case N => k_asm); (case U => k_updF); (case d => k_asm); (case f => k_asm); (case z => lia)); intro h' o' kvs' F' N' hd' hf'; (try dsimp only at N'); revert h' o' kvs' F' N' hd' hf'; intros) | with_reducible ((with_reducible show wpAny _ _ (exec (Stmt.For _ _ _ _ _) _) _ _ _); (k_here; (with_unfolding_all refine' For_turns (by (rename Fr _ _ _ _ => lF'); exact lF') ?_); k_whole)) | with_reducible ((with_reducible show wpAny _ _ (getItem (Value.ref _) (Value.int _ _)) _ _ _); (k_here; k_dflt (refine d_getItem (by k_tabat) (by assumption) ?_); intro _)) | walk_at "STEP")
    all_goals
      rename Fr _ _ _ _ => FE
      rename News _ _ _ _ => NE
      refine turn_next FE NE (ne_of_allLt hlt) ⟨_, kdfPut acc k x, rfl, ⟨_, by assumption, by assumption⟩, fun z h1 h2 => by simp [h1, h2], hacc, ?_⟩
      have := kdfPut_len acc k x
      lia
  · rintro m₁ nw h tk ⟨oA, acc, hnw, ⟨kva, hka, hfa⟩, hm', hacc, hlen⟩ F₁ N₁
    rw [map_form2 hm'] at F₁
    rw [hnw] at N₁
    have hacc' : acc = putAll c := hacc
    subst hacc'
    clear FF NN lF2 N2 hsD fsD
    (try dsimp only)
    (repeat' first | with_reducible ((with_reducible show wpAny _ _ (compareOp CmpOp.In (Value.int _ _) (Value.ref _)) _ _ _); (k_here; k_dflt (refine kdf_in (by k_tabat) ?_))) | with_reducible (k_here; (with_reducible show wpAny _ _ (setItem (Value.ref _) (Value.int _ _) (Value.int _ _)) _ _ _); k_dflt (refine' kdf_setItem ?F ?N ?U ?d ?f ?z ?_; (case F => k_asm); (case N => k_asm); (case U => k_updF); (case d => k_asm); (case f => k_asm); (case z => lia)); intro h' o' kvs' F' N' hd' hf'; (try dsimp only at N'); revert h' o' kvs' F' N' hd' hf'; intros) | with_reducible ((with_reducible show wpAny _ _ (exec (Stmt.For _ _ _ _ _) _) _ _ _); (k_here; (with_unfolding_all refine' For_turns (by (rename Fr _ _ _ _ => lF'); exact lF') ?_); k_whole)) | with_reducible ((with_reducible show wpAny _ _ (getItem (Value.ref _) (Value.int _ _)) _ _ _); (k_here; k_dflt (refine d_getItem (by k_tabat) (by assumption) ?_); intro _)) | walk_at "STEP")
    rename_i vw2 h3 FF NN l3
    refine dictItems (fun m0 n0 r m' nw => ∃ oA acc, nw = (vw2, { cls := .type "dict_items", data := .fields #[.ref e] }) :: (vw, { cls := .type "dict_items", data := .fields #[.ref d] }) :: (D, oA) :: news ∧ IsD prog w oA acc ∧ (∀ z, z ≠ Str.ofString "func" → z ≠ Str.ofString "caller" → m' z = m0 z) ∧ r.foldl addOne acc = addC c f ∧ acc.length + r.length ≤ c.length + f.length) rfl FF NN (.head _) ⟨kve, hke, hfe⟩ loe ?_ ⟨oA, putAll c, rfl, ⟨kva, hka, hfa⟩, fun _ _ _ => rfl, rfl, by simp at hlen ⊢; lia⟩ ?_ ?_
    · rintro r m' nw ⟨oA, acc, hnw, _⟩; rw [hnw]; exact .tail _ (.tail _ (.tail _ hme))
    · rintro k x rest m₂ nw2 h tk t u I oI T' ⟨oA2, acc, hnw2, ⟨kvb, hkb, hfb⟩, hm2, hacc, hlen⟩ hlt hT F₂ N₂
      rw [map_form2 hm2] at F₂
      rw [hnw2] at N₂
      simp only [List.length_cons] at hlen
      clear FF NN hka hfa
      obtain ⟨hI1, hI2, hI3, hI4⟩ := lt3 hlt
      (try dsimp only)
      (repeat' first | with_reducible ((with_reducible show wpAny _ _ (compareOp CmpOp.In (Value.int _ _) (Value.ref _)) _ _ _); (k_here; k_dflt (refine kdf_in (by k_tabat) ?_))) | with_reducible (k_here; (with_reducible show wpAny _ _ (setItem (Value.ref _) (Value.int _ _) (Value.int _ _)) _ _ _); k_dflt (refine' kdf_setItem ?F ?N ?U ?d ?f ?z ?_; (case F => k_asm); (case N => k_asm); (case U => k_updF); (case d => k_asm); (case f => k_asm); (case z => lia)); intro h' o' kvs' F' N' hd' hf'; (try dsimp only at N'); revert h' o' kvs' F' N' hd' hf'; intros) | with_reducible ((with_reducible show wpAny _ _ (exec (Stmt.For _ _ _ _ _) _) _ _ _); (k_here; (with_unfolding_all refine' For_turns (by (rename Fr _ _ _ _ => lF'); exact lF') ?_); k_whole)) | with_reducible ((with_reducible show wpAny _ _ (getItem (Value.ref _) (Value.int _ _)) _ _ _); (k_here; k_dflt (refine d_getItem (by k_tabat) (by assumption) ?_); intro _)) | walk_at "STEP")
      all_goals
        rename Fr _ _ _ _ => FE
        rename News _ _ _ _ => NE
        have hk' := ‹kdfHas acc k = _›
        refine turn_next FE NE (ne_of_allLt hlt) ⟨_, _, rfl, ⟨_, by assumption, by assumption⟩, fun z h1 h2 => by simp [h1, h2], by rw [← hacc]; simp only [List.foldl_cons, addOne, hk']; rfl, Nat.le_trans (Nat.add_le_add_right (kdfPut_len _ _ _) _) (by lia)⟩
    · rintro m₂ nw2 h tk ⟨oA2, acc, hnw2, ⟨kvb, hkb, hfb⟩, hm2, hacc, hlen⟩ F₂ N₂
      rw [map_form2 hm2] at F₂
      rw [hnw2] at N₂
      have hacc' : acc = addC c f := hacc
      subst hacc'
      clear FF NN hka hfa
      (try dsimp only)
      (repeat' first | with_reducible ((with_reducible show wpAny _ _ (compareOp CmpOp.In (Value.int _ _) (Value.ref _)) _ _ _); (k_here; k_dflt (refine kdf_in (by k_tabat) ?_))) | with_reducible (k_here; (with_reducible show wpAny _ _ (setItem (Value.ref _) (Value.int _ _) (Value.int _ _)) _ _ _); k_dflt (refine' kdf_setItem ?F ?N ?U ?d ?f ?z ?_; (case F => k_asm); (case N => k_asm); (case U => k_updF); (case d => k_asm); (case f => k_asm); (case z => lia)); intro h' o' kvs' F' N' hd' hf'; (try dsimp only at N'); revert h' o' kvs' F' N' hd' hf'; intros) | with_reducible ((with_reducible show wpAny _ _ (exec (Stmt.For _ _ _ _ _) _) _ _ _); (k_here; (with_unfolding_all refine' For_turns (by (rename Fr _ _ _ _ => lF'); exact lF') ?_); k_whole)) | with_reducible ((with_reducible show wpAny _ _ (getItem (Value.ref _) (Value.int _ _)) _ _ _); (k_here; k_dflt (refine d_getItem (by k_tabat) (by assumption) ?_); intro _)) | walk_at "STEP")
      all_goals exact hret _ _ _ ((D, oA2) :: news) (by k_asm) (cb_drop (by assumption) (by lcg_sub)) ⟨D, oA2, rfl, rfl, ⟨kvb, hkb, hfb⟩, loD, allLt_of l1D⟩
end
section
-- TimesB
open PySem.Spec PySem.Calls PyProof.V
section
variable {prog : Program} {w : World} {A : Around} {E : Value → Shared → Prop} {s : Shared} {env : Env} {h₀ : Heap} {x : Str} {body : List Stmt} {Q : Flow → Shared → Prop}
/-- forKeys, the turn for an abstract invariant and an abstract end: short goals, small proofs -/
theorem forKeysA {σ : Type} {d : Addr} {od : Obj} {c : List (Int × Int)} {m₀ : Str → Option Value} {news : List (Addr × Obj)} (Rep : (Str → Option Value) → List (Addr × Obj) → σ → (Str → Option Value) → List (Addr × Obj) → Prop) (K : List (Int × Int) → σ → Prop) (st₀ : σ)
    (hh : A.handled = none) (F : Fr h₀ env.locals s.heap m₀) (N : News h₀ env.locals s.heap news) (hd : IsD prog w od c) (lo : (d == sysModules) = false) (hR : Rep m₀ news st₀ m₀ news) (hK : K c st₀) (hS : ∀ st m nw, Rep m₀ news st m nw → (d, od) ∈ nw)
    (turn : ∀ k y rest st t m₁ nw h tk I oI, K ((k, y) :: rest) st → (k, y) ∈ c → Rep m₀ news st m₁ nw → AllLt I news → (∀ p ∈ nw, p.1 ≠ I) → Fr h₀ env.locals h (fun y => if y = x then some (.int k t) else m₁ y) → News h₀ env.locals h ((I, oI) :: nw) →
      ∀ (J : (Str → Option Value) → List (Addr × Obj) → Prop) (Q' : Flow → Shared → Prop), (∀ m' nw', (∃ st', Rep m₀ news st' m' nw' ∧ K rest st') → J m' nw') → (∀ f s, Q f s → Q' f s) →
      wpAny (model prog w) A (execs body env) (TurnEnd h₀ env.locals I oI J { s with heap := h, toks := tk } Q') E { s with heap := h, toks := tk })
    (done : ∀ st m₁ nw h tk, K [] st → Rep m₀ news st m₁ nw → Fr h₀ env.locals h m₁ → News h₀ env.locals h nw → Q .next { s with heap := h, toks := tk }) :
    wpAny (model prog w) A (pyIter (.ref d)) (fun it s₂ => LoopAtV prog w A h₀ env x body Q E it s₂) E s :=
  forKeys Rep K st₀ hh F N hd lo hR hK hS (fun k y rest st t m₁ nw h tk I oI h1 h2 h3 h4 h5 h6 h7 => turn k y rest st t m₁ nw h tk I oI h1 h2 h3 h4 h5 h6 h7 _ _ (fun _ _ h => h) (fun _ _ h => h)) done
end
theorem cont_abs {M : Model} {A : Around} {E : Value → Shared → Prop} {s : Shared} {t : Sem Flow} {Q : Flow → Shared → Prop} (h : ∀ Q' : Flow → Shared → Prop, (∀ f s, Q f s → Q' f s) → wpAny M A t Q' E s) : wpAny M A t Q E s := h Q fun _ _ h => h
noncomputable def mulS (l r : Int × Int) (acc : List (Int × Int)) : List (Int × Int) := kdfPut acc (l.1 + r.1) (kdfLook acc (l.1 + r.1) 0 + l.2 * r.2)
noncomputable def timesC (cl cr : List (Int × Int)) : List (Int × Int) := cl.foldl (fun acc l => cr.foldl (fun acc r => mulS l r acc) acc) []
set_option maxRecDepth 100000 in
set_option maxHeartbeats 2000000 in
theorem c_times (prog : Program) (w : World) (news : List (Addr × Obj)) (d e : Addr) (od oe : Obj) (c f : List (Int × Int)) (hm : (d, od) ∈ news) (hc : IsD prog w od c) (lo : (d == sysModules) = false)
   (hme : (e, oe) ∈ news) (he : IsD prog w oe f) (loe : (e == sysModules) = false) (hsz : c.length * f.length ≤ 1000000) (hb : ∀ p ∈ c, ∀ q ∈ f, IntMulOk p.2 q.2) :
   Con prog w (KF w.params) 1 8 (call (.ref 146) [.ref d, .ref e]) news (fun r nw => ∃ D o, r = .ref D ∧ nw = (D, o) :: news ∧ IsD prog w o (timesC c f) ∧ (D == sysModules) = false ∧ AllLt D news) := by
  obtain ⟨kvs, hk0, hf0⟩ := hc
  obtain ⟨kve, hke, hfe⟩ := he
  intro p loose mean mg mb dp un gd cn cs a ccd cl outer A₀ base h₀ L m s Q E B F X N T hk hd hu hret
  refine wpAny_call ?_
  k_dflt (refine' code_def (binds := [(Str.ofString "left", .ref d), (Str.ofString "right", .ref e)]) ?k1 ?k2 ?k3 ?k4 ?k5 ?kA ?kF ?kK ?k6 ?k7 ?k8 ?k9 ?kB ?_ ?c2 ?c3 ?c4 ?c5; (case kA => exact rfl); (case kF => exact rfl); (case kK => assumption); (case k1 => k_asm); (case k2 => k_asm); (case k3 => k_asm); (case k4 => k_asm); (case k5 => k_asm); (case k6 => k_is); (case k7 => k_is); (case k8 => ktr_room); (case k9 => exact BindsTo.of_eq rfl); (case c5 => decide); (case kB => exact locs rfl); (case c2 => exact rfl); (case c3 => exact rfl); (case c4 => exact rfl); k_whole; intro g' L' h' FG' F' N' B' X' T'; (try dsimp only); (try k_lift B'); (try k_fold))
  (repeat' first | with_reducible (k_here; (with_reducible show wpAny _ _ (setItem (Value.ref _) (Value.int _ _) (Value.int _ _)) _ _ _); k_dflt (refine' kdf_setItem ?F ?N ?U ?d ?f ?z ?_; (case F => k_asm); (case N => k_asm); (case U => k_updF); (case d => k_asm); (case f => k_asm); (case z => omega)); intro h' o' kvs' F' N' hd' hf'; (try dsimp only at N'); revert h' o' kvs' F' N' hd' hf'; intros) | with_reducible (k_here; (with_reducible show wpAny _ _ (subscriptTail _ _ (Value.ref _) (Value.int _ _)) _ _ _); k_dflt (refine' kdf_item ?k1 ?k2 ?_ ?k3 ?k4; (case k1 => k_tabat); (case k2 => assumption); (case k3 => rfl); (case k4 => (intro _; rfl))); intro _) | with_reducible (k_here; (with_reducible show wpAny _ _ (call (Value.builtin "dict.get") [Value.ref _, Value.int _ _, Value.int _ _]) _ _ _); k_dflt (refine kdf_get2 (by k_tabat) ?_); intro _) | with_reducible (k_here; (with_reducible show wpAny _ _ (getMethod (Value.ref _) (Str.ofString "get") _) _ _ _); k_dflt (refine kdl_method (knd := PySem.intKind _ _) PySem.F.slot_dict_get PySem.F.type_dict_get (by k_asm) (by k_mem) (by k_asm) ?_)) | with_reducible ((with_reducible show wpAny _ _ (binaryOp _ (Value.int _ _) (Value.int _ _)) _ _ _); (k_here; refine PySem.P.mul_int ?_ (by assumption))) | ((fail_if_success (with_reducible show wpAny _ _ (pyIter _) _ _ _)); (first | (k_unfold; (try dsimp only)) | (k_end; wrow_close) | ((with_reducible show wpAny _ _ (exec _ _) _ _ _); refine cont_abs ?_; intro _ _; first | with_reducible ((with_reducible show wpAny _ _ (exec (Stmt.For (Expr.Name _ _) _ _ _ _) _) _ _ _); (with_unfolding_all refine' For_invVF (by (rename Fr _ _ _ _ => lF'); exact lF') ?k1 ?k2 ?_; (case k1 => exact rfl); (case k2 => exact rfl); k_whole)) | walk1) | walk1 | ((rename (∀ (f : Flow) (s : Shared), _ → _) => hq9); with_reducible refine hq9 _ _ ?_; clear hq9; try dsimp only) | dsimp only | (leave1; (try dsimp only)) | fail "no step")))
  rename_i D hD1 oD l1D loD hsD fsD hiD fiD h2 FF NN Q8 hQ8
  clear hsD fsD
  have hnc := IsD.nodup ⟨kvs, hk0, hf0⟩
  have hnf := IsD.nodup ⟨kve, hke, hfe⟩
  refine forKeysA (σ := List (Int × Int)) (fun m0 n0 acc m nw => ∃ oA, nw = (D, oA) :: news ∧ IsD prog w oA acc ∧ (∀ z, z ≠ Str.ofString "one" → z ≠ Str.ofString "other" → m z = m0 z))
    (fun r acc => r.foldl (fun acc l => f.foldl (fun acc r => mulS l r acc) acc) acc = timesC c f ∧ acc.length + r.length * f.length ≤ 1000000) [] rfl FF NN ⟨kvs, hk0, hf0⟩ lo ⟨oD, rfl, ⟨[], hiD, fiD⟩, fun _ _ _ => rfl⟩ ⟨rfl, by simpa using hsz⟩ ?_ ?_ ?_
  · rintro acc m nw ⟨oA, rfl, _⟩; exact .tail _ hm
  · rintro k y rest acc t m₁ nw h tk I oI ⟨hK1, hK2⟩ hmem ⟨oA, hnw, ⟨kva, hka, hfa⟩, hm'⟩ hlt hIoff F₁ N₁ J1 Q1 hJ1 hQ1
    rw [map_form2 hm'] at F₁
    rw [hnw] at N₁
    obtain ⟨hI1, hI2⟩ := lt1 hlt
    obtain ⟨hin1, hlk1⟩ := look_mem hnc hmem
    simp only [List.length_cons, Nat.add_mul, Nat.one_mul] at hK2
    clear FF NN
    (try dsimp only)
    (repeat' first | with_reducible (k_here; (with_reducible show wpAny _ _ (setItem (Value.ref _) (Value.int _ _) (Value.int _ _)) _ _ _); k_dflt (refine' kdf_setItem ?F ?N ?U ?d ?f ?z ?_; (case F => k_asm); (case N => k_asm); (case U => k_updF); (case d => k_asm); (case f => k_asm); (case z => omega)); intro h' o' kvs' F' N' hd' hf'; (try dsimp only at N'); revert h' o' kvs' F' N' hd' hf'; intros) | with_reducible (k_here; (with_reducible show wpAny _ _ (subscriptTail _ _ (Value.ref _) (Value.int _ _)) _ _ _); k_dflt (refine' kdf_item ?k1 ?k2 ?_ ?k3 ?k4; (case k1 => k_tabat); (case k2 => assumption); (case k3 => rfl); (case k4 => (intro _; rfl))); intro _) | with_reducible (k_here; (with_reducible show wpAny _ _ (call (Value.builtin "dict.get") [Value.ref _, Value.int _ _, Value.int _ _]) _ _ _); k_dflt (refine kdf_get2 (by k_tabat) ?_); intro _) | with_reducible (k_here; (with_reducible show wpAny _ _ (getMethod (Value.ref _) (Str.ofString "get") _) _ _ _); k_dflt (refine kdl_method (knd := PySem.intKind _ _) PySem.F.slot_dict_get PySem.F.type_dict_get (by k_asm) (by k_mem) (by k_asm) ?_)) | with_reducible ((with_reducible show wpAny _ _ (binaryOp _ (Value.int _ _) (Value.int _ _)) _ _ _); (k_here; refine PySem.P.mul_int ?_ (by assumption))) | ((fail_if_success (with_reducible show wpAny _ _ (pyIter _) _ _ _)); (first | (k_unfold; (try dsimp only)) | (k_end; wrow_close) | ((with_reducible show wpAny _ _ (exec _ _) _ _ _); refine cont_abs ?_; intro _ _; first | with_reducible ((with_reducible show wpAny _ _ (exec (Stmt.For (Expr.Name _ _) _ _ _ _) _) _ _ _); (with_unfolding_all refine' For_invVF (by (rename Fr _ _ _ _ => lF'); exact lF') ?k1 ?k2 ?_; (case k1 => exact rfl); (case k2 => exact rfl); k_whole)) | walk1) | walk1 | ((rename (∀ (f : Flow) (s : Shared), _ → _) => hq9); with_reducible refine hq9 _ _ ?_; clear hq9; try dsimp only) | dsimp only | (leave1; (try dsimp only)) | fail "no step")))
    rename Fr _ _ _ _ => FF
    rename News _ _ _ _ => NN
    refine forKeysA (σ := List (Int × Int)) (fun m0 n0 ac m nw => ∃ oA, nw = (I, oI) :: (D, oA) :: news ∧ IsD prog w oA ac ∧ (∀ z, z ≠ Str.ofString "other" → m z = m0 z))
      (fun r ac => r.foldl (fun acc r => mulS (k, y) r acc) ac = f.foldl (fun acc r => mulS (k, y) r acc) acc ∧ ac.length + r.length ≤ acc.length + f.length) acc rfl FF NN ⟨kve, hke, hfe⟩ loe ⟨oA, rfl, ⟨kva, hka, hfa⟩, fun _ _ => rfl⟩ ⟨rfl, Nat.le_refl _⟩ ?_ ?_ ?_
    · rintro ac m nw ⟨oA, rfl, _⟩; exact .tail _ (.tail _ hme)
    · rintro k2 y2 rest2 ac t2 m₂ nw2 h2 tk2 I2 oI2 ⟨hK3, hK4⟩ hmem2 ⟨oA2, hnw2, ⟨kvb, hkb, hfb⟩, hm2⟩ hlt2 hIoff2 F₂ N₂ J2 Q2 hJ2 hQ2
      rw [map_form0 hm2] at F₂
      rw [hnw2] at N₂
      obtain ⟨hI3, hI4, hI5⟩ := lt2 hlt2
      obtain ⟨hin2, hlk2⟩ := look_mem hnf hmem2
      simp only [List.length_cons] at hK4
      clear FF NN hka hfa
      have hok : IntMulOk (kdfLook c k 0) (kdfLook f k2 0) := by rw [hlk1, hlk2]; exact hb _ hmem _ hmem2
      (try dsimp only)
      (repeat' first | with_reducible (k_here; (with_reducible show wpAny _ _ (setItem (Value.ref _) (Value.int _ _) (Value.int _ _)) _ _ _); k_dflt (refine' kdf_setItem ?F ?N ?U ?d ?f ?z ?_; (case F => k_asm); (case N => k_asm); (case U => k_updF); (case d => k_asm); (case f => k_asm); (case z => omega)); intro h' o' kvs' F' N' hd' hf'; (try dsimp only at N'); revert h' o' kvs' F' N' hd' hf'; intros) | with_reducible (k_here; (with_reducible show wpAny _ _ (subscriptTail _ _ (Value.ref _) (Value.int _ _)) _ _ _); k_dflt (refine' kdf_item ?k1 ?k2 ?_ ?k3 ?k4; (case k1 => k_tabat); (case k2 => assumption); (case k3 => rfl); (case k4 => (intro _; rfl))); intro _) | with_reducible (k_here; (with_reducible show wpAny _ _ (call (Value.builtin "dict.get") [Value.ref _, Value.int _ _, Value.int _ _]) _ _ _); k_dflt (refine kdf_get2 (by k_tabat) ?_); intro _) | with_reducible (k_here; (with_reducible show wpAny _ _ (getMethod (Value.ref _) (Str.ofString "get") _) _ _ _); k_dflt (refine kdl_method (knd := PySem.intKind _ _) PySem.F.slot_dict_get PySem.F.type_dict_get (by k_asm) (by k_mem) (by k_asm) ?_)) | with_reducible ((with_reducible show wpAny _ _ (binaryOp _ (Value.int _ _) (Value.int _ _)) _ _ _); (k_here; refine PySem.P.mul_int ?_ (by assumption))) | ((fail_if_success (with_reducible show wpAny _ _ (pyIter _) _ _ _)); (first | (k_unfold; (try dsimp only)) | (k_end; wrow_close) | ((with_reducible show wpAny _ _ (exec _ _) _ _ _); refine cont_abs ?_; intro _ _; first | with_reducible ((with_reducible show wpAny _ _ (exec (Stmt.For (Expr.Name _ _) _ _ _ _) _) _ _ _); (with_unfolding_all refine' For_invVF (by (rename Fr _ _ _ _ => lF'); exact lF') ?k1 ?k2 ?_; (case k1 => exact rfl); (case k2 => exact rfl); k_whole)) | walk1) | walk1 | ((rename (∀ (f : Flow) (s : Shared), _ → _) => hq9); with_reducible refine hq9 _ _ ?_; clear hq9; try dsimp only) | dsimp only | (leave1; (try dsimp only)) | fail "no step")))
      all_goals
        rename Fr _ _ _ _ => FE
        rename News _ _ _ _ => NE
        refine turn_next FE NE (ne_of_allLt hlt2) (hJ2 _ _ ⟨mulS (k, y) (k2, y2) ac, ⟨_, rfl, ⟨_, by assumption, by rw [hlk1, hlk2] at *; assumption⟩, fun z h1 => by simp [h1]⟩, hK3, Nat.le_trans (Nat.add_le_add_right (kdfPut_len _ _ _) _) (by omega)⟩)
    · rintro ac m₂ nw2 h2 tk2 ⟨hK3, hK4⟩ ⟨oA2, hnw2, ⟨kvb, hkb, hfb⟩, hm2⟩ F₂ N₂
      rw [map_form0 hm2] at F₂
      rw [hnw2] at N₂
      simp only [List.length_nil, List.foldl_nil] at hK3 hK4
      clear FF NN
      (try dsimp only)
      (repeat' first | with_reducible (k_here; (with_reducible show wpAny _ _ (setItem (Value.ref _) (Value.int _ _) (Value.int _ _)) _ _ _); k_dflt (refine' kdf_setItem ?F ?N ?U ?d ?f ?z ?_; (case F => k_asm); (case N => k_asm); (case U => k_updF); (case d => k_asm); (case f => k_asm); (case z => omega)); intro h' o' kvs' F' N' hd' hf'; (try dsimp only at N'); revert h' o' kvs' F' N' hd' hf'; intros) | with_reducible (k_here; (with_reducible show wpAny _ _ (subscriptTail _ _ (Value.ref _) (Value.int _ _)) _ _ _); k_dflt (refine' kdf_item ?k1 ?k2 ?_ ?k3 ?k4; (case k1 => k_tabat); (case k2 => assumption); (case k3 => rfl); (case k4 => (intro _; rfl))); intro _) | with_reducible (k_here; (with_reducible show wpAny _ _ (call (Value.builtin "dict.get") [Value.ref _, Value.int _ _, Value.int _ _]) _ _ _); k_dflt (refine kdf_get2 (by k_tabat) ?_); intro _) | with_reducible (k_here; (with_reducible show wpAny _ _ (getMethod (Value.ref _) (Str.ofString "get") _) _ _ _); k_dflt (refine kdl_method (knd := PySem.intKind _ _) PySem.F.slot_dict_get PySem.F.type_dict_get (by k_asm) (by k_mem) (by k_asm) ?_)) | with_reducible ((with_reducible show wpAny _ _ (binaryOp _ (Value.int _ _) (Value.int _ _)) _ _ _); (k_here; refine PySem.P.mul_int ?_ (by assumption))) | ((fail_if_success (with_reducible show wpAny _ _ (pyIter _) _ _ _)); (first | (k_unfold; (try dsimp only)) | (k_end; wrow_close) | ((with_reducible show wpAny _ _ (exec _ _) _ _ _); refine cont_abs ?_; intro _ _; first | with_reducible ((with_reducible show wpAny _ _ (exec (Stmt.For (Expr.Name _ _) _ _ _ _) _) _ _ _); (with_unfolding_all refine' For_invVF (by (rename Fr _ _ _ _ => lF'); exact lF') ?k1 ?k2 ?_; (case k1 => exact rfl); (case k2 => exact rfl); k_whole)) | walk1) | walk1 | ((rename (∀ (f : Flow) (s : Shared), _ → _) => hq9); with_reducible refine hq9 _ _ ?_; clear hq9; try dsimp only) | dsimp only | (leave1; (try dsimp only)) | fail "no step")))
      all_goals
        rename Fr _ _ _ _ => FE
        rename News _ _ _ _ => NE
        exact turn_next FE NE (ne_of_allLt hlt) (hJ1 _ _ ⟨ac, ⟨_, rfl, ⟨_, hkb, hfb⟩, fun z h1 h2 => by simp [h1, h2]⟩, by rw [hK3]; exact hK1, by omega⟩)
  · rintro acc m₁ nw h tk ⟨hK1, hK2⟩ ⟨oA, hnw, ⟨kva, hka, hfa⟩, hm'⟩ F₁ N₁
    rw [map_form2 hm'] at F₁
    rw [hnw] at N₁
    have hK1' : acc = timesC c f := hK1
    subst hK1'
    clear FF NN
    (try dsimp only)
    (repeat' first | with_reducible (k_here; (with_reducible show wpAny _ _ (setItem (Value.ref _) (Value.int _ _) (Value.int _ _)) _ _ _); k_dflt (refine' kdf_setItem ?F ?N ?U ?d ?f ?z ?_; (case F => k_asm); (case N => k_asm); (case U => k_updF); (case d => k_asm); (case f => k_asm); (case z => omega)); intro h' o' kvs' F' N' hd' hf'; (try dsimp only at N'); revert h' o' kvs' F' N' hd' hf'; intros) | with_reducible (k_here; (with_reducible show wpAny _ _ (subscriptTail _ _ (Value.ref _) (Value.int _ _)) _ _ _); k_dflt (refine' kdf_item ?k1 ?k2 ?_ ?k3 ?k4; (case k1 => k_tabat); (case k2 => assumption); (case k3 => rfl); (case k4 => (intro _; rfl))); intro _) | with_reducible (k_here; (with_reducible show wpAny _ _ (call (Value.builtin "dict.get") [Value.ref _, Value.int _ _, Value.int _ _]) _ _ _); k_dflt (refine kdf_get2 (by k_tabat) ?_); intro _) | with_reducible (k_here; (with_reducible show wpAny _ _ (getMethod (Value.ref _) (Str.ofString "get") _) _ _ _); k_dflt (refine kdl_method (knd := PySem.intKind _ _) PySem.F.slot_dict_get PySem.F.type_dict_get (by k_asm) (by k_mem) (by k_asm) ?_)) | with_reducible ((with_reducible show wpAny _ _ (binaryOp _ (Value.int _ _) (Value.int _ _)) _ _ _); (k_here; refine PySem.P.mul_int ?_ (by assumption))) | ((fail_if_success (with_reducible show wpAny _ _ (pyIter _) _ _ _)); (first | (k_unfold; (try dsimp only)) | (k_end; wrow_close) | ((with_reducible show wpAny _ _ (exec _ _) _ _ _); refine cont_abs ?_; intro _ _; first | with_reducible ((with_reducible show wpAny _ _ (exec (Stmt.For (Expr.Name _ _) _ _ _ _) _) _ _ _); (with_unfolding_all refine' For_invVF (by (rename Fr _ _ _ _ => lF'); exact lF') ?k1 ?k2 ?_; (case k1 => exact rfl); (case k2 => exact rfl); k_whole)) | walk1) | walk1 | ((rename (∀ (f : Flow) (s : Shared), _ → _) => hq9); with_reducible refine hq9 _ _ ?_; clear hq9; try dsimp only) | dsimp only | (leave1; (try dsimp only)) | fail "no step")))
    all_goals exact hret _ _ _ _ (by k_asm) (by k_asm) ⟨D, oA, rfl, rfl, ⟨kva, hka, hfa⟩, loD, allLt_of l1D⟩
theorem c_timesG (prog : Program) (w : World) (news : List (Addr × Obj)) (d e : Addr) (od oe : Obj) (c f : List (Int × Int)) (hm : (d, od) ∈ news) (hc : IsD prog w od c) (lo : (d == sysModules) = false)
   (hme : (e, oe) ∈ news) (he : IsD prog w oe f) (loe : (e == sysModules) = false) (hsz : c.length * f.length ≤ 1000000) (hb : ∀ p ∈ c, ∀ q ∈ f, IntMulOk p.2 q.2) :
   ConG prog w (KF w.params) 1 8 (call (.ref 146) [.ref d, .ref e]) news (fun P => ∀ D o, IsD prog w o (timesC c f) → (D == sysModules) = false → AllLt D news → P (.ref D) ((D, o) :: news)) :=
  fun p loose mean mg mb dp un gd cn cs a ccd cl outer A₀ base h₀ L m s Q E B F X N T hk hd hu ret => c_times prog w news d e od oe c f hm hc lo hme he loe hsz hb p loose mean mg mb dp un gd cn cs a ccd cl outer A₀ base h₀ L m s Q E B F X N T hk hd hu fun r h' tk' nw F' N' ⟨D, o, e, e2, h1, h2, h3⟩ => by subst e; subst e2; exact ret D o h1 h2 h3 h' tk' F' N'
end
section
-- D3
noncomputable def t0 : List (Int × Int) := [(0, 1), (1, -1), (16, -1)]
set_option maxRecDepth 100000 in
set_option maxHeartbeats 2000000 in
theorem r_d3 {prog : Program} {w : World} {A : Around} {E : Value → Shared → Prop} {s : Shared} {h₀ : Heap} {L : Addr} {m : Str → Option Value} {news : List (Addr × Obj)} {env : Env} {K : Frag} {p : Program} {loose : List Str} {mean : ExcName → Option Value} {mg mb : Str → Option Value} {k1 k2 k3 k4 k5 k6 : Nat} {p0 p1 p2 p3 p4 p5 p6 p7 p8 : Pos} {Q : Value → Shared → Prop} (F : Fr h₀ L s.heap m) (X : K.In h₀) (N : News h₀ L s.heap news) (T : Top p loose mean mg mb h₀)
    (q : ∀ d o h' tk, Fr h₀ L h' m → News h₀ L h' ((d, o) :: news) → AllLt d news → (d == sysModules) = false → IsD prog w o t0 → Q (.ref d) { s with heap := h', toks := tk }) :
    wpAny (model prog w) A (eval (.Dict [some (.Constant (.int 0) k1 p1), some (.Constant (.int 1) k2 p2), some (.Constant (.int 16) k3 p3)] [.Constant (.int 1) k4 p4, .UnaryOp .USub (.Constant (.int 1) k5 p5) p6, .UnaryOp .USub (.Constant (.int 1) k6 p7) p8] p0) env) Q E s := by
  (repeat' first | with_reducible ((with_reducible show wpAny _ _ (eval (Expr.Dict (_ :: _) _ _) _) _ _ _); k_dflt (refine' kdn_eval (knd := PySem.intKind _ _) ?F ?N ?b ?a ?l ?e ?n ?_; (case F => k_asm); (case N => k_asm); (case b => exact Top.nolimit (by k_asm)); (case a => rfl); (case l => rfl); (case e => exact List.cons_ne_nil _ _); (case n => exact Nat.le_of_ble_eq_true rfl)); intro d' h' o' F' N' l1 lo' hd'; (try k_lt l1); revert d' h' o' F' N' l1 lo' hd'; intros) | walk_at "STEP")
  all_goals exact q _ _ _ _ (by k_asm) (by k_asm) (by first | assumption | exact allLt_of (by assumption)) (by assumption) ⟨_, by assumption, by assumption⟩
end
section
-- LoopG
open PyProof.V LCg
section
variable {prog : Program} {w : World} {A : Around} {E : Value → Shared → Prop} {s : Shared} {env : Env} {h₀ : Heap} {L : Addr} {x : Str} {body : List Stmt} {Q : Flow → Shared → Prop}
/-- a loop over a list; each turn may lay new objects -/
theorem forListG {γ σ : Type} {Is : γ → Value → Prop} {xs : List γ} {ax : Addr} {vs : List Value} {k : Nat} {m₀ : Str → Option Value} {news : List (Addr × Obj)} (head : σ → List (Addr × Obj)) (vars : σ → List (Str × Value)) (Inv : Nat → σ → List (Addr × Obj) → Prop) (st0 : σ) (ex0 : List (Addr × Obj))
    (hh : A.handled = none) (F : Fr h₀ env.locals s.heap m₀) (N : News h₀ env.locals s.heap (head st0 ++ (ex0 ++ news))) (hm : (ax, W.listOf vs.toArray k) ∈ news) (hvs : Are Is vs xs) (hv : ∀ p ∈ vars st0, m₀ p.1 = some p.2) (hI : Inv 0 st0 ex0) (hadr : ∀ st, (head st).map (·.1) = (head st0).map (·.1))
    (turn : ∀ i c v st ex m₁ h tk I oI (JJ : Flow → Shared → Prop), xs[i]? = some c → Is c v → Inv i st ex → AllLt I (head st0 ++ (ex0 ++ news)) → (∀ p ∈ head st ++ (ex ++ news), p.1 ≠ I) → Fr h₀ env.locals h (fun y => if y = x then some v else seen (vars st) m₁ y) → News h₀ env.locals h ((I, oI) :: (head st ++ (ex ++ news))) →
      (∀ h' tk' m' st' ex', Fr h₀ env.locals h' m' → News h₀ env.locals h' ((I, oI) :: (head st' ++ ((ex' ++ ex) ++ news))) → (∀ p ∈ ex', @Ne Nat p.1 I) → (∀ p ∈ vars st', m' p.1 = some p.2) → Inv (i + 1) st' (ex' ++ ex) → JJ .next { s with heap := h', toks := tk' }) → (∀ s', JJ .next s' → JJ .cont s') → (∀ v s', Q (.ret v) s' → JJ (.ret v) s') → (∀ s', Q .next s' → JJ .brk s') →
      wpAny (model prog w) A (execs body env) JJ E { s with heap := h, toks := tk })
    (done : ∀ st ex m₁ h tk, Inv xs.length st ex → Fr h₀ env.locals h (seen (vars st) m₁) → News h₀ env.locals h (head st ++ (ex ++ news)) → Q .next { s with heap := h, toks := tk }) :
    wpAny (model prog w) A (pyIter (.ref ax)) (fun it s₂ => LoopAtV prog w A h₀ env x body Q E it s₂) E s := by
  refine iterList hh F N (List.mem_append_right _ (List.mem_append_right _ hm)) fun I fp St o B F1 N1 hlt => ?_
  refine loopV (fun nw => (ax, W.listOf vs.toArray k) ∈ nw) (fun i m nw => ∃ st ex, nw = head st ++ (ex ++ news) ∧ Inv i st ex ∧ ∀ p ∈ vars st, m p.1 = some p.2) B.W B.io B.lf B.nI (ne_of_allLt hlt) B.fpk B.st0 F1 N1 ⟨st0, ex0, rfl, hI, hv⟩ (by rintro i m nw ⟨st, ex, rfl, _⟩; exact List.mem_append_right _ (List.mem_append_right _ hm)) ?_ ?_
  · rintro i v m₁ nw h tk oI hi hP ⟨st, ex, rfl, hInv, hvv⟩ hoff F₁ N₁
    obtain ⟨c, hc, hIs⟩ := hvs.at i v hP
    have e : (fun y => if y = x then some v else m₁ y) = fun y => if y = x then some v else seen (vars st) m₁ y := by rw [← map_seen (vars st) hvv]
    rw [e] at F₁
    refine turn i c v st ex m₁ h tk I oI _ hc hIs hInv hlt hoff F₁ N₁ ?_ ?_ ?_ ?_
    · intro h' tk' m' st' ex' F' N' hne hm' hI'
      refine ⟨h', tk', m', head st' ++ ((ex' ++ ex) ++ news), rfl, F', N', fun p hp => ?_, st', ex' ++ ex, rfl, hI', hm'⟩
      rcases List.mem_append.mp hp with hp | hp
      · have h1 : p.1 ∈ (head st).map (·.1) := by rw [hadr st, ← hadr st']; exact List.mem_map_of_mem hp
        obtain ⟨q, hq, e⟩ := List.mem_map.mp h1
        rw [← e]; exact hoff q (List.mem_append_left _ hq)
      · rw [List.append_assoc] at hp
        rcases List.mem_append.mp hp with hp | hp
        · exact hne p hp
        · exact hoff p (List.mem_append_right _ hp)
    · exact fun _ h => h
    · exact fun _ _ h => h
    · exact fun _ h => h
  · rintro m₁ nw h tk ⟨st, ex, rfl, hInv, hm'⟩ F₁ N₁
    rw [map_seen (vars st) hm'] at F₁
    rw [hvs.length] at hInv
    exact done st ex m₁ h tk hInv F₁ N₁
end
end
section
-- Written
noncomputable def markC (care : Str) (c : Nat) : Str := if (Builtin.Str.occurrences care ⟨#[c]⟩ 0 care.length 1).isEmpty = true then ⟨#[c]⟩ else ("\\" : Str) ++ ⟨#[c]⟩
noncomputable def careC (ws : List Str) (turn k : Int) : Str := nth ["\"\\", (" \n\\" : Str) ++ Txt.slice (nth ws k) none (some 1), nth ws k] ((turn + k).fmod 3)
noncomputable def wPiece (ws : List Str) (turn k : Int) : Str := if (turn + k).fmod 3 = 0 then ("\"" : Str) ++ Txt.join "" ((nth ws k).cps.toList.map (markC (careC ws turn k))) ++ "\"" ++ Txt.mul (nth [" ", "\n", "\t ", "\r\n"] (k.fmod 4)) (k.fmod 2) else Txt.join "" ((nth ws k).cps.toList.map (markC (careC ws turn k))) ++ nth [" ", "\n", "\t ", "\r\n"] (k.fmod 4)
noncomputable def writtenC (ws : List Str) (turn : Int) : Str := (rangeKs 0 ws.length).foldl (fun acc k => acc ++ wPiece ws turn k) ""
theorem markC_len (care : Str) (c : Nat) : (markC care c).length ≤ 2 := by
  unfold markC
  split
  · exact Nat.le_succ 1
  · rw [Str.length_append]; exact Nat.le_refl 2
section
variable {prog : Program} {w : World} {A : Around} {E : Value → Shared → Prop} {s : Shared} {h₀ : Heap} {L d : Addr} {news : List (Addr × Obj)} {value slice : Expr} {vs : List Value} {ss : List Str} {k : Nat} {i : Int} {u : Tok} {Q : Value → Shared → Prop}
theorem r_itemW (N : News h₀ L s.heap news) (hm : (d, W.listOf vs.toArray k) ∈ news) (hvs : Are IsStr vs ss) (h0 : 0 ≤ i) (hi : i < ss.length) (hl : ss.length ≤ 1000000) (q : ∀ y t, y = nth ss i → Q (.str y t) s)
    (hs : subscripted slice false (.ref d) (.int i u) = operate [.ref d, .int i u] (getItem (.ref d) (.int i u)) := by with_unfolding_all rfl) (hg : ∀ r, letTemporaryGo value (.ref d) r = pure () := by intro _; with_unfolding_all rfl) :
    wpAny (model prog w) A (subscriptTail value slice (.ref d) (.int i u)) Q E s := r_itemS N hm hvs h0 hi hl (fun t => q _ t rfl) hs hg
theorem r_itemV {n : Nat} (N : News h₀ L s.heap news) (hm : (d, W.listOf vs.toArray k) ∈ news) (hvs : Are IsStr vs ss) (h0 : 0 ≤ i) (hi : i < ss.length) (hl : ss.length ≤ 1000000) (hn : ∀ y ∈ ss, y.length ≤ n) (q : ∀ y t, y = nth ss i → y.length ≤ n → Q (.str y t) s)
    (hs : subscripted slice false (.ref d) (.int i u) = operate [.ref d, .int i u] (getItem (.ref d) (.int i u)) := by with_unfolding_all rfl) (hg : ∀ r, letTemporaryGo value (.ref d) r = pure () := by intro _; with_unfolding_all rfl) :
    wpAny (model prog w) A (subscriptTail value slice (.ref d) (.int i u)) Q E s := r_itemS N hm hvs h0 hi hl (fun t => q _ t rfl (nth_len hn i)) hs hg
theorem r_joinV {x : Str} {t : Tok} (N : News h₀ L s.heap news) (hm : (d, W.listOf vs.toArray k) ∈ news) (hys : StrsAre vs ss) (hsep : x.length ≤ 16) (hw : (ss.map (·.length)).sum + ss.length ≤ 1048576 ∧ (Txt.join x ss).length ≤ 20)
    (q : ∀ y t' k, y = Txt.join x ss → y.length ≤ 20 → Q (.str y t') { s with toks := k }) : wpAny (model prog w) A (call (.builtin "str.join") [.str x t, .ref d]) Q E s := r_join N hm hys hsep hw.1 fun t' k => q _ t' k rfl hw.2
end
theorem wr_mul {prog : Program} {w : World} {A : Around} {E : Value → Shared → Prop} {s : Shared} {x : Str} {e : Int} {t u : Tok} {Q : Value → Shared → Prop} (hx : x.length ≤ 10) (h0 : 0 ≤ e) (h1 : e < 2) (q : ∀ z t k, z = Txt.mul x e → z.length ≤ 10 → Q (.str z t) { s with toks := k }) : wpAny (model prog w) A (binaryOp .Mult (.str x t) (.int e u)) Q E s :=
  SB.mul (mulOk_of 16 1048576 (by lia) (by lia) (by lia) (by decide) (by decide)) fun t k => q _ t k rfl (Nat.le_trans (len_mul_leN (N := 1) hx (by lia)) (by decide))
theorem wr_step (ws : List Str) (turn : Int) (i : Nat) : (rangeKs 0 (i + 1)).foldl (fun acc k => acc ++ wPiece ws turn k) "" = (rangeKs 0 i).foldl (fun acc k => acc ++ wPiece ws turn k) "" ++ wPiece ws turn (i : Nat) := by
  unfold rangeKs
  rw [List.range_succ, List.map_append, List.foldl_append]
  show _ ++ wPiece ws turn (0 + (i : Int)) = _
  rw [Int.zero_add]
theorem wr_join {y cv : Str} (hy : y.length ≤ 10) : ((y.cps.toList.map (markC cv)).map (·.length)).sum + (y.cps.toList.map (markC cv)).length ≤ 1048576 ∧ (Txt.join "" (y.cps.toList.map (markC cv))).length ≤ 20 := by
  have hl : (y.cps.toList.map (markC cv)).length ≤ 10 := by rw [List.length_map]; exact hy
  have h2 := weight_le (ss := y.cps.toList.map (markC cv)) (n := 2) fun y hy => by obtain ⟨c, _, rfl⟩ := List.mem_map.mp hy; exact markC_len _ _
  refine ⟨by lia, ?_⟩
  have h1 := size_glued ("" : Str) (y.cps.toList.map (markC cv))
  have h3 : ("" : Str).length = 0 := rfl
  rw [h3, Nat.mul_zero, Nat.add_zero] at h1
  show (Builtin.Str.glued _ _).length ≤ _
  rw [h1]
  lia
theorem wr_way0 {ws : List Str} {turn k : Int} {mk gp z cv y2 y3 y4 : Str} (h2 : y2 = nth ws k) (h3 : y3 = nth ws k) (hc : cv = nth ["\"\\", (" \n\\" : Str) ++ Txt.slice y2 none (some 1), y3] ((turn + k).fmod 3)) (h4 : y4 = nth ws k)
    (hm : mk = Txt.join "" (y4.cps.toList.map (markC cv))) (hg : gp = nth [" ", "\n", "\t ", "\r\n"] (k.fmod 4)) (hz : z = Txt.mul gp (k.fmod 2)) (hw : (turn + k).fmod 3 = 0) : ("\"" : Str) ++ mk ++ "\"" ++ z = wPiece ws turn k := by
  subst hz hg hm h4 hc h3 h2; exact (if_pos hw).symm
theorem wr_way1 {ws : List Str} {turn k : Int} {mk gp cv y2 y3 y4 : Str} (h2 : y2 = nth ws k) (h3 : y3 = nth ws k) (hc : cv = nth ["\"\\", (" \n\\" : Str) ++ Txt.slice y2 none (some 1), y3] ((turn + k).fmod 3)) (h4 : y4 = nth ws k)
    (hm : mk = Txt.join "" (y4.cps.toList.map (markC cv))) (hg : gp = nth [" ", "\n", "\t ", "\r\n"] (k.fmod 4)) (hw : (turn + k).fmod 3 ≠ 0) : mk ++ gp = wPiece ws turn k := by
  subst hg hm h4 hc h3 h2; exact (if_neg hw).symm
theorem elt_cont {M : Model} {A : Around} {E : Value → Shared → Prop} {s : Shared} {t : Sem Value} {Q : Value → Shared → Prop} (h : ∀ Q' : Value → Shared → Prop, (∀ f s, Q f s → Q' f s) → wpAny M A t Q' E s) : wpAny M A t Q E s := h Q fun _ _ h => h
theorem wr_facts (turn : Int) (i : Nat) : 0 ≤ (turn + (i : Nat)).fmod 3 ∧ (turn + (i : Nat)).fmod 3 < 3 ∧ 0 ≤ ((i : Nat) : Int).fmod 4 ∧ ((i : Nat) : Int).fmod 4 < 4 ∧ 0 ≤ ((i : Nat) : Int).fmod 2 ∧ ((i : Nat) : Int).fmod 2 < 2 :=
  ⟨Int.fmod_nonneg_of_pos _ (by decide), Int.fmod_lt_of_pos _ (by decide), Int.fmod_nonneg_of_pos _ (by decide), Int.fmod_lt_of_pos _ (by decide), Int.fmod_nonneg_of_pos _ (by decide), Int.fmod_lt_of_pos _ (by decide)⟩
theorem wr_vars {a b c : Value} {m : Str → Option Value} {x y z : Str} (h1 : m x = some a) (h2 : m y = some b) (h3 : m z = some c) : ∀ p ∈ [(x, a), (y, b), (z, c)], m p.1 = some p.2 := List.forall_mem_cons.mpr ⟨h1, List.forall_mem_cons.mpr ⟨h2, List.forall_mem_cons.mpr ⟨h3, fun _ h => nomatch h⟩⟩⟩
set_option maxRecDepth 100000 in
set_option maxHeartbeats 2000000 in
theorem c_writtenG (prog : Program) (w : World) (news : List (Addr × Obj)) (ax : Addr) (vs : List Value) (kv : Nat) (ws : List Str) (turn : Int) (t1 : Tok) (hma : (ax, W.listOf vs.toArray kv) ∈ news) (hvs : Are IsStr vs ws) (hl : ws.length ≤ 10) (hws : ∀ y ∈ ws, y.length ≤ 10) :
   ConG prog w (KF w.params) 2 16 (call (.ref 124) [.ref ax, .int turn t1]) news (fun P => ∀ t, P (.str (writtenC ws turn) t) news) := by
  intro p loose mean mg mb dp un gd cn cs a ccd cl outer A₀ base h₀ L m s Q E B F X N T hk hd hu hret
  refine wpAny_call ?_
  k_dflt (refine' code_defC (binds := [(Str.ofString "words", .ref ax), (Str.ofString "turn", .int turn t1)]) ?k1 ?k2 ?k3 ?k4 ?k5 ?kA ?kF ?kK ?k6 ?k7 ?k8 ?k9 ?kB ?kD ?_ ?c2 ?c3 ?c4; (case kA => exact rfl); (case kF => exact rfl); (case kK => assumption); (case k1 => k_asm); (case k2 => k_asm); (case k3 => k_asm); (case k4 => k_asm); (case k5 => k_asm); (case k6 => k_is); (case k7 => k_is); (case k8 => ktr_room); (case k9 => exact BindsTo.of_eq rfl); (case kB => exact rfl); (case kD => decide +kernel); (case c2 => exact rfl); (case c3 => exact rfl); (case c4 => exact rfl); k_whole; intro g' L' h' tk' cells' FG' F' N' Y' B' X' T' l1'; k_cells Y'; (try simp only [List.cons_append, List.nil_append] at N'); (try dsimp only); (try k_lift B'); (try k_fold))
  have l1 := allLt_of l1'
  clear l1'
  have hvl := hvs.length
  have hvl4 : vs.length ≤ 1000000 := by lia
  have hws6 : ws.length ≤ 1000000 := by lia
  (repeat' first | with_reducible ((with_reducible show wpAny _ _ (call (Value.builtin "len") [Value.ref _]) _ _ _); k_dflt (refine' r_len ?N ?m ?z ?_; (case N => k_asm); (case m => k_mem); (case z => first | assumption | lia))) | with_reducible ((with_reducible show wpAny _ _ (subscriptTail _ _ (Value.ref _) (Value.int _ _)) _ _ _); k_dflt (first | (refine' r_itemV (n := 10) ?wN ?wm ?wh ?wa ?wb ?wl ?wn ?_; (case wN => k_asm); (case wm => k_mem); (case wh => first | assumption | exact .cons ⟨_, rfl⟩ (.cons ⟨_, rfl⟩ (.cons ⟨_, rfl⟩ (.cons ⟨_, rfl⟩ .nil)))); (case wa => first | assumption | exact Int.natCast_nonneg _); (case wb => first | assumption | exact Int.ofNat_lt.mpr (by assumption) | exact w2 | exact w4); (case wl => first | assumption | exact Nat.le_of_ble_eq_true rfl); (case wn => first | assumption | decide)) | (refine' r_itemW ?wN ?wm ?wh ?wa ?wb ?wl ?_; (case wN => k_asm); (case wm => k_mem); (case wh => exact .cons ⟨_, rfl⟩ (.cons ⟨_, rfl⟩ (.cons ⟨_, rfl⟩ .nil))); (case wa => first | assumption | exact Int.natCast_nonneg _); (case wb => first | assumption | exact Int.ofNat_lt.mpr (by assumption) | exact w2 | exact w4); (case wl => first | assumption | exact Nat.le_of_ble_eq_true rfl))); intros) | with_reducible ((with_reducible show wpAny _ _ (binaryOp _ (Value.str _ _) (Value.str _ _)) _ _ _); k_dflt (refine PyProof.Rows.add_str ?_ (by rw [sizeLine_eq]; (try simp only [Str.length_append]); lia)); intro _ _) | with_reducible ((with_reducible show wpAny _ _ (binaryOp _ (Value.str _ _) (Value.int _ _)) _ _ _); k_dflt (refine wr_mul (by assumption) w5 w6 ?_); intros) | with_reducible ((with_reducible show wpAny _ _ (inplaceOp _ (Value.str _ _) (Value.str _ _)) _ _ _); k_dflt (refine PyProof.Rows.iadd_str ?_ (by rw [sizeLine_eq]; (try simp only [Str.length_append]); lia)); intro _ _) | with_reducible ((with_reducible show wpAny _ _ (call (Value.builtin "str.join") [Value.str _ _, Value.ref _]) _ _ _); k_dflt (refine' r_joinV ?wN ?wm ?ws ?wd ?ww ?_; (case wN => k_asm); (case wm => k_mem); (case ws => assumption); (case wd => decide); (case ww => assumption)); intros) | with_reducible ((with_reducible show wpAny _ _ (eval (Expr.ListComp _ [⟨_, _, [], _⟩] _ _) _) _ _ _); k_dflt (refine listComp (by k_asm) (by rfl) (by decide) (by rfl) (by decide) (by rfl) ?_)) | (walk_at "STEP" <;> (try dsimp only)))
  rename_i h5 FA NA hE tkE ta ua va hR FF NN hK5
  clear hK5 FA NA
  rw [hvl] at hR
  have hcl : ∀ p ∈ news, p.1 ≠ L' + 1 := ne_le l1 (Nat.le_succ _)
  refine forRangeE (τ := Str × Tok × Obj) (n := ws.length) (fun _ t => (L' + 1, t.2.2) :: news) (fun _ t => [(Str.ofString "text", .str t.1 t.2.1), (Str.ofString "words", .ref ax), (Str.ofString "turn", .int turn t1)])
    (fun i t => t.1 = (rangeKs 0 i).foldl (fun acc k => acc ++ wPiece ws turn k) "" ∧ t.1.length ≤ i * 40 ∧ ∃ ov, t.2.2.data = .cell ov) ("", tk', _) rfl FF NN hR (Nat.le_trans hl (by decide)) (List.forall_mem_cons.mpr ⟨rfl, List.forall_mem_cons.mpr ⟨rfl, List.forall_mem_cons.mpr ⟨rfl, fun _ h => nomatch h⟩⟩⟩) ⟨rfl, Nat.zero_le _, _, by assumption⟩ (fun _ _ => rfl) ?_ ?_
  · rintro i ⟨st, tt, oc⟩ t m₁ h tk I oI JJ hi hlt ⟨hst, hsl, ov, hoc⟩ F₁ N₁ q1 _ _ _
    obtain ⟨w1, w2, w3, w4, w5, w6⟩ := wr_facts turn i
    obtain ⟨hI1, hI2⟩ := lt1 hlt
    clear FF NN hR hlt
    simp only [seen, List.foldr] at F₁
    dsimp only at *
    (repeat' first | with_reducible ((with_reducible show wpAny _ _ (call (Value.builtin "len") [Value.ref _]) _ _ _); k_dflt (refine' r_len ?N ?m ?z ?_; (case N => k_asm); (case m => k_mem); (case z => first | assumption | lia))) | with_reducible ((with_reducible show wpAny _ _ (subscriptTail _ _ (Value.ref _) (Value.int _ _)) _ _ _); k_dflt (first | (refine' r_itemV (n := 10) ?wN ?wm ?wh ?wa ?wb ?wl ?wn ?_; (case wN => k_asm); (case wm => k_mem); (case wh => first | assumption | exact .cons ⟨_, rfl⟩ (.cons ⟨_, rfl⟩ (.cons ⟨_, rfl⟩ (.cons ⟨_, rfl⟩ .nil)))); (case wa => first | assumption | exact Int.natCast_nonneg _); (case wb => first | assumption | exact Int.ofNat_lt.mpr (by assumption) | exact w2 | exact w4); (case wl => first | assumption | exact Nat.le_of_ble_eq_true rfl); (case wn => first | assumption | decide)) | (refine' r_itemW ?wN ?wm ?wh ?wa ?wb ?wl ?_; (case wN => k_asm); (case wm => k_mem); (case wh => exact .cons ⟨_, rfl⟩ (.cons ⟨_, rfl⟩ (.cons ⟨_, rfl⟩ .nil))); (case wa => first | assumption | exact Int.natCast_nonneg _); (case wb => first | assumption | exact Int.ofNat_lt.mpr (by assumption) | exact w2 | exact w4); (case wl => first | assumption | exact Nat.le_of_ble_eq_true rfl))); intros) | with_reducible ((with_reducible show wpAny _ _ (binaryOp _ (Value.str _ _) (Value.str _ _)) _ _ _); k_dflt (refine PyProof.Rows.add_str ?_ (by rw [sizeLine_eq]; (try simp only [Str.length_append]); lia)); intro _ _) | with_reducible ((with_reducible show wpAny _ _ (binaryOp _ (Value.str _ _) (Value.int _ _)) _ _ _); k_dflt (refine wr_mul (by assumption) w5 w6 ?_); intros) | with_reducible ((with_reducible show wpAny _ _ (inplaceOp _ (Value.str _ _) (Value.str _ _)) _ _ _); k_dflt (refine PyProof.Rows.iadd_str ?_ (by rw [sizeLine_eq]; (try simp only [Str.length_append]); lia)); intro _ _) | with_reducible ((with_reducible show wpAny _ _ (call (Value.builtin "str.join") [Value.str _ _, Value.ref _]) _ _ _); k_dflt (refine' r_joinV ?wN ?wm ?ws ?wd ?ww ?_; (case wN => k_asm); (case wm => k_mem); (case ws => assumption); (case wd => decide); (case ww => assumption)); intros) | with_reducible ((with_reducible show wpAny _ _ (eval (Expr.ListComp _ [⟨_, _, [], _⟩] _ _) _) _ _ _); k_dflt (refine listComp (by k_asm) (by rfl) (by decide) (by rfl) (by decide) (by rfl) ?_)) | (walk_at "STEP" <;> (try dsimp only)))
    rename_i h1 y2 tt2 e2 b2 h2 t3 k3 b3 t4 k4 b4 y3 t5 e3 b5 dl hh3 l2 cv tc ec h4 oc2 FF NN hoc2 y4 ty e4 b6
    clear b2 b3 b4 b5 hoc
    refine compStr (markC cv) (Out := IsStr) rfl (by k_asm) (by k_asm) (Nat.le_trans b6 (by decide)) ?_ ?_
    · intro c u I2 oI2 C oC D m₂ h2 tk2 E2 ys2 hc hC hx F2 N2
      clear q1 hsl hst hret
      refine elt_cont ?_
      intro Q9 hQ9
      dsimp only
      (repeat' first | with_reducible ((with_reducible show wpAny _ _ (eval (Expr.ListComp _ [⟨_, _, [], _⟩] _ _) _) _ _ _); k_dflt (refine listComp (by k_asm) (by rfl) (by decide) (by rfl) (by decide) (by rfl) ?_)) | walk_at "STEP")
      · exact hQ9 _ _ (eltEnd (by k_asm) N2 subs_refl (isS (Eq.symm (if_pos (by assumption)))))
      · exact hQ9 _ _ (eltEnd (by k_asm) N2 subs_refl (isS (Eq.symm (if_neg (Bool.eq_false_iff.mp (by assumption))))))
    · intro hp ys hy
      have hy' := strsOf hy
      have hj := wr_join (cv := cv) b6
      have hq1 : ("\"" : Str).length = 1 := rfl
      have hst9 : st.length ≤ 400 := by lia
      clear NN FF
      dsimp only
      (repeat' first | with_reducible ((with_reducible show wpAny _ _ (call (Value.builtin "len") [Value.ref _]) _ _ _); k_dflt (refine' r_len ?N ?m ?z ?_; (case N => k_asm); (case m => k_mem); (case z => first | assumption | lia))) | with_reducible ((with_reducible show wpAny _ _ (subscriptTail _ _ (Value.ref _) (Value.int _ _)) _ _ _); k_dflt (first | (refine' r_itemV (n := 10) ?wN ?wm ?wh ?wa ?wb ?wl ?wn ?_; (case wN => k_asm); (case wm => k_mem); (case wh => first | assumption | exact .cons ⟨_, rfl⟩ (.cons ⟨_, rfl⟩ (.cons ⟨_, rfl⟩ (.cons ⟨_, rfl⟩ .nil)))); (case wa => first | assumption | exact Int.natCast_nonneg _); (case wb => first | assumption | exact Int.ofNat_lt.mpr (by assumption) | exact w2 | exact w4); (case wl => first | assumption | exact Nat.le_of_ble_eq_true rfl); (case wn => first | assumption | decide)) | (refine' r_itemW ?wN ?wm ?wh ?wa ?wb ?wl ?_; (case wN => k_asm); (case wm => k_mem); (case wh => exact .cons ⟨_, rfl⟩ (.cons ⟨_, rfl⟩ (.cons ⟨_, rfl⟩ .nil))); (case wa => first | assumption | exact Int.natCast_nonneg _); (case wb => first | assumption | exact Int.ofNat_lt.mpr (by assumption) | exact w2 | exact w4); (case wl => first | assumption | exact Nat.le_of_ble_eq_true rfl))); intros) | with_reducible ((with_reducible show wpAny _ _ (binaryOp _ (Value.str _ _) (Value.str _ _)) _ _ _); k_dflt (refine PyProof.Rows.add_str ?_ (by rw [sizeLine_eq]; (try simp only [Str.length_append]); lia)); intro _ _) | with_reducible ((with_reducible show wpAny _ _ (binaryOp _ (Value.str _ _) (Value.int _ _)) _ _ _); k_dflt (refine wr_mul (by assumption) w5 w6 ?_); intros) | with_reducible ((with_reducible show wpAny _ _ (inplaceOp _ (Value.str _ _) (Value.str _ _)) _ _ _); k_dflt (refine PyProof.Rows.iadd_str ?_ (by rw [sizeLine_eq]; (try simp only [Str.length_append]); lia)); intro _ _) | with_reducible ((with_reducible show wpAny _ _ (call (Value.builtin "str.join") [Value.str _ _, Value.ref _]) _ _ _); k_dflt (refine' r_joinV ?wN ?wm ?ws ?wd ?ww ?_; (case wN => k_asm); (case wm => k_mem); (case ws => assumption); (case wd => decide); (case ww => assumption)); intros) | with_reducible ((with_reducible show wpAny _ _ (eval (Expr.ListComp _ [⟨_, _, [], _⟩] _ _) _) _ _ _); k_dflt (refine listComp (by k_asm) (by rfl) (by decide) (by rfl) (by decide) (by rfl) ?_)) | (walk_at "STEP" <;> (try dsimp only)))
      · rename Fr _ _ _ _ => FE
        rename News _ _ _ _ => NE
        refine q1 _ _ _ (_, _, _) FE (cb_drop NE (by lcg_sub)) (List.forall_mem_cons.mpr ⟨rfl, List.forall_mem_cons.mpr ⟨rfl, List.forall_mem_cons.mpr ⟨rfl, fun _ h => nomatch h⟩⟩⟩) ⟨?_, ?_, _, hoc2⟩
        · rw [wr_step, ← hst]
          exact congrArg (fun x => st ++ x) (wr_way0 e2 e3 ec e4 (by assumption) (by assumption) (by assumption) (by assumption))
        · simp only [Str.length_append]; lia
      · rename Fr _ _ _ _ => FE
        rename News _ _ _ _ => NE
        refine q1 _ _ _ (_, _, _) FE (cb_drop NE (by lcg_sub)) (List.forall_mem_cons.mpr ⟨rfl, List.forall_mem_cons.mpr ⟨rfl, List.forall_mem_cons.mpr ⟨rfl, fun _ h => nomatch h⟩⟩⟩) ⟨?_, ?_, _, hoc2⟩
        · rw [wr_step, ← hst]
          exact congrArg (fun x => st ++ x) (wr_way1 e2 e3 ec e4 (by assumption) (by assumption) (by assumption))
        · simp only [Str.length_append]; lia
  · rintro ⟨st, tt, oc⟩ m₁ h tk ⟨hst, _⟩ F₁ N₁
    have e9 : st = writtenC ws turn := hst
    clear FF NN hR
    simp only [seen, List.foldr] at F₁
    dsimp only at *
    (repeat' first | with_reducible ((with_reducible show wpAny _ _ (eval (Expr.ListComp _ [⟨_, _, [], _⟩] _ _) _) _ _ _); k_dflt (refine listComp (by k_asm) (by rfl) (by decide) (by rfl) (by decide) (by rfl) ?_)) | walk_at "STEP")
    rw [e9]
    exact hret _ _ _ (by k_asm) (cb_drop (by assumption) (by lcg_sub))
end
section
-- TCmp
set_option maxRecDepth 100000 in
set_option maxHeartbeats 2000000 in
theorem c_tcinit (prog : Program) (w : World) (news : List (Addr × Obj)) (l : Addr) :
   Con prog w (KF w.params) 2 16 (call (.ref 87) [.ref l]) news (fun r nw => ∃ x dx tk, r = .ref x ∧ nw = (x, instObj 87 dx) :: (dx, dictOf [DictEntry.mk (PyData.keyHash w.params "comp_select_list") (.str "comp_select_list" tk) (.ref l)] 1) :: news ∧ AllLt dx news ∧ @LT.lt Nat _ dx x) := by
  intro p loose mean mg mb dp un gd cn cs a ccd cl outer A₀ base h₀ L m s Q E B F X N T hk hd hu hret
  k_dflt (refine' call_cls ?k1 ?k2 ?k3 ?k4 ?k5 ?k6 ?_; (case k1 => k_asm); (case k2 => k_asm); (case k3 => k_asm); (case k4 => k_is); (case k5 => k_is); (case k6 => k_is); k_whole; intro x' d' h' F' N' l1 l2)
  have l3 := allLt_of l1
  have l4 := l2
  (try k_lt l1)
  (try k_lt2 l2)
  k_dflt (refine' code_def (binds := [(Str.ofString "self", .ref x'), (Str.ofString "comp_select_list", .ref l)]) ?k1 ?k2 ?k3 ?k4 ?k5 ?kA ?kF ?kK ?k6 ?k7 ?k8 ?k9 ?kB ?_ ?c2 ?c3 ?c4 ?c5; (case kA => exact rfl); (case kF => exact rfl); (case kK => assumption); (case k1 => k_asm); (case k2 => k_asm); (case k3 => k_asm); (case k4 => k_asm); (case k5 => k_asm); (case k6 => k_is); (case k7 => k_is); (case k8 => ktr_room); (case k9 => exact BindsTo.of_eq rfl); (case c5 => decide); (case kB => exact locs rfl); (case c2 => exact rfl); (case c3 => exact rfl); (case c4 => exact rfl); k_whole; intro g' L' h' FG' F' N' B' X' T'; (try dsimp only); (try k_lift B'); (try k_fold))
  (repeat' first | with_reducible ((with_reducible show wpAny _ _ (exec (Stmt.For _ _ _ _ _) _) _ _ _); (k_here; (with_unfolding_all refine' For_turns (by (rename Fr _ _ _ _ => lF'); exact lF') ?_); k_whole)) | walk_at "STEP")
  all_goals exact hret _ _ _ _ (by k_asm) (by k_asm) ⟨x', d', _, rfl, rfl, l3, l4⟩
noncomputable def cmpZ (na nb : Int) (ya yb : Str) : Int := if na < nb then -1 else if nb < na then 1 else if ya.cps.toList < yb.cps.toList then -1 else if yb.cps.toList < ya.cps.toList then 1 else 0
noncomputable def tupB (n : Int) (y : Str) (t u : Tok) (k : Nat) : Obj := { cls := .type "tuple", data := .seq #[.int n t, .str y u] k }
noncomputable def tupI (n m : Int) (t u : Tok) (k : Nat) : Obj := { cls := .type "tuple", data := .seq #[.int n t, .int m u] k }
set_option maxRecDepth 100000 in
set_option maxHeartbeats 2000000 in
theorem c_compare (prog : Program) (w : World) (news : List (Addr × Obj)) (x dx l P1 P2 Ta Tb : Addr) (tk t1 t2 t3 t4 t5 t6 t7 t8 : Tok) (kl k1 k2 k3 k4 : Nat) (na nb : Int) (ya yb : Str) (hx : (x, instObj 87 dx) ∈ news) (hdx : (dx, dictOf [DictEntry.mk (PyData.keyHash w.params "comp_select_list") (.str "comp_select_list" tk) (.ref l)] 1) ∈ news)
   (hl : (l, W.listOf #[.ref P1, .ref P2] kl) ∈ news) (hP1 : (P1, tupI 0 1 t1 t2 k1) ∈ news) (hP2 : (P2, tupI 1 1 t3 t4 k2) ∈ news) (hTa : (Ta, tupB na ya t5 t6 k3) ∈ news) (hTb : (Tb, tupB nb yb t7 t8 k4) ∈ news) :
   Con prog w (KF w.params) 2 16 (call (.ref 84) [.ref x, .ref Ta, .ref Tb]) news (fun r nw => nw = news ∧ IsInt (cmpZ na nb ya yb) r) := by
  intro p loose mean mg mb dp un gd cn cs a ccd cl outer A₀ base h₀ L m s Q E B F X N T hk hd hu hret
  refine wpAny_call ?_
  k_dflt (refine' code_def (binds := [(Str.ofString "self", .ref x), (Str.ofString "left", .ref Ta), (Str.ofString "right", .ref Tb)]) ?k1 ?k2 ?k3 ?k4 ?k5 ?kA ?kF ?kK ?k6 ?k7 ?k8 ?k9 ?kB ?_ ?c2 ?c3 ?c4 ?c5; (case kA => exact rfl); (case kF => exact rfl); (case kK => assumption); (case k1 => k_asm); (case k2 => k_asm); (case k3 => k_asm); (case k4 => k_asm); (case k5 => k_asm); (case k6 => k_is); (case k7 => k_is); (case k8 => ktr_room); (case k9 => exact BindsTo.of_eq rfl); (case c5 => decide); (case kB => exact locs rfl); (case c2 => exact rfl); (case c3 => exact rfl); (case c4 => exact rfl); k_whole; intro g' L' h' FG' F' N' B' X' T'; (try dsimp only); (try k_lift B'); (try k_fold))
  (repeat' first | with_reducible ((with_reducible show wpAny _ _ (exec (Stmt.For _ _ _ _ _) _) _ _ _); (k_here; (with_unfolding_all refine' For_turns (by (rename Fr _ _ _ _ => lF'); exact lF') ?_); k_whole)) | walk_at "STEP")
  rename Fr _ _ _ _ => FF
  rename News _ _ _ _ => NN
  refine listTurns (vs := [.ref P1, .ref P2]) (k := kl) (fun r m nw => nw = news ∧ (∀ z, z ∉ [Str.ofString "index", Str.ofString "direction", Str.ofString "l", Str.ofString "r"] → m z = List.lookup z [(Str.ofString "self", Value.ref x), (Str.ofString "left", .ref Ta), (Str.ofString "right", .ref Tb)].reverse) ∧ (r = [.ref P1, .ref P2] ∨ (r = [.ref P2] ∧ ¬ na < nb ∧ ¬ nb < na) ∨ (r = [] ∧ ¬ na < nb ∧ ¬ nb < na ∧ ¬ ya.cps.toList < yb.cps.toList ∧ ¬ yb.cps.toList < ya.cps.toList))) rfl FF NN hl ?_ ⟨rfl, fun _ _ => rfl, .inl rfl⟩ ?_ ?_
  · rintro r m nw ⟨rfl, _⟩; exact hl
  · rintro v rest m₁ nw h tk I oI ⟨hnw, hm', hr⟩ hlt F₁ N₁
    have hw1 : m₁ (Str.ofString "left") = some (.ref Ta) := (hm' (Str.ofString "left") (by decide)).trans rfl
    have hw2 : m₁ (Str.ofString "right") = some (.ref Tb) := (hm' (Str.ofString "right") (by decide)).trans rfl
    rw [map_seen [(Str.ofString "left", .ref Ta), (Str.ofString "right", .ref Tb)] (List.forall_mem_cons.mpr ⟨hw1, List.forall_mem_cons.mpr ⟨hw2, fun p hp => (nomatch hp)⟩⟩)] at F₁
    simp only [seen, List.foldr] at F₁
    rw [hnw] at N₁
    clear FF NN
    have hTP1 : IsTup h P1 _ := News.isTup N₁ (.tail _ hP1)
    have hTP2 : IsTup h P2 _ := News.isTup N₁ (.tail _ hP2)
    rcases hr with hr | hr | hr
    · obtain ⟨rfl, rfl⟩ := List.cons.inj hr
      (try dsimp only)
      (repeat' first | with_reducible ((with_reducible show wpAny _ _ (exec (Stmt.For _ _ _ _ _) _) _ _ _); (k_here; (with_unfolding_all refine' For_turns (by (rename Fr _ _ _ _ => lF'); exact lF') ?_); k_whole)) | walk_at "STEP")
      all_goals first
        | exact hret _ _ _ news (by k_asm) (cb_drop (by assumption) (by lcg_sub)) ⟨rfl, isI (by simp [cmpZ, *])⟩
        | (rename Fr _ _ _ _ => FE
           rename News _ _ _ _ => NE
           refine turn_next FE NE (ne_of_allLt hlt) ⟨rfl, fun z hz => ?_, .inr (.inl ⟨rfl, by assumption, by assumption⟩)⟩
           rw [← hm' z hz]
           simp only [List.mem_cons, List.not_mem_nil, or_false, not_or] at hz
           simp only [hz, if_false]
           split
           · rename_i e; rw [e]; exact hw1.symm
           · split
             · rename_i e; rw [e]; exact hw2.symm
             · rfl)
    · obtain ⟨hr, hn1, hn2⟩ := hr
      obtain ⟨rfl, rfl⟩ := List.cons.inj hr
      (try dsimp only)
      (repeat' first | with_reducible ((with_reducible show wpAny _ _ (exec (Stmt.For _ _ _ _ _) _) _ _ _); (k_here; (with_unfolding_all refine' For_turns (by (rename Fr _ _ _ _ => lF'); exact lF') ?_); k_whole)) | walk_at "STEP")
      all_goals first
        | exact hret _ _ _ news (by k_asm) (cb_drop (by assumption) (by lcg_sub)) ⟨rfl, isI (by simp [cmpZ, *])⟩
        | (rename Fr _ _ _ _ => FE
           rename News _ _ _ _ => NE
           refine turn_next FE NE (ne_of_allLt hlt) ⟨rfl, fun z hz => ?_, .inr (.inr ⟨rfl, hn1, hn2, by assumption, by assumption⟩)⟩
           rw [← hm' z hz]
           simp only [List.mem_cons, List.not_mem_nil, or_false, not_or] at hz
           simp only [hz, if_false]
           split
           · rename_i e; rw [e]; exact hw1.symm
           · split
             · rename_i e; rw [e]; exact hw2.symm
             · rfl)
    · exact absurd hr.1 (List.cons_ne_nil _ _)
  · rintro m₁ nw h tk ⟨hnw, hm', hr⟩ F₁ N₁
    rcases hr with hr | ⟨hr, _⟩ | ⟨_, hn1, hn2, hn3, hn4⟩
    · exact absurd hr.symm (List.cons_ne_nil _ _)
    · exact absurd hr.symm (List.cons_ne_nil _ _)
    rw [hnw] at N₁
    clear FF NN
    (try dsimp only)
    (repeat' first | with_reducible ((with_reducible show wpAny _ _ (exec (Stmt.For _ _ _ _ _) _) _ _ _); (k_here; (with_unfolding_all refine' For_turns (by (rename Fr _ _ _ _ => lF'); exact lF') ?_); k_whole)) | walk_at "STEP")
    all_goals exact hret _ _ _ news (by k_asm) (cb_drop (by assumption) (by lcg_sub)) ⟨rfl, isI (by simp [cmpZ, *])⟩
end
section
local macro_rules | `(tactic| walk_at "none of these") => `(tactic| fail)
-- AddF
/-- a tuple of a book, in a ledger -/
noncomputable def tup5 (a b c d : Int) (t1 t2 t3 t4 : Tok) (D : Addr) (k : Nat) : Obj := { cls := .type "tuple", data := .seq #[.int a t1, .int b t2, .int c t3, .int d t4, .ref D] k }
set_option maxRecDepth 100000 in
set_option maxHeartbeats 2000000 in
theorem c_addf (prog : Program) (w : World) (news : List (Addr × Obj)) (d e T1 T2 : Addr) (od oe : Obj) (c f : List (Int × Int)) (a1 b1 c1 d1 a2 b2 c2 d2 : Int) (t1 t2 t3 t4 t5 t6 t7 t8 : Tok) (k1 k2 : Nat) (hm : (d, od) ∈ news) (hc : IsD prog w od c) (lo : (d == sysModules) = false)
   (hme : (e, oe) ∈ news) (he : IsD prog w oe f) (loe : (e == sysModules) = false) (hsz : c.length + f.length ≤ 1000) (hT1 : (T1, tup5 a1 b1 c1 d1 t1 t2 t3 t4 d k1) ∈ news) (hT2 : (T2, tup5 a2 b2 c2 d2 t5 t6 t7 t8 e k2) ∈ news) :
   Con prog w (KF w.params) 2 16 (call (.ref 98) [.ref T1, .ref T2]) news (fun r nw => ∃ D o T ot u1 u2 u3 u4 k, r = .ref T ∧ nw = (T, ot) :: (D, o) :: news ∧ ot = tup5 (a2 + a1) (b2 + b1) (c2 + c1) (d2 + d1) u1 u2 u3 u4 D k ∧ IsD prog w o (addC c f) ∧ (D == sysModules) = false ∧ AllLt D news ∧ AllLt T ((D, o) :: news)) := by
  intro p loose mean mg mb dp un gd cn cs a ccd cl outer A₀ base h₀ L m s Q E B F X N T hk hd hu hret
  refine wpAny_call ?_
  k_dflt (refine' code_def (binds := [(Str.ofString "target", .ref T1), (Str.ofString "source", .ref T2)]) ?k1 ?k2 ?k3 ?k4 ?k5 ?kA ?kF ?kK ?k6 ?k7 ?k8 ?k9 ?kB ?_ ?c2 ?c3 ?c4 ?c5; (case kA => exact rfl); (case kF => exact rfl); (case kK => assumption); (case k1 => k_asm); (case k2 => k_asm); (case k3 => k_asm); (case k4 => k_asm); (case k5 => k_asm); (case k6 => k_is); (case k7 => k_is); (case k8 => ktr_room); (case k9 => exact BindsTo.of_eq rfl); (case c5 => decide); (case kB => exact locs rfl); (case c2 => exact rfl); (case c3 => exact rfl); (case c4 => exact rfl); k_whole; intro g' L' h' FG' F' N' B' X' T'; (try dsimp only); (try k_lift B'); (try k_fold))
  have hTa : IsTup h' T1 _ := News.isTup N' hT1
  have hTb : IsTup h' T2 _ := News.isTup N' hT2
  k_steps
  k_dflt (refine' con_use (c_addc prog w news d e od oe c f hm hc lo hme he loe hsz) ?k1 ?k2 ?k3 ?k4 ?k5 ?kK ?kd ?ku ?_; (case k1 => k_asm); (case k2 => k_asm); (case k3 => k_asm); (case k4 => k_asm); (case k5 => k_asm); (case kK => exact rfl); (case kd => ktr_room); (case ku => ktr_units); (rintro _ h9 tk9 _ F9 N9 ⟨D, o, rfl, rfl, hD1, hD2, hD3⟩))
  dsimp only
  k_steps
  all_goals exact hret _ _ _ _ (by k_asm) (by k_asm) ⟨D, o, _, _, _, _, _, _, _, rfl, rfl, rfl, hD1, hD2, hD3, by assumption⟩
end
section
-- Moved
section
variable {prog : Program} {w : World} {A : Around} {E : Value → Shared → Prop} {s : Shared} {h₀ : Heap} {L : Addr} {m : Str → Option Value} {news : List (Addr × Obj)} {d : Addr} {o : Obj} {c : List (Int × Int)}
theorem mv_set {u : Obj → List (Addr × Obj)} {k e : Int} {tk te : Tok} {Q : Unit → Shared → Prop} (F : Fr h₀ L s.heap m) (N : News h₀ L s.heap news) (U : UpdF d o news u) (hd : IsD prog w o c) (hc : c.length ≤ 1000)
    (q : ∀ h' o', Fr h₀ L h' m → News h₀ L h' (u o') → IsD prog w o' (kdfPut c k e) → Q () { s with heap := h', toks := s.toks + 1 }) : wpAny (model prog w) A (setItem (.ref d) (.int k tk) (.int e te)) Q E s :=
  hd.elim fun _ h => kdf_setItem F N U h.1 h.2 (Nat.le_trans hc (by decide)) fun h' o' kvs' F' N' a b => q h' o' F' N' ⟨kvs', a, b⟩
theorem mv_getM {pl : Sem Bool} {Q : Value × List Value → Shared → Prop} (N : News h₀ L s.heap news) (hp : (d, o) ∈ news) (hd : IsD prog w o c) (q : Q (.builtin "dict.get", [.ref d]) s) : wpAny (model prog w) A (getMethod (.ref d) (Str.ofString "get") pl) Q E s :=
  hd.elim fun _ h => kdl_method (knd := PySem.intKind prog w) PySem.F.slot_dict_get PySem.F.type_dict_get N hp h.1 q
theorem mv_get2 {k e : Int} {tk te : Tok} {Q : Value → Shared → Prop} (N : News h₀ L s.heap news) (hp : (d, o) ∈ news) (hd : IsD prog w o c) (lo : (d == sysModules) = false) (q : ∀ t, Q (.int (kdfLook c k e) t) { s with toks := s.toks + 1 }) : wpAny (model prog w) A (call (.builtin "dict.get") [.ref d, .int k tk, .int e te]) Q E s :=
  hd.elim fun _ h => kdf_get2 (TabAt.ofNews N hp lo h.1 h.2) q
end
noncomputable def ovStep (piece sign : Str) (ov : List (Int × Int)) (k : Int) : List (Int × Int) := if (Txt.slice piece (some k) none == Txt.slice piece none (some ((piece.length : Int) - k))) = true then kdfPut ov (prodZ (Txt.slice piece (some ((piece.length : Int) - k)) none) sign) 1 else ov
noncomputable def ovC (piece sign : Str) : List (Int × Int) := (rangeKs 0 piece.length).foldl (ovStep piece sign) []
noncomputable def factC (piece sign : Str) : List (Int × Int) := kdfPut (timesC t0 (ovC piece sign)) (prodZ piece sign) (kdfLook (timesC t0 (ovC piece sign)) (prodZ piece sign) 0 + 1)
noncomputable def movedC (c : List (Int × Int)) (dots : Bool) (ps : List Str) (sign : Str) : List (Int × Int) := ps.foldl (fun acc p => timesC acc (factC p sign)) (if dots then timesC c t0 else c)
noncomputable def hasDots (pattern : Str) : Bool := !(Builtin.Str.occurrences pattern "..." 0 pattern.length 1).isEmpty
noncomputable def Small (c : List (Int × Int)) (n : Int) : Prop := ∀ p ∈ c, -n ≤ p.2 ∧ p.2 ≤ n
theorem small_put {c : List (Int × Int)} {n k v : Int} (h : Small c n) (hv : -n ≤ v ∧ v ≤ n) : Small (kdfPut c k v) n := by
  unfold kdfPut
  split
  · intro p hp
    obtain ⟨q, hq, rfl⟩ := List.mem_map.mp hp
    split
    · exact hv
    · exact h q hq
  · intro p hp
    rcases List.mem_append.mp hp with hp | hp
    · exact h p hp
    · rw [List.mem_singleton.mp hp]; exact hv
theorem small_look {c : List (Int × Int)} {n k : Int} (h : Small c n) (hn : 0 ≤ n) : -n ≤ kdfLook c k 0 ∧ kdfLook c k 0 ≤ n := by
  unfold kdfLook
  cases e : c.find? fun p => decide (p.1 = k) with
  | none => simp; lia
  | some p => exact h p (List.mem_of_find?_eq_some e)
theorem small_le {c : List (Int × Int)} {n m : Int} (h : Small c n) (hm : n ≤ m) : Small c m := fun p hp => by have := h p hp; lia
theorem unit_mul {a b : Int} (ha : -1 ≤ a ∧ a ≤ 1) (hb : -1 ≤ b ∧ b ≤ 1) : -1 ≤ a * b ∧ a * b ≤ 1 := by
  have h1 : a = -1 ∨ a = 0 ∨ a = 1 := by lia
  rcases h1 with rfl | rfl | rfl <;> lia
theorem small_mulS {l r : Int × Int} {acc : List (Int × Int)} {n : Int} (hl : -1 ≤ l.2 ∧ l.2 ≤ 1) (hr : -1 ≤ r.2 ∧ r.2 ≤ 1) (h : Small acc n) (hn : 0 ≤ n) : Small (mulS l r acc) (n + 1) := by
  have h1 := small_look (k := l.1 + r.1) h hn
  have h2 := unit_mul hl hr
  exact small_put (small_le h (by lia)) (by lia)
theorem times_row {l : Int × Int} (hl : -1 ≤ l.2 ∧ l.2 ≤ 1) : ∀ (cr acc : List (Int × Int)) (n : Int), Small cr 1 → Small acc n → 0 ≤ n → Small (cr.foldl (fun acc r => mulS l r acc) acc) (n + cr.length)
  | [], acc, n, _, h, _ => by simpa using h
  | r :: cr, acc, n, hr, h, hn => by
    have := times_row hl cr (mulS l r acc) (n + 1) (fun p hp => hr p (.tail _ hp)) (small_mulS hl (hr r (.head _)) h hn) (by lia)
    simp only [List.foldl_cons, List.length_cons]
    exact small_le this (by lia)
theorem times_rows {cr : List (Int × Int)} (hr : Small cr 1) : ∀ (cl acc : List (Int × Int)) (n : Int), Small cl 1 → Small acc n → 0 ≤ n → Small (cl.foldl (fun acc l => cr.foldl (fun acc r => mulS l r acc) acc) acc) (n + cl.length * cr.length)
  | [], acc, n, _, h, _ => by simpa using h
  | l :: cl, acc, n, hl, h, hn => by
    have := times_rows hr cl (cr.foldl (fun acc r => mulS l r acc) acc) (n + cr.length) (fun p hp => hl p (.tail _ hp)) (times_row (hl l (.head _)) cr acc n hr h hn) (by lia)
    simp only [List.foldl_cons, List.length_cons]
    refine small_le this ?_
    simp only [Int.natCast_add, Int.add_mul]
    lia
theorem times_small {cl cr : List (Int × Int)} (hl : Small cl 1) (hr : Small cr 1) : Small (timesC cl cr) (cl.length * cr.length) := by
  have := times_rows hr cl [] 0 hl (fun p hp => nomatch hp) (by lia)
  simpa [timesC] using this
theorem times_rowL {l : Int × Int} : ∀ (cr acc : List (Int × Int)), (cr.foldl (fun acc r => mulS l r acc) acc).length ≤ acc.length + cr.length
  | [], acc => by simp
  | r :: cr, acc => by
    have := times_rowL (l := l) cr (mulS l r acc)
    have : (mulS l r acc).length ≤ acc.length + 1 := kdfPut_len _ _ _
    simp only [List.foldl_cons, List.length_cons]; lia
theorem times_rowsL {cr : List (Int × Int)} : ∀ (cl acc : List (Int × Int)), (cl.foldl (fun acc l => cr.foldl (fun acc r => mulS l r acc) acc) acc).length ≤ acc.length + cl.length * cr.length
  | [], acc => by simp
  | l :: cl, acc => by
    have := times_rowsL (cr := cr) cl (cr.foldl (fun acc r => mulS l r acc) acc)
    have := times_rowL (l := l) cr acc
    simp only [List.foldl_cons, List.length_cons, Nat.add_mul]; lia
theorem times_len (cl cr : List (Int × Int)) : (timesC cl cr).length ≤ cl.length * cr.length := by
  have := times_rowsL (cr := cr) cl []
  simpa [timesC] using this
theorem ovStep_len (piece sign : Str) (ov : List (Int × Int)) (k : Int) : (ovStep piece sign ov k).length ≤ ov.length + 1 := by
  unfold ovStep
  split
  · exact kdfPut_len _ _ _
  · lia
theorem ovStep_small {piece sign : Str} {ov : List (Int × Int)} {k : Int} (h : Small ov 1) : Small (ovStep piece sign ov k) 1 := by
  unfold ovStep
  split
  · exact small_put h (by lia)
  · exact h
theorem mul_small {a b n : Int} (h : -n ≤ b ∧ b ≤ n) (hn : n ≤ 1000000) : IntMulOk a b := IntMulOk.of_right (PySem.intBits_le_64 (by lia) (by lia))
theorem small_t0 : Small t0 1 := by
  intro p hp
  simp only [t0, List.mem_cons, List.not_mem_nil, or_false] at hp
  rcases hp with rfl | rfl | rfl <;> decide
/-- the product's table along the way -/
structure MvInv (prog : Program) (w : World) (news : List (Addr × Obj)) (d : Addr) (od : Obj) (ex : List (Addr × Obj)) (dq : Addr) (op : Obj) (c : List (Int × Int)) : Prop where
  lt : ∀ p ∈ ex, AllLt p.1 news
  mem : (dq, op) ∈ ex ∨ (dq = d ∧ op = od)
  tab : IsD prog w op c
  lo : (dq == sysModules) = false
theorem MvInv.inN {prog : Program} {w : World} {news : List (Addr × Obj)} {d : Addr} {od : Obj} {ex : List (Addr × Obj)} {dq : Addr} {op : Obj} {c : List (Int × Int)} (h : MvInv prog w news d od ex dq op c) (hm : (d, od) ∈ news) : (dq, op) ∈ ex ++ news :=
  h.mem.elim (fun h => List.mem_append_left _ h) fun h => List.mem_append_right _ (by rw [h.1, h.2]; exact hm)
/-- after the 'if' of _law_moved -/
inductive MvS (prog : Program) (w : World) (g' : Heap) (L' : Addr) (s : Shared) (news : List (Addr × Obj)) (d : Addr) (od : Obj) (c1 : List (Int × Int)) (ax : Addr) (sign : Str) (t2 : Tok) : Flow → Shared → Prop
  | mk (h : Heap) (tk : Nat) (m : Str → Option Value) (ex : List (Addr × Obj)) (dq : Addr) (op : Obj) : Fr g' L' h m → News g' L' h (ex ++ news) → MvInv prog w news d od ex dq op c1 →
      m (Str.ofString "product") = some (.ref dq) → m (Str.ofString "sign") = some (.str sign t2) → m (Str.ofString "pieces") = some (.ref ax) → MvS prog w g' L' s news d od c1 ax sign t2 .next { s with heap := h, toks := tk }
theorem vars3m {m : Str → Option Value} {x y z : Str} {v u w : Value} (h : m x = some v) (h2 : m y = some u) (h3 : m z = some w) : m = seen [(x, v), (y, u), (z, w)] m := map_seen _ (List.forall_mem_cons.mpr ⟨h, List.forall_mem_cons.mpr ⟨h2, List.forall_mem_cons.mpr ⟨h3, fun _ h => nomatch h⟩⟩⟩)
theorem mv_fold (ps : List Str) (sign : Str) (c1 : List (Int × Int)) {i : Nat} {piece : Str} (h : ps[i]? = some piece) : (ps.take (i + 1)).foldl (fun acc p => timesC acc (factC p sign)) c1 = timesC ((ps.take i).foldl (fun acc p => timesC acc (factC p sign)) c1) (factC piece sign) := by
  rw [List.take_add_one, h, List.foldl_append]; rfl
theorem ov_fold (piece sign : Str) (i : Nat) : (rangeKs 0 (i + 1)).foldl (ovStep piece sign) [] = ovStep piece sign ((rangeKs 0 i).foldl (ovStep piece sign) []) (i : Nat) := by
  unfold rangeKs
  rw [List.range_succ, List.map_append, List.foldl_append]
  show ovStep piece sign _ (0 + (i : Int)) = _
  rw [Int.zero_add]
theorem mv_sizes {piece sign : Str} (hp : piece.length ≤ 3) {ov : List (Int × Int)} (hl : ov.length ≤ piece.length) (hs : Small ov 1) (he : ov = ovC piece sign) :
    t0.length * ov.length ≤ 1000000 ∧ (∀ p ∈ t0, ∀ q ∈ ov, IntMulOk p.2 q.2) ∧ (timesC t0 ov).length ≤ 1000 ∧ (factC piece sign).length ≤ 10 ∧ Small (factC piece sign) 10 := by
  subst he
  have h3 : t0.length = 3 := rfl
  have h1 : (timesC t0 (ovC piece sign)).length ≤ 9 := by
    have := times_len t0 (ovC piece sign)
    rw [h3] at this; lia
  have h2 : Small (timesC t0 (ovC piece sign)) 9 := small_le (times_small small_t0 hs) (by rw [h3]; lia)
  have h4 := small_look (k := prodZ piece sign) h2 (by lia)
  have h5 : (factC piece sign).length ≤ (timesC t0 (ovC piece sign)).length + 1 := kdfPut_len _ _ _
  exact ⟨by rw [h3]; lia, fun p _ q hq => mul_small (hs q hq) (by lia), by lia, by lia, small_put (small_le h2 (by lia)) (by lia)⟩
theorem mv_bound {st f : List (Int × Int)} {n i : Nat} (hi : i < n) (h : st.length * 10 ^ (n - i) ≤ 200000) (hf : f.length ≤ 10) : st.length * f.length ≤ 200000 ∧ (timesC st f).length * 10 ^ (n - (i + 1)) ≤ 200000 := by
  have e : n - i = (n - (i + 1)) + 1 := by lia
  have hK6 : st.length * 10 * 10 ^ (n - (i + 1)) ≤ 200000 := by
    rw [e, Nat.pow_succ] at h
    rw [Nat.mul_assoc, Nat.mul_comm 10]; exact h
  have hK8 : st.length * f.length ≤ st.length * 10 := Nat.mul_le_mul_left _ hf
  exact ⟨Nat.le_trans hK8 (Nat.le_trans (Nat.le_mul_of_pos_right _ (Nat.pow_pos (by lia))) hK6), Nat.le_trans (Nat.mul_le_mul_right _ (Nat.le_trans (times_len _ _) hK8)) hK6⟩
theorem mv_start {c c1 : List (Int × Int)} {b : Bool} (e : c1 = if b then timesC c t0 else c) (hc : c.length ≤ 64) {n : Nat} (hn : n ≤ 3) : c1.length * 10 ^ n ≤ 200000 := by
  have h1 : c1.length ≤ 192 := by
    have h3 : t0.length = 3 := rfl
    rw [e]; split
    · have := times_len c t0; rw [h3] at this; lia
    · lia
  exact Nat.le_trans (Nat.mul_le_mul h1 (Nat.pow_le_pow_right (by lia) hn)) (by decide)
set_option maxRecDepth 100000 in
set_option maxHeartbeats 2000000 in
theorem c_movedG (prog : Program) (w : World) (news : List (Addr × Obj)) (d ax : Addr) (od : Obj) (c : List (Int × Int)) (vs : List Value) (kv : Nat) (ps : List Str) (pattern sign : Str) (t1 t2 : Tok) (hm : (d, od) ∈ news) (hc : IsD prog w od c) (lo : (d == sysModules) = false)
   (hma : (ax, W.listOf vs.toArray kv) ∈ news) (hvs : Are IsStr vs ps) (hcl : c.length ≤ 64) (hpl : ps.length ≤ 3) (hps : ∀ y ∈ ps, y.length ≤ 3) :
   ConG prog w (KF w.params) 2 16 (call (.ref 153) [.ref d, .str pattern t1, .ref ax, .str sign t2]) news (fun P => ∀ ex D o, (∀ p ∈ ex, AllLt p.1 news) → ((D, o) ∈ ex ∨ (D = d ∧ o = od)) → IsD prog w o (movedC c (hasDots pattern) ps sign) → (D == sysModules) = false → P (.ref D) (ex ++ news)) := by
  intro p loose mean mg mb dp un gd cn cs a ccd cl outer A₀ base h₀ L m s Q E B F X N T hk hd hu hret
  refine wpAny_call ?_
  k_dflt (refine' code_def (binds := [(Str.ofString "product", .ref d), (Str.ofString "pattern", .str pattern t1), (Str.ofString "pieces", .ref ax), (Str.ofString "sign", .str sign t2)]) ?k1 ?k2 ?k3 ?k4 ?k5 ?kA ?kF ?kK ?k6 ?k7 ?k8 ?k9 ?kB ?_ ?c2 ?c3 ?c4 ?c5; (case kA => exact rfl); (case kF => exact rfl); (case kK => assumption); (case k1 => k_asm); (case k2 => k_asm); (case k3 => k_asm); (case k4 => k_asm); (case k5 => k_asm); (case k6 => k_is); (case k7 => k_is); (case k8 => ktr_room); (case k9 => exact BindsTo.of_eq rfl); (case c5 => decide); (case kB => exact locs rfl); (case c2 => exact rfl); (case c3 => exact rfl); (case c4 => exact rfl); k_whole; intro g' L' h' FG' F' N' B' X' T'; (try dsimp only); (try k_lift B'); (try k_fold))
  walk1
  walk1
  refine cutF (MvS prog w g' L' s news d od (if hasDots pattern then timesC c t0 else c) ax sign t2) ?_ ?_
  · intro PP hPP
    walk1
    (repeat' first | with_reducible ((with_reducible show wpAny _ _ (eval (Expr.Dict [_, _, _] _ _) _) _ _ _); k_dflt (refine r_d3 (by k_asm) (by k_asm) (by k_asm) (by k_asm) ?_); intro _ _ _ _ _ _ _ _ _) | with_reducible ((with_reducible show wpAny _ _ (exec (Stmt.For (Expr.Name _ _) _ _ _ _) _) _ _ _); (with_unfolding_all refine' For_invVF (by (rename Fr _ _ _ _ => lF'); exact lF') ?k1 ?k2 ?_; (case k1 => exact rfl); (case k2 => exact rfl); k_whole)) | walk_at "STEP")
    · rename Fr _ _ _ _ => FF
      rename News _ _ _ _ => NN
      refine hPP _ _ (.mk _ _ _ [] d od FF NN ⟨fun p hp => (nomatch hp), .inr ⟨rfl, rfl⟩, ?_, lo⟩ rfl rfl rfl)
      rw [if_neg (by simp [hasDots, *])]; exact hc
    · rename_i d3 o3 h3 tk3 FF NN l3 lo3 hd3
      k_dflt (refine' conG_use (c_timesG prog w _ d d3 od o3 c t0 (.tail _ hm) hc lo (.head _) hd3 lo3 (Nat.le_trans (Nat.mul_le_mul_right 3 hcl) (by decide)) (fun p _ q hq => mul_small (small_t0 q hq) (by decide))) ?k1 ?k2 ?k3 ?k4 ?k5 ?kK ?kd ?ku ?_; (case k1 => k_asm); (case k2 => k_asm); (case k3 => k_asm); (case k4 => exact NN); (case k5 => k_asm); (case kK => exact rfl); (case kd => ktr_room); (case ku => ktr_units))
      intro D o hD1 hD2 hD3 h9 tk9 F9 N9
      clear NN FF
      dsimp only
      (repeat' first | with_reducible ((with_reducible show wpAny _ _ (exec (Stmt.For (Expr.Name _ _) _ _ _ _) _) _ _ _); (with_unfolding_all refine' For_invVF (by (rename Fr _ _ _ _ => lF'); exact lF') ?k1 ?k2 ?_; (case k1 => exact rfl); (case k2 => exact rfl); k_whole)) | walk_at "STEP")
      rename Fr _ _ _ _ => FF
      rename News _ _ _ _ => NN
      refine hPP _ _ (.mk _ _ _ [(D, o), (d3, o3)] D o FF NN ⟨List.forall_mem_cons.mpr ⟨hD3.2, List.forall_mem_cons.mpr ⟨l3, fun p hp => (nomatch hp)⟩⟩, .inl (.head _), ?_, hD2⟩ rfl rfl rfl)
      rw [if_pos (by simp [hasDots, *])]; exact hD1
  · intro f s' HS
    cases HS with
    | mk h1 tk1 m1 ex dq op F1 N1 hI m_p m_s m_q =>
    have e := vars3m m_p m_s m_q
    rw [e] at F1
    clear e m_p m_s m_q
    generalize hc1 : (if hasDots pattern then timesC c t0 else c) = c1 at hI
    have hst := mv_start hc1.symm hcl hpl
    clear hcl hc lo
    dsimp only
    (repeat' first | with_reducible ((with_reducible show wpAny _ _ (exec (Stmt.For (Expr.Name _ _) _ _ _ _) _) _ _ _); (with_unfolding_all refine' For_invVF (by (rename Fr _ _ _ _ => lF'); exact lF') ?k1 ?k2 ?_; (case k1 => exact rfl); (case k2 => exact rfl); k_whole)) | walk_at "STEP")
    rename Fr _ _ _ _ => FF
    rename News _ _ _ _ => NN
    refine forListG (σ := Addr × Obj × List (Int × Int)) (Is := IsStr) (k := kv) (xs := ps) (news := news) (fun _ => []) (fun st => [(Str.ofString "product", .ref st.1), (Str.ofString "sign", .str sign t2)])
      (fun i st ex => MvInv prog w news d od ex st.1 st.2.1 st.2.2 ∧ st.2.2 = (ps.take i).foldl (fun acc p => timesC acc (factC p sign)) c1 ∧ st.2.2.length * 10 ^ (ps.length - i) ≤ 200000) (dq, op, c1) ex rfl FF NN hma hvs ?_ ⟨hI, rfl, hst⟩ (fun _ => rfl) ?_ ?_
    · exact List.forall_mem_cons.mpr ⟨rfl, List.forall_mem_cons.mpr ⟨rfl, fun p hp => (nomatch hp)⟩⟩
    · rintro i piece v ⟨dq, op, st⟩ ex m₁ h tk I oI JJ hc0 ⟨t, rfl⟩ ⟨hI, hfold, hsz⟩ hlt hoff F₁ N₁ q1 _ _ _
      have hil := (List.getElem?_eq_some_iff.mp hc0).1
      have hplen := hps _ (List.mem_of_getElem? hc0)
      clear FF NN hst
      simp only [seen, List.foldr, List.nil_append] at F₁ N₁
      have hlen9 : piece.length ≤ 1000 := Nat.le_trans hplen (by decide)
      dsimp only
      (repeat' first | with_reducible ((with_reducible show wpAny _ _ (call (Value.ref 139) _) _ _ _); k_dflt (refine' conG_use (c_prodG _ _ _ _ _ _ _ ?z) ?k1 ?k2 ?k3 ?k4 ?k5 ?kK ?kd ?ku ?_; (case k1 => k_asm); (case k2 => k_asm); (case k3 => k_asm); (case k4 => k_asm); (case k5 => k_asm); (case kK => exact rfl); (case kd => ktr_room); (case ku => ktr_units); (case z => lia)); intro _ _ _ _ _) | with_reducible ((with_reducible show wpAny _ _ (exec (Stmt.For (Expr.Name _ _) _ _ _ _) _) _ _ _); (with_unfolding_all refine' For_invVF (by (rename Fr _ _ _ _ => lF'); exact lF') ?k1 ?k2 ?_; (case k1 => exact rfl); (case k2 => exact rfl); k_whole)) | walk_at "STEP")
      rename_i d5 h5 o5 FA NA lo5 hs5 fs5 hi5 fi5 l5 h6 FB NB hE tkE ta ua va hR FF NN hK5
      have hd5 : IsD prog w o5 [] := ⟨[], hi5, fi5⟩
      clear hs5 fs5 hK5 FA NA FB NB hi5 fi5
      refine forRangeE (τ := Obj × List (Int × Int)) (n := piece.length) (fun _ st => (d5, st.1) :: (I, oI) :: (ex ++ news)) (fun _ _ => [(Str.ofString "overlaps", .ref d5), (Str.ofString "piece", .str piece t), (Str.ofString "sign", .str sign t2), (Str.ofString "product", .ref dq)])
        (fun i st => IsD prog w st.1 st.2 ∧ st.2 = (rangeKs 0 i).foldl (ovStep piece sign) [] ∧ st.2.length ≤ i ∧ Small st.2 1) (o5, []) rfl FF NN hR (Nat.le_trans hplen (by decide)) ?_ ⟨hd5, rfl, Nat.le_refl _, fun p hp => (nomatch hp)⟩ (fun _ _ => rfl) ?_ ?_
      · exact List.forall_mem_cons.mpr ⟨rfl, List.forall_mem_cons.mpr ⟨rfl, List.forall_mem_cons.mpr ⟨rfl, List.forall_mem_cons.mpr ⟨rfl, fun p hp => (nomatch hp)⟩⟩⟩⟩
      · rintro k ⟨oo, ov⟩ t3 m₂ h2 tk2 I2 oI2 JJ2 hi2 hlt2 ⟨hoo, hov, hol, hos⟩ F₂ N₂ q2 _ _ _
        have hlt3 : @LT.lt Nat _ d5 I2 := hlt2.1
        have hol' : ov.length ≤ 1000 := Nat.le_trans hol (Nat.le_trans (Nat.le_of_lt hi2) hlen9)
        clear FF NN hR q1
        simp only [seen, List.foldr] at F₂
        dsimp only at *
        (repeat' first | with_reducible ((with_reducible show wpAny _ _ (call (Value.ref 139) _) _ _ _); k_dflt (refine' conG_use (c_prodG _ _ _ _ _ _ _ ?z) ?k1 ?k2 ?k3 ?k4 ?k5 ?kK ?kd ?ku ?_; (case k1 => k_asm); (case k2 => k_asm); (case k3 => k_asm); (case k4 => k_asm); (case k5 => k_asm); (case kK => exact rfl); (case kd => ktr_room); (case ku => ktr_units); (case z => lia)); intro _ _ _ _ _) | with_reducible ((with_reducible show wpAny _ _ (setItem (Value.ref _) (Value.int _ _) (Value.int _ _)) _ _ _); k_dflt (refine' mv_set ?sF ?sN ?sU ?sd ?sz ?_; (case sF => k_asm); (case sN => k_asm); (case sU => k_updF); (case sd => with_reducible assumption); (case sz => assumption)); intro _ _ _ N' _; (try dsimp only at N'); revert N'; intros) | with_reducible ((with_reducible show wpAny _ _ (exec (Stmt.For (Expr.Name _ _) _ _ _ _) _) _ _ _); (with_unfolding_all refine' For_invVF (by (rename Fr _ _ _ _ => lF'); exact lF') ?k1 ?k2 ?_; (case k1 => exact rfl); (case k2 => exact rfl); k_whole)) | walk_at "STEP")
        · have e : ovStep piece sign ov (k : Nat) = _ := if_pos (by assumption)
          rename Fr _ _ _ _ => FE
          rename News _ _ _ _ => NE
          exact q2 _ _ _ (_, ovStep piece sign ov (k : Nat)) FE NE (List.forall_mem_cons.mpr ⟨rfl, List.forall_mem_cons.mpr ⟨rfl, List.forall_mem_cons.mpr ⟨rfl, List.forall_mem_cons.mpr ⟨rfl, fun p hp => (nomatch hp)⟩⟩⟩⟩) ⟨by rw [e]; assumption, by rw [ov_fold, ← hov], Nat.le_trans (ovStep_len ..) (Nat.succ_le_succ hol), ovStep_small hos⟩
        · have e : ovStep piece sign ov (k : Nat) = _ := if_neg (Bool.eq_false_iff.mp (by assumption))
          rename Fr _ _ _ _ => FE
          rename News _ _ _ _ => NE
          exact q2 _ _ _ (oo, ovStep piece sign ov (k : Nat)) FE NE (List.forall_mem_cons.mpr ⟨rfl, List.forall_mem_cons.mpr ⟨rfl, List.forall_mem_cons.mpr ⟨rfl, List.forall_mem_cons.mpr ⟨rfl, fun p hp => (nomatch hp)⟩⟩⟩⟩) ⟨by rw [e]; exact hoo, by rw [ov_fold, ← hov], Nat.le_trans (ovStep_len ..) (Nat.succ_le_succ hol), ovStep_small hos⟩
      · rintro ⟨oo, ov⟩ m₂ h2 tk2 ⟨hoo, hov, hol, hos⟩ F₂ N₂
        obtain ⟨z1, z2, z3, z4, z5⟩ := mv_sizes hplen hol hos hov
        have hmv := mv_bound hil hsz z4
        have hdq : (dq, op) ∈ ex ++ news := hI.inN hm
        have hlt3 := hlt
        clear FF NN hR
        simp only [seen, List.foldr] at F₂
        dsimp only at *
        (repeat' first | with_reducible ((with_reducible show wpAny _ _ (eval (Expr.Dict [_, _, _] _ _) _) _ _ _); k_dflt (refine r_d3 (by k_asm) (by k_asm) (by k_asm) (by k_asm) ?_); intro _ _ _ _ _ _ _ _ _) | with_reducible ((with_reducible show wpAny _ _ (exec (Stmt.For (Expr.Name _ _) _ _ _ _) _) _ _ _); (with_unfolding_all refine' For_invVF (by (rename Fr _ _ _ _ => lF'); exact lF') ?k1 ?k2 ?_; (case k1 => exact rfl); (case k2 => exact rfl); k_whole)) | walk_at "STEP")
        rename_i d3 o3 h3 tk3 FF NN l3 lo3 hd3
        k_dflt (refine' conG_use (c_timesG prog w _ d3 d5 o3 oo t0 ov (.head _) hd3 lo3 (.tail _ (.head _)) hoo lo5 z1 z2) ?k1 ?k2 ?k3 ?k4 ?k5 ?kK ?kd ?ku ?_; (case k1 => k_asm); (case k2 => k_asm); (case k3 => k_asm); (case k4 => exact NN); (case k5 => k_asm); (case kK => exact rfl); (case kd => ktr_room); (case ku => ktr_units))
        intro D o hD1 hD2 hD3 h9 tk9 F9 N9
        have f1 : @LT.lt Nat _ I D := hD3.2.2.1
        clear NN FF hd3
        dsimp only
        (repeat' first | with_reducible ((with_reducible show wpAny _ _ (call (Value.ref 139) _) _ _ _); k_dflt (refine' conG_use (c_prodG _ _ _ _ _ _ _ ?z) ?k1 ?k2 ?k3 ?k4 ?k5 ?kK ?kd ?ku ?_; (case k1 => k_asm); (case k2 => k_asm); (case k3 => k_asm); (case k4 => k_asm); (case k5 => k_asm); (case kK => exact rfl); (case kd => ktr_room); (case ku => ktr_units); (case z => lia)); intro _ _ _ _ _) | with_reducible ((with_reducible show wpAny _ _ (getMethod (Value.ref _) (Str.ofString "get") _) _ _ _); k_dflt (refine mv_getM (by k_asm) (by k_mem) (by with_reducible assumption) ?_)) | with_reducible ((with_reducible show wpAny _ _ (call (Value.builtin "dict.get") [Value.ref _, Value.int _ _, Value.int _ _]) _ _ _); k_dflt (refine mv_get2 (by k_asm) (by k_mem) (by with_reducible assumption) (by with_reducible assumption) ?_); intro _) | with_reducible ((with_reducible show wpAny _ _ (setItem (Value.ref _) (Value.int _ _) (Value.int _ _)) _ _ _); k_dflt (refine' mv_set ?sF ?sN ?sU ?sd ?sz ?_; (case sF => k_asm); (case sN => k_asm); (case sU => k_updF); (case sd => with_reducible assumption); (case sz => assumption)); intro _ _ _ N' _; (try dsimp only at N'); revert N'; intros) | with_reducible ((with_reducible show wpAny _ _ (exec (Stmt.For (Expr.Name _ _) _ _ _ _) _) _ _ _); (with_unfolding_all refine' For_invVF (by (rename Fr _ _ _ _ => lF'); exact lF') ?k1 ?k2 ?_; (case k1 => exact rfl); (case k2 => exact rfl); k_whole)) | walk_at "STEP")
        rename IsD _ _ _ (kdfPut _ _ _) => hF
        rename Fr _ _ _ _ => FF
        rename News _ _ _ _ => NN
        rw [show kdfPut (timesC t0 ov) (prodZ piece sign) (kdfLook (timesC t0 ov) (prodZ piece sign) 0 + 1) = factC piece sign by rw [hov]; rfl] at hF
        clear z1 z2 z3 hD1 hD3
        k_dflt (refine' conG_use (c_timesG prog w _ dq D op _ st (factC piece sign) (.tail _ (.tail _ (.tail _ (.tail _ hdq)))) hI.tab hI.lo (.head _) hF hD2 (Nat.le_trans hmv.1 (by decide)) (fun p _ q hq => mul_small (z5 q hq) (by decide))) ?k1 ?k2 ?k3 ?k4 ?k5 ?kK ?kd ?ku ?_; (case k1 => k_asm); (case k2 => k_asm); (case k3 => k_asm); (case k4 => exact NN); (case k5 => k_asm); (case kK => exact rfl); (case kd => ktr_room); (case ku => ktr_units))
        intro P oP hP1 hP2 hP3 h8 tk8 F8 N8
        have f2 : @LT.lt Nat _ I P := hP3.2.2.2.1
        have l9 : AllLt P news := allLt_sub hP3.2.2.2.2 fun p hp => List.mem_append_right _ hp
        clear NN FF hP3
        dsimp only
        (repeat' first | with_reducible ((with_reducible show wpAny _ _ (exec (Stmt.For (Expr.Name _ _) _ _ _ _) _) _ _ _); (with_unfolding_all refine' For_invVF (by (rename Fr _ _ _ _ => lF'); exact lF') ?k1 ?k2 ?_; (case k1 => exact rfl); (case k2 => exact rfl); k_whole)) | walk_at "STEP")
        rename Fr _ _ _ _ => FE
        rename News _ _ _ _ => NE
        exact q1 _ _ _ (P, oP, timesC st (factC piece sign)) [(P, oP)] FE (cb_drop NE (by lcg_sub)) (List.forall_mem_cons.mpr ⟨Nat.ne_of_gt f2, fun _ h => nomatch h⟩) (List.forall_mem_cons.mpr ⟨rfl, List.forall_mem_cons.mpr ⟨rfl, fun p hp => (nomatch hp)⟩⟩) ⟨⟨List.forall_mem_cons.mpr ⟨l9, hI.lt⟩, .inl (.head _), hP1, hP2⟩, by rw [mv_fold ps sign c1 hc0, ← hfold], hmv.2⟩
    · rintro ⟨dq, op, st⟩ ex m₁ h tk ⟨hI, hfold, hsz⟩ F₁ N₁
      clear FF NN hst
      simp only [seen, List.foldr, List.nil_append] at F₁ N₁
      dsimp only at *
      have e9 : st = movedC c (hasDots pattern) ps sign := by rw [hfold, List.take_length, ← hc1]; rfl
      rw [e9] at hI
      clear hfold hsz
      (repeat' first | with_reducible ((with_reducible show wpAny _ _ (exec (Stmt.For (Expr.Name _ _) _ _ _ _) _) _ _ _); (with_unfolding_all refine' For_invVF (by (rename Fr _ _ _ _ => lF'); exact lF') ?k1 ?k2 ?_; (case k1 => exact rfl); (case k2 => exact rfl); k_whole)) | walk_at "STEP")
      exact hret ex dq op hI.lt hI.mem hI.tab hI.lo _ _ (by k_asm) (by k_asm)
end
section
-- Stream
noncomputable def chAt (x : Str) (i : Nat) : Str := match x.cps[i]? with | some c => ⟨#[c]⟩ | none => ⟨#[]⟩
open Builtin.Str in
theorem slice_idx (p n : Nat) : strSliceIndices (some ((p : Int) + 1 - 1)) (some ((p : Int) + 1)) 1 n = if p < n then [p] else [] := by
  unfold strSliceIndices sliceRange
  simp only [show (1 : Int) > 0 by decide, if_true]
  rw [if_neg (show ¬ ((p : Int) + 1 - 1 < 0) by lia), if_neg (show ¬ ((p : Int) + 1 < 0) by lia)]
  by_cases h : p < n
  · rw [if_pos h]
    rw [show max 0 (min ((p : Int) + 1 - 1) n) = p by lia, show max 0 (min ((p : Int) + 1) n) = p + 1 by lia]
    rw [if_pos (by lia)]
    rw [show (((p : Int) + 1 - p + 1 - 1) / 1).toNat = 1 by lia]
    simp
  · rw [if_neg h, if_neg (by lia)]
    rfl
theorem slice_ch (x : Str) (p : Nat) : Txt.slice x (some ((p : Int) + 1 - 1)) (some ((p : Int) + 1)) = chAt x p := by
  obtain ⟨cps⟩ := x
  unfold Txt.slice chAt
  rw [slice_idx]
  have hl : (Str.length ⟨cps⟩) = cps.size := rfl
  rw [hl]
  by_cases h : p < cps.size
  · simp only [if_pos h]
    have e : cps[p]? = some cps[p] := Array.getElem?_eq_getElem h
    simp only [e, List.length_singleton]
    split
    · rename_i q
      have : cps.size = 1 := by simpa using (beq_iff_eq.mp (Bool.and_eq_true_iff.mp q).2).symm
      have hp : p = 0 := by lia
      subst hp
      congr 1
      apply Array.ext <;> simp [this]
      intro i hi
      subst hi; rfl
    · simp [e]
  · simp only [if_neg h]
    have e : cps[p]? = none := Array.getElem?_eq_none (by lia)
    simp only [e]
    split
    · rename_i q
      have : cps.size = 0 := (beq_iff_eq.mp (Bool.and_eq_true_iff.mp q).2).symm
      congr 1
      exact Array.eq_empty_of_size_eq_zero this
    · rfl
noncomputable def ReadOK (prog : Program) (w : World) (K : Frag) (RD PL : Addr) (text : Str) (im : List (Addr × Obj)) : Prop :=
  ∀ (p : Nat) (tp t : Tok) (news' : List (Addr × Obj)), (∀ q ∈ im, q ∈ news') → (∀ q ∈ news', q.1 ≠ PL) →
    ConG prog w K 1 8 (call (.ref RD) [.int 1 t]) ((PL, W.listOf #[.int (p : Nat) tp] 0) :: news') (fun P => ∀ tp' u, P (.str (chAt text p) u) ((PL, W.listOf #[.int ((p + 1 : Nat) : Int) tp'] 0) :: news'))
set_option maxRecDepth 100000 in
set_option maxHeartbeats 2000000 in
theorem c_stream (prog : Program) (w : World) (news : List (Addr × Obj)) (text : Str) (t1 : Tok) (hn : ∀ p ∈ news, p.1 ≠ 114) (htx : text.length ≤ 1000) :
   ConTG 118 114 prog w (KF w.params) 2 16 (call (.ref 119) [.str text t1]) ((114, tabObj #[]) :: news) (fun P => ∀ (a1 a2 a4 : Addr) (q3 q5 q6 q7 : Addr × Obj) (PL : Addr) (ps : Array Value) (tk tk' : Tok) (fdS fdR : FuncData), AllLt q7.1 news → 114 < q7.1 → q7.1 < q6.1 → q6.1 < PL → PL < q5.1 → q5.1 < a4 → a4 < q3.1 → q3.1 < a2 → a2 < a1 → ReadOK prog w (KF w.params) a4 PL text [(a4, fnObj fdR none), q5, q6, q7] →
     P (.ref a2) ((a1, dictOf [DictEntry.mk (PyData.keyHash w.params "read") (.str "read" tk) (.ref a4)] 1) :: (a2, fnObj fdS (some a1)) :: q3 :: (a4, fnObj fdR none) :: q5 :: (PL, W.listOf #[.int 0 tk'] 0) :: q6 :: q7 :: (114, tabObj ps) :: news)) := by
  intro p loose mean mg mb dp un gd cn cs a ccd cl outer A₀ base h₀ L m s Q E C B F X N T hk hd hu hret
  refine wpAny_call ?_
  k_dflt (refine' code_defC (binds := [(Str.ofString "text", .str text t1)]) ?k1 ?k2 ?k3 ?k4 ?k5 ?kA ?kF ?kK ?k6 ?k7 ?k8 ?k9 ?kB ?kD ?_ ?c2 ?c3 ?c4; (case kA => exact rfl); (case kF => exact rfl); (case kK => assumption); (case k1 => k_asm); (case k2 => k_asm); (case k3 => k_asm); (case k4 => k_asm); (case k5 => k_asm); (case k6 => k_is); (case k7 => k_is); (case k8 => ktr_room); (case k9 => exact BindsTo.of_eq rfl); (case kB => exact rfl); (case kD => decide +kernel); (case c2 => exact rfl); (case c3 => exact rfl); (case c4 => exact rfl); k_whole; intro g' L' h' tk' cells' FG' F' N' Y' B' X' T' l1'; k_cells Y'; (try simp only [List.cons_append, List.nil_append] at N'); (try dsimp only); (try k_lift B'); (try k_fold))
  have l1 := allLt_of l1'
  have C' : CodeHd g' 118 114 := C.keeps FG'.keep
  clear l1'
  obtain ⟨l1a, l1⟩ := l1
  have hcl1 := ne_le (d' := L' + 1) l1 (Nat.le_add_right _ _)
  have hcl2 := ne_le (d' := L' + 2) l1 (Nat.le_add_right _ _)
  (repeat' first | with_reducible (k_here; (with_reducible show wpAny _ _ (setAttr _ (PySem.Str.ofString "read") _) _ _ _); k_dflt (refine' fn_setattr_K ?F ?N ?a ?_; (case F => k_asm); (case N => k_asm); (case a => k_all); k_whole); intro h' dx' tk' tk9' F' N' l2 l1; (try k_lt l1); (try k_lt2 l2); revert h' dx' tk' tk9' F' N' l2 l1; intros) | walk_at "STEP")
  rename_i o1 o2 e1 e2 lp hh6 m3 hh5 op edp f1 c1 oc1 vs1 tt1 ct1 dc1 hh4 tk2 e11 e21 m12 m22 hh3 f2 c2 oc2 vs2 tt2 ct2 hh2 tk1 e12 e22 m11 m21 hh1 F1 N1 hh0 dx tkk tk9 F0 N0 m10 m20 kF kN Tc kX
  refine hret dx f2 f1 (c2, oc2) (c1, oc1) (_, op) (_, o2) lp _ _ _ _ _ (allLt_le (Nat.le_succ _) l1) (Nat.lt_succ_of_lt l1a) (Nat.lt_succ_self _) m3.1 m12.1 m22 m11.1 m21 m20 ?_ _ _ kF kN
  clear hret kF kN F1 N1 F0 N0 F B X N T hk hd hu
  intro p tp t news' hsub hPL
  have q4 := hsub _ (.head _)
  have q5 := hsub _ (.tail _ (.head _))
  have q6 := hsub _ (.tail _ (.tail _ (.head _)))
  have q7 := hsub _ (.tail _ (.tail _ (.tail _ (.head _))))
  intro p2 loose2 mean2 mg2 mb2 dp2 un2 gd2 cn2 cs2 a2 ccd2 cl2 outer2 A2 base2 h2 L2 m2 s2 Q2 E2 B F X N T hk hd hu hret
  refine wpAny_call ?_
  (try dsimp only)
  clear hsub
  k_dflt (refine' code_nest ?k1 ?k2 ?k3 ?k4 ?k5 ?kA ?kF ?kK ?k6 ?k7 ?k8 ?k9 ?kB ?_ ?c2 ?c3 ?c4 ?c5; (case kA => exact rfl); (case kF => exact rfl); (case kK => assumption); (case k1 => k_asm); (case k2 => k_asm); (case k3 => k_asm); (case k4 => k_asm); (case k5 => k_asm); (case k6 => exact .tail _ (by assumption)); (case k7 => exact codeRec_news (by k_asm) (.tail _ (by assumption)) (by assumption) (by assumption)); (case k8 => ktr_room); (case k9 => exact BindsTo.of_eq rfl); (case c5 => decide); (case kB => exact locs rfl); (case c2 => exact rfl); (case c3 => exact rfl); (case c4 => exact rfl); k_whole; intro g' L' h' FG' F' N' B' X' T'; (try dsimp only); (try k_lift B'); (try k_fold))
  (repeat' first | with_reducible (k_here; (with_reducible show wpAny _ _ (setAttr _ (PySem.Str.ofString "read") _) _ _ _); k_dflt (refine' fn_setattr_K ?F ?N ?a ?_; (case F => k_asm); (case N => k_asm); (case a => k_all); k_whole); intro h' dx' tk' tk9' F' N' l2 l1; (try k_lt l1); (try k_lt2 l2); revert h' dx' tk' tk9' F' N' l2 l1; intros) | walk_at "STEP")
  rename_i KF KN _ _
  show Q2 (Value.str (Txt.slice text (some ((p : Int) + 1 - 1)) (some ((p : Int) + 1))) _) _
  rw [slice_ch]
  exact hret _ _ _ _ KF KN
end
section
-- StreamB
noncomputable def StreamOK (prog : Program) (w : World) (K : Frag) (ST PL : Addr) (text : Str) (news : List (Addr × Obj)) : Prop :=
  ∃ (DS RD : Addr) (fdS fdR : FuncData) (tk : Tok) (im : List (Addr × Obj)), (ST, fnObj fdS (some DS)) ∈ news ∧ (DS, dictOf [DictEntry.mk (PyData.keyHash w.params "read") (.str "read" tk) (.ref RD)] 1) ∈ news ∧ (RD, fnObj fdR none) ∈ news ∧ (∀ q ∈ im, q ∈ news) ∧ ReadOK prog w K RD PL text im
theorem c_streamB (prog : Program) (w : World) (news : List (Addr × Obj)) (text : Str) (t1 : Tok) (hn : ∀ p ∈ news, p.1 ≠ 114) (htx : text.length ≤ 1000) :
   ConTG 118 114 prog w (KF w.params) 2 16 (call (.ref 119) [.str text t1]) ((114, tabObj #[]) :: news) (fun P => ∀ (ST PL : Addr) (ex : List (Addr × Obj)) (ps : Array Value) (tk : Tok), StreamOK prog w (KF w.params) ST PL text ex →
     AllLt PL news → (@LT.lt Nat _ 114 PL) → (∀ q ∈ ex, q.1 ≠ PL) → (∀ q ∈ ex, AllLt q.1 news) → (∀ q ∈ ex, q.1 ≠ 114) → P (.ref ST) ((PL, W.listOf #[.int 0 tk] 0) :: (114, tabObj ps) :: (ex ++ news))) := by
  intro p loose mean mg mb dp un gd cn cs a ccd cl outer A₀ base h₀ L m s Q E C B F X N T hk hd hu hret
  refine conTG_use (c_stream prog w news text t1 hn htx) C B F X N T hk hd hu ?_
  intro q1a q2a q4a q3 q5 q6 q7 PL ps tk tk2 fdS fdR l1 l2 l3 l4 l5 l6 l7 l8 l9 hr h9 tk9 F9 N9
  have a4 := Nat.lt_trans l5 l6
  have a3 := Nat.lt_trans a4 l7
  have a2 := Nat.lt_trans a3 l8
  have a1 := Nat.lt_trans a2 l9
  have a7 := Nat.lt_trans l3 l4
  have b6 := allLt_le (Nat.le_of_lt l3) l1
  have b0 := allLt_le (Nat.le_of_lt l4) b6
  have c6 := Nat.lt_trans l2 l3
  have c0 := Nat.lt_trans c6 l4
  have fn : ∀ q : Addr, PL < q → AllLt q news := fun q h => allLt_le (Nat.le_of_lt h) b0
  have g : ∀ q : Addr, PL < q → q ≠ 114 := fun q h => Nat.ne_of_gt (Nat.lt_trans c0 h)
  refine hret q2a PL [(q1a, _), (q2a, _), q3, (q4a, _), q5, q6, q7] ps tk2 ⟨q1a, q4a, fdS, fdR, tk, _, .tail _ (.head _), .head _, .tail _ (.tail _ (.tail _ (.head _))), ?_, hr⟩ b0 c0 ?_ ?_ ?_ _ _ F9 ?_
  · lcg_sub
  · exact List.forall_mem_cons.mpr ⟨Nat.ne_of_gt a1, List.forall_mem_cons.mpr ⟨Nat.ne_of_gt a2, List.forall_mem_cons.mpr ⟨Nat.ne_of_gt a3, List.forall_mem_cons.mpr ⟨Nat.ne_of_gt a4, List.forall_mem_cons.mpr ⟨Nat.ne_of_gt l5, List.forall_mem_cons.mpr ⟨Nat.ne_of_lt l4, List.forall_mem_cons.mpr ⟨Nat.ne_of_lt a7, fun _ h => nomatch h⟩⟩⟩⟩⟩⟩⟩
  · exact List.forall_mem_cons.mpr ⟨fn _ a1, List.forall_mem_cons.mpr ⟨fn _ a2, List.forall_mem_cons.mpr ⟨fn _ a3, List.forall_mem_cons.mpr ⟨fn _ a4, List.forall_mem_cons.mpr ⟨fn _ l5, List.forall_mem_cons.mpr ⟨b6, List.forall_mem_cons.mpr ⟨l1, fun _ h => nomatch h⟩⟩⟩⟩⟩⟩⟩
  · exact List.forall_mem_cons.mpr ⟨g _ a1, List.forall_mem_cons.mpr ⟨g _ a2, List.forall_mem_cons.mpr ⟨g _ a3, List.forall_mem_cons.mpr ⟨g _ a4, List.forall_mem_cons.mpr ⟨g _ l5, List.forall_mem_cons.mpr ⟨Nat.ne_of_gt c6, List.forall_mem_cons.mpr ⟨Nat.ne_of_gt l2, fun _ h => nomatch h⟩⟩⟩⟩⟩⟩⟩
  · exact cb_drop N9 (by simp only [List.cons_append, List.nil_append]; lcg_sub)
end
section
local macro_rules | `(tactic| walk_at "none of these") => `(tactic| fail)
-- LexInit
abbrev lexDict (w : World) (hs : Tok × Tok × Tok × Tok) (ln : Int) (tl : Tok) (ST PB : Addr) (tw : Tok) : Obj := dictOf [DictEntry.mk (PyData.keyHash w.params "lineno") (.str "lineno" hs.1) (.int ln tl), DictEntry.mk (PyData.keyHash w.params "instream") (.str "instream" hs.2.1) (.ref ST), DictEntry.mk (PyData.keyHash w.params "whitespace") (.str "whitespace" hs.2.2.1) (.str "\n\t\r " tw), DictEntry.mk (PyData.keyHash w.params "pushback") (.str "pushback" hs.2.2.2) (.ref PB)] 4
set_option maxRecDepth 100000 in
set_option maxHeartbeats 2000000 in
theorem c_lexinit (prog : Program) (w : World) (news : List (Addr × Obj)) (l : Addr) :
   ConG prog w (KF w.params) 2 16 (call (.ref 59) [.ref l]) news (fun P => ∀ x dx pb hs tl tw, AllLt dx news → (@LT.lt Nat _ dx x) → (@LT.lt Nat _ x pb) → P (.ref x) ((pb, W.listOf #[] 0) :: (x, instObj 59 dx) :: (dx, lexDict w hs 1 tl l pb tw) :: news)) := by
  intro p loose mean mg mb dp un gd cn cs a ccd cl outer A₀ base h₀ L m s Q E B F X N T hk hd hu hret
  k_dflt (refine' call_cls ?k1 ?k2 ?k3 ?k4 ?k5 ?k6 ?_; (case k1 => k_asm); (case k2 => k_asm); (case k3 => k_asm); (case k4 => k_is); (case k5 => k_is); (case k6 => k_is); k_whole; intro x' d' h' F' N' l1 l2)
  have l3 := allLt_of l1
  have l4 := l2
  (try k_lt l1)
  (try k_lt2 l2)
  k_dflt (refine' code_def (binds := [(Str.ofString "self", .ref x'), (Str.ofString "fp", .ref l)]) ?k1 ?k2 ?k3 ?k4 ?k5 ?kA ?kF ?kK ?k6 ?k7 ?k8 ?k9 ?kB ?_ ?c2 ?c3 ?c4 ?c5; (case kA => exact rfl); (case kF => exact rfl); (case kK => assumption); (case k1 => k_asm); (case k2 => k_asm); (case k3 => k_asm); (case k4 => k_asm); (case k5 => k_asm); (case k6 => k_is); (case k7 => k_is); (case k8 => ktr_room); (case k9 => exact BindsTo.of_eq rfl); (case c5 => decide); (case kB => exact locs rfl); (case c2 => exact rfl); (case c3 => exact rfl); (case c4 => exact rfl); k_whole; intro g' L' h' FG' F' N' B' X' T'; (try dsimp only); (try k_lift B'); (try k_fold))
  k_steps
  rename_i lp _ l5 _ _ _ _ _ _ _
  trace_state
  exact hret x' d' lp (_, _, _, _) _ _ l3 l4 l5.1 _ _ (by k_asm) (by k_asm)
end
section
-- ReadCh
noncomputable def lnAt (c : Str) (ln : Nat) : Nat := if c = "\n" then ln + 1 else ln
/-- a call's contract, as a code -/
noncomputable def ConK (prog : Program) (w : World) (K : Frag) (dd uu : Nat) (f : Value) (args : List Value) (news : List (Addr × Obj)) (G : (Value → List (Addr × Obj) → Prop) → Prop) : Prop :=
  ∀ (p : Program) (loose : List Str) (mean : ExcName → Option Value) (mg mb : Str → Option Value) (dp un : Nat) (gd : Option (List Code)) (cn : Str) (cs : Scope) (a : Addr) (ccd : Value) (cl : List (Str × Addr)) (outer : List Env) (A₀ : Around) (base h₀ : Heap) (L : Addr) (m : Str → Option Value) (s : Shared) (Q E : Value → Shared → Prop),
    Below A₀ base outer h₀ → Fr h₀ L s.heap m → K.In h₀ → News h₀ L s.heap news → Top p loose mean mg mb h₀ → cs.kind = .function → dp + dd < recursionLimit → un + uu < cLine →
    G (fun r nw => ∀ h' tk', Fr h₀ L h' m → News h₀ L h' nw → Q r { s with heap := h', toks := tk' }) →
    codeAny (model prog w) (ktrTop dp un gd cn cs L a ccd cl outer) (.call f ⟨args, []⟩) (fun r s' => match r with | .ok (.ret v) => Q v s' | .ok _ => False | .error e => E e s') s
theorem ConK.con {prog : Program} {w : World} {K : Frag} {dd uu : Nat} {f : Value} {args : List Value} {news : List (Addr × Obj)} {G : (Value → List (Addr × Obj) → Prop) → Prop} (C : ConK prog w K dd uu f args news G) : ConG prog w K dd uu (call f args) news G :=
  fun p loose mean mg mb dp un gd cn cs a ccd cl outer A₀ base h₀ L m s Q E B F X N T hk hd hu ret => wpAny_call (C p loose mean mg mb dp un gd cn cs a ccd cl outer A₀ base h₀ L m s Q E B F X N T hk hd hu ret)
structure LexCtx (prog : Program) (w : World) (K : Frag) (XL DX ST PL : Addr) (text : Str) (news : List (Addr × Obj)) : Prop where
  hX : (XL, instObj 59 DX) ∈ news
  hS : ∃ (DS RD : Addr) (fdS fdR : FuncData) (tk : Tok) (im : List (Addr × Obj)), (ST, fnObj fdS (some DS)) ∈ news ∧ (DS, dictOf [DictEntry.mk (PyData.keyHash w.params "read") (.str "read" tk) (.ref RD)] 1) ∈ news ∧ (RD, fnObj fdR none) ∈ news ∧ (∀ q ∈ im, q ∈ news) ∧ ReadOK prog w K RD PL text im
  hPL : ∀ q ∈ news, q.1 ≠ PL
  hDX : ∀ q ∈ news, q.1 ≠ DX
  lt : @LT.lt Nat _ PL DX
theorem LexCtx.ext {prog : Program} {w : World} {K : Frag} {XL DX ST PL : Addr} {text : Str} {news news' : List (Addr × Obj)} (C : LexCtx prog w K XL DX ST PL text news) (h : ∀ q ∈ news, q ∈ news') (h1 : ∀ q ∈ news', q.1 ≠ PL) (h2 : ∀ q ∈ news', q.1 ≠ DX) : LexCtx prog w K XL DX ST PL text news' :=
  ⟨h _ C.hX, let ⟨DS, RD, fdS, fdR, tk, im, a, b, c, d, e⟩ := C.hS; ⟨DS, RD, fdS, fdR, tk, im, h _ a, h _ b, h _ c, fun q hq => h _ (d q hq), e⟩, h1, h2, C.lt⟩
set_option maxRecDepth 100000 in
set_option maxHeartbeats 2000000 in
theorem c_readch (prog : Program) (w : World) (news : List (Addr × Obj)) (XL DX ST PB PL : Addr) (tp tl tw : Tok) (hs : Tok × Tok × Tok × Tok) (p ln : Nat) (text : Str)
   (C : LexCtx prog w (KF w.params) XL DX ST PL text news) :
   ConK prog w (KF w.params) 2 16 (.ref 42) [.ref XL] ((PL, W.listOf #[.int (p : Nat) tp] 0) :: (DX, lexDict w hs (ln : Nat) tl ST PB tw) :: news)
     (fun P => ∀ tp' tl' u, P (.str (chAt text p) u) ((PL, W.listOf #[.int ((p + 1 : Nat) : Int) tp'] 0) :: (DX, lexDict w hs ((lnAt (chAt text p) ln : Nat) : Int) tl' ST PB tw) :: news)) := by
  intro p' loose mean mg mb dp un gd cn cs a ccd cl outer A₀ base h₀ L m s Q E B F X N T hk hd hu hret
  obtain ⟨hX, ⟨DS, RD, fdS, fdR, tkr, im, hST, hDS, hRD, him, hr⟩, hPL, hDX, hne⟩ := C
  k_dflt (refine' code_def (binds := [(Str.ofString "self", .ref XL)]) ?k1 ?k2 ?k3 ?k4 ?k5 ?kA ?kF ?kK ?k6 ?k7 ?k8 ?k9 ?kB ?_ ?c2 ?c3 ?c4 ?c5; (case kA => exact rfl); (case kF => exact rfl); (case kK => assumption); (case k1 => k_asm); (case k2 => k_asm); (case k3 => k_asm); (case k4 => k_asm); (case k5 => k_asm); (case k6 => k_is); (case k7 => k_is); (case k8 => ktr_room); (case k9 => exact BindsTo.of_eq rfl); (case c5 => decide); (case kB => exact locs rfl); (case c2 => exact rfl); (case c3 => exact rfl); (case c4 => exact rfl); k_whole; intro g' L' h' FG' F' N' B' X' T'; (try dsimp only); (try k_lift B'); (try k_fold))
  (repeat' first | with_reducible ((with_reducible show wpAny _ _ (callWith _ (Value.ref _) _ _ _) _ _ _); (k_here; k_dflt (refine' callWith_F ?k1 ?_; (case k1 => exact FnAt.of (by k_asm) (.tail _ (.tail _ (by assumption)))); k_whole))) | with_reducible (k_here; (with_reducible show wpAny _ _ (getMethod _ (PySem.Str.ofString "read") _) _ _ _); k_dflt (refine' fn_method_K ?N ?a ?b ?c ?_; (case N => k_asm); (case a => exact .tail _ (.tail _ (by assumption))); (case b => exact .tail _ (.tail _ (by assumption))); (case c => rfl); k_whole)) | walk_at "STEP")
  k_dflt (refine' conG_use (hr p tp _ ((DX, lexDict w hs (ln : Nat) tl ST PB tw) :: news) (fun q hq => .tail _ (him q hq)) ?m1) ?k1 ?k2 ?k3 ?k4 ?k5 ?kK ?kd ?ku ?_; (case k1 => k_asm); (case k2 => k_asm); (case k3 => k_asm); (case k4 => k_asm); (case k5 => k_asm); (case kK => exact rfl); (case kd => ktr_room); (case ku => ktr_units); (case m1 => exact List.forall_mem_cons.mpr ⟨Nat.ne_of_gt hne, hPL⟩); (intro tp9 t9 h9 tk9 F9 N9))
  clear F' N'
  (repeat' first | with_reducible ((with_reducible show wpAny _ _ (callWith _ (Value.ref _) _ _ _) _ _ _); (k_here; k_dflt (refine' callWith_F ?k1 ?_; (case k1 => exact FnAt.of (by k_asm) (.tail _ (.tail _ (by assumption)))); k_whole))) | with_reducible (k_here; (with_reducible show wpAny _ _ (getMethod _ (PySem.Str.ofString "read") _) _ _ _); k_dflt (refine' fn_method_K ?N ?a ?b ?c ?_; (case N => k_asm); (case a => exact .tail _ (.tail _ (by assumption))); (case b => exact .tail _ (.tail _ (by assumption))); (case c => rfl); k_whole)) | walk_at "STEP")
  · rw [show lnAt (chAt text p) ln = ln + 1 from if_pos (eq_of_beq (by assumption))] at hret
    exact hret tp9 _ t9 _ _ (by k_asm) (by k_asm)
  · rw [show lnAt (chAt text p) ln = ln from if_neg (ne_of_beq_false (by assumption))] at hret
    exact hret tp9 _ t9 _ _ (by k_asm) (by k_asm)
end
section
-- LexNext
theorem fn42 (w : World) : ∃ o fd, (KF w.params).lookup 42 = some o ∧ o.data = .func fd := ⟨_, _, by rfl, rfl⟩
theorem codeK {prog : Program} {w : World} {K : Frag} {dd uu : Nat} {f : Value} {args : List Value} {news : List (Addr × Obj)} {G : (Value → List (Addr × Obj) → Prop) → Prop} (C : ConK prog w K dd uu f args news G)
    {p : Program} {loose : List Str} {mean : ExcName → Option Value} {mg mb : Str → Option Value} {dp un : Nat} {gd : Option (List Code)} {cn : Str} {cs : Scope} {a : Addr} {ccd : Value} {cl : List (Str × Addr)} {outer : List Env} {A₀ : Around} {base h₀ : Heap} {L : Addr} {m : Str → Option Value} {s : Shared} (Q : Value → Shared → Prop) {R : Result → Shared → Prop}
    (B : Below A₀ base outer h₀) (F : Fr h₀ L s.heap m) (X : K.In h₀) (N : News h₀ L s.heap news) (T : Top p loose mean mg mb h₀) (hk : cs.kind = .function) (hd : dp + dd < recursionLimit) (hu : un + uu < cLine)
    (ret : G (fun r nw => ∀ h' tk', Fr h₀ L h' m → News h₀ L h' nw → Q r { s with heap := h', toks := tk' })) (hR : ∀ v s', Q v s' → R (.ok (.ret v)) s') :
    codeAny (model prog w) (ktrTop dp un gd cn cs L a ccd cl outer) (.call f ⟨args, []⟩) R s :=
  codeAny_mono (C p loose mean mg mb dp un gd cn cs a ccd cl outer A₀ base h₀ L m s Q (fun _ _ => False) B F X N T hk hd hu ret) fun r s' h => by
    rcases r with e | f
    · exact h.elim
    · cases f with
      | ret v => exact hR _ _ h
      | next => exact h.elim
      | cont => exact h.elim
      | brk => exact h.elim
theorem lex_next {prog : Program} {w : World} {news : List (Addr × Obj)} {XL DX ST PB PL CI BM : Addr} {tp tl tw tq : Tok} {hs : Tok × Tok × Tok × Tok} {p ln : Nat} {text : Str}
    (C : LexCtx prog w (KF w.params) XL DX ST PL text news) (hb : (BM, methodObj (.ref 42) (.ref XL)) ∈ news) (h1 : @LT.lt Nat _ PL CI) (h2 : @LT.lt Nat _ DX CI) (h3 : ∀ q ∈ news, q.1 ≠ CI)
    {pp : Program} {loose : List Str} {mean : ExcName → Option Value} {mg mb : Str → Option Value} {dp un : Nat} {gd : Option (List Code)} {cn : Str} {cs : Scope} {a : Addr} {ccd : Value} {cl : List (Str × Addr)} {outer : List Env} {A₀ : Around} {base h₀ : Heap} {L : Addr} {m : Str → Option Value} {s : Shared} {Q : Option Value → Shared → Prop} {E : Value → Shared → Prop}
    (B : Below A₀ base outer h₀) (F : Fr h₀ L s.heap m) (X : (KF w.params).In h₀) (N : News h₀ L s.heap ((PL, W.listOf #[.int (p : Nat) tp] 0) :: (DX, lexDict w hs (ln : Nat) tl ST PB tw) :: (CI, ciObj (.ref BM) (.str "" tq) false) :: news)) (T : Top pp loose mean mg mb h₀) (hk : cs.kind = .function) (hd : dp + 3 < recursionLimit) (hu : un + 20 < cLine)
    (q1 : ∀ h' tk tp' tl' u, chAt text p ≠ "" → Fr h₀ L h' m → News h₀ L h' ((PL, W.listOf #[.int ((p + 1 : Nat) : Int) tp'] 0) :: (DX, lexDict w hs ((lnAt (chAt text p) ln : Nat) : Int) tl' ST PB tw) :: (CI, ciObj (.ref BM) (.str "" tq) false) :: news) → Q (some (.str (chAt text p) u)) { s with heap := h', toks := tk })
    (q2 : ∀ h' tk tp' tl', chAt text p = "" → Fr h₀ L h' m → News h₀ L h' ((PL, W.listOf #[.int ((p + 1 : Nat) : Int) tp'] 0) :: (DX, lexDict w hs (ln : Int) tl' ST PB tw) :: (CI, ciObj .none .none true) :: news) → Q none { s with heap := h', toks := tk }) :
    wpAny (model prog w) (ktrTop dp un gd cn cs L a ccd cl outer) (pyNext (.ref CI)) Q E s := by
  obtain ⟨o, fd, ho, hfd⟩ := fn42 w
  have off : ∀ (tp' : Tok) (z : Int) (d : Obj), ∀ q ∈ (PL, W.listOf #[.int z tp'] 0) :: (DX, d) :: news, q.1 ≠ CI := fun _ _ _ => List.forall_mem_cons.mpr ⟨Nat.ne_of_lt h1, List.forall_mem_cons.mpr ⟨Nat.ne_of_lt h2, h3⟩⟩
  refine ci_next (news := (PL, W.listOf #[.int (p : Nat) tp] 0) :: (DX, lexDict w hs (ln : Nat) tl ST PB tw) :: news) rfl F (cb_drop N (by lcg_sub)) (.tail _ (.tail _ hb)) (X _ _ ho) hfd ?_
  refine method_call (N _ (.tail _ (.tail _ (.tail _ hb)))).1 ?_
  refine codeK (dp := dp) (un := un + 1) (gd := gd) (cn := cn) (cs := cs) (a := a) (ccd := ccd) (cl := cl) (outer := outer) (L := L) (c_readch prog w ((CI, ciObj (.ref BM) (.str "" tq) false) :: news) XL DX ST PB PL tp tl tw hs p ln text (C.ext (fun q hq => .tail _ hq) ?_ ?_)) (Q := fun v s' => ∃ y u h' tk' news', v = .str y u ∧ s' = { s with heap := h', toks := tk' } ∧ Fr h₀ L h' m ∧ News h₀ L h' ((CI, ciObj (.ref BM) (.str "" tq) false) :: news') ∧ (BM, methodObj (.ref 42) (.ref XL)) ∈ news' ∧ (∀ p ∈ news', p.1 ≠ CI) ∧
          (y ≠ "" → Q (some (.str y u)) s') ∧ (y = "" → ∀ h'', Fr h₀ L h'' m → News h₀ L h'' ((CI, ciObj .none .none true) :: news') → Q none { s with heap := h'', toks := tk' })) B F X N T hk (by lia) (by lia) ?_ fun v s' h => h
  · exact List.forall_mem_cons.mpr ⟨Nat.ne_of_gt h1, C.hPL⟩
  · exact List.forall_mem_cons.mpr ⟨Nat.ne_of_gt h2, C.hDX⟩
  intro tp' tl' u h' tk' F' N'
  refine ⟨_, u, h', tk', (PL, W.listOf #[.int ((p + 1 : Nat) : Int) tp'] 0) :: (DX, lexDict w hs ((lnAt (chAt text p) ln : Nat) : Int) tl' ST PB tw) :: news, rfl, rfl, F', cb_drop N' (by lcg_sub), .tail _ (.tail _ hb), off _ _ _, fun ne => q1 h' tk' tp' tl' u ne F' N', fun e h'' F'' N'' => ?_⟩
  have e2 : lnAt (chAt text p) ln = ln := by rw [e]; rfl
  rw [e2] at N''
  exact q2 h'' tk' tp' tl' e F'' (cb_drop N'' (by lcg_sub))
end
section
-- GetTokB
noncomputable def MidQ (P : Shared → Prop) (f : Flow) (s : Shared) : Prop := f = .next ∧ P s
noncomputable def MidAt (M : Model) (A : Around) (t : Sem Flow) (Q : Flow → Shared → Prop) (E : Value → Shared → Prop) (s : Shared) : Prop := wpAny M A t Q E s
theorem midAt {M : Model} {A : Around} {t : Sem Flow} {Q : Flow → Shared → Prop} {E : Value → Shared → Prop} {s : Shared} (h : MidAt M A t Q E s) : wpAny M A t Q E s := h
noncomputable def wsIn (c : Str) : Bool := !(Builtin.Str.occurrences "\n\t\r " c 0 ("\n\t\r " : Str).length 1).isEmpty
noncomputable def esc (tx : Str) (p ln : Nat) : Str × Nat × Nat := if chAt tx p = "\\" then (chAt tx (p + 1), p + 1 + 1, lnAt (chAt tx (p + 1)) (lnAt (chAt tx p) ln)) else (chAt tx p, p + 1, lnAt (chAt tx p) ln)
noncomputable def lexBare (tx : Str) : Nat → Nat → Nat → Str → Str × Nat × Nat
  | 0, p, ln, t => (t, p, ln)
  | k + 1, p, ln, t => if chAt tx p = "" then (t, p + 1, ln) else if wsIn (chAt tx p) then (t, p + 1, lnAt (chAt tx p) ln) else lexBare tx k (esc tx p ln).2.1 (esc tx p ln).2.2 (t ++ (esc tx p ln).1)
noncomputable def lexQuote (tx : Str) : Nat → Nat → Nat → Str → Str × Nat × Nat
  | 0, p, ln, t => (t, p, ln)
  | k + 1, p, ln, t => if chAt tx p = "" then (t, p + 1, ln) else if chAt tx p = "\"" then (t, p + 1, lnAt (chAt tx p) ln) else lexQuote tx k (esc tx p ln).2.1 (esc tx p ln).2.2 (t ++ (esc tx p ln).1)
noncomputable def lexSkip (tx : Str) : Nat → Nat → Nat → Str × Nat × Nat
  | 0, p, ln => ("", p, ln)
  | k + 1, p, ln => if chAt tx p = "" then ("", p + 1, ln) else if wsIn (chAt tx p) then lexSkip tx k (p + 1) (lnAt (chAt tx p) ln) else if chAt tx p = "\"" then lexQuote tx k (p + 1) (lnAt (chAt tx p) ln) "" else lexBare tx k (esc tx p ln).2.1 (esc tx p ln).2.2 ("" ++ (esc tx p ln).1)
theorem chAt_len (x : Str) (p : Nat) : (chAt x p).length ≤ 1 := by
  unfold chAt; split
  · exact Nat.le_refl _
  · exact Nat.zero_le _
theorem chAt_lt {x : Str} {p : Nat} (h : chAt x p ≠ "") : p < x.length := by
  rcases Nat.lt_or_ge p x.length with hl | hl
  · exact hl
  · exact absurd (by unfold chAt; rw [show x.cps[p]? = none from Array.getElem?_eq_none hl]; rfl) h
theorem esc_len (x : Str) (p ln : Nat) : (esc x p ln).1.length ≤ 1 := by unfold esc; split <;> exact chAt_len _ _
theorem esc_lo (x : Str) (p ln : Nat) : p + 1 ≤ (esc x p ln).2.1 := by unfold esc; split <;> simp
abbrev ciEnd : Obj := ciObj .none .none true
noncomputable section
theorem skip_end {tx : Str} {k p ln : Nat} {R : Str × Nat × Nat} (h : chAt tx p = "") (hR : lexSkip tx (k + 1) p ln = R) : (("" : Str), p + 1, ln) = R := by rw [← hR]; simp only [lexSkip]; rw [if_pos h]
theorem skip_ws {tx : Str} {k p ln : Nat} {R : Str × Nat × Nat} (h : chAt tx p ≠ "") (h2 : wsIn (chAt tx p) = true) (hR : lexSkip tx (k + 1) p ln = R) : lexSkip tx k (p + 1) (lnAt (chAt tx p) ln) = R := by rw [← hR]; simp only [lexSkip]; rw [if_neg h, if_pos h2]
theorem skip_q {tx : Str} {k p ln : Nat} {R : Str × Nat × Nat} (h : chAt tx p ≠ "") (h2 : wsIn (chAt tx p) = false) (h3 : (chAt tx p == "\"") = true) (hR : lexSkip tx (k + 1) p ln = R) : lexQuote tx k (p + 1) (lnAt (chAt tx p) ln) "" = R := by
  rw [← hR]; simp only [lexSkip]; rw [if_neg h, if_neg (by rw [h2]; exact Bool.false_ne_true), if_pos (eq_of_beq h3)]
theorem skip_b {tx : Str} {k p ln : Nat} {R : Str × Nat × Nat} (h : chAt tx p ≠ "") (h2 : wsIn (chAt tx p) = false) (h3 : (chAt tx p == "\"") = false) (hR : lexSkip tx (k + 1) p ln = R) : lexBare tx k (esc tx p ln).2.1 (esc tx p ln).2.2 ("" ++ (esc tx p ln).1) = R := by
  rw [← hR]; simp only [lexSkip]; rw [if_neg h, if_neg (by rw [h2]; exact Bool.false_ne_true), if_neg (ne_of_beq_false h3)]
theorem bare_end {tx : Str} {k p ln : Nat} {t : Str} {R : Str × Nat × Nat} (h : chAt tx p = "") (hR : lexBare tx (k + 1) p ln t = R) : (t, p + 1, ln) = R := by rw [← hR]; simp only [lexBare]; rw [if_pos h]
theorem bare_ws {tx : Str} {k p ln : Nat} {t : Str} {R : Str × Nat × Nat} (h : chAt tx p ≠ "") (h2 : wsIn (chAt tx p) = true) (hR : lexBare tx (k + 1) p ln t = R) : (t, p + 1, lnAt (chAt tx p) ln) = R := by rw [← hR]; simp only [lexBare]; rw [if_neg h, if_pos h2]
theorem bare_go {tx : Str} {k p ln : Nat} {t : Str} {R : Str × Nat × Nat} (h : chAt tx p ≠ "") (h2 : wsIn (chAt tx p) = false) (hR : lexBare tx (k + 1) p ln t = R) : lexBare tx k (esc tx p ln).2.1 (esc tx p ln).2.2 (t ++ (esc tx p ln).1) = R := by rw [← hR]; simp only [lexBare]; rw [if_neg h, if_neg (by rw [h2]; exact Bool.false_ne_true)]
theorem quote_end {tx : Str} {k p ln : Nat} {t : Str} {R : Str × Nat × Nat} (h : chAt tx p = "") (hR : lexQuote tx (k + 1) p ln t = R) : (t, p + 1, ln) = R := by rw [← hR]; simp only [lexQuote]; rw [if_pos h]
theorem quote_ws {tx : Str} {k p ln : Nat} {t : Str} {R : Str × Nat × Nat} (h : chAt tx p ≠ "") (h2 : (chAt tx p == "\"") = true) (hR : lexQuote tx (k + 1) p ln t = R) : (t, p + 1, lnAt (chAt tx p) ln) = R := by rw [← hR]; simp only [lexQuote]; rw [if_neg h, if_pos (eq_of_beq h2)]
theorem quote_go {tx : Str} {k p ln : Nat} {t : Str} {R : Str × Nat × Nat} (h : chAt tx p ≠ "") (h2 : (chAt tx p == "\"") = false) (hR : lexQuote tx (k + 1) p ln t = R) : lexQuote tx k (esc tx p ln).2.1 (esc tx p ln).2.2 (t ++ (esc tx p ln).1) = R := by rw [← hR]; simp only [lexQuote]; rw [if_neg h, if_neg (ne_of_beq_false h2)]
theorem ws_of {c : Str} {b : Bool} (h : (Builtin.Str.occurrences "\n\t\r " c 0 ("\n\t\r " : Str).length 1).isEmpty = b) : wsIn c = !b := by unfold wsIn; rw [h]
theorem esc_pos {tx : Str} {p ln : Nat} (h : (chAt tx p == "\\") = true) : (chAt tx (p + 1), p + 1 + 1, lnAt (chAt tx (p + 1)) (lnAt (chAt tx p) ln)) = esc tx p ln := (if_pos (eq_of_beq h)).symm
theorem esc_neg {tx : Str} {p ln : Nat} (h : (chAt tx p == "\\") = false) : (chAt tx p, p + 1, lnAt (chAt tx p) ln) = esc tx p ln := (if_neg (ne_of_beq_false h)).symm
theorem app_len {t c : Str} {p q : Nat} (h : t.length ≤ p) (hc : c.length ≤ 1) (hq : p + 1 ≤ q) : (t ++ c).length ≤ q := by rw [Str.length_append]; lia
theorem nx_k {n p k q : Nat} (hl : p < n) (h : n + 1 ≤ p + (k + 1)) (hq : p + 1 ≤ q) : 1 ≤ k ∧ n + 1 ≤ q + k := by lia
theorem fits_add {t c : Str} {p n : Nat} (ht : t.length ≤ p) (hc : c.length ≤ 1) (hl : p < n) (hn : n ≤ 1000) : (t ++ c).length ≤ sizeLine := by rw [sizeLine_eq, Str.length_append]; lia
/-- the lexer's state within get_token -/
noncomputable def LexAt (G : (Str → Option Value) → Prop) (s₀ : Shared) (g : Heap) (L XL DX ST PB PL CI : Addr) (tw : Tok) (hs : Tok × Tok × Tok × Tok) (w : World) (news : List (Addr × Obj)) (o : Obj) (p ln : Nat) (t : Str) (s' : Shared) : Prop :=
  ∃ h tk m tp tl u, s' = { s₀ with heap := h, toks := tk } ∧ Fr g L h m ∧ m (Str.ofString "self") = some (.ref XL) ∧ m (Str.ofString "fiter") = some (.ref CI) ∧ m (Str.ofString "token") = some (.str t u) ∧
    News g L h ((PL, W.listOf #[.int (p : Nat) tp] 0) :: (DX, lexDict w hs (ln : Nat) tl ST PB tw) :: (CI, o) :: news) ∧ G m
theorem LexAt.intro {G : (Str → Option Value) → Prop} {s₀ : Shared} {g : Heap} {L XL DX ST PB PL CI : Addr} {tw : Tok} {hs : Tok × Tok × Tok × Tok} {w : World} {news : List (Addr × Obj)} {o : Obj} {p ln : Nat} {x : Str} {h : Heap} {tk : Nat} {m : Str → Option Value} {tp tl u : Tok}
    (F : Fr g L h m) (N : News g L h ((PL, W.listOf #[.int (p : Nat) tp] 0) :: (DX, lexDict w hs (ln : Nat) tl ST PB tw) :: (CI, o) :: news)) (hG : G m) (h1 : m (Str.ofString "self") = some (.ref XL)) (h2 : m (Str.ofString "fiter") = some (.ref CI)) (h3 : m (Str.ofString "token") = some (.str x u)) :
    LexAt G s₀ g L XL DX ST PB PL CI tw hs w news o p ln x { s₀ with heap := h, toks := tk } := ⟨h, tk, m, tp, tl, u, rfl, F, h1, h2, h3, N, hG⟩
abbrev lexM (XL CI : Addr) (t : Str) (u : Tok) (m : Str → Option Value) : Str → Option Value := fun z => if z = Str.ofString "self" then some (.ref XL) else if z = Str.ofString "fiter" then some (.ref CI) else if z = Str.ofString "token" then some (.str t u) else m z
theorem LexAt.elim {P : Shared → Prop} {G : (Str → Option Value) → Prop} {s₀ : Shared} {g : Heap} {L XL DX ST PB PL CI : Addr} {tw : Tok} {hs : Tok × Tok × Tok × Tok} {w : World} {news : List (Addr × Obj)} {o : Obj} {p ln : Nat} {x : Str} {s' : Shared} (A : LexAt G s₀ g L XL DX ST PB PL CI tw hs w news o p ln x s')
    (k : ∀ (h : Heap) (tk : Nat) (m : Str → Option Value) (tp tl u : Tok), Fr g L h (lexM XL CI x u m) → News g L h ((PL, W.listOf #[.int (p : Nat) tp] 0) :: (DX, lexDict w hs (ln : Nat) tl ST PB tw) :: (CI, o) :: news) → P { s₀ with heap := h, toks := tk }) : P s' := by
  obtain ⟨h, tk, m, tp, tl, u, rfl, F, h1, h2, h3, N, -⟩ := A
  rw [map_seen [(Str.ofString "self", .ref XL), (Str.ofString "fiter", .ref CI), (Str.ofString "token", .str x u)] (List.forall_mem_cons.mpr ⟨h1, List.forall_mem_cons.mpr ⟨h2, List.forall_mem_cons.mpr ⟨h3, fun p hp => (nomatch hp)⟩⟩⟩)] at F
  exact k h tk m tp tl u F N
theorem LexAt.elimC {P : Shared → Prop} {c : Str} {s₀ : Shared} {g : Heap} {L XL DX ST PB PL CI : Addr} {tw : Tok} {hs : Tok × Tok × Tok × Tok} {w : World} {news : List (Addr × Obj)} {o : Obj} {p ln : Nat} {x : Str} {s' : Shared} (A : LexAt (fun m => ∃ u, m (Str.ofString "ch") = some (.str c u)) s₀ g L XL DX ST PB PL CI tw hs w news o p ln x s')
    (k : ∀ (h : Heap) (tk : Nat) (m : Str → Option Value) (tp tl u u' : Tok), Fr g L h (lexM XL CI x u fun z => if z = Str.ofString "ch" then some (.str c u') else m z) → News g L h ((PL, W.listOf #[.int (p : Nat) tp] 0) :: (DX, lexDict w hs (ln : Nat) tl ST PB tw) :: (CI, o) :: news) → P { s₀ with heap := h, toks := tk }) : P s' := by
  obtain ⟨h, tk, m, tp, tl, u, rfl, F, h1, h2, h3, N, u', h4⟩ := A
  rw [map_seen [(Str.ofString "self", .ref XL), (Str.ofString "fiter", .ref CI), (Str.ofString "token", .str x u), (Str.ofString "ch", .str c u')] (List.forall_mem_cons.mpr ⟨h1, List.forall_mem_cons.mpr ⟨h2, List.forall_mem_cons.mpr ⟨h3, List.forall_mem_cons.mpr ⟨h4, fun p hp => (nomatch hp)⟩⟩⟩⟩)] at F
  exact k h tk m tp tl u u' F N
noncomputable def LexJ (spec : Nat → Nat → Nat → Str → Prop) (lo : Obj) (at' : Obj → Nat → Nat → Str → Shared → Prop) (text : Str) (R : Str × Nat × Nat) (k : Nat) (s' : Shared) : Prop :=
  (∃ p ln t, spec k p ln t ∧ t.length ≤ p ∧ (1 ≤ k ∧ text.length + 1 ≤ p + k) ∧ at' lo p ln t s') ∨ at' ciEnd R.2.1 R.2.2 R.1 s'
theorem LexJ.elim {spec : Nat → Nat → Nat → Str → Prop} {lo : Obj} {at' : Obj → Nat → Nat → Str → Shared → Prop} {text : Str} {R : Str × Nat × Nat} {k : Nat} {s' : Shared} {P : Nat → Shared → Prop} (x : LexJ spec lo at' text R k s')
    (live : ∀ k0 p ln t s', spec (k0 + 1) p ln t → t.length ≤ p → text.length + 1 ≤ p + (k0 + 1) → at' lo p ln t s' → P (k0 + 1) s') (done : ∀ k s', at' ciEnd R.2.1 R.2.2 R.1 s' → P k s') : P k s' := by
  rcases x with ⟨p, ln, t, h1, h2, ⟨h3, h4⟩, h6⟩ | x
  · obtain ⟨k0, rfl⟩ : ∃ k0, k = k0 + 1 := ⟨k - 1, by lia⟩
    exact live k0 p ln t s' h1 h2 h4 h6
  · exact done k s' x
theorem LexJ.all {spec : Nat → Nat → Nat → Str → Prop} {lo : Obj} {at' : Obj → Nat → Nat → Str → Shared → Prop} {text : Str} {R : Str × Nat × Nat} {P : Nat → Shared → Prop}
    (live : ∀ k0 p ln t s', spec (k0 + 1) p ln t → t.length ≤ p → text.length + 1 ≤ p + (k0 + 1) → at' lo p ln t s' → P (k0 + 1) s') (done : ∀ k s', at' ciEnd R.2.1 R.2.2 R.1 s' → P k s') : ∀ k s', LexJ spec lo at' text R k s' → P k s' := fun _ _ x => x.elim live done
theorem LexJ.live {spec : Nat → Nat → Nat → Str → Prop} {lo : Obj} {at' : Obj → Nat → Nat → Str → Shared → Prop} {text : Str} {R : Str × Nat × Nat} {k p ln : Nat} {t : Str} {s' : Shared} (h1 : spec k p ln t) (h2 : t.length ≤ p) (h3 : 1 ≤ k ∧ text.length + 1 ≤ p + k) (h6 : at' lo p ln t s') : LexJ spec lo at' text R k s' := .inl ⟨p, ln, t, h1, h2, h3, h6⟩
theorem LexJ.done {spec : Nat → Nat → Nat → Str → Prop} {lo : Obj} {at' : Obj → Nat → Nat → Str → Shared → Prop} {text : Str} {R : Str × Nat × Nat} {k p ln : Nat} {t : Str} {s' : Shared} (e : (t, p, ln) = R) (h : at' ciEnd p ln t s') : LexJ spec lo at' text R k s' := .inr (by rw [← e]; exact h)
theorem forNext_intro {prog : Program} {w : World} {A : Around} {E : Value → Shared → Prop} {env : Env} {v : Str} {body : List Stmt} {Q : Flow → Shared → Prop} {it : Value} {s₂ : Shared} (J : Nat → Shared → Prop) (n : Nat) (h0 : J n s₂)
    (turn : ∀ (JJ : Nat → Shared → Prop), (∀ k s, J k s → JJ k s) → ∀ n s', J n s' → wpAny (model prog w) A (pyNext it) (fun r s₁ => match r with
      | none => Q .next s₁
      | some y => wpAny (model prog w) A (storeName env v y) (fun _ s₂ => wpAny (model prog w) A (execs body env) (NextEnd JJ n Q) E s₂) E s₁) E s') : ForNext prog w A E env v body Q it s₂ := ⟨J, n, h0, turn J fun _ _ h => h⟩
theorem mid_intro {M : Model} {A : Around} {t : Sem Flow} {Q : Flow → Shared → Prop} {E : Value → Shared → Prop} {s : Shared} (P : Shared → Prop) (h1 : ∀ PP : Shared → Prop, (∀ s, P s → PP s) → wpAny M A t (MidQ PP) E s) (h2 : ∀ s, P s → Q .next s) : MidAt M A t Q E s :=
  wpAny_mono (h1 P fun _ h => h) (fun f s h => by obtain ⟨rfl, h⟩ := h; exact h2 s h) fun _ _ h => h
theorem midQ {P PP : Shared → Prop} {s : Shared} (hp : ∀ s, P s → PP s) (h : P s) : MidQ PP .next s := ⟨rfl, hp s h⟩
theorem nextEnd_next {JJ : Nat → Shared → Prop} {k : Nat} {Q : Flow → Shared → Prop} {s : Shared} (h : JJ k s) : NextEnd JJ (k + 1) Q .next s := ⟨k, Nat.lt_succ_self k, h⟩
theorem nextEnd_cont {JJ : Nat → Shared → Prop} {k : Nat} {Q : Flow → Shared → Prop} {s : Shared} (h : JJ k s) : NextEnd JJ (k + 1) Q .cont s := ⟨k, Nat.lt_succ_self k, h⟩
theorem nextEnd_zero {JJ : Nat → Shared → Prop} {k : Nat} {Q : Flow → Shared → Prop} {s : Shared} (h : JJ 0 s) : NextEnd JJ (k + 1) Q .next s := ⟨0, Nat.succ_pos k, h⟩
theorem nextEnd_ret {JJ : Nat → Shared → Prop} {k : Nat} {Q : Flow → Shared → Prop} {v : Value} {s : Shared} (h : Q (.ret v) s) : NextEnd JJ k Q (.ret v) s := h
end
set_option maxRecDepth 100000 in
set_option maxHeartbeats 4000000 in
theorem c_lex (prog : Program) (w : World) (news : List (Addr × Obj)) (XL DX ST PB PL : Addr) (tp tl tw : Tok) (hs : Tok × Tok × Tok × Tok) (p ln kb : Nat) (text : Str)
   (C : LexCtx prog w (KF w.params) XL DX ST PL text news) (hB : (PB, W.listOf (#[] : Array Value) kb) ∈ news) (hsz : text.length ≤ 1000) :
   ConG prog w (KF w.params) 6 40 (call (.ref 49) [.ref XL]) ((PL, W.listOf #[.int (p : Nat) tp] 0) :: (DX, lexDict w hs (ln : Nat) tl ST PB tw) :: news)
     (fun P => ∀ tp' tl' u, P (.str (lexSkip text (text.length + 2) p ln).1 u) ((PL, W.listOf #[.int ((lexSkip text (text.length + 2) p ln).2.1 : Nat) tp'] 0) :: (DX, lexDict w hs ((lexSkip text (text.length + 2) p ln).2.2 : Nat) tl' ST PB tw) :: news)) := by
  generalize hR : lexSkip text (text.length + 2) p ln = R
  intro p' loose mean mg mb dp un gd cn cs a ccd cl outer A₀ base h₀ L m s Q E B F X N T hk hd hu hret
  have hX := C.hX
  have hPL := C.hPL
  have hDX := C.hDX
  have hlt := C.lt
  refine wpAny_call ?_
  k_dflt (refine' code_def (binds := [(Str.ofString "self", .ref XL)]) ?k1 ?k2 ?k3 ?k4 ?k5 ?kA ?kF ?kK ?k6 ?k7 ?k8 ?k9 ?kB ?_ ?c2 ?c3 ?c4 ?c5; (case kA => exact rfl); (case kF => exact rfl); (case kK => assumption); (case k1 => k_asm); (case k2 => k_asm); (case k3 => k_asm); (case k4 => k_asm); (case k5 => k_asm); (case k6 => k_is); (case k7 => k_is); (case k8 => ktr_room); (case k9 => exact BindsTo.of_eq rfl); (case c5 => decide); (case kB => exact locs rfl); (case c2 => exact rfl); (case c3 => exact rfl); (case c4 => exact rfl); k_whole; intro g' L' h' FG' F' N' B' X' T'; (try dsimp only); (try k_lift B'); (try k_fold))
  (repeat' first | with_reducible (refine nextEnd_ret ?_) | with_reducible (refine nextEnd_ret ?_) | with_reducible ((fail_if_success (with_reducible show wpAny _ _ _ (MidQ _) _ _)); (with_reducible show wpAny _ _ (exec (Stmt.If (Expr.Compare _ [CmpOp.Eq] _ _) _ [] _) _) _ _ _); with_reducible refine midAt ?_) | with_reducible ((with_reducible show wpAny _ _ (inplaceOp _ (Value.str _ _) (Value.str _ _)) _ _ _); (k_here; k_dflt (refine PyProof.Rows.iadd_str ?_ (by first | exact fits_add (by assumption) (esc_len _ _ _) (by assumption) (by assumption) | (rw [sizeLine_eq]; (try simp only [Str.length_append]); lia))); intro _ _)) | with_reducible ((with_reducible show wpAny _ _ (exec (Stmt.For _ _ _ _ _) _) _ _ _); (k_here; (with_unfolding_all refine for_nextK ?_); k_whole)) | with_reducible (k_here; (with_reducible show wpAny _ _ (call (Value.builtin _) [Value.ref _, Value.str _ _]) _ _ _); k_dflt (refine' ci_new_K ?F ?N ?b ?_; (case F => k_asm); (case N => k_asm); (case b => k_mem); k_whole); intro I' h' F' N' l1; (try k_lt l1); revert I' h' F' N' l1; intros) | walk_at "STEP")
  k_dflt (refine' kgr_truthy (vs := []) ?k1 (.tail _ (.tail _ hB)) rfl rfl ?k2 ?_; (case k1 => k_asm); (case k2 => decide))
  dsimp only [List.length_nil, List.isEmpty_nil, List.isEmpty]
  (repeat' first | with_reducible (refine nextEnd_ret ?_) | with_reducible (refine nextEnd_ret ?_) | with_reducible ((fail_if_success (with_reducible show wpAny _ _ _ (MidQ _) _ _)); (with_reducible show wpAny _ _ (exec (Stmt.If (Expr.Compare _ [CmpOp.Eq] _ _) _ [] _) _) _ _ _); with_reducible refine midAt ?_) | with_reducible ((with_reducible show wpAny _ _ (inplaceOp _ (Value.str _ _) (Value.str _ _)) _ _ _); (k_here; k_dflt (refine PyProof.Rows.iadd_str ?_ (by first | exact fits_add (by assumption) (esc_len _ _ _) (by assumption) (by assumption) | (rw [sizeLine_eq]; (try simp only [Str.length_append]); lia))); intro _ _)) | with_reducible ((with_reducible show wpAny _ _ (exec (Stmt.For _ _ _ _ _) _) _ _ _); (k_here; (with_unfolding_all refine for_nextK ?_); k_whole)) | with_reducible (k_here; (with_reducible show wpAny _ _ (call (Value.builtin _) [Value.ref _, Value.str _ _]) _ _ _); k_dflt (refine' ci_new_K ?F ?N ?b ?_; (case F => k_asm); (case N => k_asm); (case b => k_mem); k_whole); intro I' h' F' N' l1; (try k_lt l1); revert I' h' F' N' l1; intros) | walk_at "STEP")
  rename_i tk1 tk2 hh3 BM hh2 m1 CI hh1 m2 hh0 FF NN
  have m2a := m2.1
  have m2b := m2.2.1
  have m2c := m2.2.2.1
  have C2 : LexCtx prog w (Mine.KF w.params) XL DX ST PL text ((BM, methodObj (.ref 42) (.ref XL)) :: news) := C.ext (fun q hq => .tail _ hq) (List.forall_mem_cons.mpr ⟨Nat.ne_of_gt m1.1, hPL⟩) (List.forall_mem_cons.mpr ⟨Nat.ne_of_gt m1.2.1, hDX⟩)
  have hC2 : ∀ q ∈ (BM, methodObj (.ref 42) (.ref XL)) :: news, q.1 ≠ CI := List.forall_mem_cons.mpr ⟨Nat.ne_of_lt m2a, ne_of_allLt m2.2.2.2⟩
  have C3 : ∀ o, LexCtx prog w (Mine.KF w.params) XL DX ST PL text ((CI, o) :: (BM, methodObj (.ref 42) (.ref XL)) :: news) := fun o => C2.ext (fun q hq => .tail _ hq) (List.forall_mem_cons.mpr ⟨Nat.ne_of_gt m2b, C2.hPL⟩) (List.forall_mem_cons.mpr ⟨Nat.ne_of_gt m2c, C2.hDX⟩)
  have NN' : News g' L' hh0 ((PL, W.listOf #[.int (p : Nat) tp] 0) :: (DX, lexDict w hs (ln : Nat) tl ST PB tw) :: (CI, ciObj (.ref BM) (.str "" (tk2 + 1 + 1 + 1)) false) :: (BM, methodObj (.ref 42) (.ref XL)) :: news) := cb_drop NN (by lcg_sub)
  have hBM : (BM, methodObj (.ref 42) (.ref XL)) ∈ (BM, methodObj (.ref 42) (.ref XL)) :: news := .head _
  have hX2 : (XL, instObj 59 DX) ∈ (BM, methodObj (.ref 42) (.ref XL)) :: news := .tail _ hX
  have fin : ∀ v x p' ln' h' tk' tp' tl' o, (x, p', ln') = R → IsStr x v → Fr h₀ L h' m → News h₀ L h' ((PL, W.listOf #[.int (p' : Nat) tp'] 0) :: (DX, lexDict w hs (ln' : Nat) tl' ST PB tw) :: (CI, o) :: (BM, methodObj (.ref 42) (.ref XL)) :: news) → Q v { s with heap := h', toks := tk' } := by
    intro v x p' ln' h' tk' tp' tl' o e i F N
    subst e
    obtain ⟨u, rfl⟩ := i
    exact hret tp' tl' u h' tk' F (cb_drop N (subs_cons (.head _) (subs_cons (.tail _ (.head _)) (fun q hq => .tail _ (.tail _ (.tail _ (.tail _ hq)))))))
  k_dflt (refine ci_iter (NN _ (.head _)).1 ?_)
  clear NN hret m1 m2
  generalize (BM, methodObj (.ref 42) (.ref XL)) :: news = news2 at C2 hC2 C3 NN' hBM hX2 fin
  refine forNext_intro (LexJ (fun k p ln t => lexSkip text k p ln = R ∧ t = "") (ciObj (.ref BM) (.str "" (tk2 + 1 + 1 + 1)) false) (LexAt (fun _ => True) s g' L' XL DX ST PB PL CI tw hs w news2) text R) (text.length + 2) (.live ⟨hR, rfl⟩ (Nat.zero_le _) ⟨by lia, by lia⟩ (.intro FF NN' trivial rfl rfl rfl)) ?_
  clear FF NN' hR N F
  intro JJ hJJ
  refine LexJ.all ?_ ?_
  · intro k p1 ln1 t1 s5 hRs ht1 hk2 hA
    refine LexAt.elim hA ?_
    clear hA
    intro h1 q1 m1 tp1 tl1 u1 F1 N1
    have hR := hRs.1
    rw [hRs.2] at F1
    k_dflt (refine' lex_next (p := p1) (ln := ln1) (tp := tp1) (tl := tl1) (CI := CI) (BM := BM) C2 hBM m2b m2c hC2 ?k1 ?k2 ?k3 ?k4 ?k5 ?kK ?kd ?ku ?_ ?_; (case k1 => k_asm); (case k2 => k_asm); (case k3 => k_asm); (case k4 => exact N1); (case k5 => k_asm); (case kK => exact rfl); (case kd => ktr_room); (case ku => ktr_units))
    · intro h2 q2 tp2 tl2 u2 hne F2 N2
      have hlt1 := chAt_lt hne
      clear F1 N1
      (try dsimp only)
      (repeat' first | with_reducible (refine nextEnd_ret ?_) | with_reducible (refine nextEnd_ret ?_) | with_reducible ((fail_if_success (with_reducible show wpAny _ _ _ (MidQ _) _ _)); (with_reducible show wpAny _ _ (exec (Stmt.If (Expr.Compare _ [CmpOp.Eq] _ _) _ [] _) _) _ _ _); with_reducible refine midAt ?_) | with_reducible ((with_reducible show wpAny _ _ (inplaceOp _ (Value.str _ _) (Value.str _ _)) _ _ _); (k_here; k_dflt (refine PyProof.Rows.iadd_str ?_ (by first | exact fits_add (by assumption) (esc_len _ _ _) (by assumption) (by assumption) | (rw [sizeLine_eq]; (try simp only [Str.length_append]); lia))); intro _ _)) | with_reducible ((with_reducible show wpAny _ _ (exec (Stmt.For _ _ _ _ _) _) _ _ _); (k_here; (with_unfolding_all refine for_nextK ?_); k_whole)) | with_reducible (k_here; (with_reducible show wpAny _ _ (call (Value.builtin _) [Value.ref _, Value.str _ _]) _ _ _); k_dflt (refine' ci_new_K ?F ?N ?b ?_; (case F => k_asm); (case N => k_asm); (case b => k_mem); k_whole); intro I' h' F' N' l1; (try k_lt l1); revert I' h' F' N' l1; intros) | walk_at "STEP")
      · rename_i hh F3 N3 tka hw tkb hq
        replace hR := skip_q hne (ws_of hw) hq hR
        have hkn := nx_k hlt1 hk2 (Nat.le_refl _)
        k_dflt (refine ci_iter (N3 _ (.tail _ (.tail _ (.head _)))).1 ?_)
        refine forNext_intro (LexJ (fun k p ln t => lexQuote text k p ln t = R) (ciObj (.ref BM) (.str "" (tk2 + 1 + 1 + 1)) false) (LexAt (fun _ => True) s g' L' XL DX ST PB PL CI tw hs w news2) text R) k (.live hR (Nat.zero_le _) hkn (.intro F3 N3 trivial rfl rfl rfl)) ?_
        clear hR F3 N3 ht1 hk2 hkn hne
        rename ∀ (k : Nat) (s : Shared), _ → _ => hJ0
        clear hlt1
        intro JJ hJJ
        refine LexJ.all ?_ ?_
        · intro k p1 ln1 t1 s5 hR ht1 hk2 hA
          refine LexAt.elim hA ?_
          clear hA
          intro h1 q1 m1 tp1 tl1 u1 F1 N1
          k_dflt (refine' lex_next (p := p1) (ln := ln1) (tp := tp1) (tl := tl1) (CI := CI) (BM := BM) C2 hBM m2b m2c hC2 ?k1 ?k2 ?k3 ?k4 ?k5 ?kK ?kd ?ku ?_ ?_; (case k1 => k_asm); (case k2 => k_asm); (case k3 => k_asm); (case k4 => exact N1); (case k5 => k_asm); (case kK => exact rfl); (case kd => ktr_room); (case ku => ktr_units))
          · intro h2 q2 tp2 tl2 u2 hne F2 N2
            have hlt1 := chAt_lt hne
            clear F1 N1
            (try dsimp only)
            (repeat' first | with_reducible (refine nextEnd_ret ?_) | with_reducible (refine nextEnd_ret ?_) | with_reducible ((fail_if_success (with_reducible show wpAny _ _ _ (MidQ _) _ _)); (with_reducible show wpAny _ _ (exec (Stmt.If (Expr.Compare _ [CmpOp.Eq] _ _) _ [] _) _) _ _ _); with_reducible refine midAt ?_) | with_reducible ((with_reducible show wpAny _ _ (inplaceOp _ (Value.str _ _) (Value.str _ _)) _ _ _); (k_here; k_dflt (refine PyProof.Rows.iadd_str ?_ (by first | exact fits_add (by assumption) (esc_len _ _ _) (by assumption) (by assumption) | (rw [sizeLine_eq]; (try simp only [Str.length_append]); lia))); intro _ _)) | with_reducible ((with_reducible show wpAny _ _ (exec (Stmt.For _ _ _ _ _) _) _ _ _); (k_here; (with_unfolding_all refine for_nextK ?_); k_whole)) | with_reducible (k_here; (with_reducible show wpAny _ _ (call (Value.builtin _) [Value.ref _, Value.str _ _]) _ _ _); k_dflt (refine' ci_new_K ?F ?N ?b ?_; (case F => k_asm); (case N => k_asm); (case b => k_mem); k_whole); intro I' h' F' N' l1; (try k_lt l1); revert I' h' F' N' l1; intros) | walk_at "STEP")
            · have hE := quote_ws hne (by assumption) hR
              clear hR
              (repeat' first | with_reducible (refine nextEnd_ret ?_) | with_reducible (refine nextEnd_ret ?_) | with_reducible ((fail_if_success (with_reducible show wpAny _ _ _ (MidQ _) _ _)); (with_reducible show wpAny _ _ (exec (Stmt.If (Expr.Compare _ [CmpOp.Eq] _ _) _ [] _) _) _ _ _); with_reducible refine midAt ?_) | with_reducible ((with_reducible show wpAny _ _ (inplaceOp _ (Value.str _ _) (Value.str _ _)) _ _ _); (k_here; k_dflt (refine PyProof.Rows.iadd_str ?_ (by first | exact fits_add (by assumption) (esc_len _ _ _) (by assumption) (by assumption) | (rw [sizeLine_eq]; (try simp only [Str.length_append]); lia))); intro _ _)) | with_reducible ((with_reducible show wpAny _ _ (exec (Stmt.For _ _ _ _ _) _) _ _ _); (k_here; (with_unfolding_all refine for_nextK ?_); k_whole)) | with_reducible (k_here; (with_reducible show wpAny _ _ (call (Value.builtin _) [Value.ref _, Value.str _ _]) _ _ _); k_dflt (refine' ci_new_K ?F ?N ?b ?_; (case F => k_asm); (case N => k_asm); (case b => k_mem); k_whole); intro I' h' F' N' l1; (try k_lt l1); revert I' h' F' N' l1; intros) | walk_at "STEP")
              all_goals exact fin _ _ _ _ _ _ _ _ _ hE ⟨_, rfl⟩ (by k_asm) (by k_asm)
            · replace hR := quote_go hne (by assumption) hR
              refine mid_intro ((LexAt (fun m => ∃ u, m (Str.ofString "ch") = some (.str (esc text p1 ln1).1 u)) s g' L' XL DX ST PB PL CI tw hs w news2) (ciObj (.ref BM) (.str "" (tk2 + 1 + 1 + 1)) false) (esc text p1 ln1).2.1 (esc text p1 ln1).2.2 t1) ?_ ?_
              · intro PP hPP
                (repeat' first | with_reducible (refine nextEnd_ret ?_) | with_reducible (refine nextEnd_ret ?_) | with_reducible ((fail_if_success (with_reducible show wpAny _ _ _ (MidQ _) _ _)); (with_reducible show wpAny _ _ (exec (Stmt.If (Expr.Compare _ [CmpOp.Eq] _ _) _ [] _) _) _ _ _); with_reducible refine midAt ?_) | with_reducible ((with_reducible show wpAny _ _ (inplaceOp _ (Value.str _ _) (Value.str _ _)) _ _ _); (k_here; k_dflt (refine PyProof.Rows.iadd_str ?_ (by first | exact fits_add (by assumption) (esc_len _ _ _) (by assumption) (by assumption) | (rw [sizeLine_eq]; (try simp only [Str.length_append]); lia))); intro _ _)) | with_reducible ((with_reducible show wpAny _ _ (exec (Stmt.For _ _ _ _ _) _) _ _ _); (k_here; (with_unfolding_all refine for_nextK ?_); k_whole)) | with_reducible (k_here; (with_reducible show wpAny _ _ (call (Value.builtin _) [Value.ref _, Value.str _ _]) _ _ _); k_dflt (refine' ci_new_K ?F ?N ?b ?_; (case F => k_asm); (case N => k_asm); (case b => k_mem); k_whole); intro I' h' F' N' l1; (try k_lt l1); revert I' h' F' N' l1; intros) | walk_at "STEP")
                · dsimp only [List.append_nil]
                  k_dflt (refine' conG_use (c_readch prog w ((CI, (ciObj (.ref BM) (.str "" (tk2 + 1 + 1 + 1)) false)) :: news2) XL DX ST PB PL _ _ tw hs (p1 + 1) _ text (C3 _)).con ?k1 ?k2 ?k3 ?k4 ?k5 ?kK ?kd ?ku ?_; (case k1 => k_asm); (case k2 => k_asm); (case k3 => k_asm); (case k4 => k_asm); (case k5 => k_asm); (case kK => exact rfl); (case kd => ktr_room); (case ku => ktr_units); (intro tp9 tl9 t9 h9 tk9 F9 N9))
                  (repeat' first | with_reducible (refine nextEnd_ret ?_) | with_reducible (refine nextEnd_ret ?_) | with_reducible ((fail_if_success (with_reducible show wpAny _ _ _ (MidQ _) _ _)); (with_reducible show wpAny _ _ (exec (Stmt.If (Expr.Compare _ [CmpOp.Eq] _ _) _ [] _) _) _ _ _); with_reducible refine midAt ?_) | with_reducible ((with_reducible show wpAny _ _ (inplaceOp _ (Value.str _ _) (Value.str _ _)) _ _ _); (k_here; k_dflt (refine PyProof.Rows.iadd_str ?_ (by first | exact fits_add (by assumption) (esc_len _ _ _) (by assumption) (by assumption) | (rw [sizeLine_eq]; (try simp only [Str.length_append]); lia))); intro _ _)) | with_reducible ((with_reducible show wpAny _ _ (exec (Stmt.For _ _ _ _ _) _) _ _ _); (k_here; (with_unfolding_all refine for_nextK ?_); k_whole)) | with_reducible (k_here; (with_reducible show wpAny _ _ (call (Value.builtin _) [Value.ref _, Value.str _ _]) _ _ _); k_dflt (refine' ci_new_K ?F ?N ?b ?_; (case F => k_asm); (case N => k_asm); (case b => k_mem); k_whole); intro I' h' F' N' l1; (try k_lt l1); revert I' h' F' N' l1; intros) | walk_at "STEP")
                  refine midQ hPP ?_
                  rename Fr g' _ _ _ => FE
                  rename News g' _ _ _ => NE
                  rw [← esc_pos (by assumption)]
                  exact .intro FE NE ⟨_, rfl⟩ rfl rfl rfl
                · refine midQ hPP ?_
                  rename Fr g' _ _ _ => FE
                  rename News g' _ _ _ => NE
                  rw [← esc_neg (by assumption)]
                  exact .intro FE NE ⟨_, rfl⟩ rfl rfl rfl
              · intro s6 hM
                (try dsimp only)
                refine LexAt.elimC hM ?_
                clear hM
                intro h3 q3 m3 tp3 tl3 u3 uc F3 N3
                have he1 := esc_len text p1 ln1
                have he2 := esc_lo text p1 ln1
                (repeat' first | with_reducible (refine nextEnd_ret ?_) | with_reducible (refine nextEnd_ret ?_) | with_reducible ((fail_if_success (with_reducible show wpAny _ _ _ (MidQ _) _ _)); (with_reducible show wpAny _ _ (exec (Stmt.If (Expr.Compare _ [CmpOp.Eq] _ _) _ [] _) _) _ _ _); with_reducible refine midAt ?_) | with_reducible ((with_reducible show wpAny _ _ (inplaceOp _ (Value.str _ _) (Value.str _ _)) _ _ _); (k_here; k_dflt (refine PyProof.Rows.iadd_str ?_ (by first | exact fits_add (by assumption) (esc_len _ _ _) (by assumption) (by assumption) | (rw [sizeLine_eq]; (try simp only [Str.length_append]); lia))); intro _ _)) | with_reducible ((with_reducible show wpAny _ _ (exec (Stmt.For _ _ _ _ _) _) _ _ _); (k_here; (with_unfolding_all refine for_nextK ?_); k_whole)) | with_reducible (k_here; (with_reducible show wpAny _ _ (call (Value.builtin _) [Value.ref _, Value.str _ _]) _ _ _); k_dflt (refine' ci_new_K ?F ?N ?b ?_; (case F => k_asm); (case N => k_asm); (case b => k_mem); k_whole); intro I' h' F' N' l1; (try k_lt l1); revert I' h' F' N' l1; intros) | walk_at "STEP")
                rename Fr g' _ _ _ => FE
                rename News g' _ _ _ => NE
                exact nextEnd_next (hJJ _ _ (.live hR (app_len ht1 he1 he2) (nx_k hlt1 hk2 he2) (.intro FE NE trivial rfl rfl rfl)))
          · intro h2 q2 tp2 tl2 he F2 N2
            have hE := quote_end he hR
            clear F1 N1
            (try dsimp only)
            (repeat' first | with_reducible (refine nextEnd_ret ?_) | with_reducible (refine nextEnd_ret ?_) | with_reducible ((fail_if_success (with_reducible show wpAny _ _ _ (MidQ _) _ _)); (with_reducible show wpAny _ _ (exec (Stmt.If (Expr.Compare _ [CmpOp.Eq] _ _) _ [] _) _) _ _ _); with_reducible refine midAt ?_) | with_reducible ((with_reducible show wpAny _ _ (inplaceOp _ (Value.str _ _) (Value.str _ _)) _ _ _); (k_here; k_dflt (refine PyProof.Rows.iadd_str ?_ (by first | exact fits_add (by assumption) (esc_len _ _ _) (by assumption) (by assumption) | (rw [sizeLine_eq]; (try simp only [Str.length_append]); lia))); intro _ _)) | with_reducible ((with_reducible show wpAny _ _ (exec (Stmt.For _ _ _ _ _) _) _ _ _); (k_here; (with_unfolding_all refine for_nextK ?_); k_whole)) | with_reducible (k_here; (with_reducible show wpAny _ _ (call (Value.builtin _) [Value.ref _, Value.str _ _]) _ _ _); k_dflt (refine' ci_new_K ?F ?N ?b ?_; (case F => k_asm); (case N => k_asm); (case b => k_mem); k_whole); intro I' h' F' N' l1; (try k_lt l1); revert I' h' F' N' l1; intros) | walk_at "STEP")
            all_goals (
              rename Fr g' _ _ _ => FE
              rename News g' _ _ _ => NE
              exact nextEnd_zero (hJ0 _ _ (.done hE (.intro FE NE trivial rfl rfl rfl))))
        · intro k s5 hA
          refine LexAt.elim hA ?_
          clear hA
          intro h1 q1 m1 tp1 tl1 u1 F1 N1
          have hE : (R.1, R.2.1, R.2.2) = R := rfl
          refine ci_done_K rfl F1 N1 (.tail _ (.tail _ (.head _))) fun h2 F2 N2 => ?_
          clear F1 N1
          (try dsimp only)
          (repeat' first | with_reducible (refine nextEnd_ret ?_) | with_reducible (refine nextEnd_ret ?_) | with_reducible ((fail_if_success (with_reducible show wpAny _ _ _ (MidQ _) _ _)); (with_reducible show wpAny _ _ (exec (Stmt.If (Expr.Compare _ [CmpOp.Eq] _ _) _ [] _) _) _ _ _); with_reducible refine midAt ?_) | with_reducible ((with_reducible show wpAny _ _ (inplaceOp _ (Value.str _ _) (Value.str _ _)) _ _ _); (k_here; k_dflt (refine PyProof.Rows.iadd_str ?_ (by first | exact fits_add (by assumption) (esc_len _ _ _) (by assumption) (by assumption) | (rw [sizeLine_eq]; (try simp only [Str.length_append]); lia))); intro _ _)) | with_reducible ((with_reducible show wpAny _ _ (exec (Stmt.For _ _ _ _ _) _) _ _ _); (k_here; (with_unfolding_all refine for_nextK ?_); k_whole)) | with_reducible (k_here; (with_reducible show wpAny _ _ (call (Value.builtin _) [Value.ref _, Value.str _ _]) _ _ _); k_dflt (refine' ci_new_K ?F ?N ?b ?_; (case F => k_asm); (case N => k_asm); (case b => k_mem); k_whole); intro I' h' F' N' l1; (try k_lt l1); revert I' h' F' N' l1; intros) | walk_at "STEP")
          all_goals (
            rename Fr g' _ _ _ => FE
            rename News g' _ _ _ => NE
            exact nextEnd_zero (hJ0 _ _ (.done hE (.intro FE NE trivial rfl rfl rfl))))
      · rename_i hh F3 N3 tka hw tkb hq
        replace hR := skip_b hne (ws_of hw) hq hR
        refine mid_intro ((LexAt (fun m => ∃ u, m (Str.ofString "ch") = some (.str (esc text p1 ln1).1 u)) s g' L' XL DX ST PB PL CI tw hs w news2) (ciObj (.ref BM) (.str "" (tk2 + 1 + 1 + 1)) false) (esc text p1 ln1).2.1 (esc text p1 ln1).2.2 "") ?_ ?_
        · intro PP hPP
          (repeat' first | with_reducible (refine nextEnd_ret ?_) | with_reducible (refine nextEnd_ret ?_) | with_reducible ((fail_if_success (with_reducible show wpAny _ _ _ (MidQ _) _ _)); (with_reducible show wpAny _ _ (exec (Stmt.If (Expr.Compare _ [CmpOp.Eq] _ _) _ [] _) _) _ _ _); with_reducible refine midAt ?_) | with_reducible ((with_reducible show wpAny _ _ (inplaceOp _ (Value.str _ _) (Value.str _ _)) _ _ _); (k_here; k_dflt (refine PyProof.Rows.iadd_str ?_ (by first | exact fits_add (by assumption) (esc_len _ _ _) (by assumption) (by assumption) | (rw [sizeLine_eq]; (try simp only [Str.length_append]); lia))); intro _ _)) | with_reducible ((with_reducible show wpAny _ _ (exec (Stmt.For _ _ _ _ _) _) _ _ _); (k_here; (with_unfolding_all refine for_nextK ?_); k_whole)) | with_reducible (k_here; (with_reducible show wpAny _ _ (call (Value.builtin _) [Value.ref _, Value.str _ _]) _ _ _); k_dflt (refine' ci_new_K ?F ?N ?b ?_; (case F => k_asm); (case N => k_asm); (case b => k_mem); k_whole); intro I' h' F' N' l1; (try k_lt l1); revert I' h' F' N' l1; intros) | walk_at "STEP")
          · dsimp only [List.append_nil]
            k_dflt (refine' conG_use (c_readch prog w ((CI, (ciObj (.ref BM) (.str "" (tk2 + 1 + 1 + 1)) false)) :: news2) XL DX ST PB PL _ _ tw hs (p1 + 1) _ text (C3 _)).con ?k1 ?k2 ?k3 ?k4 ?k5 ?kK ?kd ?ku ?_; (case k1 => k_asm); (case k2 => k_asm); (case k3 => k_asm); (case k4 => k_asm); (case k5 => k_asm); (case kK => exact rfl); (case kd => ktr_room); (case ku => ktr_units); (intro tp9 tl9 t9 h9 tk9 F9 N9))
            (repeat' first | with_reducible (refine nextEnd_ret ?_) | with_reducible (refine nextEnd_ret ?_) | with_reducible ((fail_if_success (with_reducible show wpAny _ _ _ (MidQ _) _ _)); (with_reducible show wpAny _ _ (exec (Stmt.If (Expr.Compare _ [CmpOp.Eq] _ _) _ [] _) _) _ _ _); with_reducible refine midAt ?_) | with_reducible ((with_reducible show wpAny _ _ (inplaceOp _ (Value.str _ _) (Value.str _ _)) _ _ _); (k_here; k_dflt (refine PyProof.Rows.iadd_str ?_ (by first | exact fits_add (by assumption) (esc_len _ _ _) (by assumption) (by assumption) | (rw [sizeLine_eq]; (try simp only [Str.length_append]); lia))); intro _ _)) | with_reducible ((with_reducible show wpAny _ _ (exec (Stmt.For _ _ _ _ _) _) _ _ _); (k_here; (with_unfolding_all refine for_nextK ?_); k_whole)) | with_reducible (k_here; (with_reducible show wpAny _ _ (call (Value.builtin _) [Value.ref _, Value.str _ _]) _ _ _); k_dflt (refine' ci_new_K ?F ?N ?b ?_; (case F => k_asm); (case N => k_asm); (case b => k_mem); k_whole); intro I' h' F' N' l1; (try k_lt l1); revert I' h' F' N' l1; intros) | walk_at "STEP")
            refine midQ hPP ?_
            rename Fr g' _ _ _ => FE
            rename News g' _ _ _ => NE
            rw [← esc_pos (by assumption)]
            exact .intro FE NE ⟨_, rfl⟩ rfl rfl rfl
          · refine midQ hPP ?_
            rename Fr g' _ _ _ => FE
            rename News g' _ _ _ => NE
            rw [← esc_neg (by assumption)]
            exact .intro FE NE ⟨_, rfl⟩ rfl rfl rfl
        · intro s6 hM
          (try dsimp only)
          refine LexAt.elimC hM ?_
          clear hM
          intro h3 q3 m3 tp3 tl3 u3 uc F3 N3
          have he1 := esc_len text p1 ln1
          have he2 := esc_lo text p1 ln1
          (repeat' first | with_reducible (refine nextEnd_ret ?_) | with_reducible (refine nextEnd_ret ?_) | with_reducible ((fail_if_success (with_reducible show wpAny _ _ _ (MidQ _) _ _)); (with_reducible show wpAny _ _ (exec (Stmt.If (Expr.Compare _ [CmpOp.Eq] _ _) _ [] _) _) _ _ _); with_reducible refine midAt ?_) | with_reducible ((with_reducible show wpAny _ _ (inplaceOp _ (Value.str _ _) (Value.str _ _)) _ _ _); (k_here; k_dflt (refine PyProof.Rows.iadd_str ?_ (by first | exact fits_add (by assumption) (esc_len _ _ _) (by assumption) (by assumption) | (rw [sizeLine_eq]; (try simp only [Str.length_append]); lia))); intro _ _)) | with_reducible ((with_reducible show wpAny _ _ (exec (Stmt.For _ _ _ _ _) _) _ _ _); (k_here; (with_unfolding_all refine for_nextK ?_); k_whole)) | with_reducible (k_here; (with_reducible show wpAny _ _ (call (Value.builtin _) [Value.ref _, Value.str _ _]) _ _ _); k_dflt (refine' ci_new_K ?F ?N ?b ?_; (case F => k_asm); (case N => k_asm); (case b => k_mem); k_whole); intro I' h' F' N' l1; (try k_lt l1); revert I' h' F' N' l1; intros) | walk_at "STEP")
          rename Fr g' _ _ _ => FE
          rename News g' _ _ _ => NE
          have hkn := nx_k hlt1 hk2 he2
          k_dflt (refine ci_iter (NE _ (.tail _ (.tail _ (.head _)))).1 ?_)
          refine forNext_intro (LexJ (fun k p ln t => lexBare text k p ln t = R) (ciObj (.ref BM) (.str "" (tk2 + 1 + 1 + 1)) false) (LexAt (fun _ => True) s g' L' XL DX ST PB PL CI tw hs w news2) text R) k (.live hR (app_len (Nat.zero_le _) he1 he2) hkn (.intro FE NE trivial rfl rfl rfl)) ?_
          clear hR FE NE ht1 hk2 hkn hne
          rename ∀ (k : Nat) (s : Shared), _ → _ => hJ0
          clear hlt1
          intro JJ hJJ
          refine LexJ.all ?_ ?_
          · intro k p1 ln1 t1 s5 hR ht1 hk2 hA
            refine LexAt.elim hA ?_
            clear hA
            intro h1 q1 m1 tp1 tl1 u1 F1 N1
            k_dflt (refine' lex_next (p := p1) (ln := ln1) (tp := tp1) (tl := tl1) (CI := CI) (BM := BM) C2 hBM m2b m2c hC2 ?k1 ?k2 ?k3 ?k4 ?k5 ?kK ?kd ?ku ?_ ?_; (case k1 => k_asm); (case k2 => k_asm); (case k3 => k_asm); (case k4 => exact N1); (case k5 => k_asm); (case kK => exact rfl); (case kd => ktr_room); (case ku => ktr_units))
            · intro h2 q2 tp2 tl2 u2 hne F2 N2
              have hlt1 := chAt_lt hne
              clear F1 N1
              (try dsimp only)
              (repeat' first | with_reducible (refine nextEnd_ret ?_) | with_reducible (refine nextEnd_ret ?_) | with_reducible ((fail_if_success (with_reducible show wpAny _ _ _ (MidQ _) _ _)); (with_reducible show wpAny _ _ (exec (Stmt.If (Expr.Compare _ [CmpOp.Eq] _ _) _ [] _) _) _ _ _); with_reducible refine midAt ?_) | with_reducible ((with_reducible show wpAny _ _ (inplaceOp _ (Value.str _ _) (Value.str _ _)) _ _ _); (k_here; k_dflt (refine PyProof.Rows.iadd_str ?_ (by first | exact fits_add (by assumption) (esc_len _ _ _) (by assumption) (by assumption) | (rw [sizeLine_eq]; (try simp only [Str.length_append]); lia))); intro _ _)) | with_reducible ((with_reducible show wpAny _ _ (exec (Stmt.For _ _ _ _ _) _) _ _ _); (k_here; (with_unfolding_all refine for_nextK ?_); k_whole)) | with_reducible (k_here; (with_reducible show wpAny _ _ (call (Value.builtin _) [Value.ref _, Value.str _ _]) _ _ _); k_dflt (refine' ci_new_K ?F ?N ?b ?_; (case F => k_asm); (case N => k_asm); (case b => k_mem); k_whole); intro I' h' F' N' l1; (try k_lt l1); revert I' h' F' N' l1; intros) | walk_at "STEP")
              · replace hR := bare_go hne (ws_of (by assumption)) hR
                refine mid_intro ((LexAt (fun m => ∃ u, m (Str.ofString "ch") = some (.str (esc text p1 ln1).1 u)) s g' L' XL DX ST PB PL CI tw hs w news2) (ciObj (.ref BM) (.str "" (tk2 + 1 + 1 + 1)) false) (esc text p1 ln1).2.1 (esc text p1 ln1).2.2 t1) ?_ ?_
                · intro PP hPP
                  (repeat' first | with_reducible (refine nextEnd_ret ?_) | with_reducible (refine nextEnd_ret ?_) | with_reducible ((fail_if_success (with_reducible show wpAny _ _ _ (MidQ _) _ _)); (with_reducible show wpAny _ _ (exec (Stmt.If (Expr.Compare _ [CmpOp.Eq] _ _) _ [] _) _) _ _ _); with_reducible refine midAt ?_) | with_reducible ((with_reducible show wpAny _ _ (inplaceOp _ (Value.str _ _) (Value.str _ _)) _ _ _); (k_here; k_dflt (refine PyProof.Rows.iadd_str ?_ (by first | exact fits_add (by assumption) (esc_len _ _ _) (by assumption) (by assumption) | (rw [sizeLine_eq]; (try simp only [Str.length_append]); lia))); intro _ _)) | with_reducible ((with_reducible show wpAny _ _ (exec (Stmt.For _ _ _ _ _) _) _ _ _); (k_here; (with_unfolding_all refine for_nextK ?_); k_whole)) | with_reducible (k_here; (with_reducible show wpAny _ _ (call (Value.builtin _) [Value.ref _, Value.str _ _]) _ _ _); k_dflt (refine' ci_new_K ?F ?N ?b ?_; (case F => k_asm); (case N => k_asm); (case b => k_mem); k_whole); intro I' h' F' N' l1; (try k_lt l1); revert I' h' F' N' l1; intros) | walk_at "STEP")
                  · dsimp only [List.append_nil]
                    k_dflt (refine' conG_use (c_readch prog w ((CI, (ciObj (.ref BM) (.str "" (tk2 + 1 + 1 + 1)) false)) :: news2) XL DX ST PB PL _ _ tw hs (p1 + 1) _ text (C3 _)).con ?k1 ?k2 ?k3 ?k4 ?k5 ?kK ?kd ?ku ?_; (case k1 => k_asm); (case k2 => k_asm); (case k3 => k_asm); (case k4 => k_asm); (case k5 => k_asm); (case kK => exact rfl); (case kd => ktr_room); (case ku => ktr_units); (intro tp9 tl9 t9 h9 tk9 F9 N9))
                    (repeat' first | with_reducible (refine nextEnd_ret ?_) | with_reducible (refine nextEnd_ret ?_) | with_reducible ((fail_if_success (with_reducible show wpAny _ _ _ (MidQ _) _ _)); (with_reducible show wpAny _ _ (exec (Stmt.If (Expr.Compare _ [CmpOp.Eq] _ _) _ [] _) _) _ _ _); with_reducible refine midAt ?_) | with_reducible ((with_reducible show wpAny _ _ (inplaceOp _ (Value.str _ _) (Value.str _ _)) _ _ _); (k_here; k_dflt (refine PyProof.Rows.iadd_str ?_ (by first | exact fits_add (by assumption) (esc_len _ _ _) (by assumption) (by assumption) | (rw [sizeLine_eq]; (try simp only [Str.length_append]); lia))); intro _ _)) | with_reducible ((with_reducible show wpAny _ _ (exec (Stmt.For _ _ _ _ _) _) _ _ _); (k_here; (with_unfolding_all refine for_nextK ?_); k_whole)) | with_reducible (k_here; (with_reducible show wpAny _ _ (call (Value.builtin _) [Value.ref _, Value.str _ _]) _ _ _); k_dflt (refine' ci_new_K ?F ?N ?b ?_; (case F => k_asm); (case N => k_asm); (case b => k_mem); k_whole); intro I' h' F' N' l1; (try k_lt l1); revert I' h' F' N' l1; intros) | walk_at "STEP")
                    refine midQ hPP ?_
                    rename Fr g' _ _ _ => FE
                    rename News g' _ _ _ => NE
                    rw [← esc_pos (by assumption)]
                    exact .intro FE NE ⟨_, rfl⟩ rfl rfl rfl
                  · refine midQ hPP ?_
                    rename Fr g' _ _ _ => FE
                    rename News g' _ _ _ => NE
                    rw [← esc_neg (by assumption)]
                    exact .intro FE NE ⟨_, rfl⟩ rfl rfl rfl
                · intro s6 hM
                  (try dsimp only)
                  refine LexAt.elimC hM ?_
                  clear hM
                  intro h3 q3 m3 tp3 tl3 u3 uc F3 N3
                  have he1 := esc_len text p1 ln1
                  have he2 := esc_lo text p1 ln1
                  (repeat' first | with_reducible (refine nextEnd_ret ?_) | with_reducible (refine nextEnd_ret ?_) | with_reducible ((fail_if_success (with_reducible show wpAny _ _ _ (MidQ _) _ _)); (with_reducible show wpAny _ _ (exec (Stmt.If (Expr.Compare _ [CmpOp.Eq] _ _) _ [] _) _) _ _ _); with_reducible refine midAt ?_) | with_reducible ((with_reducible show wpAny _ _ (inplaceOp _ (Value.str _ _) (Value.str _ _)) _ _ _); (k_here; k_dflt (refine PyProof.Rows.iadd_str ?_ (by first | exact fits_add (by assumption) (esc_len _ _ _) (by assumption) (by assumption) | (rw [sizeLine_eq]; (try simp only [Str.length_append]); lia))); intro _ _)) | with_reducible ((with_reducible show wpAny _ _ (exec (Stmt.For _ _ _ _ _) _) _ _ _); (k_here; (with_unfolding_all refine for_nextK ?_); k_whole)) | with_reducible (k_here; (with_reducible show wpAny _ _ (call (Value.builtin _) [Value.ref _, Value.str _ _]) _ _ _); k_dflt (refine' ci_new_K ?F ?N ?b ?_; (case F => k_asm); (case N => k_asm); (case b => k_mem); k_whole); intro I' h' F' N' l1; (try k_lt l1); revert I' h' F' N' l1; intros) | walk_at "STEP")
                  rename Fr g' _ _ _ => FE
                  rename News g' _ _ _ => NE
                  exact nextEnd_next (hJJ _ _ (.live hR (app_len ht1 he1 he2) (nx_k hlt1 hk2 he2) (.intro FE NE trivial rfl rfl rfl)))
              · have hE := bare_ws hne (ws_of (by assumption)) hR
                clear hR
                (repeat' first | with_reducible (refine nextEnd_ret ?_) | with_reducible (refine nextEnd_ret ?_) | with_reducible ((fail_if_success (with_reducible show wpAny _ _ _ (MidQ _) _ _)); (with_reducible show wpAny _ _ (exec (Stmt.If (Expr.Compare _ [CmpOp.Eq] _ _) _ [] _) _) _ _ _); with_reducible refine midAt ?_) | with_reducible ((with_reducible show wpAny _ _ (inplaceOp _ (Value.str _ _) (Value.str _ _)) _ _ _); (k_here; k_dflt (refine PyProof.Rows.iadd_str ?_ (by first | exact fits_add (by assumption) (esc_len _ _ _) (by assumption) (by assumption) | (rw [sizeLine_eq]; (try simp only [Str.length_append]); lia))); intro _ _)) | with_reducible ((with_reducible show wpAny _ _ (exec (Stmt.For _ _ _ _ _) _) _ _ _); (k_here; (with_unfolding_all refine for_nextK ?_); k_whole)) | with_reducible (k_here; (with_reducible show wpAny _ _ (call (Value.builtin _) [Value.ref _, Value.str _ _]) _ _ _); k_dflt (refine' ci_new_K ?F ?N ?b ?_; (case F => k_asm); (case N => k_asm); (case b => k_mem); k_whole); intro I' h' F' N' l1; (try k_lt l1); revert I' h' F' N' l1; intros) | walk_at "STEP")
                all_goals exact fin _ _ _ _ _ _ _ _ _ hE ⟨_, rfl⟩ (by k_asm) (by k_asm)
            · intro h2 q2 tp2 tl2 he F2 N2
              have hE := bare_end he hR
              clear F1 N1
              (try dsimp only)
              (repeat' first | with_reducible (refine nextEnd_ret ?_) | with_reducible (refine nextEnd_ret ?_) | with_reducible ((fail_if_success (with_reducible show wpAny _ _ _ (MidQ _) _ _)); (with_reducible show wpAny _ _ (exec (Stmt.If (Expr.Compare _ [CmpOp.Eq] _ _) _ [] _) _) _ _ _); with_reducible refine midAt ?_) | with_reducible ((with_reducible show wpAny _ _ (inplaceOp _ (Value.str _ _) (Value.str _ _)) _ _ _); (k_here; k_dflt (refine PyProof.Rows.iadd_str ?_ (by first | exact fits_add (by assumption) (esc_len _ _ _) (by assumption) (by assumption) | (rw [sizeLine_eq]; (try simp only [Str.length_append]); lia))); intro _ _)) | with_reducible ((with_reducible show wpAny _ _ (exec (Stmt.For _ _ _ _ _) _) _ _ _); (k_here; (with_unfolding_all refine for_nextK ?_); k_whole)) | with_reducible (k_here; (with_reducible show wpAny _ _ (call (Value.builtin _) [Value.ref _, Value.str _ _]) _ _ _); k_dflt (refine' ci_new_K ?F ?N ?b ?_; (case F => k_asm); (case N => k_asm); (case b => k_mem); k_whole); intro I' h' F' N' l1; (try k_lt l1); revert I' h' F' N' l1; intros) | walk_at "STEP")
              all_goals (
                rename Fr g' _ _ _ => FE
                rename News g' _ _ _ => NE
                exact nextEnd_zero (hJ0 _ _ (.done hE (.intro FE NE trivial rfl rfl rfl))))
          · intro k s5 hA
            refine LexAt.elim hA ?_
            clear hA
            intro h1 q1 m1 tp1 tl1 u1 F1 N1
            have hE : (R.1, R.2.1, R.2.2) = R := rfl
            refine ci_done_K rfl F1 N1 (.tail _ (.tail _ (.head _))) fun h2 F2 N2 => ?_
            clear F1 N1
            (try dsimp only)
            (repeat' first | with_reducible (refine nextEnd_ret ?_) | with_reducible (refine nextEnd_ret ?_) | with_reducible ((fail_if_success (with_reducible show wpAny _ _ _ (MidQ _) _ _)); (with_reducible show wpAny _ _ (exec (Stmt.If (Expr.Compare _ [CmpOp.Eq] _ _) _ [] _) _) _ _ _); with_reducible refine midAt ?_) | with_reducible ((with_reducible show wpAny _ _ (inplaceOp _ (Value.str _ _) (Value.str _ _)) _ _ _); (k_here; k_dflt (refine PyProof.Rows.iadd_str ?_ (by first | exact fits_add (by assumption) (esc_len _ _ _) (by assumption) (by assumption) | (rw [sizeLine_eq]; (try simp only [Str.length_append]); lia))); intro _ _)) | with_reducible ((with_reducible show wpAny _ _ (exec (Stmt.For _ _ _ _ _) _) _ _ _); (k_here; (with_unfolding_all refine for_nextK ?_); k_whole)) | with_reducible (k_here; (with_reducible show wpAny _ _ (call (Value.builtin _) [Value.ref _, Value.str _ _]) _ _ _); k_dflt (refine' ci_new_K ?F ?N ?b ?_; (case F => k_asm); (case N => k_asm); (case b => k_mem); k_whole); intro I' h' F' N' l1; (try k_lt l1); revert I' h' F' N' l1; intros) | walk_at "STEP")
            all_goals (
              rename Fr g' _ _ _ => FE
              rename News g' _ _ _ => NE
              exact nextEnd_zero (hJ0 _ _ (.done hE (.intro FE NE trivial rfl rfl rfl))))
      · rename_i hh F3 N3 tka hw
        replace hR := skip_ws hne (ws_of hw) hR
        exact nextEnd_cont (hJJ _ _ (.live ⟨hR, rfl⟩ (Nat.zero_le _) (nx_k hlt1 hk2 (Nat.le_refl _)) (.intro F3 N3 trivial rfl rfl rfl)))
    · intro h2 q2 tp2 tl2 he F2 N2
      have hE := skip_end he hR
      clear F1 N1
      (try dsimp only)
      (repeat' first | with_reducible (refine nextEnd_ret ?_) | with_reducible (refine nextEnd_ret ?_) | with_reducible ((fail_if_success (with_reducible show wpAny _ _ _ (MidQ _) _ _)); (with_reducible show wpAny _ _ (exec (Stmt.If (Expr.Compare _ [CmpOp.Eq] _ _) _ [] _) _) _ _ _); with_reducible refine midAt ?_) | with_reducible ((with_reducible show wpAny _ _ (inplaceOp _ (Value.str _ _) (Value.str _ _)) _ _ _); (k_here; k_dflt (refine PyProof.Rows.iadd_str ?_ (by first | exact fits_add (by assumption) (esc_len _ _ _) (by assumption) (by assumption) | (rw [sizeLine_eq]; (try simp only [Str.length_append]); lia))); intro _ _)) | with_reducible ((with_reducible show wpAny _ _ (exec (Stmt.For _ _ _ _ _) _) _ _ _); (k_here; (with_unfolding_all refine for_nextK ?_); k_whole)) | with_reducible (k_here; (with_reducible show wpAny _ _ (call (Value.builtin _) [Value.ref _, Value.str _ _]) _ _ _); k_dflt (refine' ci_new_K ?F ?N ?b ?_; (case F => k_asm); (case N => k_asm); (case b => k_mem); k_whole); intro I' h' F' N' l1; (try k_lt l1); revert I' h' F' N' l1; intros) | walk_at "STEP")
      all_goals exact fin _ _ _ _ _ _ _ _ _ hE ⟨_, rfl⟩ (by k_asm) (by k_asm)
  · intro k s5 hA
    refine LexAt.elim hA ?_
    clear hA
    intro h1 q1 m1 tp1 tl1 u1 F1 N1
    have hE : (R.1, R.2.1, R.2.2) = R := rfl
    refine ci_done_K rfl F1 N1 (.tail _ (.tail _ (.head _))) fun h2 F2 N2 => ?_
    clear F1 N1
    (try dsimp only)
    (repeat' first | with_reducible (refine nextEnd_ret ?_) | with_reducible (refine nextEnd_ret ?_) | with_reducible ((fail_if_success (with_reducible show wpAny _ _ _ (MidQ _) _ _)); (with_reducible show wpAny _ _ (exec (Stmt.If (Expr.Compare _ [CmpOp.Eq] _ _) _ [] _) _) _ _ _); with_reducible refine midAt ?_) | with_reducible ((with_reducible show wpAny _ _ (inplaceOp _ (Value.str _ _) (Value.str _ _)) _ _ _); (k_here; k_dflt (refine PyProof.Rows.iadd_str ?_ (by first | exact fits_add (by assumption) (esc_len _ _ _) (by assumption) (by assumption) | (rw [sizeLine_eq]; (try simp only [Str.length_append]); lia))); intro _ _)) | with_reducible ((with_reducible show wpAny _ _ (exec (Stmt.For _ _ _ _ _) _) _ _ _); (k_here; (with_unfolding_all refine for_nextK ?_); k_whole)) | with_reducible (k_here; (with_reducible show wpAny _ _ (call (Value.builtin _) [Value.ref _, Value.str _ _]) _ _ _); k_dflt (refine' ci_new_K ?F ?N ?b ?_; (case F => k_asm); (case N => k_asm); (case b => k_mem); k_whole); intro I' h' F' N' l1; (try k_lt l1); revert I' h' F' N' l1; intros) | walk_at "STEP")
    all_goals exact fin _ _ _ _ _ _ _ _ _ hE ⟨_, rfl⟩ (by k_asm) (by k_asm)
end
section
-- PopPush
set_option maxRecDepth 100000 in
set_option maxHeartbeats 2000000 in
theorem c_push (prog : Program) (w : World) (news : List (Addr × Obj)) (XL DX ST PB : Addr) (tl tw t : Tok) (hs : Tok × Tok × Tok × Tok) (ln : Int) (k : Nat) (vs : List Value) (y : Str)
   (hX : (XL, instObj 59 DX) ∈ news) (hD : (DX, lexDict w hs ln tl ST PB tw) ∈ news) (hPB : ∀ q ∈ news, q.1 ≠ PB) (hsz : vs.length ≤ 1000) :
   ConG prog w (KF w.params) 2 16 (call (.ref 56) [.ref XL, .str y t]) ((PB, W.listOf vs.toArray k) :: news) (fun P => ∀ k', P .none ((PB, W.listOf (vs ++ [Value.str y t]).toArray k') :: news)) := by
  intro p' loose mean mg mb dp un gd cn cs a ccd cl outer A₀ base h₀ L m s Q E B F X N T hk hd hu hret
  refine wpAny_call ?_
  k_dflt (refine' code_def (binds := [(Str.ofString "self", .ref XL), (Str.ofString "token", .str y t)]) ?k1 ?k2 ?k3 ?k4 ?k5 ?kA ?kF ?kK ?k6 ?k7 ?k8 ?k9 ?kB ?_ ?c2 ?c3 ?c4 ?c5; (case kA => exact rfl); (case kF => exact rfl); (case kK => assumption); (case k1 => k_asm); (case k2 => k_asm); (case k3 => k_asm); (case k4 => k_asm); (case k5 => k_asm); (case k6 => k_is); (case k7 => k_is); (case k8 => ktr_room); (case k9 => exact BindsTo.of_eq rfl); (case c5 => decide); (case kB => exact locs rfl); (case c2 => exact rfl); (case c3 => exact rfl); (case c4 => exact rfl); k_whole; intro g' L' h' FG' F' N' B' X' T'; (try dsimp only); (try k_lift B'); (try k_fold))
  k_steps
  rename News h₀ _ _ _ => NE
  rw [List.push_toArray] at NE
  exact hret _ _ _ (by k_asm) NE
set_option maxRecDepth 100000 in
set_option maxHeartbeats 2000000 in
theorem c_pop (prog : Program) (w : World) (news : List (Addr × Obj)) (XL DX ST PB : Addr) (tl tw t : Tok) (hs : Tok × Tok × Tok × Tok) (ln : Int) (k : Nat) (vs : List Value) (y : Str)
   (hX : (XL, instObj 59 DX) ∈ news) (hD : (DX, lexDict w hs ln tl ST PB tw) ∈ news) (hPB : ∀ q ∈ news, q.1 ≠ PB) (hsz : vs.length ≤ 1000) :
   ConG prog w (KF w.params) 2 16 (call (.ref 49) [.ref XL]) ((PB, W.listOf (Value.str y t :: vs).toArray k) :: news) (fun P => ∀ k', P (.str y t) ((PB, W.listOf vs.toArray k') :: news)) := by
  intro p' loose mean mg mb dp un gd cn cs a ccd cl outer A₀ base h₀ L m s Q E B F X N T hk hd hu hret
  refine wpAny_call ?_
  k_dflt (refine' code_def (binds := [(Str.ofString "self", .ref XL)]) ?k1 ?k2 ?k3 ?k4 ?k5 ?kA ?kF ?kK ?k6 ?k7 ?k8 ?k9 ?kB ?_ ?c2 ?c3 ?c4 ?c5; (case kA => exact rfl); (case kF => exact rfl); (case kK => assumption); (case k1 => k_asm); (case k2 => k_asm); (case k3 => k_asm); (case k4 => k_asm); (case k5 => k_asm); (case k6 => k_is); (case k7 => k_is); (case k8 => ktr_room); (case k9 => exact BindsTo.of_eq rfl); (case c5 => decide); (case kB => exact locs rfl); (case c2 => exact rfl); (case c3 => exact rfl); (case c4 => exact rfl); k_whole; intro g' L' h' FG' F' N' B' X' T'; (try dsimp only); (try k_lift B'); (try k_fold))
  k_steps
  k_dflt (refine' kl_popAt (i := 0) (k := 0) (p := []) (q := vs) (y := Value.str y t) (n := k) (its := (Value.str y t :: vs).toArray) (news' := (PB, W.listOf vs.toArray (k + 1)) :: news) ?F ?N ?f ?s ?e ?U ?z ?_; (case F => k_asm); (case N => k_asm); (case U => exact .head hPB); (case f => rfl); (case s => exact seq_first (by simp)); (case e => rfl); (case z => (rw [sizeLine_eq]; simp; lia)))
  intro h5 F5 N5
  k_steps
  exact hret _ _ _ (by k_asm) (by k_asm)
end
section
-- GetAny
noncomputable def gt (tx : Str) (st : List Str × Nat × Nat) : Str × List Str × Nat × Nat := match st with
  | (y :: q, p, ln) => (y, q, p, ln)
  | ([], p, ln) => ((lexSkip tx (tx.length + 2) p ln).1, [], (lexSkip tx (tx.length + 2) p ln).2.1, (lexSkip tx (tx.length + 2) p ln).2.2)
theorem c_get (prog : Program) (w : World) (news : List (Addr × Obj)) (XL DX ST PB PL : Addr) (tp tl tw : Tok) (hs : Tok × Tok × Tok × Tok) (kb : Nat) (text : Str) (qs : List Value) (st : List Str × Nat × Nat)
   (C : LexCtx prog w (KF w.params) XL DX ST PL text news) (h1 : @LT.lt Nat _ PL PB) (h2 : @LT.lt Nat _ DX PB) (hPB : ∀ q ∈ news, q.1 ≠ PB) (hsz : text.length ≤ 1000) (hq : Are IsStr qs st.1) (hql : st.1.length ≤ 1000) :
   ConG prog w (KF w.params) 6 40 (call (.ref 49) [.ref XL]) ((PL, W.listOf #[.int (st.2.1 : Nat) tp] 0) :: (DX, lexDict w hs (st.2.2 : Nat) tl ST PB tw) :: (PB, W.listOf qs.toArray kb) :: news)
     (fun P => ∀ tp' tl' kb' qs' u, Are IsStr qs' (gt text st).2.1 → P (.str (gt text st).1 u) ((PL, W.listOf #[.int ((gt text st).2.2.1 : Nat) tp'] 0) :: (DX, lexDict w hs ((gt text st).2.2.2 : Nat) tl' ST PB tw) :: (PB, W.listOf qs'.toArray kb') :: news)) := by
  obtain ⟨q, p, ln⟩ := st
  dsimp only at hq hql ⊢
  intro p' loose mean mg mb dp un gd cn cs a ccd cl outer A₀ base h₀ L m s Q E B F X N T hk hd hu hret
  cases hq with
  | nil =>
    refine conG_use (c_lex prog w ((PB, W.listOf (#[] : Array Value) kb) :: news) XL DX ST PB PL tp tl tw hs p ln kb text (C.ext (fun q hq => .tail _ hq) (List.forall_mem_cons.mpr ⟨Nat.ne_of_gt h1, C.hPL⟩) (List.forall_mem_cons.mpr ⟨Nat.ne_of_gt h2, C.hDX⟩)) (.head _) hsz) B F X N T hk hd hu ?_
    intro tp' tl' u
    exact hret tp' tl' kb [] u .nil
  | cons hv hr =>
    rename_i v y vs ys
    obtain ⟨t, rfl⟩ := hv
    refine conG_use (c_pop prog w ((PL, W.listOf #[.int (p : Nat) tp] 0) :: (DX, lexDict w hs (ln : Nat) tl ST PB tw) :: news) XL DX ST PB tl tw t hs ln kb vs y (.tail _ (.tail _ C.hX)) (.tail _ (.head _)) (List.forall_mem_cons.mpr ⟨Nat.ne_of_lt h1, List.forall_mem_cons.mpr ⟨Nat.ne_of_lt h2, hPB⟩⟩) (by rw [hr.length]; simp at hql; lia)) B F X (cb_drop N (by lcg_sub)) T hk (by lia) (by lia) ?_
    intro k' h' tk' F' N'
    exact hret tp tl k' vs t hr h' tk' F' (cb_drop N' (by lcg_sub))
end
section
-- TextsB
theorem lexBare_len (tx : Str) : ∀ k p ln t, (lexBare tx k p ln t).1.length ≤ t.length + k
  | 0, p, ln, t => Nat.le_refl _
  | k + 1, p, ln, t => by
    unfold lexBare
    split
    · exact Nat.le_add_right _ _
    · split
      · exact Nat.le_add_right _ _
      · refine Nat.le_trans (lexBare_len tx k _ _ _) ?_
        have h1 := esc_len tx p ln
        rw [Str.length_append]; lia
theorem lexQuote_len (tx : Str) : ∀ k p ln t, (lexQuote tx k p ln t).1.length ≤ t.length + k
  | 0, p, ln, t => Nat.le_refl _
  | k + 1, p, ln, t => by
    unfold lexQuote
    split
    · exact Nat.le_add_right _ _
    · split
      · exact Nat.le_add_right _ _
      · refine Nat.le_trans (lexQuote_len tx k _ _ _) ?_
        have h1 := esc_len tx p ln
        rw [Str.length_append]; lia
theorem lexSkip_len (tx : Str) : ∀ k p ln, (lexSkip tx k p ln).1.length ≤ k
  | 0, p, ln => Nat.le_refl _
  | k + 1, p, ln => by
    unfold lexSkip
    split
    · exact Nat.zero_le _
    · split
      · exact Nat.le_succ_of_le (lexSkip_len tx k _ _)
      · split
        · exact Nat.le_trans (lexQuote_len tx k _ _ _) (Nat.le_trans (Nat.le_of_eq (Nat.zero_add k)) (Nat.le_succ k))
        · refine Nat.le_trans (lexBare_len tx k _ _ _) ?_
          have h1 := esc_len tx p ln
          have e : ("" : Str).length = 0 := rfl
          rw [Str.length_append]; lia
abbrev LS := List Str × Nat × Nat
theorem gt_q (tx : Str) (st : LS) : (gt tx st).2.1.length ≤ st.1.length := by
  obtain ⟨q, p, ln⟩ := st
  cases q with
  | nil => exact Nat.le_refl _
  | cons y q => exact Nat.le_succ _
theorem gt_len (tx : Str) (st : LS) (h : tx.length ≤ 1000) (hq : ∀ y ∈ st.1, y.length ≤ 1002) : (gt tx st).1.length ≤ 1002 ∧ ∀ y ∈ (gt tx st).2.1, y.length ≤ 1002 := by
  obtain ⟨q, p, ln⟩ := st
  cases q with
  | nil => exact ⟨Nat.le_trans (lexSkip_len tx _ p ln) (Nat.add_le_add_right h 2), fun y hy => nomatch hy⟩
  | cons y q => exact ⟨hq y (.head _), fun z hz => hq z (.tail _ hz)⟩
noncomputable def tokN (tx : Str) (st : LS) : Nat → List Str × LS
  | 0 => ([], st)
  | n + 1 => ((tokN tx st n).1 ++ [(gt tx (tokN tx st n).2).1], (gt tx (tokN tx st n).2).2)
theorem tokN_b (tx : Str) (st : LS) : ∀ n, (tokN tx st n).2.1.length ≤ st.1.length
  | 0 => Nat.le_refl _
  | n + 1 => Nat.le_trans (gt_q tx (tokN tx st n).2) (tokN_b tx st n)
noncomputable def pushZ (s0 s1 : Str) (top : Nat) (one : Str) (st : LS) : LS := if one ≠ "end" ∧ one.length < top then (st.1 ++ [one ++ s0] ++ [one ++ s1], st.2) else st
noncomputable def toldN (tx s0 s1 : Str) (top : Nat) (st : LS) : Nat → List Str × LS
  | 0 => ([], st)
  | n + 1 => ((toldN tx s0 s1 top st n).1 ++ [(gt tx (toldN tx s0 s1 top st n).2).1], pushZ s0 s1 top (gt tx (toldN tx s0 s1 top st n).2).1 (gt tx (toldN tx s0 s1 top st n).2).2)
theorem pushZ_q (s0 s1 : Str) (top : Nat) (one : Str) (st : LS) : (pushZ s0 s1 top one st).1.length ≤ st.1.length + 2 := by
  unfold pushZ; split
  · exact Nat.le_of_eq (by rw [List.length_append, List.length_append]; rfl)
  · exact Nat.le_add_right _ _
theorem toldN_b (tx s0 s1 : Str) (top : Nat) (st : LS) : ∀ n, (toldN tx s0 s1 top st n).2.1.length ≤ st.1.length + 2 * n ∧ (toldN tx s0 s1 top st n).1.length = n
  | 0 => ⟨Nat.le_refl _, rfl⟩
  | n + 1 => by
    have ih := toldN_b tx s0 s1 top st n
    refine ⟨Nat.le_trans (pushZ_q s0 s1 top _ _) (Nat.le_trans (Nat.add_le_add_right (Nat.le_trans (gt_q tx _) ih.1) 2) (Nat.le_refl _)), ?_⟩
    exact (List.length_append ..).trans (congrArg (· + 1) ih.2)
theorem mid_mem {α : Type} {b : α} {q : α} {ex news : List α} (h : q ∈ ex ++ news) : q ∈ ex ++ b :: news := by
  rcases List.mem_append.mp h with h | h
  · exact List.mem_append_left _ h
  · exact List.mem_append_right _ (.tail _ h)
theorem StreamOK.up {prog : Program} {w : World} {K : Frag} {ST PL : Addr} {text : Str} {news news' : List (Addr × Obj)} (h : StreamOK prog w K ST PL text news) (up : ∀ q ∈ news, q ∈ news') : StreamOK prog w K ST PL text news' :=
  let ⟨DS, RD, fdS, fdR, tk, im, a, b, c, d, e⟩ := h; ⟨DS, RD, fdS, fdR, tk, im, up _ a, up _ b, up _ c, fun q hq => up _ (d q hq), e⟩
theorem are_nil {α : Type} {Is : α → Value → Prop} {ys : List Value} (h : Are Is ys []) : ys = [] := by cases h; rfl
theorem tokN_s (tx : Str) (st : LS) (i : Nat) : tokN tx st (i + 1) = ((tokN tx st i).1 ++ [(gt tx (tokN tx st i).2).1], (gt tx (tokN tx st i).2).2) := rfl
theorem turn_q {q i N : Nat} (h : q ≤ List.length [("" : Str)] + 2 * i) (hi : i < N) (hN : N ≤ 65) : q ≤ 200 := by
  have : List.length [("" : Str)] = 1 := rfl
  lia
theorem pushZ_l (s0 s1 : Str) (top : Nat) (one : Str) (st : LS) (h0 : s0.length ≤ 1) (h1 : s1.length ≤ 1) (ht : top ≤ 5) (hs : ∀ y ∈ st.1, y.length ≤ 1002) : ∀ y ∈ (pushZ s0 s1 top one st).1, y.length ≤ 1002 := by
  unfold pushZ
  split
  · rename_i h
    intro y hy
    have h2 := h.2
    rcases List.mem_append.mp hy with hy | hy
    · rcases List.mem_append.mp hy with hy | hy
      · exact hs y hy
      · rw [List.mem_singleton.mp hy, Str.length_append]; lia
    · rw [List.mem_singleton.mp hy, Str.length_append]; lia
  · exact hs
theorem toldN_l (tx s0 s1 : Str) (top : Nat) (st : LS) (h : tx.length ≤ 1000) (h0 : s0.length ≤ 1) (h1 : s1.length ≤ 1) (ht : top ≤ 5) (hs : ∀ y ∈ st.1, y.length ≤ 1002) : ∀ n, (∀ y ∈ (toldN tx s0 s1 top st n).2.1, y.length ≤ 1002) ∧ ∀ y ∈ (toldN tx s0 s1 top st n).1, y.length ≤ 1002
  | 0 => ⟨hs, fun _ h => nomatch h⟩
  | n + 1 => by
    have ih := toldN_l tx s0 s1 top st h h0 h1 ht hs n
    have g := gt_len tx (toldN tx s0 s1 top st n).2 h ih.1
    refine ⟨pushZ_l s0 s1 top _ _ h0 h1 ht g.2, fun y hy => ?_⟩
    rcases List.mem_append.mp hy with hy | hy
    · exact ih.2 y hy
    · rw [List.mem_singleton.mp hy]; exact g.1
theorem pow_eq (top : Nat) : (2 : Int) ^ ((top : Int) + 1).toNat = ((2 ^ (top + 1) : Nat) : Int) := by
  rw [show ((top : Int) + 1).toNat = top + 1 by lia]; simp
noncomputable def textsZ (tx : Str) (count : Nat) (s0 s1 : Str) (top : Nat) : List Str × List Str × Str × Nat :=
  ((tokN tx ([], 0, 1) count).1, (toldN tx s0 s1 top ([""], (tokN tx ([], 0, 1) count).2.2) (2 ^ (top + 1))).1,
    (gt tx (toldN tx s0 s1 top ([""], (tokN tx ([], 0, 1) count).2.2) (2 ^ (top + 1))).2).1, (gt tx (toldN tx s0 s1 top ([""], (tokN tx ([], 0, 1) count).2.2) (2 ^ (top + 1))).2).2.2.2)
theorem push_yes {s0 s1 one : Str} {top : Nat} {st : LS} (h : (one != "end") = true) (h2 : (one.length : Int) < (top : Nat)) : pushZ s0 s1 top one st = (st.1 ++ [one ++ s0] ++ [one ++ s1], st.2) := if_pos ⟨by simpa using h, by lia⟩
theorem push_no {s0 s1 one : Str} {top : Nat} {st : LS} (h2 : ¬ (one.length : Int) < (top : Nat)) : pushZ s0 s1 top one st = st := if_neg fun h => h2 (by lia)
theorem push_end {s0 s1 one : Str} {top : Nat} {st : LS} (h : (one != "end") = false) : pushZ s0 s1 top one st = st := if_neg fun h' => h'.1 (by simpa using h)
set_option maxRecDepth 100000 in
set_option maxHeartbeats 4000000 in
theorem c_texts (prog : Program) (w : World) (news : List (Addr × Obj)) (SG : Addr) (tt tc tp t0 t1 : Tok) (kg count top : Nat) (text s0 s1 : Str)
   (hG : (SG, W.listOf #[Value.str s0 t0, .str s1 t1] kg) ∈ news) (hn : ∀ p ∈ news, p.1 ≠ 114) (hsz : text.length ≤ 1000) (h0 : s0.length ≤ 1) (h1 : s1.length ≤ 1) (hc : count ≤ 10) (ht : top ≤ 5) :
   ConTG 118 114 prog w (KF w.params) 8 60 (call (.ref 129) [.str text tt, .int (count : Nat) tc, .ref SG, .int (top : Nat) tp]) ((114, tabObj #[]) :: news) (fun P => ∀ (TT D TD : Addr) (vs us : List Value) (k : Nat) (ps : Array Value) (t tl : Tok),
     Are IsStr vs (textsZ text count s0 s1 top).1 → Are IsStr us (textsZ text count s0 s1 top).2.1 → (∀ q ∈ news, q.1 ≠ D) → AllLt TD news → (@LT.lt Nat _ D TD) → (@LT.lt Nat _ TD TT) →
     P (.ref TT) ((TT, { cls := .type "tuple", data := .seq #[.ref D, .ref TD, .str (textsZ text count s0 s1 top).2.2.1 t, .int ((textsZ text count s0 s1 top).2.2.2 : Nat) tl] }) :: (D, LCg.lst vs) :: (TD, W.listOf us.toArray k) :: (114, tabObj ps) :: news)) := by
  intro p' loose mean mg mb dp un gd cn cs a ccd cl outer A₀ base h₀ L m s Q E CH B F X N T hk hd hu hret
  refine wpAny_call ?_
  k_dflt (refine' code_defC (binds := [(Str.ofString "text", .str text tt), (Str.ofString "count", .int (count : Nat) tc), (Str.ofString "signs", .ref SG), (Str.ofString "top", .int (top : Nat) tp)]) ?k1 ?k2 ?k3 ?k4 ?k5 ?kA ?kF ?kK ?k6 ?k7 ?k8 ?k9 ?kB ?kD ?_ ?c2 ?c3 ?c4; (case kA => exact rfl); (case kF => exact rfl); (case kK => assumption); (case k1 => k_asm); (case k2 => k_asm); (case k3 => k_asm); (case k4 => k_asm); (case k5 => k_asm); (case k6 => k_is); (case k7 => k_is); (case k8 => ktr_room); (case k9 => exact BindsTo.of_eq rfl); (case kB => exact rfl); (case kD => decide +kernel); (case c2 => exact rfl); (case c3 => exact rfl); (case c4 => exact rfl); k_whole; intro g' L' h' tk' cells' FG' F' N' Y' B' X' T' l1'; k_cells Y'; (try simp only [List.cons_append, List.nil_append] at N'); (try dsimp only); (try k_lift B'); (try k_fold))
  have l1a := (allLt_of l1').1
  have l1 := (allLt_of l1').2
  clear l1'
  have C' : CodeHd g' 118 114 := CH.keeps FG'.keep
  rename_i oL dL
  have hn2 : ∀ p ∈ (L' + 1, oL) :: news, p.1 ≠ 114 := List.forall_mem_cons.mpr ⟨Nat.ne_of_gt (Nat.lt_succ_of_lt l1a), hn⟩
  have hcl := ne_le (d' := L' + 1) l1 (Nat.le_add_right _ _)
  (repeat' first | with_reducible ((with_reducible show wpAny _ _ (binaryOp _ (Value.str _ _) (Value.str _ _)) _ _ _); (k_here; k_dflt (refine PyProof.Rows.add_str ?_ (by rw [sizeLine_eq]; (try simp only [Str.length_append]); lia)); intro _ _)) | with_reducible ((with_reducible show wpAny _ _ (subscriptTail _ (Expr.Constant _ _ _) (Value.ref _) (Value.int _ _)) _ _ _); (k_here; k_dflt (refine' r_item (vs := [_, _]) ?N ?m ?a ?b ?c ?_; (case N => k_asm); (case m => (repeat (first | assumption | apply List.Mem.tail))); (case a => decide); (case b => decide); (case c => rfl); k_whole))) | with_reducible ((with_reducible show wpAny _ _ (exec (Stmt.Assign [Expr.Name _ _] (Expr.ListComp _ [⟨_, _, [], _⟩] _ _) _) _) _ _ _); k_dflt (refine listCompA (by k_asm) (by rfl) (by rfl) (by rfl) (by decide) (by rfl) (by decide) (by rfl) (by rfl) (by rfl) ?_)) | walk_at "STEP")
  k_dflt (refine' conTG_use (c_streamB prog w _ text _ hn2 hsz) ?kC ?k1 ?k2 ?k3 ?k4 ?k5 ?kK ?kd ?ku ?_; (case kC => assumption); (case k1 => k_asm); (case k2 => k_asm); (case k3 => k_asm); (case k4 => exact cb_drop N' (by lcg_sub)); (case k5 => k_asm); (case kK => exact rfl); (case kd => ktr_room); (case ku => ktr_units))
  intro ST PL ex ps tk hST l2 l3 l4 l5 l6 h9 tk9 F9 N9
  clear F' N'
  (repeat' first | with_reducible ((with_reducible show wpAny _ _ (binaryOp _ (Value.str _ _) (Value.str _ _)) _ _ _); (k_here; k_dflt (refine PyProof.Rows.add_str ?_ (by rw [sizeLine_eq]; (try simp only [Str.length_append]); lia)); intro _ _)) | with_reducible ((with_reducible show wpAny _ _ (subscriptTail _ (Expr.Constant _ _ _) (Value.ref _) (Value.int _ _)) _ _ _); (k_here; k_dflt (refine' r_item (vs := [_, _]) ?N ?m ?a ?b ?c ?_; (case N => k_asm); (case m => (repeat (first | assumption | apply List.Mem.tail))); (case a => decide); (case b => decide); (case c => rfl); k_whole))) | with_reducible ((with_reducible show wpAny _ _ (exec (Stmt.Assign [Expr.Name _ _] (Expr.ListComp _ [⟨_, _, [], _⟩] _ _) _) _) _ _ _); k_dflt (refine listCompA (by k_asm) (by rfl) (by rfl) (by rfl) (by decide) (by rfl) (by decide) (by rfl) (by rfl) (by rfl) ?_)) | walk_at "STEP")
  k_dflt (refine' conG_use (c_lexinit prog w _ _) ?k1 ?k2 ?k3 ?k4 ?k5 ?kK ?kd ?ku ?_; (case k1 => k_asm); (case k2 => k_asm); (case k3 => k_asm); (case k4 => exact N9); (case k5 => k_asm); (case kK => exact rfl); (case kd => ktr_room); (case ku => ktr_units))
  intro XL DX PB hs tl tw m1 m2 m3 h8 tk8 F8 N8
  have m1a := m1.1
  have m1b := m1.2.1
  clear F9 N9
  have N7 : News g' L' h8 ((L' + 1, oL) :: (PL, W.listOf #[Value.int (0 : Nat) tk] 0) :: (DX, lexDict w hs (1 : Nat) tl ST PB tw) :: (PB, W.listOf #[] 0) :: (XL, instObj 59 DX) :: (114, tabObj ps) :: (ex ++ news)) := cb_drop N8 (subs_cons (.tail _ (.tail _ (.tail _ (.tail _ (.tail _ (List.mem_append_right _ (.head _))))))) (subs_cons (.tail _ (.tail _ (.tail _ (.head _)))) (subs_cons (.tail _ (.tail _ (.head _))) (subs_cons (.head _) (subs_cons (.tail _ (.head _)) (subs_cons (.tail _ (.tail _ (.tail _ (.tail _ (.head _))))) (fun q hq => .tail _ (.tail _ (.tail _ (.tail _ (.tail _ (mid_mem hq))))))))))))
  have c1 : @LT.lt Nat _ (L' + 1) PL := l2.1
  have c2 := Nat.lt_trans c1 m1a
  have c3 := Nat.lt_trans c2 m2
  have c4 := Nat.lt_trans c3 m3
  have m5 := Nat.lt_trans m1a (Nat.lt_trans m2 m3)
  have m6 := Nat.lt_trans m2 m3
  have hI : ∀ q ∈ (XL, instObj 59 DX) :: (114, tabObj ps) :: (ex ++ news), q.1 ≠ L' + 1 := List.forall_mem_cons.mpr ⟨Nat.ne_of_gt c3, List.forall_mem_cons.mpr ⟨Nat.ne_of_lt (Nat.lt_succ_of_lt l1a), List.forall_mem_append.mpr ⟨fun q hq => Nat.ne_of_gt (l5 q hq).1, hcl⟩⟩⟩
  have hD : ∀ q ∈ (114, tabObj ps) :: (ex ++ news), @LT.lt Nat _ q.1 DX := List.forall_mem_cons.mpr ⟨m1b, fun q hq => allLt_mem m1 q (.tail _ (.tail _ (mid_mem hq)))⟩
  have hPL : ∀ q ∈ (XL, instObj 59 DX) :: (114, tabObj ps) :: (ex ++ news), q.1 ≠ PL := List.forall_mem_cons.mpr ⟨Nat.ne_of_gt (Nat.lt_trans m1a m2), List.forall_mem_cons.mpr ⟨Nat.ne_of_lt l3, List.forall_mem_append.mpr ⟨l4, ne_of_allLt l2.2⟩⟩⟩
  have hDX : ∀ q ∈ (XL, instObj 59 DX) :: (114, tabObj ps) :: (ex ++ news), q.1 ≠ DX := List.forall_mem_cons.mpr ⟨Nat.ne_of_gt m2, fun q hq => Nat.ne_of_lt (hD q hq)⟩
  have hPB : ∀ q ∈ (XL, instObj 59 DX) :: (114, tabObj ps) :: (ex ++ news), q.1 ≠ PB := List.forall_mem_cons.mpr ⟨Nat.ne_of_lt m3, fun q hq => Nat.ne_of_lt (Nat.lt_trans (hD q hq) m6)⟩
  have hG2 : (SG, W.listOf #[Value.str s0 t0, .str s1 t1] kg) ∈ (XL, instObj 59 DX) :: (114, tabObj ps) :: (ex ++ news) := .tail _ (.tail _ (List.mem_append_right _ hG))
  have h114 : (114, tabObj ps) ∈ (XL, instObj 59 DX) :: (114, tabObj ps) :: (ex ++ news) := .tail _ (.head _)
  have hsub : ∀ q ∈ news, q ∈ (XL, instObj 59 DX) :: (114, tabObj ps) :: (ex ++ news) := fun q hq => .tail _ (.tail _ (List.mem_append_right _ hq))
  have CL : LexCtx prog w (Mine.KF w.params) XL DX ST PL text ((XL, instObj 59 DX) :: (114, tabObj ps) :: (ex ++ news)) := ⟨.head _, StreamOK.up hST (fun q hq => .tail _ (.tail _ (List.mem_append_left _ hq))), hPL, hDX, m1a⟩
  clear N8 l2 l4 l5 l6 m1 hD hST hn2 l1a l1 hcl hPL hDX m1b hG
  generalize (XL, instObj 59 DX) :: (114, tabObj ps) :: (ex ++ news) = nwI at N7 hI hPB hG2 h114 hsub CL
  have hXL := CL.hX
  (repeat' first | with_reducible ((with_reducible show wpAny _ _ (binaryOp _ (Value.str _ _) (Value.str _ _)) _ _ _); (k_here; k_dflt (refine PyProof.Rows.add_str ?_ (by rw [sizeLine_eq]; (try simp only [Str.length_append]); lia)); intro _ _)) | with_reducible ((with_reducible show wpAny _ _ (subscriptTail _ (Expr.Constant _ _ _) (Value.ref _) (Value.int _ _)) _ _ _); (k_here; k_dflt (refine' r_item (vs := [_, _]) ?N ?m ?a ?b ?c ?_; (case N => k_asm); (case m => (repeat (first | assumption | apply List.Mem.tail))); (case a => decide); (case b => decide); (case c => rfl); k_whole))) | with_reducible ((with_reducible show wpAny _ _ (exec (Stmt.Assign [Expr.Name _ _] (Expr.ListComp _ [⟨_, _, [], _⟩] _ _) _) _) _ _ _); k_dflt (refine listCompA (by k_asm) (by rfl) (by rfl) (by rfl) (by decide) (by rfl) (by decide) (by rfl) (by rfl) (by rfl) ?_)) | walk_at "STEP")
  rename_i hh1 oC F1 N1 dC hh2 tk2 r1 r2 r3 hr F2 N2 _
  clear F1 N1
  have N2' : News g' L' hh2 ((PL, W.listOf #[Value.int (0 : Nat) _] 0) :: (DX, lexDict w hs (1 : Nat) tl ST PB tw) :: (PB, W.listOf #[] 0) :: (L' + 1, oC) :: nwI) := cb_drop N2 (by lcg_sub)
  have CL2 : LexCtx prog w (Mine.KF w.params) XL DX ST PL text ((L' + 1, oC) :: nwI) := CL.ext (fun q hq => .tail _ hq) (List.forall_mem_cons.mpr ⟨Nat.ne_of_lt c1, CL.hPL⟩) (List.forall_mem_cons.mpr ⟨Nat.ne_of_lt c2, CL.hDX⟩)
  have hPB2 : ∀ q ∈ (L' + 1, oC) :: nwI, q.1 ≠ PB := List.forall_mem_cons.mpr ⟨Nat.ne_of_lt c4, hPB⟩
  have hcell : (L' + 1, oC) ∈ (L' + 1, oC) :: nwI := .head _
  replace hG2 := List.Mem.tail (L' + 1, oC) hG2
  replace h114 := List.Mem.tail (L' + 1, oC) h114
  replace hsub : ∀ q ∈ news, q ∈ (L' + 1, oC) :: nwI := fun q hq => .tail _ (hsub q hq)
  clear N2 CL hPB hI c1 c2 c3 c4 hXL
  generalize (L' + 1, oC) :: nwI = nwJ at CL2 hPB2 N2' hcell hG2 h114 hsub
  have hX3 := CL2.hX
  refine compRangeE (τ := Tok × Tok × Nat × List Value) (fun i t => (PL, W.listOf #[.int ((tokN text ([], 0, 1) i).2.2.1 : Nat) t.1] 0) :: (DX, lexDict w hs ((tokN text ([], 0, 1) i).2.2.2 : Nat) t.2.1 ST PB tw) :: (PB, W.listOf t.2.2.2.toArray t.2.2.1) :: nwJ) (fun i t ys => Are IsStr t.2.2.2 (tokN text ([], 0, 1) i).2.1 ∧ Are IsStr ys (tokN text ([], 0, 1) i).1) (_, _, _, []) rfl F2 N2' hr (Nat.le_trans hc (by decide)) ⟨.nil, .nil⟩ (fun _ _ => rfl) ?_ ?_
  · clear N2' F2 hr
    intro i t ys u I oI C oC' D m₂ h tk E' PE hi hInv hC hx F4 N4 offA ne hPE
    have off := offA i t
    have hb := tokN_b text ([], 0, 1) i
    have hST := tokN_s text ([], 0, 1) i
    (repeat' first | with_reducible ((with_reducible show wpAny _ _ (binaryOp _ (Value.str _ _) (Value.str _ _)) _ _ _); (k_here; k_dflt (refine PyProof.Rows.add_str ?_ (by rw [sizeLine_eq]; (try simp only [Str.length_append]); lia)); intro _ _)) | with_reducible ((with_reducible show wpAny _ _ (subscriptTail _ (Expr.Constant _ _ _) (Value.ref _) (Value.int _ _)) _ _ _); (k_here; k_dflt (refine' r_item (vs := [_, _]) ?N ?m ?a ?b ?c ?_; (case N => k_asm); (case m => (repeat (first | assumption | apply List.Mem.tail))); (case a => decide); (case b => decide); (case c => rfl); k_whole))) | with_reducible ((with_reducible show wpAny _ _ (exec (Stmt.Assign [Expr.Name _ _] (Expr.ListComp _ [⟨_, _, [], _⟩] _ _) _) _) _ _ _); k_dflt (refine listCompA (by k_asm) (by rfl) (by rfl) (by rfl) (by decide) (by rfl) (by decide) (by rfl) (by rfl) (by rfl) ?_)) | walk_at "STEP")
    dsimp only [List.append_nil]
    k_dflt (refine' conG_use (c_get prog w ((I, oI) :: (C, oC') :: (D, LCg.lst ys) :: nwJ) XL DX ST PB PL t.1 t.2.1 tw hs t.2.2.1 text t.2.2.2 (tokN text ([], 0, 1) i).2 (CL2.ext (fun q hq => .tail _ (.tail _ (.tail _ hq))) ?m1 ?m2) m5 m6 ?m3 hsz hInv.1 (Nat.le_trans hb (Nat.zero_le _))) ?k1 ?k2 ?k3 ?k4 ?k5 ?kK ?kd ?ku ?_; (case k1 => k_asm); (case k2 => k_asm); (case k3 => k_asm); (case k4 => exact cb_drop N4 (by lcg_sub)); (case k5 => k_asm); (case kK => exact rfl); (case kd => ktr_room); (case ku => ktr_units); (case m1 => exact List.forall_mem_cons.mpr ⟨off.1.1.symm, List.forall_mem_cons.mpr ⟨off.1.2.1.symm, List.forall_mem_cons.mpr ⟨off.1.2.2.symm, CL2.hPL⟩⟩⟩); (case m2 => exact List.forall_mem_cons.mpr ⟨off.2.1.1.symm, List.forall_mem_cons.mpr ⟨off.2.1.2.1.symm, List.forall_mem_cons.mpr ⟨off.2.1.2.2.symm, CL2.hDX⟩⟩⟩); (case m3 => exact List.forall_mem_cons.mpr ⟨off.2.2.1.1.symm, List.forall_mem_cons.mpr ⟨off.2.2.1.2.1.symm, List.forall_mem_cons.mpr ⟨off.2.2.1.2.2.symm, hPB2⟩⟩⟩))
    intro tp5 tl5 kb5 qs5 u5 hq5 h5 tk5 F5 N5
    exact hPE _ h5 tk5 (tp5, tl5, kb5, qs5) F5 (cb_drop N5 (by lcg_sub)) ⟨hq5, hInv.2.append (.cons ⟨u5, rfl⟩ .nil)⟩
  · clear N2' F2 hr
    intro hp ys t hInv D6 hh6 tk6 F6 N6 off6
    have hb := tokN_b text ([], 0, 1) count
    have hs0 : (tokN text ([], 0, 1) count).2.1 = [] := List.eq_nil_of_length_eq_zero (Nat.le_zero.mp hb)
    have hqs := are_nil (hs0 ▸ hInv.1)
    (try dsimp only)
    (repeat' first | with_reducible ((with_reducible show wpAny _ _ (binaryOp _ (Value.str _ _) (Value.str _ _)) _ _ _); (k_here; k_dflt (refine PyProof.Rows.add_str ?_ (by rw [sizeLine_eq]; (try simp only [Str.length_append]); lia)); intro _ _)) | with_reducible ((with_reducible show wpAny _ _ (subscriptTail _ (Expr.Constant _ _ _) (Value.ref _) (Value.int _ _)) _ _ _); (k_here; k_dflt (refine' r_item (vs := [_, _]) ?N ?m ?a ?b ?c ?_; (case N => k_asm); (case m => (repeat (first | assumption | apply List.Mem.tail))); (case a => decide); (case b => decide); (case c => rfl); k_whole))) | with_reducible ((with_reducible show wpAny _ _ (exec (Stmt.Assign [Expr.Name _ _] (Expr.ListComp _ [⟨_, _, [], _⟩] _ _) _) _) _ _ _); k_dflt (refine listCompA (by k_asm) (by rfl) (by rfl) (by rfl) (by decide) (by rfl) (by decide) (by rfl) (by rfl) (by rfl) ?_)) | walk_at "STEP")
    k_dflt (refine' conG_use (c_push prog w ((D6, LCg.lst ys) :: (PL, W.listOf #[.int ((tokN text ([], 0, 1) count).2.2.1 : Nat) t.1] 0) :: (DX, lexDict w hs ((tokN text ([], 0, 1) count).2.2.2 : Nat) t.2.1 ST PB tw) :: nwJ) XL DX ST PB t.2.1 tw _ hs _ t.2.2.1 t.2.2.2 "" (.tail _ (.tail _ (.tail _ hX3))) (.tail _ (.tail _ (.head _))) ?m1 ?m2) ?k1 ?k2 ?k3 ?k4 ?k5 ?kK ?kd ?ku ?_; (case m1 => exact List.forall_mem_cons.mpr ⟨off6.2.2.1.symm, List.forall_mem_cons.mpr ⟨Nat.ne_of_lt m5, List.forall_mem_cons.mpr ⟨Nat.ne_of_lt m6, hPB2⟩⟩⟩); (case m2 => (rw [hqs]; exact Nat.zero_le _)); (case k1 => k_asm); (case k2 => k_asm); (case k3 => k_asm); (case k4 => exact cb_drop N6 (by lcg_sub)); (case k5 => k_asm); (case kK => exact rfl); (case kd => ktr_room); (case ku => ktr_units))
    intro kb5 h5 tk5 F5 N5
    clear F6 N6
    (repeat' first | with_reducible ((with_reducible show wpAny _ _ (binaryOp _ (Value.str _ _) (Value.str _ _)) _ _ _); (k_here; k_dflt (refine PyProof.Rows.add_str ?_ (by rw [sizeLine_eq]; (try simp only [Str.length_append]); lia)); intro _ _)) | with_reducible ((with_reducible show wpAny _ _ (subscriptTail _ (Expr.Constant _ _ _) (Value.ref _) (Value.int _ _)) _ _ _); (k_here; k_dflt (refine' r_item (vs := [_, _]) ?N ?m ?a ?b ?c ?_; (case N => k_asm); (case m => (repeat (first | assumption | apply List.Mem.tail))); (case a => decide); (case b => decide); (case c => rfl); k_whole))) | with_reducible ((with_reducible show wpAny _ _ (exec (Stmt.Assign [Expr.Name _ _] (Expr.ListComp _ [⟨_, _, [], _⟩] _ _) _) _) _ _ _); k_dflt (refine listCompA (by k_asm) (by rfl) (by rfl) (by rfl) (by decide) (by rfl) (by decide) (by rfl) (by rfl) (by rfl) ?_)) | walk_at "STEP")
    rename_i TD hh9 n1 hh10 F9 N9 hh11 tk11 r5 r6 r7 hr F7 N7 _
    clear F9 N9
    have n1a := n1.1
    have n1b := n1.2.1
    have n1c := n1.2.2.1
    have n1d := n1.2.2.2.1
    have N10 : News g' L' hh11 ((PL, W.listOf #[.int ((tokN text ([], 0, 1) count).2.2.1 : Nat) t.1] 0) :: (DX, lexDict w hs ((tokN text ([], 0, 1) count).2.2.2 : Nat) t.2.1 ST PB tw) :: (PB, W.listOf (t.2.2.2 ++ [Value.str "" tk6]).toArray kb5) :: (TD, W.listOf #[] 0) :: (D6, LCg.lst ys) :: nwJ) := cb_drop N7 (by lcg_sub)
    rw [hqs] at N10
    have hcell2 := List.Mem.tail (D6, LCg.lst ys) hcell
    have hG4 := List.Mem.tail (D6, LCg.lst ys) hG2
    have h116 := List.Mem.tail (D6, LCg.lst ys) h114
    have hsub3 : ∀ q ∈ news, q ∈ (D6, LCg.lst ys) :: nwJ := fun q hq => .tail _ (hsub q hq)
    have hD6 : (D6, LCg.lst ys) ∈ (D6, LCg.lst ys) :: nwJ := .head _
    have CL3 : LexCtx prog w (Mine.KF w.params) XL DX ST PL text ((D6, LCg.lst ys) :: nwJ) := CL2.ext (fun q hq => .tail _ hq) (List.forall_mem_cons.mpr ⟨off6.1.symm, CL2.hPL⟩) (List.forall_mem_cons.mpr ⟨off6.2.1.symm, CL2.hDX⟩)
    have hPB3 : ∀ q ∈ (D6, LCg.lst ys) :: nwJ, q.1 ≠ PB := List.forall_mem_cons.mpr ⟨off6.2.2.1.symm, hPB2⟩
    have hD6n : ∀ q ∈ news, q.1 ≠ D6 := fun q hq => Off1.all off6.2.2.2 q (hsub q hq)
    have hTDn := allLt_sub n1.2.2.2.2 hsub
    have hTD : ∀ q ∈ (D6, LCg.lst ys) :: nwJ, q.1 ≠ TD := List.forall_mem_cons.mpr ⟨Nat.ne_of_lt n1b, ne_of_allLt n1.2.2.2.2⟩
    generalize (D6, LCg.lst ys) :: nwJ = nwK at N10 hcell2 hG4 h116 hsub3 hD6 CL3 hPB3 hTD
    have hX4 := CL3.hX
    have hy1 := hInv.2
    clear N7 hcell hG2 h114 hsub hX3 CL2 hPB2 off6 n1 hInv hqs hs0 hb
    have hNT : 2 ^ (top + 1) ≤ 64 := Nat.pow_le_pow_right (n := 2) (by decide) (Nat.succ_le_succ ht)
    rw [pow_eq top] at hr
    generalize hNTe : 2 ^ (top + 1) = NT at hr hNT
    generalize hT : (tokN text ([], 0, 1) count).2.2 = T1 at N10
    have hqB := toldN_b text s0 s1 top ([""], T1)
    have hqL := toldN_l text s0 s1 top ([""], T1) hsz h0 h1 ht (List.forall_mem_singleton.mpr (Nat.zero_le _))
    refine forRangeE (τ := Tok × Tok × Nat × List Value × Nat × List Value) (fun i t => (PL, W.listOf #[.int ((toldN text s0 s1 top ([""], T1) i).2.2.1 : Nat) t.1] 0) :: (DX, lexDict w hs ((toldN text s0 s1 top ([""], T1) i).2.2.2 : Nat) t.2.1 ST PB tw) :: (PB, W.listOf t.2.2.2.1.toArray t.2.2.1) :: (TD, W.listOf t.2.2.2.2.2.toArray t.2.2.2.2.1) :: nwK) (fun _ _ => [(Str.ofString "told", Value.ref TD), (Str.ofString "pieces", .ref D6), (Str.ofString "signs", .ref SG), (Str.ofString "top", .int (top : Nat) tp)]) (fun i t => Are IsStr t.2.2.2.1 (toldN text s0 s1 top ([""], T1) i).2.1 ∧ Are IsStr t.2.2.2.2.2 (toldN text s0 s1 top ([""], T1) i).1) (_, _, _, [_], _, []) rfl F7 N10 hr (Nat.le_trans hNT (by decide)) (List.forall_mem_cons.mpr ⟨rfl, List.forall_mem_cons.mpr ⟨rfl, List.forall_mem_cons.mpr ⟨rfl, List.forall_mem_cons.mpr ⟨rfl, fun _ h => nomatch h⟩⟩⟩⟩) ⟨.cons ⟨_, rfl⟩ .nil, .nil⟩ (fun _ _ => rfl) ?_ ?_
    · clear N10 F7 hr hy1 hD6n hTDn hD6 hret
      intro i t u m₁ h tk I oI JJ hi hlt hInv F8 N8 hnext _ _ _
      have hb2 := hqB i
      have hb3 := (gt_len text _ hsz (hqL i).1).1
      have hql := gt_q text (toldN text s0 s1 top ([""], T1) i).2
      have eT : toldN text s0 s1 top ([""], T1) (i + 1) = ((toldN text s0 s1 top ([""], T1) i).1 ++ [(gt text (toldN text s0 s1 top ([""], T1) i).2).1], pushZ s0 s1 top (gt text (toldN text s0 s1 top ([""], T1) i).2).1 (gt text (toldN text s0 s1 top ([""], T1) i).2).2) := rfl
      have i1 := hlt.1
      have i2 := hlt.2.1
      have i3 := hlt.2.2.1
      have i4 : @LT.lt Nat _ TD I := hlt.2.2.2.1
      have hvl := hInv.2.length
      have hP5 : ∀ o1 o2 o3 o4 : Obj, ∀ p ∈ (PL, o1) :: (DX, o2) :: (I, o3) :: (TD, o4) :: nwK, p.1 ≠ PB := fun _ _ _ _ => List.forall_mem_cons.mpr ⟨Nat.ne_of_lt m5, List.forall_mem_cons.mpr ⟨Nat.ne_of_lt m6, List.forall_mem_cons.mpr ⟨Nat.ne_of_gt i3, List.forall_mem_cons.mpr ⟨Nat.ne_of_gt n1a, hPB3⟩⟩⟩⟩
      have hvl2 : t.2.2.2.2.2.length ≤ 64 := by rw [hvl, hb2.2]; exact Nat.le_trans (Nat.le_of_lt hi) hNT
      have hql2 : (toldN text s0 s1 top ([""], T1) i).2.1.length ≤ 200 := turn_q hb2.1 hi (Nat.le_succ_of_le hNT)
      generalize (toldN text s0 s1 top ([""], T1) i).1 = Y at hInv hvl eT
      generalize (toldN text s0 s1 top ([""], T1) i).2 = T at *
      clear hb2 hqB hqL hlt hvl
      (repeat' first | with_reducible ((with_reducible show wpAny _ _ (binaryOp _ (Value.str _ _) (Value.str _ _)) _ _ _); (k_here; k_dflt (refine PyProof.Rows.add_str ?_ (by rw [sizeLine_eq]; (try simp only [Str.length_append]); lia)); intro _ _)) | with_reducible ((with_reducible show wpAny _ _ (subscriptTail _ (Expr.Constant _ _ _) (Value.ref _) (Value.int _ _)) _ _ _); (k_here; k_dflt (refine' r_item (vs := [_, _]) ?N ?m ?a ?b ?c ?_; (case N => k_asm); (case m => (repeat (first | assumption | apply List.Mem.tail))); (case a => decide); (case b => decide); (case c => rfl); k_whole))) | with_reducible ((with_reducible show wpAny _ _ (exec (Stmt.Assign [Expr.Name _ _] (Expr.ListComp _ [⟨_, _, [], _⟩] _ _) _) _) _ _ _); k_dflt (refine listCompA (by k_asm) (by rfl) (by rfl) (by rfl) (by decide) (by rfl) (by decide) (by rfl) (by rfl) (by rfl) ?_)) | walk_at "STEP")
      dsimp only [List.append_nil]
      k_dflt (refine' conG_use (c_get prog w ((I, oI) :: (TD, W.listOf t.2.2.2.2.2.toArray t.2.2.2.2.1) :: nwK) XL DX ST PB PL t.1 t.2.1 tw hs t.2.2.1 text t.2.2.2.1 T (CL3.ext (fun q hq => .tail _ (.tail _ hq)) ?m1 ?m2) m5 m6 ?m3 hsz hInv.1 (Nat.le_trans hql2 (by decide))) ?k1 ?k2 ?k3 ?k4 ?k5 ?kK ?kd ?ku ?_; (case m1 => exact List.forall_mem_cons.mpr ⟨Nat.ne_of_gt i1, List.forall_mem_cons.mpr ⟨Nat.ne_of_gt n1c, CL3.hPL⟩⟩); (case m2 => exact List.forall_mem_cons.mpr ⟨Nat.ne_of_gt i2, List.forall_mem_cons.mpr ⟨Nat.ne_of_gt n1d, CL3.hDX⟩⟩); (case m3 => exact List.forall_mem_cons.mpr ⟨Nat.ne_of_gt i3, List.forall_mem_cons.mpr ⟨Nat.ne_of_gt n1a, hPB3⟩⟩); (case k1 => k_asm); (case k2 => k_asm); (case k3 => k_asm); (case k4 => exact cb_drop N8 (by lcg_sub)); (case k5 => k_asm); (case kK => exact rfl); (case kd => ktr_room); (case ku => ktr_units))
      intro tp5 tl5 kb5 qs5 u5 hq5 h5 tk5 F5 N5
      have hq6 : qs5.length ≤ 200 := by rw [hq5.length]; exact Nat.le_trans hql hql2
      clear F8 N8 hql hql2
      (repeat' first | with_reducible ((with_reducible show wpAny _ _ (binaryOp _ (Value.str _ _) (Value.str _ _)) _ _ _); (k_here; k_dflt (refine PyProof.Rows.add_str ?_ (by rw [sizeLine_eq]; (try simp only [Str.length_append]); lia)); intro _ _)) | with_reducible ((with_reducible show wpAny _ _ (subscriptTail _ (Expr.Constant _ _ _) (Value.ref _) (Value.int _ _)) _ _ _); (k_here; k_dflt (refine' r_item (vs := [_, _]) ?N ?m ?a ?b ?c ?_; (case N => k_asm); (case m => (repeat (first | assumption | apply List.Mem.tail))); (case a => decide); (case b => decide); (case c => rfl); k_whole))) | with_reducible ((with_reducible show wpAny _ _ (exec (Stmt.Assign [Expr.Name _ _] (Expr.ListComp _ [⟨_, _, [], _⟩] _ _) _) _) _ _ _); k_dflt (refine listCompA (by k_asm) (by rfl) (by rfl) (by rfl) (by decide) (by rfl) (by decide) (by rfl) (by rfl) (by rfl) ?_)) | walk_at "STEP")
      · k_dflt (refine' conG_use (c_push prog w ((PL, W.listOf #[.int ((gt text T).2.2.1 : Nat) tp5] 0) :: (DX, lexDict w hs ((gt text T).2.2.2 : Nat) tl5 ST PB tw) :: (I, oI) :: (TD, W.listOf (t.2.2.2.2.2 ++ [Value.str (gt text T).1 u5]).toArray (t.2.2.2.2.1 + 1)) :: nwK) XL DX ST PB tl5 tw _ hs _ kb5 qs5 _ (.tail _ (.tail _ (.tail _ (.tail _ hX4)))) (.tail _ (.head _)) (hP5 _ _ _ _) ?m2) ?k1 ?k2 ?k3 ?k4 ?k5 ?kK ?kd ?ku ?_; (case m2 => (exact Nat.le_trans hq6 (by decide))); (case k1 => k_asm); (case k2 => k_asm); (case k3 => k_asm); (case k4 => (rename News g' _ _ _ => NE; (try simp only [List.push_toArray] at NE); exact cb_drop NE (by lcg_sub))); (case k5 => k_asm); (case kK => exact rfl); (case kd => ktr_room); (case ku => ktr_units))
        intro kb6 h6 tk6 F6 N6
        (repeat' first | with_reducible ((with_reducible show wpAny _ _ (binaryOp _ (Value.str _ _) (Value.str _ _)) _ _ _); (k_here; k_dflt (refine PyProof.Rows.add_str ?_ (by rw [sizeLine_eq]; (try simp only [Str.length_append]); lia)); intro _ _)) | with_reducible ((with_reducible show wpAny _ _ (subscriptTail _ (Expr.Constant _ _ _) (Value.ref _) (Value.int _ _)) _ _ _); (k_here; k_dflt (refine' r_item (vs := [_, _]) ?N ?m ?a ?b ?c ?_; (case N => k_asm); (case m => (repeat (first | assumption | apply List.Mem.tail))); (case a => decide); (case b => decide); (case c => rfl); k_whole))) | with_reducible ((with_reducible show wpAny _ _ (exec (Stmt.Assign [Expr.Name _ _] (Expr.ListComp _ [⟨_, _, [], _⟩] _ _) _) _) _ _ _); k_dflt (refine listCompA (by k_asm) (by rfl) (by rfl) (by rfl) (by decide) (by rfl) (by decide) (by rfl) (by rfl) (by rfl) ?_)) | walk_at "STEP")
        k_dflt (refine' conG_use (c_push prog w ((PL, W.listOf #[.int ((gt text T).2.2.1 : Nat) tp5] 0) :: (DX, lexDict w hs ((gt text T).2.2.2 : Nat) tl5 ST PB tw) :: (I, oI) :: (TD, W.listOf (t.2.2.2.2.2 ++ [Value.str (gt text T).1 u5]).toArray (t.2.2.2.2.1 + 1)) :: nwK) XL DX ST PB tl5 tw _ hs _ kb6 (qs5 ++ [_]) _ (.tail _ (.tail _ (.tail _ (.tail _ hX4)))) (.tail _ (.head _)) (hP5 _ _ _ _) ?m2) ?k1 ?k2 ?k3 ?k4 ?k5 ?kK ?kd ?ku ?_; (case m2 => (rw [List.length_append]; exact Nat.le_trans (Nat.add_le_add_right hq6 1) (by decide))); (case k1 => k_asm); (case k2 => k_asm); (case k3 => k_asm); (case k4 => (rename News g' _ _ _ => NE; (try simp only [List.push_toArray] at NE); exact cb_drop NE (by lcg_sub))); (case k5 => k_asm); (case kK => exact rfl); (case kd => ktr_room); (case ku => ktr_units))
        intro kb7 h7 tk7 F7 N7
        (repeat' first | with_reducible ((with_reducible show wpAny _ _ (binaryOp _ (Value.str _ _) (Value.str _ _)) _ _ _); (k_here; k_dflt (refine PyProof.Rows.add_str ?_ (by rw [sizeLine_eq]; (try simp only [Str.length_append]); lia)); intro _ _)) | with_reducible ((with_reducible show wpAny _ _ (subscriptTail _ (Expr.Constant _ _ _) (Value.ref _) (Value.int _ _)) _ _ _); (k_here; k_dflt (refine' r_item (vs := [_, _]) ?N ?m ?a ?b ?c ?_; (case N => k_asm); (case m => (repeat (first | assumption | apply List.Mem.tail))); (case a => decide); (case b => decide); (case c => rfl); k_whole))) | with_reducible ((with_reducible show wpAny _ _ (exec (Stmt.Assign [Expr.Name _ _] (Expr.ListComp _ [⟨_, _, [], _⟩] _ _) _) _) _ _ _); k_dflt (refine listCompA (by k_asm) (by rfl) (by rfl) (by rfl) (by decide) (by rfl) (by decide) (by rfl) (by rfl) (by rfl) ?_)) | walk_at "STEP")
        rename Fr g' _ _ _ => FE
        rename News g' _ _ _ => NE
        (try simp only [List.push_toArray] at NE)
        refine hnext _ _ _ (tp5, tl5, kb7, ?qq, t.2.2.2.2.1 + 1, t.2.2.2.2.2 ++ [Value.str (gt text T).1 u5]) FE ?g1 (List.forall_mem_cons.mpr ⟨rfl, List.forall_mem_cons.mpr ⟨rfl, List.forall_mem_cons.mpr ⟨rfl, List.forall_mem_cons.mpr ⟨rfl, fun _ h => nomatch h⟩⟩⟩⟩) ?g2
        case g1 => rw [eT, push_yes (by assumption) (by assumption)]; exact cb_drop NE (by lcg_sub)
        case g2 => rw [eT, push_yes (by assumption) (by assumption)]; exact ⟨(hq5.append (.cons ⟨_, rfl⟩ .nil)).append (.cons ⟨_, rfl⟩ .nil), hInv.2.append (.cons ⟨_, rfl⟩ .nil)⟩
      · rename Fr g' _ _ _ => FE
        rename News g' _ _ _ => NE
        (try simp only [List.push_toArray] at NE)
        refine hnext _ _ _ (tp5, tl5, kb5, qs5, t.2.2.2.2.1 + 1, t.2.2.2.2.2 ++ [Value.str (gt text T).1 u5]) FE ?_ (List.forall_mem_cons.mpr ⟨rfl, List.forall_mem_cons.mpr ⟨rfl, List.forall_mem_cons.mpr ⟨rfl, List.forall_mem_cons.mpr ⟨rfl, fun _ h => nomatch h⟩⟩⟩⟩) ?_
        · rw [eT, push_no (by assumption)]; exact cb_drop NE (by lcg_sub)
        · rw [eT, push_no (by assumption)]; exact ⟨hq5, hInv.2.append (.cons ⟨_, rfl⟩ .nil)⟩
      · rename Fr g' _ _ _ => FE
        rename News g' _ _ _ => NE
        (try simp only [List.push_toArray] at NE)
        refine hnext _ _ _ (tp5, tl5, kb5, qs5, t.2.2.2.2.1 + 1, t.2.2.2.2.2 ++ [Value.str (gt text T).1 u5]) FE ?_ (List.forall_mem_cons.mpr ⟨rfl, List.forall_mem_cons.mpr ⟨rfl, List.forall_mem_cons.mpr ⟨rfl, List.forall_mem_cons.mpr ⟨rfl, fun _ h => nomatch h⟩⟩⟩⟩) ?_
        · rw [eT, push_end (by assumption)]; exact cb_drop NE (by lcg_sub)
        · rw [eT, push_end (by assumption)]; exact ⟨hq5, hInv.2.append (.cons ⟨_, rfl⟩ .nil)⟩
    · clear N10 F7 hr
      intro t m₁ h tk hInv F8 N8
      have hb2 := hqB NT
      have ez : textsZ text count s0 s1 top = ((tokN text ([], 0, 1) count).1, (toldN text s0 s1 top ([""], T1) NT).1, (gt text (toldN text s0 s1 top ([""], T1) NT).2).1, (gt text (toldN text s0 s1 top ([""], T1) NT).2).2.2.2) := by
        unfold textsZ
        rw [hT, hNTe]
      rw [ez] at hret
      have hql2 : (toldN text s0 s1 top ([""], T1) NT).2.1.length ≤ 200 := turn_q hb2.1 (Nat.lt_succ_self NT) (Nat.succ_le_succ hNT)
      generalize (toldN text s0 s1 top ([""], T1) NT).1 = Y at hInv hret
      generalize (toldN text s0 s1 top ([""], T1) NT).2 = T at *
      clear hb2 hqB hqL ez
      (try dsimp only)
      (repeat' first | with_reducible ((with_reducible show wpAny _ _ (binaryOp _ (Value.str _ _) (Value.str _ _)) _ _ _); (k_here; k_dflt (refine PyProof.Rows.add_str ?_ (by rw [sizeLine_eq]; (try simp only [Str.length_append]); lia)); intro _ _)) | with_reducible ((with_reducible show wpAny _ _ (subscriptTail _ (Expr.Constant _ _ _) (Value.ref _) (Value.int _ _)) _ _ _); (k_here; k_dflt (refine' r_item (vs := [_, _]) ?N ?m ?a ?b ?c ?_; (case N => k_asm); (case m => (repeat (first | assumption | apply List.Mem.tail))); (case a => decide); (case b => decide); (case c => rfl); k_whole))) | with_reducible ((with_reducible show wpAny _ _ (exec (Stmt.Assign [Expr.Name _ _] (Expr.ListComp _ [⟨_, _, [], _⟩] _ _) _) _) _ _ _); k_dflt (refine listCompA (by k_asm) (by rfl) (by rfl) (by rfl) (by decide) (by rfl) (by decide) (by rfl) (by rfl) (by rfl) ?_)) | walk_at "STEP")
      dsimp only [List.append_nil]
      k_dflt (refine' conG_use (c_get prog w ((TD, W.listOf t.2.2.2.2.2.toArray t.2.2.2.2.1) :: nwK) XL DX ST PB PL t.1 t.2.1 tw hs t.2.2.1 text t.2.2.2.1 T (CL3.ext (fun q hq => .tail _ hq) ?m1 ?m2) m5 m6 ?m3 hsz hInv.1 (Nat.le_trans hql2 (by decide))) ?k1 ?k2 ?k3 ?k4 ?k5 ?kK ?kd ?ku ?_; (case m1 => exact List.forall_mem_cons.mpr ⟨Nat.ne_of_gt n1c, CL3.hPL⟩); (case m2 => exact List.forall_mem_cons.mpr ⟨Nat.ne_of_gt n1d, CL3.hDX⟩); (case m3 => exact List.forall_mem_cons.mpr ⟨Nat.ne_of_gt n1a, hPB3⟩); (case k1 => k_asm); (case k2 => k_asm); (case k3 => k_asm); (case k4 => exact N8); (case k5 => k_asm); (case kK => exact rfl); (case kd => ktr_room); (case ku => ktr_units))
      intro tp5 tl5 kb5 qs5 u5 hq5 h5 tk5 F5 N5
      clear F8 N8
      (repeat' first | with_reducible ((with_reducible show wpAny _ _ (binaryOp _ (Value.str _ _) (Value.str _ _)) _ _ _); (k_here; k_dflt (refine PyProof.Rows.add_str ?_ (by rw [sizeLine_eq]; (try simp only [Str.length_append]); lia)); intro _ _)) | with_reducible ((with_reducible show wpAny _ _ (subscriptTail _ (Expr.Constant _ _ _) (Value.ref _) (Value.int _ _)) _ _ _); (k_here; k_dflt (refine' r_item (vs := [_, _]) ?N ?m ?a ?b ?c ?_; (case N => k_asm); (case m => (repeat (first | assumption | apply List.Mem.tail))); (case a => decide); (case b => decide); (case c => rfl); k_whole))) | with_reducible ((with_reducible show wpAny _ _ (exec (Stmt.Assign [Expr.Name _ _] (Expr.ListComp _ [⟨_, _, [], _⟩] _ _) _) _) _ _ _); k_dflt (refine listCompA (by k_asm) (by rfl) (by rfl) (by rfl) (by decide) (by rfl) (by decide) (by rfl) (by rfl) (by rfl) ?_)) | walk_at "STEP")
      rename_i DT _ _ _ l9 kF kN _ _
      exact hret DT D6 TD ys t.2.2.2.2.2 t.2.2.2.2.1 ps u5 tl5 hy1 hInv.2 hD6n hTDn n1b l9.2.2.2.1 _ _ kF (cb_drop kN (subs_cons (.head _) (subs_cons (.tail _ (.tail _ (.tail _ (.tail _ (.tail _ hD6))))) (subs_cons (.tail _ (.tail _ (.tail _ (.tail _ (.head _))))) (subs_cons (.tail _ (.tail _ (.tail _ (.tail _ (.tail _ h116))))) (fun q hq => .tail _ (.tail _ (.tail _ (.tail _ (.tail _ (hsub3 q hq)))))))))))
end
section
-- LoopC
open PyProof.V LCg
section
variable {prog : Program} {w : World} {A : Around} {E : Value → Shared → Prop} {s : Shared} {env : Env} {h₀ : Heap} {x : Str} {px : Pos} {body : List Stmt} {Q : Flow → Shared → Prop}
theorem letOwned_name {M : Model} {it : Addr} {v : Value} {Q : Unit → Shared → Prop} {A : Around} {E : Value → Shared → Prop} {s : Shared} (h : Q () s) : wpAny M A (letOwnedTupleGo (.Name x px) (.ref it) v) Q E s := by
  have e : letOwnedTupleGo (.Name x px) (.ref it) v = pure () := rfl
  rw [e]; exact wpAny_pure h
/-- a loop whose target is any name (a cell too): the turn begins with the store -/
theorem turnsV {I : Addr} {fp : List Addr} {n : Nat} {P : Nat → Value → Prop} {St : Nat → Heap → Prop} {m₀ : Str → Option Value} {news : List (Addr × Obj)} (S : List (Addr × Obj) → Prop) (J : Nat → (Str → Option Value) → List (Addr × Obj) → Prop)
    (W : Walks prog w A I fp [I] n P St) (hIo : ∀ i h, St i h → ∃ o, h.get? I = some o) (hLf : env.locals ∉ fp) (hI : h₀.get? I = none) (hnw : ∀ p ∈ news, p.1 ≠ I)
    (hfp : ∀ b ∈ fp, b = I ∨ (∃ o, h₀.get? b = some o) ∨ ∃ o, ∀ nw, S nw → (b, o) ∈ nw)
    (hst : St 0 s.heap) (F : Fr h₀ env.locals s.heap m₀) (N : News h₀ env.locals s.heap news) (hj : J 0 m₀ news) (hS : ∀ i m nw, J i m nw → S nw)
    (turn : ∀ i v m₁ nw h tk oI, i < n → P i v → J i m₁ nw → (∀ p ∈ nw, p.1 ≠ I) → Fr h₀ env.locals h m₁ → News h₀ env.locals h ((I, oI) :: nw) →
      wpAny (model prog w) A (assign (.Name x px) env v) (fun _ s₃ => wpAny (model prog w) A (execs body env) (TurnEnd h₀ env.locals I oI (J (i + 1)) { s with heap := h, toks := tk } Q) E s₃) E { s with heap := h, toks := tk })
    (done : ∀ m₁ nw h tk, J n m₁ nw → Fr h₀ env.locals h m₁ → News h₀ env.locals h nw → Q .next { s with heap := h, toks := tk }) :
    TurnsAt prog w A h₀ env (.Name x px) body Q E (.ref I) s := by
  refine ⟨I, fp, [I], n, fun i v _ => P i v, fun i v h => P i v ∧ St (i + 1) h, St, m₀, news, J, rfl, KTurns.ofWalks W (fun i v s Q E _ h => letOwned_name h), hLf, fun b hb => by rw [List.mem_singleton.mp hb]; exact hI, fun p hp hb => hnw p hp (List.mem_singleton.mp hb), hst, F, N, hj, ?_, ?_⟩
  · rintro i v m₁ nw hh' tk' own hin hP hJ hoff hown hog hall hst₁ F₁ N₁
    obtain ⟨oI, hoI⟩ := hIo _ _ hst₁
    have hIf : I ∈ fp := W.sub I (List.mem_singleton.mpr rfl)
    have hIown : (I, oI) ∈ own := hall I hIf hI oI hoI
    have N₂ : News h₀ env.locals hh' ((I, oI) :: nw) := fun p hp => by
      rcases List.mem_cons.mp hp with rfl | hp
      · exact N₁ _ (List.mem_append_left _ hIown)
      · exact N₁ _ (List.mem_append_right _ hp)
    refine wpAny_mono (turn i v m₁ nw hh' tk' oI hin hP hJ (fun p hp e => hoff p hp (List.mem_singleton.mpr e)) F₁ N₂) (fun _ s₃ h₃ => wpAny_mono h₃ (fun f s₂ q => ?_) fun _ _ e => e) fun _ _ e => e
    have fin : (∃ h' tk m' nw, s₂ = { s with heap := h', toks := tk } ∧ Fr h₀ env.locals h' m' ∧ News h₀ env.locals h' ((I, oI) :: nw) ∧ (∀ p ∈ nw, p.1 ≠ I) ∧ J (i + 1) m' nw) →
        LoopStepU h₀ env.locals [I] own (J (i + 1)) { s with heap := hh', toks := tk' } .next s₂ := by
      rintro ⟨h', tk, m', nw', e, F', N', hn, hJ'⟩
      refine ⟨rfl, h', tk, m', nw', e, F', fun p hp => ?_, fun p hp hb => hn p hp (List.mem_singleton.mp hb), hJ'⟩
      rcases List.mem_append.mp hp with hp | hp
      · have z := N₁ p (List.mem_append_left _ hp)
        rcases hfp p.1 (hown p hp) with e | ⟨o, ho⟩ | ⟨o, ho⟩
        · have : p = (I, oI) := by
            obtain ⟨a, ob⟩ := p
            dsimp only at e z; subst e
            rw [hoI] at z
            rw [Option.some.inj z.1]
          rw [this]; exact N' _ (.head _)
        · rw [ho] at z; cases z.2.2
        · have h1 := N₁ _ (List.mem_append_right own (ho nw (hS _ _ _ hJ)))
          have : p = (p.1, o) := by
            obtain ⟨a, ob⟩ := p
            dsimp only at h1 z ⊢
            rw [z.1] at h1
            rw [Option.some.inj h1.1]
          rw [this]; exact N' _ (.tail _ (ho nw' (hS _ _ _ hJ')))
      · exact N' _ (.tail _ hp)
    cases f with
    | ret v => exact LoopStepV.ret q
    | brk => exact LoopStepV.brk q
    | next => exact LoopStepV.next (fin q)
    | cont => exact LoopStepV.cont (fin q)
  · rintro h' tk m' nw F' N' _ hJ
    exact done m' nw h' tk hJ F' N'

/-- for x in range(n), x a cell; the body stores into one more cell and one local -/
theorem forCell {r K T : Addr} {y : Str} {t u v : Tok} {n : Nat} {m₀ : Str → Option Value} {nw : List (Addr × Obj)} {oK0 oT0 : Obj} {c0 c1 : Option Value}
    (hh : A.handled = none) (F : Fr h₀ env.locals s.heap m₀) (N : News h₀ env.locals s.heap ((K, oK0) :: (T, oT0) :: nw)) (hK0 : oK0.data = .cell c0) (hT0 : oT0.data = .cell c1) (hr : IsRange s.heap r 0 (n : Nat) 1 t u v) (hn : n ≤ 10000)
    (turn : ∀ i u m₁ h tk I oI oK oT c c' (JJ : Flow → Shared → Prop), i < n → AllLt I ((K, oK0) :: (T, oT0) :: nw) → oK.data = .cell c → oT.data = .cell c' → (∀ z, z ≠ y → m₁ z = m₀ z) → Fr h₀ env.locals h m₁ → News h₀ env.locals h ((I, oI) :: (K, oK) :: (T, oT) :: nw) →
      (∀ h' tk' m' oK' oT' c c', oK'.data = .cell c → oT'.data = .cell c' → Fr h₀ env.locals h' m' → News h₀ env.locals h' ((I, oI) :: (K, oK') :: (T, oT') :: nw) → (∀ z, z ≠ y → m' z = m₀ z) → JJ .next { s with heap := h', toks := tk' }) →
      wpAny (model prog w) A (assign (.Name x px) env (.int (i : Nat) u)) (fun _ s₃ => wpAny (model prog w) A (execs body env) JJ E s₃) E { s with heap := h, toks := tk })
    (done : ∀ m₁ h tk oK oT c c', oK.data = .cell c → oT.data = .cell c' → (∀ z, z ≠ y → m₁ z = m₀ z) → Fr h₀ env.locals h m₁ → News h₀ env.locals h ((K, oK) :: (T, oT) :: nw) → Q .next { s with heap := h, toks := tk }) :
    wpAny (model prog w) A (pyIter (.ref r)) (fun it s₂ => TurnsAt prog w A h₀ env (.Name x px) body Q E it s₂) E s := by
  refine iterRange hh F N hr (rsmall (by lia) (by lia) (by lia) (by lia)) (rsize n (by lia)) fun I fp St o B F1 N1 hlt => ?_
  refine turnsV (fun _ => True) (fun i m nw' => ∃ oK oT c c', nw' = (K, oK) :: (T, oT) :: nw ∧ oK.data = .cell c ∧ oT.data = .cell c' ∧ ∀ z, z ≠ y → m z = m₀ z) B.W B.io B.lf B.nI (ne_of_allLt hlt) B.fpk B.st0 F1 N1 ⟨oK0, oT0, c0, c1, rfl, hK0, hT0, fun _ _ => rfl⟩ (fun _ _ _ _ => trivial) ?_ ?_
  · rintro i v m₁ nw' h tk oI hi ⟨u, rfl⟩ ⟨oK, oT, c, c', rfl, hK, hT, hm⟩ hoff F₁ N₁
    rw [Int.zero_add]
    refine turn i u m₁ h tk I oI oK oT c c' _ hi hlt hK hT hm F₁ N₁ ?_
    intro h' tk' m' oK' oT' c c' hK' hT' F' N' hm'
    exact ⟨h', tk', m', _, rfl, F', N', ne_of_allLt (d := I) (news := (K, oK') :: (T, oT') :: nw) hlt, oK', oT', c, c', rfl, hK', hT', hm'⟩
  · rintro m₁ nw' h tk ⟨oK, oT, c, c', rfl, hK, hT, hm⟩ F₁ N₁
    exact done m₁ h tk oK oT c c' hK hT hm F₁ N₁
end
end
section
-- BooksG
structure Book where
  cc : Int
  nc : Int
  tt : Int
  ct : Int
  tab : List (Int × Int)
noncomputable def IsBook (prog : Program) (w : World) (nw : List (Addr × Obj)) (b : Book) (v : Value) : Prop := ∃ T D od t1 t2 t3 t4 k, v = .ref T ∧ (T, tup5 b.cc b.nc b.tt b.ct t1 t2 t3 t4 D k) ∈ nw ∧ (D, od) ∈ nw ∧ IsD prog w od b.tab ∧ (D == sysModules) = false
noncomputable def addBook (t s : Book) : Book := ⟨s.cc + t.cc, s.nc + t.nc, s.tt + t.tt, s.ct + t.ct, addC t.tab s.tab⟩
noncomputable def bookOf (one sign : Str) : Book := ⟨1, one.length, Txt.count one sign, one.length - Txt.count one sign, [(Txt.count one sign, 1)]⟩
noncomputable def book0 : Book := ⟨0, 0, 0, 0, []⟩
noncomputable def bookStep (sign : Str) (bs : List Book) (one : Str) : List Book := bs.set one.length (addBook (bs[one.length]?.getD book0) (bookOf one sign))
noncomputable def booksZ (taken : List Str) (sign : Str) (n : Nat) : List Book := taken.foldl (bookStep sign) (List.replicate n book0)
theorem IsBook.sub {prog : Program} {w : World} {nw nw' : List (Addr × Obj)} {b : Book} {v : Value} (h : IsBook prog w nw b v) (hs : ∀ p ∈ nw, p ∈ nw') : IsBook prog w nw' b v := by
  obtain ⟨T, D, od, t1, t2, t3, t4, k, e, h1, h2, h3⟩ := h
  exact ⟨T, D, od, t1, t2, t3, t4, k, e, hs _ h1, hs _ h2, h3⟩
theorem addC_len (ct cu : List (Int × Int)) : (addC ct cu).length ≤ ct.length + cu.length := by
  have h1 : ∀ (l acc : List (Int × Int)), (l.foldl (fun acc p => kdfPut acc p.1 p.2) acc).length ≤ acc.length + l.length := by
    intro l
    induction l with
    | nil => intro acc; simp
    | cons p r ih => intro acc; have := ih (kdfPut acc p.1 p.2); have := kdfPut_len acc p.1 p.2; simp only [List.foldl_cons, List.length_cons]; lia
  have h2 : ∀ (l acc : List (Int × Int)), (l.foldl addOne acc).length ≤ acc.length + l.length := by
    intro l
    induction l with
    | nil => intro acc; simp
    | cons p r ih => intro acc; have := ih (addOne acc p); have : (addOne acc p).length ≤ acc.length + 1 := kdfPut_len _ _ _; simp only [List.foldl_cons, List.length_cons]; lia
  have := h1 ct []
  have := h2 cu (putAll ct)
  simp only [List.length_nil, addC, putAll] at *
  lia
theorem c_addfB (prog : Program) (w : World) (news : List (Addr × Obj)) (bT bS : Book) (vT vS : Value) (hT : IsBook prog w news bT vT) (hS : IsBook prog w news bS vS) (hsz : bT.tab.length + bS.tab.length ≤ 1000) :
   Con prog w (KF w.params) 2 16 (call (.ref 98) [vT, vS]) news (fun r nw => ∃ D o T ot, r = .ref T ∧ nw = (T, ot) :: (D, o) :: news ∧ IsBook prog w [(T, ot), (D, o)] (addBook bT bS) r ∧ AllLt D news ∧ AllLt T ((D, o) :: news)) := by
  obtain ⟨T1, d, od, t1, t2, t3, t4, k1, rfl, h1, h2, h3, h4⟩ := hT
  obtain ⟨T2, e, oe, t5, t6, t7, t8, k2, rfl, h5, h6, h7, h8⟩ := hS
  intro p loose mean mg mb dp un gd cn cs a ccd cl outer A₀ base h₀ L m s Q E B F X N T hk hd hu hret
  refine c_addf prog w news d e T1 T2 od oe bT.tab bS.tab bT.cc bT.nc bT.tt bT.ct bS.cc bS.nc bS.tt bS.ct t1 t2 t3 t4 t5 t6 t7 t8 k1 k2 h2 h3 h4 h6 h7 h8 hsz h1 h5 p loose mean mg mb dp un gd cn cs a ccd cl outer A₀ base h₀ L m s Q E B F X N T hk hd hu ?_
  rintro r h' tk' news' F' N' ⟨D, o, T', ot, u1, u2, u3, u4, k, rfl, e1, e2, q1, q2, q3, q4⟩
  exact hret _ _ _ _ F' N' ⟨D, o, T', ot, rfl, e1, ⟨T', D, o, u1, u2, u3, u4, k, rfl, by rw [e2]; exact .head _, .tail _ (.head _), q1, q2⟩, q3, q4⟩
theorem c_addfG (prog : Program) (w : World) (news : List (Addr × Obj)) (bT bS : Book) (vT vS : Value) (hT : IsBook prog w news bT vT) (hS : IsBook prog w news bS vS) (hsz : bT.tab.length + bS.tab.length ≤ 1000) :
   ConG prog w (KF w.params) 2 16 (call (.ref 98) [vT, vS]) news (fun P => ∀ D o T ot, IsBook prog w [(T, ot), (D, o)] (addBook bT bS) (.ref T) → AllLt D news → AllLt T ((D, o) :: news) → P (.ref T) ((T, ot) :: (D, o) :: news)) :=
  fun p loose mean mg mb dp un gd cn cs a ccd cl outer A₀ base h₀ L m s Q E B F X N T hk hd hu ret => c_addfB prog w news bT bS vT vS hT hS hsz p loose mean mg mb dp un gd cn cs a ccd cl outer A₀ base h₀ L m s Q E B F X N T hk hd hu fun r h' tk' nw F' N' ⟨D, o, T, ot, e, e2, h1, h2, h3⟩ => by subst e; subst e2; exact ret D o T ot h1 h2 h3 h' tk' F' N'
theorem r_itemBk {prog : Program} {w : World} {ex : List (Addr × Obj)} {A : Around} {E : Value → Shared → Prop} {s : Shared} {h₀ : Heap} {L d : Addr} {news : List (Addr × Obj)} {value slice : Expr} {vs : List Value} {xs : List Book} {k : Nat} {i : Int} {u : Tok} {a : Book} {Q : Value → Shared → Prop} (N : News h₀ L s.heap news) (hm : (d, W.listOf vs.toArray k) ∈ news) (hvs : Are (IsBook prog w ex) vs xs) (h0 : 0 ≤ i) (hi : i < 1000000) (hx : xs[i.toNat]? = some a)
    (q : ∀ v, IsBook prog w ex a v → Q v s)
    (hs : subscripted slice false (.ref d) (.int i u) = operate [.ref d, .int i u] (getItem (.ref d) (.int i u)) := by with_unfolding_all rfl) (hg : ∀ r, letTemporaryGo value (.ref d) r = pure () := by intro _; with_unfolding_all rfl) :
    wpAny (model prog w) A (subscriptTail value slice (.ref d) (.int i u)) Q E s := by
  obtain ⟨v, hv, h⟩ := hvs.get _ _ hx
  exact r_item N hm h0 (by lia) hv (q v h) hs hg
structure BkInv (prog : Program) (w : World) (sign : Str) (n : Nat) (taken : List Str) (Bk : Addr) (news : List (Addr × Obj)) (i : Nat) (st : List Value × List Book) (ex : List (Addr × Obj)) : Prop where
  fold : st.2 = (taken.take i).foldl (bookStep sign) (List.replicate n book0)
  off : ∀ p ∈ ex ++ news, @Ne Nat p.1 Bk
  lt : ∀ p ∈ ex, AllLt p.1 news
  are : Are (IsBook prog w ex) st.1 st.2
  len : st.2.length = n
  tab : ∀ b ∈ st.2, b.tab.length ≤ i
theorem IsBook.of {prog : Program} {w : World} {nw : List (Addr × Obj)} {one sign : Str} {T D : Addr} {od : Obj} {t1 t2 t3 t4 : Tok} {k : Nat} (h1 : (T, tup5 1 one.length (Txt.count one sign) (one.length - Txt.count one sign) t1 t2 t3 t4 D k) ∈ nw) (h2 : (D, od) ∈ nw) (h3 : IsD prog w od [(Txt.count one sign, 1)]) (h4 : (D == sysModules) = false) : IsBook prog w nw (bookOf one sign) (.ref T) := ⟨T, D, od, t1, t2, t3, t4, k, rfl, h1, h2, h3, h4⟩
theorem BkInv.next {prog : Program} {w : World} {sign : Str} {n : Nat} {taken : List Str} {Bk : Addr} {news : List (Addr × Obj)} {i : Nat} {st : List Value × List Book} {ex : List (Addr × Obj)} (h : BkInv prog w sign n taken Bk news i st ex) {one : Str} (hc : taken[i]? = some one) {b : Book} (hb : st.2[((one.length : Nat) : Int).toNat]? = some b) {T D : Addr} {ot o : Obj} (hB : IsBook prog w [(T, ot), (D, o)] (addBook b (bookOf one sign)) (.ref T))
    (hT : @LT.lt Nat _ Bk T) (hD : @LT.lt Nat _ Bk D) (lT : AllLt T news) (lD : AllLt D news) : BkInv prog w sign n taken Bk news (i + 1) (st.1.set one.length (.ref T), bookStep sign st.2 one) ([(T, ot), (D, o)] ++ ex) := by
  have hb' : st.2[one.length]? = some b := hb
  refine ⟨?_, ?_, ?_, ?_, ?_, ?_⟩
  · rw [List.take_add_one, hc, List.foldl_append, ← h.fold]; rfl
  · exact List.forall_mem_cons.mpr ⟨Nat.ne_of_gt hT, List.forall_mem_cons.mpr ⟨Nat.ne_of_gt hD, h.off⟩⟩
  · exact List.forall_mem_cons.mpr ⟨lT, List.forall_mem_cons.mpr ⟨lD, h.lt⟩⟩
  · show Are _ _ (bookStep sign st.2 one)
    rw [bookStep, hb']
    exact are_set (are_imp h.are fun a v _ h => h.sub fun p hp => .tail _ (.tail _ hp)) _ (IsBook.sub hB fun p hp => List.mem_append_left _ hp)
  · show (bookStep sign st.2 one).length = n
    rw [bookStep, List.length_set, h.len]
  · intro b' hb2
    rcases List.mem_or_eq_of_mem_set (show b' ∈ st.2.set _ _ from hb2) with hb2 | rfl
    · exact Nat.le_succ_of_le (h.tab b' hb2)
    · rw [hb']
      have h1 := addC_len b.tab [(Txt.count one sign, 1)]
      have h2 := h.tab b (List.mem_of_getElem? hb')
      simp only [List.length_cons, List.length_nil] at h1
      simp only [Option.getD_some, addBook, bookOf]
      lia
set_option maxRecDepth 100000 in
set_option maxHeartbeats 2000000 in
theorem c_booksG (prog : Program) (w : World) (news : List (Addr × Obj)) (ax : Addr) (ts : List Value) (kt : Nat) (taken : List Str) (sign : Str) (top : Int) (n : Nat) (t1 t2 : Tok) (hm : (ax, W.listOf ts.toArray kt) ∈ news) (hts : Are IsStr ts taken) (hn : top + 1 = n) (hn' : n ≤ 100) (hln : ∀ y ∈ taken, y.length < n) (htk : taken.length ≤ 500) :
   ConG prog w (KF w.params) 3 24 (call (.ref 134) [.ref ax, .str sign t1, .int top t2]) news (fun P => ∀ Bk vs k ex, (∀ p ∈ ex ++ news, @Ne Nat p.1 Bk) → (∀ p ∈ ex, AllLt p.1 news) → Are (IsBook prog w ex) vs (booksZ taken sign n) → P (.ref Bk) ((Bk, W.listOf vs.toArray k) :: (ex ++ news))) := by
  intro p loose mean mg mb dp un gd cn cs a ccd cl outer A₀ base h₀ L m s Q E B F X N T hk hd hu hret
  refine wpAny_call ?_
  k_dflt (refine' code_defC (binds := [(Str.ofString "taken", .ref ax), (Str.ofString "sign", .str sign t1), (Str.ofString "top", .int top t2)]) ?k1 ?k2 ?k3 ?k4 ?k5 ?kA ?kF ?kK ?k6 ?k7 ?k8 ?k9 ?kB ?kD ?_ ?c2 ?c3 ?c4; (case kA => exact rfl); (case kF => exact rfl); (case kK => assumption); (case k1 => k_asm); (case k2 => k_asm); (case k3 => k_asm); (case k4 => k_asm); (case k5 => k_asm); (case k6 => k_is); (case k7 => k_is); (case k8 => ktr_room); (case k9 => exact BindsTo.of_eq rfl); (case kB => exact rfl); (case kD => decide +kernel); (case c2 => exact rfl); (case c3 => exact rfl); (case c4 => exact rfl); k_whole; intro g' L' h' tk' cells' FG' F' N' Y' B' X' T' l1'; k_cells Y'; (try simp only [List.cons_append, List.nil_append] at N'); (try dsimp only); (try k_lift B'); (try k_fold))
  have l1 := allLt_of l1'
  clear l1'
  (repeat' first | with_reducible (k_here; (with_reducible show wpAny _ _ (subscriptTail _ _ (Value.ref _) (Value.int _ _)) _ _ _); k_dflt (refine' r_itemBk ?k1 ?k2 ?kv ?k3 ?k4 ?k5 ?_ ?k6 ?k7; (case k1 => k_asm); (case k2 => k_mem); (case kv => with_reducible assumption); (case k5 => with_reducible assumption); (case k3 => lia); (case k4 => lia); (case k6 => rfl); (case k7 => (intro _; rfl))); intro _ _) | with_reducible (k_here; (with_reducible show wpAny _ _ (setItem (Value.ref _) (Value.int _ _) (Value.ref _)) _ _ _); k_dflt (refine' r_set ?F ?N ?U ?a ?b ?c ?_; (case F => k_asm); (case N => k_asm); (case U => k_updF); (case a => lia); (case b => lia); (case c => lia)); intro h' F' N'; (try dsimp only at N'); revert h' F' N'; intros) | with_reducible ((with_reducible show wpAny _ _ (exec (Stmt.For (Expr.Name _ _) _ _ _ _) _) _ _ _); (with_unfolding_all refine' For_invVF (by (rename Fr _ _ _ _ => lF'); exact lF') ?k1 ?k2 ?_; (case k1 => exact rfl); (case k2 => exact rfl); k_whole)) | with_reducible ((with_reducible show wpAny _ _ (exec (Stmt.Assign [Expr.Name _ _] (Expr.ListComp _ [⟨_, _, [], _⟩] _ _) _) _) _ _ _); k_dflt (refine listCompA (by k_asm) (by rfl) (by rfl) (by rfl) (by decide) (by rfl) (by decide) (by rfl) (by rfl) (by rfl) ?_)) | with_reducible ((with_reducible show wpAny _ _ (eval (Expr.Dict (_ :: _) _ _) _) _ _ _); k_dflt (refine' kdn_eval (knd := PySem.intKind _ _) ?F ?N ?b ?a ?l ?e ?n ?_; (case F => k_asm); (case N => k_asm); (case b => exact Top.nolimit (by k_asm)); (case a => rfl); (case l => rfl); (case e => exact List.cons_ne_nil _ _); (case n => exact Nat.le_of_ble_eq_true rfl)); intro d' h' o' F' N' l1 lo' hd'; (try k_lt l1); revert d' h' o' F' N' l1 lo' hd'; intros) | (walk_at "STEP" <;> (try dsimp only)))
  rename_i dd hA od loD hs fs hiD fiD lA D hB lB hC oc F1 N1 hcell hE tkE ta ua va hR FF NN hK
  clear hK F1 N1 hs fs
  obtain ⟨o5, ho5, NN1⟩ : ∃ o5, tup5 0 0 0 0 tk' (tk' + 1) (tk' + 1 + 1) (tk' + 1 + 1 + 1) dd 0 = o5 ∧ News g' L' hE ((D, o5) :: (dd, od) :: (L' + 1, oc) :: news) := ⟨_, rfl, NN⟩
  clear NN
  refine compRange (fun _ => ()) (Out := fun _ y => y = .ref D) rfl FF NN1 hR (rsmall (by lia) (by lia) (by lia) (by lia)) (rsize n (by lia)) (by lia) ?_ ?_
  · intro c tc I oI C oC D' m₂ h tk E' ys hc hC hx F2 N2
    clear hret
    (try dsimp only)
    (repeat' first | with_reducible (k_here; (with_reducible show wpAny _ _ (subscriptTail _ _ (Value.ref _) (Value.int _ _)) _ _ _); k_dflt (refine' r_itemBk ?k1 ?k2 ?kv ?k3 ?k4 ?k5 ?_ ?k6 ?k7; (case k1 => k_asm); (case k2 => k_mem); (case kv => with_reducible assumption); (case k5 => with_reducible assumption); (case k3 => lia); (case k4 => lia); (case k6 => rfl); (case k7 => (intro _; rfl))); intro _ _) | with_reducible (k_here; (with_reducible show wpAny _ _ (setItem (Value.ref _) (Value.int _ _) (Value.ref _)) _ _ _); k_dflt (refine' r_set ?F ?N ?U ?a ?b ?c ?_; (case F => k_asm); (case N => k_asm); (case U => k_updF); (case a => lia); (case b => lia); (case c => lia)); intro h' F' N'; (try dsimp only at N'); revert h' F' N'; intros) | with_reducible ((with_reducible show wpAny _ _ (exec (Stmt.For (Expr.Name _ _) _ _ _ _) _) _ _ _); (with_unfolding_all refine' For_invVF (by (rename Fr _ _ _ _ => lF'); exact lF') ?k1 ?k2 ?_; (case k1 => exact rfl); (case k2 => exact rfl); k_whole)) | with_reducible ((with_reducible show wpAny _ _ (exec (Stmt.Assign [Expr.Name _ _] (Expr.ListComp _ [⟨_, _, [], _⟩] _ _) _) _) _ _ _); k_dflt (refine listCompA (by k_asm) (by rfl) (by rfl) (by rfl) (by decide) (by rfl) (by decide) (by rfl) (by rfl) (by rfl) ?_)) | with_reducible ((with_reducible show wpAny _ _ (eval (Expr.Dict (_ :: _) _ _) _) _ _ _); k_dflt (refine' kdn_eval (knd := PySem.intKind _ _) ?F ?N ?b ?a ?l ?e ?n ?_; (case F => k_asm); (case N => k_asm); (case b => exact Top.nolimit (by k_asm)); (case a => rfl); (case l => rfl); (case e => exact List.cons_ne_nil _ _); (case n => exact Nat.le_of_ble_eq_true rfl)); intro d' h' o' F' N' l1 lo' hd'; (try k_lt l1); revert d' h' o' F' N' l1 lo' hd'; intros) | (walk_at "STEP" <;> (try dsimp only)))
    all_goals exact eltEnd (by k_asm) N2 subs_refl rfl
  · intro hp ys hy
    have hbk : Are (IsBook prog w [(D, o5), (dd, od)]) ys (List.replicate n book0) := by
      have := are_const (b := book0) (Js := IsBook prog w [(D, o5), (dd, od)]) hy fun a v hv => (⟨D, dd, od, _, _, _, _, _, hv, by rw [← ho5]; exact .head _, .tail _ (.head _), ⟨[], hiD, fiD⟩, loD⟩ : IsBook prog w [(D, o5), (dd, od)] book0 v)
      simpa [rangeKs_length] using this
    (repeat' first | with_reducible (k_here; (with_reducible show wpAny _ _ (subscriptTail _ _ (Value.ref _) (Value.int _ _)) _ _ _); k_dflt (refine' r_itemBk ?k1 ?k2 ?kv ?k3 ?k4 ?k5 ?_ ?k6 ?k7; (case k1 => k_asm); (case k2 => k_mem); (case kv => with_reducible assumption); (case k5 => with_reducible assumption); (case k3 => lia); (case k4 => lia); (case k6 => rfl); (case k7 => (intro _; rfl))); intro _ _) | with_reducible (k_here; (with_reducible show wpAny _ _ (setItem (Value.ref _) (Value.int _ _) (Value.ref _)) _ _ _); k_dflt (refine' r_set ?F ?N ?U ?a ?b ?c ?_; (case F => k_asm); (case N => k_asm); (case U => k_updF); (case a => lia); (case b => lia); (case c => lia)); intro h' F' N'; (try dsimp only at N'); revert h' F' N'; intros) | with_reducible ((with_reducible show wpAny _ _ (exec (Stmt.For (Expr.Name _ _) _ _ _ _) _) _ _ _); (with_unfolding_all refine' For_invVF (by (rename Fr _ _ _ _ => lF'); exact lF') ?k1 ?k2 ?_; (case k1 => exact rfl); (case k2 => exact rfl); k_whole)) | with_reducible ((with_reducible show wpAny _ _ (exec (Stmt.Assign [Expr.Name _ _] (Expr.ListComp _ [⟨_, _, [], _⟩] _ _) _) _) _ _ _); k_dflt (refine listCompA (by k_asm) (by rfl) (by rfl) (by rfl) (by decide) (by rfl) (by decide) (by rfl) (by rfl) (by rfl) ?_)) | with_reducible ((with_reducible show wpAny _ _ (eval (Expr.Dict (_ :: _) _ _) _) _ _ _); k_dflt (refine' kdn_eval (knd := PySem.intKind _ _) ?F ?N ?b ?a ?l ?e ?n ?_; (case F => k_asm); (case N => k_asm); (case b => exact Top.nolimit (by k_asm)); (case a => rfl); (case l => rfl); (case e => exact List.cons_ne_nil _ _); (case n => exact Nat.le_of_ble_eq_true rfl)); intro d' h' o' F' N' l1 lo' hd'; (try k_lt l1); revert d' h' o' F' N' l1 lo' hd'; intros) | (walk_at "STEP" <;> (try dsimp only)))
    rename_i Bk hF tkF FF NN hoB
    have hoB2 : ∀ p ∈ (D, o5) :: (dd, od) :: (L' + 1, oc) :: news, @Ne Nat p.1 Bk := Off1.all (l := (D, o5) :: (dd, od) :: (L' + 1, oc) :: news) hoB
    have hI0 : BkInv prog w sign n taken Bk news 0 (ys, List.replicate n book0) [(D, o5), (dd, od), (L' + 1, oc)] :=
      ⟨rfl, hoB2, List.forall_mem_cons.mpr ⟨lB.2.2, List.forall_mem_cons.mpr ⟨lA.2, List.forall_mem_cons.mpr ⟨allLt_le (Nat.le_succ _) l1, fun p hp => nomatch hp⟩⟩⟩, are_imp hbk fun a v _ h => h.sub fun p hp => List.mem_append_left [(L' + 1, oc)] hp, by simp, fun b hb => by rw [(List.mem_replicate.mp hb).2]; exact Nat.le_refl 0⟩
    refine forListG (σ := List Value × List Book) (Is := IsStr) (k := kt) (xs := taken) (news := news) (fun st => [(Bk, W.listOf st.1.toArray ys.length)]) (fun _ => [(Str.ofString "books", .ref Bk), (Str.ofString "sign", .str sign t1)]) (BkInv prog w sign n taken Bk news) (ys, List.replicate n book0) [(D, o5), (dd, od), (L' + 1, oc)] rfl FF NN hm hts ?_ hI0 (fun _ => rfl) ?_ ?_
    · exact List.forall_mem_cons.mpr ⟨rfl, List.forall_mem_cons.mpr ⟨rfl, fun p hp => (nomatch hp)⟩⟩
    · intro i c v st ex m₁ h tk I oI JJ hc hIs hInv hlt hoff F₁ N₁ q1 _ _ _
      obtain ⟨t, rfl⟩ := hIs
      have hcl := hln c (List.mem_of_getElem? hc)
      have hvl : st.1.length = n := hInv.are.length.trans hInv.len
      obtain ⟨b9, hx⟩ : ∃ b, st.2[((c.length : Nat) : Int).toNat]? = some b := ⟨_, List.getElem?_eq_getElem (by rw [hInv.len]; exact hcl)⟩
      have hare := hInv.are
      have hBI : @Ne Nat Bk I := hoff _ (.head _)
      have hI1 : ∀ p ∈ ex ++ news, @Ne Nat p.1 I := fun p hp => hoff p (.tail _ hp)
      have hI2 := hInv.off
      have htb := hInv.tab b9 (List.mem_of_getElem? hx)
      have hil := (List.getElem?_eq_some_iff.mp hc).1
      clear FF hret hoff NN1 hoB hoB2 hI0
      (try dsimp only)
      simp only [seen, List.foldr, List.cons_append, List.nil_append] at F₁ N₁
      (repeat' first | with_reducible (k_here; (with_reducible show wpAny _ _ (subscriptTail _ _ (Value.ref _) (Value.int _ _)) _ _ _); k_dflt (refine' r_itemBk ?k1 ?k2 ?kv ?k3 ?k4 ?k5 ?_ ?k6 ?k7; (case k1 => k_asm); (case k2 => k_mem); (case kv => with_reducible assumption); (case k5 => with_reducible assumption); (case k3 => lia); (case k4 => lia); (case k6 => rfl); (case k7 => (intro _; rfl))); intro _ _) | with_reducible (k_here; (with_reducible show wpAny _ _ (setItem (Value.ref _) (Value.int _ _) (Value.ref _)) _ _ _); k_dflt (refine' r_set ?F ?N ?U ?a ?b ?c ?_; (case F => k_asm); (case N => k_asm); (case U => k_updF); (case a => lia); (case b => lia); (case c => lia)); intro h' F' N'; (try dsimp only at N'); revert h' F' N'; intros) | with_reducible ((with_reducible show wpAny _ _ (exec (Stmt.For (Expr.Name _ _) _ _ _ _) _) _ _ _); (with_unfolding_all refine' For_invVF (by (rename Fr _ _ _ _ => lF'); exact lF') ?k1 ?k2 ?_; (case k1 => exact rfl); (case k2 => exact rfl); k_whole)) | with_reducible ((with_reducible show wpAny _ _ (exec (Stmt.Assign [Expr.Name _ _] (Expr.ListComp _ [⟨_, _, [], _⟩] _ _) _) _) _ _ _); k_dflt (refine listCompA (by k_asm) (by rfl) (by rfl) (by rfl) (by decide) (by rfl) (by decide) (by rfl) (by rfl) (by rfl) ?_)) | with_reducible ((with_reducible show wpAny _ _ (eval (Expr.Dict (_ :: _) _ _) _) _ _ _); k_dflt (refine' kdn_eval (knd := PySem.intKind _ _) ?F ?N ?b ?a ?l ?e ?n ?_; (case F => k_asm); (case N => k_asm); (case b => exact Top.nolimit (by k_asm)); (case a => rfl); (case l => rfl); (case e => exact List.cons_ne_nil _ _); (case n => exact Nat.le_of_ble_eq_true rfl)); intro d' h' o' F' N' l1 lo' hd'; (try k_lt l1); revert d' h' o' F' N' l1 lo' hd'; intros) | (walk_at "STEP" <;> (try dsimp only)))
      rename_i v9 hB9 d1 hx1 ox1 lod hd0 lx1 hx2 od1 hd1 hf1 Ts hx3 FF NN lx3
      have hd2 : IsD prog w od1 [(Txt.count c sign, 1)] := ⟨_, hd1, hf1⟩
      clear hd0 hd1 hf1
      obtain ⟨ot5, hS1, NN9⟩ : ∃ ot, (∀ nw, (Ts, ot) ∈ nw → (d1, od1) ∈ nw → IsBook prog w nw (bookOf c sign) (.ref Ts)) ∧ News g' L' hx3 ((Ts, ot) :: (d1, od1) :: (I, oI) :: (Bk, W.listOf st.1.toArray ys.length) :: (ex ++ news)) := ⟨_, fun nw h1 h2 => IsBook.of h1 h2 hd2 lod, NN⟩
      clear NN
      have hS := hS1 ((Ts, ot5) :: (d1, od1) :: (I, oI) :: (Bk, W.listOf st.1.toArray ys.length) :: (ex ++ news)) (.head _) (.tail _ (.head _))
      have hT := IsBook.sub (nw' := (Ts, ot5) :: (d1, od1) :: (I, oI) :: (Bk, W.listOf st.1.toArray ys.length) :: (ex ++ news)) hB9 (fun p hp => .tail _ (.tail _ (.tail _ (.tail _ (List.mem_append_left _ hp)))))
      have hz : b9.tab.length + (bookOf c sign).tab.length ≤ 1000 := by show _ + 1 ≤ _; lia
      k_dflt (refine' conG_use (c_addfG prog w _ _ _ _ _ hT hS hz) ?k1 ?k2 ?k3 ?k4 ?k5 ?kK ?kd ?ku ?_; (case k1 => k_asm); (case k2 => k_asm); (case k3 => k_asm); (case k4 => exact NN9); (case k5 => k_asm); (case kK => exact rfl); (case kd => ktr_room); (case ku => ktr_units))
      intro D9 o9 T9 ot9 hB9' hD3 hD4 h9 tk9 F9 N9
      have hD3' : @LT.lt Nat _ Ts D9 ∧ @LT.lt Nat _ d1 D9 ∧ @LT.lt Nat _ I D9 ∧ @LT.lt Nat _ Bk D9 ∧ AllLt D9 (ex ++ news) := hD3
      have hD4' : @LT.lt Nat _ D9 T9 ∧ @LT.lt Nat _ Ts T9 ∧ @LT.lt Nat _ d1 T9 ∧ @LT.lt Nat _ I T9 ∧ @LT.lt Nat _ Bk T9 ∧ AllLt T9 (ex ++ news) := hD4
      have N10 : News g' L' h9 ((I, oI) :: (Bk, W.listOf st.1.toArray ys.length) :: (T9, ot9) :: (D9, o9) :: (ex ++ news)) := cb_drop N9 (by lcg_sub)
      have f1 := hD3'.2.2.2.1
      have f2 := hD4'.2.2.2.2.1
      have f3 := hD3'.2.2.1
      have f4 := hD4'.2.2.2.1
      have hInv' := hInv.next hc hx hB9' f2 f1 (allLt_sub hD4'.2.2.2.2.2 fun p hp => List.mem_append_right _ hp) (allLt_sub hD3'.2.2.2.2 fun p hp => List.mem_append_right _ hp)
      clear N9 hD3 hD4 hD3' hD4' hS hT hS1 NN9 FF
      (try dsimp only)
      (repeat' first | with_reducible (k_here; (with_reducible show wpAny _ _ (subscriptTail _ _ (Value.ref _) (Value.int _ _)) _ _ _); k_dflt (refine' r_itemBk ?k1 ?k2 ?kv ?k3 ?k4 ?k5 ?_ ?k6 ?k7; (case k1 => k_asm); (case k2 => k_mem); (case kv => with_reducible assumption); (case k5 => with_reducible assumption); (case k3 => lia); (case k4 => lia); (case k6 => rfl); (case k7 => (intro _; rfl))); intro _ _) | with_reducible (k_here; (with_reducible show wpAny _ _ (setItem (Value.ref _) (Value.int _ _) (Value.ref _)) _ _ _); k_dflt (refine' r_set ?F ?N ?U ?a ?b ?c ?_; (case F => k_asm); (case N => k_asm); (case U => k_updF); (case a => lia); (case b => lia); (case c => lia)); intro h' F' N'; (try dsimp only at N'); revert h' F' N'; intros) | with_reducible ((with_reducible show wpAny _ _ (exec (Stmt.For (Expr.Name _ _) _ _ _ _) _) _ _ _); (with_unfolding_all refine' For_invVF (by (rename Fr _ _ _ _ => lF'); exact lF') ?k1 ?k2 ?_; (case k1 => exact rfl); (case k2 => exact rfl); k_whole)) | with_reducible ((with_reducible show wpAny _ _ (exec (Stmt.Assign [Expr.Name _ _] (Expr.ListComp _ [⟨_, _, [], _⟩] _ _) _) _) _ _ _); k_dflt (refine listCompA (by k_asm) (by rfl) (by rfl) (by rfl) (by decide) (by rfl) (by decide) (by rfl) (by rfl) (by rfl) ?_)) | with_reducible ((with_reducible show wpAny _ _ (eval (Expr.Dict (_ :: _) _ _) _) _ _ _); k_dflt (refine' kdn_eval (knd := PySem.intKind _ _) ?F ?N ?b ?a ?l ?e ?n ?_; (case F => k_asm); (case N => k_asm); (case b => exact Top.nolimit (by k_asm)); (case a => rfl); (case l => rfl); (case e => exact List.cons_ne_nil _ _); (case n => exact Nat.le_of_ble_eq_true rfl)); intro d' h' o' F' N' l1 lo' hd'; (try k_lt l1); revert d' h' o' F' N' l1 lo' hd'; intros) | (walk_at "STEP" <;> (try dsimp only)))
      rename Fr _ _ _ _ => FE
      rename News _ _ _ _ => NE
      exact q1 _ _ _ (st.1.set c.length (.ref T9), bookStep sign st.2 c) [(T9, ot9), (D9, o9)] FE NE (List.forall_mem_cons.mpr ⟨Nat.ne_of_gt f4, List.forall_mem_cons.mpr ⟨Nat.ne_of_gt f3, fun _ h => nomatch h⟩⟩) (List.forall_mem_cons.mpr ⟨rfl, List.forall_mem_cons.mpr ⟨rfl, fun _ h => nomatch h⟩⟩) hInv'
    · intro st ex m₁ h tk hInv F₁ N₁
      clear FF NN1 hoB hoB2 hI0
      simp only [seen, List.foldr, List.cons_append, List.nil_append] at F₁ N₁
      (try dsimp only)
      (repeat' first | with_reducible (k_here; (with_reducible show wpAny _ _ (subscriptTail _ _ (Value.ref _) (Value.int _ _)) _ _ _); k_dflt (refine' r_itemBk ?k1 ?k2 ?kv ?k3 ?k4 ?k5 ?_ ?k6 ?k7; (case k1 => k_asm); (case k2 => k_mem); (case kv => with_reducible assumption); (case k5 => with_reducible assumption); (case k3 => lia); (case k4 => lia); (case k6 => rfl); (case k7 => (intro _; rfl))); intro _ _) | with_reducible (k_here; (with_reducible show wpAny _ _ (setItem (Value.ref _) (Value.int _ _) (Value.ref _)) _ _ _); k_dflt (refine' r_set ?F ?N ?U ?a ?b ?c ?_; (case F => k_asm); (case N => k_asm); (case U => k_updF); (case a => lia); (case b => lia); (case c => lia)); intro h' F' N'; (try dsimp only at N'); revert h' F' N'; intros) | with_reducible ((with_reducible show wpAny _ _ (exec (Stmt.For (Expr.Name _ _) _ _ _ _) _) _ _ _); (with_unfolding_all refine' For_invVF (by (rename Fr _ _ _ _ => lF'); exact lF') ?k1 ?k2 ?_; (case k1 => exact rfl); (case k2 => exact rfl); k_whole)) | with_reducible ((with_reducible show wpAny _ _ (exec (Stmt.Assign [Expr.Name _ _] (Expr.ListComp _ [⟨_, _, [], _⟩] _ _) _) _) _ _ _); k_dflt (refine listCompA (by k_asm) (by rfl) (by rfl) (by rfl) (by decide) (by rfl) (by decide) (by rfl) (by rfl) (by rfl) ?_)) | with_reducible ((with_reducible show wpAny _ _ (eval (Expr.Dict (_ :: _) _ _) _) _ _ _); k_dflt (refine' kdn_eval (knd := PySem.intKind _ _) ?F ?N ?b ?a ?l ?e ?n ?_; (case F => k_asm); (case N => k_asm); (case b => exact Top.nolimit (by k_asm)); (case a => rfl); (case l => rfl); (case e => exact List.cons_ne_nil _ _); (case n => exact Nat.le_of_ble_eq_true rfl)); intro d' h' o' F' N' l1 lo' hd'; (try k_lt l1); revert d' h' o' F' N' l1 lo' hd'; intros) | (walk_at "STEP" <;> (try dsimp only)))
      rename Fr h₀ _ _ _ => F9
      rename News h₀ _ _ _ => N9
      refine hret Bk st.1 ys.length ex hInv.off hInv.lt ?_ _ _ F9 N9
      have := hInv.fold
      rw [List.take_length] at this
      rw [booksZ, ← this]
      exact hInv.are
end
section
-- TupS
section
variable {prog : Program} {w : World} {A : Around} {E : Value → Shared → Prop} {s : Shared} {h₀ : Heap} {L : Addr} {m : Str → Option Value} {news : List (Addr × Obj)}
theorem applied4 {sl : Addr} {u : Tok} {Q : Int × Int × Nat → Shared → Prop} (hs : s.heap.IsSliceOf sl .none (.int 4 u) .none) (h : Q (0, 1, 4) s) :
    wpAny (model prog w) A (Builtin.Slice.sliceApplied (.ref sl) (pure ((5 : Nat) : Int))) Q E s := by
  obtain ⟨os, hos, hcs, hds⟩ := id hs
  unfold Builtin.Slice.sliceApplied Builtin.Slice.sliceFields
  refine wpAny_bind (wpAny_bind (wpAny_field hos hds (x := .none) rfl (wpAny_bind (wpAny_field hos hds (x := .int 4 u) rfl (wpAny_bind (wpAny_field hos hds (x := .none) rfl (wpAny_pure ?_)))))))
  refine wpAny_bind (slicePart_none ?_)
  show wpAny _ _ (if ((1 : Int) == 0) = true then _ else _) _ _ s
  rw [if_neg (by decide)]
  exact wpAny_bind (slicePart_none (wpAny_bind (slicePart_int (wpAny_bind (wpAny_pure (wpAny_pure h))))))
/-- the first four of a five-tuple -/
theorem four_of_five {value slice : Expr} {t : Addr} {a b c d e : Value} {u : Tok} {k : Nat} {Q : Value → Shared → Prop}
    (F : Fr h₀ L s.heap m) (N : News h₀ L s.heap news) (hm : (t, ({ cls := .type "tuple", data := .seq #[a, b, c, d, e] k } : Obj)) ∈ news)
    (h : ∀ D h', Fr h₀ L h' m → News h₀ L h' ((D, ({ cls := .type "tuple", data := .seq #[a, b, c, d] } : Obj)) :: news) → AllLt D news → Q (.ref D) { s with heap := h' })
    (hs : subscripted slice false (.ref t) (.ref s.heap.objs.size) = operate [.ref s.heap.objs.size, .ref t] (getItem (.ref t) (.ref s.heap.objs.size)) := by with_unfolding_all rfl)
    (hg : ∀ r, letTemporaryGo value (.ref t) r = pure () := by intro _; with_unfolding_all rfl) :
    wpAny (model prog w) A (subscriptTail value slice (.ref t) (.ref s.heap.objs.size)) Q E { s with heap := s.heap.push { cls := .type "slice", data := .fields #[.none, .int 4 u, .none] } } := by
  have ht : IsTup s.heap t #[a, b, c, d, e] := News.isTup N hm
  have ht' : IsTup (s.heap.push { cls := .type "slice", data := .fields #[.none, .int 4 u, .none] }) t #[a, b, c, d, e] := ht.keeps fun _ _ e => Heap.get?_push_of_some _ e
  refine subscriptTail_ops (s := { s with heap := s.heap.push { cls := .type "slice", data := .fields #[.none, .int 4 u, .none] } }) ht'.typeIs PySem.F.slot_tuple_getitem.lookup ?_ hs hg
  have hsl : (s.heap.push { cls := .type "slice", data := .fields #[.none, .int 4 u, .none] }).IsSliceOf s.heap.objs.size .none (.int 4 u) .none := Heap.IsSliceOf.new ..
  obtain ⟨os, hos, hcs, hds⟩ := id hsl
  have hTs : Shared.TypeIs { s with heap := s.heap.push { cls := .type "slice", data := .fields #[.none, .int 4 u, .none] } } (.ref s.heap.objs.size) "slice" := ⟨os, hos, hcs⟩
  have hz : sizeOk (.seq #[a, b, c, d]) := Nat.le_of_ble_eq_true rfl
  have N1 := News.push (F.push { cls := .type "slice", data := .fields #[.none, .int 4 u, .none] }) (N.grown fun _ _ e => Heap.get?_push_of_some _ e) { cls := .type "tuple", data := .seq #[a, b, c, d] }
  have hq := h _ _ ((F.push _).push _) N1 (allLt_of fun p hp => Nat.lt_trans (Heap.lt_size (N p hp).1) (by rw [Heap.size_push]; exact Nat.lt_succ_self _))
  unfold getItem
  try with_reducible refine wpAny_holding ?_
  first | refine wpAny_bind (wpAny_pure ?_) | skip
  refine wpAny_bind (wpAny_sequenceKey ht'.typeIs (by decide) ?_)
  refine wpAny_bind (wpAny_callSpecial?_slot (name := Str.ofString "__getitem__") ht'.typeIs PySem.F.slot_tuple_getitem
    (wpAny_call_entry PySem.F.slot_tuple_getitem ht'.typeIs PySem.F.entry_tuple_getitem ?_ (args_tuple_getitem _ _)))
  show wpAny _ _ (Builtin.Tuple.tupleItemsOf (.ref t) >>= _) _ _ _
  refine wpAny_bind (tupleItemsOf_ ht' ?_)
  refine wpAny_bind (wpAny_typeOf hTs ?_)
  rw [if_pos (by decide)]
  refine wpAny_bind (applied4 hsl ?_)
  first
    | exact wpAny_bind (m := Builtin.Tuple.tupleExact _) (wpAny_newObj_type (wpAny_pure ⟨_, rfl, wpAny_pure hq⟩) hz)
    | exact wpAny_bind (m := Builtin.Tuple.tupleExact _) (wpAny_newObj_type (wpAny_bind (wpAny_pure (wpAny_pure ⟨_, rfl, wpAny_pure hq⟩))) hz)
    | exact wpAny_bind (wpAny_bind (m := Builtin.Tuple.tupleExact _) (wpAny_newObj_type (wpAny_pure (wpAny_pure ⟨_, rfl, wpAny_pure hq⟩)) hz))
    | exact wpAny_bind (wpAny_bind (m := Builtin.Tuple.tupleExact _) (wpAny_newObj_type (wpAny_pure ⟨_, rfl, wpAny_pure hq⟩) hz))
end
theorem kt_carried {a b c d : Int} {t1 t2 t3 t4 : Tok} : CarriedAll [.int a t1, .int b t2, .int c t3, .int d t4] ([a, b, c, d].map PyData.int) := .cons (.int _ _) (.cons (.int _ _) (.cons (.int _ _) (.cons (.int _ _) .nil)))
theorem kt_shaped (a b c d : Int) : SeqAt.shaped (.tuple ([a, b, c, d].map PyData.int)) = true := by
  simp [SeqAt.shaped, PyData.canLay0, PyData.canLayAll0, PyData.depth, PyData.depthAll]
theorem ne_tup4 {prog : Program} {w : World} {A : Around} {E : Value → Shared → Prop} {s : Shared} {h₀ : Heap} {L : Addr} {news : List (Addr × Obj)} {T U : Addr} {a b c d a' b' c' d' : Int} {t1 t2 t3 t4 u1 u2 u3 u4 : Tok} {k k' : Nat} {Q : Value → Shared → Prop} (N : News h₀ L s.heap news)
    (ht : (T, ({ cls := .type "tuple", data := .seq #[.int a t1, .int b t2, .int c t3, .int d t4] k } : Obj)) ∈ news) (hu : (U, ({ cls := .type "tuple", data := .seq #[.int a' u1, .int b' u2, .int c' u3, .int d' u4] k' } : Obj)) ∈ news)
    (e1 : a = a') (e2 : b = b') (e3 : c = c') (e4 : d = d') (hun : A.units + 64 < cLine) (h : Q (.bool false) s) :
    wpAny (model prog w) A (compareOp .NotEq (.ref T) (.ref U)) Q E s := by
  subst e1; subst e2; subst e3; subst e4
  refine ne_dataH_same (reads_newDataT (ys := [.int a t1, .int b t2, .int c t3, .int d t4]) (News.isTup N ht) kt_carried) (reads_newDataT (ys := [.int a u1, .int b u2, .int c u3, .int d u4]) (News.isTup N hu) kt_carried) (kt_shaped _ _ _ _) (kt_shaped _ _ _ _) hun (SeqAt.noMix_of_shape (.tuples .int) rfl _ _ (tuples_map_has fun _ => rfl) (tuples_map_has fun _ => rfl)) ?_
  have e : PySem.Spec.same (.tuple ([a, b, c, d].map PyData.int)) (.tuple ([a, b, c, d].map PyData.int)) = true := by simp [PySem.Spec.same, PySem.Spec.sameAll]
  rw [e]; exact h
end
section
-- CompD
section
open LCg LCt PyProof.V
variable {prog : Program} {w : World} {A : Around} {E : Value → Shared → Prop} {s : Shared} {h₀ : Heap} {L : Addr} {m : Str → Option Value} {env : Env}
theorem isD_of {h : Heap} {D : Addr} {kvs : List (Int × Value)} {c : List (Int × Int)} (hd : h.DictOf (intKind prog w) D kvs) (hf : FlatPairs PyData.int kvs (kdfD c)) : ∃ o, h.get? D = some o ∧ IsD prog w o c := by
  obtain ⟨o, g, hd'⟩ := Heap.dictOf_iff.mp hd
  exact ⟨o, g, kvs, hd', hf⟩
/-- a store into a dict of ints that stands in the ledger -/
theorem d_set {d : Addr} {o : Obj} {c : List (Int × Int)} {k e : Int} {t u : Tok} {Q : Unit → Shared → Prop} (g : s.heap.get? d = some o) (hd : IsD prog w o c) (hc : c.length ≤ 16777216)
    (q : ∀ h' o', Heap.SameBut d s.heap h' → h'.get? d = some o' → IsD prog w o' (kdfPut c k e) → Q () { s with heap := h', toks := s.toks + 1 }) : wpAny (model prog w) A (dictSet d (.int k t) (.int e u)) Q E s := by
  obtain ⟨kvs, h1, h2⟩ := hd
  refine wpAny_dictSet_pairs (hsz := by rw [← h2.length, kdfD_length, sizeLine_eq]; exact hc) (intKind_is _ _ _ _) (Heap.dictOf_iff.mpr ⟨o, g, h1⟩) fun h' hd' hs => ?_
  obtain ⟨o', g', hd''⟩ := Heap.dictOf_iff.mp hd'
  exact q h' o' hs g' ⟨_, hd'', by have := h2.stored same_int k (PyProof.V.Flat.int e u); rw [← kdfD_put]; exact this⟩
/-- one loop of a dict comprehension: its variables' object C, its dict D, the rest of the ledger stays -/
theorem dloop {e : Expr} {d : Nat} {x : Str} {px p : Pos} {cenv : Env} {W : (Unit → Shared → Prop) → (Value → Shared → Prop) → Shared → Prop} {rest : Sem Fin} {I C D : Addr} {n : Nat} {P : Nat → Value → Prop} {fp : List Addr} {St : Nat → Heap → Prop} {S : List (Addr × Obj) → Prop} {nw : List (Addr × Obj)} {oC0 oD0 : Obj} {m0 : Str → Option Value} {c0 : List (Int × Int)} {R : Result → Shared → Prop}
    (K : Nat → (Str → Option Value) → List (Int × Int) → Prop) (hq : (Code.compLoop e d (.ref I) (.ref D) cenv).quiet = true)
    (hden : (model prog w).den (Code.compLoop e d (.ref I) (.ref D) cenv) = (compTurn e d (.ref I) (.ref D) cenv).onRaise (fun x => do noteFrame x cenv; theTreesLotGoes x)) (hun : A.under (Code.compLoop e d (.ref I) (.ref D) cenv) = A)
    (he : compTurn e d (.ref I) (.ref D) cenv = (standAt p >>= fun _ => pyNext (.ref I) >>= fun r => match r with | none => pure (.done .next) | some v => assign (.Name x px) cenv v >>= fun _ => rest))
    (hrest : ∀ (Q : Fin → Shared → Prop) (E : Value → Shared → Prop) (s : Shared), W (fun _ s' => wpAny (model prog w) A (again (.compLoop e d (.ref I) (.ref D) cenv)) Q E s') E s → wpAny (model prog w) A rest Q E s)
    (hloc : cenv.locals = C) (hx : cenv.kindOf x = some .local) (hp : (cenv.scope.kind == .class || (cenv.scope.kind == .module && cenv.locals != cenv.globals)) = false)
    (B : IterAt prog w A h₀ L S n P I fp St s.heap) (F : Fr h₀ L s.heap m) (N : News h₀ L s.heap ((C, oC0) :: (D, oD0) :: nw)) (off : ∀ p ∈ (C, oC0) :: (D, oD0) :: nw, @Ne Nat p.1 I) (hS : ∀ oC oD, S ((C, oC) :: (D, oD) :: nw)) (hCD : @Ne Nat C D) (hCn : ∀ p ∈ nw, @Ne Nat p.1 C)
    (hC0 : NsObj oC0 m0) (hD0 : IsD prog w oD0 c0) (hK : K 0 m0 c0)
    (turn : ∀ i v oI oC oD m' m2 c h tk (PE : Unit → Shared → Prop) (E' : Value → Shared → Prop), i < n → P i v → K i m' c → (∀ z, z ≠ x → m2 z = m' z) → m2 x = some v → NsObj oC m2 → IsD prog w oD c → Fr h₀ L h m → News h₀ L h ((I, oI) :: (C, oC) :: (D, oD) :: nw) →
      (∀ h' tk' oC' oD' m' c', Fr h₀ L h' m → News h₀ L h' ((I, oI) :: (C, oC') :: (D, oD') :: nw) → NsObj oC' m' → IsD prog w oD' c' → K (i + 1) m' c' → PE () { s with heap := h', toks := tk' }) →
      W PE E' { s with heap := h, toks := tk })
    (done : ∀ oC oD m' c h tk, K n m' c → NsObj oC m' → IsD prog w oD c → Fr h₀ L h m → News h₀ L h ((C, oC) :: (D, oD) :: nw) → R (.ok .next) { s with heap := h, toks := tk }) :
    codeAny (model prog w) A (.compLoop e d (.ref I) (.ref D) cenv) R s := by
  have hIf : I ∈ fp := B.W.sub I (List.mem_singleton.mpr rfl)
  have hIL : L ≠ I := fun q => B.lf (q ▸ hIf)
  have hCL : C ≠ L := (N _ (.head _)).2.1
  have hC₀ := (N _ (.head _)).2.2
  refine codeAny_loop hq (fun k s' => ∃ h' tk i oC oD m' c, s' = { s with heap := h', toks := tk } ∧ i ≤ n ∧ k = n + 1 - i ∧ St i h' ∧ Fr h₀ L h' m ∧ News h₀ L h' ((C, oC) :: (D, oD) :: nw) ∧ NsObj oC m' ∧ IsD prog w oD c ∧ K i m' c) ?_ (n + 1)
    ⟨s.heap, s.toks, 0, oC0, oD0, m0, c0, rfl, Nat.zero_le _, rfl, B.st0, F, N, hC0, hD0, hK⟩
  rintro k s' ⟨h', tk, i, oC, oD, m', c, rfl, hi, rfl, st, F', N', hC, hD, hK'⟩
  have off' : ∀ p ∈ (C, oC) :: (D, oD) :: nw, @Ne Nat p.1 I := List.forall_mem_cons.mpr ⟨off (C, oC0) (.head _), List.forall_mem_cons.mpr ⟨off (D, oD0) (.tail _ (.head _)), fun p hp => off p (.tail _ (.tail _ hp))⟩⟩
  rw [hden, hun]
  refine wpAny_noted ?_
  rw [he]
  refine wpAny_bind (wpAny_standAt (wpAny_bind ?_))
  by_cases hlt : i < n
  · refine B.W.item i _ _ _ hlt st fun v h1 tk1 hP st1 hk1 => ?_
    obtain ⟨oI, gI⟩ := B.io _ _ st1
    have F1 := fr_but F' hk1 hIL B.nI
    have N1 := news_but N' hk1 off'
    have gC := hC.ns (N1 (C, oC) (.head _)).1
    rw [← hloc] at gC
    refine wpAny_bind (wpAny_assign_Name (wpAny_storeName_local hx gC (fun h2 hn2 hs2 => ?_) hp))
    rw [hloc] at hn2 hs2
    obtain ⟨oC2, gC2, hC2⟩ := ns_obj hn2
    have I2 : h2.get? I = some oI := hs2.extBut _ _ (Ne.symm (off' _ (.head _))) gI
    have N2 : News h₀ L h2 ((I, oI) :: (C, oC2) :: (D, oD) :: nw) := List.forall_mem_cons.mpr ⟨⟨I2, Ne.symm hIL, B.nI⟩, List.forall_mem_cons.mpr ⟨⟨gC2, hCL, hC₀⟩, List.forall_mem_cons.mpr ⟨⟨hs2.extBut _ _ (Ne.symm hCD) (N1 _ (.tail _ (.head _))).1, (N1 _ (.tail _ (.head _))).2⟩, fun p hp => ⟨hs2.extBut _ _ (hCn p hp) (N1 p (.tail _ (.tail _ hp))).1, (N1 p (.tail _ (.tail _ hp))).2⟩⟩⟩⟩
    have F2 := F1.change hs2 hCL hC₀
    have st2 : St (i + 1) h2 := B.st _ _ _ _ _ st1 gI I2 F2.keep (fun p hp => N2 p (.tail _ hp)) (hS _ _)
    refine hrest _ _ _ (turn i v oI oC2 oD m' _ c h2 _ _ _ hlt hP hK' (fun z hz => if_neg hz) (if_pos rfl) hC2 hD F2 N2 ?_)
    intro h3 tk3 oC3 oD3 m3 c3 F3 N3 hC3 hD3 hK3
    exact wpAny_pure ⟨rfl, n + 1 - (i + 1), by omega, h3, tk3, i + 1, oC3, oD3, m3, c3, rfl, hlt, rfl, B.st _ _ _ _ _ st2 I2 (N3 _ (.head _)).1 F3.keep (fun p hp => N3 p (.tail _ hp)) (hS _ _), F3, fun p hp => N3 p (.tail _ hp), hC3, hD3, hK3⟩
  · obtain rfl : i = n := Nat.le_antisymm hi (Nat.not_lt.mp hlt)
    refine B.W.done _ _ _ st fun h1 tk1 hk1 => ?_
    exact wpAny_pure (done oC oD m' c h1 tk1 hK' hC hD (fr_but F' hk1 hIL B.nI) (news_but N' hk1 off'))
theorem postD {D C : Addr} {oD : Obj} {h : Heap} {tk : Nat} {m' : Str → Option Value} {nw : List (Addr × Obj)} {y : Str} {py : Pos} {Q : Flow → Shared → Prop} {s₂ : Shared} (hLe : env.locals = L) (hy : env.kindOf y = some .local) (hp : (env.scope.kind == .class || (env.scope.kind == .module && env.locals != env.globals)) = false)
    (F' : Fr h₀ L h m) (N' : News h₀ L h ((D, oD) :: nw)) (hn : h.Ns C m') (hC₀ : h₀.get? C = none) (hCL : C ≠ L) (hCD : C ≠ D) (offC : ∀ p ∈ nw, p.1 ≠ C)
    (fin : ∀ h tk, Fr h₀ L h (fun z => if z = y then some (.ref D) else m z) → News h₀ L h ((D, oD) :: nw) → Q .next { s₂ with heap := h, toks := tk }) : compPost (model prog w) A E (some (assign (.Name y py) env)) (fun _ s' => Q .next s') (.ref D) C (.ok .next) { s₂ with heap := h, toks := tk } := by
  subst hLe
  show wpAny _ A (assign (.Name y py) env (.ref D)) _ _ _
  refine wpAny_assign_Name (wpAny_storeName_local hy F'.ns (fun h₂ hn₂ hs₂ => ?_) hp)
  have hL₀ : h₀.get? env.locals = none := Heap.get?_none_of_le F'.above
  have F₂ : Fr h₀ env.locals h₂ (fun z => if z = y then some (.ref D) else m z) := ⟨hn₂, fun b o e => hs₂.extBut b o (fun q => by rw [q, hL₀] at e; cases e) (F'.keep b o e), F'.above⟩
  refine ⟨m', hn.sameBut hs₂ hCL, fun h'' hs'' => fin h'' _ (F₂.change hs'' hCL hC₀) (fun p hp => ?_)⟩
  have z : h₂.get? p.1 = some p.2 := hs₂.extBut _ _ (N' p hp).2.1 (N' p hp).1
  refine ⟨hs''.extBut _ _ ?_ z, (N' p hp).2⟩
  rcases List.mem_cons.mp hp with rfl | hp
  · exact Ne.symm hCD
  · exact offC p hp
noncomputable def DictAt (prog : Program) (w : World) (A : Around) (h₀ : Heap) (L : Addr) (m : Str → Option Value) (env : Env) (e : Expr) (scope : Scope) (cl : List (Str × Addr)) (y : Str) (Q : Flow → Shared → Prop) (it : Value) (s₂ : Shared) : Prop :=
  ∃ I fp St n P S nw, ∃ Fin : List (Int × Int) → Prop, it = .ref I ∧ IterAt prog w A h₀ L S n P I fp St s₂.heap ∧ Fr h₀ L s₂.heap m ∧ News h₀ L s₂.heap nw ∧ (∀ p ∈ nw, @Ne Nat p.1 I) ∧
    (∀ C D oC oD h tk R, IterAt prog w A h₀ L S n P I fp St h → (∀ p ∈ (C, oC) :: (D, oD) :: nw, @Ne Nat p.1 I) → @Ne Nat C D → (∀ p ∈ nw, @Ne Nat p.1 C) → (∀ p ∈ nw, @Ne Nat p.1 D) → NsObj oC (fun _ => none) → IsD prog w oD [] → (D == sysModules) = false → Fr h₀ L h m → News h₀ L h ((C, oC) :: (D, oD) :: nw) →
      (∀ oC' oD' m' c h' tk', Fr h₀ L h' m → News h₀ L h' ((C, oC') :: (D, oD') :: nw) → NsObj oC' m' → IsD prog w oD' c → Fin c → R (.ok .next) { s₂ with heap := h', toks := tk' }) →
      codeAny (model prog w) A (.compLoop e 0 (.ref I) (.ref D) (compEnvC scope cl C env)) R { s₂ with heap := h, toks := tk }) ∧
    (∀ D oD c h tk, Fin c → IsD prog w oD c → (D == sysModules) = false → (∀ p ∈ nw, @Ne Nat p.1 D) → Fr h₀ L h (fun z => if z = y then some (.ref D) else m z) → News h₀ L h ((D, oD) :: nw) → Q .next { s₂ with heap := h, toks := tk })
theorem dictCompA {kx vx iter : Expr} {x y : Str} {px py : Pos} {ifs : List Expr} {rest : List Comprehension} {scope : Scope} {cl : List (Str × Addr)} {pos spos : Pos} {Q : Flow → Shared → Prop} (hbig : h₀.NoLimit) (hLe : env.locals = L)
    (hsw : swapsWith (.DictComp kx vx (⟨.Name x px, iter, ifs, 0⟩ :: rest) scope pos) (some (.Name y py)) spos.line env = pure true)
    (hclos : closureFor scope env = pure cl) (hcell : ∀ z ∈ scope.names, z.2 ≠ .cell) (hkind : scope.kind = .function)
    (hnames : ∀ z ∈ scope.names, z.2 = .local → scope.names.lookup z.1 = some .local)
    (hy : env.kindOf y = some .local) (hp : (env.scope.kind == .class || (env.scope.kind == .module && env.locals != env.globals)) = false)
    (h : wpAny (model prog w) A (eval iter env) (fun xv s₁ => wpAny (model prog w) A (pyIter xv) (DictAt prog w A h₀ L m env (.DictComp kx vx (⟨.Name x px, iter, ifs, 0⟩ :: rest) scope pos) scope cl y Q) E s₁) E s)
    (hs : ∀ x, foldedSetIterable iter env x = pure x := by intro _; rfl) :
    wpAny (model prog w) A (exec (.Assign [.Name y py] (.DictComp kx vx (⟨.Name x px, iter, ifs, 0⟩ :: rest) scope pos) spos) env) Q E s := by
  rw [exec_Assign_Name_used _ _ _ _ hsw]
  refine wpAny_bind (wpAny_standAt (wpAny_bind ?_))
  show wpAny _ A (do let _ ← comprehension (.DictComp kx vx (⟨.Name x px, iter, ifs, 0⟩ :: rest) scope pos) scope env _ newDict false (eval iter env) (some (assign (.Name y py) env))) _ _ s
  refine wpAny_bind (wpAny_mono (wpAny_comprehension_free (use := some (assign (.Name y py) env)) (Q := fun _ s' => Q .next s') rfl hs hclos hkind hnames
    (wpAny_mono h (fun xv s₁ h₁ => wpAny_mono h₁ (fun it s₂ h₂ => ?_) fun _ _ e => e) fun _ _ e => e)) (fun _ s' hq => wpAny_pure (wpAny_pure hq)) fun _ _ e => e)
  obtain ⟨I, fp, St, n, P, S, nw, Fin, rfl, B, F, N, off, run, fin⟩ := h₂
  have N1 := News.push F N { cls := .type "dict", dict := none, data := .dict #[] }
  have F1 := F.push { cls := .type "dict", dict := none, data := .dict #[] }
  refine wpAny_newObj_type (wpAny_newFunctionEnv hcell (by intro y hy; simp at hy) (fun h₁ hns₁ hsb₁ => ?_) hkind)
  dsimp only at hns₁ hsb₁ ⊢
  have hnew : (s₂.heap.push { cls := .type "dict", dict := none, data := .dict #[] }).DictOf (intKind prog w) s₂.heap.objs.size [] := Heap.DictOf.new s₂.heap
  have hDlt : ∀ p ∈ nw, @LT.lt Nat _ p.1 s₂.heap.objs.size := fun p hp => Heap.lt_size (N p hp).1
  have hIf : I ∈ fp := B.W.sub I (List.mem_singleton.mpr rfl)
  have hIlt := B.fpl I hIf
  have hCs : (s₂.heap.push { cls := .type "dict", dict := none, data := .dict #[] }).objs.size = s₂.heap.objs.size + 1 := Heap.size_push ..
  have lo : (s₂.heap.objs.size == sysModules) = false := beq_eq_false_iff_ne.mpr (Nat.ne_of_gt (Nat.lt_trans (modules_low hbig) (Nat.lt_of_le_of_lt F.above F.ns.lt)))
  have old1 : ∀ b o, s₂.heap.get? b = some o → (s₂.heap.push { cls := .type "dict", dict := none, data := .dict #[] }).get? b = some o := fun b o e => Heap.get?_push_of_some _ e
  generalize s₂.heap.push { cls := .type "dict", dict := none, data := .dict #[] } = H2 at *
  generalize hCg : H2.objs.size = C at *
  generalize hDg : s₂.heap.objs.size = D at *
  have hDC : @LT.lt Nat _ D C := hCs ▸ Nat.lt_succ_self _
  have old2 : ∀ b o, H2.get? b = some o → h₁.get? b = some o := fun b o e => hsb₁.extBut b o (Nat.ne_of_lt (hCg ▸ Heap.lt_size e)) (Heap.get?_push_of_some _ e)
  obtain ⟨oD, gD, hoD⟩ := isD_of (prog := prog) (w := w) (c := []) hnew .nil
  obtain ⟨oC, gC, hoC⟩ := ns_obj hns₁
  have hLD : @LT.lt Nat _ L D := hDg ▸ F.ns.lt
  have hC₀ : h₀.get? C = none := Heap.get?_none_of_le (Nat.le_trans F.above (Nat.le_of_lt (Nat.lt_trans hLD hDC)))
  have hD₀ : h₀.get? D = none := Heap.get?_none_of_le (Nat.le_trans F.above (Nat.le_of_lt hLD))
  have hCL : C ≠ L := Nat.ne_of_gt (Nat.lt_trans hLD hDC)
  have hDL : D ≠ L := Nat.ne_of_gt hLD
  have F2 : Fr h₀ L h₁ m := F.keeps fun b o e => old2 b o (old1 b o e)
  have N2 : News h₀ L h₁ ((C, oC) :: (D, oD) :: nw) := List.forall_mem_cons.mpr ⟨⟨gC, hCL, hC₀⟩, List.forall_mem_cons.mpr ⟨⟨old2 _ _ gD, hDL, hD₀⟩, fun p hp => ⟨old2 _ _ (old1 _ _ (N p hp).1), (N p hp).2⟩⟩⟩
  have st1 : St 0 h₁ := B.W.frame _ _ _ B.st0 fun b _ o e => old2 b o (old1 b o e)
  have B1 : IterAt prog w A h₀ L S n P I fp St h₁ := { W := B.W, io := B.io, st := B.st, fpk := B.fpk, st0 := st1, fpl := fun b hb => Nat.lt_trans (hDg ▸ B.fpl b hb) (Nat.lt_trans hDC (Heap.lt_size gC)), lf := B.lf, nI := B.nI }
  have loop : ∀ s₃ : Shared, s₃ = { s₂ with heap := h₁, toks := s₂.toks + ([] : List (Str × Value)).length } →
      codeAny (model prog w) A (.compLoop (.DictComp kx vx (⟨.Name x px, iter, ifs, 0⟩ :: rest) scope pos) 0 (.ref I) (.ref D) (compEnvC scope cl C env)) (compPost (model prog w) A E (some (assign (.Name y py) env)) (fun _ s' => Q .next s') (.ref D) C) s₃ := by
    rintro s₃ rfl
    refine run C D oC oD h₁ _ _ B1 (List.forall_mem_cons.mpr ⟨Nat.ne_of_gt (Nat.lt_trans hIlt hDC), List.forall_mem_cons.mpr ⟨Nat.ne_of_gt hIlt, off⟩⟩) (Nat.ne_of_gt hDC) (fun p hp => Nat.ne_of_lt (Nat.lt_trans (hDlt p hp) hDC)) (fun p hp => Nat.ne_of_lt (hDlt p hp)) hoC hoD lo F2 N2 ?_
    intro oC' oD' m' c h' tk' F3 N3 hC3 hD3 hF
    exact postD hLe hy hp F3 (fun p hp => N3 p (.tail _ hp)) (hC3.ns (N3 (C, oC') (.head _)).1) hC₀ hCL (Nat.ne_of_gt hDC) (fun p hp => Nat.ne_of_lt (Nat.lt_trans (hDlt p hp) hDC)) fun h4 tk4 F4 N4 => fin D oD' c h4 tk4 hF hD3 lo (fun p hp => Nat.ne_of_lt (hDlt p hp)) F4 N4
  exact codeAny_compStart_dict (loop _ rfl) (B.W.self 0 _ _ _ st1 (loop _ rfl))
end
end
section
-- CompE
section
variable {prog : Program} {w : World} {A : Around} {E : Value → Shared → Prop} {s : Shared}
noncomputable def bodyI (kx vx : Expr) (D : Addr) (env : Env) : Sem Unit := do
  let kv ← eval kx env
  let vv ← holding [kv] (eval vx env)
  standAt { kx.pos with endLine := vx.pos.endLine, endCol := vx.pos.endCol }
  holding [kv, vv] (dictSet D kv vv)
noncomputable def restO (kx vx : Expr) (g0 g1 : Comprehension) (scope : Scope) (pos : Pos) (I D : Addr) (env : Env) : Sem Fin := do
  let x ← eval g1.iter env
  standAt g1.iter.pos
  let x ← foldedSetIterable g1.iter env x
  let it ← holding [x] (pyIter x)
  let _ ← runOwn (.compStart (.DictComp kx vx [g0, g1] scope pos) 1 it (.ref D) env) env
  again (.compLoop (.DictComp kx vx [g0, g1] scope pos) 0 (.ref I) (.ref D) env)
noncomputable def restT (kx vx iter ct : Expr) (x : Str) (px : Pos) (scope : Scope) (pos : Pos) (I D : Addr) (env : Env) : Sem Fin := do
  let mut ok := true
  for c in [ct] do
    if ok then ok ← isTrue c env (eval c env)
  if ok then bodyI kx vx D env
  again (.compLoop (.DictComp kx vx [⟨.Name x px, iter, [ct], 0⟩] scope pos) 0 (.ref I) (.ref D) env)
theorem turnO (kx vx iter0 iter1 : Expr) (x y : Str) (px py : Pos) (scope : Scope) (pos : Pos) (I D : Addr) (env : Env) :
    compTurn (.DictComp kx vx [⟨.Name x px, iter0, [], 0⟩, ⟨.Name y py, iter1, [], 0⟩] scope pos) 0 (.ref I) (.ref D) env = (standAt iter0.pos >>= fun _ => pyNext (.ref I) >>= fun r => match r with | none => pure (.done .next) | some v => assign (.Name x px) env v >>= fun _ => restO kx vx ⟨.Name x px, iter0, [], 0⟩ ⟨.Name y py, iter1, [], 0⟩ scope pos I D env) := by rfl
theorem turnI (kx vx iter0 iter1 : Expr) (x y : Str) (px py : Pos) (scope : Scope) (pos : Pos) (I D : Addr) (env : Env) :
    compTurn (.DictComp kx vx [⟨.Name x px, iter0, [], 0⟩, ⟨.Name y py, iter1, [], 0⟩] scope pos) 1 (.ref I) (.ref D) env = (standAt iter1.pos >>= fun _ => pyNext (.ref I) >>= fun r => match r with | none => pure (.done .next) | some v => assign (.Name y py) env v >>= fun _ => bodyI kx vx D env >>= fun _ => again (.compLoop (.DictComp kx vx [⟨.Name x px, iter0, [], 0⟩, ⟨.Name y py, iter1, [], 0⟩] scope pos) 1 (.ref I) (.ref D) env)) := by rfl
theorem turnT (kx vx iter ct : Expr) (x : Str) (px : Pos) (scope : Scope) (pos : Pos) (I D : Addr) (env : Env) :
    compTurn (.DictComp kx vx [⟨.Name x px, iter, [ct], 0⟩] scope pos) 0 (.ref I) (.ref D) env = (standAt iter.pos >>= fun _ => pyNext (.ref I) >>= fun r => match r with | none => pure (.done .next) | some v => assign (.Name x px) env v >>= fun _ => restT kx vx iter ct x px scope pos I D env) := by rfl
noncomputable def WI (prog : Program) (w : World) (A : Around) (kx vx : Expr) (D : Addr) (env : Env) (Q : Unit → Shared → Prop) (E : Value → Shared → Prop) (s : Shared) : Prop :=
  wpAny (model prog w) A (eval kx env) (fun kv s₁ => wpAny (model prog w) A (eval vx env) (fun vv s₂ => wpAny (model prog w) A (dictSet D kv vv) Q E s₂) E s₁) E s
noncomputable def WT (prog : Program) (w : World) (A : Around) (kx vx ct : Expr) (D : Addr) (env : Env) (Q : Unit → Shared → Prop) (E : Value → Shared → Prop) (s : Shared) : Prop :=
  wpAny (model prog w) A (isTrue ct env (eval ct env)) (fun b s₁ => if b = true then WI prog w A kx vx D env Q E s₁ else Q () s₁) E s
noncomputable def WO (prog : Program) (w : World) (A : Around) (kx vx : Expr) (g0 g1 : Comprehension) (scope : Scope) (pos : Pos) (D : Addr) (env : Env) (Q : Unit → Shared → Prop) (E : Value → Shared → Prop) (s : Shared) : Prop :=
  wpAny (model prog w) A (eval g1.iter env) (fun x s₁ => wpAny (model prog w) A (pyIter x) (fun it s₂ => codeAny (model prog w) A (.compStart (.DictComp kx vx [g0, g1] scope pos) 1 it (.ref D) env) (fun r s' => match r with | .ok _ => Q () s' | .error e => cameBackBy (model prog w) A env E e s') s₂) E s₁) E s
theorem w_bodyI {kx vx : Expr} {D : Addr} {env : Env} {Q : Unit → Shared → Prop} (h : WI prog w A kx vx D env Q E s) : wpAny (model prog w) A (bodyI kx vx D env) Q E s :=
  wpAny_bind (wpAny_mono h (fun kv s₁ h₁ => wpAny_bind (wpAny_holding (wpAny_mono h₁ (fun vv s₂ h₂ => wpAny_bind (wpAny_standAt (wpAny_holding h₂))) fun _ _ e => e))) fun _ _ e => e)
theorem w_restI {kx vx : Expr} {D : Addr} {env : Env} {ag : Sem Fin} (Q : Fin → Shared → Prop) (E : Value → Shared → Prop) (s : Shared) (h : WI prog w A kx vx D env (fun _ s' => wpAny (model prog w) A ag Q E s') E s) : wpAny (model prog w) A (bodyI kx vx D env >>= fun _ => ag) Q E s := wpAny_bind (w_bodyI h)
theorem w_restT {kx vx iter ct : Expr} {x : Str} {px : Pos} {scope : Scope} {pos : Pos} {I D : Addr} {env : Env} (Q : Fin → Shared → Prop) (E : Value → Shared → Prop) (s : Shared)
    (h : WT prog w A kx vx ct D env (fun _ s' => wpAny (model prog w) A (again (.compLoop (.DictComp kx vx [⟨.Name x px, iter, [ct], 0⟩] scope pos) 0 (.ref I) (.ref D) env)) Q E s') E s) : wpAny (model prog w) A (restT kx vx iter ct x px scope pos I D env) Q E s := by
  refine wpAny_bind (wpAny_tests_one (wpAny_mono h (fun b s₁ h₁ => ?_) fun _ _ e => e))
  cases b with
  | false => exact h₁
  | true => exact wpAny_bind (w_bodyI h₁)
theorem w_restO {kx vx : Expr} {g0 g1 : Comprehension} {scope : Scope} {pos : Pos} {I D : Addr} {env : Env} (hs : ∀ x, foldedSetIterable g1.iter env x = pure x) (Q : Fin → Shared → Prop) (E : Value → Shared → Prop) (s : Shared)
    (h : WO prog w A kx vx g0 g1 scope pos D env (fun _ s' => wpAny (model prog w) A (again (.compLoop (.DictComp kx vx [g0, g1] scope pos) 0 (.ref I) (.ref D) env)) Q E s') E s) : wpAny (model prog w) A (restO kx vx g0 g1 scope pos I D env) Q E s := by
  refine wpAny_bind (wpAny_mono h (fun x s₁ h₁ => wpAny_bind (wpAny_standAt (wpAny_bind (wpAny_of_eq (hs x) (wpAny_bind (wpAny_holding (wpAny_mono h₁ (fun it s₂ h₂ => ?_) fun _ _ e => e))))))) fun _ _ e => e)
  refine wpAny_bind (wpAny_runOwn (codeAny_mono h₂ fun r s' h₃ => ?_))
  cases r with
  | ok f => exact h₃
  | error e => exact h₃
theorem w_start1 {kx vx : Expr} {g0 g1 : Comprehension} {scope : Scope} {pos : Pos} {I D : Addr} {env : Env} {R : Result → Shared → Prop} {s : Shared} (hg : g1.is_async = 0) (h0 : codeAny (model prog w) A (.compLoop (.DictComp kx vx [g0, g1] scope pos) 1 (.ref I) (.ref D) env) R s)
    (h : wpAny (model prog w) A (pyIter (.ref I)) (fun it' s' => codeAny (model prog w) A (.compLoop (.DictComp kx vx [g0, g1] scope pos) 1 it' (.ref D) env) R s') (notedBy (model prog w) A env fun x s' => R (.error x) s') s) :
    codeAny (model prog w) A (.compStart (.DictComp kx vx [g0, g1] scope pos) 1 (.ref I) (.ref D) env) R s := by
  refine codeAny_of_tree ?_
  show wpAny _ A ((compStart (.DictComp kx vx [g0, g1] scope pos) 1 (.ref I) (.ref D) env).onRaise (fun x => do noteFrame x env; standAt theWindowsPlace)) _ _ s
  refine wpAny_notedAt ?_
  obtain ⟨tg, it, ifs, ia⟩ := g1
  cases hg
  unfold compStart
  show wpAny _ A (ask >>= _) _ _ s
  refine wpAny_bind (wpAny_askSetting (wpAny_ite ?_))
  split
  · first
      | exact wpAny_bind (wpAny_pure (wpAny_pure (And.intro rfl h0)))
      | exact wpAny_pure (And.intro rfl h0)
  · refine wpAny_bind (wpAny_rule ?_)
    show wpAny _ _ (standAt it.pos >>= _) _ _ s
    exact wpAny_bind (wpAny_standAt (wpAny_bind (wpAny_mono h (fun it' s' h' => wpAny_pure (And.intro rfl h')) fun _ _ x => x)))
end
end
section
-- LawA
noncomputable def LawC (w : World) (x : List Stmt × Scope) : Prop := ∃ (oc : Value) (od : Option Addr) (name : Str) (params : Arguments) (pm cd doc : Value) (osl : Array (Option Value)), (KF w.params).lookup 158 = some ⟨oc, od, .func (Calls.docDef name params x.1 x.2 pm cd doc), osl⟩
noncomputable def LawC.mk {w : World} {b : List Stmt} {sc : Scope} {oc : Value} {od : Option Addr} {name : Str} {params : Arguments} {pm cd doc : Value} {osl : Array (Option Value)} (h : (KF w.params).lookup 158 = some ⟨oc, od, .func (Calls.docDef name params b sc pm cd doc), osl⟩) : { x : List Stmt × Scope // LawC w x } := ⟨(b, sc), _, _, _, _, _, _, _, _, h⟩
set_option maxRecDepth 100000 in
noncomputable def lawX (w : World) : { x : List Stmt × Scope // LawC w x } := by
  refine' LawC.mk ?h
  case h => k_is
noncomputable def lawS (w : World) : Scope := (lawX w).1.2
noncomputable def st (w : World) (n : Nat) : Stmt := (lawX w).1.1.getD n (.Pass default)
noncomputable def lawEnv (w : World) (L : Addr) : Env := envOfC (Str.ofString "law") (lawS w) L 158 (.ref 157)
noncomputable def lawA (w : World) (L : Addr) : Around := callerA.deeper (lawEnv w L)
theorem len (w : World) : (lawX w).1.1.length = 27 := by with_unfolding_all rfl
theorem vars1 {m : Str → Option Value} {x : Str} {v : Value} (h : m x = some v) : m = seen [(x, v)] m := map_seen _ (List.forall_mem_cons.mpr ⟨h, fun _ h => nomatch h⟩)
end
section
-- S0
noncomputable def pickZ (ns : List Int) (lo hi st : Option Int) : List Int := (sliceRange (sliceBounds lo hi st ns.length).1 (sliceBounds lo hi st ns.length).2.1 (sliceBounds lo hi st ns.length).2.2).filterMap (ns[·]?)
theorem ints_get {vs : List Value} {ns : List Int} (h : IntsAre vs ns) : ∀ i : Nat, (vs[i]? = none ∧ ns[i]? = none) ∨ ∃ n t, vs[i]? = some (.int n t) ∧ ns[i]? = some n := by
  induction h with
  | nil => exact fun i => .inl ⟨by simp, by simp⟩
  | cons n t _ ih =>
    intro i
    cases i with
    | zero => exact .inr ⟨n, t, rfl, rfl⟩
    | succ i => simpa using ih i
theorem ints_length {vs : List Value} {ns : List Int} (h : IntsAre vs ns) : vs.length = ns.length := by
  induction h with
  | nil => rfl
  | cons _ _ _ ih => simp [ih]
theorem ints_pick {vs : List Value} {ns : List Int} (h : IntsAre vs ns) (lo hi st : Option Int) : IntsAre (slicePick vs.toArray lo hi st).toList (pickZ ns lo hi st) := by
  unfold slicePick pickZ
  rw [List.size_toArray, ints_length h]
  generalize sliceRange _ _ _ = is
  induction is with
  | nil => exact .nil
  | cons i r ih =>
    simp only [List.filterMap_cons, List.getElem?_toArray]
    rcases ints_get h i with ⟨e1, e2⟩ | ⟨n, t, e1, e2⟩
    · rw [e1, e2]; simpa using ih
    · rw [e1, e2]
      simp only [List.getElem?_toArray] at ih
      exact .cons n t ih
/-- xs[i] of a list of ints -/
theorem r_itemI {prog : Program} {w : World} {A : Around} {E : Value → Shared → Prop} {s : Shared} {h₀ : Heap} {L d : Addr} {news : List (Addr × Obj)} {value slice : Expr} {vs : List Value} {ns : List Int} {k : Nat} {i : Int} {u : Tok} {Q : Value → Shared → Prop} (N : News h₀ L s.heap news) (hm : (d, W.listOf vs.toArray k) ∈ news) (hvs : Are IsInt vs ns) (h0 : 0 ≤ i) (hi : i < ns.length) (hl : ns.length ≤ 1000000) (q : ∀ t, Q (.int (ns.getD i.toNat 0) t) s)
    (hs : subscripted slice false (.ref d) (.int i u) = operate [.ref d, .int i u] (getItem (.ref d) (.int i u)) := by with_unfolding_all rfl) (hg : ∀ r, letTemporaryGo value (.ref d) r = pure () := by intro _; with_unfolding_all rfl) :
    wpAny (model prog w) A (subscriptTail value slice (.ref d) (.int i u)) Q E s := by
  have hlt : i.toNat < ns.length := by lia
  obtain ⟨v, hv, t, rfl⟩ := hvs.get i.toNat ns[i.toNat] (List.getElem?_eq_getElem hlt)
  have e : ns.getD i.toNat 0 = ns[i.toNat] := by rw [List.getD_eq_getElem?_getD, List.getElem?_eq_getElem hlt]; rfl
  exact r_item N hm h0 (by lia) hv (e ▸ q t) hs hg
theorem are_ints3 {ys : List Value} {f : Int → Int} (h : Are IsInt ys ((rangeKs 0 3).map f)) : ∃ t0 t1 t2, ys = [.int (f 0) t0, .int (f 1) t1, .int (f 2) t2] := by
  have e : (rangeKs 0 3).map f = [f 0, f 1, f 2] := rfl
  rw [e] at h
  cases h with
  | cons h0 h =>
    cases h with
    | cons h1 h =>
      cases h with
      | cons h2 h =>
        cases h
        obtain ⟨t0, rfl⟩ := h0
        obtain ⟨t1, rfl⟩ := h1
        obtain ⟨t2, rfl⟩ := h2
        exact ⟨t0, t1, t2, rfl⟩
theorem rangeKs_mem {a c : Int} {k : Nat} (h : c ∈ rangeKs a k) : a ≤ c ∧ c < a + k := by
  simp only [rangeKs, List.mem_map, List.mem_range] at h
  obtain ⟨i, hi, rfl⟩ := h
  lia
noncomputable def drawZ (ns : List Int) (c : Int) : Int := ((pickZ ns (some c) (some 24) (some 3)).sum + [41, 4, 21].getD c.toNat 0).fmod 1000000
section
variable {prog : Program} {w : World} {h₀ : Heap} {L : Addr} {m : Str → Option Value} {nw : List (Addr × Obj)} {s : Shared} {Q : Flow → Shared → Prop} {E : Value → Shared → Prop} {p : Program} {loose : List Str} {mean : ExcName → Option Value} {mg mb : Str → Option Value}
set_option maxRecDepth 100000 in
theorem s_shape (B' : Below callerA h₀ [] h₀) (X : (KF w.params).In h₀) (T : Top p loose mean mg mb h₀) (F : Fr h₀ L s.heap m) {o1 o3 : Obj} {S : Addr} {vs : List Value} {ns : List Int} (N : News h₀ L s.heap ((L + 3, o3) :: nw)) (d3 : o3.data = .cell none) (hne : ∀ p ∈ nw, p.1 ≠ L + 3) (e1 : (L + 1, o1) ∈ nw) (d1 : o1.data = .cell (some (.ref S)))
  (hl : h₀.IsList S vs.toArray) (hi : IntsAre vs ns) (hlen : ns.length ≤ 63)
  (q : ∀ h' tk' o3' t0 t1 t2, o3'.data = .cell (some (.int (drawZ ns 1) t1)) → Fr h₀ L h' (fun y => if y = Str.ofString "choice" then some (.int (drawZ ns 2) t2) else if y = Str.ofString "shape" then some (.int (drawZ ns 0) t0) else m y) → News h₀ L h' ((L + 3, o3') :: nw) → Q .next { s with heap := h', toks := tk' }) :
  wpAny (model prog w) (lawA w L) (exec (st w 0) (lawEnv w L)) Q E s := by
  (with_unfolding_all change wpAny (model _ _) (callerA.deeper (envOfC (Str.ofString "law") (Scope.mk _ _ _ _ _) _ 158 (.ref 157))) (exec (.Assign _ _ _) (envOfC (Str.ofString "law") (Scope.mk _ _ _ _ _) _ 158 (.ref 157))) _ _ _)
  have e3 := List.Mem.head (a := (L + 3, o3)) nw
  (repeat' first | with_reducible ((with_reducible show wpAny _ _ (eval (Expr.ListComp _ [⟨_, _, [], _⟩] _ _) _) _ _ _); k_dflt (refine listComp (by k_asm) (by rfl) (by decide) (by rfl) (by decide) (by rfl) ?_)) | walk_at "STEP")
  rename_i NN hh2 tk2 r1 r2 r3 hr FF NN2 _
  refine compRange (k := 3) (drawZ ns) (Out := IsInt) rfl FF NN2 hr (by decide) (by decide) (by decide) ?_ ?_
  · intro c tc I oI C oC D m₂ h tk E' ys hmem hC hx F4 N4
    have hpk := ints_pick hi (some c) (some 24) (some 3)
    have hc := rangeKs_mem hmem
    (repeat' first | with_reducible ((with_reducible show wpAny _ _ (eval (Expr.ListComp _ [⟨_, _, [], _⟩] _ _) _) _ _ _); k_dflt (refine listComp (by k_asm) (by rfl) (by decide) (by rfl) (by decide) (by rfl) ?_)) | walk_at "STEP")
    dsimp only
    exact eltEnd (by k_asm) (by k_asm) (by lcg_sub) (isI rfl)
  · intro hp ys hy
    obtain ⟨t0, t1, t2, rfl⟩ := are_ints3 hy
    (repeat' first | with_reducible ((with_reducible show wpAny _ _ (eval (Expr.ListComp _ [⟨_, _, [], _⟩] _ _) _) _ _ _); k_dflt (refine listComp (by k_asm) (by rfl) (by decide) (by rfl) (by decide) (by rfl) ?_)) | walk_at "STEP")
    dsimp only
    rename News _ _ _ _ => N'
    exact q _ _ _ t0 t1 t2 (by assumption) (by k_asm) (cb_drop N' (by lcg_sub))
end
end
section
local macro_rules | `(tactic| walk_at "none of these") => `(tactic| fail)
-- S1
inductive LitIs : List Expr → List Int → Prop
  | nil : LitIs [] []
  | cons {i k p r zs} : LitIs r zs → LitIs (.Constant (.int i) k p :: r) (i :: zs)
inductive LitLL : List Expr → List (List Int) → Prop
  | nil : LitLL [] []
  | cons {es p r z zs} : LitIs es z → LitLL r zs → LitLL (.List es p :: r) (z :: zs)
section
variable {M : Model} {A : Around} {E : Value → Shared → Prop} {env : Env}
theorem spliced_ints {pos : Pos} {es : List Expr} {zs : List Int} (hl : LitIs es zs) : ∀ (s : Shared) (Q : List Value → Shared → Prop),
    (∀ vs tk, Are IsInt vs zs → Q vs { s with toks := tk }) → wpAny M A (spliced (backTo pos (starEach es env))) Q E s := by
  induction hl with
  | nil => exact fun s Q h => args_nil (h [] s.toks .nil)
  | cons _ ih => exact fun s Q h => spliced_more (wpAny_Constant_int (ih _ _ fun vs tk' hvs => h (_ :: vs) tk' (.cons ⟨_, rfl⟩ hvs)))
noncomputable def LLt (news ex : List (Addr × Obj)) (zs : List Int) (v : Value) : Prop := ∃ D us, v = .ref D ∧ (D, W.listOf us.toArray 0) ∈ ex ∧ Are IsInt us zs ∧ ∀ p ∈ news, @LT.lt Nat _ p.1 D
theorem spliced_lists {h₀ : Heap} {L : Addr} {m : Str → Option Value} {news : List (Addr × Obj)} {pos : Pos} {es : List Expr} {zss : List (List Int)} (hl : LitLL es zss) : ∀ (s : Shared) (ex : List (Addr × Obj)) (Q : List Value → Shared → Prop), (∀ z ∈ zss, z.length ≤ sizeLine) → Fr h₀ L s.heap m → News h₀ L s.heap (ex ++ news) →
    (∀ vs h' tk ex', Fr h₀ L h' m → News h₀ L h' (ex' ++ news) → (∀ p ∈ ex, p ∈ ex') → Are (LLt news ex') vs zss → Q vs { s with heap := h', toks := tk }) → wpAny M A (spliced (backTo pos (starEach es env))) Q E s := by
  induction hl with
  | nil => exact fun s ex Q _ F N h => args_nil (h [] s.heap s.toks ex F N (fun _ h => h) .nil)
  | cons h1 _ ih =>
    intro s ex Q hz F N h
    refine spliced_more (List_ (spliced_ints h1 _ _ fun us tk hu => ?_))
    refine newList_K F N (fun D h1 F1 N1 hlt => ?_) (hu.length ▸ hz _ (.head _))
    refine ih _ ((D, W.listOf us.toArray 0) :: ex) _ (fun z hz' => hz z (.tail _ hz')) F1 N1 fun vs h' tk' ex' F' N' hs hA => ?_
    exact h (_ :: vs) h' tk' ex' F' N' (fun p hp => hs p (.tail _ hp)) (.cons ⟨D, us, rfl, hs _ (.head _), hu, fun p hp => hlt p (List.mem_append_right _ hp)⟩ hA)
/-- a list of lists of ints, written out -/
theorem evalLL {h₀ : Heap} {L : Addr} {m : Str → Option Value} {news : List (Addr × Obj)} {pos : Pos} {es : List Expr} {zss : List (List Int)} {s : Shared} {Q : Value → Shared → Prop} (F : Fr h₀ L s.heap m) (N : News h₀ L s.heap news) (hl : LitLL es zss) (hz : ∀ z ∈ zss, z.length ≤ sizeLine) (hn : zss.length ≤ sizeLine)
    (q : ∀ D vs h' tk ex, Fr h₀ L h' m → News h₀ L h' ((D, W.listOf vs.toArray 0) :: (ex ++ news)) → Are (LLt news ex) vs zss → Q (.ref D) { s with heap := h', toks := tk }) : wpAny M A (eval (.List es pos) env) Q E s :=
  List_ (spliced_lists hl s [] _ hz F N fun vs h' tk ex F' N' _ hA => newList_K F' N' (fun D h1 F1 N1 _ => q D vs h1 tk ex F1 N1 hA) (hA.length ▸ hn))
end
noncomputable def sizesT : List (List Int) := [[], [1], [2], [3], [1, 1], [1, 2], [2, 1], [2, 2], [1, 1, 1], [1, 2, 1], [3, 1], [1, 1, 2]]
noncomputable def sizesZ (z : Int) : List Int := sizesT.getD (z.fmod 12).toNat []
/-- xs[i] of a list of lists -/
theorem r_itemLL {prog : Program} {w : World} {A : Around} {E : Value → Shared → Prop} {s : Shared} {h₀ : Heap} {L d : Addr} {news nw ex : List (Addr × Obj)} {value slice : Expr} {vs : List Value} {zss : List (List Int)} {k : Nat} {i : Int} {u : Tok} {Q : Value → Shared → Prop} (N : News h₀ L s.heap news) (hm : (d, W.listOf vs.toArray k) ∈ news) (hvs : Are (LLt nw ex) vs zss) (h0 : 0 ≤ i) (hi : i < zss.length) (hl : zss.length ≤ 1000000)
    (q : ∀ D us, (D, W.listOf us.toArray 0) ∈ ex → Are IsInt us (zss.getD i.toNat []) → (∀ p ∈ nw, @LT.lt Nat _ p.1 D) → Q (.ref D) s)
    (hs : subscripted slice false (.ref d) (.int i u) = operate [.ref d, .int i u] (getItem (.ref d) (.int i u)) := by with_unfolding_all rfl) (hg : ∀ r, letTemporaryGo value (.ref d) r = pure () := by intro _; with_unfolding_all rfl) :
    wpAny (model prog w) A (subscriptTail value slice (.ref d) (.int i u)) Q E s := by
  have hlt : i.toNat < zss.length := by lia
  obtain ⟨v, hv, D, us, rfl, hD, hu, hlt'⟩ := hvs.get i.toNat zss[i.toNat] (List.getElem?_eq_getElem hlt)
  have e : zss.getD i.toNat [] = zss[i.toNat] := by rw [List.getD_eq_getElem?_getD, List.getElem?_eq_getElem hlt]; rfl
  exact r_item N hm h0 (by lia) hv (q D us hD (e ▸ hu) hlt') hs hg
theorem fmod12 (z : Int) : 0 ≤ z.fmod 12 ∧ z.fmod 12 < 12 := ⟨Int.fmod_nonneg_of_pos z (by decide), Int.fmod_lt_of_pos z (by decide)⟩
section
variable {prog : Program} {w : World} {h₀ : Heap} {L : Addr} {m : Str → Option Value} {nw : List (Addr × Obj)} {s : Shared} {Q : Flow → Shared → Prop} {E : Value → Shared → Prop} {p : Program} {loose : List Str} {mean : ExcName → Option Value} {mg mb : Str → Option Value}
set_option maxRecDepth 100000 in
set_option maxHeartbeats 400000 in
theorem s_sizes (B' : Below callerA h₀ [] h₀) (X : (KF w.params).In h₀) (T : Top p loose mean mg mb h₀) (F : Fr h₀ L s.heap m) {o4 : Obj} (N : News h₀ L s.heap ((L + 4, o4) :: nw)) (d4 : o4.data = .cell none) (hne : ∀ p ∈ nw, p.1 ≠ L + 4) {z : Int} {t : Tok}
  (hm : m (Str.ofString "shape") = some (.int z t))
  (q : ∀ h' tk' o4' (D : Addr) us, o4'.data = .cell (some (.ref D)) → Are IsInt us (sizesZ z) → (∀ p ∈ nw, @LT.lt Nat _ p.1 D) → Fr h₀ L h' m → News h₀ L h' ((L + 4, o4') :: (D, W.listOf us.toArray 0) :: nw) → Q .next { s with heap := h', toks := tk' }) :
  wpAny (model prog w) (lawA w L) (exec (st w 1) (lawEnv w L)) Q E s := by
  (with_unfolding_all change wpAny (model _ _) (callerA.deeper (envOfC (Str.ofString "law") (Scope.mk _ _ _ _ _) _ 158 (.ref 157))) (exec (.Assign _ _ _) (envOfC (Str.ofString "law") (Scope.mk _ _ _ _ _) _ 158 (.ref 157))) _ _ _)
  have e := vars1 hm
  rw [e] at F
  walk1
  walk1
  k_dflt (refine' evalLL (zss := sizesT) ?F ?N ?a ?b ?c ?_; (case F => k_asm); (case N => k_asm); (case a => repeat' constructor); (case b => (rw [sizeLine_eq]; decide)); (case c => (rw [sizeLine_eq]; decide)))
  intro D vs h1 tk1 ex F1 N1 hA
  k_steps
  k_dflt (refine' r_itemLL N1 (.head _) hA (fmod12 z).1 (fmod12 z).2 (by decide) ?_)
  intro DD us hD hu hlt
  have N2 : News h₀ L h1 ((L + 4, o4) :: (DD, W.listOf us.toArray 0) :: nw) := cb_drop N1 (subs_cons (.tail _ (List.mem_append_right _ (.head _))) (subs_cons (.tail _ (List.mem_append_left _ hD)) (fun p hp => .tail _ (List.mem_append_right _ (.tail _ hp)))))
  clear N1
  have hne2 : ∀ p ∈ (DD, W.listOf us.toArray 0) :: nw, p.1 ≠ L + 4 := List.forall_mem_cons.mpr ⟨Nat.ne_of_gt (hlt _ (.head _)), hne⟩
  k_steps
  rename Fr h₀ L _ _ => F'
  rw [← e] at F'
  exact q _ _ _ DD us (by assumption) hu (fun p hp => hlt p (.tail _ hp)) F' (by k_asm)
end
end
section
-- S2
section
variable {prog : Program} {w : World} {h₀ : Heap} {L : Addr} {m : Str → Option Value} {nw : List (Addr × Obj)} {s : Shared} {Q : Flow → Shared → Prop} {E : Value → Shared → Prop} {p : Program} {loose : List Str} {mean : ExcName → Option Value} {mg mb : Str → Option Value}
set_option maxRecDepth 100000 in
theorem s_ahead (B' : Below callerA h₀ [] h₀) (X : (KF w.params).In h₀) (T : Top p loose mean mg mb h₀) (F : Fr h₀ L s.heap m) (N : News h₀ L s.heap nw) {z : Int} {t : Tok} (hz : 0 ≤ z) (hb : z < 1000000)
  (hm : m (Str.ofString "shape") = some (.int z t))
  (q : ∀ h' tk' t', Fr h₀ L h' (fun y => if y = Str.ofString "ahead" then some (.int ((z.fdiv 12).fmod 2) t') else m y) → News h₀ L h' nw → Q .next { s with heap := h', toks := tk' }) :
  wpAny (model prog w) (lawA w L) (exec (st w 2) (lawEnv w L)) Q E s := by
  (with_unfolding_all change wpAny (model _ _) (callerA.deeper (envOfC (Str.ofString "law") (Scope.mk _ _ _ _ _) _ 158 (.ref 157))) (exec (.Assign _ _ _) (envOfC (Str.ofString "law") (Scope.mk _ _ _ _ _) _ 158 (.ref 157))) _ _ _)
  have e := vars1 hm
  rw [e] at F
  k_steps
  dsimp only
  rename Fr h₀ L _ _ => F'
  rw [← e] at F'
  exact q _ _ _ F' (by k_asm)
end
end
section
local macro_rules | `(tactic| walk_at "none of these") => `(tactic| fail)
-- S3
section
variable {prog : Program} {w : World} {h₀ : Heap} {L : Addr} {m : Str → Option Value} {nw : List (Addr × Obj)} {s : Shared} {Q : Flow → Shared → Prop} {E : Value → Shared → Prop} {p : Program} {loose : List Str} {mean : ExcName → Option Value} {mg mb : Str → Option Value}
set_option maxRecDepth 100000 in
theorem s_behind (B' : Below callerA h₀ [] h₀) (X : (KF w.params).In h₀) (T : Top p loose mean mg mb h₀) (F : Fr h₀ L s.heap m) (N : News h₀ L s.heap nw) {z : Int} {t : Tok} 
  (hm : m (Str.ofString "shape") = some (.int z t))
  (q : ∀ h' tk' t', Fr h₀ L h' (fun y => if y = Str.ofString "behind" then some (.int ((z.fdiv 24).fmod 2) t') else m y) → News h₀ L h' nw → Q .next { s with heap := h', toks := tk' }) :
  wpAny (model prog w) (lawA w L) (exec (st w 3) (lawEnv w L)) Q E s := by
  (with_unfolding_all change wpAny (model _ _) (callerA.deeper (envOfC (Str.ofString "law") (Scope.mk _ _ _ _ _) _ 158 (.ref 157))) (exec (.Assign _ _ _) (envOfC (Str.ofString "law") (Scope.mk _ _ _ _ _) _ 158 (.ref 157))) _ _ _)
  have e := vars1 hm
  rw [e] at F
  k_steps
  dsimp only
  rename Fr h₀ L _ _ => F'
  rw [← e] at F'
  exact q _ _ _ F' (by k_asm)
set_option maxRecDepth 100000 in
theorem s_six (B' : Below callerA h₀ [] h₀) (X : (KF w.params).In h₀) (T : Top p loose mean mg mb h₀) (F : Fr h₀ L s.heap m) (N : News h₀ L s.heap nw)
  (q : ∀ h' tk' t', Fr h₀ L h' (fun y => if y = Str.ofString "six" then some (.str (Str.ofString "a \n\"\\#") t') else m y) → News h₀ L h' nw → Q .next { s with heap := h', toks := tk' }) :
  wpAny (model prog w) (lawA w L) (exec (st w 4) (lawEnv w L)) Q E s := by
  (with_unfolding_all change wpAny (model _ _) (callerA.deeper (envOfC (Str.ofString "law") (Scope.mk _ _ _ _ _) _ 158 (.ref 157))) (exec (.Assign _ _ _) (envOfC (Str.ofString "law") (Scope.mk _ _ _ _ _) _ 158 (.ref 157))) _ _ _)
  k_steps
  dsimp only
  exact q _ _ _ (by k_asm) (by k_asm)
end
end
section
-- S5
noncomputable def two (a b : Str) : Str × Str := if b.cps.toList < a.cps.toList then (b, a) else (a, b)
noncomputable def sixS : Str := Str.ofString "a \n\"\\#"
noncomputable def signA (z : Int) : Str := Txt.item sixS (z.fmod 6)
noncomputable def signB (z : Int) : Str := Txt.item sixS ((z + 1 + (z.fdiv 6).fmod 5).fmod 6)
noncomputable def signsZ (z : Int) : Str × Str := two (signA z) (signB z)
section
variable {prog : Program} {w : World} {h₀ : Heap} {L : Addr} {m : Str → Option Value} {nw : List (Addr × Obj)} {s : Shared} {Q : Flow → Shared → Prop} {E : Value → Shared → Prop} {p : Program} {loose : List Str} {mean : ExcName → Option Value} {mg mb : Str → Option Value}
set_option maxRecDepth 100000 in
theorem s_signs (B' : Below callerA h₀ [] h₀) (X : (KF w.params).In h₀) (T : Top p loose mean mg mb h₀) (F : Fr h₀ L s.heap m) {o5 : Obj} (N : News h₀ L s.heap ((L + 5, o5) :: nw)) (d5 : o5.data = .cell none) (hne : ∀ p ∈ nw, p.1 ≠ L + 5) {z : Int} {t t6 : Tok}
  (hm : m (Str.ofString "choice") = some (.int z t)) (hm6 : m (Str.ofString "six") = some (.str (Str.ofString "a \n\"\\#") t6))
  (q : ∀ h' tk' o5' (D : Addr) t0 t1 k, o5'.data = .cell (some (.ref D)) → (∀ p ∈ nw, @LT.lt Nat _ p.1 D) → Fr h₀ L h' m → News h₀ L h' ((L + 5, o5') :: (D, W.listOf #[.str (signsZ z).1 t0, .str (signsZ z).2 t1] k) :: nw) → Q .next { s with heap := h', toks := tk' }) :
  wpAny (model prog w) (lawA w L) (exec (st w 5) (lawEnv w L)) Q E s := by
  (with_unfolding_all change wpAny (model _ _) (callerA.deeper (envOfC (Str.ofString "law") (Scope.mk _ _ _ _ _) _ 158 (.ref 157))) (exec (.Assign _ _ _) (envOfC (Str.ofString "law") (Scope.mk _ _ _ _ _) _ 158 (.ref 157))) _ _ _)
  have e := map_seen [(Str.ofString "choice", .int z t), (Str.ofString "six", .str (Str.ofString "a \n\"\\#") t6)] (List.forall_mem_cons.mpr ⟨hm, List.forall_mem_cons.mpr ⟨hm6, fun _ h => nomatch h⟩⟩)
  rw [e] at F
  (repeat' first | with_reducible (kas_known) | with_reducible (refine kas_split (fun hk' => ?_) (fun hk' => ?_) <;> ((try simp only [decide_eq_true_eq, decide_eq_false_iff_not, Int.not_lt] at hk'); (try (revert hk'; intro _)))) | with_reducible (k_here; (with_reducible show wpAny _ _ (call (Value.builtin _) [Value.ref _]) _ _ _); (with_unfolding_all refine' kas_sorted ?k1 ?k2 ?k3 ?k4 ?k5 ?k6 ?k7 ?_; (case k1 => k_asm); (case k2 => k_asm); (case k3 => kso_list); (case k4 => exact Nat.le_of_ble_eq_true rfl); (case k5 => exact Nat.le_of_ble_eq_true rfl); (case k6 => (intro h' F' N'; kas_types)); (case k7 => exact rfl); k_whole); intro D' e' h' F' N' l1; (try k_lt l1); (try k_sweep); revert D' e' h' F' N' l1; intros) | walk_at "STEP")
  · rename Fr h₀ L _ _ => F'
    rename News _ _ _ _ => N'
    rename And _ (And _ (AllLt _ nw)) => hA
    rw [← e] at F'
    (try dsimp only)
    have e2 : signsZ z = (signB z, signA z) := if_pos (by assumption)
    rw [e2] at q
    exact q _ _ _ _ _ _ _ (by assumption) (allLt_mem hA.2.2) F' (cb_drop N' (by lcg_sub))
  · rename Fr h₀ L _ _ => F'
    rename News _ _ _ _ => N'
    rename And _ (And _ (AllLt _ nw)) => hA
    rw [← e] at F'
    (try dsimp only)
    have e2 : signsZ z = (signA z, signB z) := if_neg (by assumption)
    rw [e2] at q
    exact q _ _ _ _ _ _ _ (by assumption) (allLt_mem hA.2.2) F' (cb_drop N' (by lcg_sub))
end
end
section
-- CompC
section
open LCg LCt PyProof.V
variable {prog : Program} {w : World} {A : Around} {E : Value → Shared → Prop} {s : Shared} {h₀ : Heap} {L : Addr} {m : Str → Option Value} {env : Env}
noncomputable def cellO : Obj := { cls := .type "cell", data := .cell none }
theorem newEnv_one {scope : Scope} {globals : Addr} {cl : List (Str × Addr)} {x qual : Str} {Q : Env → Shared → Prop} (hc : ∀ a, cellsFrom a scope.names cl = (x, a) :: cl) (hp : ∀ h, pushCells h scope.names = h.push cellO)
    (h : ∀ cenv : Env, cenv.locals = s.heap.objs.size → { cenv with scope := relabel scope env } = ({ scope := relabel scope env, locals := s.heap.objs.size, globals := globals, cells := (x, s.heap.objs.size + 1) :: cl, qual := qual, func := none, code := env.code, frame := env.frame, builtins := env.builtins } : Env) → Q cenv { s with heap := (s.heap.push { cls := .type "dict", data := .dict #[] }).push cellO }) :
    wpAny (model prog w) A (newFunctionEnv scope globals cl [] qual none .none (some env)) Q E s := by
  simp only [newFunctionEnv, Option.isSome_some, if_true]
  refine wpAny_bind (wpAny_alloc ?_)
  refine wpAny_bind (wpAny_layCells _ (fun name kind cells => by cases kind == NameKind.cell <;> simp) _ _ _ _ ?_)
  rw [hp, show ({ s with heap := s.heap.push { cls := .type "dict", data := .dict #[] } } : Shared).heap.objs.size = s.heap.objs.size + 1 from Heap.size_push .., hc]
  refine wpAny_bind ?_
  rw [List.forIn_nil]
  exact wpAny_pure (wpAny_pure (h _ rfl rfl))
theorem same_but {h h' : Heap} {a : Addr} (hs : Heap.SameBut a h h') : ∀ b o, b ∉ [a] → h.get? b = some o → h'.get? b = some o := fun b o hb e => hs.extBut b o (fun q => hb (List.mem_singleton.mpr q)) e
/-- a list comprehension over an iterator I, its one variable a cell, told by J -/
theorem block_C {elt iter : Expr} {x : Str} {px : Pos} {scope : Scope} {cl : List (Str × Addr)} {pos : Pos} {s₂ : Shared} {I : Addr} {n : Nat} {P : Nat → Value → Prop} {St : Nat → Heap → Prop} {news : List (Addr × Obj)} {RR : Value → Addr → Result → Shared → Prop}
    (J : Nat → List Value → List (Addr × Obj) → Prop)
    (W : Walks prog w A I [I] [I] n P St) (hsz : n ≤ sizeLine) (hc : ∀ a, cellsFrom a scope.names cl = (x, a) :: cl) (hp : ∀ h, pushCells h scope.names = h.push cellO) (hkind : scope.kind = .function)
    (hx : ∀ C K, (compEnvC scope ((x, K) :: cl) C env).kindOf x = some .cell) (hst : St 0 s₂.heap) (hIo : ∀ i h, St i h → ∃ o, h.get? I = some o)
    (F : Fr h₀ L s₂.heap m) (N : News h₀ L s₂.heap news) (hIL : L ≠ I) (hI₀ : h₀.get? I = none) (off : ∀ p ∈ news, p.1 ≠ I) (hJ : J 0 [] news)
    (turn : ∀ i v oI C oC D K oK ys nw h tk (E' PE : Value → Shared → Prop), i < n → P i v → J i ys nw → oK.data = .cell (some v) → Fr h₀ L h m → News h₀ L h ((I, oI) :: (C, oC) :: (D, lst ys) :: (K, oK) :: nw) → Off3 I C D ((K, oK) :: nw) → (∀ p ∈ nw, p.1 ≠ K) → ((@Ne Nat I C) ∧ (@Ne Nat I D) ∧ (@Ne Nat C D)) →
      (∀ y h' tk' nw', Fr h₀ L h' m → News h₀ L h' ((I, oI) :: (C, oC) :: (D, lst ys) :: (K, oK) :: nw') → Off3 I C D nw' → (∀ p ∈ nw', p.1 ≠ K) → J (i + 1) (ys ++ [y]) nw' → PE y { s₂ with heap := h', toks := tk' }) →
      wpAny (model prog w) A (eval elt (compEnvC scope ((x, K) :: cl) C env)) PE E' { s₂ with heap := h, toks := tk })
    (hRR : ∀ D C h tk m' ys nw, Fr h₀ L h m → News h₀ L h ((D, lst ys) :: nw) → Off1 D nw → h.Ns C m' → h₀.get? C = none → C ≠ L → C ≠ D → (∀ p ∈ nw, p.1 ≠ C) → J n ys nw → RR (.ref D) C (.ok .next) { s₂ with heap := h, toks := tk }) :
    wpAny (model prog w) A (newList []) (fun acc s₃ => wpAny (model prog w) A (newFunctionEnv scope env.globals cl [] env.qual none .none (some env)) (fun cenv s₄ =>
      codeAny (model prog w) A (.compStart (.ListComp elt [⟨.Name x px, iter, [], 0⟩] scope pos) 0 (.ref I) acc { cenv with scope := relabel scope env }) (RR acc cenv.locals) s₄) E s₃) E s₂ := by
  have sto : ∀ {i h h' o}, St i h → h.get? I = some o → h'.get? I = some o → St i h' := fun st e e' => W.frame _ _ _ st fun b hb o q => by
    rw [List.mem_singleton.mp hb] at q ⊢; rw [e] at q; rw [e', q]
  obtain ⟨oI0, hI0⟩ := hIo _ _ hst
  have N0 : News h₀ L s₂.heap ((I, oI0) :: news) := List.forall_mem_cons.mpr ⟨⟨hI0, Ne.symm hIL, hI₀⟩, N⟩
  refine newList_K F N0 (fun D h1 F1 N1 hDlt => newEnv_one hc hp fun cenv hloc henv => ?_) (Nat.zero_le _)
  rw [henv, hloc]
  have F2 := F1.push { cls := .type "dict", data := .dict #[] }
  have N2 := N1.push F1 { cls := .type "dict", data := .dict #[] }
  have lC : ∀ p ∈ (D, PySem.W.listOf [].toArray 0) :: (I, oI0) :: news, @LT.lt Nat _ p.1 h1.objs.size := fun p hp => Heap.lt_size (N1 p hp).1
  have F3 := F2.push cellO
  have N3 := N2.push F2 cellO
  have hK : (h1.push { cls := .type "dict", data := .dict #[] }).objs.size = h1.objs.size + 1 := Heap.size_push ..
  rw [hK] at N3
  generalize hC : h1.objs.size = C at *
  have hLC : @LT.lt Nat _ L C := hC ▸ F1.ns.lt
  dsimp only at *
  have hDC : @LT.lt Nat _ D C := lC _ (.head _)
  have hIC : @LT.lt Nat _ I C := lC _ (.tail _ (.head _))
  have hID : @LT.lt Nat _ I D := hDlt _ (.head _)
  have st3 : St 0 ((h1.push { cls := .type "dict", data := .dict #[] }).push cellO) := sto hst hI0 (N3 _ (.tail _ (.tail _ (.tail _ (.head _))))).1
  have hC₀ : h₀.get? C = none := (N2 _ (.head _)).2.2
  have hD₀ : h₀.get? D = none := (N1 _ (.head _)).2.2
  have hK₀ := (N3 _ (.head _)).2.2
  have hDL : D ≠ L := (N1 _ (.head _)).2.1
  have hCL : C ≠ L := Nat.ne_of_gt hLC
  have hKL : C + 1 ≠ L := Nat.ne_of_gt (Nat.lt_succ_of_lt hLC)
  generalize (h1.push { cls := .type "dict", data := .dict #[] }).push cellO = h3 at *
  have loop : ∀ s₃ : Shared, s₃ = { s₂ with heap := h3 } →
      codeAny (model prog w) A (.compLoop (.ListComp elt [⟨.Name x px, iter, [], 0⟩] scope pos) 0 (.ref I) (.ref D) (compEnvC scope ((x, C + 1) :: cl) C env)) (RR (.ref D) C) s₃ := by
    rintro s₃ rfl
    refine codeAny_compLoop_tests
      (fun k s' => ∃ h' tk i ys oI oC oK m' v nw, s' = { s₂ with heap := h', toks := tk } ∧ i ≤ n ∧ k = n + 1 - i ∧ ys.length = i ∧ St i h' ∧ Fr h₀ L h' m ∧ News h₀ L h' ((I, oI) :: (C, oC) :: (D, lst ys) :: (C + 1, oK) :: nw) ∧ NsObj oC m' ∧ oK.data = .cell v ∧
        Off3 I C D nw ∧ (∀ p ∈ nw, p.1 ≠ C + 1) ∧ J i ys nw) ?_ (n + 1)
      ⟨h3, _, 0, [], oI0, { cls := .type "dict", data := .dict #[] }, cellO, fun _ => none, none, news, rfl, Nat.zero_le _, rfl, rfl, st3, F3, cb_drop N3 (subs_cons (.tail _ (.tail _ (.tail _ (.head _)))) (subs_cons (.tail _ (.head _)) (subs_cons (.tail _ (.tail _ (.head _))) (subs_cons (.head _) fun p hp => .tail _ (.tail _ (.tail _ (.tail _ hp))))))), ⟨_, _, rfl, (by intro e he; simp at he), fun _ => rfl⟩, rfl, Off3.of fun p hp => ⟨off p hp, Nat.ne_of_lt (lC p (.tail _ (.tail _ hp))), Nat.ne_of_lt (hDlt p (.tail _ hp))⟩, fun p hp => Nat.ne_of_lt (Nat.lt_succ_of_lt (lC p (.tail _ (.tail _ hp)))), hJ⟩
    rintro k s' ⟨h', tk, i, ys, oI, oC, oK, m', v, nw, rfl, hi, rfl, hyl, hst', F', N', hC', hK', off', offK, hJ'⟩
    by_cases hlt : i < n
    · refine W.item i _ _ _ hlt hst' fun v h4 tk4 hPv st4 hk4 => ?_
      obtain ⟨oI4, hI4⟩ := hIo _ _ st4
      have o3 := off'.mem
      have F4 := fr_but F' hk4 hIL hI₀
      have N4 : News h₀ L h4 ((C, oC) :: (D, lst ys) :: (C + 1, oK) :: nw) := news_but (fun p hp => N' p (.tail _ hp)) hk4 (List.forall_mem_cons.mpr ⟨Nat.ne_of_gt hIC, List.forall_mem_cons.mpr ⟨Nat.ne_of_gt hID, List.forall_mem_cons.mpr ⟨Nat.ne_of_gt (Nat.lt_succ_of_lt hIC), fun p hp => (o3 p hp).1⟩⟩⟩)
      refine wpAny_assign_Name (wpAny_storeName_cell (by simp [compEnvC, relabel, hkind]) (hx C (C + 1)) (by simp [compEnvC]) ⟨oK, (N4 _ (.tail _ (.tail _ (.head _)))).1, hK'⟩ fun h5 ⟨oK5, gK5, dK5⟩ hs5 => ?_)
      refine wpAny_tests_nil ?_
      simp only [if_true]
      have I5 : h5.get? I = some oI4 := hs5.extBut _ _ (Nat.ne_of_lt (Nat.lt_succ_of_lt hIC)) hI4
      have F5 := F4.change hs5 hKL hK₀
      have N5 : News h₀ L h5 ((C, oC) :: (D, lst ys) :: nw) := news_but (fun p hp => N4 p (by rcases List.mem_cons.mp hp with rfl | hp; exact .head _; rcases List.mem_cons.mp hp with rfl | hp; exact .tail _ (.head _); exact .tail _ (.tail _ (.tail _ hp)))) (same_but hs5) (List.forall_mem_cons.mpr ⟨Nat.ne_of_lt (Nat.lt_succ_self _), List.forall_mem_cons.mpr ⟨Nat.ne_of_lt (Nat.lt_succ_of_lt hDC), offK⟩⟩)
      have N6 : News h₀ L h5 ((I, oI4) :: (C, oC) :: (D, lst ys) :: (C + 1, oK5) :: nw) := List.forall_mem_cons.mpr ⟨⟨I5, Ne.symm hIL, hI₀⟩, List.forall_mem_cons.mpr ⟨N5 _ (.head _), List.forall_mem_cons.mpr ⟨N5 _ (.tail _ (.head _)), List.forall_mem_cons.mpr ⟨⟨gK5, hKL, hK₀⟩, fun p hp => N5 p (.tail _ (.tail _ hp))⟩⟩⟩⟩
      have st5 : St (i + 1) h5 := sto st4 hI4 I5
      refine turn i v oI4 C oC D (C + 1) oK5 ys nw h5 _ _ _ hlt hPv hJ' dK5 F5 N6 (Off3.of (List.forall_mem_cons.mpr ⟨⟨Nat.ne_of_gt (Nat.lt_succ_of_lt hIC), Nat.ne_of_gt (Nat.lt_succ_self _), Nat.ne_of_gt (Nat.lt_succ_of_lt hDC)⟩, o3⟩)) offK ⟨Nat.ne_of_lt hIC, Nat.ne_of_lt hID, Nat.ne_of_gt hDC⟩ ?_
      intro y h6 tk6 nw' F6 N6 off6 offK6 hJ6
      have o6 := off6.mem
      refine append_at (hsz := by show ys.toArray.size ≤ sizeLine; rw [List.size_toArray, hyl]; exact Nat.le_trans hi hsz) (N6 _ (.tail _ (.tail _ (.head _)))).1 fun h7 hs7 hD7 => ?_
      have N7 : News h₀ L h7 ((I, oI4) :: (C, oC) :: (C + 1, oK5) :: nw') := news_but (fun p hp => N6 p (by rcases List.mem_cons.mp hp with rfl | hp; exact .head _; rcases List.mem_cons.mp hp with rfl | hp; exact .tail _ (.head _); exact .tail _ (.tail _ (.tail _ hp)))) (same_but hs7) (List.forall_mem_cons.mpr ⟨Nat.ne_of_lt hID, List.forall_mem_cons.mpr ⟨Nat.ne_of_gt hDC, List.forall_mem_cons.mpr ⟨Nat.ne_of_gt (Nat.lt_succ_of_lt hDC), fun p hp => (o6 p hp).2.2⟩⟩⟩)
      refine ⟨n + 1 - (i + 1), by lia, h7, tk6, i + 1, ys ++ [y], oI4, oC, oK5, m', _, nw', rfl, hlt, rfl, by rw [List.length_append, List.length_singleton, hyl], sto st5 I5 (N7 _ (.head _)).1, F6.change hs7 hDL hD₀, ?_, hC', dK5, off6, offK6, hJ6⟩
      exact List.forall_mem_cons.mpr ⟨N7 _ (.head _), List.forall_mem_cons.mpr ⟨N7 _ (.tail _ (.head _)), List.forall_mem_cons.mpr ⟨⟨hD7.trans (congrArg some (lst_snoc ys y)), hDL, hD₀⟩, fun p hp => N7 p (.tail _ (.tail _ hp))⟩⟩⟩
    · obtain rfl : i = n := Nat.le_antisymm hi (Nat.not_lt.mp hlt)
      refine W.done _ _ _ hst' fun h4 tk4 hk4 => ?_
      have o3 := off'.mem
      have N4 : News h₀ L h4 ((C, oC) :: (D, lst ys) :: nw) := news_but (fun p hp => N' p (by rcases List.mem_cons.mp hp with rfl | hp; exact .tail _ (.head _); rcases List.mem_cons.mp hp with rfl | hp; exact .tail _ (.tail _ (.head _)); exact .tail _ (.tail _ (.tail _ (.tail _ hp))))) hk4 (List.forall_mem_cons.mpr ⟨Nat.ne_of_gt hIC, List.forall_mem_cons.mpr ⟨Nat.ne_of_gt hID, fun p hp => (o3 p hp).1⟩⟩)
      exact hRR D C h4 tk4 m' ys nw (fr_but F' hk4 hIL hI₀) (fun p hp => N4 p (.tail _ hp)) off'.one (hC'.ns (N4 _ (.head _)).1) hC₀ hCL (Nat.ne_of_gt hDC) (fun p hp => (o3 p hp).2.1) hJ'
  exact codeAny_compStart_list (loop _ rfl) (W.self 0 _ _ _ st3 (loop _ rfl))
noncomputable def CompCAt (prog : Program) (w : World) (A : Around) (h₀ : Heap) (L : Addr) (m : Str → Option Value) (env : Env) (elt : Expr) (x : Str) (scope : Scope) (cl : List (Str × Addr)) (Fin : Shared → List Value → List (Addr × Obj) → Prop) (xv : Value) (s₁ : Shared) : Prop :=
  ∃ r n t u v news, xv = .ref r ∧ A.handled = none ∧ Fr h₀ L s₁.heap m ∧ News h₀ L s₁.heap news ∧ IsRange s₁.heap r 0 ((n : Nat) : Int) 1 t u v ∧ n ≤ 10000 ∧ ∃ J : Nat → List Value → List (Addr × Obj) → Prop, J 0 [] news ∧
      (∀ I i t oI C oC D K oK ys nw h tk (E' PE : Value → Shared → Prop), i < n → J i ys nw → oK.data = .cell (some (.int (i : Nat) t)) → Fr h₀ L h m → News h₀ L h ((I, oI) :: (C, oC) :: (D, lst ys) :: (K, oK) :: nw) → Off3 I C D ((K, oK) :: nw) → (∀ p ∈ nw, p.1 ≠ K) → ((@Ne Nat I C) ∧ (@Ne Nat I D) ∧ (@Ne Nat C D)) →
        (∀ y h' tk' nw', Fr h₀ L h' m → News h₀ L h' ((I, oI) :: (C, oC) :: (D, lst ys) :: (K, oK) :: nw') → Off3 I C D nw' → (∀ p ∈ nw', p.1 ≠ K) → J (i + 1) (ys ++ [y]) nw' → PE y { s₁ with heap := h', toks := tk' }) →
        wpAny (model prog w) A (eval elt (compEnvC scope ((x, K) :: cl) C env)) PE E' { s₁ with heap := h, toks := tk }) ∧
      (∀ hp ys nw, J n ys nw → Fin { s₁ with heap := hp } ys nw)
theorem CompCAt.mk {elt : Expr} {x : Str} {scope : Scope} {cl : List (Str × Addr)} {Fin : Shared → List Value → List (Addr × Obj) → Prop} {r n t u v news} (J : Nat → List Value → List (Addr × Obj) → Prop) (hh : A.handled = none) (F : Fr h₀ L s.heap m) (N : News h₀ L s.heap news) (hr : IsRange s.heap r 0 ((n : Nat) : Int) 1 t u v) (hn : n ≤ 10000) (hJ : J 0 [] news)
    (turn : ∀ I i t oI C oC D K oK ys nw h tk (E' PE : Value → Shared → Prop), i < n → J i ys nw → oK.data = .cell (some (.int (i : Nat) t)) → Fr h₀ L h m → News h₀ L h ((I, oI) :: (C, oC) :: (D, lst ys) :: (K, oK) :: nw) → Off3 I C D ((K, oK) :: nw) → (∀ p ∈ nw, p.1 ≠ K) → ((@Ne Nat I C) ∧ (@Ne Nat I D) ∧ (@Ne Nat C D)) →
        (∀ y h' tk' nw', Fr h₀ L h' m → News h₀ L h' ((I, oI) :: (C, oC) :: (D, lst ys) :: (K, oK) :: nw') → Off3 I C D nw' → (∀ p ∈ nw', p.1 ≠ K) → J (i + 1) (ys ++ [y]) nw' → PE y { s with heap := h', toks := tk' }) →
        wpAny (model prog w) A (eval elt (compEnvC scope ((x, K) :: cl) C env)) PE E' { s with heap := h, toks := tk })
    (fin : ∀ hp ys nw, J n ys nw → Fin { s with heap := hp } ys nw) : CompCAt prog w A h₀ L m env elt x scope cl Fin (.ref r) s := ⟨r, n, t, u, v, news, rfl, hh, F, N, hr, hn, J, hJ, turn, fin⟩
/-- an assigned list comprehension over range(0, n), its one variable a cell -/
theorem listCompC {elt iter : Expr} {x y : Str} {px py : Pos} {scope : Scope} {cl : List (Str × Addr)} {pos spos : Pos} {Q : Flow → Shared → Prop} (hLe : env.locals = L)
    (hsw : swapsWith (.ListComp elt [⟨.Name x px, iter, [], 0⟩] scope pos) (some (.Name y py)) spos.line env = pure true)
    (hclos : closureFor scope env = pure cl) (hc : ∀ a, cellsFrom a scope.names cl = (x, a) :: cl) (hp : ∀ h, pushCells h scope.names = h.push cellO) (hkind : scope.kind = .function)
    (hx : ∀ C K, (compEnvC scope ((x, K) :: cl) C env).kindOf x = some .cell)
    (hnames : ∀ z ∈ scope.names, z.2 = .local → scope.names.lookup z.1 = some .local)
    (hy : env.kindOf y = some .local) (hpl : (env.scope.kind == .class || (env.scope.kind == .module && env.locals != env.globals)) = false)
    (h : wpAny (model prog w) A (eval iter env) (fun xv s₁ => CompCAt prog w A h₀ L m env elt x scope cl (fun s₂ => FinA h₀ L m s₂ y Q) xv s₁) E s)
    (hs : ∀ x, foldedSetIterable iter env x = pure x := by intro _; rfl) :
    wpAny (model prog w) A (exec (.Assign [.Name y py] (.ListComp elt [⟨.Name x px, iter, [], 0⟩] scope pos) spos) env) Q E s := by
  rw [exec_Assign_Name_used _ _ _ _ hsw]
  refine wpAny_bind (wpAny_standAt (wpAny_bind ?_))
  show wpAny _ A (do let _ ← comprehension (.ListComp elt [⟨.Name x px, iter, [], 0⟩] scope pos) scope env _ (newList []) false (eval iter env) (some (assign (.Name y py) env))) _ _ s
  refine wpAny_bind (wpAny_mono (wpAny_comprehension_free (use := some (assign (.Name y py) env)) (Q := fun _ s' => Q .next s') rfl hs hclos hkind hnames
    (wpAny_mono h (fun xv s₁ h₁ => ?_) fun _ _ e => e)) (fun _ s' hq => wpAny_pure (wpAny_pure hq)) fun _ _ e => e)
  obtain ⟨r, n, t, u, v, news, rfl, hh, F, N, hr, hn, J, hJ, turn, fin⟩ := h₁
  refine wpAny_pyIter_range hr (rsmall (by lia) (by lia) (by lia) (by lia)) ?_
  rw [rsize n (by lia)]
  have h0 : IsRangeIter (s₁.heap.push { cls := .type "range_iterator", data := .fields #[rawInt 0, rawInt ((n : Nat) : Int), rawInt 1] }) s₁.heap.objs.size (0 + ((0 : Nat) : Int) * 1) (((n : Nat) : Int) - ((0 : Nat) : Int)) 1 := by
    show IsRangeIter _ _ _ _ _
    simpa using Heap.get?_push_size _ rfl
  have F1 := F.push { cls := .type "range_iterator", data := .fields #[rawInt 0, rawInt ((n : Nat) : Int), rawInt 1] }
  refine block_C J (range_walks hh 0 n) (by rw [sizeLine_eq]; lia) hc hp hkind hx h0 (fun i h st => ⟨_, st⟩) F1 (fun p hp => ⟨Heap.get?_push_of_some _ (N p hp).1, (N p hp).2⟩) (Nat.ne_of_lt F.ns.lt) (Heap.get?_none_of_le (Nat.le_trans F.above (Nat.le_of_lt F.ns.lt))) (fun p hp => Nat.ne_of_lt (Heap.lt_size (N p hp).1)) hJ ?_ ?_
  · rintro i v oI C oC D K oK ys nw h tk E' PE hi ⟨t, rfl⟩ hJ' hK F2 N2 off offK ne q
    rw [Int.zero_add] at hK
    exact turn _ i t oI C oC D K oK ys nw h tk E' PE hi hJ' hK F2 N2 off offK ne q
  · intro D C h tk m' ys nw F2 N2 o1 hC hC₀ hCL hCD offC hJ'
    exact postA (s₂ := { s₁ with heap := s₁.heap }) hLe hy hpl F2 N2 o1 hC hC₀ hCL hCD offC (fin s₁.heap ys nw hJ')
end
end
section
-- S6
noncomputable def powZ (z : Int) (zs : List Int) (i : Nat) (j : Int) : Int := (z.fdiv ((2 : Int) ^ ((zs.take ((i : Nat) : Int).toNat).sum + j).toNat)).fmod 2
noncomputable def pieceZ (z : Int) (zs : List Int) (s0 s1 : Str) (i : Nat) : Str := Txt.join "" ((rangeKs 0 (zs.getD i 0).toNat).map fun j => nth [s0, s1] (powZ z zs i j))
noncomputable def piecesZ (z : Int) (zs : List Int) (s0 s1 : Str) : List Str := (List.range zs.length).map (pieceZ z zs s0 s1)
theorem sum_take3 : ∀ (zs : List Int) (k : Nat), (∀ y ∈ zs, 0 ≤ y ∧ y ≤ 3) → 0 ≤ (zs.take k).sum ∧ (zs.take k).sum ≤ 3 * (zs.length : Int)
  | [], k, _ => by simp
  | a :: r, 0, _ => by simp; lia
  | a :: r, k + 1, h => by
    have := sum_take3 r k fun y hy => h y (.tail _ hy)
    have h1 := h a (.head _)
    simp only [List.take_succ_cons, List.sum_cons, List.length_cons]
    lia
theorem pow_small {e : Int} (h : e ≤ 12) : ((2 : Int) ^ e.toNat).natAbs < 1073741824 := by
  rw [Int.natAbs_pow]
  exact Nat.lt_of_le_of_lt (Nat.pow_le_pow_right (by decide) (show e.toNat ≤ 12 by lia)) (by decide)
section
variable {prog : Program} {w : World} {h₀ : Heap} {L : Addr} {m : Str → Option Value} {nw : List (Addr × Obj)} {s : Shared} {Q : Flow → Shared → Prop} {E : Value → Shared → Prop} {p : Program} {loose : List Str} {mean : ExcName → Option Value} {mg mb : Str → Option Value}
set_option maxRecDepth 100000 in
set_option maxHeartbeats 4000000 in
theorem s_pieces (B' : Below callerA h₀ [] h₀) (X : (KF w.params).In h₀) (T : Top p loose mean mg mb h₀) (F : Fr h₀ L s.heap m) {o3 o4 o5 : Obj} (N : News h₀ L s.heap nw) {z : Int} {tz : Tok} (hz0 : 0 ≤ z) (hz1 : z < 1000000) {SG DS : Addr} {us : List Value} {zs : List Int} {s0 s1 : Str} {t0 t1 : Tok} {kg : Nat}
  (e3 : (L + 3, o3) ∈ nw) (d3 : o3.data = .cell (some (.int z tz))) (e4 : (L + 4, o4) ∈ nw) (d4 : o4.data = .cell (some (.ref DS))) (e5 : (L + 5, o5) ∈ nw) (d5 : o5.data = .cell (some (.ref SG)))
  (hS : (DS, W.listOf us.toArray 0) ∈ nw) (hu : Are IsInt us zs) (hz : zs.length ≤ 3) (hz3 : ∀ y ∈ zs, 0 ≤ y ∧ y ≤ 3) (h0 : s0.length ≤ 1) (h1 : s1.length ≤ 1) (hG : (SG, W.listOf #[.str s0 t0, .str s1 t1] kg) ∈ nw)
  (q : ∀ h' tk' (D : Addr) ys, Are IsStr ys (piecesZ z zs s0 s1) → (∀ p ∈ nw, p.1 ≠ D) → Fr h₀ L h' (fun y => if y = Str.ofString "pieces" then some (.ref D) else m y) → News h₀ L h' ((D, LCg.lst ys) :: nw) → Q .next { s with heap := h', toks := tk' }) :
  wpAny (model prog w) (lawA w L) (exec (st w 6) (lawEnv w L)) Q E s := by
  (with_unfolding_all change wpAny (model _ _) (callerA.deeper (envOfC (Str.ofString "law") (Scope.mk _ _ _ _ _) _ 158 (.ref 157))) (exec (.Assign _ _ _) (envOfC (Str.ofString "law") (Scope.mk _ _ _ _ _) _ 158 (.ref 157))) _ _ _)
  have hlu : us.length ≤ 3 := hu.length ▸ hz
  k_dflt (refine' listCompC (h₀ := h₀) (L := L) (m := m) ?a1 ?a2 ?a3 ?a4 ?a5 ?a6 ?a7 ?a8 ?a9 ?aa ?ab; (case a1 => exact rfl); (case a2 => rfl); (case a3 => rfl); (case a4 => exact fun _ => rfl); (case a5 => exact fun _ => rfl); (case a6 => rfl); (case a7 => exact fun _ _ => rfl); (case a8 => decide); (case a9 => rfl); (case aa => rfl))
  (repeat' first | with_reducible ((with_reducible show wpAny _ _ (eval (Expr.ListComp _ [⟨_, _, [], _⟩] _ _) _) _ _ _); k_dflt (refine listComp (by k_asm) (by rfl) (by decide) (by rfl) (by decide) (by rfl) ?_)) | with_reducible ((with_reducible show wpAny _ _ (call (Value.builtin "len") [Value.ref _]) _ _ _); k_dflt (refine' r_len ?N ?m ?z ?_; (case N => k_asm); (case m => k_mem); (case z => first | assumption | omega))) | walk_at "STEP")
  rename_i h2 tk2 r1 r2 r3 hr F2 N2 _
  rw [hu.length] at hr
  dsimp only
  rename News h₀ L s.heap nw => N0
  rename Fr h₀ L s.heap m => F0
  clear N0 F0
  refine CompCAt.mk (fun i ys nw' => nw' = nw ∧ Are IsStr ys ((List.range i).map (pieceZ z zs s0 s1))) rfl F2 N2 hr (Nat.le_trans hz (by decide)) ⟨rfl, .nil⟩ ?_ ?_
  · intro I i t oI C oC D K oK ys nw' h tk E' PE hi hJ hK F3 N3 off offK ne q
    clear N2 F2 hr
    have hnw := hJ.1
    subst hnw
    have hlz : us.length ≤ 3 := hlu
    have hi' : i < zs.length := hi
    have hzi := hz3 _ (List.getElem_mem hi')
    have hgd : zs.getD i 0 = zs[i] := by rw [List.getD_eq_getElem?_getD, List.getElem?_eq_getElem hi']; rfl
    (repeat' first | with_reducible ((with_reducible show wpAny _ _ (eval (Expr.ListComp _ [⟨_, _, [], _⟩] _ _) _) _ _ _); k_dflt (refine listComp (by k_asm) (by rfl) (by decide) (by rfl) (by decide) (by rfl) ?_)) | with_reducible ((with_reducible show wpAny _ _ (call (Value.builtin "len") [Value.ref _]) _ _ _); k_dflt (refine' r_len ?N ?m ?z ?_; (case N => k_asm); (case m => k_mem); (case z => first | assumption | omega))) | walk_at "STEP")
    dsimp only
    k_dflt (refine' r_itemI (ns := zs) ?N ?m ?v ?a ?b ?c ?_; (case N => k_asm); (case m => k_mem); (case v => exact hu); (case a => exact Int.natCast_nonneg i); (case b => exact Int.ofNat_lt.mpr hi'); (case c => lia))
    intro ti
    rw [show zs.getD ((i : Nat) : Int).toNat 0 = (((zs.getD i 0).toNat : Nat) : Int) by rw [Int.toNat_natCast, hgd]; lia]
    have hnn : (zs.getD i 0).toNat ≤ 3 := by rw [hgd]; lia
    have hpz : pieceZ z zs s0 s1 i = Txt.join "" ((rangeKs 0 (zs.getD i 0).toNat).map fun j => nth [s0, s1] (powZ z zs i j)) := rfl
    generalize (zs.getD i 0).toNat = n at hnn hpz
    (repeat' first | with_reducible ((with_reducible show wpAny _ _ (eval (Expr.ListComp _ [⟨_, _, [], _⟩] _ _) _) _ _ _); k_dflt (refine listComp (by k_asm) (by rfl) (by decide) (by rfl) (by decide) (by rfl) ?_)) | with_reducible ((with_reducible show wpAny _ _ (call (Value.builtin "len") [Value.ref _]) _ _ _); k_dflt (refine' r_len ?N ?m ?z ?_; (case N => k_asm); (case m => k_mem); (case z => first | assumption | omega))) | walk_at "STEP")
    rename_i h5 tk5 r1 r2 r3 hr F5 N5 _
    refine compRange (k := n) (fun j => nth [s0, s1] (powZ z zs i j)) (Out := IsStr) rfl F5 N5 hr (a := 0) (b := ((n : Nat) : Int)) (rsmall (by decide) (Int.natCast_nonneg n) (by decide) (by lia)) (rsize n (Int.zero_add _).symm) (Nat.le_trans hnn (by decide)) ?_ ?_
    · intro j tj I2 oI2 C2 oC2 D2 m2 h6 tk6 E6 ys6 hmem hC hx F6 N6
      clear F5 N5 hr
      have hui := intsOf hu
      have hpn : (2 : Int) ^ ((zs.take ((i : Nat) : Int).toNat).sum + j).toNat ≠ 0 := Int.ne_of_gt (Int.pow_pos (by decide))
      have hj := rangeKs_mem hmem
      have hs3 := sum_take3 zs ((i : Nat) : Int).toNat hz3
      have he0 : 0 ≤ (zs.take ((i : Nat) : Int).toNat).sum + j := Int.add_nonneg hs3.1 hj.1
      have he1 : (zs.take ((i : Nat) : Int).toNat).sum + j ≤ 12 := by lia
      have hsm := pow_small he1
      have hm2 : 0 ≤ powZ z zs i j ∧ powZ z zs i j < 2 := ⟨Int.fmod_nonneg_of_pos _ (by decide), Int.fmod_lt_of_pos _ (by decide)⟩
      (repeat' first | with_reducible ((with_reducible show wpAny _ _ (eval (Expr.ListComp _ [⟨_, _, [], _⟩] _ _) _) _ _ _); k_dflt (refine listComp (by k_asm) (by rfl) (by decide) (by rfl) (by decide) (by rfl) ?_)) | with_reducible ((with_reducible show wpAny _ _ (call (Value.builtin "len") [Value.ref _]) _ _ _); k_dflt (refine' r_len ?N ?m ?z ?_; (case N => k_asm); (case m => k_mem); (case z => first | assumption | omega))) | walk_at "STEP")
      dsimp only
      rename Fr h₀ L _ _ => F7
      rename News h₀ L _ _ => N7
      k_dflt (refine' r_itemS (i := powZ z zs i j) (ss := [s0, s1]) N7 ?m ?v ?a ?b ?c ?_; (case m => k_mem); (case v => exact .cons ⟨_, rfl⟩ (.cons ⟨_, rfl⟩ .nil)); (case a => exact hm2.1); (case b => exact hm2.2); (case c => exact Nat.le_of_ble_eq_true rfl))
      intro t9
      exact eltEnd F7 N7 (by lcg_sub) ⟨_, rfl⟩
    · intro hp ys6 hys6
      have hy' := strsOf hys6
      have hwt := weight_le (ss := (rangeKs 0 n).map fun j => nth [s0, s1] (powZ z zs i j)) (n := 1) (fun y hy => by obtain ⟨c, _, rfl⟩ := List.mem_map.mp hy; exact nth_len (by intro y hy; rcases List.mem_cons.mp hy with rfl | hy; exact h0; rw [List.mem_singleton.mp hy]; exact h1) _)
      rw [List.length_map, rangeKs_length] at hwt
      (repeat' first | with_reducible ((with_reducible show wpAny _ _ (eval (Expr.ListComp _ [⟨_, _, [], _⟩] _ _) _) _ _ _); k_dflt (refine listComp (by k_asm) (by rfl) (by decide) (by rfl) (by decide) (by rfl) ?_)) | with_reducible ((with_reducible show wpAny _ _ (call (Value.builtin "len") [Value.ref _]) _ _ _); k_dflt (refine' r_len ?N ?m ?z ?_; (case N => k_asm); (case m => k_mem); (case z => first | assumption | omega))) | walk_at "STEP")
      rename Fr h₀ L _ _ => F7
      rename News h₀ L _ _ => N7
      k_dflt (refine' r_join N7 ?m hy' ?a ?b ?_; (case m => exact .head _); (case a => exact Nat.zero_le _); (case b => (rw [List.length_map, rangeKs_length]; lia)))
      intro t9 k9
      rw [← hpz]
      refine q _ _ _ nw' F7 (cb_drop N7 (by lcg_sub)) off.2 offK ⟨rfl, ?_⟩
      rw [List.range_succ, List.map_append]
      exact hJ.2.append (.cons ⟨t9, rfl⟩ .nil)
  · intro hp ys nw' hJ D h tk F3 N3 o1
    have hnw := hJ.1
    subst hnw
    exact q _ _ D ys hJ.2 (Off1.all o1) F3 N3
end
end
section
-- S7
theorem vars2 {m : Str → Option Value} {x y : Str} {v u : Value} (h : m x = some v) (h2 : m y = some u) : m = seen [(x, v), (y, u)] m := map_seen _ (List.forall_mem_cons.mpr ⟨h, List.forall_mem_cons.mpr ⟨h2, fun _ h => nomatch h⟩⟩)
theorem vars3 {m : Str → Option Value} {x y z : Str} {v u w : Value} (h : m x = some v) (h2 : m y = some u) (h3 : m z = some w) : m = seen [(x, v), (y, u), (z, w)] m := map_seen _ (List.forall_mem_cons.mpr ⟨h, List.forall_mem_cons.mpr ⟨h2, List.forall_mem_cons.mpr ⟨h3, fun _ h => nomatch h⟩⟩⟩)
theorem join_le {x : Str} {ss : List Str} {n : Nat} (h : ∀ y ∈ ss, y.length ≤ n) : (Txt.join x ss).length ≤ ss.length * (n + 1 + x.length) := by
  have h1 := size_glued x ss
  have h2 := weight_le (ss := ss) (n := n) h
  show (Builtin.Str.glued _ _).length ≤ _
  rw [h1]
  have : (ss.length - 1) * x.length ≤ ss.length * x.length := Nat.mul_le_mul_right _ (Nat.sub_le _ _)
  rw [Nat.mul_add]
  omega
noncomputable def patternZ (a b : Int) (ps : List Str) : Str := Txt.mul (Str.ofString "...") a ++ Txt.join (Str.ofString "...") ps ++ Txt.mul (Str.ofString "...") b
section
variable {prog : Program} {w : World} {h₀ : Heap} {L : Addr} {m : Str → Option Value} {nw : List (Addr × Obj)} {s : Shared} {Q : Flow → Shared → Prop} {E : Value → Shared → Prop} {p : Program} {loose : List Str} {mean : ExcName → Option Value} {mg mb : Str → Option Value}
set_option maxRecDepth 100000 in
set_option maxHeartbeats 4000000 in
theorem s_pattern (B' : Below callerA h₀ [] h₀) (X : (KF w.params).In h₀) (T : Top p loose mean mg mb h₀) (F : Fr h₀ L s.heap m) {o6 : Obj} (N : News h₀ L s.heap ((L + 6, o6) :: nw)) (d6 : o6.data = .cell none) (hne : ∀ p ∈ nw, p.1 ≠ L + 6) {a b : Int} {ta tb : Tok} {PD : Addr} {vs : List Value} {ps : List Str} {k : Nat}
  (ha : 0 ≤ a ∧ a < 2) (hb : 0 ≤ b ∧ b < 2)
  (hm : m (Str.ofString "ahead") = some (.int a ta)) (hm2 : m (Str.ofString "behind") = some (.int b tb)) (hm3 : m (Str.ofString "pieces") = some (.ref PD))
  (hP : (PD, W.listOf vs.toArray k) ∈ nw) (hvs : Are IsStr vs ps) (hpl : ps.length ≤ 3) (hpy : ∀ y ∈ ps, y.length ≤ 10)
  (q : ∀ h' tk' o6' t', o6'.data = .cell (some (.str (patternZ a b ps) t')) → Fr h₀ L h' m → News h₀ L h' ((L + 6, o6') :: nw) → Q .next { s with heap := h', toks := tk' }) :
  wpAny (model prog w) (lawA w L) (exec (st w 7) (lawEnv w L)) Q E s := by
  (with_unfolding_all change wpAny (model _ _) (callerA.deeper (envOfC (Str.ofString "law") (Scope.mk _ _ _ _ _) _ 158 (.ref 157))) (exec (.Assign _ _ _) (envOfC (Str.ofString "law") (Scope.mk _ _ _ _ _) _ 158 (.ref 157))) _ _ _)
  have e := vars3 hm hm2 hm3
  rw [e] at F
  have hss := strsOf hvs
  have hw : (ps.map (·.length)).sum + ps.length ≤ 1048576 := Nat.le_trans (weight_le hpy) (by omega)
  have hj := join_le (x := Str.ofString "...") hpy
  k_steps
  k_dflt (refine' r_join (ss := ps) ?N ?m ?y ?a ?b ?_; (case N => k_asm); (case m => k_mem); (case y => k_asm); (case a => decide); (case b => exact hw))
  intro t9 k9
  have hj2 : (Txt.join (Str.ofString "...") ps).length ≤ 42 := Nat.le_trans hj (Nat.le_trans (Nat.mul_le_mul_right _ hpl) (by decide))
  k_steps
  dsimp only
  rename Fr h₀ L _ _ => F'
  rw [← e] at F'
  exact q _ _ _ _ (by assumption) F' (by k_asm)
end
end
section
local macro_rules | `(tactic| walk_at "none of these") => `(tactic| fail)
-- S8
noncomputable def topZ (n : Nat) : Nat := if n < 4 then 4 else 5
section
variable {prog : Program} {w : World} {h₀ : Heap} {L : Addr} {m : Str → Option Value} {nw : List (Addr × Obj)} {s : Shared} {Q : Flow → Shared → Prop} {E : Value → Shared → Prop} {p : Program} {loose : List Str} {mean : ExcName → Option Value} {mg mb : Str → Option Value}
set_option maxRecDepth 100000 in
set_option maxHeartbeats 4000000 in
theorem s_top (B' : Below callerA h₀ [] h₀) (X : (KF w.params).In h₀) (T : Top p loose mean mg mb h₀) (F : Fr h₀ L s.heap m) {o1 o7 : Obj} {S : Addr} {vs : List Value} {ns : List Int} (N : News h₀ L s.heap ((L + 7, o7) :: nw)) (d7 : o7.data = .cell none) (hne : ∀ p ∈ nw, p.1 ≠ L + 7) (e1 : (L + 1, o1) ∈ nw) (d1 : o1.data = .cell (some (.ref S)))
  (hl : h₀.IsList S vs.toArray) (hi : IntsAre vs ns) (hlen : ns.length ≤ 63)
  (q : ∀ h' tk' o7' t', o7'.data = .cell (some (.int ((topZ ns.length : Nat) : Int) t')) → Fr h₀ L h' m → News h₀ L h' ((L + 7, o7') :: nw) → Q .next { s with heap := h', toks := tk' }) :
  wpAny (model prog w) (lawA w L) (exec (st w 8) (lawEnv w L)) Q E s := by
  (with_unfolding_all change wpAny (model _ _) (callerA.deeper (envOfC (Str.ofString "law") (Scope.mk _ _ _ _ _) _ 158 (.ref 157))) (exec (.Assign _ _ _) (envOfC (Str.ofString "law") (Scope.mk _ _ _ _ _) _ 158 (.ref 157))) _ _ _)
  k_steps
  · rename Fr h₀ L _ _ => F'
    dsimp only
    have e2 : topZ ns.length = 4 := if_pos (by omega)
    rw [e2] at q
    exact q _ _ _ _ (by assumption) F' (by k_asm)
  · rename Fr h₀ L _ _ => F'
    dsimp only
    have e2 : topZ ns.length = 5 := if_neg (by omega)
    rw [e2] at q
    exact q _ _ _ _ (by assumption) F' (by k_asm)
end
end
section
-- S9
section
variable {prog : Program} {w : World} {h₀ : Heap} {L : Addr} {m : Str → Option Value} {nw : List (Addr × Obj)} {s : Shared} {Q : Flow → Shared → Prop} {E : Value → Shared → Prop} {p : Program} {loose : List Str} {mean : ExcName → Option Value} {mg mb : Str → Option Value}
set_option maxRecDepth 100000 in
set_option maxHeartbeats 4000000 in
theorem s_text (B' : Below callerA h₀ [] h₀) (X : (KF w.params).In h₀) (T : Top p loose mean mg mb h₀) (F : Fr h₀ L s.heap m) {o3 : Obj} (N : News h₀ L s.heap nw) {z : Int} {tz : Tok} {PD : Addr} {vs : List Value} {ps : List Str} {k : Nat}
  (e3 : (L + 3, o3) ∈ nw) (d3 : o3.data = .cell (some (.int z tz))) (hm3 : m (Str.ofString "pieces") = some (.ref PD))
  (hP : (PD, W.listOf vs.toArray k) ∈ nw) (hvs : Are IsStr vs ps) (hpl : ps.length ≤ 3) (hpy : ∀ y ∈ ps, y.length ≤ 10)
  (q : ∀ h' tk' t', Fr h₀ L h' (fun y => if y = Str.ofString "text" then some (.str (writtenC (ps ++ [Str.ofString "end"]) z) t') else m y) → News h₀ L h' nw → Q .next { s with heap := h', toks := tk' }) :
  wpAny (model prog w) (lawA w L) (exec (st w 9) (lawEnv w L)) Q E s := by
  (with_unfolding_all change wpAny (model _ _) (callerA.deeper (envOfC (Str.ofString "law") (Scope.mk _ _ _ _ _) _ 158 (.ref 157))) (exec (.Assign _ _ _) (envOfC (Str.ofString "law") (Scope.mk _ _ _ _ _) _ 158 (.ref 157))) _ _ _)
  have e := vars1 hm3
  rw [e] at F
  (repeat' first | with_reducible (k_here; (with_reducible show wpAny _ _ (call (Value.ref 124) _) _ _ _); k_dflt (refine' conG_use (c_writtenG _ _ _ _ _ _ _ _ _ ?m ?v ?l ?y) ?k1 ?k2 ?k3 ?k4 ?k5 ?kK ?kd ?ku ?_; (case k1 => k_asm); (case k2 => k_asm); (case k3 => k_asm); (case k4 => k_asm); (case k5 => k_asm); (case kK => exact rfl); (case kd => ktr_room); (case ku => ktr_units); (case m => k_mem); (case v => assumption); (case l => assumption); (case y => assumption)); intro _ _ _ _ _) | walk_at "STEP")
  rename_i l1 h1 F1 N1 hlt
  k_dflt (refine' kmk_add_lit (its := vs.toArray) (its2 := #[Value.str (Str.ofString "end") s.toks]) (zs := vs ++ [Value.str (Str.ofString "end") s.toks]) F1 N1 ?a ?b ?e ?_ ?z; (case a => exact News.isList N1 (.tail _ hP)); (case b => exact News.isList N1 (.head _)); (case e => rfl); (case z => (show vs.length + 1 ≤ _; rw [hvs.length, sizeLine_eq]; lia)))
  intro D2 h2 F2 N2 hlt2
  have hv2 : Are IsStr (vs ++ [Value.str (Str.ofString "end") s.toks]) (ps ++ [Str.ofString "end"]) := hvs.append (.cons ⟨_, rfl⟩ .nil)
  have hl2 : (ps ++ [Str.ofString "end"]).length ≤ 10 := by rw [List.length_append]; show _ + 1 ≤ _; lia
  have hy2 : ∀ y ∈ ps ++ [Str.ofString "end"], y.length ≤ 10 := List.forall_mem_append.mpr ⟨hpy, List.forall_mem_cons.mpr ⟨by decide, fun _ h => nomatch h⟩⟩
  (repeat' first | with_reducible (k_here; (with_reducible show wpAny _ _ (call (Value.ref 124) _) _ _ _); k_dflt (refine' conG_use (c_writtenG _ _ _ _ _ _ _ _ _ ?m ?v ?l ?y) ?k1 ?k2 ?k3 ?k4 ?k5 ?kK ?kd ?ku ?_; (case k1 => k_asm); (case k2 => k_asm); (case k3 => k_asm); (case k4 => k_asm); (case k5 => k_asm); (case kK => exact rfl); (case kd => ktr_room); (case ku => ktr_units); (case m => k_mem); (case v => assumption); (case l => assumption); (case y => assumption)); intro _ _ _ _ _) | walk_at "STEP")
  (try dsimp only)
  rename Fr h₀ L _ _ => F'
  rename News h₀ L _ _ => N'
  rw [← e] at F'
  exact q _ _ _ F' (cb_drop N' (by lcg_sub))
end
end
section
-- S10
section
variable {prog : Program} {w : World} {h₀ : Heap} {L : Addr} {m : Str → Option Value} {nw : List (Addr × Obj)} {s : Shared} {Q : Flow → Shared → Prop} {E : Value → Shared → Prop} {p : Program} {loose : List Str} {mean : ExcName → Option Value} {mg mb : Str → Option Value}
set_option maxRecDepth 100000 in
set_option maxHeartbeats 4000000 in
theorem s_texts (C : CodeHd h₀ 118 114) (B' : Below callerA h₀ [] h₀) (X : (KF w.params).In h₀) (T : Top p loose mean mg mb h₀) (F : Fr h₀ L s.heap m) {o5 o7 o8 : Obj} (N : News h₀ L s.heap ((114, tabObj #[]) :: (L + 8, o8) :: nw)) (d8 : o8.data = .cell none) (hne : ∀ p ∈ nw, p.1 ≠ L + 8) (h114 : ∀ p ∈ (L + 8, o8) :: nw, p.1 ≠ 114)
  {SG PD : Addr} {vs : List Value} {ps : List Str} {k kg top : Nat} {t0 t1 tt tx : Tok} {s0 s1 text : Str}
  (e5 : (L + 5, o5) ∈ nw) (d5 : o5.data = .cell (some (.ref SG))) (e7 : (L + 7, o7) ∈ nw) (d7 : o7.data = .cell (some (.int ((top : Nat) : Int) tt)))
  (hm : m (Str.ofString "text") = some (.str text tx)) (hm3 : m (Str.ofString "pieces") = some (.ref PD))
  (hP : (PD, W.listOf vs.toArray k) ∈ nw) (hvs : Are IsStr vs ps) (hpl : ps.length ≤ 3) (hG : (SG, W.listOf #[.str s0 t0, .str s1 t1] kg) ∈ nw) (hsz : text.length ≤ 1000) (h0 : s0.length ≤ 1) (h1 : s1.length ≤ 1) (ht : top ≤ 5)
  (q : ∀ h' tk' o8' (D TD : Addr) vs' us k' pp tr tl, o8'.data = .cell (some (.ref TD)) → Are IsStr vs' (textsZ text ps.length s0 s1 top).1 → Are IsStr us (textsZ text ps.length s0 s1 top).2.1 → (∀ p ∈ (L + 8, o8) :: nw, @Ne Nat p.1 D) → (∀ p ∈ nw, @LT.lt Nat _ p.1 TD) →
    Fr h₀ L h' (fun y => if y = Str.ofString "line" then some (.int ((textsZ text ps.length s0 s1 top).2.2.2 : Nat) tl) else if y = Str.ofString "rest" then some (.str (textsZ text ps.length s0 s1 top).2.2.1 tr) else if y = Str.ofString "seen" then some (.ref D) else m y) →
    News h₀ L h' ((L + 8, o8') :: (D, LCg.lst vs') :: (TD, W.listOf us.toArray k') :: (114, tabObj pp) :: nw) → Q .next { s with heap := h', toks := tk' }) :
  wpAny (model prog w) (lawA w L) (exec (st w 10) (lawEnv w L)) Q E s := by
  (with_unfolding_all change wpAny (model _ _) (callerA.deeper (envOfC (Str.ofString "law") (Scope.mk _ _ _ _ _) _ 158 (.ref 157))) (exec (.Assign _ _ _) (envOfC (Str.ofString "law") (Scope.mk _ _ _ _ _) _ 158 (.ref 157))) _ _ _)
  have e := vars2 hm hm3
  rw [e] at F
  have hlv : vs.length ≤ 3 := hvs.length ▸ hpl
  have hc : vs.length ≤ 10 := Nat.le_trans hlv (by decide)
  have e8 := List.Mem.head (a := (L + 8, o8)) nw
  rw [← hvs.length] at q
  (repeat' first | with_reducible (k_here; (with_reducible show wpAny _ _ (call (Value.ref 129) _) _ _ _); k_dflt (refine' conTG_use (c_texts _ _ _ _ _ _ _ _ _ _ _ _ _ _ _ ?g ?n ?z ?x ?y ?c ?t) ?kC ?k1 ?k2 ?k3 ?k4 ?k5 ?kK ?kd ?ku ?_; (case kC => assumption); (case k1 => k_asm); (case k2 => k_asm); (case k3 => k_asm); (case k4 => k_asm); (case k5 => k_asm); (case kK => exact rfl); (case kd => ktr_room); (case ku => ktr_units); (case g => exact .tail _ (by assumption)); (case n => assumption); (case z => assumption); (case x => assumption); (case y => assumption); (case c => assumption); (case t => assumption)); intro _ _ _ _ _ _ _ _ _ _ _ _ _ _ _ _ _ _ _) | with_reducible ((with_reducible show wpAny _ _ (call (Value.builtin "len") [Value.ref _]) _ _ _); k_dflt (refine' r_len ?N ?m ?z ?_; (case N => k_asm); (case m => k_mem); (case z => first | assumption | omega))) | walk_at "STEP")
  rename_i TT D TD vs' us k' pp tr tl hv hu hd1 hd2 hd3 hd4 h9 tk9 hA h8 F8 N9
  have hlt := allLt_mem hd2
  have N8 : News h₀ L h8 ((L + 8, o8) :: (D, LCg.lst vs') :: (TD, W.listOf us.toArray k') :: (114, tabObj pp) :: nw) := cb_drop N9 (by lcg_sub)
  have hne2 : ∀ p ∈ (D, LCg.lst vs') :: (TD, W.listOf us.toArray k') :: (114, tabObj pp) :: nw, p.1 ≠ L + 8 := List.forall_mem_cons.mpr ⟨Ne.symm (hd1 _ (.head _)), List.forall_mem_cons.mpr ⟨Nat.ne_of_gt (hlt _ (.head _)), List.forall_mem_cons.mpr ⟨Ne.symm (h114 _ (.head _)), hne⟩⟩⟩
  clear N9 hd3 hd4
  (repeat' first | with_reducible (k_here; (with_reducible show wpAny _ _ (call (Value.ref 129) _) _ _ _); k_dflt (refine' conTG_use (c_texts _ _ _ _ _ _ _ _ _ _ _ _ _ _ _ ?g ?n ?z ?x ?y ?c ?t) ?kC ?k1 ?k2 ?k3 ?k4 ?k5 ?kK ?kd ?ku ?_; (case kC => assumption); (case k1 => k_asm); (case k2 => k_asm); (case k3 => k_asm); (case k4 => k_asm); (case k5 => k_asm); (case kK => exact rfl); (case kd => ktr_room); (case ku => ktr_units); (case g => exact .tail _ (by assumption)); (case n => assumption); (case z => assumption); (case x => assumption); (case y => assumption); (case c => assumption); (case t => assumption)); intro _ _ _ _ _ _ _ _ _ _ _ _ _ _ _ _ _ _ _) | with_reducible ((with_reducible show wpAny _ _ (call (Value.builtin "len") [Value.ref _]) _ _ _); k_dflt (refine' r_len ?N ?m ?z ?_; (case N => k_asm); (case m => k_mem); (case z => first | assumption | omega))) | walk_at "STEP")
  (try dsimp only)
  rename Fr h₀ L _ _ => F'
  rw [← e] at F'
  exact q _ _ _ D TD vs' us k' pp tr tl (by assumption) hv hu hd1 (fun p hp => hlt p (.tail _ hp)) F' (by k_asm)
end
end
section
-- S11
theorem ks_canLayAll0 : ∀ ns : List Str, ns.all PyData.strOk = true → PyData.canLayAll0 (ns.map PyData.str) = true
  | [], _ => rfl
  | a :: r, h => by
    simp only [List.all_cons, Bool.and_eq_true] at h
    simp [PyData.canLayAll0, PyData.canLay0, ks_canLayAll0 r h.2, h.1]
theorem ks_depthAll : ∀ ns : List Str, PyData.depthAll (ns.map PyData.str) = 0
  | [] => rfl
  | _ :: r => by simp [PyData.depthAll, PyData.depth, ks_depthAll r]
theorem ks_shaped (ns : List Str) (h : ns.all PyData.strOk = true) : SeqAt.shaped (.list (ns.map PyData.str)) = true := by
  simp [SeqAt.shaped, PyData.canLay0, PyData.depth, ks_canLayAll0 ns h, ks_depthAll]
theorem ks_sameAll : ∀ ns : List Str, PySem.Spec.sameAll (ns.map PyData.str) (ns.map PyData.str) = true
  | [] => by simp [PySem.Spec.sameAll]
  | a :: r => by simp only [List.map_cons, PySem.Spec.sameAll, PySem.Spec.same, ks_sameAll r]; simp
theorem ks_carried {vs : List Value} {ns : List Str} (h : Are IsStr vs ns) : CarriedAll vs (ns.map PyData.str) := by
  induction h with
  | nil => exact .nil
  | cons h _ ih => obtain ⟨t, rfl⟩ := h; exact .cons (.str _ t) ih
theorem ne_strs {prog : Program} {w : World} {A : Around} {E : Value → Shared → Prop} {s : Shared} {a b : Addr} {xs ys : List Value} {ns : List Str} {Q : Value → Shared → Prop} (ha : s.heap.IsList a xs.toArray) (hb : s.heap.IsList b ys.toArray) (hi : Are IsStr xs ns) (hj : Are IsStr ys ns) (ho : ns.all PyData.strOk = true) (hu : A.units + 64 < cLine) (h : Q (.bool false) s) :
    wpAny (model prog w) A (compareOp .NotEq (.ref a) (.ref b)) Q E s :=
  ne_dataH_same (reads_newData ha (ks_carried hi)) (reads_newData hb (ks_carried hj)) (ks_shaped _ ho) (ks_shaped _ ho) hu (SeqAt.noMix_of_shape (.list .str) rfl _ _ (list_map_has fun _ => rfl) (list_map_has fun _ => rfl)) (by simp only [PySem.Spec.same, ks_sameAll]; exact h)
theorem lastStr {vs : List Value} {ts : List Str} {e : Str} (h : Are IsStr vs (ts ++ [e])) : ∃ t, vs.getLast? = some (.str e t) := by
  generalize hx : ts ++ [e] = xs at h
  induction h generalizing ts with
  | nil => simp at hx
  | cons h1 h2 ih =>
    cases ts with
    | nil =>
      simp only [List.nil_append, List.cons.injEq] at hx
      obtain ⟨rfl, rfl⟩ := hx
      cases h2
      obtain ⟨t, rfl⟩ := h1
      exact ⟨t, rfl⟩
    | cons x ts =>
      simp only [List.cons_append, List.cons.injEq] at hx
      obtain ⟨t, ht⟩ := ih hx.2
      exact ⟨t, by rw [List.getLast?_cons, ht]; rfl⟩
section
variable {prog : Program} {w : World} {h₀ : Heap} {L : Addr} {m : Str → Option Value} {nw : List (Addr × Obj)} {s : Shared} {Q : Flow → Shared → Prop} {E : Value → Shared → Prop} {p : Program} {loose : List Str} {mean : ExcName → Option Value} {mg mb : Str → Option Value}
theorem vars5 {m : Str → Option Value} {x y z u t : Str} {a b c d e : Value} (h1 : m x = some a) (h2 : m y = some b) (h3 : m z = some c) (h4 : m u = some d) (h5 : m t = some e) : m = seen [(x, a), (y, b), (z, c), (u, d), (t, e)] m := map_seen _ (List.forall_mem_cons.mpr ⟨h1, List.forall_mem_cons.mpr ⟨h2, List.forall_mem_cons.mpr ⟨h3, List.forall_mem_cons.mpr ⟨h4, List.forall_mem_cons.mpr ⟨h5, fun _ h => nomatch h⟩⟩⟩⟩⟩)
set_option maxRecDepth 100000 in
set_option maxHeartbeats 4000000 in
theorem s_ask1 (B' : Below callerA h₀ [] h₀) (X : (KF w.params).In h₀) (T : Top p loose mean mg mb h₀) (F : Fr h₀ L s.heap m) {o8 : Obj} (N : News h₀ L s.heap nw)
  {SD PD TD : Addr} {vs vs' us : List Value} {ps ts : List Str} {k k' : Nat} {tx tr tl : Tok} {text : Str} {line : Int}
  (e8 : (L + 8, o8) ∈ nw) (d8 : o8.data = .cell (some (.ref TD)))
  (hm1 : m (Str.ofString "seen") = some (.ref SD)) (hm2 : m (Str.ofString "pieces") = some (.ref PD)) (hm3 : m (Str.ofString "rest") = some (.str (Str.ofString "") tr)) (hm4 : m (Str.ofString "line") = some (.int line tl)) (hm5 : m (Str.ofString "text") = some (.str text tx))
  (hS : (SD, LCg.lst vs') ∈ nw) (hP : (PD, W.listOf vs.toArray k) ∈ nw) (hT : (TD, W.listOf us.toArray k') ∈ nw) (hok : ps.all PyData.strOk = true) (hvs : Are IsStr vs ps) (hvs' : Are IsStr vs' ps) (hu : Are IsStr us (ts ++ [Str.ofString "end"])) (hul : us.length ≤ 1000000)
  (hline : line = 1 + Txt.count text (Str.ofString "\n")) (hsz : text.length ≤ 1000)
  (q : ∀ h' tk', Fr h₀ L h' m → News h₀ L h' nw → Q .next { s with heap := h', toks := tk' }) :
  wpAny (model prog w) (lawA w L) (exec (st w 11) (lawEnv w L)) Q E s := by
  (with_unfolding_all change wpAny (model _ _) (callerA.deeper (envOfC (Str.ofString "law") (Scope.mk _ _ _ _ _) _ 158 (.ref 157))) (exec (.If _ _ _ _) (envOfC (Str.ofString "law") (Scope.mk _ _ _ _ _) _ 158 (.ref 157))) _ _ _)
  have e := vars5 hm1 hm2 hm3 hm4 hm5
  simp only [seen, List.foldr] at e
  rw [e] at F
  obtain ⟨tg, hgl⟩ := lastStr hu
  have hl1 : s.heap.IsList SD vs'.toArray := News.isList N hS
  have hl2 : s.heap.IsList PD vs.toArray := News.isList N hP
  (repeat' first | with_reducible ((with_reducible show wpAny _ _ (subscriptTail _ (Expr.UnaryOp _ _ _) (Value.ref _) (Value.int _ _)) _ _ _); (k_here; k_dflt (refine' r_itemLast ?N ?m ?a ?x ?_; (case N => k_asm); (case m => k_mem); (case x => assumption); (case a => lia)))) | with_reducible ((with_reducible show wpAny _ _ (subscriptTail _ (Expr.UnaryOp _ _ _) (Value.ref _) (Value.int _ _)) _ _ _); (k_here; k_dflt (refine' r_itemLast ?N ?m ?a ?x ?_; (case N => k_asm); (case m => k_mem); (case x => assumption); (case a => (simp only [List.size_toArray]; lia))))) | with_reducible (k_here; (with_reducible show wpAny _ _ (compareOp CmpOp.NotEq (Value.ref _) (Value.ref _)) _ _ _); k_dflt ((try dsimp only); refine' ne_strs ?a ?b ?c ?d ?e ?u ?_; (case a => with_reducible assumption); (case b => with_reducible assumption); (case c => with_reducible assumption); (case d => with_reducible assumption); (case e => with_reducible assumption); (case u => exact Nat.le_of_ble_eq_true rfl))) | walk_at "STEP")
  · exact absurd hline (by assumption)
  · dsimp only
    rw [← e] at F
    exact q _ _ F N
end
end
section
-- S12
noncomputable def IsOrder (w : World) (nw : List (Addr × Obj)) (x : Addr) : Prop := ∃ (dx l P1 P2 : Addr) (tk t1 t2 t3 t4 : Tok) (kl k1 k2 : Nat), (x, instObj 87 dx) ∈ nw ∧ (dx, dictOf [DictEntry.mk (PyData.keyHash w.params "comp_select_list") (.str "comp_select_list" tk) (.ref l)] 1) ∈ nw ∧ (l, W.listOf #[.ref P1, .ref P2] kl) ∈ nw ∧ (P1, tupI 0 1 t1 t2 k1) ∈ nw ∧ (P2, tupI 1 1 t3 t4 k2) ∈ nw
section
variable {prog : Program} {w : World} {h₀ : Heap} {L : Addr} {m : Str → Option Value} {nw : List (Addr × Obj)} {s : Shared} {Q : Flow → Shared → Prop} {E : Value → Shared → Prop} {p : Program} {loose : List Str} {mean : ExcName → Option Value} {mg mb : Str → Option Value}
set_option maxRecDepth 100000 in
set_option maxHeartbeats 4000000 in
theorem s_order (B' : Below callerA h₀ [] h₀) (X : (KF w.params).In h₀) (T : Top p loose mean mg mb h₀) (F : Fr h₀ L s.heap m) {o9 : Obj} (N : News h₀ L s.heap ((L + 9, o9) :: nw)) (d : o9.data = .cell none) (hne : ∀ p ∈ nw, p.1 ≠ L + 9)
  (q : ∀ h' tk' o9' x ex, o9'.data = .cell (some (.ref x)) → IsOrder w ex x → (∀ p ∈ ex, AllLt p.1 nw) → Fr h₀ L h' m → News h₀ L h' ((L + 9, o9') :: (ex ++ nw)) → Q .next { s with heap := h', toks := tk' }) :
  wpAny (model prog w) (lawA w L) (exec (st w 12) (lawEnv w L)) Q E s := by
  (with_unfolding_all change wpAny (model _ _) (callerA.deeper (envOfC (Str.ofString "law") (Scope.mk _ _ _ _ _) _ 158 (.ref 157))) (exec (.Assign _ _ _) (envOfC (Str.ofString "law") (Scope.mk _ _ _ _ _) _ 158 (.ref 157))) _ _ _)
  k_steps
  rename_i P1 h6 l3 P2 h5 l2 l h4 l1 x dx h3 l0 l00 g1 L1 h2 B1 X1 T1 h7 F1 N1 Tc1 kX1 h8 o9' F0 N0 d0
  dsimp only
  have a1 := l3.2
  have a2 := l2.2.2
  have a3 := l1.2.2.2
  have a4 := l0.2.2.2.2
  have a5 := allLt_le (Nat.le_of_lt l00) a4
  exact q _ _ o9' x [(x, _), (dx, _), (l, _), (P2, _), (P1, _)] d0 ⟨dx, l, P1, P2, _, _, _, _, _, _, _, _, .head _, .tail _ (.head _), .tail _ (.tail _ (.head _)), .tail _ (.tail _ (.tail _ (.tail _ (.head _)))), .tail _ (.tail _ (.tail _ (.head _)))⟩ (List.forall_mem_cons.mpr ⟨a5, List.forall_mem_cons.mpr ⟨a4, List.forall_mem_cons.mpr ⟨a3, List.forall_mem_cons.mpr ⟨a2, List.forall_mem_cons.mpr ⟨a1, fun _ h => nomatch h⟩⟩⟩⟩⟩) F0 (cb_drop N0 (subs_cons (.tail _ (.tail _ (.tail _ (.tail _ (.tail _ (.head _)))))) (subs_cons (.head _) (subs_cons (.tail _ (.head _)) (subs_cons (.tail _ (.tail _ (.head _))) (subs_cons (.tail _ (.tail _ (.tail _ (.head _)))) (subs_cons (.tail _ (.tail _ (.tail _ (.tail _ (.head _))))) (subs_tail (subs_tail (subs_tail (subs_tail (subs_tail (subs_tail subs_refl)))))))))))))
end
end
section
-- LawB
/-- two ledgers have no address in common -/
noncomputable def Apart (ex nw : List (Addr × Obj)) : Prop := ∀ p ∈ ex, ∀ c ∈ nw, @Ne Nat c.1 p.1
theorem Apart.one {D : Addr} {o : Obj} {nw : List (Addr × Obj)} (h : ∀ p ∈ nw, @Ne Nat p.1 D) : Apart [(D, o)] nw := List.forall_mem_cons.mpr ⟨h, fun _ h => nomatch h⟩
theorem Apart.nil {nw : List (Addr × Obj)} : Apart [] nw := fun _ h => nomatch h
theorem Apart.cons {D : Addr} {o : Obj} {ex nw : List (Addr × Obj)} (h : ∀ p ∈ nw, @Ne Nat p.1 D) (r : Apart ex nw) : Apart ((D, o) :: ex) nw := List.forall_mem_cons.mpr ⟨h, r⟩
theorem Apart.app {ex ex' nw : List (Addr × Obj)} (h : Apart ex nw) (r : Apart ex' nw) : Apart (ex ++ ex') nw := fun p hp => (List.mem_append.mp hp).elim (h p) (r p)
noncomputable def pickL {α : Type} (l : List α) (lo hi : Option Int) : List α := (l.drop (kms_lo lo l.length)).take (kms_hi hi l.length - kms_lo lo l.length)
theorem are_drop {α : Type} {Is : α → Value → Prop} : ∀ {n : Nat} {vs : List Value} {xs : List α}, Are Is vs xs → Are Is (vs.drop n) (xs.drop n)
  | 0, _, _, h => h
  | _ + 1, _, _, .nil => .nil
  | n + 1, _, _, .cons _ h => are_drop (n := n) h
theorem are_take {α : Type} {Is : α → Value → Prop} : ∀ {n : Nat} {vs : List Value} {xs : List α}, Are Is vs xs → Are Is (vs.take n) (xs.take n)
  | 0, _, _, _ => .nil
  | _ + 1, _, _, .nil => .nil
  | n + 1, _, _, .cons h1 h => .cons h1 (are_take (n := n) h)
theorem are_pick {α : Type} {Is : α → Value → Prop} {vs : List Value} {xs : List α} (h : Are Is vs xs) (lo hi : Option Int) : Are Is (kms_pick vs lo hi) (pickL xs lo hi) := by
  unfold kms_pick pickL
  rw [h.length]
  exact are_take (are_drop h)
theorem pick_init {α : Type} (l : List α) (x : α) : pickL (l ++ [x]) none (some (-1)) = l := by
  simp [pickL, kms_lo, kms_hi]
theorem r_slice {γ : Type} {Is : γ → Value → Prop} {prog : Program} {w : World} {A : Around} {E : Value → Shared → Prop} {s : Shared} {h₀ : Heap} {L d : Addr} {m : Str → Option Value} {news : List (Addr × Obj)} {value slice : Expr} {vs : List Value} {xs : List γ} {k : Nat} {vl vu : Value} {lo hi : Option Int} {Q : Value → Shared → Prop}
    (F : Fr h₀ L s.heap m) (N : News h₀ L s.heap news) (hm : (d, W.listOf vs.toArray k) ∈ news) (hvs : Are Is vs xs) (pl : IsPart vl lo) (pu : IsPart vu hi) (hz : xs.length ≤ 1000)
    (q : ∀ D zs h', Are Is zs (pickL xs lo hi) → AllLt D news → Fr h₀ L h' m → News h₀ L h' ((D, W.listOf zs.toArray 0) :: news) → Q (.ref D) { s with heap := h' })
    (hs : subscripted slice false (.ref d) (.ref s.heap.objs.size) = operate [.ref s.heap.objs.size, .ref d] (getItem (.ref d) (.ref s.heap.objs.size)) := by with_unfolding_all rfl) (ht : ∀ r, letTemporaryGo value (.ref d) r = pure () := by intro _; with_unfolding_all rfl) :
    wpAny (model prog w) A (subscriptTail value slice (.ref d) (.ref s.heap.objs.size)) Q E { s with heap := s.heap.push { cls := .type "slice", data := .fields #[vl, vu, .none] } } :=
  kms_slice_lit F N (News.isList N hm) pl pu rfl (fun D h' F' N' l1 => q D _ h' (are_pick hvs lo hi) (allLt_of l1) F' N') hs ht (by rw [List.size_toArray, hvs.length, sizeLine_eq]; lia)
section
variable {prog : Program} {w : World} {A : Around} {E : Value → Shared → Prop} {s : Shared} {env : Env} {h₀ : Heap} {L : Addr} {m : Str → Option Value} {x : Str} {elt : Expr} {scope : Scope} {cl : List (Str × Addr)} {Fin : Shared → List Value → List (Addr × Obj) → Prop} {nw : List (Addr × Obj)}
open LCg LCt PyProof.V
/-- a list comprehension over a list: each turn may lay new objects -/
theorem compListX {γ : Type} {Is : γ → Value → Prop} {Out : List (Addr × Obj) → γ → Value → Prop} {xs : List γ} {ax : Addr} {vs : List Value} {k : Nat} (mono : ∀ a b c v, Out a c v → Out (b ++ a) c v) (hh : A.handled = none) (F : Fr h₀ L s.heap m) (N : News h₀ L s.heap nw) (hm : (ax, W.listOf vs.toArray k) ∈ nw) (hvs : Are Is vs xs) (hsz : xs.length ≤ 10000)
    (turn : ∀ (c : γ) (v : Value) I oI C oC D m₂ h tk (E' PE : Value → Shared → Prop) ys ex, c ∈ xs → Is c v → NsObj oC m₂ → m₂ x = some v → Fr h₀ L h m → News h₀ L h ((I, oI) :: (C, oC) :: (D, lst ys) :: (ex ++ nw)) →
      (∀ y h' tk' ex', Fr h₀ L h' m → News h₀ L h' (ex' ++ ((I, oI) :: (C, oC) :: (D, lst ys) :: (ex ++ nw))) → (∀ p ∈ ex', AllLt p.1 ((I, oI) :: (C, oC) :: (D, lst ys) :: (ex ++ nw))) → Out (ex' ++ ex) c y → PE y { s with heap := h', toks := tk' }) →
      wpAny (model prog w) A (eval elt (compEnvC scope cl C env)) PE E' { s with heap := h, toks := tk })
    (fin : ∀ hp ys ex, Are (Out ex) ys xs → Apart ex nw → Fin { s with heap := hp } ys (ex ++ nw)) : wpAny (model prog w) A (pyIter (.ref ax)) (CompAt prog w A h₀ L m env elt x scope cl Fin) E s := by
  refine iterList hh F N hm fun I fp St o B F1 N1 hlt => ⟨I, fp, St, _, _, _, nw, rfl, B, (by rw [sizeLine_eq, hvs.length]; lia), F1, N1, ne_of_allLt hlt, hm, ?_⟩
  refine compJ (fun i ys nw' => ∃ ex, nw' = ex ++ nw ∧ Are (Out ex) ys (xs.take i) ∧ Apart ex nw) ?_ ?_ ⟨[], rfl, .nil, Apart.nil⟩
  · rintro i v I oI C oC D m₂ h tk E' ys nw' hi hv ⟨ex, rfl, hy, hap⟩ hC hx F2 N2 off ne
    obtain ⟨c, hc, hIs⟩ := hvs.at i v hv
    refine turn c v I oI C oC D m₂ h tk E' _ ys ex (List.mem_of_getElem? hc) hIs hC hx F2 N2 ?_
    intro y h' tk' ex' F3 N3 hex ho
    refine ⟨h', tk', (ex' ++ ex) ++ nw, rfl, F3, fun p hp => N3 p ?_, Off3.of fun p hp => ?_, ?_, ex' ++ ex, rfl, ?_, ?_⟩
    · rcases List.mem_cons.mp hp with rfl | hp
      · exact List.mem_append_right _ (.head _)
      · rcases List.mem_cons.mp hp with rfl | hp
        · exact List.mem_append_right _ (.tail _ (.head _))
        · rcases List.mem_cons.mp hp with rfl | hp
          · exact List.mem_append_right _ (.tail _ (.tail _ (.head _)))
          · rw [List.append_assoc] at hp
            rcases List.mem_append.mp hp with hp | hp
            · exact List.mem_append_left _ hp
            · exact List.mem_append_right _ (.tail _ (.tail _ (.tail _ hp)))
    · rw [List.append_assoc] at hp
      rcases List.mem_append.mp hp with hp | hp
      · have := hex p hp
        exact ⟨Nat.ne_of_gt this.1, Nat.ne_of_gt this.2.1, Nat.ne_of_gt this.2.2.1⟩
      · exact Off3.mem off p hp
    · exact List.mem_append_right _ hm
    · rw [List.take_add_one, hc]
      exact (are_imp hy fun c v _ h => mono _ ex' c v h).append (.cons ho .nil)
    · refine Apart.app (fun p hp c hc => Nat.ne_of_lt (allLt_mem (hex p hp) c (.tail _ (.tail _ (.tail _ (List.mem_append_right _ hc)))))) hap
  · rintro ys nw' ⟨ex, rfl, hy, hap⟩
    rw [hvs.length, List.take_length] at hy
    exact fin _ ys ex hy hap
end
end
section
-- S13
/-- a pair of a length and a text, laid in a ledger -/
noncomputable def IsRow (led : List (Addr × Obj)) (y : Str) (v : Value) : Prop := ∃ D t u k, v = .ref D ∧ (D, tupB (y.length : Nat) y t u k) ∈ led
theorem subs_app {ex nw r : List (Addr × Obj)} (h : ∀ p ∈ nw, p ∈ r) : ∀ p ∈ ex ++ nw, p ∈ ex ++ r := fun p hp => (List.mem_append.mp hp).elim (List.mem_append_left _) fun hp => List.mem_append_right _ (h p hp)
section
variable {prog : Program} {w : World} {h₀ : Heap} {L : Addr} {m : Str → Option Value} {nw : List (Addr × Obj)} {s : Shared} {Q : Flow → Shared → Prop} {E : Value → Shared → Prop} {p : Program} {loose : List Str} {mean : ExcName → Option Value} {mg mb : Str → Option Value}
set_option maxRecDepth 100000 in
set_option maxHeartbeats 4000000 in
theorem s_rows (B' : Below callerA h₀ [] h₀) (X : (KF w.params).In h₀) (T : Top p loose mean mg mb h₀) (F : Fr h₀ L s.heap m) {o8 o10 : Obj} (N : News h₀ L s.heap ((L + 10, o10) :: nw)) (d : o10.data = .cell none) (hne : ∀ p ∈ nw, p.1 ≠ L + 10)
  {TD : Addr} {us : List Value} {ts : List Str} {k : Nat} {e9 : Str}
  (e8 : (L + 8, o8) ∈ nw) (d8 : o8.data = .cell (some (.ref TD))) (hT : (TD, W.listOf us.toArray k) ∈ nw) (hu : Are IsStr us (ts ++ [e9])) (hul : ts.length ≤ 500) (hty : ∀ y ∈ ts, y.length ≤ 1000)
  (q : ∀ h' tk' o10' (D : Addr) ys ex, o10'.data = .cell (some (.ref D)) → Are (IsRow ex) ys ts → Apart ex nw → (∀ p ∈ ex ++ nw, @Ne Nat p.1 D) → (∀ p ∈ (D, LCg.lst ys) :: (ex ++ nw), p.1 ≠ L + 10) → Fr h₀ L h' m → News h₀ L h' ((L + 10, o10') :: (D, LCg.lst ys) :: (ex ++ nw)) → Q .next { s with heap := h', toks := tk' }) :
  wpAny (model prog w) (lawA w L) (exec (st w 13) (lawEnv w L)) Q E s := by
  (with_unfolding_all change wpAny (model _ _) (callerA.deeper (envOfC (Str.ofString "law") (Scope.mk _ _ _ _ _) _ 158 (.ref 157))) (exec (.Assign _ _ _) (envOfC (Str.ofString "law") (Scope.mk _ _ _ _ _) _ 158 (.ref 157))) _ _ _)
  (repeat' first | with_reducible ((with_reducible show wpAny _ _ (eval (Expr.ListComp _ [⟨_, _, [], _⟩] _ _) _) _ _ _); k_dflt (refine listComp (by k_asm) (by rfl) (by decide) (by rfl) (by decide) (by rfl) ?_)) | walk_at "STEP")
  k_dflt (refine' r_slice ?F ?N ?m hu ?p ?q ?z ?_; (case F => k_asm); (case N => k_asm); (case m => k_mem); (case p => kmk_part); (case q => kmk_part); (case z => (rw [List.length_append]; show _ + 1 ≤ _; lia)))
  intro D1 us1 h1 hu1 hlt1 F1 N1
  rw [pick_init] at hu1
  dsimp only
  refine compListX (Is := IsStr) (Out := IsRow) (fun a b c v h => ?_) rfl F1 N1 (.head _) hu1 (Nat.le_trans hul (by decide)) ?_ ?_
  · obtain ⟨D, t, u, k, e, hm⟩ := h
    exact ⟨D, t, u, k, e, List.mem_append_right _ hm⟩
  · intro c v I oI C oC D m2 h tk E' PE ys ex hmem hIs hC hx F2 N2 q2
    clear q N F F1 N1
    obtain ⟨t, rfl⟩ := hIs
    have hcl := hty c hmem
    (repeat' first | with_reducible ((with_reducible show wpAny _ _ (eval (Expr.ListComp _ [⟨_, _, [], _⟩] _ _) _) _ _ _); k_dflt (refine listComp (by k_asm) (by rfl) (by decide) (by rfl) (by decide) (by rfl) ?_)) | walk_at "STEP")
    rename_i D3 h3 F3 N3 l3
    dsimp only
    exact q2 _ _ _ [(D3, _)] F3 N3 (List.forall_mem_cons.mpr ⟨l3, fun _ h => nomatch h⟩) ⟨D3, _, _, _, rfl, .head _⟩
  · intro hp ys ex hys hap D h tk F2 N2 o1
    have N3 : News h₀ L h ((L + 10, o10) :: (D, LCg.lst ys) :: (ex ++ nw)) := cb_drop N2 (subs_cons (.tail _ (List.mem_append_right _ (.tail _ (.head _)))) (subs_cons (.head _) (fun p hp => .tail _ (subs_app (fun p hp => .tail _ (.tail _ hp)) p hp))))
    have off := Off1.all o1
    have hne3 : ∀ p ∈ (D, LCg.lst ys) :: (ex ++ nw), p.1 ≠ L + 10 := List.forall_mem_cons.mpr ⟨Ne.symm (off _ (List.mem_append_right _ (.tail _ (.head _)))), List.forall_mem_append.mpr ⟨fun p hp => Ne.symm (hap p hp _ (.tail _ (.head _))), hne⟩⟩
    have hap3 : Apart ex nw := fun p hp c hc => hap p hp c (.tail _ (.tail _ hc))
    have hD3 : ∀ p ∈ ex ++ nw, @Ne Nat p.1 D := List.forall_mem_append.mpr ⟨fun p hp => off p (List.mem_append_left _ hp), fun p hp => off p (List.mem_append_right _ (.tail _ (.tail _ hp)))⟩
    clear N2 F N F1 N1
    (repeat' first | with_reducible ((with_reducible show wpAny _ _ (eval (Expr.ListComp _ [⟨_, _, [], _⟩] _ _) _) _ _ _); k_dflt (refine listComp (by k_asm) (by rfl) (by decide) (by rfl) (by decide) (by rfl) ?_)) | walk_at "STEP")
    rename_i o3 F3 N3 d3
    dsimp only
    exact q _ _ o3 D ys ex d3 hys hap3 hD3 hne3 F3 (by k_asm)
end
end
section
-- S14
theorem c_compareG (prog : Program) (w : World) (news : List (Addr × Obj)) (x dx l P1 P2 Ta Tb : Addr) (tk t1 t2 t3 t4 t5 t6 t7 t8 : Tok) (kl k1 k2 k3 k4 : Nat) (na nb : Int) (ya yb : Str) (hx : (x, instObj 87 dx) ∈ news) (hdx : (dx, dictOf [DictEntry.mk (PyData.keyHash w.params "comp_select_list") (.str "comp_select_list" tk) (.ref l)] 1) ∈ news)
   (hl : (l, W.listOf #[.ref P1, .ref P2] kl) ∈ news) (hP1 : (P1, tupI 0 1 t1 t2 k1) ∈ news) (hP2 : (P2, tupI 1 1 t3 t4 k2) ∈ news) (hTa : (Ta, tupB na ya t5 t6 k3) ∈ news) (hTb : (Tb, tupB nb yb t7 t8 k4) ∈ news) :
   ConG prog w (KF w.params) 2 16 (call (.ref 84) [.ref x, .ref Ta, .ref Tb]) news (fun P => ∀ t, P (.int (cmpZ na nb ya yb) t) news) :=
  fun p loose mean mg mb dp un gd cn cs a ccd cl outer A₀ base h₀ L m s Q E B F X N T hk hd hu ret => c_compare prog w news x dx l P1 P2 Ta Tb tk t1 t2 t3 t4 t5 t6 t7 t8 kl k1 k2 k3 k4 na nb ya yb hx hdx hl hP1 hP2 hTa hTb p loose mean mg mb dp un gd cn cs a ccd cl outer A₀ base h₀ L m s Q E B F X N T hk hd hu fun r h' tk' nw F' N' ⟨e, t, e2⟩ => by subst e; subst e2; exact ret t h' tk' F' N'
/-- xs[i] of a list, whatever its items are -/
theorem r_itemG {α : Type} {Is : α → Value → Prop} {prog : Program} {w : World} {A : Around} {E : Value → Shared → Prop} {s : Shared} {h₀ : Heap} {L d : Addr} {news : List (Addr × Obj)} {value slice : Expr} {vs : List Value} {xs : List α} {k : Nat} {i : Int} {u : Tok} {a : α} {Q : Value → Shared → Prop} (N : News h₀ L s.heap news) (hm : (d, W.listOf vs.toArray k) ∈ news) (hvs : Are Is vs xs) (h0 : 0 ≤ i) (hi : i < 1000000) (hx : xs[i.toNat]? = some a)
    (q : ∀ v, Is a v → Q v s)
    (hs : subscripted slice false (.ref d) (.int i u) = operate [.ref d, .int i u] (getItem (.ref d) (.int i u)) := by with_unfolding_all rfl) (hg : ∀ r, letTemporaryGo value (.ref d) r = pure () := by intro _; with_unfolding_all rfl) :
    wpAny (model prog w) A (subscriptTail value slice (.ref d) (.int i u)) Q E s := by
  obtain ⟨v, hv, h⟩ := hvs.get _ _ hx
  exact r_item N hm h0 (by omega) hv (q v h) hs hg
theorem r_itemRow {led : List (Addr × Obj)} {prog : Program} {w : World} {A : Around} {E : Value → Shared → Prop} {s : Shared} {h₀ : Heap} {L d : Addr} {news : List (Addr × Obj)} {value slice : Expr} {vs : List Value} {xs : List Str} {k : Nat} {i : Int} {u : Tok} {a : Str} {Q : Value → Shared → Prop} (N : News h₀ L s.heap news) (hm : (d, W.listOf vs.toArray k) ∈ news) (hvs : Are (IsRow led) vs xs) (h0 : 0 ≤ i) (hi : i < 1000000) (hx : xs[i.toNat]? = some a)
    (q : ∀ D t u k, (D, tupB (a.length : Nat) a t u k) ∈ led → Q (.ref D) s)
    (hs : subscripted slice false (.ref d) (.int i u) = operate [.ref d, .int i u] (getItem (.ref d) (.int i u)) := by with_unfolding_all rfl) (hg : ∀ r, letTemporaryGo value (.ref d) r = pure () := by intro _; with_unfolding_all rfl) :
    wpAny (model prog w) A (subscriptTail value slice (.ref d) (.int i u)) Q E s :=
  r_itemG N hm hvs h0 hi hx (fun v h => by obtain ⟨D, t, u, k, rfl, hm⟩ := h; exact q D t u k hm) hs hg
theorem ne_nil {prog : Program} {w : World} {A : Around} {E : Value → Shared → Prop} {s : Shared} {h₀ : Heap} {L : Addr} {news : List (Addr × Obj)} {a b : Addr} {k k' : Nat} {Q : Value → Shared → Prop} (N : News h₀ L s.heap news) (ha : (a, W.listOf #[] k) ∈ news) (hb : (b, W.listOf #[] k') ∈ news) (hu : A.units + 64 < cLine) (h : Q (.bool false) s) :
    wpAny (model prog w) A (compareOp .NotEq (.ref a) (.ref b)) Q E s :=
  ne_strs (xs := []) (ys := []) (ns := []) (News.isList N ha) (News.isList N hb) .nil .nil rfl hu h
theorem are_none {α β : Type} {Is : β → Value → Prop} {ys : List Value} {xs : List α} {g : α → β} (h : Are Is ys ((xs.filter fun _ => false).map g)) : ys = [] := by
  rw [List.filter_eq_nil_iff.mpr (fun _ _ => by decide)] at h
  cases h; rfl
theorem fmod2 (c : Int) : 0 ≤ c.fmod 2 ∧ c.fmod 2 < 2 := ⟨Int.fmod_nonneg_of_pos c (by decide), Int.fmod_lt_of_pos c (by decide)⟩
section
variable {prog : Program} {w : World} {h₀ : Heap} {L : Addr} {m : Str → Option Value} {nw : List (Addr × Obj)} {s : Shared} {Q : Flow → Shared → Prop} {E : Value → Shared → Prop} {p : Program} {loose : List Str} {mean : ExcName → Option Value} {mg mb : Str → Option Value}
set_option maxRecDepth 100000 in
set_option maxHeartbeats 4000000 in
theorem s_ask2 (B' : Below callerA h₀ [] h₀) (X : (KF w.params).In h₀) (T : Top p loose mean mg mb h₀) (F : Fr h₀ L s.heap m) {o9 o10 : Obj} (N : News h₀ L s.heap nw)
  {OX RD : Addr} {ys : List Value} {ts : List Str} {k : Nat} (e9 : (L + 9, o9) ∈ nw) (d9 : o9.data = .cell (some (.ref OX))) (hO : IsOrder w nw OX)
  (e10 : (L + 10, o10) ∈ nw) (d10 : o10.data = .cell (some (.ref RD))) (hR : (RD, W.listOf ys.toArray k) ∈ nw) (hrows : Are (IsRow nw) ys ts) (htl : ts.length ≤ 500) (ht1 : 1 ≤ ts.length)
  (hcmp : ∀ c : Int, 1 ≤ c → c < ts.length → ∃ ya yb, ts[(c - c.fmod 2).toNat]? = some ya ∧ ts[(c - 1 + c.fmod 2).toNat]? = some yb ∧ cmpZ ya.length yb.length ya yb = 1 - c.fmod 2 * 2)
  (q : ∀ h' tk', Fr h₀ L h' m → News h₀ L h' nw → Q .next { s with heap := h', toks := tk' }) :
  wpAny (model prog w) (lawA w L) (exec (st w 14) (lawEnv w L)) Q E s := by
  (with_unfolding_all change wpAny (model _ _) (callerA.deeper (envOfC (Str.ofString "law") (Scope.mk _ _ _ _ _) _ 158 (.ref 157))) (exec (.If _ _ _ _) (envOfC (Str.ofString "law") (Scope.mk _ _ _ _ _) _ 158 (.ref 157))) _ _ _)
  obtain ⟨dx, l, P1, P2, tk, t1, t2, t3, t4, kl, k1, k2, hO1, hO2, hO3, hO4, hO5⟩ := hO
  have hyl : ys.length = ts.length := hrows.length
  (repeat' first | with_reducible (k_here; (with_reducible show wpAny _ _ (compareOp CmpOp.NotEq (Value.ref _) (Value.ref _)) _ _ _); k_dflt ((try dsimp only); refine' ne_nil ?N ?a ?b ?u ?_; (case N => k_asm); (case a => k_mem); (case b => k_mem); (case u => exact Nat.le_of_ble_eq_true rfl))) | with_reducible (k_here; (with_reducible show wpAny _ _ (call (Value.ref 84) _) _ _ _); k_dflt (refine' conG_use (c_compareG _ _ _ _ _ _ _ _ _ _ _ _ _ _ _ _ _ _ _ _ _ _ _ _ _ _ _ _ ?a ?b ?c ?d ?e ?f ?g) ?k1 ?k2 ?k3 ?k4 ?k5 ?kK ?kd ?ku ?_; (case k1 => k_asm); (case k2 => k_asm); (case k3 => k_asm); (case k4 => k_asm); (case k5 => k_asm); (case kK => exact rfl); (case kd => ktr_room); (case ku => ktr_units); (case a => k_mem); (case b => k_mem); (case c => k_mem); (case d => k_mem); (case e => k_mem); (case f => k_mem); (case g => k_mem)); intro _ _ _ _ _) | with_reducible (k_here; (with_reducible show wpAny _ _ (subscriptTail _ _ (Value.ref _) (Value.int _ _)) _ _ _); k_dflt (refine' r_itemRow ?N ?m ?v ?a ?b ?x ?_; (case N => k_asm); (case m => k_mem); (case v => assumption); (case x => with_reducible assumption); (case a => omega); (case b => omega)); (intro _ _ _ _ _)) | with_reducible ((with_reducible show wpAny _ _ (eval (Expr.ListComp _ [⟨_, _, [_], _⟩] _ _) _) _ _ _); k_dflt (refine listCompT (by k_asm) (by rfl) (by decide) (by rfl) (by decide) (by rfl) ?_)) | with_reducible ((with_reducible show wpAny _ _ (call (Value.builtin "len") [Value.ref _]) _ _ _); k_dflt (refine' r_len ?N ?m ?z ?_; (case N => k_asm); (case m => k_mem); (case z => first | assumption | omega))) | (walk_at "STEP" <;> (try dsimp only)))
  rename_i h5 tk5 r1 r2 r3 hr F5 N5 _
  refine compRangeT (k := ts.length - 1) (fun _ => false) id (Out := IsInt) rfl F5 N5 hr (a := 1) (b := ((ys.length : Nat) : Int)) (rsmall (by decide) (by omega) (by decide) (by omega)) (rsize (ts.length - 1) (by omega)) (by omega) ?_ ?_
  · intro c tc I oI C oC D m2 h6 tk6 E6 ys6 hmem hC hx F6 N6
    clear F5 N5 hr q
    have hj := rangeKs_mem hmem
    have hf := fmod2 c
    obtain ⟨ya, yb, h1, h2, h3⟩ := hcmp c hj.1 (by omega)
    (repeat' first | with_reducible (k_here; (with_reducible show wpAny _ _ (compareOp CmpOp.NotEq (Value.ref _) (Value.ref _)) _ _ _); k_dflt ((try dsimp only); refine' ne_nil ?N ?a ?b ?u ?_; (case N => k_asm); (case a => k_mem); (case b => k_mem); (case u => exact Nat.le_of_ble_eq_true rfl))) | with_reducible (k_here; (with_reducible show wpAny _ _ (call (Value.ref 84) _) _ _ _); k_dflt (refine' conG_use (c_compareG _ _ _ _ _ _ _ _ _ _ _ _ _ _ _ _ _ _ _ _ _ _ _ _ _ _ _ _ ?a ?b ?c ?d ?e ?f ?g) ?k1 ?k2 ?k3 ?k4 ?k5 ?kK ?kd ?ku ?_; (case k1 => k_asm); (case k2 => k_asm); (case k3 => k_asm); (case k4 => k_asm); (case k5 => k_asm); (case kK => exact rfl); (case kd => ktr_room); (case ku => ktr_units); (case a => k_mem); (case b => k_mem); (case c => k_mem); (case d => k_mem); (case e => k_mem); (case f => k_mem); (case g => k_mem)); intro _ _ _ _ _) | with_reducible (k_here; (with_reducible show wpAny _ _ (subscriptTail _ _ (Value.ref _) (Value.int _ _)) _ _ _); k_dflt (refine' r_itemRow ?N ?m ?v ?a ?b ?x ?_; (case N => k_asm); (case m => k_mem); (case v => assumption); (case x => with_reducible assumption); (case a => omega); (case b => omega)); (intro _ _ _ _ _)) | with_reducible ((with_reducible show wpAny _ _ (eval (Expr.ListComp _ [⟨_, _, [_], _⟩] _ _) _) _ _ _); k_dflt (refine listCompT (by k_asm) (by rfl) (by decide) (by rfl) (by decide) (by rfl) ?_)) | with_reducible ((with_reducible show wpAny _ _ (call (Value.builtin "len") [Value.ref _]) _ _ _); k_dflt (refine' r_len ?N ?m ?z ?_; (case N => k_asm); (case m => k_mem); (case z => first | assumption | omega))) | (walk_at "STEP" <;> (try dsimp only)))
    · exact absurd h3 (by assumption)
    · rename Fr h₀ L _ _ => F8
      rename News h₀ L _ _ => N8
      exact eltEnd F8 N8 subs_refl rfl
  · intro hp ys6 hys6 D h tk F7 N7 o1
    have e6 := are_none hys6
    subst e6
    have N8 : News h₀ L h ((D, W.listOf #[] 0) :: nw) := N7
    clear F5 N5 hr N7
    (try dsimp only)
    (repeat' first | with_reducible (k_here; (with_reducible show wpAny _ _ (compareOp CmpOp.NotEq (Value.ref _) (Value.ref _)) _ _ _); k_dflt ((try dsimp only); refine' ne_nil ?N ?a ?b ?u ?_; (case N => k_asm); (case a => k_mem); (case b => k_mem); (case u => exact Nat.le_of_ble_eq_true rfl))) | with_reducible (k_here; (with_reducible show wpAny _ _ (call (Value.ref 84) _) _ _ _); k_dflt (refine' conG_use (c_compareG _ _ _ _ _ _ _ _ _ _ _ _ _ _ _ _ _ _ _ _ _ _ _ _ _ _ _ _ ?a ?b ?c ?d ?e ?f ?g) ?k1 ?k2 ?k3 ?k4 ?k5 ?kK ?kd ?ku ?_; (case k1 => k_asm); (case k2 => k_asm); (case k3 => k_asm); (case k4 => k_asm); (case k5 => k_asm); (case kK => exact rfl); (case kd => ktr_room); (case ku => ktr_units); (case a => k_mem); (case b => k_mem); (case c => k_mem); (case d => k_mem); (case e => k_mem); (case f => k_mem); (case g => k_mem)); intro _ _ _ _ _) | with_reducible (k_here; (with_reducible show wpAny _ _ (subscriptTail _ _ (Value.ref _) (Value.int _ _)) _ _ _); k_dflt (refine' r_itemRow ?N ?m ?v ?a ?b ?x ?_; (case N => k_asm); (case m => k_mem); (case v => assumption); (case x => with_reducible assumption); (case a => omega); (case b => omega)); (intro _ _ _ _ _)) | with_reducible ((with_reducible show wpAny _ _ (eval (Expr.ListComp _ [⟨_, _, [_], _⟩] _ _) _) _ _ _); k_dflt (refine listCompT (by k_asm) (by rfl) (by decide) (by rfl) (by decide) (by rfl) ?_)) | with_reducible ((with_reducible show wpAny _ _ (call (Value.builtin "len") [Value.ref _]) _ _ _); k_dflt (refine' r_len ?N ?m ?z ?_; (case N => k_asm); (case m => k_mem); (case z => first | assumption | omega))) | (walk_at "STEP" <;> (try dsimp only)))
    rename Fr h₀ L _ _ => F9
    rename News h₀ L _ _ => N9
    exact q _ _ F9 (cb_drop N9 (by lcg_sub))
end
end
section
-- S15
noncomputable def IsBo (b : Bool) (v : Value) : Prop := v = .bool b
/-- what _ellipsis_match answers by a pattern, as a function -/
noncomputable def EllOK (want : Str) (f : Str → Bool) : Prop := want.length ≤ 1000 ∧ (((Builtin.Str.occurrences want "..." 0 want.length 1).isEmpty = true ∧ ∀ y, f y = (want == y)) ∨
  ∃ w0 wl mid, Txt.split want "..." = w0 :: (mid ++ [wl]) ∧ (Builtin.Str.occurrences want "..." 0 want.length 1).isEmpty = false ∧ mid.length ≤ 1000 ∧ w0.length ≤ 1000 ∧ wl.length ≤ 1000 ∧ (∀ y ∈ mid, y.length ≤ 1000) ∧ ∀ y, f y = ellM y w0 mid wl)
theorem c_ellG (prog : Program) (w : World) (news : List (Addr × Obj)) (want got : Str) (t1 t2 : Tok) (f : Str → Bool) (hf : EllOK want f) (hg : got.length ≤ 1000) :
   ConG prog w (KF w.params) 1 8 (call (.ref 21) [.str want t1, .str got t2]) news (fun P => P (.bool (f got)) news) := by
  obtain ⟨hw, ⟨hc, hf⟩ | ⟨w0, wl, mid, hs, hc, h1, h2, h3, h4, hf⟩⟩ := hf
  · intro p loose mean mg mb dp un gd cn cs a ccd cl outer A₀ base h₀ L m s Q E B F X N T hk hd hu ret
    exact c_ell0 prog w news want got t1 t2 hc p loose mean mg mb dp un gd cn cs a ccd cl outer A₀ base h₀ L m s Q E B F X N T hk hd hu fun r h' tk' nw F' N' ⟨e, e2⟩ => by subst e; subst e2; rw [← hf]; exact ret h' tk' F' N'
  · intro p loose mean mg mb dp un gd cn cs a ccd cl outer A₀ base h₀ L m s Q E B F X N T hk hd hu ret
    exact c_ell1 prog w news want got w0 wl mid t1 t2 hw hg hs hc h1 h2 h3 h4 p loose mean mg mb dp un gd cn cs a ccd cl outer A₀ base h₀ L m s Q E B F X N T hk hd hu fun r h' tk' nw F' N' ⟨e, e2⟩ => by subst e; subst e2; rw [← hf]; exact ret h' tk' F' N'
section
variable {prog : Program} {w : World} {h₀ : Heap} {L : Addr} {m : Str → Option Value} {nw : List (Addr × Obj)} {s : Shared} {Q : Flow → Shared → Prop} {E : Value → Shared → Prop} {p : Program} {loose : List Str} {mean : ExcName → Option Value} {mg mb : Str → Option Value}
set_option maxRecDepth 100000 in
set_option maxHeartbeats 4000000 in
theorem s_answers (B' : Below callerA h₀ [] h₀) (X : (KF w.params).In h₀) (T : Top p loose mean mg mb h₀) (F : Fr h₀ L s.heap m) {o6 o8 o11 : Obj} (N : News h₀ L s.heap ((L + 11, o11) :: nw)) (d : o11.data = .cell none) (hne : ∀ p ∈ nw, p.1 ≠ L + 11)
  {TD : Addr} {us : List Value} {ts : List Str} {k : Nat} {e9 pat : Str} {tp : Tok} {f : Str → Bool}
  (e6 : (L + 6, o6) ∈ nw) (d6 : o6.data = .cell (some (.str pat tp))) (hf : EllOK pat f)
  (e8 : (L + 8, o8) ∈ nw) (d8 : o8.data = .cell (some (.ref TD))) (hT : (TD, W.listOf us.toArray k) ∈ nw) (hu : Are IsStr us (ts ++ [e9])) (hul : ts.length ≤ 500) (hty : ∀ y ∈ ts, y.length ≤ 1000)
  (q : ∀ h' tk' o11' (D : Addr) ys, o11'.data = .cell (some (.ref D)) → Are IsBo ys (ts.map f) → (∀ p ∈ nw, @Ne Nat p.1 D) → (∀ p ∈ (D, LCg.lst ys) :: nw, p.1 ≠ L + 11) → Fr h₀ L h' m → News h₀ L h' ((L + 11, o11') :: (D, LCg.lst ys) :: nw) → Q .next { s with heap := h', toks := tk' }) :
  wpAny (model prog w) (lawA w L) (exec (st w 15) (lawEnv w L)) Q E s := by
  (with_unfolding_all change wpAny (model _ _) (callerA.deeper (envOfC (Str.ofString "law") (Scope.mk _ _ _ _ _) _ 158 (.ref 157))) (exec (.Assign _ _ _) (envOfC (Str.ofString "law") (Scope.mk _ _ _ _ _) _ 158 (.ref 157))) _ _ _)
  (repeat' first | with_reducible (k_here; (with_reducible show wpAny _ _ (call (Value.ref 21) _) _ _ _); k_dflt (refine' conG_use (c_ellG _ _ _ _ _ _ _ _ ?a ?b) ?k1 ?k2 ?k3 ?k4 ?k5 ?kK ?kd ?ku ?_; (case k1 => k_asm); (case k2 => k_asm); (case k3 => k_asm); (case k4 => k_asm); (case k5 => k_asm); (case kK => exact rfl); (case kd => ktr_room); (case ku => ktr_units); (case a => assumption); (case b => assumption)); intro _ _ _ _) | with_reducible ((with_reducible show wpAny _ _ (eval (Expr.ListComp _ [⟨_, _, [], _⟩] _ _) _) _ _ _); k_dflt (refine listComp (by k_asm) (by rfl) (by decide) (by rfl) (by decide) (by rfl) ?_)) | walk_at "STEP")
  k_dflt (refine' r_slice ?F ?N ?m hu ?p ?q ?z ?_; (case F => k_asm); (case N => k_asm); (case m => k_mem); (case p => kmk_part); (case q => kmk_part); (case z => (rw [List.length_append]; show _ + 1 ≤ _; lia)))
  intro D1 us1 h1 hu1 hlt1 F1 N1
  rw [pick_init] at hu1
  (try dsimp only)
  refine compList (Is := IsStr) (Out := IsBo) f rfl F1 N1 (.head _) hu1 (Nat.le_trans hul (by decide)) ?_ ?_
  · intro c v I oI C oC D m2 h tk E' ys hmem hIs hC hx F2 N2
    clear q N F F1 N1
    obtain ⟨t, rfl⟩ := hIs
    have hcl := hty c hmem
    (repeat' first | with_reducible (k_here; (with_reducible show wpAny _ _ (call (Value.ref 21) _) _ _ _); k_dflt (refine' conG_use (c_ellG _ _ _ _ _ _ _ _ ?a ?b) ?k1 ?k2 ?k3 ?k4 ?k5 ?kK ?kd ?ku ?_; (case k1 => k_asm); (case k2 => k_asm); (case k3 => k_asm); (case k4 => k_asm); (case k5 => k_asm); (case kK => exact rfl); (case kd => ktr_room); (case ku => ktr_units); (case a => assumption); (case b => assumption)); intro _ _ _ _) | with_reducible ((with_reducible show wpAny _ _ (eval (Expr.ListComp _ [⟨_, _, [], _⟩] _ _) _) _ _ _); k_dflt (refine listComp (by k_asm) (by rfl) (by decide) (by rfl) (by decide) (by rfl) ?_)) | walk_at "STEP")
    rename Fr h₀ L _ _ => F3
    rename News h₀ L _ _ => N3
    exact eltEnd F3 N3 subs_refl rfl
  · intro hp ys hys D h tk F2 N2 o1
    have N3 : News h₀ L h ((L + 11, o11) :: (D, LCg.lst ys) :: nw) := cb_drop N2 (by lcg_sub)
    have off := Off1.all o1
    have hne3 : ∀ p ∈ (D, LCg.lst ys) :: nw, p.1 ≠ L + 11 := List.forall_mem_cons.mpr ⟨Ne.symm (off _ (.tail _ (.head _))), hne⟩
    have hD3 : ∀ p ∈ nw, @Ne Nat p.1 D := fun p hp => off p (.tail _ (.tail _ hp))
    clear N2 F N F1 N1
    (repeat' first | with_reducible (k_here; (with_reducible show wpAny _ _ (call (Value.ref 21) _) _ _ _); k_dflt (refine' conG_use (c_ellG _ _ _ _ _ _ _ _ ?a ?b) ?k1 ?k2 ?k3 ?k4 ?k5 ?kK ?kd ?ku ?_; (case k1 => k_asm); (case k2 => k_asm); (case k3 => k_asm); (case k4 => k_asm); (case k5 => k_asm); (case kK => exact rfl); (case kd => ktr_room); (case ku => ktr_units); (case a => assumption); (case b => assumption)); intro _ _ _ _) | with_reducible ((with_reducible show wpAny _ _ (eval (Expr.ListComp _ [⟨_, _, [], _⟩] _ _) _) _ _ _); k_dflt (refine listComp (by k_asm) (by rfl) (by decide) (by rfl) (by decide) (by rfl) ?_)) | walk_at "STEP")
    rename_i o3 F3 N3 d3
    exact q _ _ o3 D ys d3 hys hD3 hne3 F3 (by k_asm)
end
end
section
-- S16
section
variable {prog : Program} {w : World} {h₀ : Heap} {L : Addr} {m : Str → Option Value} {nw : List (Addr × Obj)} {s : Shared} {Q : Flow → Shared → Prop} {E : Value → Shared → Prop} {p : Program} {loose : List Str} {mean : ExcName → Option Value} {mg mb : Str → Option Value}
set_option maxRecDepth 100000 in
set_option maxHeartbeats 4000000 in
theorem s_ask3 (B' : Below callerA h₀ [] h₀) (X : (KF w.params).In h₀) (T : Top p loose mean mg mb h₀) (F : Fr h₀ L s.heap m) {o11 : Obj} (N : News h₀ L s.heap nw)
  {AD : Addr} {ys : List Value} {bs : List Bool} {k : Nat} (e11 : (L + 11, o11) ∈ nw) (d11 : o11.data = .cell (some (.ref AD))) (hA : (AD, W.listOf ys.toArray k) ∈ nw) (hb : Are IsBo ys bs) (hbl : bs.length ≤ 500)
  (q : ∀ h' tk', Fr h₀ L h' m → News h₀ L h' nw → Q .next { s with heap := h', toks := tk' }) :
  wpAny (model prog w) (lawA w L) (exec (st w 16) (lawEnv w L)) Q E s := by
  (with_unfolding_all change wpAny (model _ _) (callerA.deeper (envOfC (Str.ofString "law") (Scope.mk _ _ _ _ _) _ 158 (.ref 157))) (exec (.If _ _ _ _) (envOfC (Str.ofString "law") (Scope.mk _ _ _ _ _) _ 158 (.ref 157))) _ _ _)
  (repeat' first | with_reducible (k_here; (with_reducible show wpAny _ _ (compareOp CmpOp.NotEq (Value.ref _) (Value.ref _)) _ _ _); k_dflt ((try dsimp only); refine' ne_nil ?N ?a ?b ?u ?_; (case N => k_asm); (case a => k_mem); (case b => k_mem); (case u => exact Nat.le_of_ble_eq_true rfl))) | with_reducible ((with_reducible show wpAny _ _ (eval (Expr.ListComp _ [⟨_, _, [_], _⟩] _ _) _) _ _ _); k_dflt (refine listCompT (by k_asm) (by rfl) (by decide) (by rfl) (by decide) (by rfl) ?_)) | walk_at "STEP")
  rename Fr h₀ L _ _ => F1
  rename News h₀ L _ _ => N1
  refine compListT (Is := IsBo) (xs := bs) (fun _ => false) id (Out := IsBo) rfl F1 N1 hA hb (Nat.le_trans hbl (by decide)) ?_ ?_
  · intro c v I oI C oC D m2 h tk E' ys6 hmem hIs hC hx F2 N2
    clear q F1 N1
    cases hIs
    cases c
    · (repeat' first | with_reducible (k_here; (with_reducible show wpAny _ _ (compareOp CmpOp.NotEq (Value.ref _) (Value.ref _)) _ _ _); k_dflt ((try dsimp only); refine' ne_nil ?N ?a ?b ?u ?_; (case N => k_asm); (case a => k_mem); (case b => k_mem); (case u => exact Nat.le_of_ble_eq_true rfl))) | with_reducible ((with_reducible show wpAny _ _ (eval (Expr.ListComp _ [⟨_, _, [_], _⟩] _ _) _) _ _ _); k_dflt (refine listCompT (by k_asm) (by rfl) (by decide) (by rfl) (by decide) (by rfl) ?_)) | walk_at "STEP")
      rename Fr h₀ L _ _ => F8
      rename News h₀ L _ _ => N8
      exact eltEnd F8 N8 subs_refl rfl
    · (repeat' first | with_reducible (k_here; (with_reducible show wpAny _ _ (compareOp CmpOp.NotEq (Value.ref _) (Value.ref _)) _ _ _); k_dflt ((try dsimp only); refine' ne_nil ?N ?a ?b ?u ?_; (case N => k_asm); (case a => k_mem); (case b => k_mem); (case u => exact Nat.le_of_ble_eq_true rfl))) | with_reducible ((with_reducible show wpAny _ _ (eval (Expr.ListComp _ [⟨_, _, [_], _⟩] _ _) _) _ _ _); k_dflt (refine listCompT (by k_asm) (by rfl) (by decide) (by rfl) (by decide) (by rfl) ?_)) | walk_at "STEP")
      rename Fr h₀ L _ _ => F8
      rename News h₀ L _ _ => N8
      exact eltEnd F8 N8 subs_refl rfl
  · intro hp ys6 hys6 D h tk F7 N7 o1
    have e6 := are_none hys6
    subst e6
    have N8 : News h₀ L h ((D, W.listOf #[] 0) :: nw) := N7
    clear N7 F1 N1
    (repeat' first | with_reducible (k_here; (with_reducible show wpAny _ _ (compareOp CmpOp.NotEq (Value.ref _) (Value.ref _)) _ _ _); k_dflt ((try dsimp only); refine' ne_nil ?N ?a ?b ?u ?_; (case N => k_asm); (case a => k_mem); (case b => k_mem); (case u => exact Nat.le_of_ble_eq_true rfl))) | with_reducible ((with_reducible show wpAny _ _ (eval (Expr.ListComp _ [⟨_, _, [_], _⟩] _ _) _) _ _ _); k_dflt (refine listCompT (by k_asm) (by rfl) (by decide) (by rfl) (by decide) (by rfl) ?_)) | walk_at "STEP")
    rename Fr h₀ L _ _ => F9
    rename News h₀ L _ _ => N9
    exact q _ _ F9 (cb_drop N9 (by lcg_sub))
end
end
section
-- S17
theorem nth_at {ts : List Str} {c : Int} {e9 : Str} (h0 : 0 ≤ c) (h1 : c < ts.length) : (ts ++ [e9])[c.toNat]? = some (nth ts c) := by
  have h : c.toNat < ts.length := by lia
  rw [List.getElem?_append_left h]
  unfold nth
  rw [List.getElem?_eq_getElem h]; rfl
theorem nth_map {ts : List Str} {c : Int} {f : Str → Bool} (h0 : 0 ≤ c) (h1 : c < ts.length) : (ts.map f)[c.toNat]? = some (f (nth ts c)) := by
  have h : c.toNat < ts.length := by lia
  rw [List.getElem?_map]
  unfold nth
  rw [List.getElem?_eq_getElem h]; rfl
theorem filter_nth (ts : List Str) (f : Str → Bool) : ((rangeKs 0 ts.length).filter fun c => f (nth ts c)).map (nth ts) = ts.filter f := by
  have h1 : (rangeKs 0 ts.length).map (nth ts) = ts := by
    refine List.ext_getElem? fun i => ?_
    unfold rangeKs
    rw [List.map_map, List.getElem?_map]
    by_cases h : i < ts.length
    · rw [List.getElem?_range h]
      simp only [Option.map_some, Function.comp, nth, Int.zero_add, Int.toNat_natCast]
      rw [List.getElem?_eq_getElem h]; rfl
    · rw [List.getElem?_eq_none (by simpa using h), List.getElem?_eq_none (by lia)]; rfl
  conv => rhs; rw [← h1]
  rw [List.filter_map]; rfl
theorem r_itemB {prog : Program} {w : World} {A : Around} {E : Value → Shared → Prop} {s : Shared} {h₀ : Heap} {L d : Addr} {news : List (Addr × Obj)} {value slice : Expr} {vs : List Value} {xs : List Bool} {k : Nat} {i : Int} {u : Tok} {a : Bool} {Q : Value → Shared → Prop} (N : News h₀ L s.heap news) (hm : (d, W.listOf vs.toArray k) ∈ news) (hvs : Are IsBo vs xs) (h0 : 0 ≤ i) (hi : i < 1000000) (hx : xs[i.toNat]? = some a)
    (q : Q (.bool a) s)
    (hs : subscripted slice false (.ref d) (.int i u) = operate [.ref d, .int i u] (getItem (.ref d) (.int i u)) := by with_unfolding_all rfl) (hg : ∀ r, letTemporaryGo value (.ref d) r = pure () := by intro _; with_unfolding_all rfl) :
    wpAny (model prog w) A (subscriptTail value slice (.ref d) (.int i u)) Q E s :=
  r_itemG N hm hvs h0 hi hx (fun v h => by cases h; exact q) hs hg
theorem r_itemS2 {prog : Program} {w : World} {A : Around} {E : Value → Shared → Prop} {s : Shared} {h₀ : Heap} {L d : Addr} {news : List (Addr × Obj)} {value slice : Expr} {vs : List Value} {xs : List Str} {k : Nat} {i : Int} {u : Tok} {a : Str} {Q : Value → Shared → Prop} (N : News h₀ L s.heap news) (hm : (d, W.listOf vs.toArray k) ∈ news) (hvs : Are IsStr vs xs) (h0 : 0 ≤ i) (hi : i < 1000000) (hx : xs[i.toNat]? = some a)
    (q : ∀ t, Q (.str a t) s)
    (hs : subscripted slice false (.ref d) (.int i u) = operate [.ref d, .int i u] (getItem (.ref d) (.int i u)) := by with_unfolding_all rfl) (hg : ∀ r, letTemporaryGo value (.ref d) r = pure () := by intro _; with_unfolding_all rfl) :
    wpAny (model prog w) A (subscriptTail value slice (.ref d) (.int i u)) Q E s :=
  r_itemG N hm hvs h0 hi hx (fun v h => by obtain ⟨t, rfl⟩ := h; exact q t) hs hg
section
variable {prog : Program} {w : World} {h₀ : Heap} {L : Addr} {m : Str → Option Value} {nw : List (Addr × Obj)} {s : Shared} {Q : Flow → Shared → Prop} {E : Value → Shared → Prop} {p : Program} {loose : List Str} {mean : ExcName → Option Value} {mg mb : Str → Option Value}
set_option maxRecDepth 100000 in
set_option maxHeartbeats 4000000 in
theorem s_taken (B' : Below callerA h₀ [] h₀) (X : (KF w.params).In h₀) (T : Top p loose mean mg mb h₀) (F : Fr h₀ L s.heap m) {o8 o11 : Obj} (N : News h₀ L s.heap nw)
  {TD AD : Addr} {us ys : List Value} {ts : List Str} {k k2 : Nat} {e9 : Str} {f : Str → Bool}
  (e8 : (L + 8, o8) ∈ nw) (d8 : o8.data = .cell (some (.ref TD))) (hT : (TD, W.listOf us.toArray k) ∈ nw) (hu : Are IsStr us (ts ++ [e9])) (hul : ts.length ≤ 500)
  (e11 : (L + 11, o11) ∈ nw) (d11 : o11.data = .cell (some (.ref AD))) (hA : (AD, W.listOf ys.toArray k2) ∈ nw) (hb : Are IsBo ys (ts.map f))
  (q : ∀ h' tk' (D : Addr) zs, Are IsStr zs (ts.filter f) → (∀ p ∈ nw, @Ne Nat p.1 D) → Fr h₀ L h' (fun y => if y = Str.ofString "taken" then some (.ref D) else m y) → News h₀ L h' ((D, LCg.lst zs) :: nw) → Q .next { s with heap := h', toks := tk' }) :
  wpAny (model prog w) (lawA w L) (exec (st w 17) (lawEnv w L)) Q E s := by
  (with_unfolding_all change wpAny (model _ _) (callerA.deeper (envOfC (Str.ofString "law") (Scope.mk _ _ _ _ _) _ 158 (.ref 157))) (exec (.Assign _ _ _) (envOfC (Str.ofString "law") (Scope.mk _ _ _ _ _) _ 158 (.ref 157))) _ _ _)
  have hyl : ys.length = ts.length := by rw [hb.length, List.length_map]
  (repeat' first | with_reducible (k_here; (with_reducible show wpAny _ _ (subscriptTail _ _ (Value.ref _) (Value.int _ _)) _ _ _); k_dflt (first | (refine' r_itemB ?N ?m ?v ?a ?b ?x ?_; (case N => k_asm); (case m => k_mem); (case v => with_reducible assumption); (case x => with_reducible assumption); (case a => lia); (case b => lia)) | (refine' r_itemS2 ?N ?m ?v ?a ?b ?x ?_; (case N => k_asm); (case m => k_mem); (case v => with_reducible assumption); (case x => with_reducible assumption); (case a => lia); (case b => lia); intro _))) | with_reducible ((with_reducible show wpAny _ _ (exec (Stmt.Assign [Expr.Name _ _] (Expr.ListComp _ [⟨_, _, [_], _⟩] _ _) _) _) _ _ _); k_dflt (refine listCompTA (by k_asm) (by rfl) (by rfl) (by rfl) (by decide) (by rfl) (by decide) (by rfl) (by rfl) (by rfl) ?_)) | with_reducible ((with_reducible show wpAny _ _ (call (Value.builtin "len") [Value.ref _]) _ _ _); k_dflt (refine' r_len ?N ?m ?z ?_; (case N => k_asm); (case m => k_mem); (case z => first | assumption | omega))) | walk_at "STEP")
  rename_i h5 tk5 r1 r2 r3 hr F5 N5 _
  refine compRangeT (k := ts.length) (fun c => f (nth ts c)) (nth ts) (Out := IsStr) rfl F5 N5 hr (a := 0) (b := ((ys.length : Nat) : Int)) (rsmall (by decide) (by lia) (by decide) (by lia)) (rsize ts.length (by lia)) (by lia) ?_ ?_
  · intro c tc I oI C oC D m2 h6 tk6 E6 ys6 hmem hC hx F6 N6
    clear F5 N5 hr q
    have hj := rangeKs_mem hmem
    have hc2 : c < ts.length := by lia
    have hx1 := nth_at (e9 := e9) hj.1 hc2
    have hx2 := nth_map (f := f) hj.1 hc2
    (repeat' first | with_reducible (k_here; (with_reducible show wpAny _ _ (subscriptTail _ _ (Value.ref _) (Value.int _ _)) _ _ _); k_dflt (first | (refine' r_itemB ?N ?m ?v ?a ?b ?x ?_; (case N => k_asm); (case m => k_mem); (case v => with_reducible assumption); (case x => with_reducible assumption); (case a => lia); (case b => lia)) | (refine' r_itemS2 ?N ?m ?v ?a ?b ?x ?_; (case N => k_asm); (case m => k_mem); (case v => with_reducible assumption); (case x => with_reducible assumption); (case a => lia); (case b => lia); intro _))) | with_reducible ((with_reducible show wpAny _ _ (exec (Stmt.Assign [Expr.Name _ _] (Expr.ListComp _ [⟨_, _, [_], _⟩] _ _) _) _) _ _ _); k_dflt (refine listCompTA (by k_asm) (by rfl) (by rfl) (by rfl) (by decide) (by rfl) (by decide) (by rfl) (by rfl) (by rfl) ?_)) | with_reducible ((with_reducible show wpAny _ _ (call (Value.builtin "len") [Value.ref _]) _ _ _); k_dflt (refine' r_len ?N ?m ?z ?_; (case N => k_asm); (case m => k_mem); (case z => first | assumption | omega))) | walk_at "STEP")
    · exact eltEnd F6 N6 subs_refl ⟨by assumption, _, rfl⟩
    · exact eltEnd F6 N6 subs_refl (by assumption)
  · intro hp ys6 hys6 D h tk F7 N7 o1
    rw [filter_nth] at hys6
    exact q _ _ D ys6 hys6 (Off1.all o1) F7 N7
end
end
section
-- S18
noncomputable def frontZ (ps : List Str) (a : Int) : Str := Txt.join "" (pickL ps none (some (1 - a)))
noncomputable def backZ (ps : List Str) (b : Int) : Str := Txt.join "" (pickL ps (some ((ps.length : Nat) - 1 + b)) none)
theorem pick_mem {α : Type} {l : List α} {lo hi : Option Int} {x : α} (h : x ∈ pickL l lo hi) : x ∈ l := List.mem_of_mem_drop (List.mem_of_mem_take h)
theorem pick_len {α : Type} (l : List α) (lo hi : Option Int) : (pickL l lo hi).length ≤ l.length := by
  unfold pickL
  rw [List.length_take, List.length_drop]
  omega
section
variable {prog : Program} {w : World} {h₀ : Heap} {L : Addr} {m : Str → Option Value} {nw : List (Addr × Obj)} {s : Shared} {Q : Flow → Shared → Prop} {E : Value → Shared → Prop} {p : Program} {loose : List Str} {mean : ExcName → Option Value} {mg mb : Str → Option Value}
set_option maxRecDepth 100000 in
set_option maxHeartbeats 4000000 in
theorem s_front (B' : Below callerA h₀ [] h₀) (X : (KF w.params).In h₀) (T : Top p loose mean mg mb h₀) (F : Fr h₀ L s.heap m) {o12 : Obj} (N : News h₀ L s.heap ((L + 12, o12) :: nw)) (d : o12.data = .cell none) (hne : ∀ p ∈ nw, p.1 ≠ L + 12)
  {PD : Addr} {vs : List Value} {ps : List Str} {k : Nat} {a : Int} {ta : Tok} (hm1 : m (Str.ofString "pieces") = some (.ref PD)) (hm2 : m (Str.ofString "ahead") = some (.int a ta))
  (hP : (PD, W.listOf vs.toArray k) ∈ nw) (hvs : Are IsStr vs ps) (hpl : ps.length ≤ 3) (hpy : ∀ y ∈ ps, y.length ≤ 10) (ha : 0 ≤ a ∧ a ≤ 1)
  (q : ∀ h' tk' o12' t, o12'.data = .cell (some (.str (frontZ ps a) t)) → Fr h₀ L h' m → News h₀ L h' ((L + 12, o12') :: nw) → Q .next { s with heap := h', toks := tk' }) :
  wpAny (model prog w) (lawA w L) (exec (st w 18) (lawEnv w L)) Q E s := by
  (with_unfolding_all change wpAny (model _ _) (callerA.deeper (envOfC (Str.ofString "law") (Scope.mk _ _ _ _ _) _ 158 (.ref 157))) (exec (.Assign _ _ _) (envOfC (Str.ofString "law") (Scope.mk _ _ _ _ _) _ 158 (.ref 157))) _ _ _)
  have e := vars2 hm1 hm2
  rw [e] at F
  have hw := weight_le (ss := pickL ps none (some (1 - a))) (n := 10) fun y hy => hpy y (pick_mem hy)
  have hw2 := pick_len ps none (some (1 - a))
  (repeat' first | with_reducible ((with_reducible show wpAny _ _ (call (Value.builtin "len") [Value.ref _]) _ _ _); k_dflt (refine' r_len ?N ?m ?z ?_; (case N => k_asm); (case m => k_mem); (case z => first | assumption | omega))) | walk_at "STEP")
  k_dflt (refine' r_slice ?sF ?sN ?sm hvs ?sp ?sq ?sz ?_; (case sF => k_asm); (case sN => k_asm); (case sm => k_mem); (case sp => kmk_part); (case sq => kmk_part); (case sz => omega))
  intro D1 us1 h1 hu1 hlt1 F1 N1
  dsimp only
  (repeat' first | with_reducible ((with_reducible show wpAny _ _ (call (Value.builtin "len") [Value.ref _]) _ _ _); k_dflt (refine' r_len ?N ?m ?z ?_; (case N => k_asm); (case m => k_mem); (case z => first | assumption | omega))) | walk_at "STEP")
  k_dflt (refine' r_join N1 (.head _) (strsOf hu1) (by decide) ?b ?_; (case b => omega))
  intro t9 k9
  have N2 : News h₀ L h1 ((L + 12, o12) :: nw) := cb_drop N1 (by lcg_sub)
  clear N1
  (repeat' first | with_reducible ((with_reducible show wpAny _ _ (call (Value.builtin "len") [Value.ref _]) _ _ _); k_dflt (refine' r_len ?N ?m ?z ?_; (case N => k_asm); (case m => k_mem); (case z => first | assumption | omega))) | walk_at "STEP")
  rename_i o3 F3 N3 d3
  dsimp only
  rw [← e] at F3
  exact q _ _ o3 t9 d3 F3 (by k_asm)
set_option maxRecDepth 100000 in
set_option maxHeartbeats 4000000 in
theorem s_back (B' : Below callerA h₀ [] h₀) (X : (KF w.params).In h₀) (T : Top p loose mean mg mb h₀) (F : Fr h₀ L s.heap m) {o13 : Obj} (N : News h₀ L s.heap ((L + 13, o13) :: nw)) (d : o13.data = .cell none) (hne : ∀ p ∈ nw, p.1 ≠ L + 13)
  {PD : Addr} {vs : List Value} {ps : List Str} {k : Nat} {a : Int} {ta : Tok} (hm1 : m (Str.ofString "pieces") = some (.ref PD)) (hm2 : m (Str.ofString "behind") = some (.int a ta))
  (hP : (PD, W.listOf vs.toArray k) ∈ nw) (hvs : Are IsStr vs ps) (hpl : ps.length ≤ 3) (hpy : ∀ y ∈ ps, y.length ≤ 10) (ha : 0 ≤ a ∧ a ≤ 1)
  (q : ∀ h' tk' o13' t, o13'.data = .cell (some (.str (backZ ps a) t)) → Fr h₀ L h' m → News h₀ L h' ((L + 13, o13') :: nw) → Q .next { s with heap := h', toks := tk' }) :
  wpAny (model prog w) (lawA w L) (exec (st w 19) (lawEnv w L)) Q E s := by
  (with_unfolding_all change wpAny (model _ _) (callerA.deeper (envOfC (Str.ofString "law") (Scope.mk _ _ _ _ _) _ 158 (.ref 157))) (exec (.Assign _ _ _) (envOfC (Str.ofString "law") (Scope.mk _ _ _ _ _) _ 158 (.ref 157))) _ _ _)
  have e := vars2 hm1 hm2
  rw [e] at F
  have hw := weight_le (ss := pickL ps (some ((ps.length : Nat) - 1 + a)) none) (n := 10) fun y hy => hpy y (pick_mem hy)
  have hw2 := pick_len ps (some ((ps.length : Nat) - 1 + a)) none
  have hvl := hvs.length
  have hb : backZ ps a = Txt.join "" (pickL ps (some ((vs.length : Nat) - 1 + a)) none) := by rw [hvl]; rfl
  rw [← hvl] at hw hw2
  rw [hb] at q
  (repeat' first | with_reducible ((with_reducible show wpAny _ _ (call (Value.builtin "len") [Value.ref _]) _ _ _); k_dflt (refine' r_len ?N ?m ?z ?_; (case N => k_asm); (case m => k_mem); (case z => first | assumption | omega))) | walk_at "STEP")
  k_dflt (refine' r_slice ?sF ?sN ?sm hvs ?sp ?sq ?sz ?_; (case sF => k_asm); (case sN => k_asm); (case sm => k_mem); (case sp => kmk_part); (case sq => kmk_part); (case sz => omega))
  intro D1 us1 h1 hu1 hlt1 F1 N1
  dsimp only
  (repeat' first | with_reducible ((with_reducible show wpAny _ _ (call (Value.builtin "len") [Value.ref _]) _ _ _); k_dflt (refine' r_len ?N ?m ?z ?_; (case N => k_asm); (case m => k_mem); (case z => first | assumption | omega))) | walk_at "STEP")
  k_dflt (refine' r_join N1 (.head _) (strsOf hu1) (by decide) ?b ?_; (case b => omega))
  intro t9 k9
  have N2 : News h₀ L h1 ((L + 13, o13) :: nw) := cb_drop N1 (by lcg_sub)
  clear N1
  (repeat' first | with_reducible ((with_reducible show wpAny _ _ (call (Value.builtin "len") [Value.ref _]) _ _ _); k_dflt (refine' r_len ?N ?m ?z ?_; (case N => k_asm); (case m => k_mem); (case z => first | assumption | omega))) | walk_at "STEP")
  rename_i o3 F3 N3 d3
  dsimp only
  rw [← e] at F3
  exact q _ _ o3 t9 d3 F3 (by k_asm)
end
end
section
-- S20
theorem notin_true {prog : Program} {w : World} {A : Around} {E : Value → Shared → Prop} {s : Shared} {h₀ : Heap} {L d : Addr} {news : List (Addr × Obj)} {vs : List Value} {xs : List Str} {k : Nat} {x : Str} {t : Tok} {Q : Value → Shared → Prop} (N : News h₀ L s.heap news) (hm : (d, W.listOf vs.toArray k) ∈ news) (hvs : Are IsStr vs xs) (hin : x ∈ xs) (q : Q (.bool false) s) :
    wpAny (model prog w) A (compareOp .NotIn (.str x t) (.ref d)) Q E s := by
  refine notin_list_strs (News.isList N hm) (strsOf hvs) ?_
  have e : (xs.any fun y => y == x) = true := List.any_eq_true.mpr ⟨x, hin, beq_self_eq_true x⟩
  rw [e]
  exact q
section
variable {prog : Program} {w : World} {h₀ : Heap} {L : Addr} {m : Str → Option Value} {nw : List (Addr × Obj)} {s : Shared} {Q : Flow → Shared → Prop} {E : Value → Shared → Prop} {p : Program} {loose : List Str} {mean : ExcName → Option Value} {mg mb : Str → Option Value}
set_option maxRecDepth 100000 in
set_option maxHeartbeats 4000000 in
theorem s_ask4 (B' : Below callerA h₀ [] h₀) (X : (KF w.params).In h₀) (T : Top p loose mean mg mb h₀) (F : Fr h₀ L s.heap m) {o12 o13 : Obj} (N : News h₀ L s.heap nw)
  {PD KD : Addr} {vs zs : List Value} {ps tk : List Str} {k k2 : Nat} {front back : Str} {t12 t13 : Tok} (hm1 : m (Str.ofString "pieces") = some (.ref PD)) (hm2 : m (Str.ofString "taken") = some (.ref KD))
  (hP : (PD, W.listOf vs.toArray k) ∈ nw) (hvs : Are IsStr vs ps) (hpl : ps.length ≤ 3) (hpy : ∀ y ∈ ps, y.length ≤ 10) (hK : (KD, W.listOf zs.toArray k2) ∈ nw) (hzs : Are IsStr zs tk) (htl : tk.length ≤ 500) (hty : ∀ y ∈ tk, y.length ≤ 1000)
  (e12 : (L + 12, o12) ∈ nw) (d12 : o12.data = .cell (some (.str front t12))) (e13 : (L + 13, o13) ∈ nw) (d13 : o13.data = .cell (some (.str back t13))) (hf : front.length ≤ 100) (hb : back.length ≤ 100)
  (hin : Txt.join "" ps ∈ tk)
  (hfb : ∀ y ∈ tk, (Txt.slice y none (some ((front.length : Nat) : Int)) != front) = false ∧ (Txt.slice y (some (((y.length : Nat) : Int) - ((back.length : Nat) : Int))) none != back) = false)
  (q : ∀ h' tk', Fr h₀ L h' m → News h₀ L h' nw → Q .next { s with heap := h', toks := tk' }) :
  wpAny (model prog w) (lawA w L) (exec (st w 20) (lawEnv w L)) Q E s := by
  (with_unfolding_all change wpAny (model _ _) (callerA.deeper (envOfC (Str.ofString "law") (Scope.mk _ _ _ _ _) _ 158 (.ref 157))) (exec (.If _ _ _ _) (envOfC (Str.ofString "law") (Scope.mk _ _ _ _ _) _ 158 (.ref 157))) _ _ _)
  have e := vars2 hm1 hm2
  simp only [seen, List.foldr] at e
  rw [e] at F
  have hw := weight_le (ss := ps) (n := 10) hpy
  (repeat' first | with_reducible (k_here; (with_reducible show wpAny _ _ (compareOp CmpOp.NotEq (Value.ref _) (Value.ref _)) _ _ _); k_dflt ((try dsimp only); refine' ne_nil ?N ?a ?b ?u ?_; (case N => k_asm); (case a => k_mem); (case b => k_mem); (case u => exact Nat.le_of_ble_eq_true rfl))) | with_reducible ((with_reducible show wpAny _ _ (call (Value.builtin "str.join") _) _ _ _); (k_here; k_dflt (refine' r_join ?N ?m ?v ?a ?b ?_; (case N => k_asm); (case m => k_mem); (case v => exact strsOf (by with_reducible assumption)); (case a => decide); (case b => lia)); intro _ _)) | with_reducible (k_here; (with_reducible show wpAny _ _ (compareOp CmpOp.NotIn _ (Value.ref _)) _ _ _); k_dflt (refine' notin_true ?N ?m ?v ?h ?_; (case N => k_asm); (case m => k_mem); (case v => with_reducible assumption); (case h => with_reducible assumption))) | with_reducible ((with_reducible show wpAny _ _ (eval (Expr.ListComp _ [⟨_, _, [_], _⟩] _ _) _) _ _ _); k_dflt (refine listCompT (by k_asm) (by rfl) (by decide) (by rfl) (by decide) (by rfl) ?_)) | walk_at "STEP")
  rename Fr h₀ L _ _ => F1
  rename News h₀ L _ _ => N1
  refine compListT (Is := IsStr) (xs := tk) (fun _ => false) id (Out := IsStr) rfl F1 N1 hK hzs (Nat.le_trans htl (by decide)) ?_ ?_
  · intro c v I oI C oC D m2 h tk1 E' ys6 hmem hIs hC hx F2 N2
    clear q F1 N1
    obtain ⟨t, rfl⟩ := hIs
    have hcl := hty c hmem
    have hfb1 := (hfb c hmem).1
    have hfb2 := (hfb c hmem).2
    (repeat' first | with_reducible (k_here; (with_reducible show wpAny _ _ (compareOp CmpOp.NotEq (Value.ref _) (Value.ref _)) _ _ _); k_dflt ((try dsimp only); refine' ne_nil ?N ?a ?b ?u ?_; (case N => k_asm); (case a => k_mem); (case b => k_mem); (case u => exact Nat.le_of_ble_eq_true rfl))) | with_reducible ((with_reducible show wpAny _ _ (call (Value.builtin "str.join") _) _ _ _); (k_here; k_dflt (refine' r_join ?N ?m ?v ?a ?b ?_; (case N => k_asm); (case m => k_mem); (case v => exact strsOf (by with_reducible assumption)); (case a => decide); (case b => lia)); intro _ _)) | with_reducible (k_here; (with_reducible show wpAny _ _ (compareOp CmpOp.NotIn _ (Value.ref _)) _ _ _); k_dflt (refine' notin_true ?N ?m ?v ?h ?_; (case N => k_asm); (case m => k_mem); (case v => with_reducible assumption); (case h => with_reducible assumption))) | with_reducible ((with_reducible show wpAny _ _ (eval (Expr.ListComp _ [⟨_, _, [_], _⟩] _ _) _) _ _ _); k_dflt (refine listCompT (by k_asm) (by rfl) (by decide) (by rfl) (by decide) (by rfl) ?_)) | walk_at "STEP")
    rename Fr h₀ L _ _ => F8
    rename News h₀ L _ _ => N8
    exact eltEnd F8 N8 subs_refl trivial
  · intro hp ys6 hys6 D h tk F7 N7 o1
    have e6 := are_none hys6
    subst e6
    have N8 : News h₀ L h ((D, W.listOf #[] 0) :: nw) := N7
    clear N7 F1 N1
    (try dsimp only)
    (repeat' first | with_reducible (k_here; (with_reducible show wpAny _ _ (compareOp CmpOp.NotEq (Value.ref _) (Value.ref _)) _ _ _); k_dflt ((try dsimp only); refine' ne_nil ?N ?a ?b ?u ?_; (case N => k_asm); (case a => k_mem); (case b => k_mem); (case u => exact Nat.le_of_ble_eq_true rfl))) | with_reducible ((with_reducible show wpAny _ _ (call (Value.builtin "str.join") _) _ _ _); (k_here; k_dflt (refine' r_join ?N ?m ?v ?a ?b ?_; (case N => k_asm); (case m => k_mem); (case v => exact strsOf (by with_reducible assumption)); (case a => decide); (case b => lia)); intro _ _)) | with_reducible (k_here; (with_reducible show wpAny _ _ (compareOp CmpOp.NotIn _ (Value.ref _)) _ _ _); k_dflt (refine' notin_true ?N ?m ?v ?h ?_; (case N => k_asm); (case m => k_mem); (case v => with_reducible assumption); (case h => with_reducible assumption))) | with_reducible ((with_reducible show wpAny _ _ (eval (Expr.ListComp _ [⟨_, _, [_], _⟩] _ _) _) _ _ _); k_dflt (refine listCompT (by k_asm) (by rfl) (by decide) (by rfl) (by decide) (by rfl) ?_)) | walk_at "STEP")
    rename Fr h₀ L _ _ => F9
    rename News h₀ L _ _ => N9
    try dsimp only
    rw [← e] at F9
    exact q _ _ F9 (cb_drop N9 (by lcg_sub))
end
end
section
-- S21
section
variable {prog : Program} {w : World} {h₀ : Heap} {L : Addr} {m : Str → Option Value} {nw : List (Addr × Obj)} {s : Shared} {Q : Flow → Shared → Prop} {E : Value → Shared → Prop} {p : Program} {loose : List Str} {mean : ExcName → Option Value} {mg mb : Str → Option Value}
set_option maxRecDepth 100000 in
set_option maxHeartbeats 4000000 in
theorem s_books (B' : Below callerA h₀ [] h₀) (X : (KF w.params).In h₀) (T : Top p loose mean mg mb h₀) (F : Fr h₀ L s.heap m) {o5 o7 o14 : Obj} (N : News h₀ L s.heap ((L + 14, o14) :: nw)) (d : o14.data = .cell none) (hne : ∀ p ∈ nw, p.1 ≠ L + 14)
  {KD SG : Addr} {zs : List Value} {tk : List Str} {k kg n : Nat} {top : Int} {s0 s1 : Str} {t0 t1 tt : Tok} (hm1 : m (Str.ofString "taken") = some (.ref KD))
  (e5 : (L + 5, o5) ∈ nw) (d5 : o5.data = .cell (some (.ref SG))) (hG : (SG, W.listOf #[.str s0 t0, .str s1 t1] kg) ∈ nw) (e7 : (L + 7, o7) ∈ nw) (d7 : o7.data = .cell (some (.int top tt)))
  (hK : (KD, W.listOf zs.toArray k) ∈ nw) (hzs : Are IsStr zs tk) (htl : tk.length ≤ 500) (hn : top + 1 = n) (hn' : n ≤ 100) (hty : ∀ y ∈ tk, y.length < n)
  (q : ∀ h' tk' o14' (Bk : Addr) vs k' ex, o14'.data = .cell (some (.ref Bk)) → Are (IsBook prog w ex) vs (booksZ tk s0 n) → Apart ex nw → (∀ p ∈ ex ++ nw, @Ne Nat p.1 Bk) → (∀ p ∈ (Bk, W.listOf vs.toArray k') :: (ex ++ nw), p.1 ≠ L + 14) → Fr h₀ L h' m → News h₀ L h' ((L + 14, o14') :: (Bk, W.listOf vs.toArray k') :: (ex ++ nw)) → Q .next { s with heap := h', toks := tk' }) :
  wpAny (model prog w) (lawA w L) (exec (st w 21) (lawEnv w L)) Q E s := by
  (with_unfolding_all change wpAny (model _ _) (callerA.deeper (envOfC (Str.ofString "law") (Scope.mk _ _ _ _ _) _ 158 (.ref 157))) (exec (.Assign _ _ _) (envOfC (Str.ofString "law") (Scope.mk _ _ _ _ _) _ 158 (.ref 157))) _ _ _)
  have e := vars1 hm1
  rw [e] at F
  (repeat' first | with_reducible (k_here; (with_reducible show wpAny _ _ (subscriptTail _ _ (Value.ref _) (Value.int _ _)) _ _ _); k_dflt (refine' r_item ?N ?m ?a ?b ?x ?_; (case N => k_asm); (case m => k_mem); (case x => rfl); (case a => decide); (case b => decide))) | with_reducible (k_here; (with_reducible show wpAny _ _ (call (Value.ref 134) _) _ _ _); k_dflt (refine' conG_use (c_booksG _ _ _ _ _ _ _ _ _ _ _ _ ?a ?b ?c ?d ?e ?f) ?k1 ?k2 ?k3 ?k4 ?k5 ?kK ?kd ?ku ?_; (case k1 => k_asm); (case k2 => k_asm); (case k3 => k_asm); (case k4 => k_asm); (case k5 => k_asm); (case kK => exact rfl); (case kd => ktr_room); (case ku => ktr_units); (case a => exact .tail _ (by assumption)); (case b => assumption); (case c => assumption); (case d => assumption); (case e => assumption); (case f => assumption)); intro _ _ _ _ _ _ _ _ _ _ _) | walk_at "STEP")
  rename_i Bk vs k' ex hoB hlB hB h1 tk1 F1 N1
  have N3 : News h₀ L h1 ((L + 14, o14) :: (Bk, W.listOf vs.toArray k') :: (ex ++ nw)) := cb_drop N1 (subs_cons (.tail _ (List.mem_append_right _ (.head _))) (subs_cons (.head _) (fun p hp => .tail _ (subs_app (fun p hp => .tail _ hp) p hp))))
  have hne3 : ∀ p ∈ (Bk, W.listOf vs.toArray k') :: (ex ++ nw), p.1 ≠ L + 14 := List.forall_mem_cons.mpr ⟨Ne.symm (hoB _ (List.mem_append_right _ (.head _))), List.forall_mem_append.mpr ⟨fun p hp => Nat.ne_of_gt (hlB p hp).1, hne⟩⟩
  have hap3 : Apart ex nw := fun p hp => ne_of_allLt (hlB p hp).2
  have hD3 : ∀ p ∈ ex ++ nw, @Ne Nat p.1 Bk := List.forall_mem_append.mpr ⟨fun p hp => hoB p (List.mem_append_left _ hp), fun p hp => hoB p (List.mem_append_right _ (.tail _ hp))⟩
  clear N1 hoB hlB
  (repeat' first | with_reducible (k_here; (with_reducible show wpAny _ _ (subscriptTail _ _ (Value.ref _) (Value.int _ _)) _ _ _); k_dflt (refine' r_item ?N ?m ?a ?b ?x ?_; (case N => k_asm); (case m => k_mem); (case x => rfl); (case a => decide); (case b => decide))) | with_reducible (k_here; (with_reducible show wpAny _ _ (call (Value.ref 134) _) _ _ _); k_dflt (refine' conG_use (c_booksG _ _ _ _ _ _ _ _ _ _ _ _ ?a ?b ?c ?d ?e ?f) ?k1 ?k2 ?k3 ?k4 ?k5 ?kK ?kd ?ku ?_; (case k1 => k_asm); (case k2 => k_asm); (case k3 => k_asm); (case k4 => k_asm); (case k5 => k_asm); (case kK => exact rfl); (case kd => ktr_room); (case ku => ktr_units); (case a => exact .tail _ (by assumption)); (case b => assumption); (case c => assumption); (case d => assumption); (case e => assumption); (case f => assumption)); intro _ _ _ _ _ _ _ _ _ _ _) | walk_at "STEP")
  rename_i h5 o3 F3 N3 d3
  (try dsimp only)
  rw [← e] at F3
  exact q _ _ o3 Bk vs k' ex d3 hB hap3 hD3 hne3 F3 (by k_asm)
end
end
section
-- S22
noncomputable def sumV (c : List (Int × Int)) : Int := (c.map (·.2)).sum
/-- what statement 22 asks of a book -/
structure BookOK (i : Nat) (b : Book) : Prop where
  cc : b.cc = sumV b.tab
  nc : b.nc = (i : Int) * sumV b.tab
  tt : b.tt = (b.tab.map fun p => p.1 * p.2).sum
  ct : b.ct = (b.tab.map fun p => ((i : Int) - p.1) * p.2).sum
  len : b.tab.length ≤ 500
  mul : ∀ p ∈ b.tab, IntMulOk p.1 p.2 ∧ IntMulOk ((i : Int) - p.1) p.2
theorem c_countG (prog : Program) (w : World) (news : List (Addr × Obj)) (d : Addr) (od : Obj) (c : List (Int × Int)) (hm : (d, od) ∈ news) (hc : IsD prog w od c) (lo : (d == sysModules) = false) :
   ConG prog w (KF w.params) 1 8 (call (.ref 112) [.ref d]) news (fun P => ∀ t, P (.int (sumV c) t) news) :=
  fun p loose mean mg mb dp un gd cn cs a ccd cl outer A₀ base h₀ L m s Q E B F X N T hk hd hu ret => c_count prog w news d od c hm hc lo p loose mean mg mb dp un gd cn cs a ccd cl outer A₀ base h₀ L m s Q E B F X N T hk hd hu fun r h' tk' nw F' N' ⟨e, t, e2⟩ => by subst e; subst e2; exact ret t h' tk' F' N'
section
variable {prog : Program} {w : World} {h₀ : Heap} {L : Addr} {m : Str → Option Value} {nw : List (Addr × Obj)} {s : Shared} {Q : Flow → Shared → Prop} {E : Value → Shared → Prop} {p : Program} {loose : List Str} {mean : ExcName → Option Value} {mg mb : Str → Option Value}
set_option maxRecDepth 100000 in
set_option maxHeartbeats 4000000 in
theorem s_table (B' : Below callerA h₀ [] h₀) (X : (KF w.params).In h₀) (T : Top p loose mean mg mb h₀) (F : Fr h₀ L s.heap m) {o2 o7 o14 o15 : Obj} (N : News h₀ L s.heap ((L + 2, o2) :: (L + 15, o15) :: nw)) (d2 : o2.data = .cell none) (d15 : o15.data = .cell none) (hne2 : ∀ p ∈ nw, p.1 ≠ L + 2) (hne15 : ∀ p ∈ nw, p.1 ≠ L + 15)
  {Bk : Addr} {vs : List Value} {bs : List Book} {k n : Nat} {top : Int} {tt : Tok}
  (e7 : (L + 7, o7) ∈ nw) (d7 : o7.data = .cell (some (.int top tt))) (e14 : (L + 14, o14) ∈ nw) (d14 : o14.data = .cell (some (.ref Bk)))
  (hB : (Bk, W.listOf vs.toArray k) ∈ nw) (hbs : Are (IsBook prog w nw) vs bs) (hn : top + 1 = n) (hn' : n ≤ 100) (hbl : bs.length = n) (hok : ∀ (i : Nat) b, bs[i]? = some b → BookOK i b)
  (hE : PassesOwn (model prog w) (lawA w L) (lawEnv w L) E)
  (q : ∀ h' tk' m' oK oT c c', oK.data = .cell c → oT.data = .cell c' → (∀ z, z ≠ Str.ofString "calls" → m' z = m z) → Fr h₀ L h' m' → News h₀ L h' ((L + 2, oK) :: (L + 15, oT) :: nw) → Q .next { s with heap := h', toks := tk' }) :
  wpAny (model prog w) (lawA w L) (exec (st w 22) (lawEnv w L)) Q E s := by
  (with_unfolding_all change wpAny (model _ _) (callerA.deeper (envOfC (Str.ofString "law") (Scope.mk _ _ _ _ _) _ 158 (.ref 157))) (exec (.For _ _ _ _ _) (envOfC (Str.ofString "law") (Scope.mk _ _ _ _ _) _ 158 (.ref 157))) _ _ _)
  with_unfolding_all refine' For_turns F ?_ (fun _ => rfl) hE
  k_whole
  (repeat' first | with_reducible ((with_reducible show wpAny _ _ (binaryOp _ (Value.int _ _) (Value.int _ _)) _ _ _); (k_here; refine PySem.P.mul_int ?_ (by with_reducible assumption))) | with_reducible (k_here; (with_reducible show wpAny _ _ (compareOp CmpOp.NotEq (Value.ref _) (Value.ref _)) _ _ _); k_dflt ((try dsimp only); refine' ne_tup4 ?N ?a ?b ?e1 ?e2 ?e3 ?e4 ?u ?_; (case N => k_asm); (case a => k_mem); (case b => k_mem); (case e1 => exact BookOK.cc (by assumption)); (case e2 => exact BookOK.nc (by assumption)); (case e3 => exact BookOK.tt (by assumption)); (case e4 => exact BookOK.ct (by assumption)); (case u => exact Nat.le_of_ble_eq_true rfl))) | with_reducible ((with_reducible show wpAny _ _ (getItem (Value.ref _) (Value.int _ _)) _ _ _); (k_here; k_dflt (refine d_getItem (by k_tabat) (by assumption) ?_); intro _)) | with_reducible (k_here; (with_reducible show wpAny _ _ (subscriptTail _ (Expr.Slice none (some _) none _) (Value.ref _) (Value.ref _)) _ _ _); k_dflt (refine' four_of_five ?F ?N ?m ?_; (case F => k_asm); (case N => k_asm); (case m => k_mem)); intro _ _ _ _ _) | with_reducible (k_here; (with_reducible show wpAny _ _ (call (Value.ref 112) _) _ _ _); k_dflt (refine' conG_use (c_countG _ _ _ _ _ _ ?a ?b ?c) ?k1 ?k2 ?k3 ?k4 ?k5 ?kK ?kd ?ku ?_; (case k1 => k_asm); (case k2 => k_asm); (case k3 => k_asm); (case k4 => k_asm); (case k5 => k_asm); (case kK => exact rfl); (case kd => ktr_room); (case ku => ktr_units); (case a => k_mem); (case b => assumption); (case c => assumption)); intro _ _ _ _ _) | with_reducible (k_here; (with_reducible show wpAny _ _ (subscriptTail _ _ (Value.ref _) (Value.int _ _)) _ _ _); k_dflt (first | (refine' r_item ?k1 ?k2 ?k3 ?k4 ?k5 ?_ ?k6 ?k7; (case k1 => k_asm); (case k2 => k_mem); (case k5 => with_reducible assumption); (case k3 => lia); (case k4 => lia); (case k6 => rfl); (case k7 => (intro _; rfl))) | (refine' item_tupleT ?t ?a ?b ?c ?_; (case t => exact News.isTup (by k_asm) (by k_mem)); (case a => decide); (case b => decide); (case c => rfl)))) | with_reducible ((with_reducible show wpAny _ _ (eval (Expr.ListComp _ [⟨_, _, [], _⟩] _ _) _) _ _ _); k_dflt (refine listComp (by k_asm) (by rfl) (by decide) (by rfl) (by decide) (by rfl) ?_)) | walk_at "STEP")
  rename_i h5 tk5 r1 r2 r3 hr F5 N5 _
  rw [hn] at hr
  refine forCell (y := Str.ofString "calls") rfl F5 N5 d2 d15 hr (Nat.le_trans hn' (by decide)) ?_ ?_
  · intro i u m₁ h tk I oI oK oT c c' JJ hi hlt hK hT hm F6 N6 q1
    clear q F5 N5 hr
    have hi2 : i < bs.length := hbl ▸ hi
    obtain ⟨b9, hx⟩ : ∃ b, bs[((i : Nat) : Int).toNat]? = some b := ⟨_, List.getElem?_eq_getElem hi2⟩
    have hbo := hok i b9 hx
    obtain ⟨v9, hv9, Tb, Db, od, u1, u2, u3, u4, kb, rfl, hb1, hb2, hb3, hb4⟩ := hbs.get _ _ hx
    have f1 : @LT.lt Nat _ (L + 2) I := hlt.1
    have f2 : @LT.lt Nat _ (L + 15) I := hlt.2.1
    have f3 : @LT.lt Nat _ (L + 2) (L + 15) := Nat.add_lt_add_left (by decide) L
    have f4 : ∀ p ∈ nw, @Ne Nat p.1 I := ne_of_allLt hlt.2.2
    (try dsimp only)
    (repeat' first | with_reducible ((with_reducible show wpAny _ _ (binaryOp _ (Value.int _ _) (Value.int _ _)) _ _ _); (k_here; refine PySem.P.mul_int ?_ (by with_reducible assumption))) | with_reducible (k_here; (with_reducible show wpAny _ _ (compareOp CmpOp.NotEq (Value.ref _) (Value.ref _)) _ _ _); k_dflt ((try dsimp only); refine' ne_tup4 ?N ?a ?b ?e1 ?e2 ?e3 ?e4 ?u ?_; (case N => k_asm); (case a => k_mem); (case b => k_mem); (case e1 => exact BookOK.cc (by assumption)); (case e2 => exact BookOK.nc (by assumption)); (case e3 => exact BookOK.tt (by assumption)); (case e4 => exact BookOK.ct (by assumption)); (case u => exact Nat.le_of_ble_eq_true rfl))) | with_reducible ((with_reducible show wpAny _ _ (getItem (Value.ref _) (Value.int _ _)) _ _ _); (k_here; k_dflt (refine d_getItem (by k_tabat) (by assumption) ?_); intro _)) | with_reducible (k_here; (with_reducible show wpAny _ _ (subscriptTail _ (Expr.Slice none (some _) none _) (Value.ref _) (Value.ref _)) _ _ _); k_dflt (refine' four_of_five ?F ?N ?m ?_; (case F => k_asm); (case N => k_asm); (case m => k_mem)); intro _ _ _ _ _) | with_reducible (k_here; (with_reducible show wpAny _ _ (call (Value.ref 112) _) _ _ _); k_dflt (refine' conG_use (c_countG _ _ _ _ _ _ ?a ?b ?c) ?k1 ?k2 ?k3 ?k4 ?k5 ?kK ?kd ?ku ?_; (case k1 => k_asm); (case k2 => k_asm); (case k3 => k_asm); (case k4 => k_asm); (case k5 => k_asm); (case kK => exact rfl); (case kd => ktr_room); (case ku => ktr_units); (case a => k_mem); (case b => assumption); (case c => assumption)); intro _ _ _ _ _) | with_reducible (k_here; (with_reducible show wpAny _ _ (subscriptTail _ _ (Value.ref _) (Value.int _ _)) _ _ _); k_dflt (first | (refine' r_item ?k1 ?k2 ?k3 ?k4 ?k5 ?_ ?k6 ?k7; (case k1 => k_asm); (case k2 => k_mem); (case k5 => with_reducible assumption); (case k3 => lia); (case k4 => lia); (case k6 => rfl); (case k7 => (intro _; rfl))) | (refine' item_tupleT ?t ?a ?b ?c ?_; (case t => exact News.isTup (by k_asm) (by k_mem)); (case a => decide); (case b => decide); (case c => rfl)))) | with_reducible ((with_reducible show wpAny _ _ (eval (Expr.ListComp _ [⟨_, _, [], _⟩] _ _) _) _ _ _); k_dflt (refine listComp (by k_asm) (by rfl) (by decide) (by rfl) (by decide) (by rfl) ?_)) | walk_at "STEP")
    rename_i h9 o2' d2' tk9 h8 o15' d15' tc h7 tk7 h6 F6' N6' D4 h4 F4 N4 l4
    have hnd := hb3.nodup
    have hk0 := hb3.choose_spec.1
    have hf0 := hb3.choose_spec.2
    have htl : b9.tab.length ≤ 10000 := Nat.le_trans hbo.len (by decide)
    clear F6' N6'
    refine compDict (xs := b9.tab) (fun p => p.1 * p.2) (Out := IsInt) rfl F4 N4 (.tail _ (.tail _ (.tail _ (.tail _ hb2)))) hb3 hb4 htl ?_ ?_
    · intro cc tn I2 oI2 C2 oC2 D2 m2 h2 tk2 E2 ys2 hmem hC2 hx2 F9 N9
      have hlk := (look_mem hnd hmem).1
      have hlv := (look_mem hnd hmem).2
      have hmu : IntMulOk cc.1 (kdfLook b9.tab cc.1 0) := by rw [hlv]; exact (hbo.mul cc hmem).1
      clear F4 N4 q1
      (try dsimp only)
      (repeat' first | with_reducible ((with_reducible show wpAny _ _ (binaryOp _ (Value.int _ _) (Value.int _ _)) _ _ _); (k_here; refine PySem.P.mul_int ?_ (by with_reducible assumption))) | with_reducible (k_here; (with_reducible show wpAny _ _ (compareOp CmpOp.NotEq (Value.ref _) (Value.ref _)) _ _ _); k_dflt ((try dsimp only); refine' ne_tup4 ?N ?a ?b ?e1 ?e2 ?e3 ?e4 ?u ?_; (case N => k_asm); (case a => k_mem); (case b => k_mem); (case e1 => exact BookOK.cc (by assumption)); (case e2 => exact BookOK.nc (by assumption)); (case e3 => exact BookOK.tt (by assumption)); (case e4 => exact BookOK.ct (by assumption)); (case u => exact Nat.le_of_ble_eq_true rfl))) | with_reducible ((with_reducible show wpAny _ _ (getItem (Value.ref _) (Value.int _ _)) _ _ _); (k_here; k_dflt (refine d_getItem (by k_tabat) (by assumption) ?_); intro _)) | with_reducible (k_here; (with_reducible show wpAny _ _ (subscriptTail _ (Expr.Slice none (some _) none _) (Value.ref _) (Value.ref _)) _ _ _); k_dflt (refine' four_of_five ?F ?N ?m ?_; (case F => k_asm); (case N => k_asm); (case m => k_mem)); intro _ _ _ _ _) | with_reducible (k_here; (with_reducible show wpAny _ _ (call (Value.ref 112) _) _ _ _); k_dflt (refine' conG_use (c_countG _ _ _ _ _ _ ?a ?b ?c) ?k1 ?k2 ?k3 ?k4 ?k5 ?kK ?kd ?ku ?_; (case k1 => k_asm); (case k2 => k_asm); (case k3 => k_asm); (case k4 => k_asm); (case k5 => k_asm); (case kK => exact rfl); (case kd => ktr_room); (case ku => ktr_units); (case a => k_mem); (case b => assumption); (case c => assumption)); intro _ _ _ _ _) | with_reducible (k_here; (with_reducible show wpAny _ _ (subscriptTail _ _ (Value.ref _) (Value.int _ _)) _ _ _); k_dflt (first | (refine' r_item ?k1 ?k2 ?k3 ?k4 ?k5 ?_ ?k6 ?k7; (case k1 => k_asm); (case k2 => k_mem); (case k5 => with_reducible assumption); (case k3 => lia); (case k4 => lia); (case k6 => rfl); (case k7 => (intro _; rfl))) | (refine' item_tupleT ?t ?a ?b ?c ?_; (case t => exact News.isTup (by k_asm) (by k_mem)); (case a => decide); (case b => decide); (case c => rfl)))) | with_reducible ((with_reducible show wpAny _ _ (eval (Expr.ListComp _ [⟨_, _, [], _⟩] _ _) _) _ _ _); k_dflt (refine listComp (by k_asm) (by rfl) (by decide) (by rfl) (by decide) (by rfl) ?_)) | walk_at "STEP")
      rename Fr h₀ L _ _ => F8
      rename News h₀ L _ _ => N8
      refine eltEnd F8 N8 subs_refl ?_
      exact ⟨_, congrArg (fun z => Value.int (cc.1 * z) _) hlv⟩
    · intro hp ys hys D2 h2 tk2 F9 N9 o1
      clear F4 N4
      have hys' := intsOf hys
      (try dsimp only)
      (repeat' first | with_reducible ((with_reducible show wpAny _ _ (binaryOp _ (Value.int _ _) (Value.int _ _)) _ _ _); (k_here; refine PySem.P.mul_int ?_ (by with_reducible assumption))) | with_reducible (k_here; (with_reducible show wpAny _ _ (compareOp CmpOp.NotEq (Value.ref _) (Value.ref _)) _ _ _); k_dflt ((try dsimp only); refine' ne_tup4 ?N ?a ?b ?e1 ?e2 ?e3 ?e4 ?u ?_; (case N => k_asm); (case a => k_mem); (case b => k_mem); (case e1 => exact BookOK.cc (by assumption)); (case e2 => exact BookOK.nc (by assumption)); (case e3 => exact BookOK.tt (by assumption)); (case e4 => exact BookOK.ct (by assumption)); (case u => exact Nat.le_of_ble_eq_true rfl))) | with_reducible ((with_reducible show wpAny _ _ (getItem (Value.ref _) (Value.int _ _)) _ _ _); (k_here; k_dflt (refine d_getItem (by k_tabat) (by assumption) ?_); intro _)) | with_reducible (k_here; (with_reducible show wpAny _ _ (subscriptTail _ (Expr.Slice none (some _) none _) (Value.ref _) (Value.ref _)) _ _ _); k_dflt (refine' four_of_five ?F ?N ?m ?_; (case F => k_asm); (case N => k_asm); (case m => k_mem)); intro _ _ _ _ _) | with_reducible (k_here; (with_reducible show wpAny _ _ (call (Value.ref 112) _) _ _ _); k_dflt (refine' conG_use (c_countG _ _ _ _ _ _ ?a ?b ?c) ?k1 ?k2 ?k3 ?k4 ?k5 ?kK ?kd ?ku ?_; (case k1 => k_asm); (case k2 => k_asm); (case k3 => k_asm); (case k4 => k_asm); (case k5 => k_asm); (case kK => exact rfl); (case kd => ktr_room); (case ku => ktr_units); (case a => k_mem); (case b => assumption); (case c => assumption)); intro _ _ _ _ _) | with_reducible (k_here; (with_reducible show wpAny _ _ (subscriptTail _ _ (Value.ref _) (Value.int _ _)) _ _ _); k_dflt (first | (refine' r_item ?k1 ?k2 ?k3 ?k4 ?k5 ?_ ?k6 ?k7; (case k1 => k_asm); (case k2 => k_mem); (case k5 => with_reducible assumption); (case k3 => lia); (case k4 => lia); (case k6 => rfl); (case k7 => (intro _; rfl))) | (refine' item_tupleT ?t ?a ?b ?c ?_; (case t => exact News.isTup (by k_asm) (by k_mem)); (case a => decide); (case b => decide); (case c => rfl)))) | with_reducible ((with_reducible show wpAny _ _ (eval (Expr.ListComp _ [⟨_, _, [], _⟩] _ _) _) _ _ _); k_dflt (refine listComp (by k_asm) (by rfl) (by decide) (by rfl) (by decide) (by rfl) ?_)) | walk_at "STEP")
      rename_i h3 tk3 t3 F3 N3
      have N4 : News h₀ L h3 ((D4, ({ cls := Value.type "tuple", data := Data.seq #[Value.int b9.cc u1, Value.int b9.nc u2, Value.int b9.tt u3, Value.int b9.ct u4] } : Obj)) :: (I, oI) :: (L + 2, o2') :: (L + 15, o15') :: nw) := cb_drop N3 (by lcg_sub)
      clear N3 F9 N9
      refine compDict (xs := b9.tab) (fun p => ((i : Nat) - p.1) * p.2) (Out := IsInt) rfl F3 N4 (.tail _ (.tail _ (.tail _ (.tail _ hb2)))) hb3 hb4 htl ?_ ?_
      · intro cc tn I2 oI2 C2 oC2 D2 m2 h2 tk2 E2 ys2 hmem hC2 hx2 F9 N9
        have hlk := (look_mem hnd hmem).1
        have hlv := (look_mem hnd hmem).2
        have hmu : IntMulOk ((i : Nat) - cc.1) (kdfLook b9.tab cc.1 0) := by rw [hlv]; exact (hbo.mul cc hmem).2
        clear F3 N4 q1
        (try dsimp only)
        (repeat' first | with_reducible ((with_reducible show wpAny _ _ (binaryOp _ (Value.int _ _) (Value.int _ _)) _ _ _); (k_here; refine PySem.P.mul_int ?_ (by with_reducible assumption))) | with_reducible (k_here; (with_reducible show wpAny _ _ (compareOp CmpOp.NotEq (Value.ref _) (Value.ref _)) _ _ _); k_dflt ((try dsimp only); refine' ne_tup4 ?N ?a ?b ?e1 ?e2 ?e3 ?e4 ?u ?_; (case N => k_asm); (case a => k_mem); (case b => k_mem); (case e1 => exact BookOK.cc (by assumption)); (case e2 => exact BookOK.nc (by assumption)); (case e3 => exact BookOK.tt (by assumption)); (case e4 => exact BookOK.ct (by assumption)); (case u => exact Nat.le_of_ble_eq_true rfl))) | with_reducible ((with_reducible show wpAny _ _ (getItem (Value.ref _) (Value.int _ _)) _ _ _); (k_here; k_dflt (refine d_getItem (by k_tabat) (by assumption) ?_); intro _)) | with_reducible (k_here; (with_reducible show wpAny _ _ (subscriptTail _ (Expr.Slice none (some _) none _) (Value.ref _) (Value.ref _)) _ _ _); k_dflt (refine' four_of_five ?F ?N ?m ?_; (case F => k_asm); (case N => k_asm); (case m => k_mem)); intro _ _ _ _ _) | with_reducible (k_here; (with_reducible show wpAny _ _ (call (Value.ref 112) _) _ _ _); k_dflt (refine' conG_use (c_countG _ _ _ _ _ _ ?a ?b ?c) ?k1 ?k2 ?k3 ?k4 ?k5 ?kK ?kd ?ku ?_; (case k1 => k_asm); (case k2 => k_asm); (case k3 => k_asm); (case k4 => k_asm); (case k5 => k_asm); (case kK => exact rfl); (case kd => ktr_room); (case ku => ktr_units); (case a => k_mem); (case b => assumption); (case c => assumption)); intro _ _ _ _ _) | with_reducible (k_here; (with_reducible show wpAny _ _ (subscriptTail _ _ (Value.ref _) (Value.int _ _)) _ _ _); k_dflt (first | (refine' r_item ?k1 ?k2 ?k3 ?k4 ?k5 ?_ ?k6 ?k7; (case k1 => k_asm); (case k2 => k_mem); (case k5 => with_reducible assumption); (case k3 => lia); (case k4 => lia); (case k6 => rfl); (case k7 => (intro _; rfl))) | (refine' item_tupleT ?t ?a ?b ?c ?_; (case t => exact News.isTup (by k_asm) (by k_mem)); (case a => decide); (case b => decide); (case c => rfl)))) | with_reducible ((with_reducible show wpAny _ _ (eval (Expr.ListComp _ [⟨_, _, [], _⟩] _ _) _) _ _ _); k_dflt (refine listComp (by k_asm) (by rfl) (by decide) (by rfl) (by decide) (by rfl) ?_)) | walk_at "STEP")
        rename Fr h₀ L _ _ => F8
        rename News h₀ L _ _ => N8
        refine eltEnd F8 N8 subs_refl ?_
        exact ⟨_, congrArg (fun z => Value.int (((i : Nat) - cc.1) * z) _) hlv⟩
      · intro hp ys3 hys3 D3 h2 tk2 F9 N9 o1
        clear F3 N4
        have hys3' := intsOf hys3
        (try dsimp only)
        (repeat' first | with_reducible ((with_reducible show wpAny _ _ (binaryOp _ (Value.int _ _) (Value.int _ _)) _ _ _); (k_here; refine PySem.P.mul_int ?_ (by with_reducible assumption))) | with_reducible (k_here; (with_reducible show wpAny _ _ (compareOp CmpOp.NotEq (Value.ref _) (Value.ref _)) _ _ _); k_dflt ((try dsimp only); refine' ne_tup4 ?N ?a ?b ?e1 ?e2 ?e3 ?e4 ?u ?_; (case N => k_asm); (case a => k_mem); (case b => k_mem); (case e1 => exact BookOK.cc (by assumption)); (case e2 => exact BookOK.nc (by assumption)); (case e3 => exact BookOK.tt (by assumption)); (case e4 => exact BookOK.ct (by assumption)); (case u => exact Nat.le_of_ble_eq_true rfl))) | with_reducible ((with_reducible show wpAny _ _ (getItem (Value.ref _) (Value.int _ _)) _ _ _); (k_here; k_dflt (refine d_getItem (by k_tabat) (by assumption) ?_); intro _)) | with_reducible (k_here; (with_reducible show wpAny _ _ (subscriptTail _ (Expr.Slice none (some _) none _) (Value.ref _) (Value.ref _)) _ _ _); k_dflt (refine' four_of_five ?F ?N ?m ?_; (case F => k_asm); (case N => k_asm); (case m => k_mem)); intro _ _ _ _ _) | with_reducible (k_here; (with_reducible show wpAny _ _ (call (Value.ref 112) _) _ _ _); k_dflt (refine' conG_use (c_countG _ _ _ _ _ _ ?a ?b ?c) ?k1 ?k2 ?k3 ?k4 ?k5 ?kK ?kd ?ku ?_; (case k1 => k_asm); (case k2 => k_asm); (case k3 => k_asm); (case k4 => k_asm); (case k5 => k_asm); (case kK => exact rfl); (case kd => ktr_room); (case ku => ktr_units); (case a => k_mem); (case b => assumption); (case c => assumption)); intro _ _ _ _ _) | with_reducible (k_here; (with_reducible show wpAny _ _ (subscriptTail _ _ (Value.ref _) (Value.int _ _)) _ _ _); k_dflt (first | (refine' r_item ?k1 ?k2 ?k3 ?k4 ?k5 ?_ ?k6 ?k7; (case k1 => k_asm); (case k2 => k_mem); (case k5 => with_reducible assumption); (case k3 => lia); (case k4 => lia); (case k6 => rfl); (case k7 => (intro _; rfl))) | (refine' item_tupleT ?t ?a ?b ?c ?_; (case t => exact News.isTup (by k_asm) (by k_mem)); (case a => decide); (case b => decide); (case c => rfl)))) | with_reducible ((with_reducible show wpAny _ _ (eval (Expr.ListComp _ [⟨_, _, [], _⟩] _ _) _) _ _ _); k_dflt (refine listComp (by k_asm) (by rfl) (by decide) (by rfl) (by decide) (by rfl) ?_)) | walk_at "STEP")
        rename Fr h₀ L _ _ => FE
        rename News h₀ L _ _ => NE
        exact q1 _ _ _ o2' o15' _ _ d2' d15' FE (cb_drop NE (by lcg_sub)) fun z hz => (if_neg hz).trans (hm z hz)
  · intro m₁ h tk oK oT c c' hK hT hm F6 N6
    exact q _ _ _ oK oT c c' hK hT hm F6 N6
end
end
section
-- S23
noncomputable def cntRow (k : Int) (tab acc : List (Int × Int)) : List (Int × Int) := tab.foldl (fun acc p => kdfPut acc (p.1 + 16 * (k - p.1)) p.2) acc
noncomputable def countedP (bs : List Book) : Nat → List (Int × Int)
  | 0 => []
  | i + 1 => cntRow (i : Nat) ((bs[i]?.getD book0).tab) (countedP bs i)
theorem cntRow_len (k : Int) (tab acc : List (Int × Int)) : (cntRow k tab acc).length ≤ acc.length + tab.length := by
  induction tab generalizing acc with
  | nil => exact Nat.le_refl _
  | cons p r ih => have h1 := ih (kdfPut acc (p.1 + 16 * (k - p.1)) p.2); have h2 := kdfPut_len acc (p.1 + 16 * (k - p.1)) p.2; simp only [cntRow, List.foldl_cons, List.length_cons] at *; lia
theorem cntRow_snoc (k : Int) (tab acc : List (Int × Int)) (p : Int × Int) : cntRow k (tab ++ [p]) acc = kdfPut (cntRow k tab acc) (p.1 + 16 * (k - p.1)) p.2 := by simp [cntRow]
theorem countedP_len {bs : List Book} (h : ∀ (i : Nat) b, bs[i]? = some b → b.tab.length ≤ 500) : ∀ i, (countedP bs i).length ≤ i * 500
  | 0 => Nat.le_refl _
  | i + 1 => by
    have h1 := cntRow_len (i : Nat) ((bs[i]?.getD book0).tab) (countedP bs i)
    have h2 := countedP_len h i
    have h3 : ((bs[i]?.getD book0).tab).length ≤ 500 := by
      cases e : bs[i]? with
      | none => exact Nat.zero_le _
      | some b => exact h i b e
    show (cntRow _ _ _).length ≤ _
    lia
section
variable {prog : Program} {w : World} {h₀ : Heap} {L : Addr} {m : Str → Option Value} {nw : List (Addr × Obj)} {s : Shared} {Q : Flow → Shared → Prop} {E : Value → Shared → Prop} {p : Program} {loose : List Str} {mean : ExcName → Option Value} {mg mb : Str → Option Value}
set_option maxRecDepth 100000 in
set_option maxHeartbeats 4000000 in
theorem s_counted (B' : Below callerA h₀ [] h₀) (X : (KF w.params).In h₀) (T : Top p loose mean mg mb h₀) (F : Fr h₀ L s.heap m) {o7 o14 : Obj} (N : News h₀ L s.heap nw)
  {Bk : Addr} {vs : List Value} {bs : List Book} {k n : Nat} {top : Int} {tt : Tok}
  (e7 : (L + 7, o7) ∈ nw) (d7 : o7.data = .cell (some (.int top tt))) (e14 : (L + 14, o14) ∈ nw) (d14 : o14.data = .cell (some (.ref Bk)))
  (hB : (Bk, W.listOf vs.toArray k) ∈ nw) (hbs : Are (IsBook prog w nw) vs bs) (hn : top + 1 = n) (hn' : n ≤ 100) (hbl : bs.length = n) (hok : ∀ (i : Nat) b, bs[i]? = some b → b.tab.length ≤ 500)
  (q : ∀ h' tk' (D : Addr) oD, IsD prog w oD (countedP bs n) → (D == sysModules) = false → (∀ p ∈ nw, @Ne Nat p.1 D) → Fr h₀ L h' (fun y => if y = Str.ofString "counted" then some (.ref D) else m y) → News h₀ L h' ((D, oD) :: nw) → Q .next { s with heap := h', toks := tk' }) :
  wpAny (model prog w) (lawA w L) (exec (st w 23) (lawEnv w L)) Q E s := by
  (with_unfolding_all change wpAny (model _ _) (callerA.deeper (envOfC (Str.ofString "law") (Scope.mk _ _ _ _ _) _ 158 (.ref 157))) (exec (.Assign _ _ _) (envOfC (Str.ofString "law") (Scope.mk _ _ _ _ _) _ 158 (.ref 157))) _ _ _)
  k_dflt (refine' dictCompA (h₀ := h₀) (L := L) (m := m) T.nolimit ?a1 ?a2 ?a3 ?a4 ?a5 ?a6 ?a7 ?a8 ?ab; (case a1 => exact rfl); (case a2 => exact rfl); (case a3 => rfl); (case a4 => decide); (case a5 => rfl); (case a6 => decide); (case a7 => rfl); (case a8 => rfl))
  (repeat' first | with_reducible ((with_reducible show wpAny _ _ (getItem (Value.ref _) (Value.int _ _)) _ _ _); (k_here; k_dflt (refine d_getItem (by k_tabat) (by assumption) ?_); intro _)) | with_reducible (k_here; (with_reducible show wpAny _ _ (subscriptTail _ _ (Value.ref _) (Value.int _ _)) _ _ _); k_dflt (first | (refine' r_item ?k1 ?k2 ?k3 ?k4 ?k5 ?_ ?k6 ?k7; (case k1 => k_asm); (case k2 => k_mem); (case k5 => with_reducible assumption); (case k3 => lia); (case k4 => lia); (case k6 => rfl); (case k7 => (intro _; rfl))) | (refine' item_tupleT ?t ?a ?b ?c ?_; (case t => exact News.isTup (by k_asm) (by k_mem)); (case a => decide); (case b => decide); (case c => rfl)))) | (walk_at "STEP" <;> (try dsimp only)))
  rename_i h5 tk5 r1 r2 r3 hr F5 N5 _
  rw [hn] at hr
  refine iterRange rfl F5 N5 hr (rsmall (by lia) (by lia) (by lia) (by lia)) (rsize n (by lia)) fun I fp St o B F1 N1 hlt => ⟨I, fp, St, _, _, _, nw, fun l => l = countedP bs n, rfl, B, F1, N1, ne_of_allLt hlt, ?_, ?_⟩
  · intro C D oC oD h tk R B1 off hCD hCn hDn hC hD loD F2 N2 q2
    refine dloop (fun i _ acc => acc = countedP bs i) rfl rfl rfl (turnO ..) (w_restO fun _ => rfl) rfl rfl rfl B1 F2 N2 off (fun _ _ => trivial) hCD hCn hC hD rfl ?_ ?_
    · intro i v oI oC2 oD2 m' m2 acc h3 tk3 PE E' hi hP hK _ hx2 hC2 hD2 F3 N3 q3
      obtain ⟨t, rfl⟩ := hP
      rw [Int.zero_add] at hx2
      have hi2 : i < bs.length := hbl ▸ hi
      obtain ⟨b9, hx⟩ : ∃ b, bs[((i : Nat) : Int).toNat]? = some b := ⟨_, List.getElem?_eq_getElem hi2⟩
      obtain ⟨v9, hv9, Tb, Db, od, u1, u2, u3, u4, kb, rfl, hb1, hb2, hb3, hb4⟩ := hbs.get _ _ hx
      have hnd := hb3.nodup
      have hk0 := hb3.choose_spec.1
      have hf0 := hb3.choose_spec.2
      clear q q2 F1 N1 F2 N2 F5 N5
      unfold WO
      (try dsimp only)
      (repeat' first | with_reducible ((with_reducible show wpAny _ _ (getItem (Value.ref _) (Value.int _ _)) _ _ _); (k_here; k_dflt (refine d_getItem (by k_tabat) (by assumption) ?_); intro _)) | with_reducible (k_here; (with_reducible show wpAny _ _ (subscriptTail _ _ (Value.ref _) (Value.int _ _)) _ _ _); k_dflt (first | (refine' r_item ?k1 ?k2 ?k3 ?k4 ?k5 ?_ ?k6 ?k7; (case k1 => k_asm); (case k2 => k_mem); (case k5 => with_reducible assumption); (case k3 => lia); (case k4 => lia); (case k6 => rfl); (case k7 => (intro _; rfl))) | (refine' item_tupleT ?t ?a ?b ?c ?_; (case t => exact News.isTup (by k_asm) (by k_mem)); (case a => decide); (case b => decide); (case c => rfl)))) | (walk_at "STEP" <;> (try dsimp only)))
      (try dsimp only)
      have hDI : @Ne Nat D I := off (D, oD) (.tail _ (.head _))
      have hCI : @Ne Nat C I := off (C, oC) (.head _)
      have hnI : ∀ p ∈ nw, @Ne Nat p.1 I := fun p hp => off p (.tail _ (.tail _ hp))
      have htl := hok i b9 hx
      have hal := countedP_len hok i
      rw [← hK] at hal
      have hnx : countedP bs (i + 1) = cntRow (i : Nat) b9.tab acc := by
        show cntRow _ _ _ = _
        rw [← hK]
        have hx' : bs[i]? = some b9 := hx
        rw [hx']; rfl
      refine iterDict rfl F3 N3 (.tail _ (.tail _ (.tail _ hb2))) hb3 hb4 fun I2 fp2 St2 o2 B2 F4 N4 hlt2 => ?_
      have hlt3 : @LT.lt Nat _ I I2 ∧ @LT.lt Nat _ C I2 ∧ @LT.lt Nat _ D I2 ∧ AllLt I2 nw := hlt2
      have N5 : News h₀ L (h3.push o2) ((C, oC2) :: (D, oD2) :: (I, oI) :: nw) := cb_drop N4 (subs_cons (.tail _ (.head _)) (subs_cons (.tail _ (.tail _ (.head _))) (subs_cons (.head _) fun p hp => .tail _ (.tail _ (.tail _ hp)))))
      refine (fun loop => w_start1 rfl loop (B2.W.self 0 _ _ _ B2.st0 loop)) ?_
      refine dloop (nw := (I, oI) :: nw) (fun j m3 ac => m3 (Str.ofString "k") = some (.int ((i : Nat) : Int) t) ∧ ac = cntRow (i : Nat) (b9.tab.take j) acc) rfl rfl rfl (turnI ..) w_restI rfl rfl rfl B2 F4 N5 (List.forall_mem_cons.mpr ⟨Nat.ne_of_lt hlt3.2.1, List.forall_mem_cons.mpr ⟨Nat.ne_of_lt hlt3.2.2.1, List.forall_mem_cons.mpr ⟨Nat.ne_of_lt hlt3.1, ne_of_allLt hlt3.2.2.2⟩⟩⟩) (fun _ _ => .tail _ (.tail _ (.tail _ hb2))) hCD (List.forall_mem_cons.mpr ⟨Ne.symm hCI, hCn⟩) hC2 hD2 ⟨hx2, rfl⟩ ?_ ?_
      · intro j v oI6 oC6 oD6 m6 m7 ac h6 tk6 PE6 E6 hj hP hK6 hm7 hx7 hC7 hD7 F6 N6 q6
        obtain ⟨cc, u, hcc, rfl⟩ := hP
        have hk7 : m7 (Str.ofString "k") = some (.int ((i : Nat) : Int) t) := (hm7 _ (by decide)).trans hK6.1
        have hmem := List.mem_of_getElem? hcc
        have hlk := (look_mem hnd hmem).1
        have hlv := (look_mem hnd hmem).2
        have hacl : ac.length ≤ acc.length + 500 := by
          have h1 := cntRow_len (i : Nat) (b9.tab.take j) acc
          have h2 : (b9.tab.take j).length ≤ b9.tab.length := by rw [List.length_take]; lia
          rw [hK6.2]; lia
        clear q3 F3 N3 F4 N4 N5
        unfold WI
        (try dsimp only)
        (repeat' first | with_reducible ((with_reducible show wpAny _ _ (getItem (Value.ref _) (Value.int _ _)) _ _ _); (k_here; k_dflt (refine d_getItem (by k_tabat) (by assumption) ?_); intro _)) | with_reducible (k_here; (with_reducible show wpAny _ _ (subscriptTail _ _ (Value.ref _) (Value.int _ _)) _ _ _); k_dflt (first | (refine' r_item ?k1 ?k2 ?k3 ?k4 ?k5 ?_ ?k6 ?k7; (case k1 => k_asm); (case k2 => k_mem); (case k5 => with_reducible assumption); (case k3 => lia); (case k4 => lia); (case k6 => rfl); (case k7 => (intro _; rfl))) | (refine' item_tupleT ?t ?a ?b ?c ?_; (case t => exact News.isTup (by k_asm) (by k_mem)); (case a => decide); (case b => decide); (case c => rfl)))) | (walk_at "STEP" <;> (try dsimp only)))
        rename Fr h₀ L _ _ => F7
        rename News h₀ L _ _ => N7
        (try dsimp only)
        refine d_set (N7 _ (.tail _ (.tail _ (.head _)))).1 hD7 (by lia) ?_
        intro h8 o8 hs8 g8 hD8
        rw [hlv] at hD8
        have U : UpdF D oD6 ((I2, oI6) :: (C, oC6) :: (D, oD6) :: (I, oI) :: nw) (fun o => (I2, oI6) :: (C, oC6) :: (D, o) :: (I, oI) :: nw) := .tail (Nat.ne_of_gt hlt3.2.2.1) (.tail hCD (.head (List.forall_mem_cons.mpr ⟨Ne.symm hDI, hDn⟩)))
        refine q6 _ _ oC6 o8 m7 _ (updFr F7 N7 U hs8) (updN N7 U hs8 g8) hC7 hD8 ⟨hk7, ?_⟩
        rw [List.take_add_one, hcc, hK6.2]
        exact (cntRow_snoc _ _ _ _).symm
      · intro oC6 oD6 m6 ac h6 tk6 hK6 hC6 hD6 F6 N6
        rw [List.take_length] at hK6
        exact q3 _ _ oC6 oD6 m6 ac F6 (cb_drop N6 (by lcg_sub)) hC6 hD6 (hK6.2.trans hnx.symm)
    · intro oC2 oD2 m' acc h3 tk3 hK hC2 hD2 F3 N3
      exact q2 oC2 oD2 m' acc h3 tk3 F3 N3 hC2 hD2 hK
  · intro D oD l h tk e hD loD off F2 N2
    subst e
    exact q h tk D oD hD loD off F2 N2
end
end
section
-- S24
section
variable {prog : Program} {w : World} {h₀ : Heap} {L : Addr} {m : Str → Option Value} {nw : List (Addr × Obj)} {s : Shared} {Q : Flow → Shared → Prop} {E : Value → Shared → Prop} {p : Program} {loose : List Str} {mean : ExcName → Option Value} {mg mb : Str → Option Value}
theorem vars4 {m : Str → Option Value} {x y z u : Str} {a b c d : Value} (h1 : m x = some a) (h2 : m y = some b) (h3 : m z = some c) (h4 : m u = some d) : m = seen [(x, a), (y, b), (z, c), (u, d)] m := map_seen _ (List.forall_mem_cons.mpr ⟨h1, List.forall_mem_cons.mpr ⟨h2, List.forall_mem_cons.mpr ⟨h3, List.forall_mem_cons.mpr ⟨h4, fun _ h => nomatch h⟩⟩⟩⟩)
noncomputable def midZ (ps : List Str) (a b : Int) : List Str := pickL ps (some (1 - a)) (some ((ps.length : Nat) - 1 + b))
set_option maxRecDepth 100000 in
set_option maxHeartbeats 4000000 in
theorem s_moved (B' : Below callerA h₀ [] h₀) (X : (KF w.params).In h₀) (T : Top p loose mean mg mb h₀) (F : Fr h₀ L s.heap m) {o5 o6 o16 : Obj} (N : News h₀ L s.heap ((L + 16, o16) :: nw)) (d : o16.data = .cell none) (hne : ∀ p ∈ nw, p.1 ≠ L + 16)
  {PD SG CD : Addr} {vs : List Value} {ps : List Str} {k kg : Nat} {a b : Int} {ta tb tp t0 t1 : Tok} {pat s0 s1 : Str} {oc : Obj} {c : List (Int × Int)}
  (hm1 : m (Str.ofString "pieces") = some (.ref PD)) (hm2 : m (Str.ofString "ahead") = some (.int a ta)) (hm3 : m (Str.ofString "behind") = some (.int b tb)) (hm4 : m (Str.ofString "counted") = some (.ref CD))
  (hP : (PD, W.listOf vs.toArray k) ∈ nw) (hvs : Are IsStr vs ps) (hpl : ps.length ≤ 3) (hpy : ∀ y ∈ ps, y.length ≤ 3)
  (e5 : (L + 5, o5) ∈ nw) (d5 : o5.data = .cell (some (.ref SG))) (hG : (SG, W.listOf #[.str s0 t0, .str s1 t1] kg) ∈ nw) (e6 : (L + 6, o6) ∈ nw) (d6 : o6.data = .cell (some (.str pat tp)))
  (hC : (CD, oc) ∈ nw) (hc : IsD prog w oc c) (lo : (CD == sysModules) = false) (hcl : c.length ≤ 64)
  (q : ∀ h' tk' o16' (D : Addr) o ex, o16'.data = .cell (some (.ref D)) → (D, o) ∈ ex ++ nw → IsD prog w o (movedC c (hasDots pat) (midZ ps a b) s0) → (D == sysModules) = false → Apart ex nw → (∀ p ∈ ex ++ nw, p.1 ≠ L + 16) → Fr h₀ L h' m → News h₀ L h' ((L + 16, o16') :: (ex ++ nw)) → Q .next { s with heap := h', toks := tk' }) :
  wpAny (model prog w) (lawA w L) (exec (st w 24) (lawEnv w L)) Q E s := by
  (with_unfolding_all change wpAny (model _ _) (callerA.deeper (envOfC (Str.ofString "law") (Scope.mk _ _ _ _ _) _ 158 (.ref 157))) (exec (.Assign _ _ _) (envOfC (Str.ofString "law") (Scope.mk _ _ _ _ _) _ 158 (.ref 157))) _ _ _)
  have e := vars4 hm1 hm2 hm3 hm4
  simp only [seen, List.foldr] at e
  rw [e] at F
  have hvl := hvs.length
  have hb : midZ ps a b = pickL ps (some (1 - a)) (some ((vs.length : Nat) - 1 + b)) := by rw [hvl]; rfl
  rw [hb] at q
  have hq1 : (pickL ps (some (1 - a)) (some ((vs.length : Nat) - 1 + b))).length ≤ 3 := Nat.le_trans (pick_len _ _ _) hpl
  have hq2 : ∀ y ∈ pickL ps (some (1 - a)) (some ((vs.length : Nat) - 1 + b)), y.length ≤ 3 := fun y hy => hpy y (pick_mem hy)
  (repeat' first | with_reducible (k_here; (with_reducible show wpAny _ _ (subscriptTail _ _ (Value.ref _) (Value.int _ _)) _ _ _); k_dflt (refine' r_item ?N ?m ?a ?b ?x ?_; (case N => k_asm); (case m => k_mem); (case x => rfl); (case a => decide); (case b => decide))) | with_reducible (k_here; (with_reducible show wpAny _ _ (call (Value.ref 153) _) _ _ _); k_dflt (refine' conG_use (c_movedG _ _ _ _ _ _ _ _ _ _ _ _ _ _ ?a ?b ?c ?d ?e ?f ?g ?h) ?k1 ?k2 ?k3 ?k4 ?k5 ?kK ?kd ?ku ?_; (case k1 => k_asm); (case k2 => k_asm); (case k3 => k_asm); (case k4 => k_asm); (case k5 => k_asm); (case kK => exact rfl); (case kd => ktr_room); (case ku => ktr_units); (case a => k_mem); (case b => assumption); (case c => assumption); (case d => k_mem); (case e => assumption); (case f => assumption); (case g => assumption); (case h => assumption)); intro _ _ _ _ _ _ _ _ _ _ _) | with_reducible ((with_reducible show wpAny _ _ (call (Value.builtin "len") [Value.ref _]) _ _ _); k_dflt (refine' r_len ?N ?m ?z ?_; (case N => k_asm); (case m => k_mem); (case z => first | assumption | omega))) | walk_at "STEP")
  k_dflt (refine' r_slice ?sF ?sN ?sm hvs ?sp ?sq ?sz ?_; (case sF => k_asm); (case sN => k_asm); (case sm => k_mem); (case sp => kmk_part); (case sq => kmk_part); (case sz => omega))
  intro D1 us1 h1 hu1 hlt1 F1 N1
  (try dsimp only)
  (repeat' first | with_reducible (k_here; (with_reducible show wpAny _ _ (subscriptTail _ _ (Value.ref _) (Value.int _ _)) _ _ _); k_dflt (refine' r_item ?N ?m ?a ?b ?x ?_; (case N => k_asm); (case m => k_mem); (case x => rfl); (case a => decide); (case b => decide))) | with_reducible (k_here; (with_reducible show wpAny _ _ (call (Value.ref 153) _) _ _ _); k_dflt (refine' conG_use (c_movedG _ _ _ _ _ _ _ _ _ _ _ _ _ _ ?a ?b ?c ?d ?e ?f ?g ?h) ?k1 ?k2 ?k3 ?k4 ?k5 ?kK ?kd ?ku ?_; (case k1 => k_asm); (case k2 => k_asm); (case k3 => k_asm); (case k4 => k_asm); (case k5 => k_asm); (case kK => exact rfl); (case kd => ktr_room); (case ku => ktr_units); (case a => k_mem); (case b => assumption); (case c => assumption); (case d => k_mem); (case e => assumption); (case f => assumption); (case g => assumption); (case h => assumption)); intro _ _ _ _ _ _ _ _ _ _ _) | with_reducible ((with_reducible show wpAny _ _ (call (Value.builtin "len") [Value.ref _]) _ _ _); k_dflt (refine' r_len ?N ?m ?z ?_; (case N => k_asm); (case m => k_mem); (case z => first | assumption | omega))) | walk_at "STEP")
  rename_i ex D o hl hm hD loD h2 tk2 F2 N2
  have N3 : News h₀ L h2 ((L + 16, o16) :: (ex ++ nw)) := cb_drop N2 (subs_cons (List.mem_append_right _ (.tail _ (.head _))) (subs_app fun p hp => .tail _ (.tail _ hp)))
  have hne3 : ∀ p ∈ ex ++ nw, p.1 ≠ L + 16 := List.forall_mem_append.mpr ⟨fun p hp => Nat.ne_of_gt (hl p hp).2.1, hne⟩
  have hap3 : Apart ex nw := fun p hp => ne_of_allLt (hl p hp).2.2
  have hmD : (D, o) ∈ ex ++ nw := hm.elim (List.mem_append_left _) fun h => List.mem_append_right _ (by rw [h.1, h.2]; exact hC)
  clear N2 hl hm N1 F1
  (repeat' first | with_reducible (k_here; (with_reducible show wpAny _ _ (subscriptTail _ _ (Value.ref _) (Value.int _ _)) _ _ _); k_dflt (refine' r_item ?N ?m ?a ?b ?x ?_; (case N => k_asm); (case m => k_mem); (case x => rfl); (case a => decide); (case b => decide))) | with_reducible (k_here; (with_reducible show wpAny _ _ (call (Value.ref 153) _) _ _ _); k_dflt (refine' conG_use (c_movedG _ _ _ _ _ _ _ _ _ _ _ _ _ _ ?a ?b ?c ?d ?e ?f ?g ?h) ?k1 ?k2 ?k3 ?k4 ?k5 ?kK ?kd ?ku ?_; (case k1 => k_asm); (case k2 => k_asm); (case k3 => k_asm); (case k4 => k_asm); (case k5 => k_asm); (case kK => exact rfl); (case kd => ktr_room); (case ku => ktr_units); (case a => k_mem); (case b => assumption); (case c => assumption); (case d => k_mem); (case e => assumption); (case f => assumption); (case g => assumption); (case h => assumption)); intro _ _ _ _ _ _ _ _ _ _ _) | with_reducible ((with_reducible show wpAny _ _ (call (Value.builtin "len") [Value.ref _]) _ _ _); k_dflt (refine' r_len ?N ?m ?z ?_; (case N => k_asm); (case m => k_mem); (case z => first | assumption | omega))) | walk_at "STEP")
  rename_i h5 o3 F3 N3 d3
  (try dsimp only)
  rw [← e] at F3
  exact q _ _ o3 D o ex d3 hmD hD loD hap3 hne3 F3 (by k_asm)
end
end
section
-- S25
noncomputable def keepL (top : Int) (p : Int × Int) : Bool := (p.2 != 0) && decide (p.1.fmod 16 + p.1.fdiv 16 ≤ top)
noncomputable def putL (acc : List (Int × Int)) (ps : List (Int × Int)) : List (Int × Int) := ps.foldl (fun acc p => kdfPut acc p.1 p.2) acc
noncomputable def leftZ (c : List (Int × Int)) (top : Int) : List (Int × Int) := putL [] (c.filter (keepL top))
theorem putL_len (ps acc : List (Int × Int)) : (putL acc ps).length ≤ acc.length + ps.length := by
  induction ps generalizing acc with
  | nil => exact Nat.le_refl _
  | cons p r ih => have h1 := ih (kdfPut acc p.1 p.2); have h2 := kdfPut_len acc p.1 p.2; simp only [putL, List.foldl_cons, List.length_cons] at *; lia
theorem putL_snoc (ps acc : List (Int × Int)) (p : Int × Int) : putL acc (ps ++ [p]) = kdfPut (putL acc ps) p.1 p.2 := by simp [putL]
theorem left_skip {c acc : List (Int × Int)} {top : Int} {i : Nat} {cc : Int × Int} (hK : acc = putL [] ((c.take i).filter (keepL top))) (hcc : c[i]? = some cc) (h : keepL top cc = false) : acc = putL [] ((c.take (i + 1)).filter (keepL top)) := by
  rw [List.take_add_one, hcc, List.filter_append, hK]
  simp [h]
theorem left_put {c acc : List (Int × Int)} {top : Int} {i : Nat} {cc : Int × Int} (hK : acc = putL [] ((c.take i).filter (keepL top))) (hcc : c[i]? = some cc) (h : keepL top cc = true) : kdfPut acc cc.1 cc.2 = putL [] ((c.take (i + 1)).filter (keepL top)) := by
  rw [List.take_add_one, hcc, List.filter_append]
  show _ = putL [] (_ ++ List.filter (keepL top) [cc])
  rw [List.filter_cons_of_pos h, List.filter_nil, putL_snoc, hK]
theorem keep_t {top x : Int} {cc : Int × Int} (hl : x = cc.2) (h1 : x ≠ 0) (h2 : cc.1.fmod 16 + cc.1.fdiv 16 ≤ top) : keepL top cc = true := by unfold keepL; rw [← hl]; simp [h1, h2]
theorem keep_f {top x : Int} {cc : Int × Int} (hl : x = cc.2) (h1 : x = 0) : keepL top cc = false := by unfold keepL; rw [← hl, h1]; simp
theorem keep_g {top : Int} {cc : Int × Int} (h2 : ¬ cc.1.fmod 16 + cc.1.fdiv 16 ≤ top) : keepL top cc = false := by unfold keepL; simp [h2]
theorem left_len {c acc : List (Int × Int)} {top : Int} {i : Nat} (hK : acc = putL [] ((c.take i).filter (keepL top))) : acc.length ≤ c.length := by
  have h1 := putL_len ((c.take i).filter (keepL top)) []
  have h2 : ((c.take i).filter (keepL top)).length ≤ (c.take i).length := List.length_filter_le _ _
  have h3 : (c.take i).length ≤ c.length := by rw [List.length_take]; lia
  rw [← hK] at h1
  simp only [List.length_nil] at h1
  lia
section
variable {prog : Program} {w : World} {h₀ : Heap} {L : Addr} {m : Str → Option Value} {nw : List (Addr × Obj)} {s : Shared} {Q : Flow → Shared → Prop} {E : Value → Shared → Prop} {p : Program} {loose : List Str} {mean : ExcName → Option Value} {mg mb : Str → Option Value}
set_option maxRecDepth 100000 in
set_option maxHeartbeats 4000000 in
theorem s_left (B' : Below callerA h₀ [] h₀) (X : (KF w.params).In h₀) (T : Top p loose mean mg mb h₀) (F : Fr h₀ L s.heap m) {o7 o16 : Obj} (N : News h₀ L s.heap nw)
  {MD : Addr} {oM : Obj} {c : List (Int × Int)} {top : Int} {tt : Tok} (e7 : (L + 7, o7) ∈ nw) (d7 : o7.data = .cell (some (.int top tt))) (e16 : (L + 16, o16) ∈ nw) (d16 : o16.data = .cell (some (.ref MD)))
  (hM : (MD, oM) ∈ nw) (hc : IsD prog w oM c) (lo : (MD == sysModules) = false) (hsz : c.length ≤ 10000)
  (q : ∀ h' tk' (D : Addr) oD, IsD prog w oD (leftZ c top) → (D == sysModules) = false → (∀ p ∈ nw, @Ne Nat p.1 D) → Fr h₀ L h' (fun y => if y = Str.ofString "left" then some (.ref D) else m y) → News h₀ L h' ((D, oD) :: nw) → Q .next { s with heap := h', toks := tk' }) :
  wpAny (model prog w) (lawA w L) (exec (st w 25) (lawEnv w L)) Q E s := by
  (with_unfolding_all change wpAny (model _ _) (callerA.deeper (envOfC (Str.ofString "law") (Scope.mk _ _ _ _ _) _ 158 (.ref 157))) (exec (.Assign _ _ _) (envOfC (Str.ofString "law") (Scope.mk _ _ _ _ _) _ 158 (.ref 157))) _ _ _)
  k_dflt (refine' dictCompA (h₀ := h₀) (L := L) (m := m) T.nolimit ?a1 ?a2 ?a3 ?a4 ?a5 ?a6 ?a7 ?a8 ?ab; (case a1 => exact rfl); (case a2 => exact rfl); (case a3 => rfl); (case a4 => decide); (case a5 => rfl); (case a6 => decide); (case a7 => rfl); (case a8 => rfl))
  (repeat' first | with_reducible ((with_reducible show wpAny _ _ (getItem (Value.ref _) (Value.int _ _)) _ _ _); (k_here; k_dflt (refine d_getItem (by k_tabat) (by assumption) ?_); intro _)) | walk_at "STEP")
  refine iterDict rfl F N hM hc lo fun I fp St o B F1 N1 hlt => ⟨I, fp, St, _, _, _, nw, fun l => l = leftZ c top, rfl, B, F1, N1, ne_of_allLt hlt, ?_, ?_⟩
  · intro C D oC oD h tk R B1 off hCD hCn hDn hC hD loD F2 N2 q2
    have hnd := hc.nodup
    have hk0 := hc.choose_spec.1
    have hf0 := hc.choose_spec.2
    refine dloop (fun i _ acc => acc = putL [] ((c.take i).filter (keepL top))) rfl rfl rfl (turnT ..) w_restT rfl rfl rfl B1 F2 N2 off (fun _ _ => .tail _ (.tail _ hM)) hCD hCn hC hD rfl ?_ ?_
    · intro i v oI oC2 oD2 m' m2 acc h3 tk3 PE E' hi hP hK _ hx2 hC2 hD2 F3 N3 q3
      obtain ⟨cc, t, hcc, rfl⟩ := hP
      have hmem := List.mem_of_getElem? hcc
      have hlk := (look_mem hnd hmem).1
      have hlv := (look_mem hnd hmem).2
      clear q q2 F1 N1 F2 N2
      unfold WT WI
      (try dsimp only)
      have hDI : @Ne Nat I D := Ne.symm (off (D, oD) (.tail _ (.head _)))
      (repeat' first | with_reducible ((with_reducible show wpAny _ _ (getItem (Value.ref _) (Value.int _ _)) _ _ _); (k_here; k_dflt (refine d_getItem (by k_tabat) (by assumption) ?_); intro _)) | walk_at "STEP")
      all_goals (try dsimp only)
      all_goals first
        | (have g3 := (N3 (D, oD2) (.tail _ (.tail _ (.head _)))).1
           have hkp : keepL top cc = true := keep_t hlv (by assumption) (by assumption)
           have hln := left_len hK
           refine d_set g3 hD2 (by lia) ?_
           intro h4 o4 hs4 g4 hD4
           rw [hlv] at hD4
           have U : UpdF D oD2 ((I, oI) :: (C, oC2) :: (D, oD2) :: nw) (fun o => (I, oI) :: (C, oC2) :: (D, o) :: nw) := .tail hDI (.tail hCD (.head hDn))
           exact q3 _ _ oC2 o4 m2 _ (updFr F3 N3 U hs4) (updN N3 U hs4 g4) hC2 hD4 (left_put hK hcc hkp))
        | exact q3 _ _ oC2 oD2 m2 acc F3 N3 hC2 hD2 (left_skip hK hcc (keep_f hlv (by assumption)))
        | exact q3 _ _ oC2 oD2 m2 acc F3 N3 hC2 hD2 (left_skip hK hcc (keep_g (by assumption)))
    · intro oC2 oD2 m' acc h3 tk3 hK hC2 hD2 F3 N3
      rw [List.take_length] at hK
      exact q2 oC2 oD2 m' acc h3 tk3 F3 N3 hC2 hD2 hK
  · intro D oD l h tk e hD loD off F2 N2
    subst e
    exact q h tk D oD hD loD off F2 N2
end
end
section
-- S26
theorem eq_dicts {prog : Program} {w : World} {A : Around} {E : Value → Shared → Prop} {s : Shared} {h₀ : Heap} {L : Addr} {news : List (Addr × Obj)} {a b : Addr} {oa ob : Obj} {z y : Int} {Q : Value → Shared → Prop} (N : News h₀ L s.heap news) (ha : (a, oa) ∈ news) (hb : (b, ob) ∈ news)
    (da : IsD prog w oa [(z, y)]) (db : IsD prog w ob [(z, y)]) (la : (a == sysModules) = false) (lb : (b == sysModules) = false) (hu : A.units < cLine) (h : Q (.bool true) s) : wpAny (model prog w) A (compareOp .Eq (.ref a) (.ref b)) Q E s := by
  obtain ⟨ka, h1, h2⟩ := da
  obtain ⟨kb, h3, h4⟩ := db
  refine keq_tabs (knd := PySem.intKind _ _) (enc := PyData.int) PyProof.V.same_int (TabAt.ofNews N ha la h1 h2) (TabAt.ofNews N hb lb h3 h4) rfl hu (r := true) ?_ h
  have e : kdfD [(z, y)] = [(PyData.int z, PyData.int y)] := rfl
  rw [e]
  have h5 : (true : Bool) = (PyData.eqv (.int y) (.int y) && true) := by simp [PyData.eqv]
  rw [h5]
  exact KeqRows.hit (by simp [PySem.Spec.lookup, PySem.Spec.same]) KeqRows.nil
section
variable {prog : Program} {w : World} {h₀ : Heap} {L : Addr} {m : Str → Option Value} {nw : List (Addr × Obj)} {s : Shared} {Q : Flow → Shared → Prop} {E : Value → Shared → Prop} {p : Program} {loose : List Str} {mean : ExcName → Option Value} {mg mb : Str → Option Value}
set_option maxRecDepth 100000 in
set_option maxHeartbeats 4000000 in
theorem s_return (B' : Below callerA h₀ [] h₀) (X : (KF w.params).In h₀) (T : Top p loose mean mg mb h₀) (F : Fr h₀ L s.heap m) {o5 : Obj} (N : News h₀ L s.heap nw)
  {PD SG LD : Addr} {vs : List Value} {ps : List Str} {k kg : Nat} {t0 t1 : Tok} {s0 s1 : Str} {oL : Obj}
  (hm1 : m (Str.ofString "pieces") = some (.ref PD)) (hm2 : m (Str.ofString "left") = some (.ref LD))
  (hP : (PD, W.listOf vs.toArray k) ∈ nw) (hvs : Are IsStr vs ps) (hpl : ps.length ≤ 3) (hpy : ∀ y ∈ ps, y.length ≤ 3)
  (e5 : (L + 5, o5) ∈ nw) (d5 : o5.data = .cell (some (.ref SG))) (hG : (SG, W.listOf #[.str s0 t0, .str s1 t1] kg) ∈ nw)
  (hL : (LD, oL) ∈ nw) (hl : IsD prog w oL [(prodZ (Txt.join "" ps) s0, 1)]) (lo : (LD == sysModules) = false)
  (q : ∀ h' tk', Fr h₀ L h' m → News h₀ L h' nw → Q (.ret (.bool true)) { s with heap := h', toks := tk' }) :
  wpAny (model prog w) (lawA w L) (exec (st w 26) (lawEnv w L)) Q E s := by
  (with_unfolding_all change wpAny (model _ _) (callerA.deeper (envOfC (Str.ofString "law") (Scope.mk _ _ _ _ _) _ 158 (.ref 157))) (exec (.Return _ _) (envOfC (Str.ofString "law") (Scope.mk _ _ _ _ _) _ 158 (.ref 157))) _ _ _)
  have e := vars2 hm1 hm2
  simp only [seen, List.foldr] at e
  rw [e] at F
  have hw := weight_le (ss := ps) (n := 3) hpy
  have hjl : (Txt.join "" ps).length ≤ 1000 := Nat.le_trans (join_le hpy) (Nat.le_trans (Nat.mul_le_mul_right _ hpl) (by decide))
  (repeat' first | with_reducible ((with_reducible show wpAny _ _ (call (Value.builtin "str.join") _) _ _ _); (k_here; k_dflt (refine' r_join ?N ?m ?v ?a ?b ?_; (case N => k_asm); (case m => k_mem); (case v => exact strsOf (by with_reducible assumption)); (case a => decide); (case b => lia)); intro _ _)) | with_reducible (k_here; (with_reducible show wpAny _ _ (subscriptTail _ _ (Value.ref _) (Value.int _ _)) _ _ _); k_dflt (refine' r_item ?N ?m ?a ?b ?x ?_; (case N => k_asm); (case m => k_mem); (case x => rfl); (case a => decide); (case b => decide))) | with_reducible (k_here; (with_reducible show wpAny _ _ (call (Value.ref 139) _) _ _ _); k_dflt (refine' conG_use (c_prodG _ _ _ _ _ _ _ ?a) ?k1 ?k2 ?k3 ?k4 ?k5 ?kK ?kd ?ku ?_; (case k1 => k_asm); (case k2 => k_asm); (case k3 => k_asm); (case k4 => k_asm); (case k5 => k_asm); (case kK => exact rfl); (case kd => ktr_room); (case ku => ktr_units); (case a => assumption)); intro _ _ _ _ _) | with_reducible ((with_reducible show wpAny _ _ (eval (Expr.Dict (_ :: _) _ _) _) _ _ _); k_dflt (refine' kdn_eval (knd := PySem.intKind _ _) ?F ?N ?b ?a ?l ?e ?n ?_; (case F => k_asm); (case N => k_asm); (case b => exact Top.nolimit (by k_asm)); (case a => rfl); (case l => rfl); (case e => exact List.cons_ne_nil _ _); (case n => exact Nat.le_of_ble_eq_true rfl)); intro d' h' o' F' N' l1 lo' hd'; (try k_lt l1); revert d' h' o' F' N' l1 lo' hd'; intros) | walk_at "STEP")
  rename_i dd h2 o1 F2 N2 l1 lod hd0 t9 k9 t8 h1 tk1 F1 N1 h0 o0 F0 N0 hd hf
  have hdd : IsD prog w o0 [(prodZ (Txt.join "" ps) s0, 1)] := ⟨_, hd, hf⟩
  clear hd hf hd0 F2 N2 F1 N1
  k_dflt (refine eq_dicts N0 (.tail _ hL) (.head _) hl hdd lo lod (Nat.le_of_ble_eq_true rfl) ?_)
  rw [← e] at F0
  exact q _ _ F0 (cb_drop N0 (by lcg_sub))
end
end
section
-- LawSt
/-- the cells of law -/
noncomputable def cellsL (L : Addr) (f : Nat → Obj) : List (Addr × Obj) := (List.range 16).map fun i => (L + (i + 1), f (i + 1))
noncomputable def upd (f : Nat → Obj) (j : Nat) (o : Obj) : Nat → Obj := fun i => if i = j then o else f i
noncomputable def restL (L : Addr) (f : Nat → Obj) (tb : Obj) (im : List (Addr × Obj)) (j : Nat) : List (Addr × Obj) := (114, tb) :: ((cellsL L f).filter (fun p => p.1 != L + j) ++ im)
noncomputable def fullL (L : Addr) (f : Nat → Obj) (tb : Obj) (im : List (Addr × Obj)) : List (Addr × Obj) := (114, tb) :: (cellsL L f ++ im)
theorem cell_in {L : Addr} {f : Nat → Obj} {i : Nat} (h1 : 1 ≤ i) (h2 : i ≤ 16) : (L + i, f i) ∈ cellsL L f := List.mem_map.mpr ⟨i - 1, List.mem_range.mpr (by lia), by rw [Nat.sub_add_cancel h1]⟩
theorem cells_inv {L : Addr} {f : Nat → Obj} {p : Addr × Obj} (h : p ∈ cellsL L f) : ∃ i : Nat, 1 ≤ i ∧ i ≤ 16 ∧ p = (L + i, f i) := by
  obtain ⟨i, hi, rfl⟩ := List.mem_map.mp h
  have := List.mem_range.mp hi
  exact ⟨i + 1, by lia, by lia, rfl⟩
theorem rest_cell {L : Addr} {f : Nat → Obj} {tb : Obj} {im : List (Addr × Obj)} {j i : Nat} (h1 : 1 ≤ i) (h2 : i ≤ 16) (hj : i ≠ j) : (L + i, f i) ∈ restL L f tb im j :=
  .tail _ (List.mem_append_left _ (List.mem_filter.mpr ⟨cell_in h1 h2, by simp only [bne_iff_ne, ne_eq]; intro e; exact hj (Nat.add_left_cancel e)⟩))
theorem rest_im {L : Addr} {f : Nat → Obj} {tb : Obj} {im : List (Addr × Obj)} {j : Nat} {p : Addr × Obj} (h : p ∈ im) : p ∈ restL L f tb im j := .tail _ (List.mem_append_right _ h)
theorem full_cell {L : Addr} {f : Nat → Obj} {tb : Obj} {im : List (Addr × Obj)} {i : Nat} (h1 : 1 ≤ i) (h2 : i ≤ 16) : (L + i, f i) ∈ fullL L f tb im := .tail _ (List.mem_append_left _ (cell_in h1 h2))
theorem full_im {L : Addr} {f : Nat → Obj} {tb : Obj} {im : List (Addr × Obj)} {p : Addr × Obj} (h : p ∈ im) : p ∈ fullL L f tb im := .tail _ (List.mem_append_right _ h)
theorem rest_inv {L : Addr} {f : Nat → Obj} {tb : Obj} {im : List (Addr × Obj)} {j : Nat} {p : Addr × Obj} (h : p ∈ restL L f tb im j) : p = (114, tb) ∨ (∃ i : Nat, 1 ≤ i ∧ i ≤ 16 ∧ i ≠ j ∧ p = (L + i, f i)) ∨ p ∈ im := by
  rcases List.mem_cons.mp h with h | h
  · exact .inl h
  · rcases List.mem_append.mp h with h | h
    · obtain ⟨h, hn⟩ := List.mem_filter.mp h
      obtain ⟨i, h1, h2, rfl⟩ := cells_inv h
      exact .inr (.inl ⟨i, h1, h2, fun e => by simp [e] at hn, rfl⟩)
    · exact .inr (.inr h)
theorem full_inv {L : Addr} {f : Nat → Obj} {tb : Obj} {im : List (Addr × Obj)} {p : Addr × Obj} (h : p ∈ fullL L f tb im) : p = (114, tb) ∨ (∃ i : Nat, 1 ≤ i ∧ i ≤ 16 ∧ p = (L + i, f i)) ∨ p ∈ im := by
  rcases List.mem_cons.mp h with h | h
  · exact .inl h
  · rcases List.mem_append.mp h with h | h
    · exact .inr (.inl (cells_inv h))
    · exact .inr (.inr h)
/-- the state of law between two statements -/
structure LwS (h₀ : Heap) (L : Addr) (h : Heap) (m : Str → Option Value) (f : Nat → Obj) (tb : Obj) (im : List (Addr × Obj)) : Prop where
  F : Fr h₀ L h m
  N : News h₀ L h (fullL L f tb im)
  off : ∀ p ∈ im, @Ne Nat p.1 114 ∧ ∀ i : Nat, 1 ≤ i → i ≤ 16 → @Ne Nat p.1 (L + i)
  hL : @LT.lt Nat _ 114 L
section
variable {h₀ h h' : Heap} {L : Addr} {m m' : Str → Option Value} {f : Nat → Obj} {tb : Obj} {im ex : List (Addr × Obj)} {j : Nat} {o : Obj}
theorem LwS.rest_ne (S : LwS h₀ L h m f tb im) (h1 : 1 ≤ j) (h2 : j ≤ 16) : ∀ p ∈ restL L f tb im j, p.1 ≠ L + j := fun p hp => by
  have := S.hL
  rcases rest_inv hp with rfl | ⟨i, _, _, hi, rfl⟩ | hp
  · show @Ne Nat 114 (L + j); lia
  · intro e; exact hi (Nat.add_left_cancel e)
  · exact (S.off p hp).2 j h1 h2
theorem LwS.take (S : LwS h₀ L h m f tb im) (h1 : 1 ≤ j) (h2 : j ≤ 16) : News h₀ L h ((L + j, f j) :: restL L f tb im j) := cb_drop S.N fun p hp => by
  rcases List.mem_cons.mp hp with rfl | hp
  · exact full_cell h1 h2
  · rcases rest_inv hp with rfl | ⟨i, i1, i2, _, rfl⟩ | hp
    · exact .head _
    · exact full_cell i1 i2
    · exact full_im hp
/-- a cell is laid anew, and new objects -/
theorem LwS.put {tb' : Obj} (S : LwS h₀ L h m f tb im) (h1 : 1 ≤ j) (h2 : j ≤ 16) (F : Fr h₀ L h' m') (N : News h₀ L h' ((L + j, o) :: (ex ++ restL L f tb' im j))) (ha : Apart ex (restL L f tb' im j)) (hj : ∀ p ∈ ex, @Ne Nat p.1 (L + j)) : LwS h₀ L h' m' (upd f j o) tb' (ex ++ im) where
  F := F
  N := cb_drop N fun p hp => by
    rcases full_inv hp with rfl | ⟨i, i1, i2, rfl⟩ | hp
    · exact .tail _ (List.mem_append_right _ (.head _))
    · by_cases e : i = j
      · subst e; rw [upd, if_pos rfl]; exact .head _
      · rw [upd, if_neg e]; exact .tail _ (List.mem_append_right _ (rest_cell i1 i2 e))
    · rcases List.mem_append.mp hp with hp | hp
      · exact .tail _ (List.mem_append_left _ hp)
      · exact .tail _ (List.mem_append_right _ (rest_im hp))
  off := fun p hp => by
    rcases List.mem_append.mp hp with hp | hp
    · refine ⟨Ne.symm (ha p hp _ (.head _)), fun i i1 i2 => ?_⟩
      by_cases e : i = j
      · subst e; exact hj p hp
      · exact Ne.symm (ha p hp _ (rest_cell (f := f) i1 i2 e))
    · exact S.off p hp
  hL := S.hL
/-- no cell is touched; new objects -/
theorem LwS.add (S : LwS h₀ L h m f tb im) (F : Fr h₀ L h' m') (N : News h₀ L h' (ex ++ fullL L f tb im)) (ha : Apart ex (fullL L f tb im)) : LwS h₀ L h' m' f tb (ex ++ im) where
  F := F
  N := cb_drop N fun p hp => by
    rcases full_inv hp with rfl | ⟨i, i1, i2, rfl⟩ | hp
    · exact List.mem_append_right _ (.head _)
    · exact List.mem_append_right _ (full_cell i1 i2)
    · rcases List.mem_append.mp hp with hp | hp
      · exact List.mem_append_left _ hp
      · exact List.mem_append_right _ (full_im hp)
  off := fun p hp => by
    rcases List.mem_append.mp hp with hp | hp
    · exact ⟨Ne.symm (ha p hp _ (.head _)), fun i i1 i2 => Ne.symm (ha p hp _ (full_cell (f := f) i1 i2))⟩
    · exact S.off p hp
  hL := S.hL
theorem LwS.same (S : LwS h₀ L h m f tb im) (F : Fr h₀ L h' m') (N : News h₀ L h' (fullL L f tb im)) : LwS h₀ L h' m' f tb im := ⟨F, N, S.off, S.hL⟩
/-- above a cell of a higher number (16): above every cell -/
theorem above_cells {D : Addr} (hD : @LT.lt Nat _ (L + 16) D) (h2 : j ≤ 16) : @Ne Nat D (L + j) := by
  have : L + j ≤ L + 16 := Nat.add_le_add_left h2 L
  exact Nat.ne_of_gt (Nat.lt_of_le_of_lt this hD)
end
theorem cell_ne {f : Nat → Obj} {j k : Nat} {o : Obj} {d : Data} (x : (f k).data = d) (h : k ≠ j) : (upd f j o k).data = d := by rw [upd, if_neg h]; exact x
theorem cell_eq {f : Nat → Obj} {j : Nat} {o : Obj} {d : Data} (x : o.data = d) : (upd f j o j).data = d := by rw [upd, if_pos rfl]; exact x
theorem cells_none {f : Nat → Obj} {j lo : Nat} {o : Obj} {d : Data} (x : ∀ i : Nat, lo ≤ i → i ≤ 16 → (f i).data = d) (lo' : Nat) (h : lo ≤ lo' ∧ j < lo') : ∀ i : Nat, lo' ≤ i → i ≤ 16 → (upd f j o i).data = d := fun i h1 h2 => cell_ne (x i (by lia) h2) (by lia)
section
variable {h₀ h h' : Heap} {L : Addr} {m m' : Str → Option Value} {f : Nat → Obj} {tb : Obj} {im : List (Addr × Obj)}
/-- as take, the code's table ahead -/
theorem LwS.take8 (S : LwS h₀ L h m f tb im) : News h₀ L h ((114, tb) :: (L + 8, f 8) :: ((cellsL L f).filter (fun p => p.1 != L + 8) ++ im)) := cb_drop (S.take (j := 8) (by decide) (by decide)) fun p hp => by
  rcases List.mem_cons.mp hp with rfl | hp
  · exact .tail _ (.head _)
  · rcases List.mem_cons.mp hp with rfl | hp
    · exact .head _
    · exact .tail _ (.tail _ hp)
theorem LwS.ne8 (S : LwS h₀ L h m f tb im) : ∀ p ∈ (cellsL L f).filter (fun p => p.1 != L + 8) ++ im, p.1 ≠ L + 8 := fun p hp => S.rest_ne (j := 8) (by decide) (by decide) p (.tail _ hp)
theorem LwS.ne114 (S : LwS h₀ L h m f tb im) : ∀ p ∈ (L + 8, f 8) :: ((cellsL L f).filter (fun p => p.1 != L + 8) ++ im), p.1 ≠ 114 := fun p hp => by
  have hL := S.hL
  rcases List.mem_cons.mp hp with rfl | hp
  · show @Ne Nat (L + 8) 114; exact Nat.ne_of_gt (Nat.lt_add_right 8 hL)
  · rcases List.mem_append.mp hp with hp | hp
    · obtain ⟨i, _, _, rfl⟩ := cells_inv (List.mem_filter.mp hp).1
      show @Ne Nat (L + i) 114; exact Nat.ne_of_gt (Nat.lt_add_right i hL)
    · exact (S.off p hp).1
noncomputable def restU (L : Addr) (f : Nat → Obj) (tb : Obj) (im : List (Addr × Obj)) : List (Addr × Obj) := (restL L f tb im 2).filter fun p => p.1 != L + 15
theorem LwS.take22 (S : LwS h₀ L h m f tb im) : News h₀ L h ((L + 2, f 2) :: (L + 15, f 15) :: restU L f tb im) := cb_drop (S.take (j := 2) (by decide) (by decide)) fun p hp => by
  rcases List.mem_cons.mp hp with rfl | hp
  · exact .head _
  · rcases List.mem_cons.mp hp with rfl | hp
    · exact .tail _ (rest_cell (i := 15) (by decide) (by decide) (by decide))
    · exact .tail _ (List.mem_filter.mp hp).1
theorem LwS.ne2 (S : LwS h₀ L h m f tb im) : ∀ p ∈ restU L f tb im, p.1 ≠ L + 2 := fun p hp => S.rest_ne (j := 2) (by decide) (by decide) p (List.mem_filter.mp hp).1
theorem LwS.ne15 (S : LwS h₀ L h m f tb im) : ∀ p ∈ restU L f tb im, p.1 ≠ L + 15 := fun p hp e => by have := (List.mem_filter.mp hp).2; simp [e] at this
theorem LwS.t_cell (_S : LwS h₀ L h m f tb im) {i : Nat} (h1 : 1 ≤ i ∧ i ≤ 16 ∧ i ≠ 2 ∧ i ≠ 15) : (L + i, f i) ∈ restU L f tb im := List.mem_filter.mpr ⟨rest_cell h1.1 h1.2.1 h1.2.2.1, by simp only [bne_iff_ne, ne_eq]; intro e; exact h1.2.2.2 (Nat.add_left_cancel e)⟩
theorem LwS.t_im (S : LwS h₀ L h m f tb im) {p : Addr × Obj} (hp : p ∈ im) : p ∈ restU L f tb im := List.mem_filter.mpr ⟨rest_im hp, by simp only [bne_iff_ne, ne_eq]; exact (S.off p hp).2 15 (by decide) (by decide)⟩
theorem LwS.put22 {o2 o15 : Obj} (S : LwS h₀ L h m f tb im) (F : Fr h₀ L h' m') (N : News h₀ L h' ((L + 2, o2) :: (L + 15, o15) :: restU L f tb im)) : LwS h₀ L h' m' (upd (upd f 2 o2) 15 o15) tb im where
  F := F
  N := cb_drop N fun p hp => by
    rcases full_inv hp with rfl | ⟨i, i1, i2, rfl⟩ | hp
    · refine .tail _ (.tail _ (List.mem_filter.mpr ⟨.head _, ?_⟩))
      have hL := S.hL
      simp only [bne_iff_ne, ne_eq]
      exact Nat.ne_of_lt (Nat.lt_add_right 15 hL)
    · by_cases e : i = 15
      · subst e; rw [upd, if_pos rfl]; exact .tail _ (.head _)
      · rw [upd, if_neg e]
        by_cases e2 : i = 2
        · subst e2; rw [upd, if_pos rfl]; exact .head _
        · rw [upd, if_neg e2]; exact .tail _ (.tail _ (S.t_cell ⟨i1, i2, e2, e⟩))
    · exact .tail _ (.tail _ (S.t_im hp))
  off := S.off
  hL := S.hL
/-- what stood beside a cell stands in the whole -/
theorem in_full {o : Obj} {j : Nat} {ex : List (Addr × Obj)} {p : Addr × Obj} (h : p ∈ ex ++ restL L f tb im j) : p ∈ fullL L (upd f j o) tb (ex ++ im) := by
  rcases List.mem_append.mp h with h | h
  · exact full_im (List.mem_append_left _ h)
  · rcases rest_inv h with rfl | ⟨i, h1, h2, h3, rfl⟩ | h
    · exact .head _
    · have := full_cell (L := L) (f := upd f j o) (tb := tb) (im := ex ++ im) h1 h2
      rw [upd, if_neg h3] at this; exact this
    · exact full_im (List.mem_append_right _ h)
end
structure AtL (prog : Program) (w : World) (L : Addr) (Q : Flow → Shared → Prop) (E : Value → Shared → Prop) (i : Nat) (s : Shared) : Prop where
  run : wpAny (model prog w) (lawA w L) (execs ((lawX w).1.1.drop i) (lawEnv w L)) Q E s
theorem at_step {prog : Program} {w : World} {L : Addr} {Q : Flow → Shared → Prop} {E : Value → Shared → Prop} {s : Shared} (i j : Nat) (hj : i < 27 ∧ j = i + 1) (h : wpAny (model prog w) (lawA w L) (exec (st w i) (lawEnv w L)) (fun f s' => f = .next ∧ AtL prog w L Q E j s') E s) : AtL prog w L Q E i s := by
  have hi := hj.1
  have hj := hj.2
  subst hj
  have hl : i < (lawX w).1.1.length := by rw [len]; exact hi
  refine ⟨?_⟩
  rw [List.drop_eq_getElem_cons hl]
  refine wpAny_execs_cons ?_
  have e : st w i = (lawX w).1.1[i] := by rw [st, List.getD_eq_getElem?_getD, List.getElem?_eq_getElem hl]; rfl
  rw [← e]
  refine wpAny_mono h (fun f s' hq => ?_) fun _ _ e => e
  obtain ⟨rfl, hq⟩ := hq
  exact hq.run
theorem at_last {prog : Program} {w : World} {L : Addr} {Q : Flow → Shared → Prop} {E : Value → Shared → Prop} {s : Shared} (h : wpAny (model prog w) (lawA w L) (exec (st w 26) (lawEnv w L)) (fun f s' => f = .ret (.bool true) ∧ Q f s') E s) : AtL prog w L Q E 26 s := by
  have hl : 26 < (lawX w).1.1.length := by rw [len]; decide
  refine ⟨?_⟩
  rw [List.drop_eq_getElem_cons hl]
  refine wpAny_execs_cons ?_
  have e : st w 26 = (lawX w).1.1[26] := by rw [st, List.getD_eq_getElem?_getD, List.getElem?_eq_getElem hl]; rfl
  rw [← e]
  refine wpAny_mono h (fun f s' hq => ?_) fun _ _ e => e
  obtain ⟨rfl, hq⟩ := hq
  exact hq
end
section
-- Chain
/-- what the plain law owes -/
structure LawFacts (z0 z1 z2 : Int) (n : Nat) (zs : List Int) (a b : Int) (s0 s1 : Str) (ps : List Str) (text : Str) (ts : List Str) (f : Str → Bool) (line : Nat) : Prop where
  hzs : zs = sizesZ z0
  ha : a = (z0.fdiv 12).fmod 2
  hb : b = (z0.fdiv 24).fmod 2
  hs0 : s0 = (signsZ z2).1
  hs1 : s1 = (signsZ z2).2
  hps : ps = piecesZ z1 zs s0 s1
  htext : text = writtenC (ps ++ [Str.ofString "end"]) z1
  z0r : 0 ≤ z0 ∧ z0 < 1000000
  z1r : 0 ≤ z1 ∧ z1 < 1000000
  zl : zs.length ≤ 3
  z3 : ∀ y ∈ zs, 0 ≤ y ∧ y ≤ 3
  sl0 : s0.length ≤ 1
  sl1 : s1.length ≤ 1
  pl : ps.length ≤ 3
  py : ∀ y ∈ ps, y.length ≤ 3
  pok : ps.all PyData.strOk = true
  tl : text.length ≤ 1000
  tx : textsZ text ps.length s0 s1 (topZ n) = (ps, ts ++ [Str.ofString "end"], Str.ofString "", line)
  ln : ((line : Nat) : Int) = 1 + Txt.count text (Str.ofString "\n")
  tsl : ts.length ≤ 500
  ts1 : 1 ≤ ts.length
  tsy : ∀ y ∈ ts, y.length ≤ topZ n
  cmp : ∀ c : Int, 1 ≤ c → c < ts.length → ∃ ya yb, ts[(c - c.fmod 2).toNat]? = some ya ∧ ts[(c - 1 + c.fmod 2).toNat]? = some yb ∧ cmpZ ya.length yb.length ya yb = 1 - c.fmod 2 * 2
  ell : EllOK (patternZ a b ps) f
  inn : Txt.join "" ps ∈ ts.filter f
  fb : ∀ y ∈ ts.filter f, (Txt.slice y none (some (((frontZ ps a).length : Nat) : Int)) != frontZ ps a) = false ∧ (Txt.slice y (some (((y.length : Nat) : Int) - (((backZ ps b).length : Nat) : Int))) none != backZ ps b) = false
  bok : ∀ (i : Nat) bk, (booksZ (ts.filter f) s0 (topZ n + 1))[i]? = some bk → BookOK i bk
  cl : (countedP (booksZ (ts.filter f) s0 (topZ n + 1)) (topZ n + 1)).length ≤ 64
  ml : (movedC (countedP (booksZ (ts.filter f) s0 (topZ n + 1)) (topZ n + 1)) (hasDots (patternZ a b ps)) (midZ ps a b) s0).length ≤ 10000
  left : leftZ (movedC (countedP (booksZ (ts.filter f) s0 (topZ n + 1)) (topZ n + 1)) (hasDots (patternZ a b ps)) (midZ ps a b) s0) (topZ n : Nat) = [(prodZ (Txt.join "" ps) s0, 1)]
noncomputable def wh (s : Shared) (h : Heap) (tk : Nat) : Shared := { s with heap := h, toks := tk }
noncomputable def setM (m : Str → Option Value) (x : Str) (v : Value) : Str → Option Value := fun y => if y = x then some v else m y
theorem mem8 {L : Addr} {f : Nat → Obj} {tb : Obj} {im : List (Addr × Obj)} {p : Addr × Obj} {j : Nat} (h : p ∈ restL L f tb im j) (hn : p.1 ≠ 114) : p ∈ (cellsL L f).filter (fun p => p.1 != L + j) ++ im := (List.mem_cons.mp h).elim (fun e => absurd (congrArg Prod.fst e) hn) id
theorem c114 {L : Addr} (h : @LT.lt Nat _ 114 L) (i : Nat) : @Ne Nat (L + i) 114 := Nat.ne_of_gt (Nat.lt_add_right i h)
theorem ne_tab {h : Heap} {D E : Addr} {ys : List Value} {pp} (a : h.get? D = some (LCg.lst ys)) (b : h.get? E = some (tabObj pp)) : D ≠ E := fun e => by
  subst e
  rw [a] at b
  have := congrArg Obj.cls (Option.some.inj b)
  exact absurd this (by simp [tabObj])
theorem IsOrder.sub {w : World} {nw nw' : List (Addr × Obj)} {x : Addr} (h : IsOrder w nw x) (hs : ∀ p ∈ nw, p ∈ nw') : IsOrder w nw' x := by
  obtain ⟨dx, l, P1, P2, tk, t1, t2, t3, t4, kl, k1, k2, h1, h2, h3, h4, h5⟩ := h
  exact ⟨dx, l, P1, P2, tk, t1, t2, t3, t4, kl, k1, k2, hs _ h1, hs _ h2, hs _ h3, hs _ h4, hs _ h5⟩
theorem IsRow.sub {nw nw' : List (Addr × Obj)} {y : Str} {v : Value} (h : IsRow nw y v) (hs : ∀ p ∈ nw, p ∈ nw') : IsRow nw' y v := by
  obtain ⟨D, t, u, k, e, h1⟩ := h
  exact ⟨D, t, u, k, e, hs _ h1⟩
theorem top_le (n : Nat) : topZ n ≤ 5 := by unfold topZ; split <;> omega
theorem books_len (tk : List Str) (sign : Str) (n : Nat) : (booksZ tk sign n).length = n := by
  have h : ∀ (l : List Str) (bs : List Book), (l.foldl (bookStep sign) bs).length = bs.length := by
    intro l
    induction l with
    | nil => intro bs; rfl
    | cons a r ih => intro bs; rw [List.foldl_cons, ih, bookStep, List.length_set]
  rw [booksZ, h, List.length_replicate]
theorem part_len {ps : List Str} {lo hi : Option Int} (hp : ps.length ≤ 3) (hy : ∀ y ∈ ps, y.length ≤ 3) : (Txt.join "" (pickL ps lo hi)).length ≤ 100 :=
  Nat.le_trans (join_le fun y h => hy y (pick_mem h)) (Nat.le_trans (Nat.mul_le_mul_right _ (Nat.le_trans (pick_len ps lo hi) hp)) (by decide))
theorem fmod2r (z : Int) : 0 ≤ z.fmod 2 ∧ z.fmod 2 < 2 := ⟨Int.fmod_nonneg_of_pos z (by decide), Int.fmod_lt_of_pos z (by decide)⟩
/-- some of a list -/
noncomputable def sel {α : Type} : List Bool → List α → List α
  | b :: bs, a :: l => bif b then a :: sel bs l else sel bs l
  | _, _ => []
theorem sel_mem {α : Type} {a : α} : ∀ (bs : List Bool) (l : List α), a ∈ sel bs l → a ∈ l
  | [], _, h => by simp [sel] at h
  | _ :: _, [], h => by simp [sel] at h
  | true :: bs, b :: l, h => by
    rcases List.mem_cons.mp (show a ∈ b :: sel bs l from h) with rfl | h
    · exact .head _
    · exact .tail _ (sel_mem bs l h)
  | false :: bs, _ :: l, h => .tail _ (sel_mem bs l (show a ∈ sel bs l from h))
noncomputable def Cells (f : Nat → Obj) (cs : List (Nat × Option Value)) : Prop := ∀ q ∈ cs, (f q.1).data = .cell q.2
noncomputable def Vars (m : Str → Option Value) (ms : List (Str × Value)) : Prop := ∀ q ∈ ms, m q.1 = some q.2
noncomputable def Subs (im is : List (Addr × Obj)) : Prop := ∀ p ∈ is, p ∈ im
theorem Cells.at {f : Nat → Obj} {cs : List (Nat × Option Value)} (C : Cells f cs) (k : Nat) {i : Nat} {v : Option Value} (e : cs[k]? = some (i, v)) : (f i).data = .cell v := C _ (List.mem_of_getElem? e)
theorem Cells.sel {f : Nat → Obj} {cs : List (Nat × Option Value)} (C : Cells f cs) (bs : List Bool) : Cells f (sel bs cs) := fun q h => C q (sel_mem bs cs h)
theorem Vars.at {m : Str → Option Value} {ms : List (Str × Value)} (M : Vars m ms) (k : Nat) {x : Str} {v : Value} (e : ms[k]? = some (x, v)) : m x = some v := M _ (List.mem_of_getElem? e)
theorem Vars.sel {m : Str → Option Value} {ms : List (Str × Value)} (M : Vars m ms) (bs : List Bool) : Vars m (sel bs ms) := fun q h => M q (sel_mem bs ms h)
theorem Vars.set {m : Str → Option Value} {ms : List (Str × Value)} (M : Vars m ms) {x : Str} {v : Value} (h : (ms.map Prod.fst).all (fun y => !decide (y = x)) = true) : Vars (setM m x v) ((x, v) :: ms) := List.forall_mem_cons.mpr ⟨if_pos rfl, fun q hq => (if_neg (by
  have := List.all_eq_true.mp h q.1 (List.mem_map_of_mem hq)
  simpa using this)).trans (M q hq)⟩
theorem Vars.keep {m m' : Str → Option Value} {ms : List (Str × Value)} (M : Vars m ms) {x : Str} (hm : ∀ z, z ≠ x → m' z = m z) (h : (ms.map Prod.fst).all (fun y => !decide (y = x)) = true) : Vars m' ms := fun q hq => (hm q.1 (by
  have := List.all_eq_true.mp h q.1 (List.mem_map_of_mem hq)
  simpa using this)).trans (M q hq)
theorem Subs.at {im is : List (Addr × Obj)} (I : Subs im is) (k : Nat) {p : Addr × Obj} (e : is[k]? = some p) : p ∈ im := I _ (List.mem_of_getElem? e)
theorem Subs.sel {im is : List (Addr × Obj)} (I : Subs im is) (bs : List Bool) : Subs im (sel bs is) := fun q h => I q (sel_mem bs is h)
theorem Subs.app {im is ex : List (Addr × Obj)} (I : Subs im is) : Subs (ex ++ im) is := fun p h => List.mem_append_right _ (I p h)
theorem Subs.new {im is ex : List (Addr × Obj)} {x : Addr × Obj} (I : Subs im is) : Subs ((x :: ex) ++ im) (x :: is) := List.forall_mem_cons.mpr ⟨.head _, I.app⟩
theorem Subs.new2 {im is ex : List (Addr × Obj)} {x y : Addr × Obj} (I : Subs im is) : Subs ((x :: y :: ex) ++ im) (x :: y :: is) := List.forall_mem_cons.mpr ⟨.head _, List.forall_mem_cons.mpr ⟨.tail _ (.head _), I.app⟩⟩
noncomputable def Nones (f : Nat → Obj) (lo : Nat) : Prop := ∀ i : Nat, lo ≤ i → i ≤ 16 → (f i).data = .cell none
section
variable {h₀ h h' : Heap} {L : Addr} {m m' : Str → Option Value} {f : Nat → Obj} {tb tb' o : Obj} {im ex : List (Addr × Obj)} {j lo lo' : Nat} {cs cs' : List (Nat × Option Value)} {ms' : List (Str × Value)} {is' : List (Addr × Obj)} {G : Prop} {v : Option Value}
theorem Cells.put (C : Cells f cs') (d : o.data = .cell v) (hj : (cs'.map Prod.fst).all (fun i => !decide (i = j)) = true) : Cells (upd f j o) ((j, v) :: cs') := List.forall_mem_cons.mpr ⟨cell_eq d, fun q hq => cell_ne (C q hq) (by
  have := List.all_eq_true.mp hj q.1 (List.mem_map_of_mem hq)
  simpa using this)⟩
theorem ch_put {K : (Nat → Obj) → Obj → List (Addr × Obj) → Prop} (S : LwS h₀ L h m f tb im) (C : Cells f cs') (Z : Nones f lo) (hr : 1 ≤ j ∧ j ≤ 16) (F : Fr h₀ L h' m') (N : News h₀ L h' ((L + j, o) :: (ex ++ restL L f tb' im j))) (ha : Apart ex (restL L f tb' im j)) (hj : ∀ p ∈ ex, @Ne Nat p.1 (L + j)) (d : o.data = .cell v) (hc : (cs'.map Prod.fst).all (fun i => !decide (i = j)) = true)
  (M : Vars m' ms') (I : Subs (ex ++ im) is') (hlo : lo ≤ lo' ∧ j < lo') (hK : K (upd f j o) tb' (ex ++ im)) (k : ∀ f' im' m', LwS h₀ L h' m' f' tb' im' → Cells f' ((j, v) :: cs') → Nones f' lo' → Vars m' ms' → Subs im' is' → K f' tb' im' → G) : G :=
  k _ _ _ (S.put hr.1 hr.2 F N ha hj) (C.put d hc) (cells_none Z lo' hlo) M I hK
theorem ch_putf (S : LwS h₀ L h m f tb im) (C : Cells f cs') (Z : Nones f lo) (hr : 1 ≤ j ∧ j ≤ 16) (F : Fr h₀ L h' m) (N : News h₀ L h' ((L + j, o) :: ([] ++ restL L f tb im j))) (d : o.data = .cell v) (hc : (cs'.map Prod.fst).all (fun i => !decide (i = j)) = true) (hlo : lo ≤ lo' ∧ j < lo')
  (k : ∀ f', LwS h₀ L h' m f' tb im → Cells f' ((j, v) :: cs') → Nones f' lo' → G) : G :=
  k _ (S.put (ex := []) hr.1 hr.2 F N Apart.nil fun _ h => nomatch h) (C.put d hc) (cells_none Z lo' hlo)
theorem ch_put22 {o2 o15 : Obj} (S : LwS h₀ L h m f tb im) (C : Cells f cs') (Z : Nones f 15) (F : Fr h₀ L h' m') (N : News h₀ L h' ((L + 2, o2) :: (L + 15, o15) :: restU L f tb im)) (hc : (cs'.map Prod.fst).all (fun i => !decide (i = 2) && !decide (i = 15)) = true)
  (k : ∀ f', LwS h₀ L h' m' f' tb im → Cells f' cs' → Nones f' 16 → G) : G :=
  k _ (S.put22 F N) (fun q hq => by
    have := List.all_eq_true.mp hc q.1 (List.mem_map_of_mem hq)
    simp only [Bool.and_eq_true, Bool.not_eq_true', decide_eq_false_iff_not] at this
    exact cell_ne (cell_ne (C q hq) this.1) this.2) (cells_none (cells_none Z 15 (by decide)) 16 (by decide))
theorem ch_add (S : LwS h₀ L h m f tb im) (F : Fr h₀ L h' m') (N : News h₀ L h' (ex ++ fullL L f tb im)) (ha : Apart ex (fullL L f tb im)) (M : Vars m' ms') (I : Subs (ex ++ im) is') (k : ∀ im' m', LwS h₀ L h' m' f tb im' → Vars m' ms' → Subs im' is' → G) : G := k _ _ (S.add F N ha) M I
theorem ch_set (S : LwS h₀ L h m f tb im) (F : Fr h₀ L h' m') (N : News h₀ L h' (fullL L f tb im)) (M : Vars m' ms') (k : ∀ m', LwS h₀ L h' m' f tb im → Vars m' ms' → G) : G := k _ (S.same F N) M
end
section
variable {prog : Program} {w : World} {h₀ : Heap} {L : Addr} {m : Str → Option Value} {s : Shared} {Q : Flow → Shared → Prop} {E : Value → Shared → Prop} {p : Program} {loose : List Str} {mean : ExcName → Option Value} {mg mb : Str → Option Value}
set_option maxRecDepth 100000 in
set_option maxHeartbeats 4000000 in
theorem c_chain (C : CodeHd h₀ 118 114) (B' : Below callerA h₀ [] h₀) (X : (KF w.params).In h₀) (T : Top p loose mean mg mb h₀) {f : Nat → Obj} (S0 : LwS h₀ L s.heap m f (tabObj #[]) []) {S : Addr} {vs : List Value} {ns : List Int} (x1 : (f 1).data = .cell (some (.ref S))) (dn : ∀ i : Nat, 2 ≤ i → i ≤ 16 → (f i).data = .cell none)
  (hl : h₀.IsList S vs.toArray) (hi : IntsAre vs ns) (hlen : ns.length ≤ 63) (hE : PassesOwn (model prog w) (lawA w L) (lawEnv w L) E)
  {zs : List Int} {a b : Int} {s0 s1 : Str} {ps : List Str} {text : Str} {ts : List Str} {fe : Str → Bool} {line : Nat} (LF : LawFacts (drawZ ns 0) (drawZ ns 1) (drawZ ns 2) ns.length zs a b s0 s1 ps text ts fe line)
  (q : ∀ h' tk' m', Fr h₀ L h' m' → GrownAt 114 h' → Q (.ret (.bool true)) { s with heap := h', toks := tk' }) : AtL prog w L Q E 0 s := by
  have C0 : Cells f [(1, some (.ref S)), (2, none)] := List.forall_mem_cons.mpr ⟨x1, List.forall_mem_cons.mpr ⟨dn 2 (by decide) (by decide), fun _ h => nomatch h⟩⟩
  have M0 : Vars m [] := fun _ h => nomatch h
  have I0 : Subs [] [] := fun _ h => nomatch h
  have hpy10 : ∀ y ∈ ps, y.length ≤ 10 := fun y hy => Nat.le_trans (LF.py y hy) (by decide)
  have hab : 0 ≤ a ∧ a < 2 := LF.ha ▸ fmod2r _
  have hbb : 0 ≤ b ∧ b < 2 := LF.hb ▸ fmod2r _
  have hab1 : 0 ≤ a ∧ a ≤ 1 := ⟨hab.1, Int.le_of_lt_add_one hab.2⟩
  have hbb1 : 0 ≤ b ∧ b ≤ 1 := ⟨hbb.1, Int.le_of_lt_add_one hbb.2⟩
  have htop5 := top_le ns.length
  have hty1 : ∀ y ∈ ts, y.length ≤ 1000 := fun y hy => Nat.le_trans (LF.tsy y hy) (Nat.le_trans htop5 (by decide))
  have htk : (ts.filter fe).length ≤ 500 := Nat.le_trans (List.length_filter_le _ _) LF.tsl
  have htky : ∀ y ∈ ts.filter fe, y.length ≤ 1000 := fun y hy => hty1 y (List.mem_filter.mp hy).1
  have htky2 : ∀ y ∈ ts.filter fe, y.length < topZ ns.length + 1 := fun y hy => Nat.lt_succ_of_le (LF.tsy y (List.mem_filter.mp hy).1)
  have htn : ((topZ ns.length : Nat) : Int) + 1 = ((topZ ns.length + 1 : Nat) : Int) := rfl
  have htn2 : topZ ns.length + 1 ≤ 100 := Nat.le_trans (Nat.succ_le_succ htop5) (by decide)
  have hbl2 : (ts.map fe).length ≤ 500 := by rw [List.length_map]; exact LF.tsl
  have hblen := books_len (ts.filter fe) s0 (topZ ns.length + 1)
  have hfl : (frontZ ps a).length ≤ 100 := part_len LF.pl LF.py
  have hbl9 : (backZ ps b).length ≤ 100 := part_len LF.pl LF.py
  -- 0 s_shape
  refine at_step 0 1 (by decide) (@s_shape prog w h₀ L m _ s _ _ _ _ _ _ _ B' X T S0.F _ _ _ _ _ (S0.take (j := 3) (by decide) (by decide)) (dn 3 (by decide) (by decide)) (S0.rest_ne (j := 3) (by decide) (by decide)) (rest_cell (i := 1) (by decide) (by decide) (by decide)) (C0.at 0 rfl) hl hi hlen ?_)
  intro h1 tk1 o3 t0 t1 t2 d3 F1 N1
  refine ⟨rfl, ?_⟩
  refine ch_put (m' := (setM (setM m (Str.ofString "shape") (.int (drawZ ns 0) t0)) (Str.ofString "choice") (.int (drawZ ns 2) t2))) (ex := []) (K := fun _ _ _ => True) (j := 3) (o := o3) (v := some (.int (drawZ ns 1) t1)) (lo' := 4) (cs' := [(1, some (.ref S)), (2, none)]) (ms' := [(Str.ofString "choice", (.int (drawZ ns 2) t2)), (Str.ofString "shape", (.int (drawZ ns 0) t0))]) (is' := []) S0 C0 dn (by decide) F1 N1 Apart.nil (fun _ h => nomatch h) d3 rfl ((M0.set (x := Str.ofString "shape") (v := (.int (drawZ ns 0) t0)) rfl).set (x := Str.ofString "choice") (v := (.int (drawZ ns 2) t2)) rfl) (I0.app (ex := [])) (by decide) trivial ?_
  intro f1 im1 m1 S1 C1 Z1 M1 I1 _
  -- 1 s_sizes
  show AtL prog w L Q E 1 (wh s h1 tk1)
  refine at_step 1 2 (by decide) (@s_sizes prog w h₀ L m1 _ (wh s h1 tk1) _ _ _ _ _ _ _ B' X T S1.F _ (S1.take (j := 4) (by decide) (by decide)) (Z1 4 (by decide) (by decide)) (S1.rest_ne (j := 4) (by decide) (by decide)) _ _ (M1.at 1 rfl) ?_)
  rw [← LF.hzs]
  intro h2 tk2 o4 DS us d4 hus hD F1 N1
  refine ⟨rfl, ?_⟩
  refine ch_put (m' := m1) (ex := [(DS, W.listOf us.toArray 0)]) (K := fun _ _ _ => True) (j := 4) (o := o4) (v := some (.ref DS)) (lo' := 5) (cs' := [(3, some (.int (drawZ ns 1) t1)), (1, some (.ref S)), (2, none)]) (ms' := [(Str.ofString "choice", (.int (drawZ ns 2) t2)), (Str.ofString "shape", (.int (drawZ ns 0) t0))]) (is' := [(DS, W.listOf us.toArray 0)]) S1 C1 Z1 (by decide) F1 N1 (Apart.one fun p hp => Nat.ne_of_lt (hD p hp)) (List.forall_mem_cons.mpr ⟨above_cells (hD _ (rest_cell (i := 16) (by decide) (by decide) (by decide))) (by decide), fun _ h => nomatch h⟩) d4 rfl M1 (I1.new (x := (DS, W.listOf us.toArray 0))) (by decide) trivial ?_
  intro f2 im2 m2 S2 C2 Z2 M2 I2 _
  -- 2 s_ahead
  show AtL prog w L Q E 2 (wh s h2 tk2)
  refine at_step 2 3 (by decide) (@s_ahead prog w h₀ L m2 _ (wh s h2 tk2) _ _ _ _ _ _ _ B' X T S2.F S2.N _ _ LF.z0r.1 LF.z0r.2 (M2.at 1 rfl) ?_)
  rw [← LF.ha]
  intro h3 tk3 ta F1 N1
  refine ⟨rfl, ?_⟩
  refine ch_set (m' := (setM m2 (Str.ofString "ahead") (.int a ta))) (ms' := [(Str.ofString "ahead", (.int a ta)), (Str.ofString "choice", (.int (drawZ ns 2) t2)), (Str.ofString "shape", (.int (drawZ ns 0) t0))]) S2 F1 N1 (M2.set (x := Str.ofString "ahead") (v := (.int a ta)) rfl) ?_
  intro m3 S3 M3
  -- 3 s_behind
  show AtL prog w L Q E 3 (wh s h3 tk3)
  refine at_step 3 4 (by decide) (@s_behind prog w h₀ L m3 _ (wh s h3 tk3) _ _ _ _ _ _ _ B' X T S3.F S3.N _ _ (M3.at 2 rfl) ?_)
  rw [← LF.hb]
  intro h4 tk4 tb F1 N1
  refine ⟨rfl, ?_⟩
  refine ch_set (m' := (setM m3 (Str.ofString "behind") (.int b tb))) (ms' := [(Str.ofString "behind", (.int b tb)), (Str.ofString "ahead", (.int a ta)), (Str.ofString "choice", (.int (drawZ ns 2) t2))]) S3 F1 N1 ((M3.sel [true, true]).set (x := Str.ofString "behind") (v := (.int b tb)) rfl) ?_
  intro m4 S4 M4
  -- 4 s_six
  show AtL prog w L Q E 4 (wh s h4 tk4)
  refine at_step 4 5 (by decide) (@s_six prog w h₀ L m4 _ (wh s h4 tk4) _ _ _ _ _ _ _ B' X T S4.F S4.N ?_)
  intro h5 tk5 t6 F1 N1
  refine ⟨rfl, ?_⟩
  refine ch_set (m' := (setM m4 (Str.ofString "six") (.str (Str.ofString "a \n\"\\#") t6))) (ms' := [(Str.ofString "six", (.str (Str.ofString "a \n\"\\#") t6)), (Str.ofString "behind", (.int b tb)), (Str.ofString "ahead", (.int a ta)), (Str.ofString "choice", (.int (drawZ ns 2) t2))]) S4 F1 N1 (M4.set (x := Str.ofString "six") (v := (.str (Str.ofString "a \n\"\\#") t6)) rfl) ?_
  intro m5 S5 M5
  -- 5 s_signs
  show AtL prog w L Q E 5 (wh s h5 tk5)
  refine at_step 5 6 (by decide) (@s_signs prog w h₀ L m5 _ (wh s h5 tk5) _ _ _ _ _ _ _ B' X T S5.F _ (S5.take (j := 5) (by decide) (by decide)) (Z2 5 (by decide) (by decide)) (S5.rest_ne (j := 5) (by decide) (by decide)) _ _ _ (M5.at 3 rfl) (M5.at 0 rfl) ?_)
  rw [← LF.hs0, ← LF.hs1]
  intro h6 tk6 o5 SG u0 u1 kg d5 hD F1 N1
  refine ⟨rfl, ?_⟩
  refine ch_put (m' := m5) (ex := [(SG, W.listOf #[.str s0 u0, .str s1 u1] kg)]) (K := fun _ _ _ => True) (j := 5) (o := o5) (v := some (.ref SG)) (lo' := 6) (cs' := [(4, some (.ref DS)), (3, some (.int (drawZ ns 1) t1)), (1, some (.ref S)), (2, none)]) (ms' := [(Str.ofString "behind", (.int b tb)), (Str.ofString "ahead", (.int a ta))]) (is' := [(SG, W.listOf #[.str s0 u0, .str s1 u1] kg), (DS, W.listOf us.toArray 0)]) S5 C2 Z2 (by decide) F1 N1 (Apart.one fun p hp => Nat.ne_of_lt (hD p hp)) (List.forall_mem_cons.mpr ⟨above_cells (hD _ (rest_cell (i := 16) (by decide) (by decide) (by decide))) (by decide), fun _ h => nomatch h⟩) d5 rfl (M5.sel [false, true, true]) (I2.new (x := (SG, W.listOf #[.str s0 u0, .str s1 u1] kg))) (by decide) trivial ?_
  intro f6 im6 m6 S6 C6 Z6 M6 I6 _
  -- 6 s_pieces
  show AtL prog w L Q E 6 (wh s h6 tk6)
  refine at_step 6 7 (by decide) (@s_pieces prog w h₀ L m6 _ (wh s h6 tk6) _ _ _ _ _ _ _ B' X T S6.F _ _ _ S6.N _ _ LF.z1r.1 LF.z1r.2 _ _ _ _ _ _ _ _ _ (full_cell (i := 3) (by decide) (by decide)) (C6.at 2 rfl) (full_cell (i := 4) (by decide) (by decide)) (C6.at 1 rfl) (full_cell (i := 5) (by decide) (by decide)) (C6.at 0 rfl) (full_im (I6.at 1 rfl)) hus LF.zl LF.z3 LF.sl0 LF.sl1 (full_im (I6.at 0 rfl)) ?_)
  rw [← LF.hps]
  intro h7 tk7 PD vs1 hvs hD F1 N1
  refine ⟨rfl, ?_⟩
  refine ch_add (m' := (setM m6 (Str.ofString "pieces") (.ref PD))) (ex := [(PD, LCg.lst vs1)]) (ms' := [(Str.ofString "pieces", (.ref PD)), (Str.ofString "behind", (.int b tb)), (Str.ofString "ahead", (.int a ta))]) (is' := [(PD, W.listOf vs1.toArray vs1.length), (SG, W.listOf #[.str s0 u0, .str s1 u1] kg)]) S6 F1 N1 (Apart.one hD) (M6.set (x := Str.ofString "pieces") (v := (.ref PD)) rfl) ((I6.sel [true]).new (x := (PD, W.listOf vs1.toArray vs1.length))) ?_
  intro im7 m7 S7 M7 I7
  -- 7 s_pattern
  show AtL prog w L Q E 7 (wh s h7 tk7)
  refine at_step 7 8 (by decide) (@s_pattern prog w h₀ L m7 _ (wh s h7 tk7) _ _ _ _ _ _ _ B' X T S7.F _ (S7.take (j := 6) (by decide) (by decide)) (Z6 6 (by decide) (by decide)) (S7.rest_ne (j := 6) (by decide) (by decide)) _ _ _ _ _ _ _ _ hab hbb (M7.at 2 rfl) (M7.at 1 rfl) (M7.at 0 rfl) (rest_im (I7.at 0 rfl)) hvs LF.pl hpy10 ?_)
  intro h8 tk8 o6 tp d6 F1 N1
  refine ⟨rfl, ?_⟩
  refine ch_putf (j := 6) (o := o6) (v := some (.str (patternZ a b ps) tp)) (lo' := 7) (cs' := [(5, some (.ref SG)), (3, some (.int (drawZ ns 1) t1)), (1, some (.ref S)), (2, none)]) S7 (C6.sel [true, false, true, true, true]) Z6 (by decide) F1 N1 d6 rfl (by decide) ?_
  intro f8 S8 C8 Z8
  -- 8 s_top
  show AtL prog w L Q E 8 (wh s h8 tk8)
  refine at_step 8 9 (by decide) (@s_top prog w h₀ L m7 _ (wh s h8 tk8) _ _ _ _ _ _ _ B' X T S8.F _ _ _ _ _ (S8.take (j := 7) (by decide) (by decide)) (Z8 7 (by decide) (by decide)) (S8.rest_ne (j := 7) (by decide) (by decide)) (rest_cell (i := 1) (by decide) (by decide) (by decide)) (C8.at 3 rfl) hl hi hlen ?_)
  intro h9 tk9 o7 tt d7 F1 N1
  refine ⟨rfl, ?_⟩
  refine ch_putf (j := 7) (o := o7) (v := some (.int ((topZ ns.length : Nat) : Int) tt)) (lo' := 8) (cs' := [(6, some (.str (patternZ a b ps) tp)), (5, some (.ref SG)), (3, some (.int (drawZ ns 1) t1)), (2, none)]) S8 (C8.sel [true, true, true, false, true]) Z8 (by decide) F1 N1 d7 rfl (by decide) ?_
  intro f9 S9 C9 Z9
  -- 9 s_text
  show AtL prog w L Q E 9 (wh s h9 tk9)
  refine at_step 9 10 (by decide) (@s_text prog w h₀ L m7 _ (wh s h9 tk9) _ _ _ _ _ _ _ B' X T S9.F _ S9.N _ _ _ _ _ _ (full_cell (i := 3) (by decide) (by decide)) (C9.at 3 rfl) (M7.at 0 rfl) (full_im (I7.at 0 rfl)) hvs LF.pl hpy10 ?_)
  rw [← LF.htext]
  intro h10 tk10 tx F1 N1
  refine ⟨rfl, ?_⟩
  refine ch_set (m' := (setM m7 (Str.ofString "text") (.str text tx))) (ms' := [(Str.ofString "text", (.str text tx)), (Str.ofString "pieces", (.ref PD)), (Str.ofString "behind", (.int b tb)), (Str.ofString "ahead", (.int a ta))]) S9 F1 N1 (M7.set (x := Str.ofString "text") (v := (.str text tx)) rfl) ?_
  intro m10 S10 M10
  -- 10 s_texts
  show AtL prog w L Q E 10 (wh s h10 tk10)
  refine at_step 10 11 (by decide) (@s_texts prog w h₀ L m10 _ (wh s h10 tk10) _ _ _ _ _ _ _ C B' X T S10.F _ _ _ S10.take8 (Z9 8 (by decide) (by decide)) S10.ne8 S10.ne114 _ _ _ _ _ _ _ _ _ _ _ _ _ _ (mem8 (rest_cell (tb := tabObj #[]) (i := 5) (by decide) (by decide) (by decide)) (c114 S10.hL 5)) (C9.at 2 rfl) (mem8 (rest_cell (tb := tabObj #[]) (i := 7) (by decide) (by decide) (by decide)) (c114 S10.hL 7)) (C9.at 0 rfl) (M10.at 0 rfl) (M10.at 1 rfl) (List.mem_append_right _ (I7.at 0 rfl)) hvs LF.pl (List.mem_append_right _ (I7.at 1 rfl)) LF.tl LF.sl0 LF.sl1 htop5 ?_)
  rw [LF.tx]
  dsimp only
  intro h11 tk11 o8 D TD vs2 us2 k2 pp tr tl d8 hv2 hu2 hD hTD F1 N1
  refine ⟨rfl, ?_⟩
  have hD114 : D ≠ 114 := ne_tab (N1 (D, LCg.lst vs2) (.tail _ (.head _))).1 (N1 (114, tabObj pp) (.tail _ (.tail _ (.tail _ (.head _))))).1
  have hT16 : @LT.lt Nat _ (L + 16) TD := hTD _ (mem8 (rest_cell (j := 8) (tb := tabObj #[]) (i := 16) (by decide) (by decide) (by decide)) (c114 S10.hL 16))
  have hT114 : @LT.lt Nat _ 114 TD := Nat.lt_trans (Nat.lt_add_right 16 S10.hL) hT16
  refine ch_put (tb' := tabObj pp) (m' := (setM (setM (setM m10 (Str.ofString "seen") (.ref D)) (Str.ofString "rest") (.str (Str.ofString "") tr)) (Str.ofString "line") (.int ((line : Nat) : Int) tl))) (ex := [(D, LCg.lst vs2), (TD, W.listOf us2.toArray k2)]) (K := fun _ _ _ => True) (j := 8) (o := o8) (v := some (.ref TD)) (lo' := 9) (cs' := [(7, some (.int ((topZ ns.length : Nat) : Int) tt)), (6, some (.str (patternZ a b ps) tp)), (5, some (.ref SG)), (2, none)]) (ms' := [(Str.ofString "line", (.int ((line : Nat) : Int) tl)), (Str.ofString "rest", (.str (Str.ofString "") tr)), (Str.ofString "seen", (.ref D)), (Str.ofString "text", (.str text tx)), (Str.ofString "pieces", (.ref PD)), (Str.ofString "behind", (.int b tb)), (Str.ofString "ahead", (.int a ta))]) (is' := [(D, LCg.lst vs2), (TD, W.listOf us2.toArray k2), (PD, W.listOf vs1.toArray vs1.length), (SG, W.listOf #[.str s0 u0, .str s1 u1] kg)]) S10 (C9.sel [true, true, true, false, true]) Z9 (by decide) F1 N1 (Apart.cons (List.forall_mem_cons.mpr ⟨Ne.symm hD114, fun p hp => hD p (.tail _ hp)⟩) (Apart.one (List.forall_mem_cons.mpr ⟨Nat.ne_of_lt hT114, fun p hp => Nat.ne_of_lt (hTD p hp)⟩))) (List.forall_mem_cons.mpr ⟨Ne.symm (hD _ (.head _)), List.forall_mem_cons.mpr ⟨above_cells hT16 (by decide), fun _ h => nomatch h⟩⟩) d8 rfl (((M10.set (x := Str.ofString "seen") (v := (.ref D)) rfl).set (x := Str.ofString "rest") (v := (.str (Str.ofString "") tr)) rfl).set (x := Str.ofString "line") (v := (.int ((line : Nat) : Int) tl)) rfl) (I7.new2 (x := (D, LCg.lst vs2)) (y := (TD, W.listOf us2.toArray k2))) (by decide) trivial ?_
  intro f11 im11 m11 S11 C11 Z11 M11 I11 _
  have hul2 : us2.length ≤ 1000000 := by rw [hu2.length, List.length_append]; have := LF.tsl; show ts.length + 1 ≤ _; omega
  -- 11 s_ask1
  show AtL prog w L Q E 11 (wh s h11 tk11)
  refine at_step 11 12 (by decide) (@s_ask1 prog w h₀ L m11 _ (wh s h11 tk11) _ _ _ _ _ _ _ B' X T S11.F _ S11.N _ _ _ _ _ _ _ _ _ _ _ _ _ _ _ (full_cell (i := 8) (by decide) (by decide)) (C11.at 0 rfl) (M11.at 2 rfl) (M11.at 4 rfl) (M11.at 1 rfl) (M11.at 0 rfl) (M11.at 3 rfl) (full_im (I11.at 0 rfl)) (full_im (I11.at 2 rfl)) (full_im (I11.at 1 rfl)) LF.pok hvs hv2 hu2 hul2 LF.ln LF.tl ?_)
  intro h12 tk12 F1 N1
  refine ⟨rfl, ?_⟩
  have S12 := S11.same (m' := m11) F1 N1
  -- 12 s_order
  show AtL prog w L Q E 12 (wh s h12 tk12)
  refine at_step 12 13 (by decide) (@s_order prog w h₀ L m11 _ (wh s h12 tk12) _ _ _ _ _ _ _ B' X T S12.F _ (S12.take (j := 9) (by decide) (by decide)) (Z11 9 (by decide) (by decide)) (S12.rest_ne (j := 9) (by decide) (by decide)) ?_)
  intro h13 tk13 o9 ox ex9 d9 hO hlt F1 N1
  refine ⟨rfl, ?_⟩
  refine ch_put (m' := m11) (ex := ex9) (K := fun _ _ im => IsOrder w im ox) (j := 9) (o := o9) (v := some (.ref ox)) (lo' := 10) (cs' := [(8, some (.ref TD)), (7, some (.int ((topZ ns.length : Nat) : Int) tt)), (6, some (.str (patternZ a b ps) tp)), (5, some (.ref SG)), (2, none)]) (ms' := [(Str.ofString "pieces", (.ref PD)), (Str.ofString "behind", (.int b tb)), (Str.ofString "ahead", (.int a ta))]) (is' := [(TD, W.listOf us2.toArray k2), (PD, W.listOf vs1.toArray vs1.length), (SG, W.listOf #[.str s0 u0, .str s1 u1] kg)]) S12 C11 Z11 (by decide) F1 N1 (fun p hp => ne_of_allLt (hlt p hp)) (fun p hp => above_cells (allLt_mem (hlt p hp) _ (rest_cell (i := 16) (by decide) (by decide) (by decide))) (by decide)) d9 rfl (M11.sel [false, false, false, false, true, true, true]) ((I11.sel [false, true, true, true]).app (ex := ex9)) (by decide) (hO.sub fun p hp => List.mem_append_left _ hp) ?_
  intro f13 im13 m13 S13 C13 Z13 M13 I13 hO1
  -- 13 s_rows
  show AtL prog w L Q E 13 (wh s h13 tk13)
  refine at_step 13 14 (by decide) (@s_rows prog w h₀ L m13 _ (wh s h13 tk13) _ _ _ _ _ _ _ B' X T S13.F _ _ (S13.take (j := 10) (by decide) (by decide)) (Z13 10 (by decide) (by decide)) (S13.rest_ne (j := 10) (by decide) (by decide)) _ _ _ _ _ (rest_cell (i := 8) (by decide) (by decide) (by decide)) (C13.at 1 rfl) (rest_im (I13.at 0 rfl)) hu2 LF.tsl hty1 ?_)
  intro h14 tk14 o10 RD ys ex10 d10 hys hap hne hne2 F1 N1
  refine ⟨rfl, ?_⟩
  refine ch_put (m' := m13) (ex := ((RD, LCg.lst ys) :: ex10)) (K := fun _ _ im => IsOrder w im ox ∧ Are (IsRow im) ys ts) (j := 10) (o := o10) (v := some (.ref RD)) (lo' := 11) (cs' := [(9, some (.ref ox)), (8, some (.ref TD)), (7, some (.int ((topZ ns.length : Nat) : Int) tt)), (6, some (.str (patternZ a b ps) tp)), (5, some (.ref SG)), (2, none)]) (ms' := [(Str.ofString "pieces", (.ref PD)), (Str.ofString "behind", (.int b tb)), (Str.ofString "ahead", (.int a ta))]) (is' := [(RD, W.listOf ys.toArray ys.length), (TD, W.listOf us2.toArray k2), (PD, W.listOf vs1.toArray vs1.length), (SG, W.listOf #[.str s0 u0, .str s1 u1] kg)]) S13 C13 Z13 (by decide) F1 N1 (Apart.cons (fun p hp => hne p (List.mem_append_right _ hp)) hap) (List.forall_mem_cons.mpr ⟨hne2 _ (.head _), fun p hp => hne2 p (.tail _ (List.mem_append_left _ hp))⟩) d10 rfl M13 (I13.new (x := (RD, W.listOf ys.toArray ys.length))) (by decide) ⟨hO1.sub fun p hp => List.mem_append_right _ hp, are_imp hys fun c v _ h => IsRow.sub h fun p hp => List.mem_append_left _ (.tail _ hp)⟩ ?_
  intro f14 im14 m14 S14 C14 Z14 M14 I14 hOR
  -- 14 s_ask2
  show AtL prog w L Q E 14 (wh s h14 tk14)
  refine at_step 14 15 (by decide) (@s_ask2 prog w h₀ L m14 _ (wh s h14 tk14) _ _ _ _ _ _ _ B' X T S14.F _ _ S14.N _ _ _ _ _ (full_cell (i := 9) (by decide) (by decide)) (C14.at 1 rfl) (hOR.1.sub fun p hp => full_im hp) (full_cell (i := 10) (by decide) (by decide)) (C14.at 0 rfl) (full_im (I14.at 0 rfl)) (are_imp hOR.2 fun c v _ h => IsRow.sub h fun p hp => full_im hp) LF.tsl LF.ts1 LF.cmp ?_)
  intro h15 tk15 F1 N1
  refine ⟨rfl, ?_⟩
  have S15 := S14.same (m' := m14) F1 N1
  -- 15 s_answers
  show AtL prog w L Q E 15 (wh s h15 tk15)
  refine at_step 15 16 (by decide) (@s_answers prog w h₀ L m14 _ (wh s h15 tk15) _ _ _ _ _ _ _ B' X T S15.F _ _ _ (S15.take (j := 11) (by decide) (by decide)) (Z14 11 (by decide) (by decide)) (S15.rest_ne (j := 11) (by decide) (by decide)) _ _ _ _ _ _ _ _ (rest_cell (i := 6) (by decide) (by decide) (by decide)) (C14.at 4 rfl) LF.ell (rest_cell (i := 8) (by decide) (by decide) (by decide)) (C14.at 2 rfl) (rest_im (I14.at 1 rfl)) hu2 LF.tsl hty1 ?_)
  intro h16 tk16 o11 AD ys2 d11 hb2 hne hne2 F1 N1
  refine ⟨rfl, ?_⟩
  refine ch_put (m' := m14) (ex := [(AD, LCg.lst ys2)]) (K := fun _ _ _ => True) (j := 11) (o := o11) (v := some (.ref AD)) (lo' := 12) (cs' := [(8, some (.ref TD)), (7, some (.int ((topZ ns.length : Nat) : Int) tt)), (6, some (.str (patternZ a b ps) tp)), (5, some (.ref SG)), (2, none)]) (ms' := [(Str.ofString "pieces", (.ref PD)), (Str.ofString "behind", (.int b tb)), (Str.ofString "ahead", (.int a ta))]) (is' := [(AD, W.listOf ys2.toArray ys2.length), (TD, W.listOf us2.toArray k2), (PD, W.listOf vs1.toArray vs1.length), (SG, W.listOf #[.str s0 u0, .str s1 u1] kg)]) S15 (C14.sel [false, false, true, true, true, true, true]) Z14 (by decide) F1 N1 (Apart.one hne) (List.forall_mem_cons.mpr ⟨hne2 _ (.head _), fun _ h => nomatch h⟩) d11 rfl M14 ((I14.sel [false, true, true, true]).new (x := (AD, W.listOf ys2.toArray ys2.length))) (by decide) trivial ?_
  intro f16 im16 m16 S16 C16 Z16 M16 I16 _
  -- 16 s_ask3
  show AtL prog w L Q E 16 (wh s h16 tk16)
  refine at_step 16 17 (by decide) (@s_ask3 prog w h₀ L m16 _ (wh s h16 tk16) _ _ _ _ _ _ _ B' X T S16.F _ S16.N _ _ _ _ (full_cell (i := 11) (by decide) (by decide)) (C16.at 0 rfl) (full_im (I16.at 0 rfl)) hb2 hbl2 ?_)
  intro h17 tk17 F1 N1
  refine ⟨rfl, ?_⟩
  have S17 := S16.same (m' := m16) F1 N1
  -- 17 s_taken
  show AtL prog w L Q E 17 (wh s h17 tk17)
  refine at_step 17 18 (by decide) (@s_taken prog w h₀ L m16 _ (wh s h17 tk17) _ _ _ _ _ _ _ B' X T S17.F _ _ S17.N _ _ _ _ _ _ _ _ _ (full_cell (i := 8) (by decide) (by decide)) (C16.at 1 rfl) (full_im (I16.at 1 rfl)) hu2 LF.tsl (full_cell (i := 11) (by decide) (by decide)) (C16.at 0 rfl) (full_im (I16.at 0 rfl)) hb2 ?_)
  intro h18 tk18 KD zs2 hzs hne F1 N1
  refine ⟨rfl, ?_⟩
  refine ch_add (m' := (setM m16 (Str.ofString "taken") (.ref KD))) (ex := [(KD, LCg.lst zs2)]) (ms' := [(Str.ofString "taken", (.ref KD)), (Str.ofString "pieces", (.ref PD)), (Str.ofString "behind", (.int b tb)), (Str.ofString "ahead", (.int a ta))]) (is' := [(KD, W.listOf zs2.toArray zs2.length), (PD, W.listOf vs1.toArray vs1.length), (SG, W.listOf #[.str s0 u0, .str s1 u1] kg)]) S17 F1 N1 (Apart.one hne) (M16.set (x := Str.ofString "taken") (v := (.ref KD)) rfl) ((I16.sel [false, false, true, true]).new (x := (KD, W.listOf zs2.toArray zs2.length))) ?_
  intro im18 m18 S18 M18 I18
  -- 18 s_front
  show AtL prog w L Q E 18 (wh s h18 tk18)
  refine at_step 18 19 (by decide) (@s_front prog w h₀ L m18 _ (wh s h18 tk18) _ _ _ _ _ _ _ B' X T S18.F _ (S18.take (j := 12) (by decide) (by decide)) (Z16 12 (by decide) (by decide)) (S18.rest_ne (j := 12) (by decide) (by decide)) _ _ _ _ _ _ (M18.at 1 rfl) (M18.at 3 rfl) (rest_im (I18.at 1 rfl)) hvs LF.pl hpy10 hab1 ?_)
  intro h19 tk19 o12 tf d12 F1 N1
  refine ⟨rfl, ?_⟩
  refine ch_putf (j := 12) (o := o12) (v := some (.str (frontZ ps a) tf)) (lo' := 13) (cs' := [(7, some (.int ((topZ ns.length : Nat) : Int) tt)), (6, some (.str (patternZ a b ps) tp)), (5, some (.ref SG)), (2, none)]) S18 (C16.sel [false, false, true, true, true, true]) Z16 (by decide) F1 N1 d12 rfl (by decide) ?_
  intro f19 S19 C19 Z19
  -- 19 s_back
  show AtL prog w L Q E 19 (wh s h19 tk19)
  refine at_step 19 20 (by decide) (@s_back prog w h₀ L m18 _ (wh s h19 tk19) _ _ _ _ _ _ _ B' X T S19.F _ (S19.take (j := 13) (by decide) (by decide)) (Z19 13 (by decide) (by decide)) (S19.rest_ne (j := 13) (by decide) (by decide)) _ _ _ _ _ _ (M18.at 1 rfl) (M18.at 2 rfl) (rest_im (I18.at 1 rfl)) hvs LF.pl hpy10 hbb1 ?_)
  intro h20 tk20 o13 tg d13 F1 N1
  refine ⟨rfl, ?_⟩
  refine ch_putf (j := 13) (o := o13) (v := some (.str (backZ ps b) tg)) (lo' := 14) (cs' := [(12, some (.str (frontZ ps a) tf)), (7, some (.int ((topZ ns.length : Nat) : Int) tt)), (6, some (.str (patternZ a b ps) tp)), (5, some (.ref SG)), (2, none)]) S19 C19 Z19 (by decide) F1 N1 d13 rfl (by decide) ?_
  intro f20 S20 C20 Z20
  -- 20 s_ask4
  show AtL prog w L Q E 20 (wh s h20 tk20)
  refine at_step 20 21 (by decide) (@s_ask4 prog w h₀ L m18 _ (wh s h20 tk20) _ _ _ _ _ _ _ B' X T S20.F _ _ S20.N _ _ _ _ _ _ _ _ _ _ _ _ (M18.at 1 rfl) (M18.at 0 rfl) (full_im (I18.at 1 rfl)) hvs LF.pl hpy10 (full_im (I18.at 0 rfl)) hzs htk htky (full_cell (i := 12) (by decide) (by decide)) (C20.at 1 rfl) (full_cell (i := 13) (by decide) (by decide)) (C20.at 0 rfl) hfl hbl9 LF.inn LF.fb ?_)
  intro h21 tk21 F1 N1
  refine ⟨rfl, ?_⟩
  have S21 := S20.same (m' := m18) F1 N1
  -- 21 s_books
  show AtL prog w L Q E 21 (wh s h21 tk21)
  refine at_step 21 22 (by decide) (@s_books prog w h₀ L m18 _ (wh s h21 tk21) _ _ _ _ _ _ _ B' X T S21.F _ _ _ (S21.take (j := 14) (by decide) (by decide)) (Z20 14 (by decide) (by decide)) (S21.rest_ne (j := 14) (by decide) (by decide)) _ _ _ _ _ _ _ _ _ _ _ _ _ (M18.at 0 rfl) (rest_cell (i := 5) (by decide) (by decide) (by decide)) (C20.at 4 rfl) (rest_im (I18.at 2 rfl)) (rest_cell (i := 7) (by decide) (by decide) (by decide)) (C20.at 2 rfl) (rest_im (I18.at 0 rfl)) hzs htk htn htn2 htky2 ?_)
  intro h22 tk22 o14 Bk vs3 k3 ex14 d14 hB hap hne hne2 F1 N1
  refine ⟨rfl, ?_⟩
  refine ch_put (m' := m18) (ex := ((Bk, W.listOf vs3.toArray k3) :: ex14)) (K := fun _ _ im => Are (IsBook prog w im) vs3 (booksZ (ts.filter fe) s0 (topZ ns.length + 1))) (j := 14) (o := o14) (v := some (.ref Bk)) (lo' := 15) (cs' := [(7, some (.int ((topZ ns.length : Nat) : Int) tt)), (6, some (.str (patternZ a b ps) tp)), (5, some (.ref SG)), (2, none)]) (ms' := [(Str.ofString "pieces", (.ref PD)), (Str.ofString "behind", (.int b tb)), (Str.ofString "ahead", (.int a ta))]) (is' := [(Bk, W.listOf vs3.toArray k3), (PD, W.listOf vs1.toArray vs1.length), (SG, W.listOf #[.str s0 u0, .str s1 u1] kg)]) S21 (C20.sel [false, false, true, true, true, true]) Z20 (by decide) F1 N1 (Apart.cons (fun p hp => hne p (List.mem_append_right _ hp)) hap) (List.forall_mem_cons.mpr ⟨hne2 _ (.head _), fun p hp => hne2 p (.tail _ (List.mem_append_left _ hp))⟩) d14 rfl (M18.sel [false, true, true, true]) ((I18.sel [false, true, true]).new (x := (Bk, W.listOf vs3.toArray k3))) (by decide) (are_imp hB fun c v _ h => IsBook.sub h fun p hp => List.mem_append_left _ (.tail _ hp)) ?_
  intro f22 im22 m22 S22 C22 Z22 M22 I22 hB2
  -- 22 s_table
  show AtL prog w L Q E 22 (wh s h22 tk22)
  refine at_step 22 23 (by decide) (@s_table prog w h₀ L m22 _ (wh s h22 tk22) _ _ _ _ _ _ _ B' X T S22.F _ _ _ _ S22.take22 (C22.at 4 rfl) (Z22 15 (by decide) (by decide)) S22.ne2 S22.ne15 _ _ _ _ _ _ _ (S22.t_cell (i := 7) (by decide)) (C22.at 1 rfl) (S22.t_cell (i := 14) (by decide)) (C22.at 0 rfl) (S22.t_im (I22.at 0 rfl)) (are_imp hB2 fun c v _ h => IsBook.sub h fun p hp => S22.t_im hp) htn htn2 hblen LF.bok hE ?_)
  intro h23 tk23 m22 oK oT cK cT dK dT hm22 F1 N1
  refine ⟨rfl, ?_⟩
  have M22 : Vars m22 [(Str.ofString "pieces", (.ref PD)), (Str.ofString "behind", (.int b tb)), (Str.ofString "ahead", (.int a ta))] := M22.keep hm22 rfl
  refine ch_put22 (cs' := [(14, some (.ref Bk)), (7, some (.int ((topZ ns.length : Nat) : Int) tt)), (6, some (.str (patternZ a b ps) tp)), (5, some (.ref SG))]) S22 (C22.sel [true, true, true, true, false]) Z22 F1 N1 rfl ?_
  intro f23 S23 C23 Z23
  -- 23 s_counted
  show AtL prog w L Q E 23 (wh s h23 tk23)
  refine at_step 23 24 (by decide) (@s_counted prog w h₀ L m22 _ (wh s h23 tk23) _ _ _ _ _ _ _ B' X T S23.F _ _ S23.N _ _ _ _ _ _ _ (full_cell (i := 7) (by decide) (by decide)) (C23.at 1 rfl) (full_cell (i := 14) (by decide) (by decide)) (C23.at 0 rfl) (full_im (I22.at 0 rfl)) (are_imp hB2 fun c v _ h => IsBook.sub h fun p hp => full_im hp) htn htn2 hblen (fun i bk h => (LF.bok i bk h).len) ?_)
  intro h24 tk24 CD oC hc loC hne F1 N1
  refine ⟨rfl, ?_⟩
  refine ch_add (m' := (setM m22 (Str.ofString "counted") (.ref CD))) (ex := [(CD, oC)]) (ms' := [(Str.ofString "counted", (.ref CD)), (Str.ofString "pieces", (.ref PD)), (Str.ofString "behind", (.int b tb)), (Str.ofString "ahead", (.int a ta))]) (is' := [(CD, oC), (PD, W.listOf vs1.toArray vs1.length), (SG, W.listOf #[.str s0 u0, .str s1 u1] kg)]) S23 F1 N1 (Apart.one hne) (M22.set (x := Str.ofString "counted") (v := (.ref CD)) rfl) ((I22.sel [false, true, true]).new (x := (CD, oC))) ?_
  intro im24 m24 S24 M24 I24
  -- 24 s_moved
  show AtL prog w L Q E 24 (wh s h24 tk24)
  refine at_step 24 25 (by decide) (@s_moved prog w h₀ L m24 _ (wh s h24 tk24) _ _ _ _ _ _ _ B' X T S24.F _ _ _ (S24.take (j := 16) (by decide) (by decide)) (Z23 16 (by decide) (by decide)) (S24.rest_ne (j := 16) (by decide) (by decide)) _ _ _ _ _ _ _ _ _ _ _ _ _ _ _ _ _ _ _ (M24.at 1 rfl) (M24.at 3 rfl) (M24.at 2 rfl) (M24.at 0 rfl) (rest_im (I24.at 1 rfl)) hvs LF.pl LF.py (rest_cell (i := 5) (by decide) (by decide) (by decide)) (C23.at 3 rfl) (rest_im (I24.at 2 rfl)) (rest_cell (i := 6) (by decide) (by decide) (by decide)) (C23.at 2 rfl) (rest_im (I24.at 0 rfl)) hc loC LF.cl ?_)
  intro h25 tk25 o16 MD oM ex16 d16 hmM hcM loM hap hne F1 N1
  refine ⟨rfl, ?_⟩
  refine ch_put (m' := m24) (ex := ex16) (K := fun f tb im => (MD, oM) ∈ fullL L f tb im) (j := 16) (o := o16) (v := some (.ref MD)) (lo' := 17) (cs' := [(7, some (.int ((topZ ns.length : Nat) : Int) tt)), (5, some (.ref SG))]) (ms' := [(Str.ofString "pieces", (.ref PD))]) (is' := [(PD, W.listOf vs1.toArray vs1.length), (SG, W.listOf #[.str s0 u0, .str s1 u1] kg)]) S24 (C23.sel [false, true, false, true]) Z23 (by decide) F1 N1 hap (fun p hp => hne p (List.mem_append_left _ hp)) d16 rfl (M24.sel [false, true]) ((I24.sel [false, true, true]).app (ex := ex16)) (by decide) (in_full hmM) ?_
  intro f25 im25 m25 S25 C25 Z25 M25 I25 hM
  -- 25 s_left
  show AtL prog w L Q E 25 (wh s h25 tk25)
  refine at_step 25 26 (by decide) (@s_left prog w h₀ L m25 _ (wh s h25 tk25) _ _ _ _ _ _ _ B' X T S25.F _ _ S25.N _ _ _ _ _ (full_cell (i := 7) (by decide) (by decide)) (C25.at 1 rfl) (full_cell (i := 16) (by decide) (by decide)) (C25.at 0 rfl) hM hcM loM LF.ml ?_)
  rw [LF.left]
  intro h26 tk26 LD oL hcL loL hne F1 N1
  refine ⟨rfl, ?_⟩
  refine ch_add (m' := (setM m25 (Str.ofString "left") (.ref LD))) (ex := [(LD, oL)]) (ms' := [(Str.ofString "left", (.ref LD)), (Str.ofString "pieces", (.ref PD))]) (is' := [(LD, oL), (PD, W.listOf vs1.toArray vs1.length), (SG, W.listOf #[.str s0 u0, .str s1 u1] kg)]) S25 F1 N1 (Apart.one hne) (M25.set (x := Str.ofString "left") (v := (.ref LD)) rfl) (I25.new (x := (LD, oL))) ?_
  intro im26 m26 S26 M26 I26
  -- 26 s_return
  show AtL prog w L Q E 26 (wh s h26 tk26)
  refine at_last (@s_return prog w h₀ L m26 _ (wh s h26 tk26) _ _ _ _ _ _ _ B' X T S26.F _ S26.N _ _ _ _ _ _ _ _ _ _ _ _ (M26.at 1 rfl) (M26.at 0 rfl) (full_im (I26.at 1 rfl)) hvs LF.pl LF.py (full_cell (i := 5) (by decide) (by decide)) (C25.at 2 rfl) (full_im (I26.at 2 rfl)) (full_im (I26.at 0 rfl)) hcL loL ?_)
  intro h27 tk27 F1 N1
  exact ⟨rfl, q _ _ _ F1 ⟨_, (N1 _ (.head _)).1⟩⟩
end
end
section
-- LawM
theorem cells_list {cm : Str → Option Value} : ∀ {l : List (Str × Addr)} {cells : List (Addr × Obj)}, CellsAre cm l cells → ∃ f : Nat → Obj, cells = (l.zipIdx).map (fun p => (p.1.2, f p.2)) ∧ ∀ i p, l[i]? = some p → (f i).data = .cell (cm p.1) := by
  have key : ∀ {l : List (Str × Addr)} {cells : List (Addr × Obj)}, CellsAre cm l cells → ∀ k, ∃ f : Nat → Obj, cells = (l.zipIdx k).map (fun p => (p.1.2, f p.2)) ∧ ∀ i p, l[i]? = some p → (f (k + i)).data = .cell (cm p.1) := by
    intro l cells x
    induction x with
    | nil => exact fun k => ⟨fun _ => default, rfl, fun i p h => by simp at h⟩
    | cons hd _ ih =>
      intro k
      rename_i n c o cs cells _
      obtain ⟨f, e, h⟩ := ih (k + 1)
      refine ⟨fun i => if i = k then o else f i, ?_, ?_⟩
      · rw [e]
        simp only [List.zipIdx_cons, List.map_cons, if_true, List.cons.injEq, true_and]
        refine List.map_congr_left fun p hp => ?_
        have : p.2 ≠ k := by
          have := List.le_snd_of_mem_zipIdx hp
          lia
        simp [this]
      · intro i p hi
        cases i with
        | zero => simp at hi; subst hi; simpa using hd
        | succ i =>
          have := h i p (by simpa using hi)
          simp only [show k + (i + 1) ≠ k by lia, if_false]
          rw [show k + (i + 1) = k + 1 + i by lia]; exact this
  intro l cells x
  obtain ⟨f, e, h⟩ := key x 0
  exact ⟨f, e, fun i p hp => by simpa using h i p hp⟩
theorem call_cellsK {prog : Program} {w : World} {K : Frag} {R : Result → Shared → Prop} {s : Shared} {name : Str} {params : Arguments} {body : List Stmt} {scope : Scope} {pm cd doc oc : Value} {od : Option Addr} {osl : Array (Option Value)} {a : Addr} {args : List Value} {binds : List (Str × Value)}
    (X : K.In s.heap) (hlim : s.heap.NoLimit) (ho : K.lookup a = some ⟨oc, od, .func (Calls.docDef name params body scope pm cd doc), osl⟩) (hcd : codeIn K cd name = true)
    (hbind : bindArgs (Calls.docDef name params body scope pm cd doc) ⟨args, []⟩ = pure binds)
    (hkind : ∀ x ∈ binds, scope.names.lookup x.1 = some .local ∨ (scope.names.lookup x.1 = some .cell ∧ ((cellsFrom (s.heap.objs.size + 1) scope.names []).lookup x.1).isSome = true))
    (hnd : ((cellsFrom 0 scope.names []).map (·.1)).Nodup) (hco : scope.isCoroutine = false) (hgen : scope.isGenerator = false) (hk : scope.kind = .function)
    (h : ∀ (L : Addr) (h₁ : Heap) (tk : Nat) (f : Nat → Obj), L = s.heap.objs.size → Fr s.heap L h₁ (bindL (envOfC name scope L a cd).kindOf binds fun _ => none) → News s.heap L h₁ (((cellsFrom (L + 1) scope.names []).zipIdx).map fun p => (p.1.2, f p.2)) →
      (∀ i p, (cellsFrom (L + 1) scope.names [])[i]? = some p → (f i).data = .cell (bindC (envOfC name scope L a cd).kindOf binds (fun _ => none) p.1)) →
      wpAny (model prog w) (callerA.deeper (envOfC name scope L a cd)) (execs body (envOfC name scope L a cd))
        (fun f s' => R (.ok (.ret (match f with | .ret v => v | _ => .none))) s')
        (fun e s' => wpAny (model prog w) (callerA.deeper (envOfC name scope L a cd)) (leaving (envOfC name scope L a cd) e)
          (fun _ s'' => R (.error e) s'') (fun e' s'' => R (.error e') s'') s')
        { s with heap := h₁, toks := tk }) :
    codeAny (model prog w) callerA (.call (.ref a) ⟨args, []⟩) R s :=
  call_cellsN (by decide) (X _ _ ho) rfl hlim (codeRec_of X hcd) hbind hkind hnd (fun h₁ tk cells F N Y => by
    obtain ⟨f, rfl, hf⟩ := cells_list Y
    exact h _ h₁ tk f rfl F N hf) hco hgen hk
set_option maxRecDepth 100000 in
set_option maxHeartbeats 8000000 in
theorem c_law (prog : Program) (w : World) (s : Shared) {p : Program} {loose : List Str} {mean : ExcName → Option Value} {mg mb : Str → Option Value} (S : Addr) (vs : List Value) (ns : List Int) (X : (KF w.params).In s.heap) (T : Top p loose mean mg mb s.heap) (hT9 : TabsAt [(118, 114)] s.heap)
    (hl : s.heap.IsList S vs.toArray) (hi : IntsAre vs ns) (hlen : ns.length ≤ 63)
    {zs : List Int} {a b : Int} {s0 s1 : Str} {ps : List Str} {text : Str} {ts : List Str} {fe : Str → Bool} {line : Nat} (LF : LawFacts (drawZ ns 0) (drawZ ns 1) (drawZ ns 2) ns.length zs a b s0 s1 ps text ts fe line) (R : Result → Shared → Prop)
    (hR : ∀ h' tk' L' m', Fr (ghostOf s.heap [(118, 114)]) L' h' m' → GrownAt 114 h' → R (.ok (.ret (.bool true))) { s with heap := h', toks := tk' }) :
    codeAny (model prog w) callerA (.call (.ref 158) ⟨[.ref S], []⟩) R s := by
  k_dflt (refine' call_cellsK (binds := [(Str.ofString "script", .ref S)]) X T.nolimit ?ho ?hcd ?hb ?hk ?hnd ?c1 ?c2 ?c3 ?_; (case ho => k_is); (case hcd => k_is); (case hb => exact rfl); (case hk => exact kinds_of (by kinds_ok)); (case hnd => decide +kernel); (case c1 => exact rfl); (case c2 => exact rfl); (case c3 => exact rfl))
  intro L h₁ tk₁ f hL F N hf
  have N1 : News s.heap L h₁ ((List.range 16).map fun k => (L + (16 - k), f k)) := N
  have d1 : (f 15).data = .cell (some (.ref S)) := hf 15 (Str.ofString "script", L + 1) rfl
  have d2 : (f 14).data = .cell none := hf 14 (Str.ofString "k", L + 2) rfl
  have d3 : (f 13).data = .cell none := hf 13 (Str.ofString "drawn", L + 3) rfl
  have d4 : (f 12).data = .cell none := hf 12 (Str.ofString "sizes", L + 4) rfl
  have d5 : (f 11).data = .cell none := hf 11 (Str.ofString "signs", L + 5) rfl
  have d6 : (f 10).data = .cell none := hf 10 (Str.ofString "pattern", L + 6) rfl
  have d7 : (f 9).data = .cell none := hf 9 (Str.ofString "top", L + 7) rfl
  have d8 : (f 8).data = .cell none := hf 8 (Str.ofString "told", L + 8) rfl
  have d9 : (f 7).data = .cell none := hf 7 (Str.ofString "order", L + 9) rfl
  have d10 : (f 6).data = .cell none := hf 6 (Str.ofString "rows", L + 10) rfl
  have d11 : (f 5).data = .cell none := hf 5 (Str.ofString "answers", L + 11) rfl
  have d12 : (f 4).data = .cell none := hf 4 (Str.ofString "front", L + 12) rfl
  have d13 : (f 3).data = .cell none := hf 3 (Str.ofString "back", L + 13) rfl
  have d14 : (f 2).data = .cell none := hf 2 (Str.ofString "books", L + 14) rfl
  have d15 : (f 1).data = .cell none := hf 1 (Str.ofString "table", L + 15) rfl
  have d16 : (f 0).data = .cell none := hf 0 (Str.ofString "moved", L + 16) rfl
  clear N hf
  have N2 := ghost_news hT9 F N1
  have F2 := ghost_fr hT9 F
  have C' : CodeHd (ghostOf s.heap [(118, 114)]) 118 114 := (ghost_code hT9).1
  have X' := ghost_K hT9 X (by k_dflt kernel_rfl)
  have T' := ghost_top hT9 T
  have B' := ghost_below hT9
  have hl' := ghost_list hT9 hl
  have l0 := ghost_lt hT9 F
  have NN : News (ghostOf s.heap [(118, 114)]) L h₁ (fullL L (fun i => f (16 - i)) (tabObj #[]) []) := cb_drop N2 fun p hp => by
    rcases full_inv hp with rfl | ⟨i, h1, h2, rfl⟩ | hp
    · exact List.mem_append_right _ (.head _)
    · refine List.mem_append_left _ (List.mem_map.mpr ⟨16 - i, List.mem_range.mpr (by lia), ?_⟩)
      rw [show 16 - (16 - i) = i by lia]
    · cases hp
  have S0 : LwS (ghostOf s.heap [(118, 114)]) L h₁ _ (fun i => f (16 - i)) (tabObj #[]) [] := ⟨F2, NN, fun p hp => (nomatch hp), l0 (114, tabObj #[]) (.head _)⟩
  have dn : ∀ i : Nat, 2 ≤ i → i ≤ 16 → (f (16 - i)).data = .cell none := fun i h1 h2 => by
    have : i = 2 ∨ i = 3 ∨ i = 4 ∨ i = 5 ∨ i = 6 ∨ i = 7 ∨ i = 8 ∨ i = 9 ∨ i = 10 ∨ i = 11 ∨ i = 12 ∨ i = 13 ∨ i = 14 ∨ i = 15 ∨ i = 16 := by lia
    rcases this with rfl | rfl | rfl | rfl | rfl | rfl | rfl | rfl | rfl | rfl | rfl | rfl | rfl | rfl | rfl <;> assumption
  clear N1 N2 F F2 X T hT9 hl l0 d2 d3 d4 d5 d6 d7 d8 d9 d10 d11 d12 d13 d14 d15 d16
  have fin := (@c_chain prog w (ghostOf s.heap [(118, 114)]) L _ { s with heap := h₁, toks := tk₁ } (fun f s' => R (.ok (.ret (match f with | .ret v => v | _ => .none))) s')
    (fun e s' => wpAny (model prog w) (lawA w L) (leaving (lawEnv w L) e) (fun _ s'' => R (.error e) s'') (fun e' s'' => R (.error e') s'') s') _ _ _ _ _ C' B' X' T' _ S0 S vs ns d1 dn hl' hi hlen (by with_unfolding_all passes_own) zs a b s0 s1 ps text ts fe line LF (fun h' tk' m' F' G' => hR h' tk' L m' F' G')).run
  with_unfolding_all exact fin
end
section
-- PL1
noncomputable def cl (x : Str) : List Nat := x.cps.toList
noncomputable def ofL (l : List Nat) : Str := ⟨l.toArray⟩
theorem cl_ofL (l : List Nat) : cl (ofL l) = l := rfl
theorem cl_inj {x y : Str} (h : cl x = cl y) : x = y := by
  obtain ⟨a⟩ := x; obtain ⟨b⟩ := y
  exact congrArg Str.mk (Array.toList_inj.mp h)
theorem ofL_cl (x : Str) : ofL (cl x) = x := cl_inj rfl
theorem cl_app (x y : Str) : cl (x ++ y) = cl x ++ cl y := Array.toList_append
theorem cl_len (x : Str) : (cl x).length = x.length := rfl
theorem chAt_some {x : Str} {p c : Nat} (h : (cl x)[p]? = some c) : chAt x p = ⟨#[c]⟩ := by
  have h' : x.cps[p]? = some c := by rw [← Array.getElem?_toList]; exact h
  unfold chAt; rw [h']
theorem chAt_none {x : Str} {p : Nat} (h : (cl x)[p]? = none) : chAt x p = ⟨#[]⟩ := by
  have h' : x.cps[p]? = none := by rw [← Array.getElem?_toList]; exact h
  unfold chAt; rw [h']
theorem drop_cons {l r : List Nat} {p c : Nat} (h : l.drop p = c :: r) : l[p]? = some c ∧ l.drop (p + 1) = r := by
  constructor
  · have : (l.drop p)[0]? = some c := by rw [h]; rfl
    rw [List.getElem?_drop] at this; exact this
  · rw [← List.drop_drop, h]; rfl
theorem drop_nil {l : List Nat} {p : Nat} (h : l.drop p = []) : l[p]? = none ∧ l.drop (p + 1) = [] := by
  have := List.drop_eq_nil_iff.mp h
  exact ⟨List.getElem?_eq_none this, List.drop_eq_nil_iff.mpr (Nat.le_succ_of_le this)⟩
noncomputable def wsC (c : Nat) : Bool := decide (c = 10) || decide (c = 9) || decide (c = 13) || decide (c = 32)
theorem ws_is (c : Nat) : wsIn ⟨#[c]⟩ = wsC c := by
  unfold wsIn
  rw [StrLaws.found_one]
  have e : ("\n\t\r " : Str).cps.toList = [10, 9, 13, 32] := by decide +kernel
  rw [e]
  simp [wsC, Bool.or_assoc]
noncomputable def nl (c : Nat) : Nat := if c = 10 then 1 else 0
noncomputable def nls (l : List Nat) : Nat := (l.map nl).sum
theorem one_inj {c d : Nat} : ((⟨#[c]⟩ : Str) = ⟨#[d]⟩) ↔ c = d := by
  constructor
  · intro h; have := congrArg cl h; simpa [cl] using this
  · rintro rfl; rfl
theorem lnAt_is (c ln : Nat) : lnAt ⟨#[c]⟩ ln = ln + nl c := by
  have e : ("\n" : Str) = ⟨#[10]⟩ := by decide +kernel
  unfold lnAt nl
  rw [e]
  simp only [one_inj]
  split <;> rfl
theorem lnAt_nil (ln : Nat) : lnAt ⟨#[]⟩ ln = ln := by
  unfold lnAt
  rw [if_neg (by decide +kernel)]
theorem ne_emp (c : Nat) : ¬ ((⟨#[c]⟩ : Str) = "") := fun h => by
  have := congrArg (fun x : Str => x.cps.size) h
  have e : ("" : Str).cps.size = 0 := by decide +kernel
  simp only at this
  rw [e] at this
  exact absurd this (by simp)
theorem emp_is : (⟨#[]⟩ : Str) = "" := by decide +kernel
theorem bs_is : ("\\" : Str) = ⟨#[92]⟩ := by decide +kernel
theorem dq_is : ("\"" : Str) = ⟨#[34]⟩ := by decide +kernel
/-- one sign, perhaps behind a backslash: what is read, what is left, the line ends -/
noncomputable def escL (c : Nat) (r : List Nat) : List Nat × List Nat × Nat := if c = 92 then (match r with | [] => ([], [], 0) | d :: r' => ([d], r', nl d)) else ([c], r, nl c)
theorem esc_is {x : Str} {p ln c : Nat} {r : List Nat} (h : (cl x).drop p = c :: r) : cl (esc x p ln).1 = (escL c r).1 ∧ (cl x).drop (esc x p ln).2.1 = (escL c r).2.1 ∧ (esc x p ln).2.2 = ln + (escL c r).2.2 := by
  obtain ⟨h1, h2⟩ := drop_cons h
  unfold esc escL
  rw [chAt_some h1, bs_is]
  simp only [one_inj]
  by_cases hc : c = 92
  · rw [if_pos hc, if_pos hc]
    have e0 : lnAt ⟨#[c]⟩ ln = ln := by rw [lnAt_is, hc]; rfl
    cases r with
    | nil =>
      obtain ⟨h3, h4⟩ := drop_nil h2
      simp only [chAt_none h3, e0, lnAt_nil]
      exact ⟨rfl, h4, rfl⟩
    | cons d r' =>
      obtain ⟨h3, h4⟩ := drop_cons h2
      simp only [chAt_some h3, e0, lnAt_is]
      exact ⟨rfl, h4, trivial⟩
  · rw [if_neg hc, if_neg hc]
    exact ⟨rfl, h2, lnAt_is _ _⟩
noncomputable def bareL : Nat → List Nat → Nat → List Nat → List Nat × List Nat × Nat
  | 0, r, ln, t => (t, r, ln)
  | _ + 1, [], ln, t => (t, [], ln)
  | k + 1, c :: r, ln, t => if wsC c then (t, r, ln + nl c) else bareL k (escL c r).2.1 (ln + (escL c r).2.2) (t ++ (escL c r).1)
noncomputable def quoteL : Nat → List Nat → Nat → List Nat → List Nat × List Nat × Nat
  | 0, r, ln, t => (t, r, ln)
  | _ + 1, [], ln, t => (t, [], ln)
  | k + 1, c :: r, ln, t => if c = 34 then (t, r, ln) else quoteL k (escL c r).2.1 (ln + (escL c r).2.2) (t ++ (escL c r).1)
noncomputable def skipL : Nat → List Nat → Nat → List Nat × List Nat × Nat
  | 0, r, ln => ([], r, ln)
  | _ + 1, [], ln => ([], [], ln)
  | k + 1, c :: r, ln => if wsC c then skipL k r (ln + nl c) else if c = 34 then quoteL k r ln [] else bareL k (escL c r).2.1 (ln + (escL c r).2.2) (escL c r).1
noncomputable def SameL (x : Str) (a : Str × Nat × Nat) (b : List Nat × List Nat × Nat) : Prop := cl a.1 = b.1 ∧ (cl x).drop a.2.1 = b.2.1 ∧ a.2.2 = b.2.2
theorem bare_is (x : Str) : ∀ (k p ln : Nat) (t : Str), SameL x (lexBare x k p ln t) (bareL k ((cl x).drop p) ln (cl t))
  | 0, p, ln, t => ⟨rfl, rfl, rfl⟩
  | k + 1, p, ln, t => by
    unfold lexBare
    cases h : (cl x).drop p with
    | nil =>
      obtain ⟨h1, h2⟩ := drop_nil h
      rw [chAt_none h1, if_pos emp_is]
      exact ⟨rfl, h2, rfl⟩
    | cons c r =>
      obtain ⟨h1, h2⟩ := drop_cons h
      rw [chAt_some h1, if_neg (ne_emp c), ws_is]
      unfold bareL
      by_cases hw : wsC c = true
      · rw [if_pos hw, if_pos hw]; exact ⟨rfl, h2, lnAt_is _ _⟩
      · rw [if_neg hw, if_neg hw]
        obtain ⟨e1, e2, e3⟩ := esc_is (ln := ln) h
        have := bare_is x k (esc x p ln).2.1 (esc x p ln).2.2 (t ++ (esc x p ln).1)
        rw [e2, e3, cl_app, e1] at this
        rw [e3]
        exact this
theorem quote_is (x : Str) : ∀ (k p ln : Nat) (t : Str), SameL x (lexQuote x k p ln t) (quoteL k ((cl x).drop p) ln (cl t))
  | 0, p, ln, t => ⟨rfl, rfl, rfl⟩
  | k + 1, p, ln, t => by
    unfold lexQuote
    cases h : (cl x).drop p with
    | nil =>
      obtain ⟨h1, h2⟩ := drop_nil h
      rw [chAt_none h1, if_pos emp_is]
      exact ⟨rfl, h2, rfl⟩
    | cons c r =>
      obtain ⟨h1, h2⟩ := drop_cons h
      rw [chAt_some h1, if_neg (ne_emp c), dq_is]
      simp only [one_inj]
      unfold quoteL
      by_cases hw : c = 34
      · rw [if_pos hw, if_pos hw]; exact ⟨rfl, h2, by rw [lnAt_is, hw]; rfl⟩
      · rw [if_neg hw, if_neg hw]
        obtain ⟨e1, e2, e3⟩ := esc_is (ln := ln) h
        have := quote_is x k (esc x p ln).2.1 (esc x p ln).2.2 (t ++ (esc x p ln).1)
        rw [e2, e3, cl_app, e1] at this
        rw [e3]
        exact this
theorem skip_is (x : Str) : ∀ (k p ln : Nat), SameL x (lexSkip x k p ln) (skipL k ((cl x).drop p) ln)
  | 0, p, ln => ⟨rfl, rfl, rfl⟩
  | k + 1, p, ln => by
    unfold lexSkip
    cases h : (cl x).drop p with
    | nil =>
      obtain ⟨h1, h2⟩ := drop_nil h
      rw [chAt_none h1, if_pos emp_is]
      exact ⟨rfl, h2, rfl⟩
    | cons c r =>
      obtain ⟨h1, h2⟩ := drop_cons h
      rw [chAt_some h1, if_neg (ne_emp c), ws_is, dq_is]
      simp only [one_inj]
      unfold skipL
      by_cases hw : wsC c = true
      · rw [if_pos hw, if_pos hw, lnAt_is]
        have := skip_is x k (p + 1) (ln + nl c)
        rw [h2] at this; exact this
      · rw [if_neg hw, if_neg hw]
        by_cases hq : c = 34
        · rw [if_pos hq, if_pos hq, lnAt_is]
          have := quote_is x k (p + 1) (ln + nl c) ""
          rw [h2, hq] at this
          rw [hq]; exact this
        · rw [if_neg hq, if_neg hq]
          obtain ⟨e1, e2, e3⟩ := esc_is (ln := ln) h
          have := bare_is x k (esc x p ln).2.1 (esc x p ln).2.2 ("" ++ (esc x p ln).1)
          rw [e2, e3, cl_app, e1] at this
          rw [e3]
          exact this
end
section
-- PL2
theorem nls_cons (c : Nat) (r : List Nat) : nls (c :: r) = nl c + nls r := by simp [nls]
theorem nls_app (a b : List Nat) : nls (a ++ b) = nls a + nls b := by simp [nls]
theorem esc_lines (c : Nat) (r : List Nat) : (escL c r).2.2 + nls (escL c r).2.1 = nls (c :: r) := by
  unfold escL
  rw [nls_cons]
  by_cases h : c = 92
  · rw [if_pos h, h]
    cases r with
    | nil => rfl
    | cons d r => rw [nls_cons]; simp [nl]
  · rw [if_neg h]
theorem bare_lines : ∀ (k : Nat) (r : List Nat) (ln : Nat) (t : List Nat), (bareL k r ln t).2.2 + nls (bareL k r ln t).2.1 = ln + nls r
  | 0, _, _, _ => rfl
  | _ + 1, [], _, _ => rfl
  | k + 1, c :: r, ln, t => by
    unfold bareL
    by_cases h : wsC c = true
    · rw [if_pos h, nls_cons]; exact Nat.add_assoc _ _ _
    · rw [if_neg h, bare_lines, Nat.add_assoc, esc_lines]
theorem quote_lines : ∀ (k : Nat) (r : List Nat) (ln : Nat) (t : List Nat), (quoteL k r ln t).2.2 + nls (quoteL k r ln t).2.1 = ln + nls r
  | 0, _, _, _ => rfl
  | _ + 1, [], _, _ => rfl
  | k + 1, c :: r, ln, t => by
    unfold quoteL
    by_cases h : c = 34
    · rw [if_pos h, nls_cons, h]; simp [nl]
    · rw [if_neg h, quote_lines, Nat.add_assoc, esc_lines]
theorem skip_lines : ∀ (k : Nat) (r : List Nat) (ln : Nat), (skipL k r ln).2.2 + nls (skipL k r ln).2.1 = ln + nls r
  | 0, _, _ => rfl
  | _ + 1, [], _ => rfl
  | k + 1, c :: r, ln => by
    unfold skipL
    by_cases h : wsC c = true
    · rw [if_pos h, skip_lines, nls_cons, Nat.add_assoc]
    · rw [if_neg h]
      by_cases h2 : c = 34
      · rw [if_pos h2, quote_lines, nls_cons, h2]; simp [nl]
      · rw [if_neg h2, bare_lines, Nat.add_assoc, esc_lines]
noncomputable def mk1 (care : List Nat) (c : Nat) : List Nat := if c ∈ care then [92, c] else [c]
noncomputable def marked (care wd : List Nat) : List Nat := wd.flatMap (mk1 care)
theorem esc_bs (c : Nat) (r : List Nat) : escL 92 (c :: r) = ([c], r, nl c) := rfl
theorem esc_no {c : Nat} {r : List Nat} (h : c ≠ 92) : escL c r = ([c], r, nl c) := if_neg h
theorem bare_word {care : List Nat} {g : Nat} {rest : List Nat} (hg : wsC g = true) : ∀ (wd : List Nat) (k ln : Nat) (t : List Nat), (∀ c ∈ wd, c ∉ care → wsC c = false ∧ c ≠ 92) →
    (bareL (wd.length + (k + 1)) (marked care wd ++ g :: rest) ln t).1 = t ++ wd ∧ (bareL (wd.length + (k + 1)) (marked care wd ++ g :: rest) ln t).2.1 = rest
  | [], k, ln, t, _ => by
    have e : bareL (([] : List Nat).length + (k + 1)) (marked care [] ++ g :: rest) ln t = (t, rest, ln + nl g) := by
      show bareL (0 + (k + 1)) (g :: rest) ln t = _
      rw [Nat.zero_add]
      unfold bareL
      rw [if_pos hg]
    rw [e]
    exact ⟨(List.append_nil _).symm, rfl⟩
  | c :: wd, k, ln, t, h => by
    have ih := fun ln t => bare_word (rest := rest) hg wd k ln t fun d hd => h d (.tail _ hd)
    have e : (c :: wd).length + (k + 1) = (wd.length + (k + 1)) + 1 := by rw [List.length_cons]; lia
    rw [e]
    by_cases hc : c ∈ care
    · have em : marked care (c :: wd) ++ g :: rest = 92 :: c :: (marked care wd ++ g :: rest) := by simp [marked, mk1, hc]
      have eb : bareL (wd.length + (k + 1) + 1) (92 :: c :: (marked care wd ++ g :: rest)) ln t = bareL (wd.length + (k + 1)) (marked care wd ++ g :: rest) (ln + nl c) (t ++ [c]) := by
        rw [bareL.eq_3, if_neg (by decide), esc_bs]
      rw [em, eb]
      have := ih (ln + nl c) (t ++ [c])
      rw [List.append_assoc] at this
      exact this
    · obtain ⟨h1, h2⟩ := h c (.head _) hc
      have em : marked care (c :: wd) ++ g :: rest = c :: (marked care wd ++ g :: rest) := by simp [marked, mk1, hc]
      have eb : bareL (wd.length + (k + 1) + 1) (c :: (marked care wd ++ g :: rest)) ln t = bareL (wd.length + (k + 1)) (marked care wd ++ g :: rest) (ln + nl c) (t ++ [c]) := by
        rw [bareL.eq_3, if_neg (by rw [h1]; decide), esc_no h2]
      rw [em, eb]
      have := ih (ln + nl c) (t ++ [c])
      rw [List.append_assoc] at this
      exact this
theorem quote_word {care : List Nat} {rest : List Nat} : ∀ (wd : List Nat) (k ln : Nat) (t : List Nat), (∀ c ∈ wd, c ∉ care → c ≠ 34 ∧ c ≠ 92) →
    (quoteL (wd.length + (k + 1)) (marked care wd ++ 34 :: rest) ln t).1 = t ++ wd ∧ (quoteL (wd.length + (k + 1)) (marked care wd ++ 34 :: rest) ln t).2.1 = rest
  | [], k, ln, t, _ => by
    have e : quoteL (([] : List Nat).length + (k + 1)) (marked care [] ++ 34 :: rest) ln t = (t, rest, ln) := by
      show quoteL (0 + (k + 1)) (34 :: rest) ln t = _
      rw [Nat.zero_add]
      unfold quoteL
      rw [if_pos rfl]
    rw [e]
    exact ⟨(List.append_nil _).symm, rfl⟩
  | c :: wd, k, ln, t, h => by
    have ih := fun ln t => quote_word (rest := rest) wd k ln t fun d hd => h d (.tail _ hd)
    have e : (c :: wd).length + (k + 1) = (wd.length + (k + 1)) + 1 := by rw [List.length_cons]; lia
    rw [e]
    by_cases hc : c ∈ care
    · have em : marked care (c :: wd) ++ 34 :: rest = 92 :: c :: (marked care wd ++ 34 :: rest) := by simp [marked, mk1, hc]
      have eb : quoteL (wd.length + (k + 1) + 1) (92 :: c :: (marked care wd ++ 34 :: rest)) ln t = quoteL (wd.length + (k + 1)) (marked care wd ++ 34 :: rest) (ln + nl c) (t ++ [c]) := by
        rw [quoteL.eq_3, if_neg (by decide), esc_bs]
      rw [em, eb]
      have := ih (ln + nl c) (t ++ [c])
      rw [List.append_assoc] at this
      exact this
    · obtain ⟨h1, h2⟩ := h c (.head _) hc
      have em : marked care (c :: wd) ++ 34 :: rest = c :: (marked care wd ++ 34 :: rest) := by simp [marked, mk1, hc]
      have eb : quoteL (wd.length + (k + 1) + 1) (c :: (marked care wd ++ 34 :: rest)) ln t = quoteL (wd.length + (k + 1)) (marked care wd ++ 34 :: rest) (ln + nl c) (t ++ [c]) := by
        rw [quoteL.eq_3, if_neg h1, esc_no h2]
      rw [em, eb]
      have := ih (ln + nl c) (t ++ [c])
      rw [List.append_assoc] at this
      exact this
theorem skip_pre {r : List Nat} : ∀ (pre : List Nat) (k ln : Nat), (∀ c ∈ pre, wsC c = true) → skipL (pre.length + k) (pre ++ r) ln = skipL k r (ln + nls pre)
  | [], k, ln, _ => by rw [List.length_nil, Nat.zero_add]; rfl
  | c :: pre, k, ln, h => by
    have e : (c :: pre).length + k = (pre.length + k) + 1 := by rw [List.length_cons]; lia
    rw [e]
    have e2 : skipL (pre.length + k + 1) (c :: (pre ++ r)) ln = skipL (pre.length + k) (pre ++ r) (ln + nl c) := by
      rw [skipL.eq_3, if_pos (h c (.head _))]
    refine e2.trans ((skip_pre pre k _ fun d hd => h d (.tail _ hd)).trans ?_)
    rw [nls_cons, Nat.add_assoc]
/-- a piece of the text tells the word wd and leaves post, whatever blanks stand ahead -/
noncomputable def Tok (P wd post : List Nat) : Prop := (∀ c ∈ post, wsC c = true) ∧ ∀ (pre rest : List Nat) (k ln : Nat), (∀ c ∈ pre, wsC c = true) →
  (skipL (pre.length + (P.length + (k + 1))) (pre ++ (P ++ rest)) ln).1 = wd ∧ (skipL (pre.length + (P.length + (k + 1))) (pre ++ (P ++ rest)) ln).2.1 = post ++ rest
theorem marked_len (care wd : List Nat) : wd.length ≤ (marked care wd).length := by
  induction wd with
  | nil => exact Nat.le_refl _
  | cons c r ih =>
    have : (marked care (c :: r)) = mk1 care c ++ marked care r := rfl
    rw [this, List.length_append, List.length_cons]
    have : 1 ≤ (mk1 care c).length := by unfold mk1; split <;> simp
    lia
theorem tok_quote {care wd post : List Nat} (h : ∀ c ∈ wd, c ∉ care → c ≠ 34 ∧ c ≠ 92) (hp : ∀ c ∈ post, wsC c = true) : Tok (34 :: (marked care wd ++ 34 :: post)) wd post := by
  refine ⟨hp, fun pre rest k ln hpre => ?_⟩
  rw [skip_pre pre _ _ hpre]
  have hm := marked_len care wd
  obtain ⟨j, hj⟩ : ∃ j, (34 :: (marked care wd ++ 34 :: post)).length + (k + 1) = (wd.length + (j + 1)) + 1 := ⟨(marked care wd).length + post.length + 1 + k - wd.length, by simp only [List.length_cons, List.length_append]; lia⟩
  rw [hj]
  have e : 34 :: (marked care wd ++ 34 :: post) ++ rest = 34 :: (marked care wd ++ 34 :: (post ++ rest)) := by simp
  rw [e]
  have eb : skipL (wd.length + (j + 1) + 1) (34 :: (marked care wd ++ 34 :: (post ++ rest))) (ln + nls pre) = quoteL (wd.length + (j + 1)) (marked care wd ++ 34 :: (post ++ rest)) (ln + nls pre) [] := by
    rw [skipL.eq_3, if_neg (by decide), if_pos rfl]
  rw [eb]
  have := quote_word (care := care) (rest := post ++ rest) wd j (ln + nls pre) [] h
  exact this
theorem tok_bare {care wd post : List Nat} {c g : Nat} (hc : c ∈ care) (h : ∀ d ∈ wd, d ∉ care → wsC d = false ∧ d ≠ 92) (hg : wsC g = true) (hp : ∀ d ∈ post, wsC d = true) : Tok (marked care (c :: wd) ++ g :: post) (c :: wd) post := by
  refine ⟨hp, fun pre rest k ln hpre => ?_⟩
  rw [skip_pre pre _ _ hpre]
  have hm := marked_len care wd
  have em : marked care (c :: wd) ++ g :: post = 92 :: c :: (marked care wd ++ g :: post) := by simp [marked, mk1, hc]
  rw [em]
  obtain ⟨j, hj⟩ : ∃ j, (92 :: c :: (marked care wd ++ g :: post)).length + (k + 1) = (wd.length + (j + 1)) + 1 := ⟨(marked care wd).length + post.length + 2 + k - wd.length, by simp only [List.length_cons, List.length_append]; lia⟩
  rw [hj]
  have e : 92 :: c :: (marked care wd ++ g :: post) ++ rest = 92 :: c :: (marked care wd ++ g :: (post ++ rest)) := by simp
  rw [e]
  have eb : skipL (wd.length + (j + 1) + 1) (92 :: c :: (marked care wd ++ g :: (post ++ rest))) (ln + nls pre) = bareL (wd.length + (j + 1)) (marked care wd ++ g :: (post ++ rest)) (ln + nls pre + nl c) [c] := by
    rw [skipL.eq_3, if_neg (by decide), if_neg (by decide), esc_bs]
  rw [eb]
  exact bare_word (rest := post ++ rest) hg wd j _ [c] h
end
section
-- PL3
theorem sl_idx_to (n len : Nat) : Builtin.Str.strSliceIndices none (some (n : Int)) 1 len = sliceRange ((0 : Nat) : Int) ((min n len : Nat) : Int) 1 := by
  have h : ¬ ((n : Int) < 0) := by lia
  have e : max (0 : Int) (min (n : Int) (len : Int)) = ((min n len : Nat) : Int) := by lia
  simp only [Builtin.Str.strSliceIndices, show ((1 : Int) > 0) = True from by simp, if_true, h, if_false, e]
  rfl
theorem sl_idx_from (n len : Nat) : Builtin.Str.strSliceIndices (some (n : Int)) none 1 len = sliceRange ((min n len : Nat) : Int) ((len : Nat) : Int) 1 := by
  have h : ¬ ((n : Int) < 0) := by lia
  have e : max (0 : Int) (min (n : Int) (len : Int)) = ((min n len : Nat) : Int) := by lia
  simp only [Builtin.Str.strSliceIndices, show ((1 : Int) > 0) = True from by simp, if_true, h, if_false, e]
theorem cl_slice (x : Str) (l u : Option Int) (a b : Nat) (h : Builtin.Str.strSliceIndices l u 1 x.length = sliceRange (a : Int) (b : Int) 1) (hb : b ≤ x.length) : cl (Txt.slice x l u) = ((cl x).drop a).take (b - a) := by
  unfold Txt.slice
  rw [h, sliceRange_one]
  split
  · rename_i hc
    have hl : b - a = x.length := by simpa using hc
    have ha : a = 0 ∨ x.length = 0 := by lia
    rcases ha with ha | ha
    · subst ha
      rw [List.drop_zero, List.take_of_length_le (by rw [cl_len]; lia)]
    · have : cl x = [] := List.eq_nil_of_length_eq_zero (by rw [cl_len]; exact ha)
      rw [this, List.drop_nil, List.take_nil]
  · show (List.filterMap (x.cps[·]?) ((List.range (b - a)).map (a + ·))) = _
    rw [pick_run]; rfl
theorem cl_to (x : Str) (n : Nat) : cl (Txt.slice x none (some (n : Int))) = (cl x).take n := by
  rw [cl_slice x none _ 0 (min n x.length) (sl_idx_to n x.length) (Nat.min_le_right _ _), List.drop_zero, Nat.sub_zero]
  by_cases h : n ≤ x.length
  · rw [Nat.min_eq_left h]
  · rw [Nat.min_eq_right (by lia), List.take_of_length_le (show (cl x).length ≤ x.length from Nat.le_refl _), List.take_of_length_le (by rw [cl_len]; lia)]
theorem cl_from (x : Str) (n : Nat) : cl (Txt.slice x (some (n : Int)) none) = (cl x).drop n := by
  rw [cl_slice x _ none (min n x.length) x.length (sl_idx_from n x.length) (Nat.le_refl _)]
  by_cases h : n ≤ x.length
  · rw [Nat.min_eq_left h, List.take_of_length_le (by rw [List.length_drop, cl_len]; lia)]
  · rw [Nat.min_eq_right (by lia), Nat.sub_self, List.take_zero, List.drop_of_length_le (by rw [cl_len]; lia)]
theorem fold_app (g : List Nat) : ∀ (ps : List Str) (acc : Array Nat), (ps.foldl (fun acc p => acc ++ (ofL g).cps ++ p.cps) acc).toList = acc.toList ++ (ps.flatMap fun p => g ++ cl p)
  | [], acc => by simp
  | p :: r, acc => by
    rw [List.foldl_cons, fold_app g r]
    simp [ofL, cl, List.append_assoc]
theorem cl_glue (x : Str) (p : Str) (r : List Str) : cl (Txt.join x (p :: r)) = cl p ++ (r.flatMap fun q => cl x ++ cl q) := by
  have h := fold_app (cl x) r p.cps
  rw [ofL_cl] at h
  exact h
theorem cl_join (ss : List Str) : cl (Txt.join "" ss) = ss.flatMap cl := by
  have e : cl "" = [] := by decide +kernel
  cases ss with
  | nil => decide +kernel
  | cons p r =>
    rw [cl_glue, e]
    simp
theorem mark_is (care : Str) (c : Nat) : cl (markC care c) = mk1 (cl care) c := by
  unfold markC mk1
  have h := StrLaws.found_one care c
  by_cases hc : c ∈ cl care
  · have h2 : (Builtin.Str.occurrences care ⟨#[c]⟩ 0 care.length 1).isEmpty = false := by
      have : decide (c ∈ care.cps.toList) = true := decide_eq_true hc
      rw [this] at h; simpa using h
    rw [h2, if_neg (by decide), if_pos hc, cl_app]
    have e : cl "\\" = [92] := by decide +kernel
    rw [e]; rfl
  · have h2 : (Builtin.Str.occurrences care ⟨#[c]⟩ 0 care.length 1).isEmpty = true := by
      have : decide (c ∈ care.cps.toList) = false := decide_eq_false hc
      rw [this] at h; simpa using h
    rw [h2, if_pos rfl, if_neg hc]; rfl
theorem marked_is (care : Str) (w : Str) : cl (Txt.join "" (w.cps.toList.map (markC care))) = marked (cl care) (cl w) := by
  rw [cl_join, List.flatMap_map]
  unfold marked
  exact congrArg List.flatten (List.map_congr_left fun c _ => mark_is care c)
noncomputable def gaps : List Str := [" ", "\n", "\t ", "\r\n"]
theorem gap_is (j : Int) (h0 : 0 ≤ j) (h4 : j < 4) : ∃ g gs, cl (nth gaps j) = g :: gs ∧ wsC g = true ∧ (∀ c ∈ gs, wsC c = true) ∧ ∀ e : Int, 0 ≤ e → e < 2 → ∀ c ∈ cl (Txt.mul (nth gaps j) e), wsC c = true := by
  have hj : j = 0 ∨ j = 1 ∨ j = 2 ∨ j = 3 := by lia
  have key : ∀ j ∈ [(0 : Int), 1, 2, 3], (∃ g gs, cl (nth gaps j) = g :: gs ∧ wsC g = true ∧ ∀ c ∈ gs, wsC c = true) ∧ ∀ e ∈ [(0 : Int), 1], ∀ c ∈ cl (Txt.mul (nth gaps j) e), wsC c = true := by
    intro j hj
    simp only [List.mem_cons, List.not_mem_nil, or_false] at hj
    rcases hj with rfl | rfl | rfl | rfl
    · exact ⟨⟨32, [], by decide +kernel, by decide, by decide⟩, by decide +kernel⟩
    · exact ⟨⟨10, [], by decide +kernel, by decide, by decide⟩, by decide +kernel⟩
    · exact ⟨⟨9, [32], by decide +kernel, by decide, by decide⟩, by decide +kernel⟩
    · exact ⟨⟨13, [10], by decide +kernel, by decide, by decide⟩, by decide +kernel⟩
  obtain ⟨⟨g, gs, h1, h2, h3⟩, h5⟩ := key j (by simp only [List.mem_cons, List.not_mem_nil, or_false]; exact hj)
  refine ⟨g, gs, h1, h2, h3, fun e e0 e1 => h5 e ?_⟩
  have : e = 0 ∨ e = 1 := by lia
  simpa using this
theorem nth_nat (ws : List Str) {i : Nat} (h : i < ws.length) : nth ws ((i : Nat) : Int) = ws[i] := by
  unfold nth; rw [Int.toNat_natCast, List.getElem?_eq_getElem h]; rfl
/-- a word of the written text: not empty, no tab, no carriage return -/
noncomputable def WordOK (w : Str) : Prop := cl w ≠ [] ∧ ∀ c ∈ cl w, c ≠ 9 ∧ c ≠ 13
theorem piece_tok (ws : List Str) (turn : Int) (i : Nat) (h : i < ws.length) (hw : WordOK ws[i]) : ∃ post, Tok (cl (wPiece ws turn ((i : Nat) : Int))) (cl ws[i]) post := by
  have hf0 : 0 ≤ (turn + ((i : Nat) : Int)).fmod 3 := Int.fmod_nonneg_of_pos _ (by decide)
  have hf3 : (turn + ((i : Nat) : Int)).fmod 3 < 3 := Int.fmod_lt_of_pos _ (by decide)
  have hg0 : 0 ≤ (((i : Nat) : Int)).fmod 4 := Int.fmod_nonneg_of_pos _ (by decide)
  have hg4 : (((i : Nat) : Int)).fmod 4 < 4 := Int.fmod_lt_of_pos _ (by decide)
  obtain ⟨g, gs, e1, e2, e3, e4⟩ := gap_is _ hg0 hg4
  have e5 := e4 (((i : Nat) : Int).fmod 2) (Int.fmod_nonneg_of_pos _ (by decide)) (Int.fmod_lt_of_pos _ (by decide))
  obtain ⟨hne, htab⟩ := hw
  obtain ⟨c, wd, hcw⟩ : ∃ c wd, cl ws[i] = c :: wd := by
    cases hx : cl ws[i] with
    | nil => exact absurd hx hne
    | cons c wd => exact ⟨c, wd, rfl⟩
  have hway : (turn + ((i : Nat) : Int)).fmod 3 = 0 ∨ (turn + ((i : Nat) : Int)).fmod 3 = 1 ∨ (turn + ((i : Nat) : Int)).fmod 3 = 2 := by lia
  show ∃ post, Tok (cl (if (turn + ((i : Nat) : Int)).fmod 3 = 0 then ("\"" : Str) ++ Txt.join "" ((nth ws ((i : Nat) : Int)).cps.toList.map (markC (careC ws turn ((i : Nat) : Int)))) ++ "\"" ++ Txt.mul (nth gaps (((i : Nat) : Int).fmod 4)) (((i : Nat) : Int).fmod 2) else Txt.join "" ((nth ws ((i : Nat) : Int)).cps.toList.map (markC (careC ws turn ((i : Nat) : Int)))) ++ nth gaps (((i : Nat) : Int).fmod 4))) (cl ws[i]) post
  have hcare : careC ws turn ((i : Nat) : Int) = nth ["\"\\", (" \n\\" : Str) ++ Txt.slice ws[i] none (some 1), ws[i]] ((turn + ((i : Nat) : Int)).fmod 3) := by unfold careC; rw [nth_nat ws h]
  rw [nth_nat ws h, hcare]
  rcases hway with hz | hz | hz
  · rw [if_pos hz, hz]
    refine ⟨cl (Txt.mul (nth gaps (((i : Nat) : Int).fmod 4)) (((i : Nat) : Int).fmod 2)), ?_⟩
    have ec : cl (nth ["\"\\", (" \n\\" : Str) ++ Txt.slice ws[i] none (some 1), ws[i]] 0) = [34, 92] := by
      show cl "\"\\" = _
      decide +kernel
    rw [cl_app, cl_app, cl_app, marked_is, ec]
    have e34 : cl "\"" = [34] := by decide +kernel
    rw [e34]
    have := tok_quote (care := [34, 92]) (wd := cl ws[i]) (post := cl (Txt.mul (nth gaps (((i : Nat) : Int).fmod 4)) (((i : Nat) : Int).fmod 2))) (fun d _ hn => ⟨fun e => hn (by simp [e]), fun e => hn (by simp [e])⟩) e5
    simpa using this
  · rw [if_neg (by lia), hz]
    refine ⟨gs, ?_⟩
    have ec : cl (nth ["\"\\", (" \n\\" : Str) ++ Txt.slice ws[i] none (some 1), ws[i]] 1) = [32, 10, 92, c] := by
      show cl ((" \n\\" : Str) ++ Txt.slice ws[i] none (some ((1 : Nat) : Int))) = _
      rw [cl_app, cl_to, hcw]
      have : cl " \n\\" = [32, 10, 92] := by decide +kernel
      rw [this]; rfl
    rw [cl_app, marked_is, ec, e1, hcw]
    refine tok_bare (by simp) (fun d hd hn => ?_) e2 e3
    simp only [List.mem_cons, List.not_mem_nil, or_false, not_or] at hn
    have ht := htab d (by rw [hcw]; exact .tail _ hd)
    exact ⟨by simp [wsC, hn.1, hn.2.1, ht.1, ht.2], hn.2.2.1⟩
  · rw [if_neg (by lia), hz]
    refine ⟨gs, ?_⟩
    have ec : cl (nth ["\"\\", (" \n\\" : Str) ++ Txt.slice ws[i] none (some 1), ws[i]] 2) = c :: wd := by
      show cl ws[i] = _
      exact hcw
    rw [cl_app, marked_is, ec, e1, hcw]
    exact tok_bare (.head _) (fun d hd hn => absurd (.tail _ hd) hn) e2 e3
end
section
-- PL4
theorem tok_step {x : Str} {p ln : Nat} {pre P rest wd post : List Nat} (hT : Tok P wd post) (hpre : ∀ c ∈ pre, wsC c = true) (h : (cl x).drop p = pre ++ (P ++ rest)) :
    ∃ p' ln', gt x ([], p, ln) = (ofL wd, [], p', ln') ∧ (cl x).drop p' = post ++ rest ∧ ln' + nls (post ++ rest) = ln + nls (pre ++ (P ++ rest)) := by
  have hl : pre.length + (P.length + rest.length) ≤ x.length := by
    have := congrArg List.length h
    rw [List.length_drop, List.length_append, List.length_append, cl_len] at this
    lia
  obtain ⟨k, hk⟩ : ∃ k, x.length + 2 = pre.length + (P.length + (k + 1)) := ⟨x.length + 1 - pre.length - P.length, by lia⟩
  have hs := skip_is x (x.length + 2) p ln
  rw [h] at hs
  obtain ⟨h1, h2⟩ := hT.2 pre rest k ln hpre
  have h3 := skip_lines (x.length + 2) (pre ++ (P ++ rest)) ln
  rw [← hk] at h1 h2
  have ea : (lexSkip x (x.length + 2) p ln).1 = ofL wd := cl_inj (hs.1.trans h1)
  refine ⟨(lexSkip x (x.length + 2) p ln).2.1, (lexSkip x (x.length + 2) p ln).2.2, ?_, hs.2.1.trans h2, ?_⟩
  · show ((lexSkip x (x.length + 2) p ln).1, ([] : List Str), (lexSkip x (x.length + 2) p ln).2.1, (lexSkip x (x.length + 2) p ln).2.2) = _
    rw [ea]
  · rw [hs.2.2]
    rw [h2] at h3; exact h3
noncomputable def tailT (ws : List Str) (turn : Int) (i : Nat) : List Nat := (List.range' i (ws.length - i)).flatMap fun j => cl (wPiece ws turn ((j : Nat) : Int))
theorem tailT_cons (ws : List Str) (turn : Int) {i : Nat} (h : i < ws.length) : tailT ws turn i = cl (wPiece ws turn ((i : Nat) : Int)) ++ tailT ws turn (i + 1) := by
  unfold tailT
  obtain ⟨d, hd⟩ : ∃ d, ws.length - i = d + 1 := ⟨ws.length - i - 1, by lia⟩
  rw [hd, List.range'_succ, List.flatMap_cons, show ws.length - (i + 1) = d by lia]
theorem cl_written (ws : List Str) (turn : Int) : cl (writtenC ws turn) = tailT ws turn 0 := by
  have key : ∀ (l : List Int) (acc : Str), cl (l.foldl (fun acc k => acc ++ wPiece ws turn k) acc) = cl acc ++ l.flatMap fun k => cl (wPiece ws turn k) := by
    intro l
    induction l with
    | nil => intro acc; simp
    | cons k r ih => intro acc; rw [List.foldl_cons, ih, cl_app, List.flatMap_cons, List.append_assoc]
  have e : cl "" = [] := by decide +kernel
  unfold writtenC tailT
  rw [key, e, List.nil_append, Nat.sub_zero, ← List.range_eq_range']
  unfold rangeKs
  rw [List.flatMap_map]
  exact congrArg List.flatten (List.map_congr_left fun j _ => by rw [Int.zero_add])
theorem tok_run (ws : List Str) (turn : Int) (hw : ∀ w ∈ ws, WordOK w) : ∀ i, i ≤ ws.length → ∃ p ln pre, tokN (writtenC ws turn) ([], 0, 1) i = (ws.take i, ([], p, ln)) ∧ (∀ c ∈ pre, wsC c = true) ∧ (cl (writtenC ws turn)).drop p = pre ++ tailT ws turn i ∧ ln + nls (pre ++ tailT ws turn i) = 1 + nls (cl (writtenC ws turn))
  | 0, _ => ⟨0, 1, [], rfl, (fun _ h => nomatch h), by rw [List.drop_zero, cl_written]; rfl, by rw [cl_written]; rfl⟩
  | i + 1, h => by
    obtain ⟨p, ln, pre, e, hpre, hd, hn⟩ := tok_run ws turn hw i (by lia)
    have hi : i < ws.length := h
    obtain ⟨post, hT⟩ := piece_tok ws turn i hi (hw _ (List.getElem_mem hi))
    rw [tailT_cons ws turn hi] at hd hn
    obtain ⟨p', ln', e', hd', hn'⟩ := tok_step (ln := ln) hT hpre hd
    refine ⟨p', ln', post, ?_, hT.1, hd', hn'.trans hn⟩
    show ((tokN _ _ i).1 ++ [(gt _ (tokN _ _ i).2).1], (gt _ (tokN _ _ i).2).2) = _
    rw [e, e', ofL_cl, List.take_add_one, List.getElem?_eq_getElem hi]
    rfl
/-- words over two signs -/
noncomputable def chB (c0 c1 : Nat) (b : Bool) : Nat := if b then c1 else c0
noncomputable def wB (c0 c1 : Nat) (w : List Bool) : Str := ofL (w.map (chB c0 c1))
theorem wB_len (c0 c1 : Nat) (w : List Bool) : (wB c0 c1 w).length = w.length := by
  show (w.map _).length = _; rw [List.length_map]
theorem wB_app (c0 c1 : Nat) (a b : List Bool) : wB c0 c1 (a ++ b) = wB c0 c1 a ++ wB c0 c1 b := cl_inj (by rw [cl_app]; show (a ++ b).map _ = _; rw [List.map_append]; rfl)
noncomputable def toldB (top : Nat) (q : List (List Bool)) : Nat → List (List Bool) × List (List Bool)
  | 0 => ([], q)
  | n + 1 => match (toldB top q n).2 with
    | [] => (toldB top q n)
    | w :: r => ((toldB top q n).1 ++ [w], if w.length < top then r ++ [w ++ [false]] ++ [w ++ [true]] else r)
theorem told_map {x : Str} {c0 c1 top p ln : Nat} (h0 : c0 ≠ 101) (h1 : c1 ≠ 101) {q : List (List Bool)} : ∀ n, (∀ i < n, (toldB top q i).2 ≠ []) → toldN x (ofL [c0]) (ofL [c1]) top (q.map (wB c0 c1), p, ln) n = ((toldB top q n).1.map (wB c0 c1), ((toldB top q n).2.map (wB c0 c1), p, ln))
  | 0, _ => rfl
  | n + 1, h => by
    have ih := told_map (x := x) (p := p) (ln := ln) (top := top) (q := q) h0 h1 n fun i hi => h i (Nat.lt_succ_of_lt hi)
    have hne := h n (Nat.lt_succ_self n)
    show ((toldN _ _ _ _ _ n).1 ++ [(gt _ (toldN _ _ _ _ _ n).2).1], pushZ _ _ _ (gt _ (toldN _ _ _ _ _ n).2).1 (gt _ (toldN _ _ _ _ _ n).2).2) = _
    rw [ih]
    obtain ⟨w, r, hq⟩ : ∃ w r, (toldB top q n).2 = w :: r := by
      cases hx : (toldB top q n).2 with
      | nil => exact absurd hx hne
      | cons w r => exact ⟨w, r, rfl⟩
    have e2 : toldB top q (n + 1) = ((toldB top q n).1 ++ [w], if w.length < top then r ++ [w ++ [false]] ++ [w ++ [true]] else r) := by
      show (match (toldB top q n).2 with | [] => (toldB top q n) | w :: r => _) = _
      rw [hq]
    rw [e2, hq]
    have hend : wB c0 c1 w ≠ "end" := fun e => by
      have := congrArg cl e
      have e3 : cl "end" = [101, 110, 100] := by decide +kernel
      rw [e3] at this
      have hm : (w.map (chB c0 c1)) = [101, 110, 100] := this
      cases w with
      | nil => simp at hm
      | cons b w =>
        simp only [List.map_cons, List.cons.injEq] at hm
        have := hm.1
        unfold chB at this
        split at this
        · exact h1 this
        · exact h0 this
    show ((toldB top q n).1.map (wB c0 c1) ++ [wB c0 c1 w], pushZ (ofL [c0]) (ofL [c1]) top (wB c0 c1 w) (r.map (wB c0 c1), p, ln)) = _
    unfold pushZ
    rw [wB_len]
    by_cases hl : w.length < top
    · rw [if_pos ⟨hend, hl⟩, if_pos hl]
      have ea : wB c0 c1 [false] = ofL [c0] := rfl
      have eb : wB c0 c1 [true] = ofL [c1] := rfl
      simp only [List.map_append, List.map_cons, List.map_nil, wB_app, ea, eb]
    · rw [if_neg (fun h => hl h.2), if_neg hl]
      simp only [List.map_append, List.map_cons, List.map_nil]
noncomputable def bfs (top : Nat) : List (List Bool) := (toldB top [[]] (2 ^ (top + 1) - 1)).1
theorem bfs_run : ∀ top ∈ [4, 5], (∀ i ∈ List.range (2 ^ (top + 1) - 1), (toldB top [[]] i).2 ≠ []) ∧ (toldB top [[]] (2 ^ (top + 1) - 1)).2 = [] := by decide +kernel
theorem cnt_nls (l : List Nat) : cnt 10 l = ((nls l : Nat) : Int) := by
  induction l with
  | nil => rfl
  | cons c r ih =>
    rw [nls_cons, cnt_cons, ih]
    unfold nl
    by_cases h : c = 10
    · simp [h]
    · simp [h]
theorem texts_is (ps : List Str) (turn : Int) (c0 c1 top : Nat) (h0 : c0 ≠ 101) (h1 : c1 ≠ 101) (ht : top = 4 ∨ top = 5) (hw : ∀ w ∈ ps, WordOK w) :
    textsZ (writtenC (ps ++ [Str.ofString "end"]) turn) ps.length (ofL [c0]) (ofL [c1]) top = (ps, (bfs top).map (wB c0 c1) ++ [Str.ofString "end"], Str.ofString "", 1 + nls (cl (writtenC (ps ++ [Str.ofString "end"]) turn))) := by
  have hend : WordOK (Str.ofString "end") := by constructor <;> decide +kernel
  have hw2 : ∀ w ∈ ps ++ [Str.ofString "end"], WordOK w := List.forall_mem_append.mpr ⟨hw, List.forall_mem_cons.mpr ⟨hend, fun _ h => nomatch h⟩⟩
  have hlen : (ps ++ [Str.ofString "end"]).length = ps.length + 1 := by rw [List.length_append]; rfl
  obtain ⟨p, ln, pre, e, hpre, hd, hn⟩ := tok_run (ps ++ [Str.ofString "end"]) turn hw2 ps.length (by lia)
  have hlt : ps.length < (ps ++ [Str.ofString "end"]).length := by lia
  obtain ⟨post, hT⟩ := piece_tok (ps ++ [Str.ofString "end"]) turn ps.length hlt (hw2 _ (List.getElem_mem hlt))
  have eend : (ps ++ [Str.ofString "end"])[ps.length] = Str.ofString "end" := by simp
  rw [eend] at hT
  have etail : tailT (ps ++ [Str.ofString "end"]) turn (ps.length + 1) = [] := by
    unfold tailT; rw [hlen, Nat.sub_self]; rfl
  rw [tailT_cons _ _ hlt, etail] at hd hn
  generalize writtenC (ps ++ [Str.ofString "end"]) turn = x at *
  have et : (ps ++ [Str.ofString "end"]).take ps.length = ps := by simp
  rw [et] at e
  obtain ⟨p', ln', e', hd', hn'⟩ := tok_step (ln := ln) hT hpre hd
  have hb := bfs_run top (by rcases ht with rfl | rfl <;> simp)
  have htold := told_map (x := x) (p := p) (ln := ln) (top := top) (q := [[]]) h0 h1 (2 ^ (top + 1) - 1) fun i hi => hb.1 i (List.mem_range.mpr hi)
  have hpow : 2 ^ (top + 1) = (2 ^ (top + 1) - 1) + 1 := by
    have : 0 < 2 ^ (top + 1) := Nat.pow_pos (by decide)
    lia
  have eq0 : ([[]] : List (List Bool)).map (wB c0 c1) = ([""] : List Str) := by
    show [wB c0 c1 []] = _
    have : wB c0 c1 [] = "" := by show ofL [] = _; decide +kernel
    rw [this]
  rw [eq0, hb.2] at htold
  have hlast : toldN x (ofL [c0]) (ofL [c1]) top ([""], p, ln) (2 ^ (top + 1)) = ((bfs top).map (wB c0 c1) ++ [Str.ofString "end"], ([], p', ln')) := by
    rw [hpow]
    show ((toldN _ _ _ _ _ _).1 ++ [(gt _ (toldN _ _ _ _ _ _).2).1], pushZ _ _ _ (gt _ (toldN _ _ _ _ _ _).2).1 (gt _ (toldN _ _ _ _ _ _).2).2) = _
    rw [htold]
    show ((bfs top).map (wB c0 c1) ++ [(gt x ([], p, ln)).1], pushZ _ _ _ (gt x ([], p, ln)).1 (gt x ([], p, ln)).2) = _
    rw [e']
    have : ofL (cl (Str.ofString "end")) = Str.ofString "end" := ofL_cl _
    rw [this]
    unfold pushZ
    rw [if_neg (fun h => h.1 rfl)]
  have hfin : ∃ p'' , gt x ([], p', ln') = (Str.ofString "", [], p'', 1 + nls (cl x)) := by
    have hs := skip_is x (x.length + 2) p' ln'
    rw [hd'] at hs
    have hpl : post.length ≤ x.length := by
      have := congrArg List.length hd'
      rw [List.length_drop, List.length_append, cl_len] at this
      lia
    obtain ⟨k, hk⟩ : ∃ k, x.length + 2 = post.length + (k + 1) := ⟨x.length + 1 - post.length, by lia⟩
    have hsk : skipL (x.length + 2) (post ++ []) ln' = ([], [], ln' + nls post) := by rw [hk, skip_pre post _ _ hT.1]; rfl
    rw [hsk] at hs
    refine ⟨(lexSkip x (x.length + 2) p' ln').2.1, ?_⟩
    show ((lexSkip x (x.length + 2) p' ln').1, ([] : List Str), (lexSkip x (x.length + 2) p' ln').2.1, (lexSkip x (x.length + 2) p' ln').2.2) = _
    have ea : (lexSkip x (x.length + 2) p' ln').1 = Str.ofString "" := cl_inj (hs.1.trans (show ([] : List Nat) = cl (Str.ofString "") by decide +kernel))
    rw [ea, hs.2.2]
    rw [List.append_nil] at hn'
    show (_, _, _, ln' + nls post) = _
    rw [hn', hn]
  obtain ⟨p'', hfin⟩ := hfin
  unfold textsZ
  rw [e]
  dsimp only
  rw [hlast]
  dsimp only
  rw [hfin]
end
section
-- PL5
open StrLaws in
/-- the places of y in x, from free on, one after another, at most lim more -/
noncomputable def places (at_ : Nat → Bool) (w : Nat) : List Nat → Nat → Nat → List Nat
  | [], _, _ => []
  | i :: r, free, lim => if 0 < lim ∧ free ≤ i ∧ at_ i = true then i :: places at_ w r (i + w) (lim - 1) else places at_ w r free lim
noncomputable def atS (x y : Str) (hi i : Nat) : Bool := decide (i + y.length ≤ hi) && Builtin.Str.subAt x y i
theorem occ_places (x y : Str) (hi limit : Nat) : ∀ (l : List Nat) (acc : Array Nat) (free : Nat), (forIn l (acc, free) (StrLaws.occBody x y hi limit)).run.fst.toList = acc.toList ++ places (atS x y hi) y.length l free (limit - acc.size)
  | [], acc, free => by simp [places]
  | i :: r, acc, free => by
    rw [List.forIn_cons]
    unfold StrLaws.occBody places atS
    by_cases h : ((acc.size < limit ∧ free ≤ i) ∧ i + y.length ≤ hi) ∧ Builtin.Str.subAt x y i = true
    · rw [if_pos h, if_pos ⟨by lia, h.1.1.2, by simp [h.1.2, h.2]⟩]
      show (forIn r (acc.push i, i + y.length) (StrLaws.occBody x y hi limit)).run.fst.toList = _
      rw [occ_places x y hi limit r]
      simp only [Array.toList_push, Array.size_push, List.append_assoc, List.cons_append, List.nil_append]
      rw [Nat.sub_sub]; rfl
    · rw [if_neg h, if_neg (fun h' => h ⟨⟨⟨by lia, h'.2.1⟩, of_decide_eq_true (Bool.and_eq_true_iff.mp h'.2.2).1⟩, (Bool.and_eq_true_iff.mp h'.2.2).2⟩)]
      show (forIn r (acc, free) (StrLaws.occBody x y hi limit)).run.fst.toList = _
      rw [occ_places x y hi limit r]; rfl
theorem occ_is (x y : Str) (lo hi limit : Nat) : Builtin.Str.occurrences x y lo hi limit = places (atS x y hi) y.length (List.range' lo (hi + 1 - lo)) lo limit := by
  rw [StrLaws.occ_eq, occ_places]; simp
noncomputable def atL {α : Type} [BEq α] (x y : List α) (hi i : Nat) : Bool := decide (i + y.length ≤ hi) && ((x.drop i).take y.length == y)
theorem at_is (x y : Str) (hi i : Nat) : atS x y hi i = atL (cl x) (cl y) hi i := by
  unfold atS atL Builtin.Str.subAt
  congr 1
  have e : (x.cps.extract i (i + y.length)).toList = ((cl x).drop i).take y.length := by
    rw [Array.toList_extract, List.extract_eq_drop_take]
    simp [cl]
  have h1 : (x.cps.extract i (i + y.length) == y.cps) = ((x.cps.extract i (i + y.length)).toList == y.cps.toList) := by
    by_cases h : x.cps.extract i (i + y.length) = y.cps
    · rw [h]; simp
    · have h2 : ¬ (x.cps.extract i (i + y.length)).toList = y.cps.toList := fun e => h (Array.toList_inj.mp e)
      rw [beq_eq_false_iff_ne.mpr h, beq_eq_false_iff_ne.mpr h2]
  rw [h1, e]; rfl
theorem first_places (at_ : Nat → Bool) (w : Nat) : ∀ (l : List Nat) (free : Nat), (∀ i ∈ l, free ≤ i) → places at_ w l free 1 = (match l.find? at_ with | some i => [i] | none => [])
  | [], _, _ => rfl
  | i :: r, free, h => by
    unfold places
    rw [List.find?_cons]
    have zero : ∀ (l : List Nat) (f : Nat), places at_ w l f 0 = [] := by
      intro l
      induction l with
      | nil => intro f; rfl
      | cons j r ih => intro f; unfold places; rw [if_neg (by lia)]; exact ih f
    by_cases hi : at_ i = true
    · rw [if_pos ⟨by decide, h i (.head _), hi⟩, hi, zero]
    · rw [if_neg (fun h' => hi h'.2.2), first_places at_ w r free fun j hj => h j (.tail _ hj)]
      simp [hi]
/-- find within [sp, ep) -/
noncomputable def findL {α : Type} [BEq α] (x y : List α) (sp ep : Nat) : Option Nat := (List.range' sp (ep + 1 - sp)).find? (atL x y ep)
theorem fnd_is (x y : Str) (sp ep : Nat) (h : ep ≤ x.length) : fnd x y (sp : Int) (ep : Int) = (match findL (cl x) (cl y) sp ep with | some i => (i : Int) | none => -1) := by
  have e1 : fromIndex x.length (sp : Int) = sp := by unfold fromIndex; rw [if_neg (by lia)]; lia
  have e2 : fromIndex x.length (ep : Int) = ep := by unfold fromIndex; rw [if_neg (by lia)]; lia
  unfold fnd findL
  rw [e1, e2, Nat.min_eq_left h, occ_is, first_places _ _ _ _ fun i hi => (List.mem_range'_1.mp hi).1]
  have : atS x y ep = atL (cl x) (cl y) ep := funext fun i => at_is x y ep i
  rw [this]
  cases (List.range' sp (ep + 1 - sp)).find? (atL (cl x) (cl y) ep) <;> rfl
theorem starts_is (x y : Str) : Txt.startswith x y = ((cl x).take y.length == cl y && decide (y.length ≤ x.length)) := by
  have := at_is x y x.length 0
  unfold atS atL at this
  simp only [Nat.zero_add, cl_len, List.drop_zero] at this
  unfold Txt.startswith
  rw [Nat.zero_add, this, Bool.and_comm]
theorem ends_is (x y : Str) : Txt.endswith x y = (decide (y.length ≤ x.length) && ((cl x).drop (x.length - y.length) == cl y)) := by
  unfold Txt.endswith
  rw [Nat.zero_add]
  by_cases h : y.length ≤ x.length
  · have := at_is x y x.length (x.length - y.length)
    unfold atS atL at this
    rw [show x.length - y.length + y.length = x.length by lia, cl_len, show x.length - y.length + y.length = x.length by lia] at this
    simp only [Nat.le_refl, decide_true, Bool.true_and] at this
    rw [this, List.take_of_length_le (by rw [List.length_drop, cl_len]; lia)]
  · simp [h]
end
section
-- PL6
noncomputable def ellL {α : Type} [BEq α] (got : List α) (ep : Nat) : List (List α) → Nat → Bool
  | [], _ => true
  | x :: r, sp => match findL got x sp ep with | none => false | some i => ellL got ep r (i + x.length)
noncomputable def ellEndL {α : Type} [BEq α] (got : List α) (pre : List (List α)) (wl : List α) (sp : Nat) : Bool :=
  if 0 < wl.length then (if (decide (wl.length ≤ got.length) && (got.drop (got.length - wl.length) == wl)) = true then (if got.length < sp + wl.length then false else ellL got (got.length - wl.length) pre sp) else false)
  else if got.length < sp then false else ellL got got.length (pre ++ [wl]) sp
noncomputable def ellML {α : Type} [BEq α] (got w0 : List α) (mid : List (List α)) (wl : List α) : Bool :=
  if 0 < w0.length then (if (got.take w0.length == w0 && decide (w0.length ≤ got.length)) = true then ellEndL got mid wl w0.length else false) else ellEndL got (w0 :: mid) wl 0
theorem loop_is (got : Str) (ep : Nat) (he : ep ≤ got.length) : ∀ (ss : List Str) (sp : Nat), ellLoop got (ep : Int) ss (sp : Int) = ellL (cl got) ep (ss.map cl) sp
  | [], _ => rfl
  | x :: r, sp => by
    unfold ellLoop
    rw [fnd_is got x sp ep he]
    show _ = (match findL (cl got) (cl x) sp ep with | none => false | some i => ellL (cl got) ep (r.map cl) (i + (cl x).length))
    cases findL (cl got) (cl x) sp ep with
    | none => rfl
    | some i =>
      dsimp only
      rw [if_neg (Int.not_lt.mpr (Int.natCast_nonneg i))]
      have := loop_is got ep he r (i + x.length)
      rw [cl_len, ← this]
      rfl
theorem end_is (got : Str) (pre : List Str) (wl : Str) (sp : Nat) : ellEnd got pre wl (sp : Int) = ellEndL (cl got) (pre.map cl) (cl wl) sp := by
  unfold ellEnd ellEndL
  rw [cl_len, cl_len]
  by_cases h : 0 < wl.length
  · rw [if_pos h, if_pos h, ends_is]
    by_cases h2 : (decide (wl.length ≤ got.length) && ((cl got).drop (got.length - wl.length) == cl wl)) = true
    · rw [if_pos h2, if_pos h2]
      have h3 : wl.length ≤ got.length := of_decide_eq_true (Bool.and_eq_true_iff.mp h2).1
      by_cases h4 : got.length < sp + wl.length
      · rw [if_pos (by lia), if_pos h4]
      · rw [if_neg (by lia), if_neg h4]
        have := loop_is got (got.length - wl.length) (Nat.sub_le _ _) pre sp
        rw [← this, show ((got.length - wl.length : Nat) : Int) = (got.length : Int) - wl.length by lia]
    · rw [if_neg h2, if_neg h2]
  · rw [if_neg h, if_neg h]
    by_cases h4 : got.length < sp
    · rw [if_pos (by lia), if_pos h4]
    · rw [if_neg (by lia), if_neg h4]
      have := loop_is got got.length (Nat.le_refl _) (pre ++ [wl]) sp
      rw [this, List.map_append]; rfl
theorem ellM_is (got w0 : Str) (mid : List Str) (wl : Str) : ellM got w0 mid wl = ellML (cl got) (cl w0) (mid.map cl) (cl wl) := by
  unfold ellM ellML
  rw [cl_len, cl_len, starts_is]
  by_cases h : 0 < w0.length
  · rw [if_pos h, if_pos h]
    by_cases h2 : ((cl got).take w0.length == cl w0 && decide (w0.length ≤ got.length)) = true
    · rw [if_pos h2, if_pos h2]; exact end_is got mid wl w0.length
    · rw [if_neg h2, if_neg h2]
  · rw [if_neg h, if_neg h]; exact end_is got (w0 :: mid) wl 0
section
variable {α β : Type} [BEq α] [LawfulBEq α] [BEq β] [LawfulBEq β] {φ : α → β} (hφ : Function.Injective φ)
include hφ
theorem beq_map (x y : List α) : (x.map φ == y.map φ) = (x == y) := by
  by_cases h : x = y
  · rw [h]; simp
  · rw [beq_eq_false_iff_ne.mpr h, beq_eq_false_iff_ne.mpr fun e => h ((List.map_inj_right fun a b e => hφ e).mp e)]
theorem atL_map (x y : List α) (hi i : Nat) : atL (x.map φ) (y.map φ) hi i = atL x y hi i := by
  unfold atL
  rw [List.length_map, ← List.map_drop, ← List.map_take, beq_map hφ]
theorem findL_map (x y : List α) (sp ep : Nat) : findL (x.map φ) (y.map φ) sp ep = findL x y sp ep := by
  unfold findL
  rw [funext (atL_map hφ x y ep)]
theorem ellL_map (got : List α) (ep : Nat) : ∀ (ss : List (List α)) (sp : Nat), ellL (got.map φ) ep (ss.map (List.map φ)) sp = ellL got ep ss sp
  | [], _ => rfl
  | x :: r, sp => by
    show (match findL (got.map φ) (x.map φ) sp ep with | none => false | some i => ellL (got.map φ) ep (r.map (List.map φ)) (i + (x.map φ).length)) = _
    rw [findL_map hφ]
    show _ = (match findL got x sp ep with | none => false | some i => ellL got ep r (i + x.length))
    cases findL got x sp ep with
    | none => rfl
    | some i => dsimp only; rw [List.length_map, ellL_map got ep r]
theorem ellEndL_map (got : List α) (pre : List (List α)) (wl : List α) (sp : Nat) : ellEndL (got.map φ) (pre.map (List.map φ)) (wl.map φ) sp = ellEndL got pre wl sp := by
  unfold ellEndL
  have e : pre.map (List.map φ) ++ [wl.map φ] = (pre ++ [wl]).map (List.map φ) := by rw [List.map_append]; rfl
  rw [List.length_map, List.length_map, ← List.map_drop, beq_map hφ, ellL_map hφ, e, ellL_map hφ]
theorem ellML_map (got w0 : List α) (mid : List (List α)) (wl : List α) : ellML (got.map φ) (w0.map φ) (mid.map (List.map φ)) (wl.map φ) = ellML got w0 mid wl := by
  unfold ellML
  have e : w0.map φ :: mid.map (List.map φ) = (w0 :: mid).map (List.map φ) := rfl
  rw [List.length_map, List.length_map, ← List.map_take, beq_map hφ, ellEndL_map hφ, e, ellEndL_map hφ]
end
theorem chB_inj {c0 c1 : Nat} (h : c0 ≠ c1) : Function.Injective (chB c0 c1) := by
  intro a b e
  cases a <;> cases b
  · rfl
  · exact absurd e h
  · exact absurd e.symm h
  · rfl
theorem ellM_wB {c0 c1 : Nat} (h : c0 ≠ c1) (got w0 : List Bool) (mid : List (List Bool)) (wl : List Bool) : ellM (wB c0 c1 got) (wB c0 c1 w0) (mid.map (wB c0 c1)) (wB c0 c1 wl) = ellML got w0 mid wl := by
  rw [ellM_is]
  have e : (mid.map (wB c0 c1)).map cl = mid.map (List.map (chB c0 c1)) := by rw [List.map_map]; rfl
  rw [e]
  exact ellML_map (chB_inj h) got w0 mid wl
end
section
-- PL7
/-- str.split on lists -/
noncomputable def cutsL {α : Type} [BEq α] (x y : List α) : List Nat := places (atL x y x.length) y.length (List.range' 0 (x.length + 1)) 0 (x.length + 1)
noncomputable def splitL {α : Type} [BEq α] (x y : List α) : List (List α) :=
  if (cutsL x y).isEmpty = true then [x] else ((0 :: (cutsL x y).map (· + y.length)).zip (cutsL x y ++ [x.length])).map fun p => (x.drop p.1).take (p.2 - p.1)
theorem cl_sub (x : Str) (i j : Nat) : cl (Builtin.Str.strSub x i j) = ((cl x).drop i).take (j - i) := by
  show (x.cps.extract i j).toList = _
  rw [Array.toList_extract, List.extract_eq_drop_take]; rfl
theorem cuts_is (x y : Str) : Builtin.Str.occurrences x y 0 x.length (x.length + 1) = cutsL (cl x) (cl y) := by
  rw [occ_is, Nat.sub_zero]
  have : atS x y x.length = atL (cl x) (cl y) (cl x).length := funext fun i => at_is x y x.length i
  rw [this]; rfl
theorem cuts_short {x y : List Nat} (h : x.length < y.length) : cutsL x y = [] := by
  have : ∀ (l : List Nat) (f lim : Nat), places (atL x y x.length) y.length l f lim = [] := by
    intro l
    induction l with
    | nil => intro f lim; rfl
    | cons i r ih =>
      intro f lim
      unfold places
      rw [if_neg (fun h' => by
        have := of_decide_eq_true (Bool.and_eq_true_iff.mp h'.2.2).1
        lia)]
      exact ih f lim
  exact this _ _ _
theorem split_is (x y : Str) (hy : Builtin.Str.strKind y = 1) : (Txt.split x y).map cl = splitL (cl x) (cl y) := by
  unfold Txt.split splitL
  have hk : ¬ Builtin.Str.strKind x < Builtin.Str.strKind y := by
    rw [hy]; unfold Builtin.Str.strKind; split <;> (try split) <;> lia
  rw [cuts_is]
  by_cases h : x.length < y.length
  · rw [if_pos (by simp [h])]
    have e0 : cutsL (cl x) (cl y) = [] := cuts_short h
    rw [e0]; rfl
  · rw [if_neg (by simp [h, hk])]
    by_cases h2 : (cutsL (cl x) (cl y)).isEmpty = true
    · rw [if_pos h2, if_pos h2]; rfl
    · rw [if_neg h2, if_neg h2]
      unfold Builtin.Str.partsBetween
      rw [List.map_map]
      exact List.map_congr_left fun p _ => cl_sub x p.1 p.2
theorem dots_kind : Builtin.Str.strKind "..." = 1 := by decide +kernel
theorem dots_cl : cl "..." = [46, 46, 46] := by decide +kernel
theorem hit_is (x : Str) : (Builtin.Str.occurrences x "..." 0 x.length 1).isEmpty = (cutsL (cl x) [46, 46, 46]).isEmpty := by
  have h : ∀ (p : Nat → Bool) (w : Nat) (l : List Nat) (f n : Nat), (∀ i ∈ l, f ≤ i) → (places p w l f 1).isEmpty = (places p w l f (n + 1)).isEmpty := by
    intro p w l
    induction l with
    | nil => intro f n _; rfl
    | cons i r ih =>
      intro f n hf
      unfold places
      by_cases hi : p i = true
      · rw [if_pos ⟨by decide, hf i (.head _), hi⟩, if_pos ⟨Nat.succ_pos _, hf i (.head _), hi⟩]; rfl
      · rw [if_neg (fun h => hi h.2.2), if_neg (fun h => hi h.2.2)]
        exact ih f n fun j hj => hf j (.tail _ hj)
  rw [occ_is, Nat.sub_zero, h _ _ _ _ x.length fun _ _ => Nat.zero_le _]
  have : atS x "..." x.length = atL (cl x) [46, 46, 46] (cl x).length := by rw [← dots_cl]; exact funext fun i => at_is x "..." x.length i
  rw [this]
  have e3 : ("..." : Str).length = 3 := by decide +kernel
  rw [e3]; rfl
section
variable {α β : Type} [BEq α] [LawfulBEq α] [BEq β] [LawfulBEq β] {φ : α → β} (hφ : Function.Injective φ)
include hφ
theorem cutsL_map (x y : List α) : cutsL (x.map φ) (y.map φ) = cutsL x y := by
  unfold cutsL
  rw [List.length_map, List.length_map, funext (atL_map hφ x y x.length)]
theorem splitL_map (x y : List α) : splitL (x.map φ) (y.map φ) = (splitL x y).map (List.map φ) := by
  unfold splitL
  rw [cutsL_map hφ, List.length_map, List.length_map]
  split
  · rfl
  · rw [List.map_map]
    exact List.map_congr_left fun p _ => by simp [List.map_take, List.map_drop]
end
/-- a sign of the pattern: a dot, or one of two signs -/
noncomputable def chO (c0 c1 : Nat) : Option Bool → Nat
  | none => 46
  | some b => chB c0 c1 b
theorem chO_inj {c0 c1 : Nat} (h : c0 ≠ c1) (h0 : c0 ≠ 46) (h1 : c1 ≠ 46) : Function.Injective (chO c0 c1) := by
  intro a b e
  cases a with
  | none =>
    cases b with
    | none => rfl
    | some b => cases b; exact absurd e.symm h0; exact absurd e.symm h1
  | some a =>
    cases b with
    | none => cases a; exact absurd e h0; exact absurd e h1
    | some b => exact congrArg some (chB_inj h e)
noncomputable def dotsO : List (Option Bool) := [none, none, none]
noncomputable def gluO (ps : List (List Bool)) : List (Option Bool) := match ps with
  | [] => []
  | p :: r => p.map some ++ r.flatMap fun q => dotsO ++ q.map some
noncomputable def patO (a b : Bool) (ps : List (List Bool)) : List (Option Bool) := (if a then dotsO else []) ++ gluO ps ++ (if b then dotsO else [])
theorem cl_wB (c0 c1 : Nat) (w : List Bool) : cl (wB c0 c1 w) = (w.map some).map (chO c0 c1) := by
  rw [List.map_map]; rfl
theorem pattern_is (c0 c1 : Nat) (a b : Bool) (ps : List (List Bool)) : cl (patternZ (if a then 1 else 0) (if b then 1 else 0) (ps.map (wB c0 c1))) = (patO a b ps).map (chO c0 c1) := by
  have hm : ∀ a : Bool, cl (Txt.mul (Str.ofString "...") (if a then (1 : Int) else 0)) = (if a then dotsO else []).map (chO c0 c1) := by
    intro a; cases a
    · show cl (Txt.mul (Str.ofString "...") 0) = []
      decide +kernel
    · show cl (Txt.mul (Str.ofString "...") 1) = [46, 46, 46]
      decide +kernel
  unfold patternZ patO
  rw [cl_app, cl_app, hm, hm, List.map_append, List.map_append]
  congr 2
  cases ps with
  | nil =>
    show cl (Txt.join (Str.ofString "...") []) = []
    decide +kernel
  | cons p r =>
    rw [List.map_cons, cl_glue, cl_wB]
    unfold gluO
    rw [List.map_append, List.flatMap_map, List.map_flatMap]
    congr 2
    funext q
    rw [List.map_append, cl_wB]
    have : cl (Str.ofString "...") = dotsO.map (chO c0 c1) := dots_cl
    rw [this]
end
section
-- PL8
noncomputable def szN : List (List Nat) := [[], [1], [2], [3], [1, 1], [1, 2], [2, 1], [2, 2], [1, 1, 1], [1, 2, 1], [3, 1], [1, 1, 2]]
noncomputable def piecesN : List Nat → Nat → List (List Bool)
  | [], _ => []
  | n :: r, y => ((List.range n).map fun j => decide (y / 2 ^ j % 2 = 1)) :: piecesN r (y / 2 ^ n)
noncomputable def allN : List (List (List Bool)) := szN.flatMap fun sz => (List.range (2 ^ sz.sum)).map (piecesN sz)
noncomputable def pcs (z : Int) (zs : List Int) : List (List Bool) := (List.range zs.length).map fun i => (rangeKs 0 (zs.getD i 0).toNat).map fun j => decide (powZ z zs i j = 1)
theorem powZ_mod (z : Int) (hz : 0 ≤ z) (zs : List Int) (i : Nat) (j : Int) (h : ((zs.take ((i : Nat) : Int).toNat).sum + j).toNat ≤ 3) : powZ z zs i j = powZ (z.fmod 16) zs i j := by
  unfold powZ
  generalize ((zs.take ((i : Nat) : Int).toNat).sum + j).toNat = e at h
  have h2 : 0 ≤ z.fmod 16 := Int.fmod_nonneg_of_pos z (by decide)
  rw [Int.fmod_eq_emod_of_nonneg _ (by decide), Int.fmod_eq_emod_of_nonneg _ (by decide), Int.fmod_eq_emod_of_nonneg _ (by decide)]
  have : e = 0 ∨ e = 1 ∨ e = 2 ∨ e = 3 := by lia
  rcases this with rfl | rfl | rfl | rfl
  · rw [Int.fdiv_eq_ediv_of_nonneg _ (by decide), Int.fdiv_eq_ediv_of_nonneg _ (by decide)]; lia
  · rw [Int.fdiv_eq_ediv_of_nonneg _ (by decide), Int.fdiv_eq_ediv_of_nonneg _ (by decide)]; lia
  · rw [Int.fdiv_eq_ediv_of_nonneg _ (by decide), Int.fdiv_eq_ediv_of_nonneg _ (by decide)]; lia
  · rw [Int.fdiv_eq_ediv_of_nonneg _ (by decide), Int.fdiv_eq_ediv_of_nonneg _ (by decide)]; lia
theorem sizes_small : ∀ zs ∈ sizesT, zs.length ≤ 3 ∧ (∀ y ∈ zs, 0 ≤ y ∧ y ≤ 3) ∧ ∀ i ∈ List.range zs.length, ∀ j ∈ rangeKs 0 (zs.getD i 0).toNat, ((zs.take ((i : Nat) : Int).toNat).sum + j).toNat ≤ 3 := by decide +kernel
theorem pcs_mod (z : Int) (hz : 0 ≤ z) {zs : List Int} (h : zs ∈ sizesT) : pcs z zs = pcs (z.fmod 16) zs := by
  have hs := (sizes_small zs h).2.2
  exact List.map_congr_left fun i hi => List.map_congr_left fun j hj => by rw [powZ_mod z hz zs i j (hs i hi j hj)]
theorem pcs_all : ∀ zs ∈ sizesT, ∀ y ∈ List.range 16, pcs ((y : Nat) : Int) zs ∈ allN := by decide +kernel
theorem pcs_in (z : Int) (hz : 0 ≤ z) {zs : List Int} (h : zs ∈ sizesT) : pcs z zs ∈ allN := by
  rw [pcs_mod z hz h]
  have h0 : 0 ≤ z.fmod 16 := Int.fmod_nonneg_of_pos z (by decide)
  have h1 : z.fmod 16 < 16 := Int.fmod_lt_of_pos z (by decide)
  have := pcs_all zs h (z.fmod 16).toNat (List.mem_range.mpr (by lia))
  rw [Int.toNat_of_nonneg h0] at this
  exact this
theorem sizes_in (z : Int) : sizesZ z ∈ sizesT := by
  have h0 : 0 ≤ z.fmod 12 := Int.fmod_nonneg_of_pos z (by decide)
  have h1 : z.fmod 12 < 12 := Int.fmod_lt_of_pos z (by decide)
  unfold sizesZ
  have hl : (z.fmod 12).toNat < sizesT.length := by show _ < 12; lia
  rw [List.getD_eq_getElem?_getD, List.getElem?_eq_getElem hl]
  exact List.getElem_mem hl
theorem nth_two (c0 c1 : Nat) (v : Int) (h0 : 0 ≤ v) (h1 : v < 2) : nth [ofL [c0], ofL [c1]] v = wB c0 c1 [decide (v = 1)] := by
  have : v = 0 ∨ v = 1 := by lia
  rcases this with rfl | rfl
  · rfl
  · rfl
theorem join_wB (c0 c1 : Nat) (ws : List (List Bool)) : Txt.join "" (ws.map (wB c0 c1)) = wB c0 c1 ws.flatten := cl_inj (by
  rw [cl_join, List.flatMap_map]
  show _ = ws.flatten.map _
  rw [List.map_flatten]; rfl)
theorem piece_wB (z : Int) (zs : List Int) (c0 c1 : Nat) (i : Nat) : pieceZ z zs (ofL [c0]) (ofL [c1]) i = wB c0 c1 ((rangeKs 0 (zs.getD i 0).toNat).map fun j => decide (powZ z zs i j = 1)) := by
  unfold pieceZ
  have e : ((rangeKs 0 (zs.getD i 0).toNat).map fun j => nth [ofL [c0], ofL [c1]] (powZ z zs i j)) = (((rangeKs 0 (zs.getD i 0).toNat).map fun j => [decide (powZ z zs i j = 1)])).map (wB c0 c1) := by
    rw [List.map_map]
    exact List.map_congr_left fun j _ => nth_two c0 c1 _ (Int.fmod_nonneg_of_pos _ (by decide)) (Int.fmod_lt_of_pos _ (by decide))
  rw [e, join_wB]
  congr 1
  induction rangeKs 0 (zs.getD i 0).toNat with
  | nil => rfl
  | cons a r ih => rw [List.map_cons, List.flatten_cons, ih]; rfl
theorem pieces_wB (z : Int) (zs : List Int) (c0 c1 : Nat) : piecesZ z zs (ofL [c0]) (ofL [c1]) = (pcs z zs).map (wB c0 c1) := by
  unfold piecesZ pcs
  rw [List.map_map]
  exact List.map_congr_left fun i _ => piece_wB z zs c0 c1 i
/-- the pieces of the pattern between the dots -/
noncomputable def spB (a b : Bool) (pb : List (List Bool)) : List (List Bool) := (if a then [[]] else []) ++ (if pb.isEmpty then [[]] else pb) ++ (if b then [[]] else [])
theorem split_all : ∀ pb ∈ allN, ∀ a ∈ [false, true], ∀ b ∈ [false, true], splitL (patO a b pb) dotsO = (spB a b pb).map (List.map some) ∧ (cutsL (patO a b pb) dotsO).isEmpty = ((spB a b pb).length == 1) := by decide +kernel
theorem split_pat {c0 c1 : Nat} (h : c0 ≠ c1) (h0 : c0 ≠ 46) (h1 : c1 ≠ 46) {pb : List (List Bool)} (hp : pb ∈ allN) (a b : Bool) :
    Txt.split (patternZ (if a then 1 else 0) (if b then 1 else 0) (pb.map (wB c0 c1))) "..." = (spB a b pb).map (wB c0 c1) ∧ (Builtin.Str.occurrences (patternZ (if a then 1 else 0) (if b then 1 else 0) (pb.map (wB c0 c1))) "..." 0 (patternZ (if a then 1 else 0) (if b then 1 else 0) (pb.map (wB c0 c1))).length 1).isEmpty = ((spB a b pb).length == 1) := by
  have hab : ∀ a : Bool, a ∈ [false, true] := by decide
  obtain ⟨s1, s2⟩ := split_all pb hp a (hab a) b (hab b)
  have hinj := chO_inj h h0 h1
  have ed : ([46, 46, 46] : List Nat) = dotsO.map (chO c0 c1) := rfl
  constructor
  · have h2 := split_is (patternZ (if a then 1 else 0) (if b then 1 else 0) (pb.map (wB c0 c1))) "..." dots_kind
    rw [pattern_is, dots_cl, ed, splitL_map hinj, s1, List.map_map] at h2
    have h3 : (Txt.split (patternZ (if a then 1 else 0) (if b then 1 else 0) (pb.map (wB c0 c1))) "...").map cl = ((spB a b pb).map (wB c0 c1)).map cl := by
      rw [h2, List.map_map]
      exact List.map_congr_left fun w _ => (cl_wB c0 c1 w).symm
    exact (List.map_inj_right fun x y e => cl_inj e).mp h3
  · rw [hit_is, pattern_is, ed, cutsL_map hinj, s2]
end
section
-- PL9
/-- what _ellipsis_match answers by a pattern -/
noncomputable def fE (want y : Str) : Bool := if (Builtin.Str.occurrences want "..." 0 want.length 1).isEmpty = true then want == y else match Txt.split want "..." with
  | w0 :: r => ellM y w0 r.dropLast (r.getLastD "")
  | [] => false
noncomputable def fB (a b : Bool) (pb : List (List Bool)) (w : List Bool) : Bool := if ((spB a b pb).length == 1) = true then (spB a b pb).headD [] == w else match spB a b pb with
  | w0 :: r => ellML w w0 r.dropLast (r.getLastD [])
  | [] => false
theorem wB_inj {c0 c1 : Nat} (h : c0 ≠ c1) {v w : List Bool} (e : wB c0 c1 v = wB c0 c1 w) : v = w := (List.map_inj_right fun a b e => chB_inj h e).mp (congrArg cl e)
theorem getLastD_map {α β : Type} (g : α → β) : ∀ (l : List α) (d : α), (l.map g).getLastD (g d) = g (l.getLastD d)
  | [], _ => rfl
  | a :: l, d => by simp only [List.map_cons, List.getLastD_cons]; exact getLastD_map g l a
theorem fE_wB {c0 c1 : Nat} (h : c0 ≠ c1) (h0 : c0 ≠ 46) (h1 : c1 ≠ 46) {pb : List (List Bool)} (hp : pb ∈ allN) (a b : Bool) (w : List Bool) :
    fE (patternZ (if a then 1 else 0) (if b then 1 else 0) (pb.map (wB c0 c1))) (wB c0 c1 w) = fB a b pb w := by
  obtain ⟨s1, s2⟩ := split_pat h h0 h1 hp a b
  unfold fE fB
  rw [s2, s1]
  by_cases hl : ((spB a b pb).length == 1) = true
  · rw [if_pos hl, if_pos hl]
    obtain ⟨v, hv⟩ : ∃ v, spB a b pb = [v] := by
      have : (spB a b pb).length = 1 := by simpa using hl
      match hx : spB a b pb, this with
      | [v], _ => exact ⟨v, rfl⟩
    rw [hv, List.map_cons, List.map_nil] at s1
    have hw : patternZ (if a then 1 else 0) (if b then 1 else 0) (pb.map (wB c0 c1)) = wB c0 c1 v := by
      have := StrLaws.join_split (patternZ (if a then 1 else 0) (if b then 1 else 0) (pb.map (wB c0 c1))) "..."
      rw [s1] at this
      exact this.symm
    rw [hw, hv]
    show (wB c0 c1 v == wB c0 c1 w) = (v == w)
    by_cases e : v = w
    · rw [e]; simp
    · rw [beq_eq_false_iff_ne.mpr e, beq_eq_false_iff_ne.mpr fun e' => e (wB_inj h e')]
  · rw [if_neg hl, if_neg hl]
    cases hx : spB a b pb with
    | nil => rfl
    | cons v r =>
      rw [List.map_cons]
      show ellM (wB c0 c1 w) (wB c0 c1 v) (r.map (wB c0 c1)).dropLast ((r.map (wB c0 c1)).getLastD "") = ellML w v r.dropLast (r.getLastD [])
      have e1 : (r.map (wB c0 c1)).dropLast = r.dropLast.map (wB c0 c1) := (List.map_dropLast ..).symm
      have e0 : ("" : Str) = wB c0 c1 [] := by show _ = ofL []; decide +kernel
      rw [e1, e0, getLastD_map]
      exact ellM_wB h w v r.dropLast (r.getLastD [])
theorem sp_small : ∀ pb ∈ allN, pb.length ≤ 3 ∧ (∀ w ∈ pb, w ≠ [] ∧ w.length ≤ 3) ∧ ∀ a ∈ [false, true], ∀ b ∈ [false, true], (patO a b pb).length ≤ 1000 ∧ (spB a b pb).length ≤ 1000 ∧ 1 ≤ (spB a b pb).length ∧ ∀ w ∈ spB a b pb, w.length ≤ 1000 := by decide +kernel
theorem ell_ok {c0 c1 : Nat} (h : c0 ≠ c1) (h0 : c0 ≠ 46) (h1 : c1 ≠ 46) {pb : List (List Bool)} (hp : pb ∈ allN) (a b : Bool) :
    EllOK (patternZ (if a then 1 else 0) (if b then 1 else 0) (pb.map (wB c0 c1))) (fE (patternZ (if a then 1 else 0) (if b then 1 else 0) (pb.map (wB c0 c1)))) := by
  obtain ⟨s1, s2⟩ := split_pat h h0 h1 hp a b
  have hab : ∀ a : Bool, a ∈ [false, true] := by decide
  obtain ⟨z1, z2, z3, z4⟩ := (sp_small pb hp).2.2 a (hab a) b (hab b)
  have hlen : (patternZ (if a then 1 else 0) (if b then 1 else 0) (pb.map (wB c0 c1))).length ≤ 1000 := by
    rw [← cl_len, pattern_is, List.length_map]; exact z1
  refine ⟨hlen, ?_⟩
  by_cases hl : ((spB a b pb).length == 1) = true
  · refine .inl ⟨s2.trans hl, fun y => ?_⟩
    unfold fE
    rw [s2, if_pos hl]
  · have hl2 : 2 ≤ (spB a b pb).length := by
      have : ¬ (spB a b pb).length = 1 := by simpa using hl
      lia
    obtain ⟨v, r, hv⟩ : ∃ v r, spB a b pb = v :: r := by
      cases hx : spB a b pb with
      | nil => rw [hx] at hl2; simp at hl2
      | cons v r => exact ⟨v, r, rfl⟩
    have hr : r ≠ [] := fun e => by rw [hv, e] at hl2; simp at hl2
    have hlast : r.dropLast ++ [r.getLast hr] = r := List.dropLast_concat_getLast hr
    have hsub : ∀ w ∈ r, w ∈ spB a b pb := fun w hw => by rw [hv]; exact .tail _ hw
    refine .inr ⟨wB c0 c1 v, wB c0 c1 (r.getLast hr), r.dropLast.map (wB c0 c1), ?_, ?_, ?_, ?_, ?_, ?_, ?_⟩
    · rw [s1, hv, List.map_cons]
      congr 1
      conv => lhs; rw [← hlast]
      rw [List.map_append]; rfl
    · rw [s2]; simpa using hl
    · rw [List.length_map, List.length_dropLast]
      rw [hv] at z2
      simp only [List.length_cons] at z2
      lia
    · rw [wB_len]; exact z4 v (by rw [hv]; exact .head _)
    · rw [wB_len]; exact z4 _ (hsub _ (List.getLast_mem hr))
    · intro y hy
      obtain ⟨w, hw, rfl⟩ := List.mem_map.mp hy
      rw [wB_len]
      exact z4 w (hsub w ((List.dropLast_sublist r).subset hw))
    · intro y
      unfold fE
      rw [s2, if_neg hl, s1, hv, List.map_cons]
      show ellM y (wB c0 c1 v) (r.map (wB c0 c1)).dropLast ((r.map (wB c0 c1)).getLastD "") = _
      have e1 : (r.map (wB c0 c1)).dropLast = r.dropLast.map (wB c0 c1) := (List.map_dropLast ..).symm
      have e0 : ("" : Str) = wB c0 c1 [] := by show _ = ofL []; decide +kernel
      have e2 : r.getLastD [] = r.getLast hr := by
        cases r with
        | nil => exact absurd rfl hr
        | cons a r => simp [List.getLastD_eq_getLast?, List.getLast?_eq_some_getLast]
      rw [e1, e0, getLastD_map, e2]
end
section
-- PL10
noncomputable def sixN : List Nat := [10, 32, 34, 35, 92, 97]
theorem signs_tab : ∀ i ∈ List.range 6, ∀ d ∈ List.range 5, ∃ c0 ∈ sixN, ∃ c1 ∈ sixN, c0 < c1 ∧ two (Txt.item sixS ((i : Nat) : Int)) (Txt.item sixS ((((i : Nat) : Int) + 1 + ((d : Nat) : Int)).fmod 6)) = (ofL [c0], ofL [c1]) := by decide +kernel
theorem signs_is (z : Int) : ∃ c0 ∈ sixN, ∃ c1 ∈ sixN, c0 < c1 ∧ signsZ z = (ofL [c0], ofL [c1]) := by
  have h0 : 0 ≤ z.fmod 6 := Int.fmod_nonneg_of_pos z (by decide)
  have h1 : z.fmod 6 < 6 := Int.fmod_lt_of_pos z (by decide)
  have g0 : 0 ≤ (z.fdiv 6).fmod 5 := Int.fmod_nonneg_of_pos _ (by decide)
  have g1 : (z.fdiv 6).fmod 5 < 5 := Int.fmod_lt_of_pos _ (by decide)
  obtain ⟨c0, m0, c1, m1, hlt, h⟩ := signs_tab (z.fmod 6).toNat (List.mem_range.mpr (by lia)) ((z.fdiv 6).fmod 5).toNat (List.mem_range.mpr (by lia))
  rw [Int.toNat_of_nonneg h0, Int.toNat_of_nonneg g0] at h
  refine ⟨c0, m0, c1, m1, hlt, ?_⟩
  rw [← h]
  unfold signsZ signA signB
  have e : (z + 1 + (z.fdiv 6).fmod 5).fmod 6 = (z.fmod 6 + 1 + (z.fdiv 6).fmod 5).fmod 6 := by
    rw [Int.fmod_eq_emod_of_nonneg (z + 1 + (z.fdiv 6).fmod 5) (by decide), Int.fmod_eq_emod_of_nonneg (z.fmod 6 + 1 + (z.fdiv 6).fmod 5) (by decide), Int.fmod_eq_emod_of_nonneg z (by decide)]
    generalize (z.fdiv 6).fmod 5 = d
    lia
  rw [e]
theorem six_ok : ∀ c ∈ sixN, c ≠ 46 ∧ c ≠ 101 ∧ c ≠ 9 ∧ c ≠ 13 := by decide
theorem draw_range (ns : List Int) (c : Int) : 0 ≤ drawZ ns c ∧ drawZ ns c < 1000000 := ⟨Int.fmod_nonneg_of_pos _ (by decide), Int.fmod_lt_of_pos _ (by decide)⟩
/-- the count of the lesser sign -/
noncomputable def cntB (w : List Bool) : Nat := (w.filter (!·)).length
theorem count_wB {c0 c1 : Nat} (h : c0 ≠ c1) (w : List Bool) : Txt.count (wB c0 c1 w) (ofL [c0]) = (cntB w : Nat) := by
  show Txt.count (wB c0 c1 w) ⟨#[c0]⟩ = _
  rw [count_cnt]
  show cnt c0 (w.map (chB c0 c1)) = _
  induction w with
  | nil => rfl
  | cons b r ih =>
    rw [List.map_cons, cnt_cons, ih]
    cases b
    · rw [if_pos (show chB c0 c1 false = c0 from rfl)]; unfold cntB; rw [List.filter_cons_of_pos (by rfl), List.length_cons]; lia
    · rw [if_neg (show ¬ chB c0 c1 true = c0 from fun e => h e.symm)]; unfold cntB; rw [List.filter_cons_of_neg (by decide)]; lia
theorem cntB_le (w : List Bool) : cntB w ≤ w.length := List.length_filter_le _ _
noncomputable def prodB (w : List Bool) : Int := (w.map fun b => if b then (16 : Int) else 1).sum
theorem prod_wB {c0 c1 : Nat} (h : c0 ≠ c1) (w : List Bool) : prodZ (wB c0 c1 w) (ofL [c0]) = prodB w := by
  unfold prodZ prodB
  show ((w.map (chB c0 c1)).map _).sum = _
  rw [List.map_map]
  congr 1
  refine List.map_congr_left fun b _ => ?_
  cases b
  · show (if ((⟨#[c0]⟩ : Str) == ofL [c0]) = true then (1 : Int) else 16) = 1
    exact if_pos (beq_iff_eq.mpr rfl)
  · show (if ((⟨#[c1]⟩ : Str) == ofL [c0]) = true then (1 : Int) else 16) = 16
    rw [if_neg]
    intro e
    exact h (one_inj.mp (beq_iff_eq.mp e)).symm
end
section
-- PL11
/-- a sum over the entries of a table -/
noncomputable def linh (h : Int → Int → Int) (c : List (Int × Int)) : Int := (c.map fun p => h p.1 p.2).sum
noncomputable def NK (c : List (Int × Int)) : Prop := (c.map (·.1)).Nodup
theorem has_iff {c : List (Int × Int)} {k : Int} : (c.any fun p => decide (p.1 = k)) = true ↔ k ∈ c.map (·.1) := by
  rw [List.any_eq_true, List.mem_map]
  exact ⟨fun ⟨p, hp, e⟩ => ⟨p, hp, of_decide_eq_true e⟩, fun ⟨p, hp, e⟩ => ⟨p, hp, decide_eq_true e⟩⟩
theorem put_keys (c : List (Int × Int)) (k v : Int) : (kdfPut c k v).map (·.1) = if k ∈ c.map (·.1) then c.map (·.1) else c.map (·.1) ++ [k] := by
  unfold kdfPut
  by_cases h : (c.any fun p => decide (p.1 = k)) = true
  · rw [if_pos h, if_pos (has_iff.mp h), List.map_map]
    refine List.map_congr_left fun p _ => ?_
    show (if decide (p.1 = k) = true then (p.1, v) else p).1 = p.1
    split <;> rfl
  · rw [if_neg h, if_neg (fun e => h (has_iff.mpr e)), List.map_append]; rfl
theorem put_nk {c : List (Int × Int)} (h : NK c) (k v : Int) : NK (kdfPut c k v) := by
  unfold NK
  rw [put_keys]
  split
  · exact h
  · rename_i hk
    exact List.nodup_append.mpr ⟨h, List.nodup_cons.mpr ⟨List.not_mem_nil, List.nodup_nil⟩, fun a ha b hb e => hk (by rw [List.mem_singleton.mp hb] at e; exact e ▸ ha)⟩
theorem put_mem {c : List (Int × Int)} {k v : Int} {p : Int × Int} (h : p ∈ kdfPut c k v) : p ∈ c ∨ p = (k, v) := by
  unfold kdfPut at h
  split at h
  · obtain ⟨q, hq, e⟩ := List.mem_map.mp h
    by_cases hk : q.1 = k
    · rw [if_pos (decide_eq_true hk)] at e
      exact .inr (by rw [← e, hk])
    · rw [if_neg (by simpa using hk)] at e
      exact .inl (e ▸ hq)
  · rcases List.mem_append.mp h with h | h
    · exact .inl h
    · exact .inr (List.mem_singleton.mp h)
theorem look_none {c : List (Int × Int)} {k : Int} (h : k ∉ c.map (·.1)) : kdfLook c k 0 = 0 := by
  unfold kdfLook
  rw [List.find?_eq_none.mpr fun p hp e => h (List.mem_map.mpr ⟨p, hp, of_decide_eq_true e⟩)]
  rfl
theorem put_fresh {c : List (Int × Int)} {k v : Int} (h : k ∉ c.map (·.1)) : kdfPut c k v = c ++ [(k, v)] := if_neg fun e => h (has_iff.mp e)
theorem put_lin {h : Int → Int → Int} (h0 : ∀ k, h k 0 = 0) : ∀ {c : List (Int × Int)} (_ : NK c) (k v : Int), linh h (kdfPut c k v) = linh h c + h k v - h k (kdfLook c k 0)
  | [], _, k, v => by show (h k v + 0) = 0 + h k v - h k 0; rw [h0]; lia
  | (i, u) :: c, hc, k, v => by
    have hi : i ∉ c.map (·.1) := (List.nodup_cons.mp hc).1
    have hc' : NK c := (List.nodup_cons.mp hc).2
    by_cases e : i = k
    · subst e
      have e1 : kdfPut ((i, u) :: c) i v = (i, v) :: c := by
        unfold kdfPut
        rw [if_pos (by simp), List.map_cons, if_pos (by simp)]
        congr 1
        conv => rhs; rw [← List.map_id c]
        refine List.map_congr_left fun p hp => ?_
        exact if_neg (by simp only [decide_eq_true_eq]; exact fun e => hi (List.mem_map.mpr ⟨p, hp, e⟩))
      have e2 : kdfLook ((i, u) :: c) i 0 = u := by unfold kdfLook; rw [List.find?_cons_of_pos (by simp)]; rfl
      rw [e1, e2]
      show h i v + linh h c = h i u + linh h c + h i v - h i u
      lia
    · have e1 : kdfPut ((i, u) :: c) k v = (i, u) :: kdfPut c k v := by
        unfold kdfPut
        rw [List.any_cons, decide_eq_false e, Bool.false_or]
        split
        · rw [List.map_cons, if_neg (by simpa using e)]
        · rfl
      have e2 : kdfLook ((i, u) :: c) k 0 = kdfLook c k 0 := by unfold kdfLook; rw [List.find?_cons_of_neg (by simpa using e)]
      rw [e1, e2]
      show h i u + linh h (kdfPut c k v) = h i u + linh h c + h k v - h k (kdfLook c k 0)
      rw [put_lin h0 hc' k v]; lia
theorem lin_app (h : Int → Int → Int) (a b : List (Int × Int)) : linh h (a ++ b) = linh h a + linh h b := by unfold linh; rw [List.map_append, List.sum_append]
/-- entries laid behind one another, all keys unlike -/
theorem puts_fresh : ∀ (ps acc : List (Int × Int)), NK (acc ++ ps) → putL acc ps = acc ++ ps
  | [], acc, _ => (List.append_nil acc).symm
  | p :: r, acc, h => by
    have hp : p.1 ∉ acc.map (·.1) := by
      unfold NK at h
      rw [List.map_append] at h
      exact fun e => (List.nodup_append.mp h).2.2 _ e p.1 (.head _) rfl
    show putL (kdfPut acc p.1 p.2) r = _
    rw [put_fresh hp, puts_fresh r _ (by rw [List.append_assoc]; exact h), List.append_assoc]; rfl
theorem addC_one {c : List (Int × Int)} (hc : NK c) (k : Int) : addC c [(k, 1)] = kdfPut c k (kdfLook c k 0 + 1) := by
  show addOne (putL [] c) (k, 1) = _
  rw [puts_fresh c [] hc]
  show kdfPut c k (if kdfHas c k = true then kdfLook c k 0 + 1 else 1) = _
  by_cases h : kdfHas c k = true
  · rw [if_pos h]
  · rw [if_neg h, look_none (fun e => h (has_iff.mpr e))]; rfl
theorem nodup_le {l ks : List Int} (h : l.Nodup) (s : ∀ a ∈ l, a ∈ ks) : l.length ≤ ks.length := by
  induction l generalizing ks with
  | nil => exact Nat.zero_le _
  | cons a l ih =>
    have ha := List.nodup_cons.mp h
    have := ih (ks := ks.erase a) ha.2 fun b hb => (List.mem_erase_of_ne (show b ≠ a from fun e => ha.1 (by rw [← e]; exact hb))).mpr (s b (.tail _ hb))
    rw [List.length_erase_of_mem (s a (.head _))] at this
    have hp : 0 < ks.length := List.length_pos_of_mem (s a (.head _))
    rw [List.length_cons]; lia
end
section
-- PL12
/-- the sum over all words of at most n signs -/
noncomputable def SW : Nat → (List Bool → Int) → Int
  | 0, F => F []
  | n + 1, F => F [] + SW n (fun w => F (false :: w)) + SW n (fun w => F (true :: w))
theorem SW_succ (n : Nat) (F : List Bool → Int) : SW (n + 1) F = F [] + SW n (fun w => F (false :: w)) + SW n (fun w => F (true :: w)) := rfl
theorem SW_congr : ∀ (n : Nat) {F G : List Bool → Int}, (∀ w, w.length ≤ n → F w = G w) → SW n F = SW n G
  | 0, _, _, h => h [] (Nat.le_refl _)
  | n + 1, F, G, h => by
    unfold SW
    rw [h [] (Nat.zero_le _), SW_congr n fun w hw => h (false :: w) (Nat.succ_le_succ hw), SW_congr n fun w hw => h (true :: w) (Nat.succ_le_succ hw)]
theorem SW_zero (n : Nat) {F : List Bool → Int} (h : ∀ w, F w = 0) : SW n F = 0 := by
  induction n generalizing F with
  | zero => exact h []
  | succ n ih => unfold SW; rw [h, ih fun w => h _, ih fun w => h _]; rfl
theorem SW_add (n : Nat) (F G : List Bool → Int) : SW n (fun w => F w + G w) = SW n F + SW n G := by
  induction n generalizing F G with
  | zero => rfl
  | succ n ih =>
    show (F [] + G []) + SW n (fun w => F (false :: w) + G (false :: w)) + SW n (fun w => F (true :: w) + G (true :: w)) = (F [] + SW n _ + SW n _) + (G [] + SW n _ + SW n _)
    rw [ih, ih]; lia
theorem SW_mul (n : Nat) (c : Int) (F : List Bool → Int) : SW n (fun w => c * F w) = c * SW n F := by
  induction n generalizing F with
  | zero => rfl
  | succ n ih => unfold SW; rw [ih, ih, Int.mul_add, Int.mul_add]
theorem SW_cut : ∀ (n m : Nat) {F : List Bool → Int}, n ≤ m → (∀ w, n < w.length → F w = 0) → SW m F = SW n F
  | 0, 0, _, _, _ => rfl
  | 0, m + 1, F, _, h => by
    show F [] + SW m _ + SW m _ = F []
    rw [SW_zero m fun w => h (false :: w) (Nat.succ_pos _), SW_zero m fun w => h (true :: w) (Nat.succ_pos _), Int.add_zero, Int.add_zero]
  | n + 1, m + 1, F, hl, h => by
    show F [] + SW m _ + SW m _ = F [] + SW n _ + SW n _
    rw [SW_cut n m (Nat.le_of_succ_le_succ hl) fun w hw => h (false :: w) (Nat.succ_lt_succ hw), SW_cut n m (Nat.le_of_succ_le_succ hl) fun w hw => h (true :: w) (Nat.succ_lt_succ hw)]
/-- signed words -/
noncomputable def sw (R : List (List Bool × Int)) (H : List Bool → Int) : Int := (R.map fun p => p.2 * H p.1).sum
theorem sw_cons (p : List Bool × Int) (R : List (List Bool × Int)) (H : List Bool → Int) : sw (p :: R) H = p.2 * H p.1 + sw R H := rfl
theorem sw_congr (R : List (List Bool × Int)) {H K : List Bool → Int} (h : ∀ p ∈ R, H p.1 = K p.1) : sw R H = sw R K := by
  unfold sw
  rw [List.map_congr_left fun p hp => by rw [h p hp]]
theorem sw_zero (R : List (List Bool × Int)) {H : List Bool → Int} (h : ∀ p ∈ R, H p.1 = 0) : sw R H = 0 := by
  induction R with
  | nil => rfl
  | cons p R ih => rw [sw_cons, h p (.head _), ih fun q hq => h q (.tail _ hq), Int.mul_zero]; rfl
theorem sw_add (R : List (List Bool × Int)) (H K : List Bool → Int) : sw R (fun r => H r + K r) = sw R H + sw R K := by
  induction R with
  | nil => rfl
  | cons p R ih => rw [sw_cons, sw_cons, sw_cons, ih, Int.mul_add]; lia
theorem sw_mul (R : List (List Bool × Int)) (c : Int) (H : List Bool → Int) : sw R (fun r => c * H r) = c * sw R H := by
  induction R with
  | nil => exact (Int.mul_zero c).symm
  | cons p R ih => rw [sw_cons, sw_cons, ih, Int.mul_add, Int.mul_left_comm]
theorem SW_sw (n : Nat) (R : List (List Bool × Int)) (H : List Bool → List Bool → Int) : SW n (fun w => sw R (H w)) = sw R (fun r => SW n fun w => H w r) := by
  induction R with
  | nil => exact SW_zero n fun _ => rfl
  | cons p R ih =>
    rw [sw_cons, ← ih, ← SW_mul, ← SW_add]; rfl
theorem sw_sw (R T : List (List Bool × Int)) (H : List Bool → List Bool → Int) : sw R (fun r => sw T (H r)) = sw T (fun t => sw R fun r => H r t) := by
  induction R with
  | nil => exact (sw_zero T fun _ _ => rfl).symm
  | cons p R ih => rw [sw_cons, ih, ← sw_mul, ← sw_add]; rfl
theorem sw_if (c : Bool) (R : List (List Bool × Int)) (H : List Bool → Int) : (if c = true then sw R H else 0) = sw R (fun r => if c = true then H r else 0) := by
  cases c
  · exact (sw_zero R fun _ _ => rfl).symm
  · rfl
noncomputable def rs : List (List (List Bool × Int)) → (List Bool → Int) → Int
  | [], H => H []
  | R :: t, H => sw R fun r => rs t fun r' => H (r ++ r')
theorem rs_congr : ∀ (l : List (List (List Bool × Int))) {H K : List Bool → Int}, (∀ w, H w = K w) → rs l H = rs l K
  | [], _, _, h => h []
  | R :: t, _, _, h => sw_congr R fun _ _ => rs_congr t fun _ => h _
/-- the words of n lesser signs and length d -/
noncomputable def dlW (n d : Nat) (w : List Bool) : Int := if cntB w = n ∧ w.length = d then 1 else 0
theorem cntB_app (u v : List Bool) : cntB (u ++ v) = cntB u + cntB v := by
  unfold cntB; rw [List.filter_append, List.length_append]
theorem dl_same {n d : Nat} {v w : List Bool} (h1 : cntB v = cntB w) (h2 : v.length = w.length) : dlW n d v = dlW n d w := by
  unfold dlW; rw [h1, h2]
theorem dl_long {n d : Nat} {w : List Bool} (h : d < w.length) : dlW n d w = 0 := if_neg fun e => Nat.ne_of_gt h e.2
noncomputable def cutW (q : List Bool) : List Bool → Option (List Bool)
  | [] => if q.isPrefixOf [] = true then some [] else none
  | b :: w => if q.isPrefixOf (b :: w) = true then some ((b :: w).drop q.length) else cutW q w
noncomputable def Lm : List (List Bool) → List Bool → Bool
  | [], _ => true
  | q :: r, w => match cutW q w with | none => false | some x => Lm r x
theorem cut_len (q : List Bool) : ∀ {p x : List Bool}, cutW q p = some x → q.length + x.length ≤ p.length
  | [], x, h => by
    unfold cutW at h
    split at h
    · rename_i hp
      have := (List.isPrefixOf_iff_prefix.mp hp).length_le
      injection h with h; subst h; simpa using this
    · cases h
  | b :: p, x, h => by
    unfold cutW at h
    split at h
    · rename_i hp
      have := (List.isPrefixOf_iff_prefix.mp hp).length_le
      injection h with h; subst h
      rw [List.length_drop]; lia
    · have := cut_len q h
      rw [List.length_cons]; lia
theorem cut_ext {q : List Bool} (hq : q ≠ []) : ∀ {p x : List Bool} (w : List Bool), cutW q p = some x → cutW q (p ++ w) = some (x ++ w)
  | [], x, w, h => by
    have := cut_len q h
    exact absurd (List.length_eq_zero_iff.mp (by rw [List.length_nil] at this; lia)) hq
  | b :: p, x, w, h => by
    have hl := cut_len q h
    unfold cutW at h
    show (if q.isPrefixOf (b :: p ++ w) = true then some ((b :: p ++ w).drop q.length) else cutW q (p ++ w)) = _
    split at h
    · rename_i hp
      have hp' := List.isPrefixOf_iff_prefix.mp hp
      rw [if_pos (List.isPrefixOf_iff_prefix.mpr (hp'.trans (List.prefix_append (b :: p) w)))]
      injection h with h; subst h
      rw [List.drop_append_of_le_length hp'.length_le]
    · rename_i hp
      rw [if_neg fun e => hp (List.isPrefixOf_iff_prefix.mpr (List.prefix_of_prefix_length_le (List.isPrefixOf_iff_prefix.mp e) (List.prefix_append (b :: p) w) (by lia)))]
      exact cut_ext hq w h
theorem cut_snoc {q : List Bool} {b : Bool} : ∀ {p x : List Bool}, cutW q p = none → cutW q (p ++ [b]) = some x → x = []
  | [], x, h, e => by
    have hq : q ≠ [] := by rintro rfl; simp [cutW] at h
    have := cut_len q e
    have hp : 0 < q.length := List.length_pos_iff.mpr hq
    exact List.length_eq_zero_iff.mp (by simp at this; lia)
  | c :: p, x, h, e => by
    unfold cutW at h
    split at h
    · cases h
    rename_i hp
    rw [List.cons_append] at e
    unfold cutW at e
    split at e
    · rename_i hp2
      have := List.isPrefixOf_iff_prefix.mp hp2
      rw [← List.cons_append] at this
      rcases List.prefix_concat_iff.mp this with h3 | h3
      · injection e with e
        rw [← e, h3]; simp
      · exact absurd (List.isPrefixOf_iff_prefix.mpr h3) hp
    · exact cut_snoc h e
theorem SW_nil (n : Nat) (H : List Bool → Int) : SW n (fun v => if some v = some [] then H v else 0) = H [] := by
  cases n with
  | zero => rfl
  | succ n =>
    show H [] + SW n _ + SW n _ = H []
    rw [SW_zero n fun w => if_neg (by simp), SW_zero n fun w => if_neg (by simp), Int.add_zero, Int.add_zero]
/-- a word that holds q, r .. in order: what stands up to the end of the first q, and what is behind -/
theorem first_sum {q : List Bool} (hq : q ≠ []) (r : List (List Bool)) {top : Nat} {F : List Bool → Int} (hF : ∀ w, top < w.length → F w = 0) :
    SW top (fun w => if Lm (q :: r) w = true then F w else 0) = SW top (fun v => if cutW q v = some [] then SW top (fun u => if Lm r u = true then F (v ++ u) else 0) else 0) := by
  have key : ∀ (n : Nat) (p : List Bool), p.length + n = top → cutW q p = none → SW n (fun w => if Lm (q :: r) (p ++ w) = true then F (p ++ w) else 0) = SW n (fun v => if cutW q (p ++ v) = some [] then SW top (fun u => if Lm r u = true then F (p ++ v ++ u) else 0) else 0) := by
    intro n
    induction n with
    | zero =>
      intro p _ hp
      show (if Lm (q :: r) (p ++ []) = true then _ else _) = if cutW q (p ++ []) = _ then _ else _
      rw [List.append_nil, hp]
      unfold Lm
      rw [hp]; rfl
    | succ n ih =>
      intro p hl hp
      have h0 : (if Lm (q :: r) (p ++ []) = true then F (p ++ []) else 0) = 0 := by
        rw [List.append_nil]; unfold Lm; rw [hp]; rfl
      have h1 : (if cutW q (p ++ []) = some [] then SW top (fun u => if Lm r u = true then F (p ++ [] ++ u) else 0) else 0) = 0 := by
        rw [List.append_nil, hp]; rfl
      have ea : ∀ (b : Bool) w, p ++ [b] ++ w = p ++ b :: w := fun b w => by rw [List.append_assoc]; rfl
      have step : ∀ b : Bool, SW n (fun w => if Lm (q :: r) (p ++ [b] ++ w) = true then F (p ++ [b] ++ w) else 0) = SW n (fun v => if cutW q (p ++ [b] ++ v) = some [] then SW top (fun u => if Lm r u = true then F (p ++ [b] ++ v ++ u) else 0) else 0) := by
        intro b
        have hl2 : (p ++ [b]).length + n = top := by rw [List.length_append]; simp; lia
        cases hc : cutW q (p ++ [b]) with
        | none => exact ih _ hl2 hc
        | some x =>
          have hx := cut_snoc hp hc
          subst hx
          have he : ∀ w, cutW q ((p ++ [b]) ++ w) = some w := fun w => cut_ext hq w hc
          simp only [he]
          rw [SW_nil n fun v => SW top (fun u => if Lm r u = true then F (p ++ [b] ++ v ++ u) else 0), List.append_nil]
          have hL : ∀ w, Lm (q :: r) (p ++ [b] ++ w) = Lm r w := fun w => by rw [Lm, he]
          simp only [hL]
          refine (SW_cut n top (by lia) fun w hw => ?_).symm
          rw [hF _ (by rw [List.length_append]; lia)]; split <;> rfl
      simp only [ea] at step
      rw [SW_succ, SW_succ]
      rw [h0, h1, step false, step true]
  exact key top [] (Nat.zero_add _) (by
    unfold cutW
    rw [if_neg fun e => hq (List.prefix_nil.mp (List.isPrefixOf_iff_prefix.mp e))])
theorem tele {n : Nat} {F : List Bool → Int} (hF : ∀ w, n < w.length → F w = 0) : SW n F + (-1) * SW n (fun w => F (false :: w)) + (-1) * SW n (fun w => F (true :: w)) = F [] := by
  have h := SW_cut n (n + 1) (Nat.le_succ n) hF
  have h2 : SW (n + 1) F = F [] + SW n (fun w => F (false :: w)) + SW n (fun w => F (true :: w)) := rfl
  lia
end
section
-- PL13
noncomputable def wlN : Nat → List (List Bool)
  | 0 => [[]]
  | n + 1 => [] :: ((wlN n).map (false :: ·) ++ (wlN n).map (true :: ·))
theorem SW_wl : ∀ (n : Nat) (F : List Bool → Int), SW n F = ((wlN n).map F).sum
  | 0, F => (Int.add_zero (F [])).symm
  | n + 1, F => by
    rw [SW_succ, SW_wl n, SW_wl n]
    rw [wlN, List.map_cons, List.map_append, List.map_map, List.map_map, List.sum_cons, List.sum_append, Int.add_assoc]; rfl
theorem mem_wl : ∀ (n : Nat) {w : List Bool}, w.length ≤ n → w ∈ wlN n
  | 0, w, h => by rw [List.length_eq_zero_iff.mp (Nat.le_zero.mp h)]; exact .head _
  | n + 1, [], _ => .head _
  | n + 1, b :: w, h => by
    have := mem_wl n (Nat.le_of_succ_le_succ h)
    refine .tail _ (List.mem_append.mpr ?_)
    cases b
    · exact .inl (List.mem_map.mpr ⟨w, this, rfl⟩)
    · exact .inr (List.mem_map.mpr ⟨w, this, rfl⟩)
theorem len_wl : ∀ (n : Nat) {w : List Bool}, w ∈ wlN n → w.length ≤ n
  | 0, w, h => by rw [List.mem_singleton.mp h]; exact Nat.le_refl _
  | n + 1, w, h => by
    unfold wlN at h
    rcases List.mem_cons.mp h with rfl | h
    · exact Nat.zero_le _
    · rcases List.mem_append.mp h with h | h
      · obtain ⟨v, hv, rfl⟩ := List.mem_map.mp h; exact Nat.succ_le_succ (len_wl n hv)
      · obtain ⟨v, hv, rfl⟩ := List.mem_map.mp h; exact Nat.succ_le_succ (len_wl n hv)
/-- the ends of q by which it can be moved along itself and agree -/
noncomputable def ovW (q : List Bool) : List (List Bool) := ((List.range q.length).filter fun k => q.drop k == q.take (q.length - k)).map fun k => q.drop (q.length - k)
noncomputable def T0 : List (List Bool × Int) := [([], 1), ([false], -1), ([true], -1)]
noncomputable def factW (q : List Bool) : List (List Bool × Int) := (T0.flatMap fun t => (ovW q).map fun r => (t.1 ++ r, t.2)) ++ [(q, 1)]
noncomputable def cdW : List Bool → Nat
  | [] => 0
  | b :: w => cond b 16 17 + cdW w
theorem cd_is : ∀ w : List Bool, cdW w = cntB w + 16 * w.length
  | [] => rfl
  | false :: w => by rw [cdW, cd_is w]; show 17 + _ = cntB w + 1 + 16 * (w.length + 1); lia
  | true :: w => by rw [cdW, cd_is w]; show 16 + _ = cntB w + 16 * (w.length + 1); lia
noncomputable def F1L (q : List Bool) : List (List Bool) := (wlN 5).filter fun v => decide (cutW q v = some [])
noncomputable def LL (q : List Bool) : List (Nat × Int) := (F1L q).flatMap fun v => (factW q).map fun p => (cdW v + cdW p.1, p.2)
noncomputable def co (k : Nat) : List (Nat × Int) → Int
  | [] => 0
  | p :: r => cond (Nat.beq p.1 k) (p.2 + co k r) (co k r)
theorem fact_tab0 : ((wlN 3).all fun q => q.isEmpty || ((List.range 6).all fun d => (List.range 6).all fun n => co (n + 16 * d) (LL q) == cond (Nat.beq (cdW q) (n + 16 * d)) 1 0)) = true := by decide +kernel
theorem co_cons (k : Nat) (p : Nat × Int) (r : List (Nat × Int)) : co k (p :: r) = cond (Nat.beq p.1 k) (p.2 + co k r) (co k r) := rfl
theorem co_app (k : Nat) : ∀ a b : List (Nat × Int), co k (a ++ b) = co k a + co k b
  | [], b => (Int.zero_add _).symm
  | p :: a, b => by
    rw [List.cons_append, co_cons, co_cons, co_app k a b]
    cases Nat.beq p.1 k
    · rfl
    · exact (Int.add_assoc _ _ _).symm
theorem co_flat (k : Nat) (f : List Bool → List (Nat × Int)) : ∀ l : List (List Bool), co k (l.flatMap f) = (l.map fun v => co k (f v)).sum
  | [] => rfl
  | v :: l => by rw [List.flatMap_cons, co_app, co_flat k f l]; rfl
theorem co_sw (k a : Nat) : ∀ R : List (List Bool × Int), co k (R.map fun p => (a + cdW p.1, p.2)) = sw R fun r => if a + cdW r = k then 1 else 0
  | [] => rfl
  | p :: R => by
    rw [List.map_cons, sw_cons, ← co_sw k a R]
    by_cases h : a + cdW p.1 = k
    · rw [if_pos h, Int.mul_one]; rw [co_cons, show Nat.beq (a + cdW p.1) k = true from Nat.beq_eq.symm ▸ h]; rfl
    · rw [if_neg h, Int.mul_zero, Int.zero_add]; rw [co_cons, show Nat.beq (a + cdW p.1) k = false by cases e : Nat.beq (a + cdW p.1) k with | false => rfl | true => exact absurd (Nat.eq_of_beq_eq_true e) h]; rfl
theorem sum_filter {c : List Bool → Prop} [DecidablePred c] (X : List Bool → Int) : ∀ l : List (List Bool), ((l.filter fun v => decide (c v)).map X).sum = (l.map fun v => if c v then X v else 0).sum
  | [] => rfl
  | v :: l => by
    rw [List.map_cons, List.sum_cons, ← sum_filter X l]
    by_cases h : c v
    · rw [if_pos h, List.filter_cons_of_pos (p := fun v => decide (c v)) (decide_eq_true h)]; rfl
    · rw [if_neg h, List.filter_cons_of_neg (p := fun v => decide (c v)) (by simpa using h), Int.zero_add]
theorem dlW_cd {n d : Nat} {w : List Bool} (h1 : w.length ≤ 15) (h2 : n ≤ 15) : dlW n d w = if cdW w = n + 16 * d then 1 else 0 := by
  have := cntB_le w
  unfold dlW
  rw [cd_is]
  by_cases h : cntB w = n ∧ w.length = d
  · rw [if_pos h, if_pos (by lia)]
  · rw [if_neg h, if_neg (by lia)]
theorem cd_app (u v : List Bool) : cdW (u ++ v) = cdW u + cdW v := by rw [cd_is, cd_is, cd_is, cntB_app, List.length_append]; lia
theorem fact_len {q : List Bool} (hq : q.length ≤ 3) : ∀ p ∈ factW q, p.1.length ≤ 4 := by
  intro p hp
  unfold factW at hp
  rcases List.mem_append.mp hp with hp | hp
  · obtain ⟨t, ht, hp⟩ := List.mem_flatMap.mp hp
    obtain ⟨r, hr, rfl⟩ := List.mem_map.mp hp
    obtain ⟨k, _, rfl⟩ := List.mem_map.mp hr
    have h1 : t.1.length ≤ 1 := by
      simp only [T0, List.mem_cons, List.not_mem_nil, or_false] at ht
      rcases ht with rfl | rfl | rfl <;> decide
    rw [List.length_append, List.length_drop]; lia
  · rw [List.mem_singleton.mp hp]; exact Nat.le_succ_of_le hq
theorem fact_tab {q : List Bool} (hq : q ≠ []) (hl : q.length ≤ 3) {n d : Nat} (hn : n ≤ 5) (hd : d ≤ 5) : SW 5 (fun v => if cutW q v = some [] then sw (factW q) (fun r => dlW n d (v ++ r)) else 0) = dlW n d q := by
  have h := List.all_eq_true.mp fact_tab0 q (mem_wl 3 hl)
  rw [show q.isEmpty = false by cases q <;> simp_all, Bool.false_or] at h
  have h2 := eq_of_beq (List.all_eq_true.mp (List.all_eq_true.mp h d (List.mem_range.mpr (by lia))) n (List.mem_range.mpr (by lia)))
  rw [LL, co_flat] at h2
  simp only [co_sw] at h2
  unfold F1L at h2
  rw [sum_filter, ← SW_wl] at h2
  have e1 : ∀ v : List Bool, v.length ≤ 5 → (if cutW q v = some [] then sw (factW q) (fun r => dlW n d (v ++ r)) else 0) = if cutW q v = some [] then sw (factW q) (fun r => if cdW v + cdW r = n + 16 * d then 1 else 0) else 0 := by
    intro v hv
    rw [sw_congr (factW q) (H := fun r => dlW n d (v ++ r)) (K := fun r => if cdW v + cdW r = n + 16 * d then 1 else 0) fun p hp => (dlW_cd (by have := fact_len hl p hp; rw [List.length_append]; lia) (by lia)).trans (by rw [cd_app])]
  rw [SW_congr 5 e1, h2, dlW_cd (by lia) (by lia)]
  by_cases e : cdW q = n + 16 * d
  · rw [if_pos e, show Nat.beq (cdW q) (n + 16 * d) = true from Nat.beq_eq.symm ▸ e]; rfl
  · rw [if_neg e, show Nat.beq (cdW q) (n + 16 * d) = false by cases e2 : Nat.beq (cdW q) (n + 16 * d) with | false => rfl | true => exact absurd (Nat.eq_of_beq_eq_true e2) e]; rfl
theorem dl_none {n d : Nat} (h : d < n) (w : List Bool) : dlW n d w = 0 := if_neg fun e => by have := cntB_le w; lia
theorem dl_shift {n d : Nat} {x : List Bool} (h : cntB x ≤ n ∧ x.length ≤ d) (w : List Bool) : dlW n d (w ++ x) = dlW (n - cntB x) (d - x.length) w := by
  unfold dlW
  rw [cntB_app, List.length_append]
  by_cases e : cntB w + cntB x = n ∧ w.length + x.length = d
  · rw [if_pos e, if_pos (by lia)]
  · rw [if_neg e, if_neg (by lia)]
theorem dl_out {n d : Nat} {x : List Bool} (h : ¬ (cntB x ≤ n ∧ x.length ≤ d)) (w : List Bool) : dlW n d (w ++ x) = 0 := if_neg fun e => by rw [cntB_app, List.length_append] at e; lia
theorem fact_sum {q : List Bool} (hq : q ≠ []) (hl : q.length ≤ 3) {n d : Nat} (hd : d ≤ 5) (x : List Bool) :
    SW 5 (fun v => if cutW q v = some [] then sw (factW q) (fun r => dlW n d (v ++ r ++ x)) else 0) = dlW n d (q ++ x) := by
  by_cases hx : cntB x ≤ n ∧ x.length ≤ d
  · simp only [dl_shift hx]
    by_cases hn : n - cntB x ≤ 5
    · exact fact_tab hq hl hn (by lia)
    · simp only [dl_none (show d - x.length < n - cntB x by lia)]
      exact SW_zero _ fun w => by rw [sw_zero _ fun _ _ => rfl]; split <;> rfl
  · simp only [dl_out hx]
    exact SW_zero _ fun w => by rw [sw_zero _ fun _ _ => rfl]; split <;> rfl
theorem sw_T0 (H : List Bool → Int) : sw T0 H = H [] + (-1) * H [false] + (-1) * H [true] := by
  show 1 * H [] + ((-1) * H [false] + ((-1) * H [true] + 0)) = _
  lia
theorem SW_if_sw (n : Nat) (c : List Bool → Bool) (R : List (List Bool × Int)) (H : List Bool → List Bool → Int) : SW n (fun u => if c u = true then sw R (H u) else 0) = sw R (fun r => SW n fun u => if c u = true then H u r else 0) := by
  rw [← SW_sw]
  exact SW_congr n fun w _ => sw_if (c w) R (H w)
theorem dl_swap {n d : Nat} {a b : List Bool} (h1 : cntB a = cntB b) (h2 : a.length = b.length) : dlW n d a = dlW n d b := dl_same h1 h2
theorem mid_sum : ∀ (mid : List (List Bool)), (∀ q ∈ mid, q ≠ [] ∧ q.length ≤ 3) → ∀ (n d : Nat) (x : List Bool), d ≤ 5 →
    SW 5 (fun u => if Lm mid u = true then sw T0 (fun t => rs (mid.map factW) fun r => dlW n d (u ++ t ++ r ++ x)) else 0) = dlW n d (mid.flatten ++ x)
  | [], _, n, d, x, hd => by
    have h := tele (n := 5) (F := fun w => dlW n d (w ++ x)) fun w hw => dl_long (by rw [List.length_append]; lia)
    refine Eq.trans ?_ h
    have e : ∀ u : List Bool, (if Lm [] u = true then sw T0 (fun t => rs (([] : List (List Bool)).map factW) fun r => dlW n d (u ++ t ++ r ++ x)) else 0) = dlW n d (u ++ x) + (-1) * dlW n d (false :: u ++ x) + (-1) * dlW n d (true :: u ++ x) := by
      intro u
      refine (if_pos rfl).trans ((sw_T0 _).trans ?_)
      show dlW n d (u ++ [] ++ [] ++ x) + (-1) * dlW n d (u ++ [false] ++ [] ++ x) + (-1) * dlW n d (u ++ [true] ++ [] ++ x) = _
      have sn : ∀ b : Bool, dlW n d (u ++ [b] ++ [] ++ x) = dlW n d (b :: u ++ x) := fun b => dl_same (by
        have : b :: u ++ x = [b] ++ u ++ x := rfl
        rw [this]; simp only [cntB_app]; have : cntB ([] : List Bool) = 0 := rfl
        lia) (by simp only [List.length_append, List.length_cons, List.length_nil] <;> lia)
      rw [sn, sn, List.append_nil, List.append_nil]
    rw [SW_congr 5 fun u _ => e u, SW_add, SW_add, SW_mul, SW_mul]
  | q :: mid, hm, n, d, x, hd => by
    obtain ⟨hq, hl⟩ := hm q (.head _)
    rw [first_sum hq mid (F := fun u => sw T0 (fun t => rs ((q :: mid).map factW) fun r => dlW n d (u ++ t ++ r ++ x))) fun w hw => ?_]
    · have e : ∀ v : List Bool, (if cutW q v = some [] then SW 5 (fun u => if Lm mid u = true then sw T0 (fun t => rs ((q :: mid).map factW) fun r => dlW n d (v ++ u ++ t ++ r ++ x)) else 0) else 0) = if cutW q v = some [] then sw (factW q) (fun r => dlW n d (v ++ r ++ (mid.flatten ++ x))) else 0 := by
        intro v
        split
        · have e1 : ∀ u t, rs ((q :: mid).map factW) (fun r => dlW n d (v ++ u ++ t ++ r ++ x)) = sw (factW q) fun r1 => rs (mid.map factW) fun r => dlW n d (u ++ t ++ r ++ (v ++ r1 ++ x)) := by
            intro u t
            refine sw_congr _ fun p _ => rs_congr _ fun r => dl_same ?_ ?_
            · simp only [cntB_app]; lia
            · simp only [List.length_append]; lia
          simp only [e1]
          have e2 : ∀ u, sw T0 (fun t => sw (factW q) fun r1 => rs (mid.map factW) fun r => dlW n d (u ++ t ++ r ++ (v ++ r1 ++ x))) = sw (factW q) fun r1 => sw T0 fun t => rs (mid.map factW) fun r => dlW n d (u ++ t ++ r ++ (v ++ r1 ++ x)) := fun u => sw_sw _ _ _
          simp only [e2]
          rw [SW_if_sw]
          refine sw_congr _ fun p _ => ?_
          rw [mid_sum mid (fun q hq => hm q (.tail _ hq)) n d (v ++ p.1 ++ x) hd]
          refine dl_same ?_ ?_
          · simp only [cntB_app]; lia
          · simp only [List.length_append]; lia
        · rfl
      rw [SW_congr 5 fun v _ => e v, fact_sum hq hl hd, List.flatten_cons, List.append_assoc]
    · refine sw_zero _ fun t _ => ?_
      have z : ∀ (l : List (List (List Bool × Int))) (H : List Bool → Int), (∀ w, H w = 0) → rs l H = 0 := by
        intro l
        induction l with
        | nil => exact fun H h => h []
        | cons R l ih => exact fun H h => sw_zero _ fun _ _ => ih _ fun _ => h _
      exact z _ _ fun r => dl_long (by simp only [List.length_append]; lia)
end
section
-- PL14
theorem SW_snoc : ∀ (n : Nat) (F : List Bool → Int), SW (n + 1) F = F [] + SW n (fun w => F (w ++ [false])) + SW n (fun w => F (w ++ [true]))
  | 0, _ => rfl
  | n + 1, F => by
    rw [SW_succ (n + 1), SW_snoc n (fun w => F (false :: w)), SW_snoc n (fun w => F (true :: w)), SW_succ n (fun w => F (w ++ [false])), SW_succ n (fun w => F (w ++ [true]))]
    simp only [List.cons_append, List.nil_append]
    lia
theorem SW_front : ∀ (f : List Bool) (N : Nat) (G : List Bool → Int), (∀ w, N < w.length → G w = 0) → (∀ w, ¬ f <+: w → G w = 0) → SW N G = SW N fun u => G (f ++ u)
  | [], _, _, _, _ => rfl
  | b :: f, 0, G, hN, hf => by
    show G [] = G (b :: f ++ [])
    rw [hf [] (by simp), hN _ (by simp)]
  | b :: f, N + 1, G, hN, hf => by
    have hb : ∀ c, c ≠ b → ∀ w, G (c :: w) = 0 := fun c hc w => hf _ fun e => hc (List.cons_prefix_cons.mp e).1.symm
    have ih := SW_front f N (fun w => G (b :: w)) (fun w hw => hN _ (Nat.succ_lt_succ hw)) fun w hw => hf _ fun e => hw (List.cons_prefix_cons.mp e).2
    have e2 : SW (N + 1) (fun u => G (b :: f ++ u)) = SW N fun u => G (b :: f ++ u) := SW_cut N (N + 1) (Nat.le_succ N) fun w hw => hN _ (by rw [List.length_append, List.length_cons]; lia)
    rw [e2, SW_succ, hf [] (by simp)]
    refine Eq.trans ?_ ih
    cases b
    · rw [SW_zero N (hb true (by decide))]; lia
    · rw [SW_zero N (hb false (by decide))]; lia
theorem SW_back0 : ∀ (k : List Bool) (N : Nat) (G : List Bool → Int), (∀ w, N < w.length → G w = 0) → (∀ w, ¬ k.reverse <:+ w → G w = 0) → SW N G = SW N fun u => G (u ++ k.reverse)
  | [], N, G, _, _ => SW_congr N fun w _ => by rw [List.reverse_nil, List.append_nil]
  | b :: k, 0, G, hN, hf => by
    show G [] = G ([] ++ (b :: k).reverse)
    rw [hf [] (by simp), hN _ (by simp)]
  | b :: k, N + 1, G, hN, hf => by
    have er : (b :: k).reverse = k.reverse ++ [b] := List.reverse_cons
    have hb : ∀ c, c ≠ b → ∀ w, G (w ++ [c]) = 0 := fun c hc w => hf _ fun ⟨t, e⟩ => hc (by
      rw [er, ← List.append_assoc] at e
      exact (List.cons.inj (List.append_inj' e rfl).2).1.symm)
    have ih := SW_back0 k N (fun w => G (w ++ [b])) (fun w hw => hN _ (by rw [List.length_append]; exact Nat.succ_lt_succ hw)) fun w hw => hf _ fun ⟨t, e⟩ => hw (by
      rw [er, ← List.append_assoc] at e
      exact ⟨t, (List.append_inj' e rfl).1⟩)
    have e2 : SW (N + 1) (fun u => G (u ++ (b :: k).reverse)) = SW N fun u => G (u ++ (b :: k).reverse) := SW_cut N (N + 1) (Nat.le_succ N) fun w hw => hN _ (by rw [List.length_append, er, List.length_append, List.length_singleton]; lia)
    have e3 : (fun u => G (u ++ (b :: k).reverse)) = fun u => G (u ++ k.reverse ++ [b]) := funext fun u => by rw [er, List.append_assoc]
    rw [e2, e3, SW_snoc, hf [] (by simp)]
    refine Eq.trans ?_ ih
    cases b
    · rw [SW_zero N (hb true (by decide))]; lia
    · rw [SW_zero N (hb false (by decide))]; lia
theorem affix {f k : List Bool} {P M : List Bool → Bool} (hP : ∀ w, P w = true ↔ ∃ u, w = f ++ u ++ k ∧ M u = true) {N : Nat} {F : List Bool → Int} (hF : ∀ w, N < w.length → F w = 0) :
    SW N (fun w => if P w = true then F w else 0) = SW N (fun u => if M u = true then F (f ++ u ++ k) else 0) := by
  rw [SW_front f N _ (fun w hw => by rw [hF w hw]; split <;> rfl) (fun w hw => if_neg fun e => by
    obtain ⟨u, rfl, _⟩ := (hP w).mp e
    exact hw ⟨u ++ k, (List.append_assoc ..).symm⟩)]
  have h := SW_back0 k.reverse N (fun u => if P (f ++ u) = true then F (f ++ u) else 0) (fun w hw => by rw [hF _ (by rw [List.length_append]; lia)]; split <;> rfl) (fun w hw => if_neg fun e => by
    obtain ⟨u, e, _⟩ := (hP _).mp e
    rw [List.append_assoc] at e
    rw [List.reverse_reverse] at hw
    exact hw ⟨u, (List.append_cancel_left e).symm⟩)
  rw [h]
  refine SW_congr N fun u _ => ?_
  rw [List.reverse_reverse, ← List.append_assoc]
  have : P (f ++ u ++ k) = M u := by
    rw [Bool.eq_iff_iff, hP]
    constructor
    · rintro ⟨v, e, hv⟩
      rw [List.append_cancel_left (List.append_cancel_right e)]; exact hv
    · exact fun h => ⟨u, rfl, h⟩
  rw [this]
theorem cut_yes {q w : List Bool} (h : q.isPrefixOf w = true) : cutW q w = some (w.drop q.length) := by
  cases w with
  | nil => unfold cutW; rw [if_pos h, List.drop_nil]
  | cons b w => unfold cutW; rw [if_pos h]
theorem cut_no {q w : List Bool} {b : Bool} (h : ¬ q.isPrefixOf (b :: w) = true) : cutW q (b :: w) = cutW q w := if_neg h
theorem at_win {got q : List Bool} {sp ep : Nat} (h1 : sp ≤ ep) (h2 : ep ≤ got.length) : atL got q ep sp = q.isPrefixOf ((got.take ep).drop sp) := by
  rw [Bool.eq_iff_iff, List.isPrefixOf_iff_prefix, List.prefix_iff_eq_take, List.drop_take]
  unfold atL
  rw [Bool.and_eq_true, decide_eq_true_eq, beq_iff_eq, List.take_take]
  constructor
  · rintro ⟨h3, h4⟩
    rw [Nat.min_eq_left (by lia), h4]
  · intro h
    have hl := congrArg List.length h
    rw [List.length_take, List.length_drop] at hl
    have h3 : sp + q.length ≤ ep := by lia
    rw [Nat.min_eq_left (by lia)] at h
    exact ⟨h3, h.symm⟩
theorem find_cut {got q : List Bool} {ep : Nat} (h2 : ep ≤ got.length) : ∀ (k sp : Nat), sp + k = ep → (match findL got q sp ep with | none => cutW q ((got.take ep).drop sp) = none | some i => i + q.length ≤ ep ∧ cutW q ((got.take ep).drop sp) = some ((got.take ep).drop (i + q.length)))
  | 0, sp, h => by
    have e : (got.take ep).drop sp = [] := by rw [List.drop_eq_nil_iff, List.length_take]; lia
    unfold findL
    rw [show ep + 1 - sp = 1 by lia]
    show match ([sp]).find? (atL got q ep) with | none => _ | some i => _
    rw [List.find?_cons, at_win (by lia) h2]
    by_cases hp : q.isPrefixOf ((got.take ep).drop sp) = true
    · rw [hp]
      refine ⟨?_, by rw [cut_yes hp, List.drop_drop]⟩
      have := (List.isPrefixOf_iff_prefix.mp hp).length_le
      rw [e] at this
      simp only [List.length_nil] at this
      lia
    · rw [show q.isPrefixOf ((got.take ep).drop sp) = false from Bool.eq_false_iff.mpr hp]
      show cutW q ((got.take ep).drop sp) = none
      rw [e] at hp ⊢
      unfold cutW
      exact if_neg hp
  | k + 1, sp, h => by
    have ih := find_cut (q := q) h2 k (sp + 1) (by lia)
    unfold findL at ih ⊢
    rw [show ep + 1 - sp = (ep + 1 - (sp + 1)) + 1 by lia, List.range'_succ, List.find?_cons, at_win (by lia) h2]
    by_cases hp : q.isPrefixOf ((got.take ep).drop sp) = true
    · rw [hp]
      refine ⟨?_, by rw [cut_yes hp, List.drop_drop]⟩
      have := (List.isPrefixOf_iff_prefix.mp hp).length_le
      rw [List.length_drop, List.length_take] at this
      lia
    · rw [show q.isPrefixOf ((got.take ep).drop sp) = false from Bool.eq_false_iff.mpr hp]
      obtain ⟨c, e⟩ : ∃ c, (got.take ep).drop sp = c :: (got.take ep).drop (sp + 1) := ⟨(got.take ep)[sp]'(by rw [List.length_take]; lia), List.drop_eq_getElem_cons _⟩
      have ec : cutW q ((got.take ep).drop sp) = cutW q ((got.take ep).drop (sp + 1)) := by
        rw [e] at hp ⊢
        exact cut_no hp
      rw [ec]
      exact ih
theorem ell_Lm {got : List Bool} {ep : Nat} (h2 : ep ≤ got.length) : ∀ (ss : List (List Bool)) (sp : Nat), sp ≤ ep → ellL got ep ss sp = Lm ss ((got.take ep).drop sp)
  | [], _, _ => rfl
  | q :: ss, sp, h1 => by
    have h := find_cut (q := q) h2 (ep - sp) sp (by lia)
    show (match findL got q sp ep with | none => false | some i => ellL got ep ss (i + q.length)) = match cutW q ((got.take ep).drop sp) with | none => false | some x => Lm ss x
    cases hf : findL got q sp ep with
    | none => rw [hf] at h; rw [h]
    | some i => rw [hf] at h; rw [h.2]; exact ell_Lm h2 ss _ h.1
theorem Lm_nil (r : List (List Bool)) (w : List Bool) : Lm ([] :: r) w = Lm r w := by
  show (match cutW [] w with | none => false | some x => Lm r x) = _
  rw [cut_yes (by simp)]; rfl
theorem Lm_snoc : ∀ (m : List (List Bool)) (w : List Bool), Lm (m ++ [[]]) w = Lm m w
  | [], w => Lm_nil [] w
  | q :: m, w => by
    show (match cutW q w with | none => false | some x => Lm (m ++ [[]]) x) = match cutW q w with | none => false | some x => Lm m x
    cases cutW q w with
    | none => rfl
    | some x => exact Lm_snoc m x
theorem Lm_filter : ∀ (m : List (List Bool)) (w : List Bool), Lm (m.filter fun q => !q.isEmpty) w = Lm m w
  | [], _ => rfl
  | [] :: m, w => by rw [Lm_nil]; exact Lm_filter m w
  | (b :: q) :: m, w => by
    show (match cutW (b :: q) w with | none => false | some x => Lm (m.filter fun q => !q.isEmpty) x) = match cutW (b :: q) w with | none => false | some x => Lm m x
    cases cutW (b :: q) w with
    | none => rfl
    | some x => exact Lm_filter m x
theorem ellEnd_iff {got wl : List Bool} {pre : List (List Bool)} {sp : Nat} : ellEndL got pre wl sp = true ↔ sp ≤ got.length ∧ ∃ u, got.drop sp = u ++ wl ∧ Lm pre u = true := by
  unfold ellEndL
  by_cases h : 0 < wl.length
  · rw [if_pos h]
    constructor
    · intro e
      split at e
      · rename_i hd
        rw [Bool.and_eq_true, decide_eq_true_eq, beq_iff_eq] at hd
        split at e
        · cases e
        · rename_i hs
          rw [ell_Lm (Nat.sub_le _ _) pre sp (by lia)] at e
          refine ⟨by lia, _, ?_, e⟩
          have h3 := congrArg (List.drop sp) (List.take_append_drop (got.length - wl.length) got)
          rw [hd.2, List.drop_append_of_le_length (by rw [List.length_take]; lia)] at h3
          exact h3.symm
      · cases e
    · rintro ⟨h1, u, h3, h4⟩
      have hl := congrArg List.length h3
      rw [List.length_drop, List.length_append] at hl
      have h5 : got.drop (got.length - wl.length) = wl := by
        have := congrArg (List.drop u.length) h3
        rw [List.drop_drop, List.drop_left] at this
        rw [show got.length - wl.length = sp + u.length by lia]
        exact this
      rw [if_pos (by rw [Bool.and_eq_true, decide_eq_true_eq, beq_iff_eq]; exact ⟨by lia, h5⟩), if_neg (by lia), ell_Lm (Nat.sub_le _ _) pre sp (by lia), List.drop_take, h3, show got.length - wl.length - sp = u.length by lia, List.take_left]
      exact h4
  · rw [if_neg h]
    have hw : wl = [] := List.length_eq_zero_iff.mp (by lia)
    subst hw
    constructor
    · intro e
      split at e
      · cases e
      · rename_i hs
        rw [ell_Lm (Nat.le_refl _) _ sp (by lia), Lm_snoc, List.take_length] at e
        exact ⟨by lia, _, (List.append_nil _).symm, e⟩
    · rintro ⟨h1, u, h3, h4⟩
      rw [if_neg (by lia), ell_Lm (Nat.le_refl _) _ sp h1, Lm_snoc, List.take_length, h3, List.append_nil]
      exact h4
theorem ellM_iff {got w0 wl : List Bool} {mid : List (List Bool)} : ellML got w0 mid wl = true ↔ ∃ u, got = w0 ++ u ++ wl ∧ Lm mid u = true := by
  unfold ellML
  by_cases h : 0 < w0.length
  · rw [if_pos h]
    constructor
    · intro e
      split at e
      · rename_i hd
        rw [Bool.and_eq_true, decide_eq_true_eq, beq_iff_eq] at hd
        obtain ⟨_, u, h3, h4⟩ := ellEnd_iff.mp e
        refine ⟨u, ?_, h4⟩
        rw [List.append_assoc, ← h3]
        have := List.take_append_drop w0.length got
        rw [hd.1] at this
        exact this.symm
      · cases e
    · rintro ⟨u, rfl, h4⟩
      rw [if_pos (by rw [Bool.and_eq_true, decide_eq_true_eq, beq_iff_eq, List.append_assoc, List.take_left, List.length_append]; exact ⟨rfl, by lia⟩)]
      exact ellEnd_iff.mpr ⟨by simp only [List.length_append]; lia, u, by rw [List.append_assoc, List.drop_left], h4⟩
  · rw [if_neg h]
    have hw : w0 = [] := List.length_eq_zero_iff.mp (by lia)
    subst hw
    rw [ellEnd_iff]
    simp only [Lm_nil, List.drop_zero, List.nil_append, Nat.zero_le, true_and]
end
section
-- PL15
noncomputable def aI (a : Bool) : Int := if a then 1 else 0
noncomputable def frB (a : Bool) (pb : List (List Bool)) : List Bool := (pickL pb none (some (1 - aI a))).flatten
noncomputable def bkB (b : Bool) (pb : List (List Bool)) : List Bool := (pickL pb (some ((pb.length : Nat) - 1 + aI b)) none).flatten
noncomputable def mdB (a b : Bool) (pb : List (List Bool)) : List (List Bool) := pickL pb (some (1 - aI a)) (some ((pb.length : Nat) - 1 + aI b))
theorem sp_one : ∀ pb ∈ allN, ∀ a ∈ [false, true], ∀ b ∈ [false, true], (spB a b pb).length = 1 → (spB a b pb).headD [] = pb.flatten ∧ mdB a b pb = [] ∧ pb.flatten.take (frB a pb).length = frB a pb ∧ pb.flatten.drop (pb.flatten.length - (bkB b pb).length) = bkB b pb := by decide +kernel
theorem sp_more : ∀ pb ∈ allN, ∀ a ∈ [false, true], ∀ b ∈ [false, true], ¬ (spB a b pb).length = 1 → (spB a b pb).headD [] = frB a pb ∧ (spB a b pb).tail.getLastD [] = bkB b pb ∧ ((spB a b pb).tail.dropLast.filter fun q => !q.isEmpty) = mdB a b pb ∧ frB a pb ++ (mdB a b pb).flatten ++ bkB b pb = pb.flatten := by decide +kernel
theorem bools (a : Bool) : a ∈ [false, true] := by cases a <;> decide
theorem md_ok {pb : List (List Bool)} (hp : pb ∈ allN) (a b : Bool) : ∀ q ∈ mdB a b pb, q ≠ [] ∧ q.length ≤ 3 := fun q hq => (sp_small pb hp).2.1 q (pick_mem hq)
theorem fB_one {pb : List (List Bool)} (hp : pb ∈ allN) {a b : Bool} (h : (spB a b pb).length = 1) (w : List Bool) : fB a b pb w = (pb.flatten == w) := by
  unfold fB
  rw [if_pos (by rw [h]; rfl), (sp_one pb hp a (bools a) b (bools b) h).1]
theorem fB_iff {pb : List (List Bool)} (hp : pb ∈ allN) {a b : Bool} (h : ¬ (spB a b pb).length = 1) (w : List Bool) : fB a b pb w = true ↔ ∃ u, w = frB a pb ++ u ++ bkB b pb ∧ Lm (mdB a b pb) u = true := by
  obtain ⟨h1, h2, h3, _⟩ := sp_more pb hp a (bools a) b (bools b) h
  unfold fB
  rw [if_neg (by simpa using h)]
  cases hx : spB a b pb with
  | nil =>
    have := (sp_small pb hp).2.2 a (bools a) b (bools b)
    rw [hx] at this
    exact absurd this.2.2.1 (by decide)
  | cons v r =>
    rw [hx] at h1 h2 h3
    show ellML w v r.dropLast (r.getLastD []) = true ↔ _
    rw [ellM_iff, ← h3]
    simp only [Lm_filter]
    rw [← h1, ← h2]; rfl
theorem perm_sum {l k : List (List Bool)} (h : l.Perm k) (F : List Bool → Int) : (l.map F).sum = (k.map F).sum := by
  induction h with
  | nil => rfl
  | cons x _ ih => rw [List.map_cons, List.map_cons, List.sum_cons, List.sum_cons, ih]
  | swap x y l => rw [List.map_cons, List.map_cons, List.map_cons, List.map_cons, List.sum_cons, List.sum_cons, List.sum_cons, List.sum_cons]; lia
  | trans _ _ ih1 ih2 => exact ih1.trans ih2
theorem bfs_wl : ∀ top ∈ [4, 5], (bfs top).isPerm (wlN top) = true := by decide +kernel
theorem bfs_sum {top : Nat} (ht : top = 4 ∨ top = 5) (F : List Bool → Int) : ((bfs top).map F).sum = SW top F := by
  rw [SW_wl]
  exact perm_sum (List.isPerm_iff.mp (bfs_wl top (by rcases ht with rfl | rfl <;> simp))) F
theorem sum_filterB (c : List Bool → Bool) (X : List Bool → Int) : ∀ l : List (List Bool), ((l.filter c).map X).sum = (l.map fun v => if c v = true then X v else 0).sum
  | [] => rfl
  | v :: l => by
    rw [List.map_cons, List.sum_cons, ← sum_filterB c X l]
    by_cases h : c v = true
    · rw [if_pos h, List.filter_cons_of_pos h]; rfl
    · rw [if_neg h, List.filter_cons_of_neg h, Int.zero_add]
/-- the law's factors, told by words -/
noncomputable def RR (dots : Bool) (mid : List (List Bool)) (H : List Bool → Int) : Int := if dots = true then sw T0 (fun t => rs (mid.map factW) fun r => H (t ++ r)) else rs (mid.map factW) H
theorem rs_zero : ∀ (l : List (List (List Bool × Int))) {H : List Bool → Int}, (∀ w, H w = 0) → rs l H = 0
  | [], _, h => h []
  | _ :: t, _, h => sw_zero _ fun _ _ => rs_zero t fun _ => h _
theorem RR_zero (dots : Bool) (mid : List (List Bool)) {H : List Bool → Int} (h : ∀ w, H w = 0) : RR dots mid H = 0 := by
  cases dots
  · exact rs_zero _ h
  · show sw T0 (fun t => rs (mid.map factW) fun r => H (t ++ r)) = 0
    exact sw_zero _ fun _ _ => rs_zero _ fun _ => h _
theorem taken_sum {pb : List (List Bool)} (hp : pb ∈ allN) (a b : Bool) {top : Nat} (ht : top = 4 ∨ top = 5) {n d : Nat} (hd : d ≤ top) :
    (((bfs top).filter (fB a b pb)).map fun w => RR (!((spB a b pb).length == 1)) (mdB a b pb) fun r => dlW n d (w ++ r)).sum = dlW n d pb.flatten := by
  have ht5 : top ≤ 5 := by lia
  have hz : ∀ w : List Bool, top < w.length → (RR (!((spB a b pb).length == 1)) (mdB a b pb) fun r => dlW n d (w ++ r)) = 0 := fun w hw => RR_zero _ _ fun r => dl_long (by rw [List.length_append]; lia)
  rw [sum_filterB, bfs_sum ht, ← SW_cut top 5 ht5 fun w hw => by rw [hz w hw]; split <;> rfl]
  by_cases h : (spB a b pb).length = 1
  · have e : (!((spB a b pb).length == 1)) = false := by rw [h]; rfl
    rw [e] at hz ⊢
    obtain ⟨_, h2, _⟩ := sp_one pb hp a (bools a) b (bools b) h
    rw [h2] at hz ⊢
    rw [affix (f := pb.flatten) (k := []) (P := fB a b pb) (M := fun u => u.isEmpty) (fun w => ?_) fun w hw => hz w (by lia)]
    · have e2 : ∀ u : List Bool, (if u.isEmpty = true then RR false [] (fun r => dlW n d (pb.flatten ++ u ++ [] ++ r)) else 0) = if some u = some [] then dlW n d (pb.flatten ++ u) else 0 := by
        intro u
        cases u with
        | nil =>
          show dlW n d (pb.flatten ++ [] ++ [] ++ []) = dlW n d (pb.flatten ++ [])
          simp only [List.append_nil]
        | cons c u => rfl
      rw [SW_congr 5 fun u _ => e2 u, SW_nil, List.append_nil]
    · rw [fB_one hp h, beq_iff_eq]
      constructor
      · exact fun e => ⟨[], by rw [e, List.append_nil, List.append_nil], rfl⟩
      · rintro ⟨u, rfl, hu⟩
        rw [List.isEmpty_iff.mp hu, List.append_nil, List.append_nil]
  · have e : (!((spB a b pb).length == 1)) = true := by simpa using h
    rw [e] at hz ⊢
    rw [affix (fB_iff hp h) fun w hw => hz w (by lia)]
    have e2 : ∀ u : List Bool, (RR true (mdB a b pb) fun r => dlW n d (frB a pb ++ u ++ bkB b pb ++ r)) = sw T0 (fun t => rs ((mdB a b pb).map factW) fun r => dlW n d (u ++ t ++ r ++ (frB a pb ++ bkB b pb))) := by
      intro u
      show sw T0 (fun t => rs ((mdB a b pb).map factW) fun r => dlW n d (frB a pb ++ u ++ bkB b pb ++ (t ++ r))) = _
      refine sw_congr _ fun t _ => rs_congr _ fun r => dl_same ?_ ?_
      · simp only [cntB_app]; lia
      · simp only [List.length_append]; lia
    simp only [e2]
    rw [mid_sum _ (md_ok hp a b) n d _ (by lia)]
    obtain ⟨_, _, _, h4⟩ := sp_more pb hp a (bools a) b (bools b) h
    rw [← h4]
    exact dl_same (by simp only [cntB_app]; lia) (by simp only [List.length_append]; lia)
end
section
-- PL16
/-- a table as a linear form -/
noncomputable def ev (g : Int → Int) (c : List (Int × Int)) : Int := linh (fun k v => v * g k) c
theorem ev_cons (g : Int → Int) (p : Int × Int) (c : List (Int × Int)) : ev g (p :: c) = p.2 * g p.1 + ev g c := rfl
theorem ev_app (g : Int → Int) (a b : List (Int × Int)) : ev g (a ++ b) = ev g a + ev g b := lin_app _ a b
theorem ev_congr {g h : Int → Int} (c : List (Int × Int)) (e : ∀ p ∈ c, g p.1 = h p.1) : ev g c = ev h c := by
  unfold ev linh
  rw [List.map_congr_left (g := fun p => p.2 * h p.1) fun p hp => by show p.2 * g p.1 = _; rw [e p hp]]
theorem ev_put (g : Int → Int) {c : List (Int × Int)} (h : NK c) (k v : Int) : ev g (kdfPut c k v) = ev g c + v * g k - kdfLook c k 0 * g k := put_lin (h := fun k v => v * g k) (fun k => Int.zero_mul _) h k v
theorem mulS_ev (g : Int → Int) {acc : List (Int × Int)} (h : NK acc) (l r : Int × Int) : ev g (mulS l r acc) = ev g acc + l.2 * (r.2 * g (l.1 + r.1)) := by
  unfold mulS
  rw [ev_put g h, Int.add_mul, Int.mul_assoc]; lia
theorem row_ev (g : Int → Int) (l : Int × Int) : ∀ (cr acc : List (Int × Int)), NK acc → NK (cr.foldl (fun acc r => mulS l r acc) acc) ∧ ev g (cr.foldl (fun acc r => mulS l r acc) acc) = ev g acc + l.2 * ev (fun k => g (l.1 + k)) cr
  | [], acc, h => ⟨h, by show ev g acc = ev g acc + l.2 * 0; lia⟩
  | r :: cr, acc, h => by
    have ih := row_ev g l cr (mulS l r acc) (put_nk h _ _)
    refine ⟨ih.1, ?_⟩
    rw [List.foldl_cons, ih.2, mulS_ev g h, ev_cons, Int.mul_add]; lia
theorem rows_ev (g : Int → Int) (cr : List (Int × Int)) : ∀ (cl acc : List (Int × Int)), NK acc → NK (cl.foldl (fun acc l => cr.foldl (fun acc r => mulS l r acc) acc) acc) ∧ ev g (cl.foldl (fun acc l => cr.foldl (fun acc r => mulS l r acc) acc) acc) = ev g acc + ev (fun i => ev (fun k => g (i + k)) cr) cl
  | [], acc, h => ⟨h, (Int.add_zero _).symm⟩
  | l :: cl, acc, h => by
    obtain ⟨h1, h2⟩ := row_ev g l cr acc h
    have ih := rows_ev g cr cl _ h1
    refine ⟨ih.1, ?_⟩
    rw [List.foldl_cons, ih.2, h2, ev_cons]; lia
theorem times_nk (cl cr : List (Int × Int)) : NK (timesC cl cr) := (rows_ev (fun _ => 0) cr cl [] List.nodup_nil).1
theorem times_ev (g : Int → Int) (cl cr : List (Int × Int)) : ev g (timesC cl cr) = ev (fun i => ev (fun k => g (i + k)) cr) cl := by
  have := (rows_ev g cr cl [] List.nodup_nil).2
  rw [show ev g [] = 0 from rfl, Int.zero_add] at this
  exact this
theorem prodB_app (u v : List Bool) : prodB (u ++ v) = prodB u + prodB v := by
  unfold prodB; rw [List.map_append, List.sum_append]
theorem prodB_cnt : ∀ w : List Bool, prodB w = (cntB w : Int) + 16 * ((w.length : Int) - (cntB w : Int))
  | [] => rfl
  | b :: w => by
    have ih := prodB_cnt w
    have h : prodB (b :: w) = (if b then (16 : Int) else 1) + prodB w := rfl
    rw [h, ih]
    cases b
    · have : cntB (false :: w) = cntB w + 1 := rfl
      rw [this, List.length_cons]; simp only [Bool.false_eq_true, if_false]; lia
    · have : cntB (true :: w) = cntB w := rfl
      rw [this, List.length_cons]; simp only [if_true]; lia
noncomputable def ovB (p : List Bool) : List (Int × Int) := (List.range p.length).foldl (fun ov k => if (p.drop k == p.take (p.length - k)) = true then kdfPut ov (prodB (p.drop (p.length - k))) 1 else ov) []
theorem ov_wB {c0 c1 : Nat} (h : c0 ≠ c1) (p : List Bool) : ovC (wB c0 c1 p) (ofL [c0]) = ovB p := by
  unfold ovC ovB rangeKs
  rw [wB_len, List.foldl_map]
  have key : ∀ (l : List Nat) (acc : List (Int × Int)), (∀ k ∈ l, k < p.length) → l.foldl (fun acc (k : Nat) => ovStep (wB c0 c1 p) (ofL [c0]) acc (0 + (k : Int))) acc = l.foldl (fun ov k => if (p.drop k == p.take (p.length - k)) = true then kdfPut ov (prodB (p.drop (p.length - k))) 1 else ov) acc := by
    intro l
    induction l with
    | nil => intro _ _; rfl
    | cons k l ih =>
      intro acc hl
      rw [List.foldl_cons, List.foldl_cons, ih _ fun j hj => hl j (.tail _ hj)]
      congr 1
      have hk := hl k (.head _)
      unfold ovStep
      rw [Int.zero_add, wB_len, show ((p.length : Nat) : Int) - (k : Int) = ((p.length - k : Nat) : Int) by lia]
      have e1 : Txt.slice (wB c0 c1 p) (some (k : Int)) none = wB c0 c1 (p.drop k) := cl_inj (by rw [cl_from]; show (p.map _).drop k = (p.drop k).map _; rw [List.map_drop])
      have e2 : Txt.slice (wB c0 c1 p) none (some ((p.length - k : Nat) : Int)) = wB c0 c1 (p.take (p.length - k)) := cl_inj (by rw [cl_to]; show (p.map _).take _ = (p.take _).map _; rw [List.map_take])
      have e3 : Txt.slice (wB c0 c1 p) (some ((p.length - k : Nat) : Int)) none = wB c0 c1 (p.drop (p.length - k)) := cl_inj (by rw [cl_from]; show (p.map _).drop _ = (p.drop _).map _; rw [List.map_drop])
      rw [e1, e2, e3, prod_wB h]
      have e4 : (wB c0 c1 (p.drop k) == wB c0 c1 (p.take (p.length - k))) = (p.drop k == p.take (p.length - k)) := by
        by_cases e : p.drop k = p.take (p.length - k)
        · rw [e]; simp
        · rw [beq_eq_false_iff_ne.mpr e, beq_eq_false_iff_ne.mpr fun e' => e (wB_inj h e')]
      rw [e4]
  exact key _ _ fun k hk => List.mem_range.mp hk
theorem ov_tab : ∀ p ∈ wlN 3, ovB p = (ovW p).map fun r => (prodB r, 1) := by decide +kernel
theorem ev_ov (g : Int → Int) : ∀ l : List (List Bool), ev g (l.map fun r => (prodB r, 1)) = (l.map fun r => g (prodB r)).sum
  | [] => rfl
  | r :: l => by rw [List.map_cons, ev_cons, ev_ov g l, List.map_cons, List.sum_cons, Int.one_mul]
theorem sw_app (A B : List (List Bool × Int)) (H : List Bool → Int) : sw (A ++ B) H = sw A H + sw B H := by
  unfold sw; rw [List.map_append, List.sum_append]
theorem sw_map (t : List Bool) (c : Int) (H : List Bool → Int) : ∀ l : List (List Bool), sw (l.map fun r => (t ++ r, c)) H = c * (l.map fun r => H (t ++ r)).sum
  | [] => (Int.mul_zero c).symm
  | r :: l => by rw [List.map_cons, sw_cons, sw_map t c H l, List.map_cons, List.sum_cons, Int.mul_add]
theorem fact_ev {c0 c1 : Nat} (h : c0 ≠ c1) {p : List Bool} (hp : p.length ≤ 3) (g : Int → Int) : ev g (factC (wB c0 c1 p) (ofL [c0])) = sw (factW p) fun r => g (prodB r) := by
  unfold factC factW
  rw [ev_put g (times_nk _ _), times_ev, ov_wB h, ov_tab p (mem_wl 3 hp), prod_wB h]
  have e : ∀ i, ev (fun k => g (i + k)) ((ovW p).map fun r => (prodB r, 1)) = ((ovW p).map fun r => g (i + prodB r)).sum := fun i => ev_ov _ _
  simp only [e]
  show ev _ [(0, 1), (1, -1), (16, -1)] + _ - _ = sw (((ovW p).map fun r => ([] ++ r, (1 : Int))) ++ (((ovW p).map fun r => ([false] ++ r, (-1 : Int))) ++ (((ovW p).map fun r => ([true] ++ r, (-1 : Int))) ++ [])) ++ [(p, 1)]) _
  rw [sw_app, sw_app, sw_app, sw_app, sw_map, sw_map, sw_map, ev_cons, ev_cons, ev_cons, Int.add_mul]
  have p0 : prodB [] = 0 := rfl
  have p1 : prodB [false] = 1 := rfl
  have p2 : prodB [true] = 16 := rfl
  simp only [prodB_app, p0, p1, p2]
  show _ + (_ + (_ + 0)) + _ - _ = _ + (_ + (_ + 0)) + (1 * g (prodB p) + 0)
  lia
theorem moved_fold {c0 c1 : Nat} (h : c0 ≠ c1) (g : Int → Int) : ∀ (mid : List (List Bool)) (acc : List (Int × Int)), (∀ q ∈ mid, q.length ≤ 3) → NK acc →
    NK ((mid.map (wB c0 c1)).foldl (fun acc p => timesC acc (factC p (ofL [c0]))) acc) ∧ ev g ((mid.map (wB c0 c1)).foldl (fun acc p => timesC acc (factC p (ofL [c0]))) acc) = ev (fun i => rs (mid.map factW) fun r => g (i + prodB r)) acc
  | [], acc, _, hN => ⟨hN, ev_congr acc fun p _ => by show g p.1 = g (p.1 + 0); rw [Int.add_zero]⟩
  | q :: mid, acc, hm, hN => by
    have ih := moved_fold h g mid (timesC acc (factC (wB c0 c1 q) (ofL [c0]))) (fun q hq => hm q (.tail _ hq)) (times_nk _ _)
    refine ⟨ih.1, ?_⟩
    rw [List.map_cons, List.foldl_cons, ih.2, times_ev]
    refine ev_congr acc fun p _ => ?_
    rw [fact_ev h (hm q (.head _))]
    refine sw_congr _ fun t _ => rs_congr _ fun r => ?_
    show _ = g (p.1 + prodB (t.1 ++ r))
    rw [prodB_app, Int.add_assoc]
theorem moved_ev {c0 c1 : Nat} (h : c0 ≠ c1) (g : Int → Int) {mid : List (List Bool)} (hm : ∀ q ∈ mid, q.length ≤ 3) {c : List (Int × Int)} (hN : NK c) (dots : Bool) :
    NK (movedC c dots (mid.map (wB c0 c1)) (ofL [c0])) ∧ ev g (movedC c dots (mid.map (wB c0 c1)) (ofL [c0])) = ev (fun i => RR dots mid fun r => g (i + prodB r)) c := by
  unfold movedC
  cases dots
  · exact moved_fold h g mid c hm hN
  · have := moved_fold h g mid (timesC c t0) hm (times_nk _ _)
    refine ⟨this.1, this.2.trans ?_⟩
    rw [times_ev]
    refine ev_congr c fun p _ => ?_
    show ev _ [(0, 1), (1, -1), (16, -1)] = sw T0 (fun t => rs (mid.map factW) fun r => g (p.1 + prodB (t ++ r)))
    rw [sw_T0, ev_cons, ev_cons, ev_cons]
    have p0 : prodB [] = 0 := rfl
    have p1 : prodB [false] = 1 := rfl
    have p2 : prodB [true] = 16 := rfl
    simp only [prodB_app, p0, p1, p2, Int.add_assoc]
    show 1 * _ + ((-1) * _ + ((-1) * _ + 0)) = _ + _
    lia
end
section
-- PL17
/-- what a book tells of the words of its length -/
structure BK (i : Nat) (U : List (List Bool)) (b : Book) : Prop where
  cc : b.cc = (U.length : Int)
  nc : b.nc = (i : Int) * (U.length : Int)
  tt : b.tt = (U.map fun w => (cntB w : Int)).sum
  ct : b.ct = (U.map fun w => (i : Int) - (cntB w : Int)).sum
  nk : NK b.tab
  rng : ∀ p ∈ b.tab, 0 ≤ p.1 ∧ p.1 ≤ (i : Int)
  evu : ∀ g, ev g b.tab = (U.map fun w => g (cntB w : Int)).sum
theorem BK.nil (i : Nat) : BK i [] book0 := ⟨rfl, (Int.mul_zero _).symm, rfl, rfl, List.nodup_nil, (fun _ h => nomatch h), fun _ => rfl⟩
theorem sum_snoc (U : List (List Bool)) (w : List Bool) (F : List Bool → Int) : ((U ++ [w]).map F).sum = F w + (U.map F).sum := by
  rw [List.map_append, List.sum_append, Int.add_comm]
  show F w + 0 + _ = _
  rw [Int.add_zero]
theorem BK.add {c0 c1 : Nat} (h : c0 ≠ c1) {i : Nat} {U : List (List Bool)} {b : Book} (B : BK i U b) {w : List Bool} (hw : w.length = i) : BK i (U ++ [w]) (addBook b (bookOf (wB c0 c1 w) (ofL [c0]))) := by
  have hc := count_wB h w
  have hl : (wB c0 c1 w).length = i := (wB_len c0 c1 w).trans hw
  have hU : ((U ++ [w]).length : Int) = 1 + (U.length : Int) := by rw [List.length_append, List.length_singleton]; lia
  refine ⟨?_, ?_, ?_, ?_, ?_, ?_, fun g => ?_⟩
  · rw [hU, ← B.cc]; rfl
  · show ((wB c0 c1 w).length : Int) + b.nc = _
    rw [hU, B.nc, hl, Int.mul_add, Int.mul_one]
  · show Txt.count (wB c0 c1 w) (ofL [c0]) + b.tt = _
    rw [sum_snoc, hc, B.tt]
  · show ((wB c0 c1 w).length : Int) - Txt.count (wB c0 c1 w) (ofL [c0]) + b.ct = _
    rw [sum_snoc, hc, B.ct, hl]
  · show NK (addC b.tab [(Txt.count (wB c0 c1 w) (ofL [c0]), 1)])
    rw [addC_one B.nk]; exact put_nk B.nk _ _
  · intro p hp
    have hp' : p ∈ addC b.tab [(Txt.count (wB c0 c1 w) (ofL [c0]), 1)] := hp
    rw [addC_one B.nk] at hp'
    rcases put_mem hp' with h | rfl
    · exact B.rng p h
    · rw [hc]; have := cntB_le w; show 0 ≤ (cntB w : Int) ∧ (cntB w : Int) ≤ i; lia
  · show ev g (addC b.tab [(Txt.count (wB c0 c1 w) (ofL [c0]), 1)]) = _
    rw [addC_one B.nk, ev_put g B.nk, B.evu g, sum_snoc, hc, Int.add_mul, Int.one_mul]; lia
theorem books_bk {c0 c1 : Nat} (h : c0 ≠ c1) : ∀ (T : List (List Bool)) (bs : List Book) (U : List (List Bool)), (∀ w ∈ T, w.length < bs.length) → (∀ (i : Nat) b, bs[i]? = some b → BK i (U.filter fun w => w.length == i) b) →
    ((T.map (wB c0 c1)).foldl (bookStep (ofL [c0])) bs).length = bs.length ∧ ∀ (i : Nat) b, ((T.map (wB c0 c1)).foldl (bookStep (ofL [c0])) bs)[i]? = some b → BK i ((U ++ T).filter fun w => w.length == i) b
  | [], bs, U, _, hB => ⟨rfl, fun i b hb => by rw [List.append_nil]; exact hB i b hb⟩
  | w :: T, bs, U, hT, hB => by
    have hl : (bookStep (ofL [c0]) bs (wB c0 c1 w)).length = bs.length := List.length_set
    obtain ⟨h1, h2⟩ := books_bk h T (bookStep (ofL [c0]) bs (wB c0 c1 w)) (U ++ [w]) (fun v hv => by rw [hl]; exact hT v (.tail _ hv)) (fun i b hb => by
      unfold bookStep at hb
      rw [wB_len, List.getElem?_set] at hb
      by_cases hi : w.length = i
      · rw [if_pos hi] at hb
        split at hb
        · rename_i hlt
          rw [List.getElem?_eq_getElem (by lia)] at hb
          have hb' := Option.some.inj hb
          subst hb'
          have hB' := hB w.length bs[w.length] (List.getElem?_eq_getElem (by lia))
          rw [List.filter_append, ← hi, List.filter_cons_of_pos (by simp)]
          exact hB'.add h rfl
        · cases hb
      · rw [if_neg hi] at hb
        rw [List.filter_append, List.filter_cons_of_neg (by simpa using hi), List.filter_nil, List.append_nil]
        exact hB i b hb)
    refine ⟨h1.trans hl, fun i b hb => ?_⟩
    have := h2 i b hb
    rw [List.append_assoc] at this
    exact this
theorem booksZ_bk {c0 c1 : Nat} (h : c0 ≠ c1) (T : List (List Bool)) (n : Nat) (hT : ∀ w ∈ T, w.length < n) : (booksZ (T.map (wB c0 c1)) (ofL [c0]) n).length = n ∧ ∀ (i : Nat) b, (booksZ (T.map (wB c0 c1)) (ofL [c0]) n)[i]? = some b → BK i (T.filter fun w => w.length == i) b := by
  obtain ⟨h1, h2⟩ := books_bk h T (List.replicate n book0) [] (fun w hw => by rw [List.length_replicate]; exact hT w hw) (fun i b hb => by
    rw [List.getElem?_replicate] at hb
    split at hb
    · rw [← Option.some.inj hb]; exact BK.nil i
    · cases hb)
  exact ⟨h1.trans List.length_replicate, h2⟩
theorem sum_one (U : List (List Bool)) : (U.map fun _ => (1 : Int)).sum = (U.length : Int) := by
  induction U with
  | nil => rfl
  | cons w U ih => rw [List.map_cons, List.sum_cons, ih, List.length_cons]; lia
theorem BK.len {i : Nat} {U : List (List Bool)} {b : Book} (B : BK i U b) : b.tab.length ≤ i + 1 := by
  have h := nodup_le (l := b.tab.map (·.1)) (ks := (List.range (i + 1)).map fun j : Nat => (j : Int)) B.nk (fun a ha => by
    obtain ⟨p, hp, rfl⟩ := List.mem_map.mp ha
    have := B.rng p hp
    exact List.mem_map.mpr ⟨p.1.toNat, List.mem_range.mpr (by lia), by lia⟩)
  rw [List.length_map, List.length_map, List.length_range] at h
  exact h
theorem BK.ok {i : Nat} {U : List (List Bool)} {b : Book} (B : BK i U b) (hi : i ≤ 5) : BookOK i b := by
  have hs : sumV b.tab = (U.length : Int) := by
    have e : sumV b.tab = ev (fun _ => 1) b.tab := by
      unfold sumV ev linh
      simp only [Int.mul_one]
    rw [e, B.evu, sum_one]
  refine ⟨B.cc.trans hs.symm, ?_, ?_, ?_, Nat.le_trans B.len (by lia), fun p hp => ?_⟩
  · rw [hs]; exact B.nc
  · rw [B.tt, ← B.evu fun k => k]
    unfold ev linh
    simp only [Int.mul_comm]
  · rw [B.ct, ← B.evu fun k => (i : Int) - k]
    unfold ev linh
    simp only [Int.mul_comm]
  · have := B.rng p hp
    exact ⟨IntMulOk.of_left (PySem.intBits_le_64 (by lia) (by lia)), IntMulOk.of_left (PySem.intBits_le_64 (by lia) (by lia))⟩
theorem row_put (i : Int) (tab acc : List (Int × Int)) : cntRow i tab acc = putL acc (tab.map fun p => (p.1 + 16 * (i - p.1), p.2)) := by
  unfold cntRow putL; rw [List.foldl_map]
theorem ev_row (g : Int → Int) (i : Int) : ∀ tab : List (Int × Int), ev g (tab.map fun p => (p.1 + 16 * (i - p.1), p.2)) = ev (fun k => g (k + 16 * (i - k))) tab
  | [] => rfl
  | p :: tab => by rw [List.map_cons, ev_cons, ev_cons, ev_row g i tab]
theorem sum_step (T : List (List Bool)) (i : Nat) (F : List Bool → Int) : ((T.filter fun w => decide (w.length < i + 1)).map F).sum = ((T.filter fun w => decide (w.length < i)).map F).sum + ((T.filter fun w => w.length == i).map F).sum := by
  rw [sum_filterB, sum_filterB, sum_filterB]
  induction T with
  | nil => rfl
  | cons w T ih =>
    rw [List.map_cons, List.map_cons, List.map_cons, List.sum_cons, List.sum_cons, List.sum_cons, ih]
    by_cases h1 : w.length < i
    · rw [if_pos (decide_eq_true (by lia)), if_pos (decide_eq_true h1), if_neg (by rw [beq_iff_eq]; lia)]; lia
    · rw [if_neg (c := decide (w.length < i) = true) (by simpa using h1)]
      by_cases h2 : w.length = i
      · rw [if_pos (decide_eq_true (by lia)), if_pos (by rw [beq_iff_eq]; exact h2)]; lia
      · rw [if_neg (by rw [decide_eq_true_eq]; lia), if_neg (by rw [beq_iff_eq]; exact h2)]; lia
theorem counted_ev {bs : List Book} {T : List (List Bool)} (hB : ∀ (i : Nat) b, bs[i]? = some b → BK i (T.filter fun w => w.length == i) b) : ∀ i, i ≤ bs.length → i ≤ 6 →
    NK (countedP bs i) ∧ (countedP bs i).length ≤ 6 * i ∧ (∀ p ∈ countedP bs i, ∃ (j : Nat) (n : Int), j < i ∧ 0 ≤ n ∧ n ≤ j ∧ p.1 = n + 16 * (j - n)) ∧ ∀ g, ev g (countedP bs i) = ((T.filter fun w => decide (w.length < i)).map fun w => g (prodB w)).sum
  | 0, _, _ => ⟨List.nodup_nil, Nat.zero_le _, (fun _ h => nomatch h), fun g => by
    have : (T.filter fun w => decide (w.length < 0)) = [] := List.filter_eq_nil_iff.mpr fun w _ => by simp
    rw [this]; rfl⟩
  | i + 1, hi, h6 => by
    obtain ⟨h1, h2, h3, h4⟩ := counted_ev hB i (by lia) (by lia)
    have B := hB i bs[i] (List.getElem?_eq_getElem hi)
    have e : countedP bs (i + 1) = putL (countedP bs i) (bs[i].tab.map fun (p : Int × Int) => (p.1 + 16 * (((i : Nat) : Int) - p.1), p.2)) := by
      show cntRow (i : Nat) ((bs[i]?.getD book0).tab) (countedP bs i) = _
      rw [row_put, List.getElem?_eq_getElem hi]; rfl
    have hN : NK (countedP bs i ++ bs[i].tab.map fun (p : Int × Int) => (p.1 + 16 * (((i : Nat) : Int) - p.1), p.2)) := by
      unfold NK
      rw [List.map_append, List.map_map]
      refine List.nodup_append.mpr ⟨h1, ?_, ?_⟩
      · have hk : List.Nodup (bs[i].tab.map (·.1)) := B.nk
        rw [List.Nodup, List.pairwise_map] at hk ⊢
        exact hk.imp fun {a b} hab e => hab (by
          have e' : a.1 + 16 * (((i : Nat) : Int) - a.1) = b.1 + 16 * (((i : Nat) : Int) - b.1) := e
          lia)
      · intro a ha b hb e
        obtain ⟨p, hp, rfl⟩ := List.mem_map.mp ha
        obtain ⟨r, hr, rfl⟩ := List.mem_map.mp hb
        obtain ⟨j, n, q1, q2, q3, q4⟩ := h3 p hp
        have q5 := B.rng r hr
        have e' : p.1 = r.1 + 16 * (((i : Nat) : Int) - r.1) := e
        lia
    rw [e, puts_fresh _ _ hN]
    refine ⟨hN, ?_, fun p hp => ?_, fun g => ?_⟩
    · rw [List.length_append, List.length_map]; have := B.len; lia
    · rcases List.mem_append.mp hp with hp | hp
      · obtain ⟨j, n, q1, q2, q3, q4⟩ := h3 p hp
        exact ⟨j, n, by lia, q2, q3, q4⟩
      · obtain ⟨r, hr, rfl⟩ := List.mem_map.mp hp
        have q5 := B.rng r hr
        exact ⟨i, r.1, by lia, q5.1, q5.2, rfl⟩
    · rw [ev_app, h4, ev_row, B.evu, sum_step]
      congr 1
      have : ∀ w ∈ T.filter fun w => w.length == i, g ((cntB w : Int) + 16 * ((i : Nat) - (cntB w : Int))) = g (prodB w) := fun w hw => by
        rw [prodB_cnt, beq_iff_eq.mp (List.mem_filter.mp hw).2]
      rw [List.map_congr_left this]
end
section
-- PL18
theorem ev_not {c : List (Int × Int)} {k : Int} (h : k ∉ c.map (·.1)) : ev (fun x => if x = k then 1 else 0) c = 0 := by
  induction c with
  | nil => rfl
  | cons p c ih =>
    rw [ev_cons, ih fun e => h (.tail _ e), if_neg fun e => h (by rw [← e]; exact .head _), Int.mul_zero]; rfl
theorem ev_mem {c : List (Int × Int)} (hN : NK c) {p : Int × Int} (hp : p ∈ c) : ev (fun x => if x = p.1 then 1 else 0) c = p.2 := by
  induction c with
  | nil => cases hp
  | cons r c ih =>
    have hr : r.1 ∉ c.map (·.1) := (List.nodup_cons.mp hN).1
    rw [ev_cons]
    rcases List.mem_cons.mp hp with rfl | hp
    · rw [ev_not hr, if_pos rfl]; lia
    · rw [ih (List.nodup_cons.mp hN).2 hp, if_neg fun e => hr (by rw [e]; exact List.mem_map.mpr ⟨p, hp, rfl⟩)]; lia
theorem left_one {c : List (Int × Int)} {top P : Int} (hN : NK c) (hP : P.fmod 16 + P.fdiv 16 ≤ top)
    (hc : ∀ k : Int, k.fmod 16 + k.fdiv 16 ≤ top → ev (fun x => if x = k then 1 else 0) c = if k = P then 1 else 0) : leftZ c top = [(P, 1)] := by
  have hall : ∀ p ∈ c.filter (keepL top), p = (P, 1) := by
    intro p hp
    obtain ⟨hp, hk⟩ := List.mem_filter.mp hp
    unfold keepL at hk
    rw [Bool.and_eq_true, bne_iff_ne, decide_eq_true_eq] at hk
    have h1 := hc p.1 hk.2
    rw [ev_mem hN hp] at h1
    by_cases e : p.1 = P
    · rw [if_pos e] at h1; exact Prod.ext e h1
    · rw [if_neg e] at h1; exact absurd h1 hk.1
  have hin : (P, 1) ∈ c.filter (keepL top) := by
    have h1 := hc P hP
    rw [if_pos rfl] at h1
    by_cases e : P ∈ c.map (·.1)
    · obtain ⟨p, hp, rfl⟩ := List.mem_map.mp e
      rw [ev_mem hN hp] at h1
      have : p = (p.1, 1) := Prod.ext rfl h1
      rw [← this]
      refine List.mem_filter.mpr ⟨hp, ?_⟩
      unfold keepL
      rw [h1, Bool.and_eq_true, decide_eq_true_eq]
      exact ⟨rfl, hP⟩
    · rw [ev_not e] at h1; lia
  have hF : ((c.filter (keepL top)).map (·.1)).Nodup := List.Nodup.sublist (List.Sublist.map _ List.filter_sublist) hN
  have e : c.filter (keepL top) = [(P, 1)] := by
    cases hx : c.filter (keepL top) with
    | nil => rw [hx] at hin; cases hin
    | cons p l =>
      rw [hx] at hall hF
      have hp := hall p (.head _)
      cases l with
      | nil => rw [hp]
      | cons q l =>
        have hq := hall q (.tail _ (.head _))
        exact absurd (by rw [hp, hq]; exact .head _) (List.nodup_cons.mp hF).1
  unfold leftZ
  rw [e]; rfl
theorem dig {n d k : Int} (h0 : 0 ≤ n) (h1 : n < 16) (e : n + 16 * d = k) : k % 16 = n ∧ k / 16 = d := by
  subst e
  constructor
  · rw [Int.add_mul_emod_self_left]; exact Int.emod_eq_of_lt h0 h1
  · rw [Int.add_mul_ediv_left _ _ (by decide), Int.ediv_eq_zero_of_lt h0 h1, Int.zero_add]
theorem key_dl {k : Int} {top : Nat} (h : k.fmod 16 + k.fdiv 16 ≤ (top : Int)) : ∃ n d : Nat, d ≤ top ∧ ∀ w : List Bool, w.length ≤ 15 → (if prodB w = k then (1 : Int) else 0) = dlW n d w := by
  rw [Int.fmod_eq_emod_of_nonneg _ (by decide), Int.fdiv_eq_ediv_of_nonneg _ (by decide)] at h
  by_cases hk : 0 ≤ k
  · refine ⟨(k % 16).toNat, (k % 16).toNat + (k / 16).toNat, by lia, fun w hw => ?_⟩
    have hc := cntB_le w
    rw [prodB_cnt]
    unfold dlW
    by_cases e : cntB w = (k % 16).toNat ∧ w.length = (k % 16).toNat + (k / 16).toNat
    · rw [if_pos e, if_pos (by lia)]
    · rw [if_neg e, if_neg fun e2 => e (by have := dig (by lia) (by lia) e2; lia)]
  · refine ⟨1, 0, Nat.zero_le _, fun w _ => ?_⟩
    have hc := cntB_le w
    rw [prodB_cnt, if_neg (by lia), dl_none (by decide)]
theorem fact_len2 {q : List Bool} (_ : q ≠ []) : ∀ p ∈ factW q, p.1.length ≤ q.length := by
  intro p hp
  unfold factW at hp
  rcases List.mem_append.mp hp with hp | hp
  · obtain ⟨t, ht, hp⟩ := List.mem_flatMap.mp hp
    obtain ⟨r, hr, rfl⟩ := List.mem_map.mp hp
    obtain ⟨k, hk, rfl⟩ := List.mem_map.mp hr
    have hk := List.mem_range.mp (List.mem_filter.mp hk).1
    have h1 : t.1.length ≤ 1 := by
      simp only [T0, List.mem_cons, List.not_mem_nil, or_false] at ht
      rcases ht with rfl | rfl | rfl <;> decide
    rw [List.length_append, List.length_drop]; lia
  · rw [List.mem_singleton.mp hp]; exact Nat.le_refl _
theorem rs_len : ∀ (mid : List (List Bool)), (∀ q ∈ mid, q ≠ []) → ∀ {H K : List Bool → Int}, (∀ w, w.length ≤ mid.flatten.length → H w = K w) → rs (mid.map factW) H = rs (mid.map factW) K
  | [], _, _, _, h => h [] (Nat.le_refl _)
  | q :: mid, hm, _, _, h => sw_congr _ fun p hp => rs_len mid (fun q hq => hm q (.tail _ hq)) fun w hw => h _ (by
    have := fact_len2 (hm q (.head _)) p hp
    rw [List.flatten_cons, List.length_append, List.length_append]; lia)
theorem RR_len (dots : Bool) {mid : List (List Bool)} (hm : ∀ q ∈ mid, q ≠ []) {H K : List Bool → Int} (h : ∀ w, w.length ≤ 1 + mid.flatten.length → H w = K w) : RR dots mid H = RR dots mid K := by
  cases dots
  · exact rs_len mid hm fun w hw => h w (by lia)
  · show sw T0 (fun t => rs (mid.map factW) fun r => H (t ++ r)) = sw T0 (fun t => rs (mid.map factW) fun r => K (t ++ r))
    refine sw_congr _ fun t ht => rs_len mid hm fun w hw => h _ ?_
    have h1 : t.1.length ≤ 1 := by
      simp only [T0, List.mem_cons, List.not_mem_nil, or_false] at ht
      rcases ht with rfl | rfl | rfl <;> decide
    rw [List.length_append]; lia
noncomputable def takenB (a b : Bool) (pb : List (List Bool)) (top : Nat) : List (List Bool) := (bfs top).filter (fB a b pb)
theorem bfs_len : ∀ top ∈ [4, 5], ∀ w ∈ bfs top, w.length ≤ top := by decide +kernel
theorem md_len : ∀ pb ∈ allN, pb.flatten.length ≤ 4 ∧ ∀ a ∈ [false, true], ∀ b ∈ [false, true], (mdB a b pb).flatten.length ≤ 4 := by decide +kernel
theorem taken_len {a b : Bool} {pb : List (List Bool)} {top : Nat} (ht : top = 4 ∨ top = 5) : ∀ w ∈ takenB a b pb top, w.length ≤ top := fun w hw => bfs_len top (by rcases ht with rfl | rfl <;> simp) w (List.mem_filter.mp hw).1
noncomputable def KB (B : Int) (c : List (Int × Int)) : Prop := ∀ p ∈ c, 0 ≤ p.1 ∧ p.1 ≤ B
theorem kb_put {B : Int} {c : List (Int × Int)} (h : KB B c) {k v : Int} (hk : 0 ≤ k ∧ k ≤ B) : KB B (kdfPut c k v) := fun p hp => by
  rcases put_mem hp with hp | rfl
  · exact h p hp
  · exact hk
theorem kb_times {A B : Int} {a b : List (Int × Int)} (ha : KB A a) (hb : KB B b) : KB (A + B) (timesC a b) := by
  have row : ∀ (l : Int × Int), 0 ≤ l.1 ∧ l.1 ≤ A → ∀ (cr acc : List (Int × Int)), KB B cr → KB (A + B) acc → KB (A + B) (cr.foldl (fun acc r => mulS l r acc) acc) := by
    intro l hl cr
    induction cr with
    | nil => exact fun acc _ h => h
    | cons r cr ih => exact fun acc hc h => ih _ (fun p hp => hc p (.tail _ hp)) (kb_put h (by have := hc r (.head _); lia))
  have rows : ∀ (cl acc : List (Int × Int)), KB A cl → KB (A + B) acc → KB (A + B) (cl.foldl (fun acc l => b.foldl (fun acc r => mulS l r acc) acc) acc) := by
    intro cl
    induction cl with
    | nil => exact fun acc _ h => h
    | cons l cl ih => exact fun acc hc h => ih _ (fun p hp => hc p (.tail _ hp)) (row l (hc l (.head _)) b acc hb h)
  exact rows a [] ha fun _ h => nomatch h
theorem prodB_le (w : List Bool) : 0 ≤ prodB w ∧ prodB w ≤ 16 * w.length := by
  have := cntB_le w
  rw [prodB_cnt]; lia
theorem kb_fact {c0 c1 : Nat} (h : c0 ≠ c1) {p : List Bool} (hp : p.length ≤ 3) : KB 48 (factC (wB c0 c1 p) (ofL [c0])) := by
  unfold factC
  rw [ov_wB h, ov_tab p (mem_wl 3 hp), prod_wB h]
  have h1 : KB 16 t0 := fun p hp => by
    have hp : p ∈ [((0 : Int), (1 : Int)), (1, -1), (16, -1)] := hp
    simp only [List.mem_cons, List.not_mem_nil, or_false] at hp
    rcases hp with rfl | rfl | rfl <;> decide
  have h2 : KB 32 ((ovW p).map fun r => (prodB r, (1 : Int))) := fun q hq => by
    obtain ⟨r, hr, rfl⟩ := List.mem_map.mp hq
    obtain ⟨k, hk, rfl⟩ := List.mem_map.mp hr
    have hk := List.mem_range.mp (List.mem_filter.mp hk).1
    have := prodB_le (p.drop (p.length - k))
    have hl : (p.drop (p.length - k)).length ≤ 2 := by rw [List.length_drop]; lia
    show 0 ≤ prodB (p.drop (p.length - k)) ∧ prodB (p.drop (p.length - k)) ≤ 32
    lia
  exact kb_put (kb_times h1 h2) (by have := prodB_le p; lia)
theorem kb_moved {c0 c1 : Nat} (h : c0 ≠ c1) : ∀ (mid : List (List Bool)) (acc : List (Int × Int)) (B : Int), (∀ q ∈ mid, q.length ≤ 3) → KB B acc → KB (B + 48 * mid.length) ((mid.map (wB c0 c1)).foldl (fun acc p => timesC acc (factC p (ofL [c0]))) acc)
  | [], acc, B, _, hB => fun p hp => by have := hB p hp; show 0 ≤ p.1 ∧ p.1 ≤ B + 48 * 0; lia
  | q :: mid, acc, B, hm, hB => by
    have := kb_moved h mid _ (B + 48) (fun q hq => hm q (.tail _ hq)) (kb_times hB (kb_fact h (hm q (.head _))))
    intro p hp
    have h3 := this p hp
    rw [List.length_cons]; lia
section
variable {c0 c1 : Nat} (h : c0 ≠ c1) {pb : List (List Bool)} (hp : pb ∈ allN) (a b : Bool) {top : Nat} (ht : top = 4 ∨ top = 5)
include h hp ht
theorem counted_all : NK (countedP (booksZ ((takenB a b pb top).map (wB c0 c1)) (ofL [c0]) (top + 1)) (top + 1)) ∧ (countedP (booksZ ((takenB a b pb top).map (wB c0 c1)) (ofL [c0]) (top + 1)) (top + 1)).length ≤ 64 ∧ KB 80 (countedP (booksZ ((takenB a b pb top).map (wB c0 c1)) (ofL [c0]) (top + 1)) (top + 1)) ∧
    (∀ (i : Nat) bk, (booksZ ((takenB a b pb top).map (wB c0 c1)) (ofL [c0]) (top + 1))[i]? = some bk → BookOK i bk) ∧
    ∀ g, ev g (countedP (booksZ ((takenB a b pb top).map (wB c0 c1)) (ofL [c0]) (top + 1)) (top + 1)) = ((takenB a b pb top).map fun w => g (prodB w)).sum := by
  obtain ⟨h1, h2⟩ := booksZ_bk h (takenB a b pb top) (top + 1) fun w hw => Nat.lt_succ_of_le (taken_len ht w hw)
  obtain ⟨q1, q2, q3, q4⟩ := counted_ev h2 (top + 1) (by lia) (by lia)
  refine ⟨q1, by lia, fun p hp => ?_, fun i bk hb => (h2 i bk hb).ok ?_, fun g => ?_⟩
  · obtain ⟨j, n, r1, r2, r3, r4⟩ := q3 p hp
    lia
  · have : i < (booksZ ((takenB a b pb top).map (wB c0 c1)) (ofL [c0]) (top + 1)).length := by
      rcases Nat.lt_or_ge i (booksZ ((takenB a b pb top).map (wB c0 c1)) (ofL [c0]) (top + 1)).length with h | h
      · exact h
      · rw [List.getElem?_eq_none h] at hb; cases hb
    lia
  · rw [q4, List.filter_eq_self.mpr fun w hw => decide_eq_true (Nat.lt_succ_of_le (taken_len ht w hw))]
theorem moved_all : leftZ (movedC (countedP (booksZ ((takenB a b pb top).map (wB c0 c1)) (ofL [c0]) (top + 1)) (top + 1)) (!((spB a b pb).length == 1)) ((mdB a b pb).map (wB c0 c1)) (ofL [c0])) (top : Nat) = [(prodB pb.flatten, 1)] ∧
    (movedC (countedP (booksZ ((takenB a b pb top).map (wB c0 c1)) (ofL [c0]) (top + 1)) (top + 1)) (!((spB a b pb).length == 1)) ((mdB a b pb).map (wB c0 c1)) (ofL [c0])).length ≤ 10000 := by
  obtain ⟨q1, _, q3, _, q5⟩ := counted_all h hp a b ht
  generalize countedP (booksZ ((takenB a b pb top).map (wB c0 c1)) (ofL [c0]) (top + 1)) (top + 1) = c at q1 q3 q5 ⊢
  have hm := md_ok hp a b
  have hl := md_len pb hp
  have hl2 := hl.2 a (bools a) b (bools b)
  have hM := fun g => moved_ev h g (fun q hq => (hm q hq).2) q1 (!((spB a b pb).length == 1)) (mid := mdB a b pb)
  have hN := (hM fun _ => 0).1
  constructor
  · refine left_one hN ?_ fun k hk => ?_
    · rw [Int.fmod_eq_emod_of_nonneg _ (by decide), Int.fdiv_eq_ediv_of_nonneg _ (by decide), prodB_cnt]
      have := cntB_le pb.flatten
      have hd := dig (n := (cntB pb.flatten : Int)) (d := (pb.flatten.length : Int) - (cntB pb.flatten : Int)) (by lia) (by lia) rfl
      rw [hd.1, hd.2]
      lia
    · obtain ⟨n, d, hd, hdl⟩ := key_dl hk
      rw [(hM _).2, q5]
      have e : ∀ w ∈ takenB a b pb top, RR (!((spB a b pb).length == 1)) (mdB a b pb) (fun r => if prodB w + prodB r = k then (1 : Int) else 0) = RR (!((spB a b pb).length == 1)) (mdB a b pb) fun r => dlW n d (w ++ r) := by
        intro w hw
        refine RR_len _ (fun q hq => (hm q hq).1) fun r hr => ?_
        rw [← prodB_app]
        refine hdl _ ?_
        have := taken_len ht w hw
        rw [List.length_append]; lia
      rw [List.map_congr_left e]
      refine (taken_sum hp a b ht hd).trans ?_
      rw [← hdl _ (by lia)]
      by_cases e : prodB pb.flatten = k
      · rw [if_pos e, if_pos e.symm]
      · rw [if_neg e, if_neg fun e' => e e'.symm]
  · have hK : KB 240 (movedC c (!((spB a b pb).length == 1)) ((mdB a b pb).map (wB c0 c1)) (ofL [c0])) := by
      have h1 : KB 16 t0 := fun p hp => by
        have hp : p ∈ [((0 : Int), (1 : Int)), (1, -1), (16, -1)] := hp
        simp only [List.mem_cons, List.not_mem_nil, or_false] at hp
        rcases hp with rfl | rfl | rfl <;> decide
      have h2 : KB 96 (if (!((spB a b pb).length == 1)) = true then timesC c t0 else c) := by
        split
        · exact kb_times q3 h1
        · exact fun p hp => by have := q3 p hp; lia
      have h3 := kb_moved h (mdB a b pb) _ 96 (fun q hq => (hm q hq).2) h2
      have h4 : (mdB a b pb).length ≤ 3 := Nat.le_trans (pick_len pb _ _) (sp_small pb hp).1
      intro p hp
      have h5 := h3 p hp
      lia
    have h := nodup_le (l := (movedC c (!((spB a b pb).length == 1)) ((mdB a b pb).map (wB c0 c1)) (ofL [c0])).map fun p : Int × Int => p.1) (ks := (List.range 241).map fun j : Nat => (j : Int)) hN (fun x hx => by
      obtain ⟨p, hp, rfl⟩ := List.mem_map.mp hx
      have := hK p hp
      exact List.mem_map.mpr ⟨p.1.toNat, List.mem_range.mpr (by lia), by lia⟩)
    rw [List.length_map, List.length_map, List.length_range] at h
    lia
end
end
section
-- PL19
theorem marked_le (care : List Nat) : ∀ wd : List Nat, (marked care wd).length ≤ 2 * wd.length
  | [] => Nat.le_refl _
  | c :: wd => by
    have ih := marked_le care wd
    have e : marked care (c :: wd) = mk1 care c ++ marked care wd := rfl
    have h : (mk1 care c).length ≤ 2 := by unfold mk1; split <;> simp
    rw [e, List.length_append, List.length_cons]; lia
theorem gap_len (j e : Int) (h0 : 0 ≤ j) (h4 : j < 4) (e0 : 0 ≤ e) (e1 : e < 2) : (cl (nth gaps j)).length ≤ 2 ∧ (cl (Txt.mul (nth gaps j) e)).length ≤ 2 := by
  have key : ∀ j ∈ [(0 : Int), 1, 2, 3], ∀ e ∈ [(0 : Int), 1], (cl (nth gaps j)).length ≤ 2 ∧ (cl (Txt.mul (nth gaps j) e)).length ≤ 2 := by decide +kernel
  refine key j ?_ e ?_
  · have hj : j = 0 ∨ j = 1 ∨ j = 2 ∨ j = 3 := by lia
    simp only [List.mem_cons, List.not_mem_nil, or_false]; exact hj
  · have he : e = 0 ∨ e = 1 := by lia
    simp only [List.mem_cons, List.not_mem_nil, or_false]; exact he
theorem wpiece_len (ws : List Str) (turn : Int) (i : Nat) (h : i < ws.length) (hw : ws[i].length ≤ 3) : (cl (wPiece ws turn ((i : Nat) : Int))).length ≤ 30 := by
  obtain ⟨g1, g2⟩ := gap_len (((i : Nat) : Int).fmod 4) (((i : Nat) : Int).fmod 2) (Int.fmod_nonneg_of_pos _ (by decide)) (Int.fmod_lt_of_pos _ (by decide)) (Int.fmod_nonneg_of_pos _ (by decide)) (Int.fmod_lt_of_pos _ (by decide))
  have hm := marked_le (cl (careC ws turn ((i : Nat) : Int))) (cl ws[i])
  have hq : (cl "\"").length = 1 := by decide +kernel
  have hl : (cl ws[i]).length = ws[i].length := cl_len _
  show (cl (if (turn + ((i : Nat) : Int)).fmod 3 = 0 then ("\"" : Str) ++ Txt.join "" ((nth ws ((i : Nat) : Int)).cps.toList.map (markC (careC ws turn ((i : Nat) : Int)))) ++ "\"" ++ Txt.mul (nth gaps (((i : Nat) : Int).fmod 4)) (((i : Nat) : Int).fmod 2) else Txt.join "" ((nth ws ((i : Nat) : Int)).cps.toList.map (markC (careC ws turn ((i : Nat) : Int)))) ++ nth gaps (((i : Nat) : Int).fmod 4))).length ≤ 30
  rw [nth_nat ws h]
  split
  · rw [cl_app, cl_app, cl_app, marked_is, List.length_append, List.length_append, List.length_append, hq]; lia
  · rw [cl_app, marked_is, List.length_append]; lia
theorem flat_len {α : Type} (g : α → List Nat) (n : Nat) : ∀ l : List α, (∀ x ∈ l, (g x).length ≤ n) → (l.flatMap g).length ≤ l.length * n
  | [], _ => Nat.zero_le _
  | x :: l, h => by
    have ih := flat_len g n l fun y hy => h y (.tail _ hy)
    have := h x (.head _)
    rw [List.flatMap_cons, List.length_append, List.length_cons, Nat.succ_mul]; lia
theorem written_len (ws : List Str) (turn : Int) (hl : ws.length ≤ 4) (hw : ∀ w ∈ ws, w.length ≤ 3) : (writtenC ws turn).length ≤ 1000 := by
  rw [← cl_len, cl_written]
  have h := flat_len (fun j => cl (wPiece ws turn ((j : Nat) : Int))) 30 (List.range' 0 (ws.length - 0)) fun j hj => by
    have hj : j < ws.length := by have := List.mem_range'_1.mp hj; lia
    exact wpiece_len ws turn j hj (hw _ (List.getElem_mem hj))
  rw [List.length_range'] at h
  unfold tailT
  lia
/-- before: the shorter, and of one length the lesser -/
noncomputable def ltB (v w : List Bool) : Bool := decide (v.length < w.length) || (v.length == w.length && lexB v w)
where lexB : List Bool → List Bool → Bool
  | a :: v, b :: w => if a = b then lexB v w else b
  | _, _ => false
theorem lex_wB {c0 c1 : Nat} (h : c0 < c1) : ∀ {v w : List Bool}, ltB.lexB v w = true → v.map (chB c0 c1) < w.map (chB c0 c1)
  | a :: v, b :: w, e => by
    unfold ltB.lexB at e
    rw [List.map_cons, List.map_cons, List.cons_lt_cons_iff]
    split at e
    · rename_i hab
      exact .inr ⟨by rw [hab], lex_wB h e⟩
    · rename_i hab
      subst e
      cases a
      · exact .inl h
      · exact absurd rfl hab
  | [], _, e => by unfold ltB.lexB at e; cases e
  | _ :: _, [], e => by unfold ltB.lexB at e; cases e
theorem cmp_lt {c0 c1 : Nat} (h : c0 < c1) {v w : List Bool} (e : ltB v w = true) : cmpZ (wB c0 c1 v).length (wB c0 c1 w).length (wB c0 c1 v) (wB c0 c1 w) = -1 := by
  unfold ltB at e
  rw [Bool.or_eq_true, decide_eq_true_eq, Bool.and_eq_true, beq_iff_eq] at e
  unfold cmpZ
  rw [wB_len, wB_len]
  rcases e with e | ⟨e1, e2⟩
  · rw [if_pos (by lia)]
  · rw [if_neg (by lia), if_neg (by lia)]
    exact if_pos (lex_wB h e2)
theorem cmp_gt {c0 c1 : Nat} (h : c0 < c1) {v w : List Bool} (e : ltB v w = true) : cmpZ (wB c0 c1 w).length (wB c0 c1 v).length (wB c0 c1 w) (wB c0 c1 v) = 1 := by
  unfold ltB at e
  rw [Bool.or_eq_true, decide_eq_true_eq, Bool.and_eq_true, beq_iff_eq] at e
  unfold cmpZ
  rw [wB_len, wB_len]
  rcases e with e | ⟨e1, e2⟩
  · rw [if_neg (by lia), if_pos (by lia)]
  · rw [if_neg (by lia), if_neg (by lia)]
    have h2 := lex_wB h e2
    exact (if_neg (show ¬ (w.map (chB c0 c1) < v.map (chB c0 c1)) from fun h3 => List.lt_irrefl _ (List.lt_trans h2 h3))).trans (if_pos h2)
theorem bfs_lt : ∀ top ∈ [4, 5], (bfs top).length ≤ 500 ∧ 1 ≤ (bfs top).length ∧ ∀ i ∈ List.range ((bfs top).length - 1), ltB ((bfs top).getD i []) ((bfs top).getD (i + 1) []) = true := by decide +kernel
theorem cmp_all {c0 c1 : Nat} (h : c0 < c1) {top : Nat} (ht : top = 4 ∨ top = 5) (c : Int) (h1 : 1 ≤ c) (h2 : c < (((bfs top).map (wB c0 c1)).length : Nat)) :
    ∃ ya yb, ((bfs top).map (wB c0 c1))[(c - c.fmod 2).toNat]? = some ya ∧ ((bfs top).map (wB c0 c1))[(c - 1 + c.fmod 2).toNat]? = some yb ∧ cmpZ ya.length yb.length ya yb = 1 - c.fmod 2 * 2 := by
  obtain ⟨_, _, hb⟩ := bfs_lt top (by rcases ht with rfl | rfl <;> simp)
  rw [List.length_map] at h2
  rw [Int.fmod_eq_emod_of_nonneg _ (by decide)]
  obtain ⟨j, rfl⟩ : ∃ j : Nat, c = ((j + 1 : Nat) : Int) := ⟨(c - 1).toNat, by lia⟩
  have hj : j + 1 < (bfs top).length := by lia
  have hlt := hb j (List.mem_range.mpr (by lia))
  have e0 : (bfs top)[j]? = some ((bfs top).getD j []) := by rw [List.getD_eq_getElem?_getD, List.getElem?_eq_getElem (by lia)]; rfl
  have e1 : (bfs top)[j + 1]? = some ((bfs top).getD (j + 1) []) := by rw [List.getD_eq_getElem?_getD, List.getElem?_eq_getElem hj]; rfl
  have hp : ((j + 1 : Nat) : Int) % 2 = 0 ∨ ((j + 1 : Nat) : Int) % 2 = 1 := by lia
  rcases hp with hp | hp
  · rw [hp]
    refine ⟨wB c0 c1 ((bfs top).getD (j + 1) []), wB c0 c1 ((bfs top).getD j []), ?_, ?_, ?_⟩
    · rw [show (((j + 1 : Nat) : Int) - 0).toNat = j + 1 by lia, List.getElem?_map, e1]; rfl
    · rw [show (((j + 1 : Nat) : Int) - 1 + 0).toNat = j by lia, List.getElem?_map, e0]; rfl
    · exact (cmp_gt h hlt).trans (by decide)
  · rw [hp]
    refine ⟨wB c0 c1 ((bfs top).getD j []), wB c0 c1 ((bfs top).getD (j + 1) []), ?_, ?_, ?_⟩
    · rw [show (((j + 1 : Nat) : Int) - 1).toNat = j by lia, List.getElem?_map, e0]; rfl
    · rw [show (((j + 1 : Nat) : Int) - 1 + 1).toNat = j + 1 by lia, List.getElem?_map, e1]; rfl
    · exact (cmp_lt h hlt).trans (by decide)
end
section
-- PL20
theorem bit_is (z : Int) : ∃ a : Bool, z.fmod 2 = aI a := by
  have h0 : 0 ≤ z.fmod 2 := Int.fmod_nonneg_of_pos z (by decide)
  have h1 : z.fmod 2 < 2 := Int.fmod_lt_of_pos z (by decide)
  by_cases h : z.fmod 2 = 0
  · exact ⟨false, h⟩
  · exact ⟨true, by show _ = (1 : Int); lia⟩
theorem pick_map {α β : Type} (g : α → β) (l : List α) (lo hi : Option Int) : pickL (l.map g) lo hi = (pickL l lo hi).map g := by
  unfold pickL; rw [List.length_map, List.map_take, List.map_drop]
theorem front_wB (c0 c1 : Nat) (a : Bool) (pb : List (List Bool)) : frontZ (pb.map (wB c0 c1)) (aI a) = wB c0 c1 (frB a pb) := by
  unfold frontZ frB; rw [pick_map, join_wB]
theorem back_wB (c0 c1 : Nat) (b : Bool) (pb : List (List Bool)) : backZ (pb.map (wB c0 c1)) (aI b) = wB c0 c1 (bkB b pb) := by
  unfold backZ bkB; rw [pick_map, List.length_map, join_wB]
theorem mid_wB (c0 c1 : Nat) (a b : Bool) (pb : List (List Bool)) : midZ (pb.map (wB c0 c1)) (aI a) (aI b) = (mdB a b pb).map (wB c0 c1) := by
  unfold midZ mdB; rw [pick_map, List.length_map]
theorem self_in : ∀ pb ∈ allN, ∀ a ∈ [false, true], ∀ b ∈ [false, true], fB a b pb pb.flatten = true := by decide +kernel
theorem self_taken {pb : List (List Bool)} (hp : pb ∈ allN) (a b : Bool) {top : Nat} (ht : top = 4 ∨ top = 5) : pb.flatten ∈ takenB a b pb top := by
  have hl := (md_len pb hp).1
  have hm := (List.isPerm_iff.mp (bfs_wl top (by rcases ht with rfl | rfl <;> simp))).mem_iff (a := pb.flatten)
  exact List.mem_filter.mpr ⟨hm.mpr (mem_wl top (by lia)), self_in pb hp a (bools a) b (bools b)⟩
theorem ends_in {pb : List (List Bool)} (hp : pb ∈ allN) {a b : Bool} {w : List Bool} (hw : fB a b pb w = true) : w.take (frB a pb).length = frB a pb ∧ (bkB b pb).length ≤ w.length ∧ w.drop (w.length - (bkB b pb).length) = bkB b pb := by
  by_cases h : (spB a b pb).length = 1
  · rw [fB_one hp h, beq_iff_eq] at hw
    subst hw
    obtain ⟨_, _, h3, h4⟩ := sp_one pb hp a (bools a) b (bools b) h
    have h5 := congrArg List.length h4
    rw [List.length_drop] at h5
    exact ⟨h3, by lia, h4⟩
  · obtain ⟨u, rfl, _⟩ := (fB_iff hp h w).mp hw
    refine ⟨by rw [List.append_assoc, List.take_left], by simp only [List.length_append]; lia, ?_⟩
    have e : (frB a pb ++ u ++ bkB b pb).length - (bkB b pb).length = (frB a pb ++ u).length := by simp only [List.length_append]; lia
    rw [e, List.drop_left]
theorem ends_wB (c0 c1 : Nat) {pb : List (List Bool)} (hp : pb ∈ allN) {a b : Bool} {w : List Bool} (hw : fB a b pb w = true) :
    (Txt.slice (wB c0 c1 w) none (some (((wB c0 c1 (frB a pb)).length : Nat) : Int)) != wB c0 c1 (frB a pb)) = false ∧ (Txt.slice (wB c0 c1 w) (some ((((wB c0 c1 w).length : Nat) : Int) - (((wB c0 c1 (bkB b pb)).length : Nat) : Int))) none != wB c0 c1 (bkB b pb)) = false := by
  obtain ⟨h1, h2, h3⟩ := ends_in hp hw
  have e1 : Txt.slice (wB c0 c1 w) none (some (((wB c0 c1 (frB a pb)).length : Nat) : Int)) = wB c0 c1 (frB a pb) := cl_inj (by
    rw [cl_to, wB_len]
    show (w.map _).take _ = (frB a pb).map _
    rw [← List.map_take, h1])
  have e2 : Txt.slice (wB c0 c1 w) (some ((((wB c0 c1 w).length : Nat) : Int) - (((wB c0 c1 (bkB b pb)).length : Nat) : Int))) none = wB c0 c1 (bkB b pb) := cl_inj (by
    rw [wB_len, wB_len, show ((w.length : Nat) : Int) - (((bkB b pb).length : Nat) : Int) = ((w.length - (bkB b pb).length : Nat) : Int) by lia, cl_from]
    show (w.map _).drop _ = (bkB b pb).map _
    rw [← List.map_drop, h3])
  rw [e1, e2]
  exact ⟨bne_self_eq_false _, bne_self_eq_false _⟩
theorem take_is {c0 c1 : Nat} (h : c0 ≠ c1) (h0 : c0 ≠ 46) (h1 : c1 ≠ 46) {pb : List (List Bool)} (hp : pb ∈ allN) (a b : Bool) (top : Nat) :
    ((bfs top).map (wB c0 c1)).filter (fE (patternZ (aI a) (aI b) (pb.map (wB c0 c1)))) = (takenB a b pb top).map (wB c0 c1) := by
  rw [List.filter_map]
  unfold takenB
  congr 1
  exact List.filter_congr fun w _ => fE_wB h h0 h1 hp a b w
theorem mem_chB {c0 c1 c : Nat} {w : List Bool} (h : c ∈ cl (wB c0 c1 w)) : c = c0 ∨ c = c1 := by
  obtain ⟨b, _, rfl⟩ := List.mem_map.mp (show c ∈ w.map (chB c0 c1) from h)
  cases b
  · exact .inl rfl
  · exact .inr rfl
theorem six_small : ∀ c ∈ sixN, c < 1114112 := by decide
theorem str_ok {c0 c1 : Nat} (h0 : c0 < 1114112) (h1 : c1 < 1114112) (w : List Bool) : PyData.strOk (wB c0 c1 w) = true := by
  show (wB c0 c1 w).cps.all (fun c => decide (c < 1114112)) = true
  rw [← Array.all_toList, List.all_eq_true]
  intro c hc
  rcases mem_chB hc with rfl | rfl
  · exact decide_eq_true h0
  · exact decide_eq_true h1
theorem plain (ns : List Int) (h : ns.length ≤ 63) : ∃ zs a b s0 s1 ps text ts fe line, LawFacts (drawZ ns 0) (drawZ ns 1) (drawZ ns 2) ns.length zs a b s0 s1 ps text ts fe line := by
  obtain ⟨c0, m0, c1, m1, hlt, hs⟩ := signs_is (drawZ ns 2)
  obtain ⟨d0, e0, t0, r0⟩ := six_ok c0 m0
  obtain ⟨d1, e1, t1, r1⟩ := six_ok c1 m1
  have hne : c0 ≠ c1 := Nat.ne_of_lt hlt
  obtain ⟨a, ha⟩ := bit_is ((drawZ ns 0).fdiv 12)
  obtain ⟨b, hb⟩ := bit_is ((drawZ ns 0).fdiv 24)
  have hz := sizes_in (drawZ ns 0)
  obtain ⟨zl, z3, _⟩ := sizes_small _ hz
  have hp : pcs (drawZ ns 1) (sizesZ (drawZ ns 0)) ∈ allN := pcs_in _ (draw_range ns 1).1 hz
  have hpe : piecesZ (drawZ ns 1) (sizesZ (drawZ ns 0)) (ofL [c0]) (ofL [c1]) = (pcs (drawZ ns 1) (sizesZ (drawZ ns 0))).map (wB c0 c1) := pieces_wB ..
  generalize pcs (drawZ ns 1) (sizesZ (drawZ ns 0)) = pb at hp hpe
  have ht : topZ ns.length = 4 ∨ topZ ns.length = 5 := by
    unfold topZ; split
    · exact .inl rfl
    · exact .inr rfl
  obtain ⟨p1, p2, _⟩ := sp_small pb hp
  have hwl : ∀ y ∈ pb.map (wB c0 c1), y.length ≤ 3 := fun y hy => by
    obtain ⟨w, hw, rfl⟩ := List.mem_map.mp hy
    rw [wB_len]; exact (p2 w hw).2
  have hwo : ∀ y ∈ pb.map (wB c0 c1), WordOK y := fun y hy => by
    obtain ⟨w, hw, rfl⟩ := List.mem_map.mp hy
    refine ⟨fun e => (p2 w hw).1 ?_, fun c hc => ?_⟩
    · exact List.map_eq_nil_iff.mp e
    · rcases mem_chB hc with rfl | rfl
      · exact ⟨t0, r0⟩
      · exact ⟨t1, r1⟩
  have htk := take_is hne d0 d1 hp a b (topZ ns.length)
  obtain ⟨b1, b2, _⟩ := bfs_lt (topZ ns.length) (by rcases ht with h | h <;> rw [h] <;> simp)
  have hdots : hasDots (patternZ (aI a) (aI b) (pb.map (wB c0 c1))) = !((spB a b pb).length == 1) := by
    unfold hasDots
    exact congrArg (!·) (split_pat hne d0 d1 hp a b).2
  obtain ⟨q1, q2, q3, q4, q5⟩ := counted_all hne hp a b ht
  obtain ⟨w1, w2⟩ := moved_all hne hp a b ht
  refine ⟨sizesZ (drawZ ns 0), aI a, aI b, ofL [c0], ofL [c1], pb.map (wB c0 c1), writtenC (pb.map (wB c0 c1) ++ [Str.ofString "end"]) (drawZ ns 1), (bfs (topZ ns.length)).map (wB c0 c1), fE (patternZ (aI a) (aI b) (pb.map (wB c0 c1))), 1 + nls (cl (writtenC (pb.map (wB c0 c1) ++ [Str.ofString "end"]) (drawZ ns 1))), ?_⟩
  constructor
  case hzs => rfl
  case ha => exact ha.symm
  case hb => exact hb.symm
  case hs0 => rw [hs]
  case hs1 => rw [hs]
  case hps => exact hpe.symm
  case htext => rfl
  case z0r => exact draw_range ns 0
  case z1r => exact draw_range ns 1
  case zl => exact zl
  case z3 => exact z3
  case sl0 => exact Nat.le_refl 1
  case sl1 => exact Nat.le_refl 1
  case pl => rw [List.length_map]; exact p1
  case py => exact hwl
  case pok =>
    rw [List.all_eq_true]
    intro y hy
    obtain ⟨w, _, rfl⟩ := List.mem_map.mp hy
    exact str_ok (six_small c0 m0) (six_small c1 m1) w
  case tl =>
    refine written_len _ _ (by rw [List.length_append, List.length_map]; exact Nat.succ_le_succ p1) (List.forall_mem_append.mpr ⟨hwl, List.forall_mem_cons.mpr ⟨by decide +kernel, fun _ h => nomatch h⟩⟩)
  case tx => exact texts_is _ _ c0 c1 _ e0 e1 ht hwo
  case ln =>
    have en : Str.ofString "\n" = ⟨#[10]⟩ := by decide +kernel
    rw [en, count_cnt]
    show _ = 1 + cnt 10 (cl _)
    rw [cnt_nls]
    lia
  case tsl => rw [List.length_map]; exact b1
  case ts1 => rw [List.length_map]; exact b2
  case tsy =>
    intro y hy
    obtain ⟨w, hw, rfl⟩ := List.mem_map.mp hy
    rw [wB_len]
    exact bfs_len _ (by rcases ht with h | h <;> rw [h] <;> simp) w hw
  case cmp => exact fun c h1 h2 => cmp_all hlt ht c h1 h2
  case ell => exact ell_ok hne d0 d1 hp a b
  case inn =>
    rw [htk, join_wB]
    exact List.mem_map.mpr ⟨_, self_taken hp a b ht, rfl⟩
  case fb =>
    rw [htk]
    intro y hy
    obtain ⟨w, hw, rfl⟩ := List.mem_map.mp hy
    rw [front_wB, back_wB]
    exact ends_wB c0 c1 hp (List.mem_filter.mp hw).2
  case bok => rw [htk]; exact q4
  case cl => rw [htk]; exact q2
  case ml => rw [htk, hdots, mid_wB]; exact w2
  case left => rw [htk, hdots, mid_wB, join_wB, prod_wB hne]; exact w1
end
section
-- All2
theorem all.tw200202858802481044 : True := trivial
theorem all.tw8013882960148741844 : True := trivial
theorem all.tw12151621649096211766 : True := trivial
theorem all.tw4786482218023259562 : True := trivial
theorem all.tw9583210561881525909 : True := trivial
theorem all.tw5502097140378019596 : True := trivial
theorem all.tw14288127532215574351 : True := trivial
theorem all.tw7347661181068853997 : True := trivial
theorem all.tw7898559521017583957 : True := trivial
theorem all.tw14648097213134440425 : True := trivial
theorem all.tw5736023835603284372 : True := trivial
theorem all.tw8968355716326206664 : True := trivial
theorem all.tw12165253757503004218 : True := trivial
theorem all.tw9700507354520375304 : True := trivial
theorem all.tw14701963045326077753 : True := trivial
theorem all.tw14310873030558110092 : True := trivial
theorem all.tw5854907428364158380 : True := trivial
theorem all.tw596421839371371174 : True := trivial
theorem all.tw17360653242477243975 : True := trivial
theorem all.tw11448872678469705673 : True := trivial
theorem all.tw4818641064637329869 : True := trivial
theorem all.tw6946980451890315270 : True := trivial
theorem all.tw9022205114861038860 : True := trivial
theorem all.tw8857914048673524507 : True := trivial
theorem all.tw14721843458392949018 : True := trivial
theorem all.tw4814944892674192296 : True := trivial
theorem all.tw7205895575636617080 : True := trivial
theorem all.tw5815207240830897808 : True := trivial
theorem all.tw3949192924188805160 : True := trivial
theorem all.tw3165661143165402847 : True := trivial
theorem all.tw10793401674749092046 : True := trivial
theorem all.tw9600454056292803967 : True := trivial
theorem all.tw15926794790568321017 : True := trivial
theorem all.tw2286941943676669977 : True := trivial
theorem all.tw15284455985751111415 : True := trivial
theorem all.tw18120535436291149196 : True := trivial
theorem all.tw10696458614491829572 : True := trivial
theorem all.tw9305783451064888827 : True := trivial
theorem all.tw8108845850537571710 : True := trivial
theorem all.tw16457593375850944212 : True := trivial
theorem all.tw4302931102428780990 : True := trivial
theorem all.tw8711421783369662179 : True := trivial
theorem all.tw2235618017368140517 : True := trivial
theorem all.tw9496632788025766839 : True := trivial
theorem all.tw12563031120210811263 : True := trivial
theorem all.tw15145278206449419223 : True := trivial
theorem all.tw2531900633515307401 : True := trivial
theorem all.tw12428716410969305734 : True := trivial
theorem all.tw9448091282758670523 : True := trivial
theorem all.tw14647661154017913664 : True := trivial
theorem all.tw14849280956162755979 : True := trivial
theorem all.tw4907521953547317329 : True := trivial
theorem all.tw11573567738276184859 : True := trivial
theorem all.tw2891402810631288588 : True := trivial
theorem all.tw4631590275013254457 : True := trivial
theorem all.tw5543487718492105064 : True := trivial
theorem all.tw8909644736058714228 : True := trivial
theorem all.tw12180536567876656950 : True := trivial
theorem all.tw7091565871241343341 : True := trivial
theorem all.tw13057232943065969744 : True := trivial
theorem all.tw8543756510809834644 : True := trivial
theorem all.tw11961059351148515626 : True := trivial
theorem all.tw16987476370533704557 : True := trivial
theorem all.tw16644902639655322133 : True := trivial
theorem all.tw12803817524326497440 : True := trivial
theorem all.tw17800948086707717751 : True := trivial
theorem all.tw7785168158365692624 : True := trivial
theorem all.tw15618092478124507917 : True := trivial
theorem all.tw5747321363474778693 : True := trivial
theorem all.tw8670540905479144303 : True := trivial
theorem all.tw4965207536615798822 : True := trivial
theorem all.tw1639981616727947583 : True := trivial
theorem all.tw12784588452913835247 : True := trivial
theorem all.tw5377772837010204750 : True := trivial
theorem all.tw14832659646925512398 : True := trivial
set_option Elab.async true in
set_option maxRecDepth 100000 in
set_option maxHeartbeats 8000000 in
theorem all : PySem.Challenge.rw_pm0031_01.Holds := by
  w_on; o_law; k_head; (case hw => w_witness2)
  intro w s₀ s₁ mg mb G Y fa o pm cd doc dV kV ho hd hcd hD hmg hg args vals as hpre hlay hrd hwl hlo
  have KX := km_in_of Y
  km_tabs Y
  have KX9 : (KF w.params).In s₁.heap := KX
  have X := (Ground.X G).1
  have V := (Ground.X G).2
  refine Ground.open G ?_
  intro T B D TE TW
  try (refine guard_noD D (by decide +kernel) ?_; clear D)
  km_lay T hmg ho hd cd
  have efa : fa = 158 := by
    have h1 := mg_of (n := Str.ofString "law") (v := .ref 158) KX (Top.g T) (by k_dflt kernel_rfl)
    have h2 : mg (Str.ofString "law") = some (.ref fa) := hmg
    rw [h2] at h1
    injection h1 with h1
    injection h1
  clear hmg
  wrow_args hpre hlay hrd hwl hlo
  all_goals (
    first | refine callC_kw (enter_call ?_) | refine enter_call ?_
    w_top on
    kn_posts)
  subst efa
  rename_i ns _ _ _ _ _ _ _ S vs _ hL _ _ _ hI _ hlen _
  have hlen' : ns.length ≤ 63 := by omega
  obtain ⟨zs, a, b, s0, s1, ps, text, ts, fe, line, LF⟩ := plain ns hlen'
  refine c_law _ w s₁ S vs ns KX9 T hT9 hL hI hlen' LF _ ?_
  intro h' tk' L' m' F' G'
  refine ⟨⟨.inl ⟨.bool true, .bool true, [], rfl, fun _ => rfl, .bool true, ?_, fun _ => ⟨List.nodup_nil, fun _ h => nomatch h⟩⟩, F'.keep, rfl, hg⟩, G', trivial⟩
  first
    | with_unfolding_all rfl
    | kernel_rfl
    | (k_dflt kernel_rfl)
    | (unfold ClaimW.post; simp)
end
end Mine
theorem PySem.Challenge.cw_pm0031_01_holds : PySem.Challenge.rw_pm0031_01.Holds :=
  Mine.all
