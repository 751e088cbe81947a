import PyProof.Rows.All
import Wide.All
import OpenK.AllK
import Wide.FinOn
import Lean
import PySem.Challenge.RW_pd0052_01
open PySem PySem.W PyProof.Rows PySem.Calls PySem.Spec
set_option Elab.async false
set_option maxRecDepth 100000
set_option maxHeartbeats 8000000
set_option compiler.extract_closed false
namespace Mine
section
/-- the text's statements, by their place -/
def nth : List Stmt → Nat → Stmt
  | [], _ => .Pass ⟨0, 0, 0, 0⟩
  | a :: _, 0 => a
  | _ :: r, n + 1 => nth r n
def st (i : Nat) : Stmt := nth PySem.Challenge.pw_pd0052_01.main.body i
def stc (i j : Nat) : Stmt := match st i with
  | .ClassDef _ _ _ body .. => nth body j
  | x => x
/-- the function that a def leaves -/
def fnObj (x : Stmt) (qual : PySem.Str) (pm cd : Value) : Obj := match x with
  | .FunctionDef name args body _ _ _ scope _ _ _ => { cls := Value.type "function", data := Data.func (fnOf name qual args body scope .none .none .none pm none cd .none) }
  | _ => default
/-- the text without its bindings of __name__ -/
def vw : Program := { PySem.Challenge.pw_pd0052_01 with main := { PySem.Challenge.pw_pd0052_01.main with body := [st 0, st 2, st 4, st 6, st 8, st 9, st 11, st 13, st 15, st 16, st 17, st 18, st 20, st 21, st 22, st 23, st 24, st 25, st 26, st 27, st 28, st 29] } }
/-- what stands behind the top: the defs, their codes, the class -/
def kF : Params → Frag := fun P =>
  (nat_lit 3, { cls := Value.type "dict", data := Data.dict (List.toArray ({ hash := PyData.keyHash P (Str.ofString "__name__"), key := Value.str (Str.ofString "__name__") 165, val := Value.str (Str.ofString "law_pd0052_01") 412 } :: { hash := PyData.keyHash P (Str.ofString "__doc__"), key := Value.str (Str.ofString "__doc__") 166, val := Value.none } :: { hash := PyData.keyHash P (Str.ofString "__package__"), key := Value.str (Str.ofString "__package__") 167, val := Value.none } :: { hash := PyData.keyHash P (Str.ofString "__loader__"), key := Value.str (Str.ofString "__loader__") 168, val := Value.builtin "__main__.__loader__#opaque" } :: { hash := PyData.keyHash P (Str.ofString "__spec__"), key := Value.str (Str.ofString "__spec__") 169, val := Value.none } :: { hash := PyData.keyHash P (Str.ofString "__annotations__"), key := Value.str (Str.ofString "__annotations__") 170, val := Value.ref 6 } :: { hash := PyData.keyHash P (Str.ofString "__builtins__"), key := Value.str (Str.ofString "__builtins__") 171, val := Value.ref 4 } :: { hash := PyData.keyHash P (Str.ofString "__file__"), key := Value.str (Str.ofString "__file__") 173, val := Value.str (Str.ofString "/claim/cut.py") 172 } :: { hash := PyData.keyHash P (Str.ofString "__cached__"), key := Value.str (Str.ofString "__cached__") 174, val := Value.none } :: { hash := PyData.keyHash P (Str.ofString "_wall"), key := Value.str (Str.ofString "_wall") 193, val := Value.ref 21 } :: { hash := PyData.keyHash P (Str.ofString "HTTPPasswordMgr"), key := Value.str (Str.ofString "HTTPPasswordMgr") 262, val := Value.ref 67 } :: { hash := PyData.keyHash P (Str.ofString "_plain_name"), key := Value.str (Str.ofString "_plain_name") 273, val := Value.ref 78 } :: { hash := PyData.keyHash P (Str.ofString "ABCMeta"), key := Value.str (Str.ofString "ABCMeta") 299, val := Value.ref 95 } :: { hash := PyData.keyHash P (Str.ofString "_ABCLike"), key := Value.str (Str.ofString "_ABCLike") 342, val := Value.ref 128 } :: { hash := PyData.keyHash P (Str.ofString "_abc_plain_meta"), key := Value.str (Str.ofString "_abc_plain_meta") 349, val := Value.ref 137 } :: { hash := PyData.keyHash P (Str.ofString "fspath"), key := Value.str (Str.ofString "fspath") 361, val := Value.ref 144 } :: { hash := PyData.keyHash P (Str.ofString "_check_arg_types"), key := Value.str (Str.ofString "_check_arg_types") 374, val := Value.ref 151 } :: { hash := PyData.keyHash P (Str.ofString "_get_sep"), key := Value.str (Str.ofString "_get_sep") 383, val := Value.ref 158 } :: { hash := PyData.keyHash P (Str.ofString "join"), key := Value.str (Str.ofString "join") 394, val := Value.ref 165 } :: { hash := PyData.keyHash P (Str.ofString "split"), key := Value.str (Str.ofString "split") 405, val := Value.ref 172 } :: { hash := PyData.keyHash P (Str.ofString "commonpath"), key := Value.str (Str.ofString "commonpath") 411, val := Value.ref 177 } :: { hash := PyData.keyHash P (Str.ofString "_law_names"), key := Value.str (Str.ofString "_law_names") 421, val := Value.ref 184 } :: { hash := PyData.keyHash P (Str.ofString "_law_straight"), key := Value.str (Str.ofString "_law_straight") 428, val := Value.ref 191 } :: { hash := PyData.keyHash P (Str.ofString "_law_crooked"), key := Value.str (Str.ofString "_law_crooked") 438, val := Value.ref 198 } :: { hash := PyData.keyHash P (Str.ofString "_law_nodes"), key := Value.str (Str.ofString "_law_nodes") 448, val := Value.ref 205 } :: { hash := PyData.keyHash P (Str.ofString "_law_lowest"), key := Value.str (Str.ofString "_law_lowest") 458, val := Value.ref 212 } :: { hash := PyData.keyHash P (Str.ofString "_law_way"), key := Value.str (Str.ofString "_law_way") 467, val := Value.ref 219 } :: { hash := PyData.keyHash P (Str.ofString "_law_climb"), key := Value.str (Str.ofString "_law_climb") 473, val := Value.ref 224 } :: { hash := PyData.keyHash P (Str.ofString "_law_down"), key := Value.str (Str.ofString "_law_down") 482, val := Value.ref 231 } :: { hash := PyData.keyHash P (Str.ofString "_law_wrong_pairs"), key := Value.str (Str.ofString "_law_wrong_pairs") 500, val := Value.ref 238 } :: { hash := PyData.keyHash P (Str.ofString "law"), key := Value.str (Str.ofString "law") 506, val := Value.ref 243 } :: [])) 31 }) ::
  (nat_lit 34, { cls := Value.type "code", data := Data.fields #[Value.str (Str.ofString "__init__") 208, Value.str (Str.ofString "HTTPPasswordMgr.__init__") 209, Value.str (Str.ofString "/claim/cut.py") 210, Value.int 7 0, Value.int 1 0, Value.int 0 0, Value.int 0 0, Value.int 3 0, Value.ref 29, Value.bool true, Value.int 181 0, Value.ref 30, Value.none, Value.ref 31, Value.ref 32, Value.ref 33, Value.int 212 0, Value.int 7 0, Value.str (Str.ofString "/claim/cut.py") 213] }) ::
  (nat_lit 35, fnObj (stc 2 0) (Str.ofString "HTTPPasswordMgr.__init__") (Value.str (Str.ofString "cpy313.urllib.request") 194) (Value.ref 34)) ::
  (nat_lit 63, { cls := Value.type "code", data := Data.fields #[Value.str (Str.ofString "is_suburi") 244, Value.str (Str.ofString "HTTPPasswordMgr.is_suburi") 245, Value.str (Str.ofString "/claim/cut.py") 246, Value.int 19 0, Value.int 3 0, Value.int 0 0, Value.int 0 0, Value.int 3 0, Value.ref 58, Value.bool true, Value.int 181 0, Value.ref 59, Value.none, Value.ref 60, Value.ref 61, Value.ref 62, Value.int 251 0, Value.int 19 0, Value.str (Str.ofString "/claim/cut.py") 252] }) ::
  (nat_lit 64, fnObj (stc 2 4) (Str.ofString "HTTPPasswordMgr.is_suburi") (Value.str (Str.ofString "cpy313.urllib.request") 194) (Value.ref 63)) ::
  (nat_lit 66, { cls := Value.type "dict", data := Data.dict (List.toArray ({ hash := PyData.keyHash P (Str.ofString "__module__"), key := Value.str (Str.ofString "__module__") 203, val := Value.str (Str.ofString "cpy313.urllib.request") 194 } :: { hash := PyData.keyHash P (Str.ofString "__firstlineno__"), key := Value.str (Str.ofString "__firstlineno__") 207, val := Value.int 5 206 } :: { hash := PyData.keyHash P (Str.ofString "__init__"), key := Value.str (Str.ofString "__init__") 214, val := Value.ref 35 } :: { hash := PyData.keyHash P (Str.ofString "add_password"), key := Value.str (Str.ofString "add_password") 225, val := Value.ref 42 } :: { hash := PyData.keyHash P (Str.ofString "find_user_password"), key := Value.str (Str.ofString "find_user_password") 234, val := Value.ref 49 } :: { hash := PyData.keyHash P (Str.ofString "reduce_uri"), key := Value.str (Str.ofString "reduce_uri") 243, val := Value.ref 57 } :: { hash := PyData.keyHash P (Str.ofString "is_suburi"), key := Value.str (Str.ofString "is_suburi") 253, val := Value.ref 64 } :: { hash := PyData.keyHash P (Str.ofString "__static_attributes__"), key := Value.str (Str.ofString "__static_attributes__") 255, val := Value.ref 65 } :: { hash := PyData.keyHash P (Str.ofString "__dict__"), key := Value.str (Str.ofString "__dict__") 257, val := Value.ref 68 } :: { hash := PyData.keyHash P (Str.ofString "__weakref__"), key := Value.str (Str.ofString "__weakref__") 259, val := Value.ref 69 } :: { hash := PyData.keyHash P (Str.ofString "__doc__"), key := Value.str (Str.ofString "__doc__") 260, val := Value.none } :: [])) 4 }) ::
  (nat_lit 67, { cls := Value.type "type", data := Data.cls { name := Str.ofString "HTTPPasswordMgr", bases := [Value.type "object"], mro := [Value.ref 67, Value.type "object"], ns := 66, qualname := Str.ofString "HTTPPasswordMgr" }, slots := #[none, none, some (Value.str (Str.ofString "HTTPPasswordMgr") 196), some (Value.str (Str.ofString "HTTPPasswordMgr") 204), some (Value.builtin "object.__new__"), some (Value.bool true)] }) ::
  (nat_lit 68, { cls := Value.type "getset_descriptor", data := Data.fields #[Value.str (Str.ofString "__dict__") 256, Value.ref 67, Value.builtin "function.__dict__", Value.builtin "function.__dict__#set"] }) ::
  (nat_lit 69, { cls := Value.type "getset_descriptor", data := Data.fields #[Value.str (Str.ofString "__weakref__") 258, Value.ref 67, Value.builtin "ExceptionGroup.__weakref__", Value.none] }) ::
  (nat_lit 143, { cls := Value.type "code", data := Data.fields #[Value.str (Str.ofString "fspath") 352, Value.str (Str.ofString "fspath") 353, Value.str (Str.ofString "/claim/cut.py") 354, Value.int 59 0, Value.int 1 0, Value.int 0 0, Value.int 0 0, Value.int 3 0, Value.ref 138, Value.bool true, Value.int 181 0, Value.ref 139, Value.none, Value.ref 140, Value.ref 141, Value.ref 142, Value.int 359 0, Value.int 59 0, Value.str (Str.ofString "/claim/cut.py") 360] }) ::
  (nat_lit 144, fnObj (st 11) (Str.ofString "fspath") (Value.str (Str.ofString "os") 350) (Value.ref 143)) ::
  (nat_lit 150, { cls := Value.type "code", data := Data.fields #[Value.str (Str.ofString "_check_arg_types") 364, Value.str (Str.ofString "_check_arg_types") 365, Value.str (Str.ofString "/claim/cut.py") 366, Value.int 76 0, Value.int 1 0, Value.int 0 0, Value.int 0 0, Value.int 7 0, Value.ref 145, Value.bool true, Value.int 181 0, Value.ref 146, Value.none, Value.ref 147, Value.ref 148, Value.ref 149, Value.int 372 0, Value.int 76 0, Value.str (Str.ofString "/claim/cut.py") 373] }) ::
  (nat_lit 151, fnObj (st 13) (Str.ofString "_check_arg_types") (Value.str (Str.ofString "cpy313.genericpath") 362) (Value.ref 150)) ::
  (nat_lit 157, { cls := Value.type "code", data := Data.fields #[Value.str (Str.ofString "_get_sep") 377, Value.str (Str.ofString "_get_sep") 378, Value.str (Str.ofString "/claim/cut.py") 379, Value.int 88 0, Value.int 1 0, Value.int 0 0, Value.int 0 0, Value.int 3 0, Value.ref 152, Value.bool true, Value.int 181 0, Value.ref 153, Value.none, Value.ref 154, Value.ref 155, Value.ref 156, Value.int 381 0, Value.int 88 0, Value.str (Str.ofString "/claim/cut.py") 382] }) ::
  (nat_lit 158, fnObj (st 15) (Str.ofString "_get_sep") (Value.str (Str.ofString "cpy313.posixpath") 375) (Value.ref 157)) ::
  (nat_lit 164, { cls := Value.type "code", data := Data.fields #[Value.str (Str.ofString "join") 384, Value.str (Str.ofString "join") 385, Value.str (Str.ofString "/claim/cut.py") 386, Value.int 93 0, Value.int 1 0, Value.int 0 0, Value.int 0 0, Value.int 7 0, Value.ref 159, Value.bool true, Value.int 181 0, Value.ref 160, Value.none, Value.ref 161, Value.ref 162, Value.ref 163, Value.int 392 0, Value.int 93 0, Value.str (Str.ofString "/claim/cut.py") 393] }) ::
  (nat_lit 165, fnObj (st 16) (Str.ofString "join") (Value.str (Str.ofString "cpy313.posixpath") 375) (Value.ref 164)) ::
  (nat_lit 171, { cls := Value.type "code", data := Data.fields #[Value.str (Str.ofString "split") 395, Value.str (Str.ofString "split") 396, Value.str (Str.ofString "/claim/cut.py") 397, Value.int 110 0, Value.int 1 0, Value.int 0 0, Value.int 0 0, Value.int 3 0, Value.ref 166, Value.bool true, Value.int 181 0, Value.ref 167, Value.none, Value.ref 168, Value.ref 169, Value.ref 170, Value.int 403 0, Value.int 110 0, Value.str (Str.ofString "/claim/cut.py") 404] }) ::
  (nat_lit 172, fnObj (st 17) (Str.ofString "split") (Value.str (Str.ofString "cpy313.posixpath") 375) (Value.ref 171)) ::
  (nat_lit 176, { cls := Value.type "code", data := Data.fields #[Value.str (Str.ofString "commonpath") 406, Value.str (Str.ofString "commonpath") 407, Value.str (Str.ofString "/claim/cut.py") 408, Value.int 118 0, Value.int 1 0, Value.int 0 0, Value.int 0 0, Value.int 3 0, Value.ref 173, Value.bool true, Value.int 181 0, Value.ref 174, Value.none, Value.none, Value.none, Value.ref 175, Value.int 409 0, Value.int 118 0, Value.str (Str.ofString "/claim/cut.py") 410] }) ::
  (nat_lit 177, fnObj (st 18) (Str.ofString "commonpath") (Value.str (Str.ofString "cpy313.posixpath") 375) (Value.ref 176)) ::
  (nat_lit 183, { cls := Value.type "code", data := Data.fields #[Value.str (Str.ofString "_law_names") 414, Value.str (Str.ofString "_law_names") 415, Value.str (Str.ofString "/claim/cut.py") 416, Value.int 148 0, Value.int 1 0, Value.int 0 0, Value.int 0 0, Value.int 3 0, Value.ref 178, Value.bool true, Value.int 181 0, Value.ref 179, Value.none, Value.ref 180, Value.ref 181, Value.ref 182, Value.int 419 0, Value.int 148 0, Value.str (Str.ofString "/claim/cut.py") 420] }) ::
  (nat_lit 184, fnObj (st 20) (Str.ofString "_law_names") (Value.str (Str.ofString "law_pd0052_01") 412) (Value.ref 183)) ::
  (nat_lit 190, { cls := Value.type "code", data := Data.fields #[Value.str (Str.ofString "_law_straight") 422, Value.str (Str.ofString "_law_straight") 423, Value.str (Str.ofString "/claim/cut.py") 424, Value.int 154 0, Value.int 1 0, Value.int 0 0, Value.int 0 0, Value.int 3 0, Value.ref 185, Value.bool true, Value.int 181 0, Value.ref 186, Value.none, Value.ref 187, Value.ref 188, Value.ref 189, Value.int 426 0, Value.int 154 0, Value.str (Str.ofString "/claim/cut.py") 427] }) ::
  (nat_lit 191, fnObj (st 21) (Str.ofString "_law_straight") (Value.str (Str.ofString "law_pd0052_01") 412) (Value.ref 190)) ::
  (nat_lit 197, { cls := Value.type "code", data := Data.fields #[Value.str (Str.ofString "_law_crooked") 429, Value.str (Str.ofString "_law_crooked") 430, Value.str (Str.ofString "/claim/cut.py") 431, Value.int 156 0, Value.int 2 0, Value.int 0 0, Value.int 0 0, Value.int 3 0, Value.ref 192, Value.bool true, Value.int 181 0, Value.ref 193, Value.none, Value.ref 194, Value.ref 195, Value.ref 196, Value.int 436 0, Value.int 156 0, Value.str (Str.ofString "/claim/cut.py") 437] }) ::
  (nat_lit 198, fnObj (st 22) (Str.ofString "_law_crooked") (Value.str (Str.ofString "law_pd0052_01") 412) (Value.ref 197)) ::
  (nat_lit 204, { cls := Value.type "code", data := Data.fields #[Value.str (Str.ofString "_law_nodes") 439, Value.str (Str.ofString "_law_nodes") 440, Value.str (Str.ofString "/claim/cut.py") 441, Value.int 164 0, Value.int 1 0, Value.int 0 0, Value.int 0 0, Value.int 3 0, Value.ref 199, Value.bool true, Value.int 181 0, Value.ref 200, Value.none, Value.ref 201, Value.ref 202, Value.ref 203, Value.int 446 0, Value.int 164 0, Value.str (Str.ofString "/claim/cut.py") 447] }) ::
  (nat_lit 205, fnObj (st 23) (Str.ofString "_law_nodes") (Value.str (Str.ofString "law_pd0052_01") 412) (Value.ref 204)) ::
  (nat_lit 211, { cls := Value.type "code", data := Data.fields #[Value.str (Str.ofString "_law_lowest") 449, Value.str (Str.ofString "_law_lowest") 450, Value.str (Str.ofString "/claim/cut.py") 451, Value.int 175 0, Value.int 1 0, Value.int 0 0, Value.int 0 0, Value.int 3 0, Value.ref 206, Value.bool true, Value.int 181 0, Value.ref 207, Value.none, Value.ref 208, Value.ref 209, Value.ref 210, Value.int 456 0, Value.int 175 0, Value.str (Str.ofString "/claim/cut.py") 457] }) ::
  (nat_lit 212, fnObj (st 24) (Str.ofString "_law_lowest") (Value.str (Str.ofString "law_pd0052_01") 412) (Value.ref 211)) ::
  (nat_lit 218, { cls := Value.type "code", data := Data.fields #[Value.str (Str.ofString "_law_way") 459, Value.str (Str.ofString "_law_way") 460, Value.str (Str.ofString "/claim/cut.py") 461, Value.int 185 0, Value.int 2 0, Value.int 0 0, Value.int 0 0, Value.int 3 0, Value.ref 213, Value.bool true, Value.int 181 0, Value.ref 214, Value.none, Value.ref 215, Value.ref 216, Value.ref 217, Value.int 465 0, Value.int 185 0, Value.str (Str.ofString "/claim/cut.py") 466] }) ::
  (nat_lit 219, fnObj (st 25) (Str.ofString "_law_way") (Value.str (Str.ofString "law_pd0052_01") 412) (Value.ref 218)) ::
  (nat_lit 223, { cls := Value.type "code", data := Data.fields #[Value.str (Str.ofString "_law_climb") 468, Value.str (Str.ofString "_law_climb") 469, Value.str (Str.ofString "/claim/cut.py") 470, Value.int 191 0, Value.int 3 0, Value.int 0 0, Value.int 0 0, Value.int 3 0, Value.ref 220, Value.bool true, Value.int 181 0, Value.ref 221, Value.none, Value.none, Value.none, Value.ref 222, Value.int 471 0, Value.int 191 0, Value.str (Str.ofString "/claim/cut.py") 472] }) ::
  (nat_lit 224, fnObj (st 26) (Str.ofString "_law_climb") (Value.str (Str.ofString "law_pd0052_01") 412) (Value.ref 223)) ::
  (nat_lit 230, { cls := Value.type "code", data := Data.fields #[Value.str (Str.ofString "_law_down") 474, Value.str (Str.ofString "_law_down") 475, Value.str (Str.ofString "/claim/cut.py") 476, Value.int 198 0, Value.int 2 0, Value.int 0 0, Value.int 0 0, Value.int 3 0, Value.ref 225, Value.bool true, Value.int 181 0, Value.ref 226, Value.none, Value.ref 227, Value.ref 228, Value.ref 229, Value.int 480 0, Value.int 198 0, Value.str (Str.ofString "/claim/cut.py") 481] }) ::
  (nat_lit 231, fnObj (st 27) (Str.ofString "_law_down") (Value.str (Str.ofString "law_pd0052_01") 412) (Value.ref 230)) ::
  (nat_lit 237, { cls := Value.type "code", data := Data.fields #[Value.str (Str.ofString "_law_wrong_pairs") 483, Value.str (Str.ofString "_law_wrong_pairs") 484, Value.str (Str.ofString "/claim/cut.py") 485, Value.int 202 0, Value.int 4 0, Value.int 0 0, Value.int 0 0, Value.int 3 0, Value.ref 232, Value.bool true, Value.int 181 0, Value.ref 233, Value.none, Value.ref 234, Value.ref 235, Value.ref 236, Value.int 498 0, Value.int 202 0, Value.str (Str.ofString "/claim/cut.py") 499] }) ::
  (nat_lit 238, fnObj (st 28) (Str.ofString "_law_wrong_pairs") (Value.str (Str.ofString "law_pd0052_01") 412) (Value.ref 237)) ::
  (nat_lit 242, { cls := Value.type "code", data := Data.fields #[Value.str (Str.ofString "law") 501, Value.str (Str.ofString "law") 502, Value.str (Str.ofString "/claim/cut.py") 503, Value.int 215 0, Value.int 1 0, Value.int 0 0, Value.int 0 0, Value.int 3 0, Value.ref 239, Value.bool true, Value.int 181 0, Value.ref 240, Value.none, Value.none, Value.none, Value.ref 241, Value.int 504 0, Value.int 215 0, Value.str (Str.ofString "/claim/cut.py") 505] }) ::
  (nat_lit 243, fnObj (st 29) (Str.ofString "law") (Value.str (Str.ofString "law_pd0052_01") 412) (Value.ref 242)) :: []
def kas : List Addr := [3, 34, 35, 63, 64, 66, 67, 68, 69, 143, 144, 150, 151, 157, 158, 164, 165, 171, 172, 176, 177, 183, 184, 190, 191, 197, 198, 204, 205, 211, 212, 218, 219, 223, 224, 230, 231, 237, 238, 242, 243]
theorem kas_ok : ∀ P, kas = (kF P).map (·.1) := fun _ => by kernel_rfl
abbrev kH : Hook := kHook kF kas kas_ok
theorem left : LeftO PySem.Challenge.rw_pd0052_01.row.toRowW.prog vw [] (fun s => xlAt vw [] s && recOk (RowW.records PySem.Challenge.rw_pd0052_01.row.toRowW) s) (Hook.obs kH) (Hook.val kH) 3188 := by
  intro w
  kernel_rfl
end
/-- what stood stands -/
def Kp (h h' : Heap) : Prop := ∀ b o, h.get? b = some o → h'.get? b = some o
theorem Kp.refl (h : Heap) : Kp h h := fun _ _ e => e
theorem Kp.trans {a b c : Heap} (x : Kp a b) (y : Kp b c) : Kp a c := fun _ _ e => y _ _ (x _ _ e)
structure Bs (w : World) (mean : ExcName → Option Value) (mg mb : Str → Option Value) (h : Heap) : Prop where
  k : (kF w.params).In h
  t : Top vw (looseW vw []) mean mg mb h
theorem Bs.keeps {w : World} {mean : ExcName → Option Value} {mg mb : Str → Option Value} {h h' : Heap} (x : Bs w mean mg mb h) (k : Kp h h') : Bs w mean mg mb h' := ⟨x.k.keeps k, x.t.keeps k⟩
/-- an object that is not in h and stands in h' -/
def New (h h' : Heap) (a : Addr) (o : Obj) : Prop := h.get? a = none ∧ h'.get? a = some o
abbrev AR (dp un : Nat) (fr : Option (List Env)) (gd : Option (List Code)) : Around := { handled := none, depth := dp, frames := fr, guards := gd, units := un }
/-- a call of the text's own def that changes nothing that stood -/
def Ctr (w : World) (mean : ExcName → Option Value) (mg mb : Str → Option Value) (f : Addr) (k : Nat) (vs : List Value) (Pre : Heap → Heap → Prop) (R : Heap → Heap → Value → Prop) : Prop :=
  ∀ (dp un : Nat) (fr : Option (List Env)) (gd : Option (List Code)) (h₀ : Heap) (s : Shared) (Q E : Value → Shared → Prop), dp + k < 900 → un + 20 * k < 9000 → Bs w mean mg mb h₀ → Kp h₀ s.heap → Pre h₀ s.heap →
    (∀ r h' tk', Kp s.heap h' → R s.heap h' r → Q r { s with heap := h', toks := tk' }) →
    wpAny (model PySem.Challenge.rw_pd0052_01.row.prog w) (AR dp un fr gd) (call (.ref f) vs) Q E s
def AllNe (d : Nat) : List (Addr × Obj) → Prop
  | [] => True
  | p :: r => @Ne Nat p.1 d ∧ AllNe d r
theorem allNe_iff {d : Addr} (l : List (Addr × Obj)) : AllNe d l ↔ ∀ p ∈ l, p.1 ≠ d := by
  induction l with
  | nil => simp [AllNe]
  | cons q r ih => rw [AllNe, ih, List.forall_mem_cons]
theorem allNe_of {d : Addr} {l : List (Addr × Obj)} (h : ∀ p ∈ l, p.1 ≠ d) : AllNe d l := (allNe_iff l).mpr h
section
variable {w : World} {mean : ExcName → Option Value} {mg mb : Str → Option Value} {f : Addr} {k : Nat} {vs : List Value} {Pre : Heap → Heap → Prop} {R : Heap → Heap → Value → Prop}
    {dp un : Nat} {fr : Option (List Env)} {gd : Option (List Code)} {h₀ : Heap} {L : Addr} {m : Str → Option Value} {news : List (Addr × Obj)} {s : Shared} {Q E : Value → Shared → Prop}
theorem ctr_use (C : Ctr w mean mg mb f k vs Pre R) (F : Fr h₀ L s.heap m) (N : News h₀ L s.heap news) (X : (kF w.params).In h₀) (T : Top vw (looseW vw []) mean mg mb h₀)
    (h1 : dp + k < 900) (h2 : un + 20 * k < 9000) (hp : Pre h₀ s.heap)
    (ret : ∀ r h' tk', Fr h₀ L h' m → News h₀ L h' news → Kp s.heap h' → R s.heap h' r → Q r { s with heap := h', toks := tk' }) :
    wpAny (model PySem.Challenge.rw_pd0052_01.row.prog w) (AR dp un fr gd) (call (.ref f) vs) Q E s :=
  C _ _ _ _ h₀ s Q E h1 h2 ⟨X, T⟩ F.keep hp fun r h' tk' kp hR => ret r h' tk' (Fr.keeps F kp) (News.grown N kp) kp hR
/-- a new thing goes onto the ledger -/
theorem news_on {h h' : Heap} {a : Addr} {o : Obj} (F : Fr h₀ L h m) (N : News h₀ L h news) (kp : Kp h h') (x : New h h' a o) : News h₀ L h' ((a, o) :: news) ∧ ∀ p ∈ news, p.1 ≠ a := by
  refine ⟨fun p hp => ?_, fun p hp e => ?_⟩
  · rcases List.mem_cons.mp hp with rfl | hp
    · refine ⟨x.2, fun e => ?_, ?_⟩
      · obtain ⟨o', _, _, ho', _⟩ := F.ns
        have := x.1
        rw [show a = L from e, ho'] at this; cases this
      · cases q : h₀.get? a with
        | none => rfl
        | some o' => have := F.keep _ _ q; rw [x.1] at this; cases this
    · exact ⟨kp _ _ (N p hp).1, (N p hp).2⟩
  · have := (N p hp).1
    rw [e, x.1] at this; cases this
theorem new_of {h : Heap} {a : Addr} {o : Obj} (N : News h₀ L h news) (hm : (a, o) ∈ news) : New h₀ h a o := ⟨(N _ hm).2.2, (N _ hm).1⟩
/-- a call that makes one thing -/
theorem ctr_use1 {C1 : Addr → Obj → Value → Prop} (C : Ctr w mean mg mb f k vs Pre (fun h h' r => ∃ a o, New h h' a o ∧ C1 a o r)) (F : Fr h₀ L s.heap m) (N : News h₀ L s.heap news) (X : (kF w.params).In h₀) (T : Top vw (looseW vw []) mean mg mb h₀)
    (h1 : dp + k < 900) (h2 : un + 20 * k < 9000) (hp : Pre h₀ s.heap)
    (ret : ∀ r a o h' tk', Fr h₀ L h' m → News h₀ L h' ((a, o) :: news) → AllNe a news → C1 a o r → Q r { s with heap := h', toks := tk' }) :
    wpAny (model PySem.Challenge.rw_pd0052_01.row.prog w) (AR dp un fr gd) (call (.ref f) vs) Q E s :=
  ctr_use C F N X T h1 h2 hp fun r h' tk' F' _ kp ⟨a, o, hn, hc⟩ => ret r a o h' tk' F' (news_on F N kp hn).1 (allNe_of (news_on F N kp hn).2) hc
end
section
variable {w : World} {mean : ExcName → Option Value} {mg mb : Str → Option Value} {dp un : Nat} {fr : Option (List Env)} {gd : Option (List Code)} {h₀ : Heap} {s : Shared} {Q E : Value → Shared → Prop}
  {name qual : Str} {params : Arguments} {body : List Stmt} {scope : Scope} {dV kV doc pm cdv ct oc : Value} {an od : Option Addr} {osl : Array (Option Value)} {f : Addr} {args : List Value}
theorem hide_ground (own : List (Addr × Obj)) (kp : Kp h₀ s.heap) (ho : ∀ p ∈ own, New h₀ s.heap p.1 p.2) :
    Kp h₀ (hideAll s.heap (own.map (·.1))) ∧ (∀ L h' news', Kp (hideAll s.heap (own.map (·.1))) h' → News (hideAll s.heap (own.map (·.1))) L h' news' → (∀ p ∈ own, p ∈ news') → Kp s.heap h') ∧
      ∀ L h' news' a o, News (hideAll s.heap (own.map (·.1))) L h' news' → (a, o) ∈ news' → (∀ p ∈ own, p.1 ≠ a) → New s.heap h' a o := by
  have back : ∀ b o, s.heap.get? b = some o → b ∉ own.map (·.1) → (hideAll s.heap (own.map (·.1))).get? b = some o := fun b o e n => hideAll_get _ e n
  refine ⟨fun b o e => back b o (kp b o e) fun q => ?_, fun L h' news' k N sub b o e => ?_, fun L h' news' a o N hm ne => ⟨?_, (N _ hm).1⟩⟩
  · obtain ⟨p, hp, rfl⟩ := List.mem_map.mp q
    rw [(ho p hp).1] at e; cases e
  · by_cases q : b ∈ own.map (·.1)
    · obtain ⟨p, hp, rfl⟩ := List.mem_map.mp q
      have h1 := (ho p hp).2
      rw [e] at h1; cases h1
      exact (N p (sub p hp)).1
    · exact k b o (back b o e q)
  · cases q : s.heap.get? a with
    | none => rfl
    | some o' =>
      have := back a o' q fun z => by
        obtain ⟨p, hp, e⟩ := List.mem_map.mp z
        exact ne p hp e
      rw [(N _ hm).2.2] at this; cases this
theorem enter (own : List (Addr × Obj)) (binds : List (Str × Value)) (hb : Bs w mean mg mb h₀) (kp : Kp h₀ s.heap) (hown : ∀ p ∈ own, New h₀ s.heap p.1 p.2)
    (ho : (kF w.params).lookup f = some ⟨oc, od, .func (fnOf name qual params body scope dV kV doc pm an cdv ct), osl⟩) (hcd : codeIn (kF w.params) cdv qual = true) (hroom : dp < recursionLimit)
    (hbind : BindsTo s (fnOf name qual params body scope dV kV doc pm an cdv ct) ⟨args, []⟩ binds) (hloc : ∀ y ∈ binds, scope.names.lookup y.1 = some .local)
    (hco : scope.isCoroutine = false) (hgen : scope.isGenerator = false) (hk : scope.kind = .function) (hcell : ∀ x ∈ scope.names, x.2 ≠ .cell)
    (h : ∀ g L h₁ tk, Fr g L h₁ (fun y => binds.reverse.lookup y) → News g L h₁ own → (kF w.params).In g → Top vw (looseW vw []) mean mg mb g → Kp h₀ g →
      (∀ L h' news', Kp g h' → News g L h' news' → (∀ p ∈ own, p ∈ news') → Kp s.heap h') → (∀ L h' news' a o, News g L h' news' → (a, o) ∈ news' → (∀ p ∈ own, p.1 ≠ a) → New s.heap h' a o) → (∀ p ∈ own, p.1 < L) →
      wpAny (model PySem.Challenge.rw_pd0052_01.row.prog w) ((AR dp un fr gd).deeper (envOf qual scope L f cdv)) (execs body (envOf qual scope L f cdv)) (fun fl s' => Q (match fl with | .ret v => v | _ => .none) s') (fun _ _ => False) { s with heap := h₁, toks := tk }) :
    wpAny (model PySem.Challenge.rw_pd0052_01.row.prog w) (AR dp un fr gd) (call (.ref f) args) Q E s := by
  have hbs := hb.keeps kp
  obtain ⟨k1, k2, k3⟩ := hide_ground own kp hown
  have hg := hb.keeps k1
  refine wpAny_call (codeAny_call_def (fd := fnOf name qual params body scope dV kV doc pm an cdv ct) (body := body) (binds := binds) hroom (hbs.k _ _ ho) rfl hbs.t.nolimit (codeRec_of hbs.k hcd) rfl hbind hcell hloc (fun h₁ hns hk₁ => ?_) hco hgen hk)
  exact wpAny_mono (h _ s.heap.objs.size h₁ _ ⟨hns, fun b o e => hk₁ b o (of_hideAll _ e), Nat.le_of_eq (hideAll_size _ _)⟩
    (fun p hp => ⟨hk₁ _ _ (hown p hp).2, Nat.ne_of_lt (Heap.lt_size (hown p hp).2), hideAll_none _ (List.mem_map_of_mem hp)⟩) hg.k hg.t k1 k2 k3 (fun p hp => Heap.lt_size (hown p hp).2)) (fun _ _ x => x) fun _ _ x => x.elim
theorem enterC (own : List (Addr × Obj)) (binds : List (Str × Value)) (hb : Bs w mean mg mb h₀) (kp : Kp h₀ s.heap) (hown : ∀ p ∈ own, New h₀ s.heap p.1 p.2)
    (ho : (kF w.params).lookup f = some ⟨oc, od, .func (fnOf name qual params body scope dV kV doc pm an cdv ct), osl⟩) (hcd : codeIn (kF w.params) cdv qual = true) (hroom : dp < recursionLimit)
    (hbind : BindsTo s (fnOf name qual params body scope dV kV doc pm an cdv ct) ⟨args, []⟩ binds) (hkind : (binds.all fun y => scope.names.lookup y.1 == some .local || scope.names.lookup y.1 == some .cell) = true)
    (hnd : ((cellsFrom 0 scope.names []).map (·.1)).Nodup)
    (hco : scope.isCoroutine = false) (hgen : scope.isGenerator = false) (hk : scope.kind = .function)
    (h : ∀ g L h₁ tk cells, Fr g L h₁ (bindL (envOfC qual scope L f cdv).kindOf binds fun _ => none) → News g L h₁ (cells ++ own) → CellsAre (bindC (envOfC qual scope L f cdv).kindOf binds fun _ => none) (cellsFrom (L + 1) scope.names []) cells →
      (kF w.params).In g → Top vw (looseW vw []) mean mg mb g → Kp h₀ g →
      (∀ L h' news', Kp g h' → News g L h' news' → (∀ p ∈ own, p ∈ news') → Kp s.heap h') → (∀ L h' news' a o, News g L h' news' → (a, o) ∈ news' → (∀ p ∈ own, p.1 ≠ a) → New s.heap h' a o) → (∀ p ∈ own, p.1 < L) →
      wpAny (model PySem.Challenge.rw_pd0052_01.row.prog w) ((AR dp un fr gd).deeper (envOfC qual scope L f cdv)) (execs body (envOfC qual scope L f cdv)) (fun fl s' => Q (match fl with | .ret v => v | _ => .none) s') (fun _ _ => False) { s with heap := h₁, toks := tk }) :
    wpAny (model PySem.Challenge.rw_pd0052_01.row.prog w) (AR dp un fr gd) (call (.ref f) args) Q E s := by
  have hbs := hb.keeps kp
  obtain ⟨k1, k2, k3⟩ := hide_ground own kp hown
  have hg := hb.keeps k1
  refine wpAny_call (codeAny_call_function (fd := fnOf name qual params body scope dV kV doc pm an cdv ct) hroom (hbs.k _ _ ho) rfl hco hgen rfl (codeRec_of hbs.k hcd) (hbind _ _ _ _ ?_))
  refine wpAny_newFunctionEnv_cells hk (kindsX hkind _) fun env' he s' x => ?_
  subst he
  refine ⟨hbs.t.nolimit.keeps x.toInCall.keep, codeAny_func ?_⟩
  obtain ⟨h₁, tk, rfl, _⟩ := x.done
  have hk₁ := x.toInCall.keep
  obtain ⟨cells, NC, Y⟩ := Cl.news (h₀ := s.heap) (Nat.le_refl _) fun n c hm => ⟨x.cell n c (lookup_of_mem_nodup (cellsFrom_names scope.names 0 (s.heap.objs.size + 1) [] [] rfl ▸ hnd) hm), x.above n c hm⟩
  refine wpAny_mono (h _ s.heap.objs.size h₁ tk cells ⟨x.toInCall.ns, fun b o e => hk₁ b o (of_hideAll _ e), Nat.le_of_eq (hideAll_size _ _)⟩ (fun p hp => ?_) Y hg.k hg.t k1 k2 k3 (fun p hp => Heap.lt_size (hown p hp).2)) (fun _ _ x => x) fun _ _ x => x.elim
  rcases List.mem_append.mp hp with hp | hp
  · refine ⟨(NC p hp).1, (NC p hp).2.1, ?_⟩
    cases q : (hideAll s.heap (own.map (·.1))).get? p.1 with
    | none => rfl
    | some o => have := of_hideAll _ q; rw [(NC p hp).2.2] at this; cases this
  · exact ⟨hk₁ _ _ (hown p hp).2, Nat.ne_of_lt (Heap.lt_size (hown p hp).2), hideAll_none _ (List.mem_map_of_mem hp)⟩
end
theorem fr_known {g h : Heap} {L : Addr} {m : Str → Option Value} (ps : List (Str × Value)) (F : Fr g L h m) (hp : ∀ p ∈ ps, m p.1 = some p.2) : Fr g L h (kstB m ps) := by
  have e : kstB m ps = m := by
    funext y
    exact kstB_eq hp fun _ => rfl
  rw [e]; exact F
theorem fill (w : World) : (kF w.params).In {} → PySem.Challenge.rw_pd0052_01.Holds → True := by k_fill; intros; trivial
def Hold (P : Prop) : Prop := P
theorem Hold.out {P : Prop} (h : Hold P) : P := h
theorem Hold.mk {P : Prop} (h : P) : Hold P := h
local macro_rules | `(tactic| walk_at "ROOM") => `(tactic| first | omega | ((try dsimp only [AR, Around.deeper, Around.in1, Around.mark]); (try simp only [recursionLimit]); omega))
local macro_rules | `(tactic| walk_at "ENTER") => `(tactic| ((case k6 => k_is); (case k7 => k_is); (case k8 => walk_at "ROOM"); (case k9 => exact BindsTo.of_eq rfl); (case c5 => decide); (case kB => exact locs rfl); (case c2 => exact rfl); (case c3 => exact rfl); (case c4 => exact rfl); k_whole))
local macro_rules | `(tactic| walk_at "ENTERC") => `(tactic| ((case k6 => k_is); (case k7 => k_is); (case k8 => walk_at "ROOM"); (case k9 => exact BindsTo.of_eq rfl); (case kB => exact rfl); (case kD => decide +kernel); (case c2 => exact rfl); (case c3 => exact rfl); (case c4 => exact rfl); k_whole))
local macro_rules | `(tactic| walk_at "USE") => `(tactic| ((case zF => k_asm); (case zN => k_asm); (case zX => k_asm); (case zT => k_asm); (case zd => walk_at "ROOM"); (case zu => walk_at "ROOM")))
theorem ne_d1 {x : Nat} : x + 1 ≠ x := by omega
theorem ne_d2 {x : Nat} : x + 1 + 1 ≠ x := by omega
theorem ne_d3 {x : Nat} : x + 1 + 1 + 1 ≠ x := by omega
local macro_rules | `(tactic| walk_at "PICK") => `(tactic| (rename (_ ∧ _) => hp; first | exact hp.1 | exact Ne.symm hp.1 | exact Nat.ne_of_lt hp.1 | exact Nat.ne_of_gt hp.1 | ((have hq := hp.2); clear hp; first | exact hq | exact Ne.symm hq | exact Nat.ne_of_lt hq | exact Nat.ne_of_gt hq | walk_at "PICK")))
section
open AutoSeq1 (wpAny_loadPart')
open MeetsSeq MeetsSeq2 MeetsSeq3 SeqAt
def lexLt : List Str → List Str → Bool
  | _, [] => false
  | [], _ :: _ => true
  | x :: r, y :: t => if x = y then lexLt r t else decide (x.cps.toList < y.cps.toList)
theorem lexLt_end {xs ys : List Str} (h : xs = [] ∨ ys = []) : lexLt xs ys = decide (xs.length < ys.length) := by
  cases xs <;> cases ys <;> simp_all [lexLt]
theorem lt_get {vs : List Value} {ys : List Str} (h : StrsAre vs ys) : ∀ {i : Nat} (hi : i < ys.length), ∃ t, vs[i]? = some (.str ys[i] t) := by
  induction h with
  | nil => intro i hi; simp at hi
  | cons y t _ ih =>
    intro i hi
    cases i with
    | zero => exact ⟨t, by simp⟩
    | succ i => simpa using ih (i := i) (by simpa using hi)
theorem rc_lt_str {prog : Program} {w : World} {A : Around} {E : Value → Shared → Prop} {s : Shared} {x y : Str} {t u : Tok} {Q : Value → Shared → Prop} (h : Q (.bool (x.cps.toList < y.cps.toList)) s) : wpAny (model prog w) A (richCompare .Lt (.str x t) (.str y u)) Q E s := PyProof.Rows.lt_str h
theorem rc_gt_str {prog : Program} {w : World} {A : Around} {E : Value → Shared → Prop} {s : Shared} {x y : Str} {t u : Tok} {Q : Value → Shared → Prop} (h : Q (.bool (y.cps.toList < x.cps.toList)) s) : wpAny (model prog w) A (richCompare .Gt (.str x t) (.str y u)) Q E s := PySem.P.gt_str h
theorem lt_loop (l b : Addr) {vs us : List Value} {xs ys : List Str} (n n2 : Nat) (dd dd2 : Option Addr) (sl sl2 : Array (Option Value)) (hx : StrsAre vs xs) (hy : StrsAre us ys) (k : Nat) :
    ∀ i : Nat, xs.length - i = k → i ≤ xs.length → i ≤ ys.length → Meets (Builtin.«list.__eq__.loop» ⟨[.ref l, .ref b, rawInt i, rawInt 0], []⟩)
      (fun _ R s => s.heap.get? l = some { cls := .type "list", dict := dd, data := .seq vs.toArray n, slots := sl } ∧ s.heap.get? b = some { cls := .type "list", dict := dd2, data := .seq us.toArray n2, slots := sl2 } ∧
        R (.ok (.ret (.bool (lexLt (xs.drop i) (ys.drop i))))) s) := by
  have hxl := hx.length
  have hyl := hy.length
  induction k with
  | zero =>
    intro i hk hi1 hi2 prog w A R s h
    obtain ⟨hp, g, d, tk, os⟩ := s; obtain ⟨hl, hb, h⟩ := h
    wp_walk using wpAny_loadPart' hl, wpAny_loadPart' hb
    have hi1 : vs.toArray[((i : Nat) : Int).toNat]? = none := by simp; omega
    have hd : xs.drop i = [] := by simp; omega
    rw [lexLt_end (.inl hd), List.length_drop, List.length_drop] at h
    rw [hi1]
    wp_walk using wpAny_loadPart' hl, wpAny_loadPart' hb
    show R (.ok (.ret (.bool (decide (vs.toArray.size < us.toArray.size))))) _
    rw [List.size_toArray, List.size_toArray, hxl, hyl]
    rw [show decide (xs.length < ys.length) = decide (xs.length - i < ys.length - i) by congr 1; apply propext; omega]
    exact h
  | succ k ih =>
    intro i hk hi1 hi2 prog w A R s h
    obtain ⟨hp, g, d, tk, os⟩ := s; obtain ⟨hl, hb, h⟩ := h
    wp_walk using wpAny_loadPart' hl, wpAny_loadPart' hb
    have hlt : i < xs.length := by omega
    obtain ⟨t, e1⟩ := lt_get hx hlt
    have e1' : vs.toArray[((i : Nat) : Int).toNat]? = some (.str xs[i] t) := by simpa using e1
    by_cases hlt2 : i < ys.length
    · obtain ⟨u, e2⟩ := lt_get hy hlt2
      have e2' : us.toArray[((i : Nat) : Int).toNat]? = some (.str ys[i] u) := by simpa using e2
      have hc : ((i : Int) + 1) = ((i + 1 : Nat) : Int) := by push_cast; rfl
      rw [List.drop_eq_getElem_cons hlt, List.drop_eq_getElem_cons hlt2, lexLt] at h
      rw [e1', e2']
      refine wpAny_bind (wpAny_eqBool_str ?_)
      by_cases hxy : xs[i] = ys[i]
      · rw [if_pos hxy] at h
        rw [decide_eq_true hxy]
        wp_walk
        rw [hc]
        exact ⟨plainId_quiet plain_eq_loop _, codeAny_builtin entry_eq_loop (by
          rw [Around.under_plainId plain_eq_loop _]
          exact ih (i + 1) (by omega) hlt hlt2 prog w A R _ ⟨hl, hb, h⟩)⟩
      · rw [if_neg hxy] at h
        rw [decide_eq_false hxy]
        wp_walk using wpAny_loadPart' hl, wpAny_loadPart' hb
        rw [e1', e2']
        refine wpAny_bind (rc_lt_str (wpAny_pure h))
    · have hi2' : us.toArray[((i : Nat) : Int).toNat]? = none := by simp; omega
      have hd : ys.drop i = [] := by simp; omega
      rw [lexLt_end (.inr hd), List.length_drop, List.length_drop] at h
      rw [e1', hi2']
      wp_walk using wpAny_loadPart' hl, wpAny_loadPart' hb
      show R (.ok (.ret (.bool (decide (vs.toArray.size < us.toArray.size))))) _
      rw [List.size_toArray, List.size_toArray, hxl, hyl]
      rw [show decide (xs.length < ys.length) = decide (xs.length - i < ys.length - i) by congr 1; apply propext; omega]
      exact h
theorem gt_loop (l b : Addr) {vs us : List Value} {xs ys : List Str} (n n2 : Nat) (dd dd2 : Option Addr) (sl sl2 : Array (Option Value)) (hx : StrsAre vs xs) (hy : StrsAre us ys) (k : Nat) :
    ∀ i : Nat, xs.length - i = k → i ≤ xs.length → i ≤ ys.length → Meets (Builtin.«list.__eq__.loop» ⟨[.ref l, .ref b, rawInt i, rawInt 4], []⟩)
      (fun _ R s => s.heap.get? l = some { cls := .type "list", dict := dd, data := .seq vs.toArray n, slots := sl } ∧ s.heap.get? b = some { cls := .type "list", dict := dd2, data := .seq us.toArray n2, slots := sl2 } ∧
        R (.ok (.ret (.bool (lexLt (ys.drop i) (xs.drop i))))) s) := by
  have hxl := hx.length
  have hyl := hy.length
  induction k with
  | zero =>
    intro i hk hi1 hi2 prog w A R s h
    obtain ⟨hp, g, d, tk, os⟩ := s; obtain ⟨hl, hb, h⟩ := h
    wp_walk using wpAny_loadPart' hl, wpAny_loadPart' hb
    have hi1 : vs.toArray[((i : Nat) : Int).toNat]? = none := by simp; omega
    have hd : xs.drop i = [] := by simp; omega
    rw [lexLt_end (.inr hd), List.length_drop, List.length_drop] at h
    rw [hi1]
    wp_walk using wpAny_loadPart' hl, wpAny_loadPart' hb
    show R (.ok (.ret (.bool (decide (vs.toArray.size > us.toArray.size))))) _
    rw [List.size_toArray, List.size_toArray, hxl, hyl]
    rw [show decide (xs.length > ys.length) = decide (ys.length - i < xs.length - i) by congr 1; apply propext; omega]
    exact h
  | succ k ih =>
    intro i hk hi1 hi2 prog w A R s h
    obtain ⟨hp, g, d, tk, os⟩ := s; obtain ⟨hl, hb, h⟩ := h
    wp_walk using wpAny_loadPart' hl, wpAny_loadPart' hb
    have hlt : i < xs.length := by omega
    obtain ⟨t, e1⟩ := lt_get hx hlt
    have e1' : vs.toArray[((i : Nat) : Int).toNat]? = some (.str xs[i] t) := by simpa using e1
    by_cases hlt2 : i < ys.length
    · obtain ⟨u, e2⟩ := lt_get hy hlt2
      have e2' : us.toArray[((i : Nat) : Int).toNat]? = some (.str ys[i] u) := by simpa using e2
      have hc : ((i : Int) + 1) = ((i + 1 : Nat) : Int) := by push_cast; rfl
      rw [List.drop_eq_getElem_cons hlt, List.drop_eq_getElem_cons hlt2, lexLt] at h
      rw [e1', e2']
      refine wpAny_bind (wpAny_eqBool_str ?_)
      by_cases hxy : xs[i] = ys[i]
      · rw [if_pos hxy.symm] at h
        rw [decide_eq_true hxy]
        wp_walk
        rw [hc]
        exact ⟨plainId_quiet plain_eq_loop _, codeAny_builtin entry_eq_loop (by
          rw [Around.under_plainId plain_eq_loop _]
          exact ih (i + 1) (by omega) hlt hlt2 prog w A R _ ⟨hl, hb, h⟩)⟩
      · rw [if_neg (Ne.symm hxy)] at h
        rw [decide_eq_false hxy]
        wp_walk using wpAny_loadPart' hl, wpAny_loadPart' hb
        rw [e1', e2']
        refine wpAny_bind (rc_gt_str (wpAny_pure h))
    · have hi2' : us.toArray[((i : Nat) : Int).toNat]? = none := by simp; omega
      have hd : ys.drop i = [] := by simp; omega
      rw [lexLt_end (.inl hd), List.length_drop, List.length_drop] at h
      rw [e1', hi2']
      wp_walk using wpAny_loadPart' hl, wpAny_loadPart' hb
      show R (.ok (.ret (.bool (decide (vs.toArray.size > us.toArray.size))))) _
      rw [List.size_toArray, List.size_toArray, hxl, hyl]
      rw [show decide (xs.length > ys.length) = decide (ys.length - i < xs.length - i) by congr 1; apply propext; omega]
      exact h
theorem list_ltS (l b : Addr) {vs us : List Value} {xs ys : List Str} (n n2 : Nat) (dd dd2 : Option Addr) (sl sl2 : Array (Option Value)) (hx : StrsAre vs xs) (hy : StrsAre us ys) :
    Meets (Builtin.«list.__lt__» ⟨[.ref l, .ref b], []⟩)
      (fun _ R s => s.heap.get? l = some { cls := .type "list", dict := dd, data := .seq vs.toArray n, slots := sl } ∧ s.heap.get? b = some { cls := .type "list", dict := dd2, data := .seq us.toArray n2, slots := sl2 } ∧
        R (.ok (.ret (.bool (lexLt xs ys)))) s) := by
  intro prog w A R s h
  obtain ⟨hp, g, d, tk, os⟩ := s; obtain ⟨hl, hb, h⟩ := h
  have f3 := AutoSeq1.sub_list_list
  wp_walk using wpAny_loadPart' hl, wpAny_loadPart' hb
  exact ⟨plainId_quiet plain_eq_loop _, codeAny_builtin entry_eq_loop (by
    rw [Around.under_plainId plain_eq_loop _]
    exact lt_loop l b n n2 dd dd2 sl sl2 hx hy _ 0 rfl (Nat.zero_le _) (Nat.zero_le _) prog w A R _ ⟨hl, hb, h⟩)⟩
theorem list_gtS (l b : Addr) {vs us : List Value} {xs ys : List Str} (n n2 : Nat) (dd dd2 : Option Addr) (sl sl2 : Array (Option Value)) (hx : StrsAre vs xs) (hy : StrsAre us ys) :
    Meets (Builtin.«list.__gt__» ⟨[.ref l, .ref b], []⟩)
      (fun _ R s => s.heap.get? l = some { cls := .type "list", dict := dd, data := .seq vs.toArray n, slots := sl } ∧ s.heap.get? b = some { cls := .type "list", dict := dd2, data := .seq us.toArray n2, slots := sl2 } ∧
        R (.ok (.ret (.bool (lexLt ys xs)))) s) := by
  intro prog w A R s h
  obtain ⟨hp, g, d, tk, os⟩ := s; obtain ⟨hl, hb, h⟩ := h
  have f3 := AutoSeq1.sub_list_list
  wp_walk using wpAny_loadPart' hl, wpAny_loadPart' hb
  exact ⟨plainId_quiet plain_eq_loop _, codeAny_builtin entry_eq_loop (by
    rw [Around.under_plainId plain_eq_loop _]
    exact gt_loop l b n n2 dd dd2 sl sl2 hx hy _ 0 rfl (Nat.zero_le _) (Nat.zero_le _) prog w A R _ ⟨hl, hb, h⟩)⟩
section
variable {prog : Program} {w : World} {A : Around} {E : Value → Shared → Prop} {s : Shared} {l b : Addr} {vs us : List Value} {xs ys : List Str} {Q : Value → Shared → Prop}
theorem rc_lt_strs (hl : s.heap.IsList l vs.toArray) (hb : s.heap.IsList b us.toArray) (hx : StrsAre vs xs) (hy : StrsAre us ys) (hu : A.units < cLine) (h : Q (.bool (lexLt xs ys)) s) :
    wpAny (model prog w) A (richCompare .Lt (.ref l) (.ref b)) Q E s := by
  obtain ⟨⟨cls, dd, data, sl⟩, ho, hc, n, hd⟩ := id hl
  obtain ⟨⟨cls2, dd2, data2, sl2⟩, ho2, hc2, n2, hd2⟩ := id hb
  simp only at hc hd hc2 hd2
  subst hc hd hc2 hd2
  exact richCompare_meets_room (op := .Lt) ⟨_, ho, rfl⟩ ⟨_, ho2, rfl⟩ F.slot_list_lt F.entry_list_lt (F.args_list_lt_2 _ _) (list_ltS l b n n2 dd dd2 sl sl2 hx hy)
    ⟨ho, ho2, show Value.bool (lexLt xs ys) ≠ Value.notImplemented ∧ Q (.bool (lexLt xs ys)) s from ⟨(fun x => nomatch x), h⟩⟩ hu
theorem rc_gt_strs (hl : s.heap.IsList l vs.toArray) (hb : s.heap.IsList b us.toArray) (hx : StrsAre vs xs) (hy : StrsAre us ys) (hu : A.units < cLine) (h : Q (.bool (lexLt ys xs)) s) :
    wpAny (model prog w) A (richCompare .Gt (.ref l) (.ref b)) Q E s := by
  obtain ⟨⟨cls, dd, data, sl⟩, ho, hc, n, hd⟩ := id hl
  obtain ⟨⟨cls2, dd2, data2, sl2⟩, ho2, hc2, n2, hd2⟩ := id hb
  simp only at hc hd hc2 hd2
  subst hc hd hc2 hd2
  exact richCompare_meets_room (op := .Gt) ⟨_, ho, rfl⟩ ⟨_, ho2, rfl⟩ F.slot_list_gt F.entry_list_gt (F.args_list_gt_2 _ _) (list_gtS l b n n2 dd dd2 sl sl2 hx hy)
    ⟨ho, ho2, show Value.bool (lexLt ys xs) ≠ Value.notImplemented ∧ Q (.bool (lexLt ys xs)) s from ⟨(fun x => nomatch x), h⟩⟩ hu
end
end
section
open AutoSeq1 (wpAny_loadPart')
theorem slot_setit_next : Slot "set_iterator" "__next__" "set_iterator.__next__" :=
  .of (owner := "set_iterator") (n := "__next__") (by rw [typeLookup_type, builtinLookup_eq_fast]; kernel_rfl) (by decide +kernel) (by decide +kernel) (by decide +kernel)
    (by first | exact .inl (by decide +kernel) | exact .inr (by decide +kernel)) (by rw [isSubtype_type]; kernel_rfl)
theorem entry_setit_next : entryFor table "set_iterator.__next__" = some Builtin.«set_iterator.__next__» := entryFor_of_tree (by kernel_rfl)
theorem args_setit_next_1 (a : Value) : argsOk "set_iterator.__next__" ⟨[a], []⟩ := by unfold argsOk; kernel_rfl
theorem entry_set_iter : entryFor table "set.__iter__" = some Builtin.«frozenset.__iter__» :=
  entryFor_alias (id' := "frozenset.__iter__") (by kernel_rfl) (by first | rfl | decide +kernel | (unfold String.splitOn; simp +decide [String.splitOnAux])) (by decide +kernel) (by kernel_rfl)
/-- the table of the set that holds True alone -/
def tab1 (led : Bool) : SetTable := (layNew (.fresh 0 0 led) #[] 1 (.bool true)).2.1
abbrev setT0 (led : Bool) : Obj := { cls := .type "set", dict := none, data := .set #[] 0 (.fresh 0 0 led) }
abbrev setT1 (led : Bool) : Obj := { cls := .type "set", dict := none, data := .set #[(1, .bool true)] 1 (tab1 led) }
theorem lay1 (led : Bool) : layNew (.fresh 0 0 led) #[] 1 (.bool true) = (#[(1, .bool true)], tab1 led, false, false) := by cases led <;> decide +kernel
theorem tab1_full (led : Bool) : (tab1 led).tooFull = false := by cases led <;> decide +kernel
theorem tab1_plain (led : Bool) : (tab1 led).plain = true := by cases led <;> decide +kernel
theorem tab1_led (led : Bool) : (tab1 led).led = led := by cases led <;> decide +kernel
theorem tab1_place (led : Bool) : (tab1 led).place = #[1] := by cases led <;> decide +kernel
theorem tab1_fits (led : Bool) : (tab1 led).fits 1 = true := by cases led <;> decide +kernel
section
variable {prog : Program} {w : World} {A : Around} {E : Value → Shared → Prop} {s : Shared} {a : Addr} {led : Bool}
theorem pyHash_true {Q : Int → Shared → Prop} (h : Q 1 { s with toks := s.toks + 1 }) : wpAny (model prog w) A (pyHash (.bool true)) Q E s := by
  unfold pyHash
  have hv : [Value.bool true].any Value.onHeap = false := rfl
  refine wpAny_bind ?_
  rw [cRoomFor, if_neg (by rw [hv]; exact Bool.false_ne_true)]; refine wpAny_pure ?_
  refine wpAny_bind (wpAny_specialOf (show s.TypeIs (.bool true) "bool" from rfl) PySem.F.slot_bool_hash.lookup ?_)
  show wpAny _ _ (if (some (Value.builtin "int.__hash__") == some Value.none) = true then _ else _) Q E s
  rw [if_neg (by rw [beq_builtin_none]; exact Bool.false_ne_true)]
  refine wpAny_bind (wpAny_specialOf (show s.TypeIs (.bool true) "bool" from rfl) PySem.F.slot_bool_hash.lookup ?_)
  show wpAny _ _ (callSpecialIfBoundUnlessNone? (.bool true) "__hash__" _ >>= _) Q E s
  refine wpAny_bind (wpAny_callSpecialIfBoundUnlessNone?_slot (show s.TypeIs (.bool true) "bool" from rfl) PySem.F.slot_bool_hash
    (wpAny_call_entry PySem.F.slot_bool_hash (show s.TypeIs (.bool true) "bool" from rfl) PySem.F.entry_int_hash
      (show wpAny _ _ (do ret (← mkInt (rawHash 1))) _ _ s from wpAny_ret_mkInt ?_) (PySem.F.args_int_hash_1 _)))
  show wpAny _ _ (if (decide (-(2 : Int) ^ 63 ≤ rawHash 1) && decide (rawHash 1 < 2 ^ 63)) = true then _ else _) Q E _
  rw [if_pos (by decide)]
  exact wpAny_pure h
theorem storeSet_my {es : Array (Int × Value)} {ep : Nat} {t : SetTable} {es' : Array (Int × Value)} {t' : SetTable} {Q : Unit → Shared → Prop} (ho : s.heap.get? a = some { cls := .type "set", dict := none, data := .set es ep t }) (hz : es'.size ≤ sizeLine)
    (h : ∀ h', Heap.SameBut a s.heap h' → h'.get? a = some { cls := .type "set", dict := none, data := .set es' (ep + 1) t' } → Q () { s with heap := h' }) : wpAny (model prog w) A (storeSet a es' t') Q E s := by
  refine wpAny_storeSet_of ho rfl (h _ (Heap.SameBut.update ..) ?_) hz
  have := Heap.get?_update_self (Obj.putSet es' t') ho (by rw [putSet_of es' t' rfl]; rfl)
  rw [putSet_of es' t' rfl] at this; exact this
theorem set_first {Q : Value → Shared → Prop} (ho : s.heap.get? a = some (setT0 led)) (h : ∀ h', Heap.SameBut a s.heap h' → h'.get? a = some (setT1 led) → Q .none { s with heap := h', toks := s.toks + 1 }) :
    wpAny (model prog w) A (call (.builtin "set.add") [.ref a, .bool true]) Q E s := by
  refine wpAny_call_entry PySem.F.slot_set_add ⟨_, ho, rfl⟩ PySem.F.entry_set_add ?_ (PySem.F.args_set_add_2 _ _)
  unfold Builtin.«set.add» Builtin.Frozenset.oneOther
  simp only [List.isEmpty_nil, bind_assoc]
  unfold Builtin.Frozenset.addrOf setAdd
  refine wpAny_bind (wpAny_pure ?_)
  try dsimp only
  refine wpAny_bind (wpAny_pure ?_)
  try dsimp only
  refine wpAny_bind ?_
  refine wpAny_holding ?_
  refine wpAny_bind (pyHash_true ?_)
  unfold setAddHashed setAddHashedIn
  refine wpAny_holding (wpAny_bind (wpAny_setState_of (s := { s with toks := s.toks + 1 }) ho rfl (by rfl) ?_))
  dsimp only
  rw [show byScan (.bool true) #[] = true by decide +kernel]
  simp only [↓reduceIte]
  unfold setAddByScan
  refine wpAny_bind ?_
  refine wpAny_bind (wpAny_rule ?_)
  refine wpAny_bind (m := setScan _ _ _ _ _) (wpAny_pure ?_)
  rw [lay1]
  dsimp only
  refine wpAny_bind (wpAny_pure ?_)
  rw [if_pos (tab1_plain led)]
  refine wpAny_bind ?_
  rw [hashByValue_scannable 8 rfl]
  refine wpAny_pure ?_
  simp only [plainKind, if_true, tab1_full, Bool.not_false, Bool.and_false, Bool.false_eq_true, if_false]
  refine wpAny_bind (storeSet_my (s := { s with toks := s.toks + 1 }) ho (by rw [sizeLine_eq]; decide) fun h' hs' hg' => ?_)
  exact wpAny_pure (wpAny_pure (wpAny_pure ⟨_, rfl, h h' hs' hg'⟩))
theorem eqb_true {Q : Bool → Shared → Prop} (h : Q true s) : wpAny (model prog w) A (eqBool (.bool true) (.bool true)) Q E s := SeqAt.EqAt.same _ prog w E Q h
theorem set_again {Q : Value → Shared → Prop} (ho : s.heap.get? a = some (setT1 led)) (h : Q .none { s with toks := s.toks + 1 }) :
    wpAny (model prog w) A (call (.builtin "set.add") [.ref a, .bool true]) Q E s := by
  refine wpAny_call_entry PySem.F.slot_set_add ⟨_, ho, rfl⟩ PySem.F.entry_set_add ?_ (PySem.F.args_set_add_2 _ _)
  unfold Builtin.«set.add» Builtin.Frozenset.oneOther
  simp only [List.isEmpty_nil, bind_assoc]
  unfold Builtin.Frozenset.addrOf setAdd
  refine wpAny_bind (wpAny_pure ?_)
  try dsimp only
  refine wpAny_bind (wpAny_pure ?_)
  try dsimp only
  refine wpAny_bind ?_
  refine wpAny_holding ?_
  refine wpAny_bind (pyHash_true ?_)
  unfold setAddHashed setAddHashedIn
  refine wpAny_holding (wpAny_bind (wpAny_setState_of (s := { s with toks := s.toks + 1 }) ho rfl (tab1_fits led) ?_))
  dsimp only
  rw [show byScan (.bool true) #[(1, .bool true)] = true by decide +kernel]
  simp only [↓reduceIte]
  unfold setAddByScan
  refine wpAny_bind ?_
  refine wpAny_bind (wpAny_rule ?_)
  refine wpAny_bind (m := setScan _ _ _ _ _) ?_
  show wpAny _ _ (setScanFrom a (.bool true) 1 true [(1, .bool true)] 0) _ _ _
  unfold setScanFrom
  simp only [beq_self_eq_true, if_true]
  unfold setEpoch
  refine wpAny_bind (wpAny_bind (wpAny_setState_of (s := { s with toks := s.toks + 1 }) ho rfl (tab1_fits led) (wpAny_pure ?_)))
  refine wpAny_bind (eqb_true ?_)
  simp only [Bool.and_self, if_true]
  refine wpAny_pure ?_
  dsimp only
  exact wpAny_pure (wpAny_pure (wpAny_pure ⟨_, rfl, h⟩))
/-- the way over a set -/
abbrev sitObj (a : Addr) (x i : Int) (y : Value) : Obj := { cls := .type "set_iterator", data := .fields #[.int x 0, .int i 0, y, .int 1 0, .int 1 0] }
theorem set_iter {Q : Value → Shared → Prop} (ho : s.heap.get? a = some (setT1 led)) (h : Q (.ref s.heap.objs.size) { s with heap := s.heap.push (sitObj a 0 0 (.ref a)) }) :
    wpAny (model prog w) A (pyIter (.ref a)) Q E s := by
  refine wpAny_pyIter_slot ⟨_, ho, rfl⟩ PySem.F.slot_set_iter (wpAny_call_entry PySem.F.slot_set_iter ⟨_, ho, rfl⟩ entry_set_iter ?_ (PySem.F.args_set_iter_1 _))
  unfold Builtin.«frozenset.__iter__» Builtin.Frozenset.slot0 slotArgs
  simp only [List.isEmpty_nil, Bool.not_true, Bool.false_eq_true, ↓reduceIte, bind_assoc, List.length_nil, bne_self_eq_false]
  unfold Builtin.Frozenset.addrOf Builtin.Frozenset.sizeOf
  refine wpAny_bind (wpAny_pure ?_)
  try dsimp only
  refine wpAny_bind (wpAny_pure ?_)
  refine wpAny_bind (wpAny_bind (wpAny_setEntries_of ho rfl (tab1_fits led) (wpAny_pure ?_)))
  unfold setDrawn setsByText setEpoch
  refine wpAny_bind (wpAny_bind (wpAny_setState_of ho rfl (tab1_fits led) (wpAny_bind (wpAny_bind (wpAny_askSetting (wpAny_pure ?_))))))
  refine wpAny_pure ?_
  split
  · rename_i e
    have e2 := (Bool.and_eq_true_iff.mp e).2
    have e3 : (!(tab1 led).plain && decide ((1 : Nat) > 1)) = true := e2
    rw [tab1_plain] at e3
    exact absurd e3 Bool.false_ne_true
  · refine wpAny_bind (wpAny_pure (wpAny_bind (wpAny_bind (wpAny_setState_of ho rfl (tab1_fits led) (wpAny_pure ?_)))))
    exact wpAny_bind (wpAny_newObj_type (wpAny_pure ⟨_, rfl, "set_iterator", _, ⟨_, Heap.get?_push_size _ rfl, rfl⟩, slot_setit_next.lookup, h⟩))
def nxt (w : World) : Int := if w.params.followText "set-order" = true then 0 else 2
theorem pick1 {α : Type} (f : Nat → Nat) (x : α) : pickOrder f #[x] = #[x] := by simp [pickOrder, pickOrder.go, Nat.mod_one]
theorem setWalk_byText {Q : Array (Int × Value) → Shared → Prop} (ho : s.heap.get? a = some (setT1 led)) (hb : w.params.followText "set-order" = true) (h : Q #[(1, .bool true)] s) : wpAny (model prog w) A (setWalk a) Q E s := by
  unfold setWalk setsByText
  refine wpAny_bind (wpAny_setState_of ho rfl (tab1_fits led) (wpAny_bind (wpAny_bind (wpAny_askSetting (wpAny_pure ?_)))))
  refine wpAny_ite_split (fun _ => ?_) (fun hn => absurd hb hn)
  refine wpAny_bind (wpAny_askSetting (wpAny_pure ?_))
  rw [pick1]; exact h
theorem notDrawn (led : Bool) {α : Type} {x y : Sem α} (P : Sem α → Prop) (h : P y) : P (if (!(tab1 led).plain && decide ((1 : Nat) > 1)) = true then x else y) := by
  rw [tab1_plain, if_neg (by exact Bool.false_ne_true)]; exact h
theorem setNext_0 {Q : Option (Value × Nat) → Shared → Prop} (ho : s.heap.get? a = some (setT1 led)) (hled : led = !w.params.followText "set-order") (h : Q (some (.bool true, (nxt w).toNat)) s) : wpAny (model prog w) A (setNext a 0 0 1) Q E s := by
  unfold setNext setsByText
  refine wpAny_bind (wpAny_setState_of ho rfl (tab1_fits led) (wpAny_bind (wpAny_bind (wpAny_askSetting (wpAny_pure ?_)))))
  cases hb : w.params.followText "set-order" with
  | true =>
    unfold nxt at h
    rw [if_pos hb] at h
    refine wpAny_ite_split (fun _ => ?_) (fun hn => absurd hb hn)
    simp only [bne_self_eq_false, Bool.false_eq_true, if_false]
    exact wpAny_bind (setWalk_byText ho hb (wpAny_pure h))
  | false =>
    unfold nxt at h
    rw [if_neg (by rw [hb]; exact Bool.false_ne_true)] at h
    have hl2 : led = true := by rw [hled, hb]; rfl
    clear hled
    subst hl2
    refine wpAny_ite_split (fun hn => absurd (hb.symm.trans hn) Bool.false_ne_true) (fun _ => ?_)
    refine notDrawn _ (fun z => wpAny (model prog w) A z Q E s) ?_
    refine wpAny_bind ?_
    refine wpAny_pure (wpAny_pure ?_)
    rw [tab1_place]
    exact h
theorem setNext_1 {Q : Option (Value × Nat) → Shared → Prop} (ho : s.heap.get? a = some (setT1 led)) (hled : led = !w.params.followText "set-order") (h : Q none s) : wpAny (model prog w) A (setNext a (nxt w).toNat 1 1) Q E s := by
  unfold setNext setsByText
  refine wpAny_bind (wpAny_setState_of ho rfl (tab1_fits led) (wpAny_bind (wpAny_bind (wpAny_askSetting (wpAny_pure ?_)))))
  cases hb : w.params.followText "set-order" with
  | true =>
    refine wpAny_ite_split (fun _ => ?_) (fun hn => absurd hb hn)
    simp only [bne_self_eq_false, Bool.false_eq_true, if_false]
    exact wpAny_bind (setWalk_byText ho hb (wpAny_pure h))
  | false =>
    have hl2 : led = true := by rw [hled, hb]; rfl
    clear hled
    subst hl2
    rw [show nxt w = 2 by unfold nxt; rw [if_neg (by rw [hb]; exact Bool.false_ne_true)]]
    refine wpAny_ite_split (fun hn => absurd (hb.symm.trans hn) Bool.false_ne_true) (fun _ => ?_)
    refine notDrawn _ (fun z => wpAny (model prog w) A z Q E s) ?_
    refine wpAny_bind ?_
    refine wpAny_pure (wpAny_pure ?_)
    rw [tab1_place]
    exact h
theorem setit_item {It : Addr} {Q : Option Value → Shared → Prop} (hI : s.heap.get? It = some (sitObj a 0 0 (.ref a))) (ho : s.heap.get? a = some (setT1 led)) (hled : led = !w.params.followText "set-order")
    (h : ∀ h', Heap.SameBut It s.heap h' → h'.get? It = some (sitObj a (nxt w) 1 (.ref a)) → Q (some (.bool true)) { s with heap := h' }) :
    wpAny (model prog w) A (pyNext (.ref It)) Q E s := by
  have hT : s.TypeIs (.ref It) "set_iterator" := ⟨_, hI, rfl⟩
  unfold pyNext
  refine wpAny_bind (wpAny_attempt (wpAny_callSpecial?_slot (name := Str.ofString "__next__") hT slot_setit_next
    (wpAny_call_entry slot_setit_next hT entry_setit_next ?_ (args_setit_next_1 _))))
  unfold Builtin.«set_iterator.__next__»
  refine wpAny_bind (m := slotArgs _ _ _) (wpAny_pure ?_)
  dsimp only
  refine wpAny_bind (wpAny_fieldsOf hI rfl ?_)
  dsimp only
  refine wpAny_bind (wpAny_setEntries_of ho rfl (tab1_fits led) ?_)
  rw [if_neg (by decide)]
  refine wpAny_bind (setNext_0 ho hled ?_)
  dsimp only
  have e1 : (((nxt w).toNat : Nat) : Int) = nxt w := by
    unfold nxt; split <;> rfl
  rw [e1]
  refine wpAny_bind (wpAny_setField_rec hI (by simp) fun h1 g1 s1 => ?_)
  refine wpAny_bind (wpAny_setField_rec g1 (by simp) fun h2 g2 s2 => ?_)
  exact wpAny_pure ⟨_, rfl, wpAny_pure (h h2 (s1.trans s2) g2)⟩
theorem setit_end {It : Addr} {Q : Option Value → Shared → Prop} (hh : A.handled = none) (hI : s.heap.get? It = some (sitObj a (nxt w) 1 (.ref a))) (ho : s.heap.get? a = some (setT1 led)) (hled : led = !w.params.followText "set-order")
    (h : ∀ h', Heap.ExtBut It s.heap h' → Q none { s with heap := h' }) :
    wpAny (model prog w) A (pyNext (.ref It)) Q E s := by
  have hT : s.TypeIs (.ref It) "set_iterator" := ⟨_, hI, rfl⟩
  unfold pyNext
  refine wpAny_bind (wpAny_attempt (wpAny_callSpecial?_slot (name := Str.ofString "__next__") hT slot_setit_next
    (wpAny_call_entry slot_setit_next hT entry_setit_next ?_ (args_setit_next_1 _))))
  unfold Builtin.«set_iterator.__next__»
  refine wpAny_bind (m := slotArgs _ _ _) (wpAny_pure ?_)
  dsimp only
  refine wpAny_bind (wpAny_fieldsOf hI rfl ?_)
  dsimp only
  refine wpAny_bind (wpAny_setEntries_of ho rfl (tab1_fits led) ?_)
  rw [if_neg (by decide)]
  refine wpAny_bind (setNext_1 ho hled ?_)
  dsimp only
  refine wpAny_bind (wpAny_setField_rec hI (by simp) fun h1 g1 s1 => ?_)
  show wpAny _ _ (newExc (.type "StopIteration") [] >>= _) _ _ _
  refine wpAny_bind ?_
  simp only [newExc, newTuple]
  refine wpAny_bind (wpAny_newObj_type ?_ (by size_fits))
  refine wpAny_bind (m := firstArgMember _ _) (wpAny_of_eq (a := Value.none) (by first | rfl | (simp only [firstArgMember]; rfl)) ?_)
  refine wpAny_newObj_type ?_ (by size_fits)
  simp only [raiseNew]
  refine wpAny_bind (wpAny_handled ?_)
  first | rw [show A.in1.handled = none from hh] | rw [hh]
  refine wpAny_bind (wpAny_pure (wpAny_throw ?_))
  refine wpAny_bind (wpAny_isInstance (T := "StopIteration") (b := true) ⟨_, Heap.get?_push_size _ rfl, rfl⟩ isSubtype_stop ?_)
  exact wpAny_pure (h _ ((s1.extBut.push _).push _))
/-- one name takes the one thing of a set -/
theorem unpack_set1 {Q : List Value → Shared → Prop} (hh : A.handled = none) (ho : s.heap.get? a = some (setT1 led)) (hled : led = !w.params.followText "set-order")
    (h : ∀ h', Heap.ExtBut s.heap.objs.size s.heap h' → Q [.bool true] { s with heap := h' }) : wpAny (model prog w) A (unpackItems (.ref a) 1 none) Q E s := by
  have hlt : a ≠ s.heap.objs.size := Nat.ne_of_lt (Heap.lt_size ho)
  unfold unpackItems
  refine wpAny_bind ?_
  unfold notIterableAtAll
  refine wpAny_bind (wpAny_specialOf ⟨_, ho, rfl⟩ PySem.F.slot_set_iter.lookup ?_)
  refine wpAny_pure ?_
  simp only [Bool.false_eq_true, if_false]
  refine wpAny_bind (wpAny_holding (set_iter ho ?_))
  have hI := Heap.get?_push_size s.heap (o := sitObj a 0 0 (.ref a)) rfl
  have ho1 : (s.heap.push (sitObj a 0 0 (.ref a))).get? a = some (setT1 led) := Heap.get?_push_of_some _ ho
  refine wpAny_bind (wpAny_holding ?_)
  show wpAny _ _ (pyNext (.ref s.heap.objs.size) >>= _) _ _ _
  refine wpAny_bind (setit_item hI ho1 hled fun h1 s1 g1 => ?_)
  have ho2 : h1.get? a = some (setT1 led) := (s1.2 a hlt).trans ho1
  refine wpAny_bind (wpAny_holding (wpAny_pure (wpAny_pure ?_)))
  rw [if_neg (by decide)]
  refine wpAny_bind (wpAny_holding (setit_end hh g1 ho2 hled fun h2 e2 => ?_))
  simp only [Option.isSome_none, Bool.false_eq_true, if_false]
  refine wpAny_pure (h h2 fun b o hb e => e2 b o hb (s1.extBut b o hb (Heap.get?_push_of_some _ e)))
end
end
section
open AutoSeq1 (wpAny_loadPart')
theorem sub_map : isSubtype (.type "map") (.type "map") = pure true := by rw [isSubtype_type]; kernel_rfl
theorem mro_map : mroOf (.type "map") = pure [.type "map", .type "object"] := by rw [mroOf_type]; kernel_rfl
theorem lookup_map_new : typeLookup (.type "map") "__new__" = pure (some (.builtin "map.__new__")) := by rw [typeLookup_type, builtinLookup_eq_fast]; kernel_rfl
theorem slot_map_init : Slot "map" "__init__" "object.__init__" :=
  .of (owner := "object") (n := "__init__") (by rw [typeLookup_type, builtinLookup_eq_fast]; kernel_rfl) (by decide +kernel) (by decide +kernel) (by decide +kernel)
    (by first | exact .inl (by decide +kernel) | exact .inr (by decide +kernel)) (by rw [isSubtype_type]; kernel_rfl)
theorem slot_map_iter : Slot "map" "__iter__" "map.__iter__" :=
  .of (owner := "map") (n := "__iter__") (by rw [typeLookup_type, builtinLookup_eq_fast]; kernel_rfl) (by decide +kernel) (by decide +kernel) (by decide +kernel)
    (by first | exact .inl (by decide +kernel) | exact .inr (by decide +kernel)) (by rw [isSubtype_type]; kernel_rfl)
theorem slot_map_next : Slot "map" "__next__" "map.__next__" :=
  .of (owner := "map") (n := "__next__") (by rw [typeLookup_type, builtinLookup_eq_fast]; kernel_rfl) (by decide +kernel) (by decide +kernel) (by decide +kernel)
    (by first | exact .inl (by decide +kernel) | exact .inr (by decide +kernel)) (by rw [isSubtype_type]; kernel_rfl)
theorem called_map : TypeCalled "map" "map.__new__" "object.__init__" :=
  ⟨by decide +kernel, by decide +kernel, ⟨_, _, mro_map⟩, madeBy_type mro_map lookup_map_new (by decide +kernel), by decide +kernel, by rw [isSubtype_type]; kernel_rfl, slot_map_init⟩
theorem typeCall_map_2 (a b : Value) : checkTypeCall "map" ⟨[a, b], []⟩ = pure () := by kernel_rfl
theorem newCall_map_2 (a b : Value) : checkBuiltinCall "map.__new__" ⟨[.type "map", a, b], []⟩ = pure () := by kernel_rfl
theorem entry_map_new : entryFor table "map.__new__" = some Builtin.«map.__new__» := entryFor_of_tree (by kernel_rfl)
theorem entry_map_next : entryFor table "map.__next__" = some Builtin.«map.__next__» := entryFor_of_tree (by kernel_rfl)
theorem entry_map_iter : entryFor table "map.__iter__" = some Builtin.«dict_keyiterator.__iter__» :=
  entryFor_alias (id' := "dict_keyiterator.__iter__") (by kernel_rfl) (by first | rfl | decide +kernel | (unfold String.splitOn; simp +decide [String.splitOnAux])) (by decide +kernel) (by kernel_rfl)
theorem args_map_next_1 (a : Value) : argsOk "map.__next__" ⟨[a], []⟩ := by unfold argsOk; kernel_rfl
theorem args_map_iter_1 (a : Value) : argsOk "map.__iter__" ⟨[a], []⟩ := by unfold argsOk; kernel_rfl
theorem map_no_len : typeLookup (.type "map") "__len__" = pure none := by rw [typeLookup_type, builtinLookup_eq_fast]; kernel_rfl
theorem map_no_hint : typeLookup (.type "map") "__length_hint__" = pure none := by rw [typeLookup_type, builtinLookup_eq_fast]; kernel_rfl
theorem args_init_3 (o a b : Value) : argsOk "object.__init__" ⟨[o, a, b], []⟩ := by unfold argsOk; kernel_rfl
abbrev mapObj (T : Addr) (f : Value) : Obj := { cls := .type "map", data := .fields #[.ref T, f] }
abbrev litObj (l : Addr) (i : Nat) : Obj := { cls := .type "list_iterator", data := .fields #[.ref l, .int i 0] }
theorem meets_map_new (f : Value) (l : Addr) (items : Array Value) (n : Nat) :
    Meets (Builtin.«map.__new__» ⟨[.type "map", f, .ref l], []⟩) (fun _ R s => s.heap.get? l = some (W.listOf items n) ∧
      R (.ok (.ret (.ref (s.heap.objs.size + 2)))) { s with heap := ((s.heap.push (litObj l 0)).push { cls := .type "tuple", data := .seq #[.ref s.heap.objs.size] }).push (mapObj (s.heap.objs.size + 1) f) }) :=
  .of_wp fun prog w A R s h => by
    obtain ⟨hp, g, d, tk, os⟩ := s; obtain ⟨hl, h⟩ := h
    have hsub := sub_map
    have hL : Heap.IsList (Shared.heap ⟨hp, g, d, tk, os⟩) l items := ⟨_, hl, rfl, n, rfl⟩
    wp_walk using wpAny_loadPart' hl, wpAny_pyIter_list hL
    refine ⟨_, rfl, ?_⟩
    simp only [Heap.size_push] at h ⊢
    exact h
theorem call_map {prog : Program} {w : World} {A : Around} {E : Value → Shared → Prop} {s : Shared} {f : Value} {l : Addr} {items : Array Value} {n : Nat} {Q : Value → Shared → Prop} (hl : s.heap.get? l = some (W.listOf items n))
    (h : Q (.ref (s.heap.objs.size + 2)) { s with heap := ((s.heap.push (litObj l 0)).push { cls := .type "tuple", data := .seq #[.ref s.heap.objs.size] }).push (mapObj (s.heap.objs.size + 1) f) }) :
    wpAny (model prog w) A (call (.type "map") [f, .ref l]) Q E s := by
  refine callType_new called_map (by decide) (typeCall_map_2 _ _) (newCall_map_2 _ _) (fun obj => args_init_3 obj _ _) entry_map_new (meets_map_new f l items n) ⟨hl, ?_⟩
  refine ⟨⟨mapObj (s.heap.objs.size + 1) f, ?_, rfl⟩, h⟩
  have := Heap.get?_push_size (((s.heap.push (litObj l 0)).push { cls := .type "tuple", data := .seq #[.ref s.heap.objs.size] })) (o := mapObj (s.heap.objs.size + 1) f) rfl
  simpa [Heap.size_push] using this
section
variable {prog : Program} {w : World} {A : Around} {E : Value → Shared → Prop} {s : Shared}
theorem map_next_item {M T It l : Addr} {f v : Value} {i : Nat} {items arr : Array Value} {Q : Option Value → Shared → Prop} (hM : s.heap.get? M = some (mapObj T f)) (harr : arr.toList = [.ref It]) (hT : s.heap.get? T = some { cls := .type "tuple", data := .seq arr }) (hne : It ≠ M)
    (hit : s.heap.IsListIter It l i) (hl : s.heap.IsList l items) (hx : items[i]? = some v)
    (hc : ∀ h', h'.IsListIter It l (i + 1) → Heap.SameBut It s.heap h' → wpAny (model prog w) A.in1 (call f [v]) (fun r s' => Q (some r) s') (fun _ _ => False) { s with heap := h' }) :
    wpAny (model prog w) A (pyNext (.ref M)) Q E s := by
  have hTM : s.TypeIs (.ref M) "map" := ⟨_, hM, rfl⟩
  unfold pyNext
  refine wpAny_bind (wpAny_attempt (wpAny_callSpecial?_slot (name := Str.ofString "__next__") hTM slot_map_next
    (wpAny_call_entry slot_map_next hTM entry_map_next ?_ (args_map_next_1 _))))
  obtain ⟨hp, g, d, tk, os⟩ := s
  wp_walk using wpAny_loadPart' hM, wpAny_loadPart' hT
  refine wpAny_arrayLoop ?_
  rw [harr]
  simp only [List.forIn_cons, List.forIn_nil]
  refine wpAny_bind (wpAny_bind (wpAny_holding (wpAny_nextOf_list_item hit hl hx fun h' hit' hs' => ?_)))
  refine wpAny_pure (wpAny_pure ?_)
  have hM' : h'.get? M = some (mapObj T f) := (hs'.2 M (Ne.symm hne)).trans hM
  dsimp only
  refine wpAny_bind (m := field (Value.ref M) 1) (wpAny_field hM' rfl (x := f) rfl ?_)
  refine wpAny_bind (wpAny_holding (wpAny_mono (hc h' hit' hs') (fun r s' hq => ?_) fun _ _ x => x.elim))
  refine wpAny_bind (wpAny_letGo (wpAny_pure ⟨r, rfl, wpAny_pure hq⟩))
theorem map_next_end {M T It l : Addr} {f : Value} {i : Nat} {items arr : Array Value} {Q : Option Value → Shared → Prop} (hh : A.handled = none) (hM : s.heap.get? M = some (mapObj T f)) (harr : arr.toList = [.ref It]) (hT : s.heap.get? T = some { cls := .type "tuple", data := .seq arr })
    (hit : s.heap.IsListIter It l i) (hl : s.heap.IsList l items) (hx : items[i]? = none)
    (hQ : ∀ h', Heap.ExtBut It s.heap h' → Q none { s with heap := h' }) :
    wpAny (model prog w) A (pyNext (.ref M)) Q E s := by
  have hTM : s.TypeIs (.ref M) "map" := ⟨_, hM, rfl⟩
  unfold pyNext
  refine wpAny_bind (wpAny_attempt (wpAny_callSpecial?_slot (name := Str.ofString "__next__") hTM slot_map_next
    (wpAny_call_entry slot_map_next hTM entry_map_next ?_ (args_map_next_1 _))))
  obtain ⟨hp, g, d, tk, os⟩ := s
  wp_walk using wpAny_loadPart' hM, wpAny_loadPart' hT
  refine wpAny_arrayLoop ?_
  rw [harr]
  simp only [List.forIn_cons, List.forIn_nil]
  refine wpAny_bind (wpAny_bind (wpAny_holding (wpAny_nextOf_list_end hh hit hl hx fun h' e he ho => ?_)))
  obtain ⟨o, ho, hc⟩ := ho
  refine wpAny_bind (wpAny_isInstance (T := "StopIteration") (b := true) ⟨o, ho, hc⟩ isSubtype_stop ?_)
  exact wpAny_pure (hQ h' he)
theorem map_iter {M T : Addr} {f : Value} {Q : Value → Shared → Prop} (hM : s.heap.get? M = some (mapObj T f)) (h : Q (.ref M) s) : wpAny (model prog w) A (pyIter (.ref M)) Q E s := by
  have hTM : s.TypeIs (.ref M) "map" := ⟨_, hM, rfl⟩
  refine wpAny_pyIter_slot hTM slot_map_iter (wpAny_call_entry slot_map_iter hTM entry_map_iter ?_ (args_map_iter_1 _))
  show wpAny _ _ (ret (.ref M)) _ _ s
  exact wpAny_pure ⟨_, rfl, "map", _, hTM, slot_map_next.lookup, h⟩
end
end
section
variable {prog : Program} {w : World} {A : Around} {E : Value → Shared → Prop} {s : Shared}
theorem issub_nested_str {k : Int} {tk : Tok} {Q : Fin → Shared → Prop} (hq : Q (.done (.ret (.bool true))) s) :
    wpAny (model prog w) A (Builtin.«issubclass.nested» ⟨[.type "str", .type "str", .int k tk], []⟩) Q E s := by
  have h1 := PySem.F.sub_str_str
  have h2 := PySem.F.isi_meta_str
  repeat (any_goals (first | assumption | (rw [h1]) | wp_step))
theorem kind_issub_nested : builtinKind "issubclass.nested" = none := by decide +kernel
theorem plain_issub_nested : plainId "issubclass.nested" = true := by decide +kernel
theorem args_issub_nested_3 (a b c : Value) : argsOk "issubclass.nested" ⟨[a, b, c], []⟩ := by unfold argsOk; kernel_rfl
theorem issub_call_str {c : Value} {k : Int} {tk : Tok} {Q : Value → Shared → Prop} (hc : c = .type "str") (h : Q (.bool true) s) : wpAny (model prog w) A (call (.builtin "issubclass.nested") [.type "str", c, .int k tk]) Q E s := by
  subst hc
  exact call_function_meets (S := fun _ R s => R (.ok (.ret (.bool true))) s) kind_issub_nested plain_issub_nested F.entry_issubclass_nested (args_issub_nested_3 _ _ _) (fun _ _ _ _ _ hs => issub_nested_str hs) h
theorem issub_nested_tuple {tp : Addr} {c : Value} {Q : Fin → Shared → Prop} {tk : Tok} (htp : s.heap.get? tp = some { cls := .type "tuple", data := .seq #[.type "str", c] })
    (hq : Q (.done (.ret (.bool true))) s) : wpAny (model prog w) A (Builtin.«issubclass.nested» ⟨[.type "str", .ref tp, .int 0 tk], []⟩) Q E s := by
  obtain ⟨h, g, d, t, os⟩ := s
  have hT2 : (⟨h, g, d, t, os⟩ : Shared).TypeIs (.ref tp) "tuple" := ⟨_, htp, rfl⟩
  have f1 := F.isi_sub_tuple
  repeat (any_goals (first | assumption | (refine issub_call_str rfl ?_) | wp_step))
theorem issub_str_tuple {tp : Addr} {c : Value} {Q : Value → Shared → Prop} (htp : s.heap.get? tp = some { cls := .type "tuple", data := .seq #[.type "str", c] })
    (h : Q (.bool true) s) : wpAny (model prog w) A (call (.builtin "issubclass") [.type "str", .ref tp]) Q E s :=
  call_issubclass (S := fun _ R s => s.heap.get? tp = some { cls := .type "tuple", data := .seq #[.type "str", c] } ∧ R (.ok (.ret (.bool true))) s) (fun _ _ _ _ _ hs => issubclass_outer (issub_nested_tuple hs.1 hs.2)) ⟨htp, h⟩
end
local macro_rules | `(tactic| walk_at "call builtin:issubclass") => `(tactic| (k_here; k_dflt (refine' issub_str_tuple ?k1 ?_; (case k1 => exact News.get (by k_asm) (by k_mem)); k_whole)))
variable {w : World} {mean : ExcName → Option Value} {mg mb : Str → Option Value}
theorem getsep_spec (x : Str) (t : Tok) : Ctr w mean mg mb 158 1 [.str x t] (fun _ _ => True) (fun _ _ r => ∃ t', r = .str (Str.ofString "/") t') := by
  intro dp un fr gd h₀ s Q E hd hu hb hkp hp hret
  refine' enter [] [(Str.ofString "path", .str x t)] hb hkp (fun _ h => nomatch h) ?k6 ?k7 ?k8 ?k9 ?kB ?c2 ?c3 ?c4 ?c5 ?_
  walk_at "ENTER"
  intro g L h₁ tk F N X T kg kback knew klt
  k_steps
  exact hret _ _ _ (kback L _ [] (Fr.keep (by k_asm)) News.nil (fun _ h => nomatch h)) ⟨_, rfl⟩
theorem fspath_spec (x : Str) (t : Tok) : Ctr w mean mg mb 144 1 [.str x t] (fun _ _ => True) (fun _ _ r => r = .str x t) := by
  intro dp un fr gd h₀ s Q E hd hu hb hkp hp hret
  refine' enter [] [(Str.ofString "path", .str x t)] hb hkp (fun _ h => nomatch h) ?k6 ?k7 ?k8 ?k9 ?kB ?c2 ?c3 ?c4 ?c5 ?_
  walk_at "ENTER"
  intro g L h₁ tk F N X T kg kback knew klt
  k_steps
  exact hret _ _ _ (kback L _ [] (Fr.keep (by k_asm)) News.nil (fun _ h => nomatch h)) rfl
local macro_rules | `(tactic| walk_at "call ref") => `(tactic| (k_here; k_dflt (refine' ctr_use (fspath_spec _ _) ?zF ?zN ?zX ?zT ?zd ?zu trivial ?_; walk_at "USE"; k_whole; intro r h' tk' F' N' kp hR; subst hR; clear kp; (try k_sweep); (try k_fold))))
local macro_rules | `(tactic| walk_at "call ref") => `(tactic| (k_here; k_dflt (refine' ctr_use (getsep_spec _ _) ?zF ?zN ?zX ?zT ?zd ?zu trivial ?_; walk_at "USE"; k_whole; intro r h' tk' F' N' kp hR; obtain ⟨t', hR1⟩ := hR; subst hR1; clear kp; (try k_sweep); (try k_fold))))
def head0 (x : Str) : Str := Txt.slice x none (some (Txt.rfind x (Str.ofString "/") + 1))
def tail0 (x : Str) : Str := Txt.slice x (some (Txt.rfind x (Str.ofString "/") + 1)) none
def headOf (x : Str) : Str := if ((head0 x).length : Int) = 0 then head0 x else if (head0 x != Txt.mul (Str.ofString "/") ((head0 x).length : Int)) = true then Txt.rstripChars (head0 x) (Str.ofString "/") else head0 x
theorem headOf_1 {x : Str} (h1 : ((head0 x).length : Int) ≠ 0) (h2 : (head0 x != Txt.mul (Str.ofString "/") ((head0 x).length : Int)) = true) : headOf x = Txt.rstripChars (head0 x) (Str.ofString "/") := by unfold headOf; rw [if_neg h1, if_pos h2]
theorem headOf_2 {x : Str} (h1 : ((head0 x).length : Int) ≠ 0) (h2 : (head0 x != Txt.mul (Str.ofString "/") ((head0 x).length : Int)) = false) : headOf x = head0 x := by unfold headOf; rw [if_neg h1, if_neg (by rw [h2]; exact Bool.false_ne_true)]
theorem headOf_3 {x : Str} (h1 : ((head0 x).length : Int) = 0) : headOf x = head0 x := by unfold headOf; rw [if_pos h1]
theorem tup_eq {y y' z : Str} {t1 t2 : Tok} (e : y' = y) : ({ cls := Value.type "tuple", data := Data.seq #[Value.str y t1, Value.str z t2] } : Obj) = { cls := Value.type "tuple", data := Data.seq #[Value.str y' t1, Value.str z t2] } := by rw [e]
theorem split_spec (x : Str) (t : Tok) : Ctr w mean mg mb 172 2 [.str x t] (fun _ _ => x.length ≤ 1000) (fun h h' r => ∃ a o, New h h' a o ∧ ∃ t1 t2, r = .ref a ∧ o = { cls := Value.type "tuple", data := Data.seq #[Value.str (headOf x) t1, Value.str (tail0 x) t2] }) := by
  intro dp un fr gd h₀ s Q E hd hu hb hkp hp hret
  refine' enter [] [(Str.ofString "p", .str x t)] hb hkp (fun _ h => nomatch h) ?k6 ?k7 ?k8 ?k9 ?kB ?c2 ?c3 ?c4 ?c5 ?_
  walk_at "ENTER"
  intro g L h₁ tk F N X T kg kback knew klt
  k_steps
  all_goals (rename News _ _ _ _ => N9; rename Fr _ _ _ _ => F9; refine hret _ _ _ (kback L _ _ F9.keep News.nil (fun _ h => nomatch h)) ⟨_, _, knew L _ _ _ _ N9 (.head _) (fun _ h => nomatch h), _, _, rfl, tup_eq ?_⟩)
  · exact headOf_1 (by assumption) (by assumption)
  · exact headOf_2 (by assumption) (by assumption)
  · exact headOf_3 (by assumption)
section
theorem hd_sl : (Str.ofString "/").length = 1 ∧ (Str.ofString "/").cps.toList = [47] := by decide +kernel
theorem rfind_room (y : Str) : 0 ≤ Txt.rfind y (Str.ofString "/") + 1 ∧ Txt.rfind y (Str.ofString "/") + 1 ≤ y.cps.toList.length := by
  have hl : y.cps.toList.length = y.length := by simp [Str.length]
  unfold Txt.rfind
  rcases StrLaws.last_spec y (Str.ofString "/") with ⟨e, _⟩ | ⟨i, e, hi, _⟩
  · rw [e]; dsimp only; omega
  · rw [e]; dsimp only
    have h1 := hi.1
    rw [hd_sl.1] at h1
    omega
theorem head0_take (y : Str) : (head0 y).cps.toList = y.cps.toList.take (Txt.rfind y (Str.ofString "/") + 1).toNat := by
  have e : head0 y = ⟨((y.cps.toList.drop 0).take (Txt.rfind y (Str.ofString "/") + 1 - 0).toNat).toArray⟩ := StrLaws.sliceText_to (rfind_room y)
  rw [e]; simp
theorem rstrip_take (x c : Str) : ∃ k, (Txt.rstripChars x c).cps.toList = x.cps.toList.take k := by
  unfold Txt.rstripChars Txt.stripBy
  split
  · exact ⟨x.cps.toList.length, by rw [List.take_length]⟩
  · unfold PySem.stripped
    rw [StrLaws.strSub_toList]
    exact ⟨_, by rw [show stripLo c.cps.contains false x = 0 from rfl, List.drop_zero]⟩
theorem headOf_take (y : Str) : ∃ k, (headOf y).cps.toList = y.cps.toList.take k := by
  have h0 := head0_take y
  unfold headOf
  split
  · exact ⟨_, h0⟩
  · split
    · obtain ⟨k, hk⟩ := rstrip_take (head0 y) (Str.ofString "/")
      exact ⟨_, by rw [hk, h0, List.take_take]⟩
    · exact ⟨_, h0⟩
theorem headOf_len (y : Str) : (headOf y).length ≤ y.length := by
  obtain ⟨k, hk⟩ := headOf_take y
  have h1 : (headOf y).length = (headOf y).cps.toList.length := by simp [Str.length]
  have h2 : y.length = y.cps.toList.length := by simp [Str.length]
  rw [h1, h2, hk, List.length_take]
  exact Nat.min_le_right _ _
theorem headOf_ok {y : Str} (h : PyData.strOk y = true) : PyData.strOk (headOf y) = true := by
  obtain ⟨k, hk⟩ := headOf_take y
  unfold PyData.strOk at h ⊢
  rw [← Array.all_toList] at h ⊢
  rw [hk]
  rw [List.all_eq_true] at h ⊢
  exact fun c hc => h c (List.mem_of_mem_take hc)
end
section
open AutoSeq1 (wpAny_loadPart')
section
variable {prog : Program} {w : World} {A : Around} {E : Value → Shared → Prop} {s : Shared} {I : Addr} {fp wr : List Addr} {G : Array GenState → Array GenState → Prop} {n : Nat} {P : Nat → Value → Prop} {St : Nat → Shared → Prop}
theorem collect_map {Q : List Value → Shared → Prop} (W : WalksS prog w A.in1 I fp wr G n P St) (hT : ∀ i s, St i s → s.TypeIs (.ref I) "map") (hst : St 0 s) (hfp : ∀ b ∈ fp, b < s.heap.objs.size) (hI : I ∈ fp) (hn : n ≤ sizeLine)
    (hQ : ∀ s' acc, Moved wr G s s' → ItemsOf P acc n → Q acc.toList s') : wpAny (model prog w) A (collect (.ref I)) Q E s := by
  have hSf : s.heap.objs.size ∉ fp := fun hm => Nat.lt_irrefl _ (hfp _ hm)
  have hSI : s.heap.objs.size ≠ I := fun e => hSf (e ▸ hI)
  unfold collect
  refine wpAny_bind (wpAny_runValue (codeAny_builtin F.entry_proto_collect ?_))
  rw [Around.under_plainId F.plain_proto_collect _]
  show wpAny _ A.in1 (newList [] >>= fun l => again (.builtin "list.__iadd__" ⟨[l, .ref I], []⟩)) _ _ s
  refine wpAny_bind (wpAny_newObj_type (wpAny_pure ⟨plainId_quiet F.plain_list_iadd _, codeAny_builtin F.entry_list_iadd ?_⟩))
  rw [Around.under_plainId F.plain_list_iadd _]
  have hS₁ : (s.heap.push { cls := .type "list", data := .seq ([] : List Value).toArray }).get? s.heap.objs.size = some { cls := .type "list", data := .seq ([] : List Value).toArray } := Heap.get?_push_size _ rfl
  have up : ∀ b o, s.heap.get? b = some o → (s.heap.push { cls := .type "list", data := .seq ([] : List Value).toArray }).get? b = some o := fun b o e => Heap.get?_push_of_some _ e
  have hst₁ := W.frame 0 s _ s.toks hst (Nat.le_refl _) fun b _ o e => up b o e
  show wpAny _ A.in1 (Builtin.List.listExtendWith (.ref s.heap.objs.size) (.ref I) (.ref s.heap.objs.size)) _ _ _
  unfold Builtin.List.listExtendWith
  refine wpAny_bind (wpAny_typeOf (hT 0 _ hst₁) ?_)
  rw [show Builtin.List.listSameRef (.ref s.heap.objs.size) (.ref I) = false by simp [Builtin.List.listSameRef, hSI], show (Value.type "map" == Value.type "list") = false by decide, show (Value.type "map" == Value.type "tuple") = false by decide]
  simp only [Bool.or_false, Bool.false_eq_true, if_false]
  refine wpAny_bind (W.self 0 _ _ _ hst₁ (wpAny_bind (wpAny_holding ?_)))
  unfold Builtin.List.listLengthHint
  refine wpAny_bind (wpAny_specialOf (hT 0 _ hst₁) map_no_len ?_)
  show wpAny _ A.in1 (specialOf (Value.ref I) (Str.ofString "__length_hint__") >>= _) _ _ _
  refine wpAny_bind (wpAny_specialOf (hT 0 _ hst₁) map_no_hint (wpAny_pure ?_))
  show wpAny _ A.in1 (rule "list.extend.makes-room" >>= fun _ => Builtin.List.listTouch (.ref s.heap.objs.size) >>= fun _ =>
    again (.builtin "list.extend.loop" ⟨[.ref s.heap.objs.size, .ref I, .ref s.heap.objs.size], []⟩)) _ _ _
  refine wpAny_bind (wpAny_rule (wpAny_bind ?_))
  show wpAny _ A.in1 (updateSeq s.heap.objs.size (·.push .none) >>= fun _ => updateSeq s.heap.objs.size (·.pop)) _ _ _
  refine wpAny_bind (wpAny_updateSeq hS₁ rfl ?_)
  have hS₂ := Heap.get?_update_self (Obj.mapSeq (·.push Value.none)) hS₁ rfl
  refine wpAny_updateSeq hS₂ rfl ?_
  have hS₃ := Heap.get?_update_self (Obj.mapSeq (·.pop)) hS₂ rfl
  have oth : ∀ b o, b ≠ s.heap.objs.size → s.heap.get? b = some o →
      (((s.heap.push { cls := .type "list", data := .seq ([] : List Value).toArray }).update s.heap.objs.size (Obj.mapSeq (·.push Value.none))).update s.heap.objs.size (Obj.mapSeq (·.pop))).get? b = some o :=
    fun b o hb e => (Heap.get?_update_other _ _ (Ne.symm hb)).trans ((Heap.get?_update_other _ _ (Ne.symm hb)).trans (up b o e))
  refine wpAny_pure ⟨plainId_quiet F.plain_extend_loop _, codeAny_extend_loopS W hn _ hSf _ n 0 _ _ _ rfl (Nat.zero_le _)
    (W.frame 0 s _ s.toks hst (Nat.le_refl _) fun b hb o e => oth b o (fun h => hSf (h ▸ hb)) e) hS₃ (ItemsOf.nil P) fun s' acc' c' hm hS' hacc => ?_⟩
  show wpAny _ A (load s.heap.objs.size >>= _) _ _ s'
  refine wpAny_bind (wpAny_load hS' (wpAny_pure (hQ s' acc' ⟨fun b o hb e => ?_, hm.gens, hm.drawn, hm.os, hm.toks⟩ hacc)))
  refine hm.heap b o (fun q => ?_) (oth b o (Nat.ne_of_lt (Heap.lt_size e)) e)
  rcases List.mem_cons.mp q with q | q
  · exact absurd (Heap.lt_size e) (by rw [q]; exact Nat.lt_irrefl _)
  · exact hb q
theorem call_tuple_map {Q : Value → Shared → Prop} (W : WalksS prog w A.in1.in1.in1 I fp wr G n P St) (hT : ∀ i s, St i s → s.TypeIs (.ref I) "map") (hst : St 0 s) (hfp : ∀ b ∈ fp, b < s.heap.objs.size) (hI : I ∈ fp) (hsz : n ≤ sizeLine)
    (hQ : ∀ s' acc, Moved wr G s s' → ItemsOf P acc n → Q (.ref s'.heap.objs.size) { s' with heap := s'.heap.push { cls := .type "tuple", data := .seq acc } }) :
    wpAny (model prog w) A (call (.type "tuple") [.ref I]) Q E s := by
  have hnew : codeAny (model prog w) A.in1 (.call (.builtin "tuple.__new__") ⟨[.type "tuple", .ref I], []⟩) (wants (fun obj s₁ => s₁.TypeIs obj "tuple" ∧ Q obj s₁) E) s := by
    refine codeAny_of_tree ?_
    show wpAny _ A.in1.in1 (do checkBuiltinCall "tuple.__new__" ⟨[.type "tuple", .ref I], []⟩; again (.builtin "tuple.__new__" ⟨[.type "tuple", .ref I], []⟩)) _ _ s
    refine wpAny_bind (wpAny_of_eq (F.newCall_tuple_1 _) (wpAny_pure ⟨plainId_quiet F.plain_tuple_new _, codeAny_builtin F.entry_tuple_new ?_⟩))
    rw [Around.under_plainId F.plain_tuple_new _]
    have hsub := sub_tuple_self
    have hinit := init_tuple_lookup
    have hmh := madeHere_tuple
    have hTI := hT 0 s hst
    wp_walk using wpAny_typeOf hTI, collect_map W hT hst hfp hI hsz
    intro s' acc hm hacc
    show wpAny _ _ (Builtin.Tuple.tupleExact acc.toList.toArray >>= fun v => ret v) _ _ _
    unfold Builtin.Tuple.tupleExact
    refine wpAny_bind (wpAny_newObj_type (wpAny_pure ?_) (by show acc.toList.toArray.size ≤ sizeLine; simp only [Array.toArray_toList]; rw [hacc.1]; exact hsz))
    have e : acc.toList.toArray = acc := by simp
    rw [e]
    exact ⟨⟨_, Heap.get?_push_size _ rfl, rfl⟩, hQ s' acc hm hacc⟩
  refine callType_codes (Q₁ := fun obj s₁ => s₁.TypeIs obj "tuple" ∧ Q obj s₁) F.called_tuple (F.typeCall_tuple_1 _) F.entry_object_init hnew fun obj s₁ h₁ => ?_
  exact ⟨h₁.1, F.args_object_init_2 obj _, object_init_meets F.called_tuple.init.lookup F.called_tuple.made (by decide) prog w A.in1 _ s₁ ⟨h₁.1, rfl, h₁.2⟩⟩
end
section
variable {w : World} {mean : ExcName → Option Value} {mg mb : Str → Option Value} {dp un : Nat} {fr : Option (List Env)} {gd : Option (List Code)} {E : Value → Shared → Prop} {s : Shared} {h₀ : Heap} {L : Addr} {m : Str → Option Value} {news : List (Addr × Obj)}
theorem strs_at {vs : List Value} {ys : List Str} (h : StrsAre vs ys) : ∀ (i : Nat) (v : Value), vs[i]? = some v → ∃ y t, v = .str y t := by
  induction h with
  | nil => intro i v e; simp at e
  | cons y t _ ih =>
    intro i v e
    cases i with
    | zero => simp at e; exact ⟨y, t, e.symm⟩
    | succ i => simp at e; exact ih i v e
theorem map_walks (hb : Bs w mean mg mb h₀) {M T It l : Addr} (n1 : It ≠ M) (n2 : It ≠ T) (n3 : It ≠ l) (hI₀ : h₀.get? It = none) {vs : List Value} {ss : List Str} {nn : Nat} (hS : StrsAre vs ss) (h1 : dp + 1 < 900) (h2 : un + 40 < 9000) :
    WalksS PySem.Challenge.rw_pd0052_01.row.prog w (AR dp un fr gd) M (M :: T :: It :: l :: List.range h₀.objs.size) [It] Eq vs.length (fun i v => vs[i]? = some v)
      (fun i s => s.heap.get? M = some (mapObj T (.ref 144)) ∧ s.heap.get? T = some { cls := .type "tuple", data := .seq #[.ref It] } ∧ s.heap.IsListIter It l i ∧ s.heap.get? l = some (W.listOf vs.toArray nn) ∧ Kp h₀ s.heap) where
  sub := fun b hb => by rw [List.mem_singleton.mp hb]; simp
  grefl := fun _ => rfl
  gtrans := fun _ _ _ a b => a.trans b
  frame := fun i s h' tk st _ hk => by
    obtain ⟨a, b, c, d, e⟩ := st
    refine ⟨hk M (by simp) _ a, hk T (by simp) _ b, ?_, hk l (by simp) _ d, fun x o hx => hk x ?_ o (e x o hx)⟩
    · obtain ⟨o, ho, r⟩ := c
      exact ⟨o, hk It (by simp) _ ho, r⟩
    · have := Heap.lt_size hx
      simp only [List.mem_cons, List.mem_range]
      exact .inr (.inr (.inr (.inr this)))
  item := fun i s Q E hi st hQ => by
    obtain ⟨a, b, c, d, e⟩ := st
    obtain ⟨v, hv⟩ : ∃ v, vs[i]? = some v := ⟨vs[i], by simp [hi]⟩
    obtain ⟨y, t, rfl⟩ := strs_at hS i v hv
    refine wpAny_with_toks (Nat.le_refl _) ?_
    refine map_next_item (arr := #[.ref It]) (items := vs.toArray) a rfl b n1 c ⟨_, d, rfl, _, rfl⟩ (by simpa using hv) fun h' hit hs' => ?_
    have k0 : Kp h₀ h' := fun x o hx => (hs'.2 x (fun q => by rw [q, hI₀] at hx; cases hx)).trans (e x o hx)
    refine fspath_spec y t dp (un + 1) fr gd h₀ { s with heap := h' } _ _ (by omega) (by omega) hb k0 trivial ?_
    rintro r h'' tk'' kp rfl htk
    refine hQ _ _ hv ⟨kp _ _ ((hs'.2 M (Ne.symm n1)).trans a), kp _ _ ((hs'.2 T (Ne.symm n2)).trans b), ?_, kp _ _ ((hs'.2 l (Ne.symm n3)).trans d), fun x o hx => kp _ _ (k0 x o hx)⟩ ⟨fun x o hx ex => ?_, rfl, rfl, rfl, htk⟩
    · obtain ⟨o, ho, r⟩ := hit
      exact ⟨o, kp _ _ ho, r⟩
    · exact kp _ _ ((hs'.2 x (fun q => hx (by rw [q]; exact List.mem_singleton.mpr rfl))).trans ex)
  done := fun s Q E st hQ => by
    obtain ⟨a, b, c, d, e⟩ := st
    refine map_next_end (arr := #[.ref It]) (items := vs.toArray) rfl a rfl b c ⟨_, d, rfl, _, rfl⟩ (by simp) fun h' he => ?_
    exact hQ _ ⟨fun x o hx ex => he x o (fun q => hx (by rw [q]; exact List.mem_singleton.mpr rfl)) ex, rfl, rfl, rfl, Nat.le_refl _⟩
  self := fun i s Q E st hQ => map_iter st.1 hQ
theorem map_K {f : Value} {l : Addr} {arr : Array Value} {nn : Nat} {A : Around} {prog : Program} {Q : Value → Shared → Prop} (F : Fr h₀ L s.heap m) (N : News h₀ L s.heap news) (hl : (l, W.listOf arr nn) ∈ news)
    (h : ∀ It T M h', Fr h₀ L h' m → News h₀ L h' ((M, mapObj T f) :: (T, { cls := .type "tuple", data := .seq #[.ref It] }) :: (It, litObj l 0) :: news) → (∀ p ∈ news, p.1 < It) → It < T → T < M → Q (.ref M) { s with heap := h' }) :
    wpAny (model prog w) A (call (.type "map") [f, .ref l]) Q E s := by
  refine call_map (N _ hl).1 ?_
  have N1 := News.push F N (litObj l 0)
  have F1 := F.push (litObj l 0)
  have N2 := News.push F1 N1 { cls := .type "tuple", data := .seq #[.ref s.heap.objs.size] }
  have F2 := F1.push { cls := .type "tuple", data := .seq #[.ref s.heap.objs.size] }
  have N3 := News.push F2 N2 (mapObj (s.heap.objs.size + 1) f)
  have F3 := F2.push (mapObj (s.heap.objs.size + 1) f)
  simp only [Heap.size_push] at N3 N2 F3
  exact h _ _ _ _ F3 N3 (fun p hp => Heap.lt_size (N p hp).1) (Nat.lt_succ_self _) (Nat.lt_succ_self _)
theorem tupleMap_K {M T It l : Addr} {vs : List Value} {ss : List Str} {nn : Nat} {rest : List (Addr × Obj)} {Q : Value → Shared → Prop} (F : Fr h₀ L s.heap m) (X : (kF w.params).In h₀) (TT : Top vw (looseW vw []) mean mg mb h₀)
    (N : News h₀ L s.heap ((M, mapObj T (.ref 144)) :: (T, { cls := .type "tuple", data := .seq #[.ref It] }) :: (It, litObj l 0) :: rest)) (hl : (l, W.listOf vs.toArray nn) ∈ rest) (hS : StrsAre vs ss) (hr : ∀ p ∈ rest, p.1 < It) (l1 : It < T) (l2 : T < M) (hsz : vs.length ≤ sizeLine)
    (h1 : dp + 1 < 900) (h2 : un + 50 < 9000)
    (h : ∀ D h' tk', Fr h₀ L h' m → News h₀ L h' ((D, { cls := .type "tuple", data := .seq vs.toArray }) :: rest) → (∀ p ∈ rest, p.1 < D) → Q (.ref D) { s with heap := h', toks := tk' }) :
    wpAny (model PySem.Challenge.rw_pd0052_01.row.prog w) (AR dp un fr gd) (call (.type "tuple") [.ref M]) Q E s := by
  have gM := N _ (.head _)
  have gT := N _ (.tail _ (.head _))
  have gI := N _ (.tail _ (.tail _ (.head _)))
  have gl := N _ (.tail _ (.tail _ (.tail _ hl)))
  have nl : l < It := hr _ hl
  have W := map_walks (fr := fr) (gd := gd) (dp := dp) (un := un + 1 + 1 + 1) ⟨X, TT⟩ (M := M) (T := T) (It := It) (l := l) (Nat.ne_of_lt (Nat.lt_trans l1 l2)) (Nat.ne_of_lt l1) (Ne.symm (Nat.ne_of_lt nl)) gI.2.2 (nn := nn) hS h1 (by omega)
  refine call_tuple_map (A := AR dp un fr gd) W (fun i s st => ⟨_, st.1, rfl⟩) ⟨gM.1, gT.1, ⟨_, gI.1, rfl, rfl⟩, gl.1, F.keep⟩ ?_ (by simp) hsz ?_
  · intro b hb
    simp only [List.mem_cons, List.mem_range] at hb
    rcases hb with rfl | rfl | rfl | rfl | hb
    · exact Heap.lt_size gM.1
    · exact Heap.lt_size gT.1
    · exact Heap.lt_size gI.1
    · exact Heap.lt_size gl.1
    · exact Nat.lt_trans (Nat.lt_of_lt_of_le hb F.above) F.ns.lt
  · intro s' acc hm hacc
    obtain ⟨hp, g, d, tk, os⟩ := s'
    obtain ⟨k1, k2, k3, k4, k5⟩ := hm
    simp only at k1 k2 k3 k4 k5
    subst k2; subst k3; subst k4
    have ea : acc = vs.toArray := by
      apply Array.ext (by rw [hacc.1]; simp)
      intro i h1 h2
      have := hacc.2 i acc[i] (by simp [h1])
      have h3 : i < vs.length := by simpa using h2
      simp only [List.getElem?_eq_getElem h3, Option.some.injEq] at this
      simpa using this.symm
    rw [ea]
    have F' : Fr h₀ L hp m := LCg.fr_but F k1 (Ne.symm gI.2.1) gI.2.2
    have N' : News h₀ L hp rest := fun p hp' => by
      have z := N p (.tail _ (.tail _ (.tail _ hp')))
      exact ⟨k1 _ _ (fun q => by have := hr p hp'; rw [List.mem_singleton.mp q] at this; exact Nat.lt_irrefl _ this) z.1, z.2⟩
    exact h _ _ _ (F'.push _) (News.push F' N' _) (fun p hp' => Heap.lt_size (N' p hp').1)
end
end
section
variable {prog : Program} {w : World} {A : Around} {E : Value → Shared → Prop} {s : Shared} {env : Env} {h₀ : Heap} {x : Str} {body : List Stmt} {Q : Flow → Shared → Prop}
/-- a turn's end -/
def TEnd (h₀ : Heap) (L : Addr) (s : Shared) (I : Addr) (oI : Obj) (J : (Str → Option Value) → List (Addr × Obj) → Prop) (s₂ : Shared) : Prop :=
  ∃ h' tk' m' led', s₂ = { s with heap := h', toks := tk' } ∧ Fr h₀ L h' m' ∧ News h₀ L h' ((I, oI) :: led') ∧ AllNe I led' ∧ J m' led'
def TPost (h₀ : Heap) (L : Addr) (s : Shared) (I : Addr) (oI : Obj) (J : (Str → Option Value) → List (Addr × Obj) → Prop) (Q : Flow → Shared → Prop) (f : Flow) (s₂ : Shared) : Prop :=
  match f with
  | .ret v => Q (.ret v) s₂
  | .brk => Q .next s₂
  | _ => TEnd h₀ L s I oI J s₂
theorem TEnd.mk {L : Addr} {I : Addr} {oI : Obj} {J : (Str → Option Value) → List (Addr × Obj) → Prop} {h' : Heap} {tk' : Nat} {m' : Str → Option Value} {all : List (Addr × Obj)} (led' : List (Addr × Obj))
    (F : Fr h₀ L h' m') (N : News h₀ L h' all) (sub : ∀ p ∈ (I, oI) :: led', p ∈ all) (off : AllNe I led') (hJ : J m' led') : TEnd h₀ L s I oI J { s with heap := h', toks := tk' } := ⟨h', tk', m', led', rfl, F, fun p hp => N p (sub p hp), off, hJ⟩
theorem allNe_mem {d : Addr} {l : List (Addr × Obj)} (h : AllNe d l) : ∀ p ∈ l, p.1 ≠ d := (allNe_iff l).mp h
theorem iter_gen {I : Addr} {more : List Addr} {n : Nat} {P : Nat → Value → Prop} {St : Nat → Heap → Prop} {m₀ : Str → Option Value} {news : List (Addr × Obj)} (J : Nat → (Str → Option Value) → List (Addr × Obj) → Prop)
    (W : Walks prog w A I (I :: more) [I] n P St) (hIo : ∀ i h, St i h → ∃ o, h.get? I = some o) (hL : env.locals ≠ I) (hLm : env.locals ∉ more) (hI₀ : h₀.get? I = none) (hnI : ∀ p ∈ news, p.1 ≠ I)
    (hmore : ∀ b ∈ more, ∃ ob, ∀ i m led, J i m led → (b, ob) ∈ led ∨ h₀.get? b = some ob)
    (hst : St 0 s.heap) (F : Fr h₀ env.locals s.heap m₀) (N : News h₀ env.locals s.heap news) (hj : J 0 m₀ news)
    (turn : ∀ i v m₁ led oI h tk, i < n → P i v → J i m₁ led → AllNe I led → Fr h₀ env.locals h (fun y => if y = x then some v else m₁ y) → News h₀ env.locals h ((I, oI) :: led) →
      wpAny (model prog w) A (execs body env) (TPost h₀ env.locals s I oI (J (i + 1)) Q) E { s with heap := h, toks := tk })
    (done : ∀ m₁ led h tk, J n m₁ led → Fr h₀ env.locals h m₁ → News h₀ env.locals h led → Q .next { s with heap := h, toks := tk }) :
    LoopAtV prog w A h₀ env x body Q E (.ref I) s := by
  refine ⟨I, I :: more, [I], n, P, St, m₀, news, J, rfl, W, ?_, ?_, ?_, hst, F, N, hj, ?_, ?_⟩
  · intro hm
    rcases List.mem_cons.mp hm with e | hm
    · exact hL e
    · exact hLm hm
  · intro b hb; rw [List.mem_singleton.mp hb]; exact hI₀
  · intro p hp hm; exact hnI p hp (List.mem_singleton.mp hm)
  · rintro i v m₁ news₁ s₁ own ⟨h, tk, rfl⟩ hi hP hJ hoff hown hget hall hst₁ F₁ N₁
    obtain ⟨oI, hoI⟩ := hIo _ _ hst₁
    have hIown : (I, oI) ∈ own := hall I List.mem_cons_self hI₀ oI hoI
    have hne : AllNe I news₁ := allNe_of fun p hp e => hoff p hp (by rw [e]; exact List.mem_singleton.mpr rfl)
    refine wpAny_mono (turn i v m₁ news₁ oI h tk hi hP hJ hne F₁ fun p hp => ?_) (fun f s₂ hf => ?_) fun _ _ e => e
    · rcases List.mem_cons.mp hp with rfl | hp
      · exact N₁ _ (List.mem_append_left _ hIown)
      · exact N₁ _ (List.mem_append_right _ hp)
    · have fin : TEnd h₀ env.locals s I oI (J (i + 1)) s₂ → LoopStepU h₀ env.locals [I] own (J (i + 1)) { s with heap := h, toks := tk } .next s₂ := by
        rintro ⟨h', tk', m', led', rfl, F', N', off', hJ'⟩
        refine ⟨rfl, h', tk', m', led', rfl, F', fun p hp => ?_, fun p hp hm => allNe_mem off' p hp (List.mem_singleton.mp hm), hJ'⟩
        rcases List.mem_append.mp hp with hp | hp
        · have hg := hget p hp
          rcases List.mem_cons.mp (hown p hp) with e | hm
          · have : p = (I, oI) := by
              obtain ⟨p1, p2⟩ := p
              simp only at e hg
              subst e
              rw [hoI] at hg
              cases hg; rfl
            rw [this]; exact N' _ List.mem_cons_self
          · obtain ⟨ob, hk⟩ := hmore p.1 hm
            rcases hk _ _ _ hJ with k1 | k1
            · have := (N₁ _ (List.mem_append_right own k1)).1
              simp only at hg this
              rw [this] at hg; cases hg
              rcases hk _ _ _ hJ' with k2 | k2
              · exact N' _ (List.mem_cons_of_mem _ k2)
              · have := (N₁ _ (List.mem_append_right own k1)).2.2
                rw [k2] at this; cases this
            · have := (N₁ _ (List.mem_append_left news₁ hp)).2.2
              rw [k1] at this; cases this
        · exact N' _ (List.mem_cons_of_mem _ hp)
      cases f with
      | ret v => exact .ret hf
      | brk => exact .brk hf
      | next => exact .next (fin hf)
      | cont => exact .cont (fin hf)
  · rintro h' tk m' news' F' N' _ hJ
    exact done m' news' h' tk hJ F' N'
/-- a for over a list of the ledger's -/
theorem for_led {l : Addr} {arr : Array Value} {nn : Nat} {m₀ : Str → Option Value} {news : List (Addr × Obj)} (J : Nat → (Str → Option Value) → List (Addr × Obj) → Prop)
    (hh : A.handled = none) (F : Fr h₀ env.locals s.heap m₀) (N : News h₀ env.locals s.heap news) (hl : (l, W.listOf arr nn) ∈ news) (hk : ∀ i m led, J i m led → (l, W.listOf arr nn) ∈ led) (hj : J 0 m₀ news)
    (turn : ∀ I i v m₁ led oI h tk, arr[i]? = some v → J i m₁ led → AllNe I led → Fr h₀ env.locals h (fun y => if y = x then some v else m₁ y) → News h₀ env.locals h ((I, oI) :: led) →
      wpAny (model prog w) A (execs body env) (TPost h₀ env.locals s I oI (J (i + 1)) Q) E { s with heap := h, toks := tk })
    (done : ∀ m₁ led h tk, J arr.size m₁ led → Fr h₀ env.locals h m₁ → News h₀ env.locals h led → Q .next { s with heap := h, toks := tk }) :
    wpAny (model prog w) A (pyIter (.ref l)) (fun it s₂ => LoopAtV prog w A h₀ env x body Q E it s₂) E s := by
  have hls : s.heap.IsList l arr := News.isList N hl
  have hget := (N _ hl).1
  have hne : l ≠ s.heap.objs.size := Nat.ne_of_lt (Heap.lt_size hget)
  refine wpAny_pyIter_list hls ?_
  refine iter_gen (more := [l]) J (Walks.list hh s.heap.objs.size l hne arr) (fun i h st => let ⟨o, e, _⟩ := st.1; ⟨o, e⟩) (Nat.ne_of_lt F.ns.lt) (fun hm => (N _ hl).2.1 (List.mem_singleton.mp hm).symm) (next_is_new F)
    (fun p hp => Nat.ne_of_lt (Heap.lt_size (N p hp).1)) ?_ ⟨⟨_, Heap.get?_push_size _ rfl, rfl, rfl⟩, hls.push _⟩ (F.push _) (fun p hp => ⟨Heap.get?_push_of_some _ (N p hp).1, (N p hp).2⟩) hj ?_ ?_
  · intro b hb
    rw [List.mem_singleton.mp hb]
    exact ⟨_, fun i m led h => .inl (hk i m led h)⟩
  · intro i v m₁ led oI h tk _ hP hJ hoff F₁ N₁
    exact turn _ i v m₁ led oI h tk hP hJ hoff F₁ N₁
  · intro m₁ led h tk hJ F₁ N₁
    exact done m₁ led h tk hJ F₁ N₁
/-- a for over a range -/
theorem for_range {r : Addr} {a₀ b₀ : Int} {t₀ u₀ v₀ : Tok} {n : Nat} {m₀ : Str → Option Value} {news : List (Addr × Obj)} (J : Nat → (Str → Option Value) → List (Addr × Obj) → Prop)
    (hh : A.handled = none) (hr : IsRange s.heap r a₀ b₀ 1 t₀ u₀ v₀) (hsmall : Builtin.Range.small a₀ b₀ 1 = true) (hn : Builtin.Range.rangeSize a₀ b₀ 1 = (n : Int)) (F : Fr h₀ env.locals s.heap m₀) (N : News h₀ env.locals s.heap news) (hj : J 0 m₀ news)
    (turn : ∀ I (i : Nat) t m₁ led oI h tk, i < n → J i m₁ led → AllNe I led → Fr h₀ env.locals h (fun y => if y = x then some (.int (a₀ + (i : Int)) t) else m₁ y) → News h₀ env.locals h ((I, oI) :: led) →
      wpAny (model prog w) A (execs body env) (TPost h₀ env.locals s I oI (J (i + 1)) Q) E { s with heap := h, toks := tk })
    (done : ∀ m₁ led h tk, J n m₁ led → Fr h₀ env.locals h m₁ → News h₀ env.locals h led → Q .next { s with heap := h, toks := tk }) :
    wpAny (model prog w) A (pyIter (.ref r)) (fun it s₂ => LoopAtV prog w A h₀ env x body Q E it s₂) E s := by
  refine wpAny_pyIter_range hr hsmall ?_
  have W : Walks prog w A s.heap.objs.size [s.heap.objs.size] [s.heap.objs.size] n (fun i v => ∃ t, v = .int (a₀ + i * 1) t)
      (fun i h => IsRangeIter h s.heap.objs.size (a₀ + (i : Nat) * 1) ((n : Int) - (i : Nat)) 1) := Walks.range hh _ a₀ 1 n
  refine iter_gen (more := []) J W (fun i h st => ⟨_, st⟩) (Nat.ne_of_lt F.ns.lt) (fun h => nomatch h) (next_is_new F) (fun p hp => Nat.ne_of_lt (Heap.lt_size (N p hp).1)) (fun b hb => nomatch hb)
    (by show IsRangeIter _ _ _ _ _; rw [hn]; simpa using Heap.get?_push_size _ rfl) (F.push _) (fun p hp => ⟨Heap.get?_push_of_some _ (N p hp).1, (N p hp).2⟩) hj ?_ ?_
  · rintro i v m₁ led oI h tk hi ⟨t, rfl⟩ hJ hoff F₁ N₁
    rw [show a₀ + (i : Int) * 1 = a₀ + (i : Int) by omega] at F₁
    exact turn _ i t m₁ led oI h tk hi hJ hoff F₁ N₁
  · intro m₁ led h tk hJ F₁ N₁
    exact done m₁ led h tk hJ F₁ N₁
end
structure NoH : Prop where
local macro_rules | `(tactic| walk_at "exec While Compare cons nil") => `(tactic| ((fail_if_success (have nh9 : NoH := by assumption)); refine Hold.out ?_))
local macro_rules | `(tactic| walk_at "exec For Name Name cons nil") => `(tactic| ((fail_if_success (have nh9 : NoH := by assumption)); refine Hold.out ?_))
local macro_rules | `(tactic| walk_at "exec For Name Call cons nil") => `(tactic| ((fail_if_success (have nh9 : NoH := by assumption)); refine Hold.out ?_))
local macro_rules | `(tactic| walk_at "exec For Name Subscript cons nil") => `(tactic| ((fail_if_success (have nh9 : NoH := by assumption)); refine Hold.out ?_))
local macro_rules | `(tactic| walk_at "pyIter ref") => `(tactic| ((with_reducible show wpAny _ _ (pyIter (Value.ref _)) (fun it s₂ => LoopAtV _ _ _ _ _ _ _ _ _ it s₂) _ _); refine Hold.out ?_))
local macro_rules | `(tactic| walk_at "TPost") => `(tactic| dsimp only [TPost])
/-- a turn's end inside a block: iterator, block frame and result list as they were -/
def CEnd (h₀ : Heap) (L : Addr) (m : Str → Option Value) (s : Shared) (I : Addr) (oI : Obj) (C : Addr) (oC : Obj) (D : Addr) (oD : Obj) (G : List (Addr × Obj) → Prop) (s₂ : Shared) : Prop :=
  ∃ h' tk led', s₂ = { s with heap := h', toks := tk } ∧ Fr h₀ L h' m ∧ News h₀ L h' ((I, oI) :: (C, oC) :: (D, oD) :: led') ∧ LCg.Off3 I C D led' ∧ G led'
theorem CEnd.mk {h₀ : Heap} {L I C D : Addr} {m : Str → Option Value} {s : Shared} {oI oC oD : Obj} {G : List (Addr × Obj) → Prop} {h' : Heap} {tk : Nat} {all : List (Addr × Obj)} (led' : List (Addr × Obj))
    (F : Fr h₀ L h' m) (N : News h₀ L h' all) (sub : ∀ p ∈ (I, oI) :: (C, oC) :: (D, oD) :: led', p ∈ all) (off : LCg.Off3 I C D led') (hG : G led') : CEnd h₀ L m s I oI C oC D oD G { s with heap := h', toks := tk } :=
  ⟨h', tk, led', rfl, F, fun p hp => N p (sub p hp), off, hG⟩
abbrev tupO (arr : Array Value) : Obj := { cls := .type "tuple", data := .seq arr }
abbrev lst (ys : List Value) : Obj := W.listOf ys.toArray ys.length
/-- one turn of a block -/
def CTurn (prog : Program) (w : World) (A : Around) (h₀ : Heap) (L : Addr) (m : Str → Option Value) (env : Env) (elt : Expr) (ifs : List Expr) (x : Str) (scope : Scope) (cl : List (Str × Addr)) (s : Shared) (P : Nat → Value → Prop)
    (Inv : Nat → List Value → List (Addr × Obj) → Prop) (i : Nat) : Prop :=
  ∀ v I oI C oC D m₂ ys led h tk (E' : Value → Shared → Prop), P i v → Inv i ys led → LCg.NsObj oC m₂ → m₂ x = some v → Fr h₀ L h m → News h₀ L h ((I, oI) :: (C, oC) :: (D, lst ys) :: led) → LCg.Off3 I C D led → ((@Ne Nat I C) ∧ (@Ne Nat I D) ∧ (@Ne Nat C D)) →
    wpAny (model prog w) A (forIn ifs true fun c r => if r = true then do let ok ← isTrue c (compEnvC scope cl C env) (eval c (compEnvC scope cl C env)); pure (ForInStep.yield ok) else pure (ForInStep.yield r))
      (fun ok s₃ => if ok = true then wpAny (model prog w) A (eval elt (compEnvC scope cl C env)) (fun y s₄ => CEnd h₀ L m s I oI C oC D (lst ys) (fun led' => Inv (i + 1) (ys ++ [y]) led') s₄) E' s₃
        else CEnd h₀ L m s I oI C oC D (lst ys) (fun led' => Inv (i + 1) ys led') s₃) E' { s with heap := h, toks := tk }
section
variable {prog : Program} {w : World} {A : Around} {E : Value → Shared → Prop} {s : Shared} {h₀ : Heap} {L : Addr} {m : Str → Option Value} {env : Env}
theorem comp_block {elt iter : Expr} {ifs : List Expr} {x : Str} {px : Pos} {scope : Scope} {cl : List (Str × Addr)} {pos : Pos} {s₂ : Shared} {I : Addr} {fp : List Addr} {n : Nat} {P : Nat → Value → Prop} {St : Nat → Heap → Prop} {news : List (Addr × Obj)}
    {Inv : Nat → List Value → List (Addr × Obj) → Prop} {RR : Value → Addr → Result → Shared → Prop}
    (W : Walks prog w A I fp [I] n P St) (hsz : n ≤ sizeLine) (hIo : ∀ i h, St i h → ∃ o, h.get? I = some o)
    (hSt : ∀ i h h' o led ys j, St i h → h.get? I = some o → h'.get? I = some o → (∀ b o, h₀.get? b = some o → h'.get? b = some o) → News h₀ L h' led → Inv j ys led → St i h')
    (hcell : ∀ y ∈ scope.names, y.2 ≠ .cell) (hkind : scope.kind = .function) (hx : scope.names.lookup x = some .local) (hst : St 0 s₂.heap) (hfp : ∀ b ∈ fp, b < s₂.heap.objs.size)
    (F : Fr h₀ L s₂.heap m) (N : News h₀ L s₂.heap news) (hIL : L ≠ I) (hI₀ : h₀.get? I = none) (off : ∀ p ∈ news, p.1 ≠ I) (hinv : Inv 0 [] news)
    (turn : ∀ i, i < n → CTurn prog w A h₀ L m env elt ifs x scope cl s₂ P Inv i)
    (hRR : ∀ D C h tk m' ys led, Fr h₀ L h m → News h₀ L h ((D, lst ys) :: led) → LCg.Off1 D led → h.Ns C m' → h₀.get? C = none → h₀.get? D = none → C ≠ L → D ≠ L → C ≠ D → (∀ p ∈ led, p.1 ≠ C) → Inv n ys led → RR (.ref D) C (.ok .next) { s₂ with heap := h, toks := tk }) :
    wpAny (model prog w) A (newList []) (fun acc s₃ => wpAny (model prog w) A (newFunctionEnv scope env.globals cl [] env.qual none .none (some env)) (fun cenv s₄ =>
      codeAny (model prog w) A (.compStart (.ListComp elt [⟨.Name x px, iter, ifs, 0⟩] scope pos) 0 (.ref I) acc { cenv with scope := relabel scope env }) (RR acc cenv.locals) s₄) E s₃) E s₂ := by
  refine wpAny_newObj_type (wpAny_newFunctionEnv hcell (by intro y hy; simp at hy) (fun h₁ hns₁ hsb₁ => ?_) hkind)
  dsimp only at hns₁ hsb₁ ⊢
  generalize hH2 : s₂.heap.push { cls := .type "list", dict := none, data := .seq ([] : List Value).toArray } = H2 at hns₁ hsb₁ ⊢
  have hC : H2.objs.size = s₂.heap.objs.size + 1 := by rw [← hH2, Heap.size_push]
  have old : Kp s₂.heap h₁ := fun b o e => hsb₁.extBut b o (neN (by have := ltN (Heap.lt_size e); omega)) (Heap.get?_push_of_some _ (hH2 ▸ Heap.get?_push_of_some _ e))
  have hacc : h₁.get? s₂.heap.objs.size = some (lst []) := hsb₁.extBut _ _ (neN (by omega)) (Heap.get?_push_of_some _ (hH2 ▸ Heap.get?_push_size _ rfl))
  have hIlt : @LT.lt Nat _ I s₂.heap.objs.size := hfp I (W.sub I (List.mem_singleton.mpr rfl))
  have hst₁ : St 0 h₁ := W.frame _ _ _ hst fun b _ o e => old b o e
  have fresh₀ : ∀ a : Nat, s₂.heap.objs.size ≤ a → h₀.get? a = none := fun a ha => by
    cases e : h₀.get? a with
    | none => rfl
    | some o' => have := ltN (Heap.lt_size (F.keep a o' e)); omega
  have hD₀ : h₀.get? s₂.heap.objs.size = none := fresh₀ _ (Nat.le_refl _)
  have hC₀ : h₀.get? H2.objs.size = none := fresh₀ _ (by omega)
  have hLlt : @LT.lt Nat _ L s₂.heap.objs.size := F.ns.lt
  have hCL : H2.objs.size ≠ L := neN (by omega)
  have hDL : s₂.heap.objs.size ≠ L := neN (by omega)
  have ne : (@Ne Nat I H2.objs.size) ∧ (@Ne Nat I s₂.heap.objs.size) ∧ (@Ne Nat H2.objs.size s₂.heap.objs.size) := ⟨by omega, by omega, by omega⟩
  have off₀ : LCg.Off3 I H2.objs.size s₂.heap.objs.size news := LCg.Off3.of fun p hp => by
    have := ltN (Heap.lt_size (N p hp).1)
    exact ⟨off p hp, neN (by omega), neN (by omega)⟩
  have loop : ∀ s₃ : Shared, s₃ = { s₂ with heap := h₁, toks := s₂.toks + ([] : List (Str × Value)).length } →
      codeAny (model prog w) A (.compLoop (.ListComp elt [⟨.Name x px, iter, ifs, 0⟩] scope pos) 0 (.ref I) (.ref s₂.heap.objs.size) (compEnvC scope cl H2.objs.size env)) (RR (.ref s₂.heap.objs.size) H2.objs.size) s₃ := by
    rintro s₃ rfl
    refine codeAny_compLoop_tests
      (fun k s' => ∃ h' tk i ys m' led, s' = { s₂ with heap := h', toks := tk } ∧ i ≤ n ∧ k = n + 1 - i ∧ ys.length ≤ i ∧ St i h' ∧ Fr h₀ L h' m ∧ h'.Ns H2.objs.size m' ∧ News h₀ L h' ((s₂.heap.objs.size, lst ys) :: led) ∧
        LCg.Off3 I H2.objs.size s₂.heap.objs.size led ∧ Inv i ys led) ?_ (n + 1)
      ⟨h₁, _, 0, [], _, news, rfl, Nat.zero_le _, rfl, Nat.le_refl _, hst₁, F.keeps old, hns₁, fun p hp => ?_, off₀, hinv⟩
    · rintro k s' ⟨h', tk, i, ys, m', led, rfl, hi, rfl, hyl, hst', F', hn', N', off', hinv'⟩
      have off3 := off'.mem
      by_cases hlt : i < n
      · refine W.item i _ _ _ hlt hst' fun v h₂ tk₂ hPv hst₂ hk₂ => ?_
        refine wpAny_assign_Name (wpAny_storeName_local (lookup_relabel_local hx) (hn'.at' fun o e => hk₂ _ o (by simpa using Ne.symm ne.1) e) (fun h₃ hn₃ hs₃ => ?_) (by simp [compEnvC, relabel, hkind]))
        have hst₃ : St (i + 1) h₃ := W.frame _ _ _ hst₂ fun b hb o e => hs₃.extBut b o (fun q => by have := ltN (hfp b hb); have q' : @Eq Nat b H2.objs.size := q; omega) e
        obtain ⟨oI, heI⟩ := hIo _ _ hst₃
        obtain ⟨oC, heC, hoC⟩ := LCg.ns_obj hn₃
        have F₃ : Fr h₀ L h₃ m := (LCg.fr_but F' hk₂ hIL hI₀).change hs₃ hCL hC₀
        have N₂ : News h₀ L h₂ ((s₂.heap.objs.size, lst ys) :: led) := LCg.news_but N' hk₂ fun p hp => by
          rcases List.mem_cons.mp hp with rfl | hp
          · exact Ne.symm ne.2.1
          · exact (off3 p hp).1
        have N₃ : News h₀ L h₃ ((I, oI) :: (H2.objs.size, oC) :: (s₂.heap.objs.size, lst ys) :: led) := fun p hp => by
          rcases List.mem_cons.mp hp with rfl | hp
          · exact ⟨heI, Ne.symm hIL, hI₀⟩
          · rcases List.mem_cons.mp hp with rfl | hp
            · exact ⟨heC, hCL, hC₀⟩
            · have z := N₂ p hp
              refine ⟨hs₃.extBut _ _ ?_ z.1, z.2⟩
              rcases List.mem_cons.mp hp with rfl | hp
              · exact Ne.symm ne.2.2
              · exact (off3 p hp).2.1
        refine wpAny_mono (turn i hlt v I oI H2.objs.size oC s₂.heap.objs.size _ ys led h₃ _ _ hPv hinv' hoC (by simp) F₃ N₃ off' ne) (fun ok s₄ h₄ => ?_) fun _ _ e => e
        cases ok with
        | false =>
          simp only [Bool.false_eq_true, if_false] at h₄ ⊢
          obtain ⟨h₄, tk₄, led₄, rfl, F₄, N₄, off₄, hinv₄⟩ := h₄
          have zI := (N₄ (I, oI) List.mem_cons_self).1
          have zC := (N₄ (H2.objs.size, oC) (List.mem_cons_of_mem _ List.mem_cons_self)).1
          have N₄' : News h₀ L h₄ led₄ := fun p hp => N₄ p (List.mem_cons_of_mem _ (List.mem_cons_of_mem _ (List.mem_cons_of_mem _ hp)))
          exact ⟨n + 1 - (i + 1), by omega, h₄, tk₄, i + 1, ys, _, led₄, rfl, hlt, rfl, by omega, hSt _ _ _ _ _ _ _ hst₃ heI zI F₄.keep N₄' hinv₄, F₄, hoC.ns zC, fun p hp => N₄ p (List.mem_cons_of_mem _ (List.mem_cons_of_mem _ hp)), off₄, hinv₄⟩
        | true =>
          simp only [if_true] at h₄ ⊢
          refine wpAny_mono h₄ (fun y s₅ h₅ => ?_) fun _ _ e => e
          obtain ⟨h₄, tk₄, led₄, rfl, F₄, N₄, off₄, hinv₄⟩ := h₅
          have zI := (N₄ (I, oI) List.mem_cons_self).1
          have zC := (N₄ (H2.objs.size, oC) (List.mem_cons_of_mem _ List.mem_cons_self)).1
          have zD := (N₄ (s₂.heap.objs.size, lst ys) (List.mem_cons_of_mem _ (List.mem_cons_of_mem _ List.mem_cons_self))).1
          have N₄' : News h₀ L h₄ led₄ := fun p hp => N₄ p (List.mem_cons_of_mem _ (List.mem_cons_of_mem _ (List.mem_cons_of_mem _ hp)))
          have hst₄ : St (i + 1) h₄ := hSt _ _ _ _ _ _ _ hst₃ heI zI F₄.keep N₄' hinv₄
          refine append_at (hsz := by show ys.toArray.size ≤ sizeLine; rw [List.size_toArray]; omega) zD fun h₆ hs₆ hD₆ => ?_
          have off4 := off₄.mem
          refine ⟨n + 1 - (i + 1), by omega, h₆, tk₄, i + 1, ys ++ [y], _, led₄, rfl, hlt, rfl, by rw [List.length_append, List.length_singleton]; omega, W.frame _ _ _ hst₄ fun b hb o e => hs₆.extBut b o (fun q => by have := ltN (hfp b hb); have q' : @Eq Nat b s₂.heap.objs.size := q; omega) e, F₄.change hs₆ hDL hD₀,
            (hoC.ns zC).sameBut hs₆ (neN ne.2.2), fun p hp => ?_, off₄, hinv₄⟩
          rcases List.mem_cons.mp hp with rfl | hp
          · exact ⟨hD₆.trans (congrArg some (LCg.lst_snoc ys y)), hDL, hD₀⟩
          · exact ⟨hs₆.extBut _ _ (off4 p hp).2.2 (N₄' p hp).1, (N₄' p hp).2⟩
      · obtain rfl : i = n := Nat.le_antisymm hi (Nat.not_lt.mp hlt)
        refine W.done _ _ _ hst' fun h₂ tk₂ hk₂ => ?_
        exact hRR _ _ h₂ tk₂ _ ys led (LCg.fr_but F' hk₂ hIL hI₀) (LCg.news_but N' hk₂ fun p hp => by
          rcases List.mem_cons.mp hp with rfl | hp
          · exact Ne.symm ne.2.1
          · exact (off3 p hp).1) off'.one (hn'.at' fun o e => hk₂ _ o (by simpa using Ne.symm ne.1) e) hC₀ hD₀ hCL hDL ne.2.2 (fun p hp => (off3 p hp).2.1) hinv'
    · rcases List.mem_cons.mp hp with rfl | hp
      · exact ⟨hacc, hDL, hD₀⟩
      · exact ⟨old _ _ (N p hp).1, (N p hp).2⟩
  exact codeAny_compStart_list (loop _ rfl) (W.self 0 _ _ _ hst₁ (loop _ rfl))
/-- the block's source, its word, its turns, what is wanted behind it -/
def CSrc (prog : Program) (w : World) (A : Around) (h₀ : Heap) (L : Addr) (m : Str → Option Value) (env : Env) (elt : Expr) (ifs : List Expr) (x : Str) (scope : Scope) (cl : List (Str × Addr)) (Fin : Shared → List Value → List (Addr × Obj) → Prop) (xv : Value) (s₁ : Shared) : Prop :=
  (∃ (ax : Addr) (arr : Array Value) (led : List (Addr × Obj)) (Inv : Nat → List Value → List (Addr × Obj) → Prop), xv = .ref ax ∧ A.handled = none ∧ Fr h₀ L s₁.heap m ∧ News h₀ L s₁.heap led ∧ LCg.SrcAt h₀ ax arr led ∧ arr.size ≤ sizeLine ∧ Inv 0 [] led ∧ (∀ i ys led, Inv i ys led → LCg.SrcAt h₀ ax arr led) ∧
    ∀ s₂ : Shared, (∃ h, s₂ = { s₁ with heap := h }) → (∀ i, i < arr.size → CTurn prog w A h₀ L m env elt ifs x scope cl s₂ (fun i v => arr[i]? = some v) Inv i) ∧ ∀ ys led, Inv arr.size ys led → Fin s₂ ys led) ∨
  (∃ (r : Addr) (a b : Int) (t u v : Tok) (n : Nat) (led : List (Addr × Obj)) (Inv : Nat → List Value → List (Addr × Obj) → Prop), xv = .ref r ∧ A.handled = none ∧ Fr h₀ L s₁.heap m ∧ News h₀ L s₁.heap led ∧ IsRange s₁.heap r a b 1 t u v ∧ Builtin.Range.small a b 1 = true ∧ Builtin.Range.rangeSize a b 1 = ((n : Nat) : Int) ∧ n ≤ sizeLine ∧ Inv 0 [] led ∧
    ∀ s₂ : Shared, (∃ h, s₂ = { s₁ with heap := h }) → (∀ i, i < n → CTurn prog w A h₀ L m env elt ifs x scope cl s₂ (fun i v => ∃ t, v = .int (a + (i : Int)) t) Inv i) ∧ ∀ ys led, Inv n ys led → Fin s₂ ys led) ∨
  (∃ (ax : Addr) (arr : Array Value) (led : List (Addr × Obj)) (Inv : Nat → List Value → List (Addr × Obj) → Prop), xv = .ref ax ∧ A.handled = none ∧ Fr h₀ L s₁.heap m ∧ News h₀ L s₁.heap led ∧ (ax, tupO arr) ∈ led ∧ arr.size ≤ sizeLine ∧ Inv 0 [] led ∧ (∀ i ys led, Inv i ys led → (ax, tupO arr) ∈ led) ∧
    ∀ s₂ : Shared, (∃ h, s₂ = { s₁ with heap := h }) → (∀ i, i < arr.size → CTurn prog w A h₀ L m env elt ifs x scope cl s₂ (fun i v => arr[i]? = some v) Inv i) ∧ ∀ ys led, Inv arr.size ys led → Fin s₂ ys led)
theorem csrc_tup {elt : Expr} {ifs : List Expr} {x : Str} {scope : Scope} {cl : List (Str × Addr)} {Fin : Shared → List Value → List (Addr × Obj) → Prop} {ax : Addr} {arr : Array Value} {led : List (Addr × Obj)} {s₁ : Shared} (Inv : Nat → List Value → List (Addr × Obj) → Prop)
    (hh : A.handled = none) (F : Fr h₀ L s₁.heap m) (N : News h₀ L s₁.heap led) (hm : (ax, tupO arr) ∈ led) (hsz : arr.size ≤ sizeLine) (h0 : Inv 0 [] led) (hk : ∀ i ys led, Inv i ys led → (ax, tupO arr) ∈ led)
    (turn : ∀ g i, i < arr.size → CTurn prog w A h₀ L m env elt ifs x scope cl { s₁ with heap := g } (fun i v => arr[i]? = some v) Inv i) (fin : ∀ g ys led, Inv arr.size ys led → Fin { s₁ with heap := g } ys led) :
    CSrc prog w A h₀ L m env elt ifs x scope cl Fin (.ref ax) s₁ :=
  .inr (.inr ⟨ax, arr, led, Inv, rfl, hh, F, N, hm, hsz, h0, hk, fun s₂ ⟨g, e⟩ => by subst e; exact ⟨turn g, fin g⟩⟩)
theorem csrc_led {elt : Expr} {ifs : List Expr} {x : Str} {scope : Scope} {cl : List (Str × Addr)} {Fin : Shared → List Value → List (Addr × Obj) → Prop} {ax : Addr} {arr : Array Value} {k : Nat} {led : List (Addr × Obj)} {s₁ : Shared} (Inv : Nat → List Value → List (Addr × Obj) → Prop)
    (hh : A.handled = none) (F : Fr h₀ L s₁.heap m) (N : News h₀ L s₁.heap led) (hm : (ax, W.listOf arr k) ∈ led) (hsz : arr.size ≤ sizeLine) (h0 : Inv 0 [] led) (hk : ∀ i ys led, Inv i ys led → (ax, W.listOf arr k) ∈ led)
    (turn : ∀ g i, i < arr.size → CTurn prog w A h₀ L m env elt ifs x scope cl { s₁ with heap := g } (fun i v => arr[i]? = some v) Inv i) (fin : ∀ g ys led, Inv arr.size ys led → Fin { s₁ with heap := g } ys led) :
    CSrc prog w A h₀ L m env elt ifs x scope cl Fin (.ref ax) s₁ :=
  .inl ⟨ax, arr, led, Inv, rfl, hh, F, N, .inr ⟨_, hm, rfl, _, rfl⟩, hsz, h0, fun i ys led h => .inr ⟨_, hk i ys led h, rfl, _, rfl⟩, fun s₂ ⟨g, e⟩ => by subst e; exact ⟨turn g, fin g⟩⟩
theorem csrc_range {elt : Expr} {ifs : List Expr} {x : Str} {scope : Scope} {cl : List (Str × Addr)} {Fin : Shared → List Value → List (Addr × Obj) → Prop} {r : Addr} {a b : Int} {t u v : Tok} {n : Nat} {led : List (Addr × Obj)} {s₁ : Shared} (Inv : Nat → List Value → List (Addr × Obj) → Prop)
    (hh : A.handled = none) (F : Fr h₀ L s₁.heap m) (N : News h₀ L s₁.heap led) (hr : IsRange s₁.heap r a b 1 t u v) (hsm : Builtin.Range.small a b 1 = true) (hn : Builtin.Range.rangeSize a b 1 = ((n : Nat) : Int)) (hsz : n ≤ sizeLine) (h0 : Inv 0 [] led)
    (turn : ∀ g i, i < n → CTurn prog w A h₀ L m env elt ifs x scope cl { s₁ with heap := g } (fun i v => ∃ t, v = .int (a + (i : Int)) t) Inv i) (fin : ∀ g ys led, Inv n ys led → Fin { s₁ with heap := g } ys led) :
    CSrc prog w A h₀ L m env elt ifs x scope cl Fin (.ref r) s₁ :=
  .inr (.inl ⟨r, a, b, t, u, v, n, led, Inv, rfl, hh, F, N, hr, hsm, hn, hsz, h0, fun s₂ ⟨g, e⟩ => by subst e; exact ⟨turn g, fin g⟩⟩)
theorem csrc_go {elt iter : Expr} {ifs : List Expr} {x : Str} {px : Pos} {scope : Scope} {cl : List (Str × Addr)} {pos : Pos} {Fin : Shared → List Value → List (Addr × Obj) → Prop} {RR : Value → Addr → Result → Shared → Prop} {xv : Value} {s₁ : Shared}
    (hcell : ∀ y ∈ scope.names, y.2 ≠ .cell) (hkind : scope.kind = .function) (hx : scope.names.lookup x = some .local)
    (h : CSrc prog w A h₀ L m env elt ifs x scope cl Fin xv s₁)
    (hRR : ∀ s₂ D C h tk m' ys led, (∃ g, s₂ = { s₁ with heap := g }) → Fr h₀ L h m → News h₀ L h ((D, lst ys) :: led) → LCg.Off1 D led → h.Ns C m' → h₀.get? C = none → h₀.get? D = none → C ≠ L → D ≠ L → C ≠ D → (∀ p ∈ led, p.1 ≠ C) → Fin s₂ ys led → RR (.ref D) C (.ok .next) { s₂ with heap := h, toks := tk }) :
    wpAny (model prog w) A (pyIter xv) (fun it s₂ => wpAny (model prog w) A (newList []) (fun acc s₃ => wpAny (model prog w) A (newFunctionEnv scope env.globals cl [] env.qual none .none (some env)) (fun cenv s₄ =>
      codeAny (model prog w) A (.compStart (.ListComp elt [⟨.Name x px, iter, ifs, 0⟩] scope pos) 0 it acc { cenv with scope := relabel scope env }) (RR acc cenv.locals) s₄) E s₃) E s₂) E s₁ := by
  rcases h with ⟨ax, arr, led, Inv, rfl, hh, F, N, S, hsz, h0, hk, R⟩ | ⟨r, a, b, t, u, v, n, led, Inv, rfl, hh, F, N, hr, hsm, hn, hsz, h0, R⟩ | ⟨ax, arr, led, Inv, rfl, hh, F, N, hm, hsz, h0, hk, R⟩
  · have hl := S.list F.keep N
    have hlt : ax < s₁.heap.objs.size := by obtain ⟨_, e, _⟩ := hl; exact Heap.lt_size e
    refine wpAny_pyIter_list hl ?_
    have up : Kp s₁.heap (s₁.heap.push { cls := .type "list_iterator", data := .fields #[.ref ax, .int 0 0] }) := fun b o e => Heap.get?_push_of_some _ e
    obtain ⟨R1, R2⟩ := R _ ⟨_, rfl⟩
    refine comp_block (Inv := Inv) (Walks.list hh s₁.heap.objs.size ax (Nat.ne_of_lt hlt) arr) hsz (fun i h st => by obtain ⟨o, e, _⟩ := st.1; exact ⟨o, e⟩) (fun i h h' o led ys j st e e' k N' hinv => LCg.list_st i h h' o led st e e' k N' (hk _ _ _ hinv)) hcell hkind hx
      ⟨⟨_, Heap.get?_push_size _ rfl, rfl, rfl⟩, hl.push _⟩ (fun b hb => ?_) (F.keeps up) (N.grown up) (Nat.ne_of_lt F.ns.lt) (next_is_new F) (fun p hp => Nat.ne_of_lt (Heap.lt_size (N p hp).1)) h0 R1 ?_
    · show b < (s₁.heap.push _).objs.size
      rw [Heap.size_push]
      rcases List.mem_cons.mp hb with rfl | hb
      · exact Nat.lt_succ_self _
      · rw [List.mem_singleton.mp hb]; exact Nat.lt_succ_of_lt hlt
    · intro D C h tk m' ys led' F' N' o1 hn hC₀ hD₀ hCL hDL hCD offC fin
      exact hRR _ D C h tk m' ys led' ⟨_, rfl⟩ F' N' o1 hn hC₀ hD₀ hCL hDL hCD offC (R2 _ _ fin)
  · refine wpAny_pyIter_range hr hsm ?_
    obtain ⟨R1, R2⟩ := R _ ⟨_, rfl⟩
    refine comp_block (Inv := Inv) (LCg.range_walks hh a n) hsz (fun i h st => ⟨_, st⟩) (fun i h h' o led ys j st e e' k N' _ => LCg.range_st i h h' o led st e e' k N' trivial) hcell hkind hx
      (by show IsRangeIter _ _ _ _ _; rw [hn]; simpa using Heap.get?_push_size _ rfl) (fun b hb => ?_) (F.keeps fun _ _ e => Heap.get?_push_of_some _ e) (N.grown fun _ _ e => Heap.get?_push_of_some _ e) (Nat.ne_of_lt F.ns.lt) (next_is_new F) (fun p hp => Nat.ne_of_lt (Heap.lt_size (N p hp).1)) h0 R1 ?_
    · rw [List.mem_singleton.mp hb]
      show s₁.heap.objs.size < (s₁.heap.push _).objs.size
      rw [Heap.size_push]; exact Nat.lt_succ_self _
    · intro D C h tk m' ys led' F' N' o1 hn hC₀ hD₀ hCL hDL hCD offC fin
      exact hRR _ D C h tk m' ys led' ⟨_, rfl⟩ F' N' o1 hn hC₀ hD₀ hCL hDL hCD offC (R2 _ _ fin)
  · have hg := (N _ hm).1
    have ht : s₁.heap.IsTuple ax arr := ⟨_, hg, rfl, _, rfl⟩
    have hlt : ax < s₁.heap.objs.size := Heap.lt_size hg
    refine wpAny_pyIter_tuple ht ?_
    have up : Kp s₁.heap (s₁.heap.push { cls := .type "tuple_iterator", data := .fields #[.ref ax, .int 0 0] }) := fun b o e => Heap.get?_push_of_some _ e
    obtain ⟨R1, R2⟩ := R _ ⟨_, rfl⟩
    refine comp_block (Inv := Inv) (Walks.tuple hh s₁.heap.objs.size ax (Nat.ne_of_lt hlt) arr) hsz (fun i h st => by obtain ⟨o, e, _⟩ := st.1; exact ⟨o, e⟩) (fun i h h' o led ys j st e e' k N' hinv => ?_) hcell hkind hx
      ⟨⟨_, Heap.get?_push_size _ rfl, rfl, rfl⟩, ht.push _⟩ (fun b hb => ?_) (F.keeps up) (N.grown up) (Nat.ne_of_lt F.ns.lt) (next_is_new F) (fun p hp => Nat.ne_of_lt (Heap.lt_size (N p hp).1)) h0 R1 ?_
    · obtain ⟨⟨oI, a1, a2, a3⟩, _⟩ := st
      rw [a1] at e; cases e
      exact ⟨⟨_, e', a2, a3⟩, ⟨_, (N' _ (hk _ _ _ hinv)).1, rfl, _, rfl⟩⟩
    · show b < (s₁.heap.push _).objs.size
      rw [Heap.size_push]
      rcases List.mem_cons.mp hb with rfl | hb
      · exact Nat.lt_succ_self _
      · rw [List.mem_singleton.mp hb]; exact Nat.lt_succ_of_lt hlt
    · intro D C h tk m' ys led' F' N' o1 hn hC₀ hD₀ hCL hDL hCD offC fin
      exact hRR _ D C h tk m' ys led' ⟨_, rfl⟩ F' N' o1 hn hC₀ hD₀ hCL hDL hCD offC (R2 _ _ fin)
theorem comp_eval {elt iter : Expr} {ifs : List Expr} {x : Str} {px : Pos} {scope : Scope} {cl : List (Str × Addr)} {pos : Pos} {Q : Value → Shared → Prop} (F₀ : Fr h₀ L s.heap m)
    (hclos : closureFor scope env = pure cl) (hcell : ∀ y ∈ scope.names, y.2 ≠ .cell) (hkind : scope.kind = .function)
    (hnames : ∀ y ∈ scope.names, y.2 = .local → scope.names.lookup y.1 = some .local) (hx : scope.names.lookup x = some .local)
    (hs : ∀ x, foldedSetIterable iter env x = pure x)
    (h : wpAny (model prog w) A (eval iter env) (CSrc prog w A h₀ L m env elt ifs x scope cl (fun s₂ => LCg.FinE h₀ L m s₂ Q)) E s) :
    wpAny (model prog w) A (eval (.ListComp elt [⟨.Name x px, iter, ifs, 0⟩] scope pos) env) Q E s := by
  have _ := F₀
  rw [eval_ListComp]
  refine wpAny_comprehension_free (use := none) rfl hs hclos hkind hnames (wpAny_mono h (fun xv s₁ h₁ => ?_) fun _ _ e => e)
  refine csrc_go hcell hkind hx h₁ ?_
  rintro s₂ D C h tk m' ys led ⟨g, rfl⟩ F' N' o1 hn hC₀ hD₀ hCL hDL hCD offC fin
  refine ⟨m', hn, fun h'' hs'' => fin D h'' tk (F'.change hs'' hCL hC₀) (fun p hp => ?_) o1⟩
  refine ⟨hs''.extBut _ _ ?_ (N' p hp).1, (N' p hp).2⟩
  rcases List.mem_cons.mp hp with rfl | hp
  · exact Ne.symm hCD
  · exact offC p hp
theorem comp_assign {elt iter : Expr} {ifs : List Expr} {x y : Str} {px py : Pos} {scope : Scope} {cl : List (Str × Addr)} {pos spos : Pos} {Q : Flow → Shared → Prop} (F₀ : Fr h₀ L s.heap m) (hLe : env.locals = L)
    (hsw : swapsWith (.ListComp elt [⟨.Name x px, iter, ifs, 0⟩] scope pos) (some (.Name y py)) spos.line env = pure true)
    (hclos : closureFor scope env = pure cl) (hcell : ∀ z ∈ scope.names, z.2 ≠ .cell) (hkind : scope.kind = .function)
    (hnames : ∀ z ∈ scope.names, z.2 = .local → scope.names.lookup z.1 = some .local) (hx : scope.names.lookup x = some .local)
    (hy : env.kindOf y = some .local) (hp : (env.scope.kind == .class || (env.scope.kind == .module && env.locals != env.globals)) = false)
    (hs : ∀ x, foldedSetIterable iter env x = pure x)
    (h : wpAny (model prog w) A (eval iter env) (CSrc prog w A h₀ L m env elt ifs x scope cl (fun s₂ => LCg.FinA h₀ L m s₂ y Q)) E s) :
    wpAny (model prog w) A (exec (.Assign [.Name y py] (.ListComp elt [⟨.Name x px, iter, ifs, 0⟩] scope pos) spos) env) Q E s := by
  subst hLe
  have _ := F₀
  rw [exec_Assign_Name_used _ _ _ _ hsw]
  refine wpAny_bind (wpAny_standAt (wpAny_bind ?_))
  show wpAny _ A (do let _ ← comprehension (.ListComp elt [⟨.Name x px, iter, ifs, 0⟩] scope pos) scope env _ (newList []) false (eval iter env) (some (assign (.Name y py) env))) _ _ s
  refine wpAny_bind (wpAny_mono (wpAny_comprehension_free (use := some (assign (.Name y py) env)) (Q := fun _ s' => Q .next s') rfl hs hclos hkind hnames
    (wpAny_mono h (fun xv s₁ h₁ => ?_) fun _ _ e => e)) (fun _ s' hq => wpAny_pure (wpAny_pure hq)) fun _ _ e => e)
  refine csrc_go hcell hkind hx h₁ ?_
  rintro s₂ D C h' tk m' ys led ⟨g, rfl⟩ F' N' o1 hn hC₀ hD₀ hCL hDL hCD offC fin
  show wpAny _ A (assign (.Name y py) env (.ref D)) _ _ _
  refine wpAny_assign_Name (wpAny_storeName_local hy F'.ns (fun h₂ hn₂ hs₂ => ?_) hp)
  have hL₀ : h₀.get? env.locals = none := Heap.get?_none_of_le F'.above
  have F₂ : Fr h₀ env.locals h₂ (fun z => if z = y then some (.ref D) else m z) := ⟨hn₂, fun b o e => hs₂.extBut b o (fun q => by rw [q, hL₀] at e; cases e) (F'.keep b o e), F'.above⟩
  refine ⟨m', hn.sameBut hs₂ hCL, fun h'' hs'' => fin D h'' _ (F₂.change hs'' hCL hC₀) (fun p hp => ?_) o1⟩
  have z : h₂.get? p.1 = some p.2 := hs₂.extBut _ _ (N' p hp).2.1 (N' p hp).1
  refine ⟨hs''.extBut _ _ ?_ z, (N' p hp).2⟩
  rcases List.mem_cons.mp hp with rfl | hp
  · exact Ne.symm hCD
  · exact offC p hp
end
local macro_rules | `(tactic| walk_at "eval Name") => `(tactic| (k_here; (with_reducible show wpAny _ _ (eval (Expr.Name _ _) (compEnvC _ _ _ _)) _ _ _); k_dflt (refine' wpAny_Name (wpAny_loadName_cell ?a ?b ?c ⟨_, News.get ?N ?m, ?d⟩ ?_) ?e; (case a => rfl); (case b => rfl); (case e => decide); (case N => k_asm); (case c => rfl); (case m => k_mem); (case d => k_asm); k_whole)))
local macro_rules | `(tactic| walk_at "eval ListComp") => `(tactic| (k_here; (fail_if_success (have nh9 : NoH := by assumption)); k_dflt (refine comp_eval (F₀ := by k_asm) (by rfl) (by decide) (by rfl) (by decide) (by rfl) (by intro _; rfl) ?_)))
local macro_rules | `(tactic| walk_at "exec Assign cons ListComp") => `(tactic| (k_here; (fail_if_success (have nh9 : NoH := by assumption)); k_dflt (refine comp_assign (F₀ := by k_asm) (by rfl) (by with_unfolding_all rfl) (by rfl) (by decide) (by rfl) (by decide) (by rfl) (by rfl) (by rfl) (by intro _; rfl) ?_)))
def nm (k : Nat) : Str := [Str.ofString "a", Str.ofString "ab", Str.ofString ".."].getD (k % 3) Str.empty
def namesOf : Nat → List Str
  | 0 => []
  | k + 1 => namesOf (k / 3) ++ [nm k]
termination_by k => k
decreasing_by omega
theorem namesOf_len (n : Nat) : (namesOf n).length ≤ n := by
  induction n using namesOf.induct with
  | case1 => simp [namesOf]
  | case2 k ih => rw [namesOf, List.length_append, List.length_singleton]; omega
theorem fdiv_pred (j : Nat) : (((j + 1 : Nat) : Int) - 1).fdiv 3 = ((j / 3 : Nat) : Int) := by
  rw [Int.fdiv_eq_ediv_of_nonneg _ (by omega)]; omega
theorem fmod_pred (j : Nat) : ((((j + 1 : Nat) : Int) - 1).fmod 3).toNat = j % 3 := by
  rw [Int.fmod_eq_emod_of_nonneg _ (by omega)]; omega
local macro_rules | `(tactic| walk_at "binaryOp Add ref ref") => `(tactic| (k_here; (with_reducible show wpAny _ _ (binaryOp _ (Value.ref _) _) _ _ _); k_dflt (refine' kmk_add_lit ?F ?N ?a ?b rfl ?_ ?z; (case F => k_asm); (case N => k_asm); (case a => exact News.isList (by k_asm) (by k_mem)); (case b => exact News.isList (by k_asm) (by k_mem)); (case z => ((simp only [List.length_cons, List.length_nil, sizeLine_eq, List.size_toArray, Array.length_toList]); omega))); intro D' h' F' N' l1; (try k_lt l1); (try k_sweep)))
def NmJ (n : Nat) (k : Nat) (m : Str → Option Value) (news : List (Addr × Obj)) : Prop :=
  ∃ (t : Tok) (a : Addr) (vs : List Value) (ss : List Str) (nn : Nat), m (Str.ofString "node") = some (.int k t) ∧ m (Str.ofString "names") = some (.ref a) ∧ news = [(a, W.listOf vs.toArray nn)] ∧ StrsAre vs ss ∧ k ≤ n ∧ namesOf n = namesOf k ++ ss
theorem names_spec (z : Int) (t : Tok) : Ctr w mean mg mb 184 1 [.int z t] (fun _ _ => 0 ≤ z ∧ z ≤ 4000) (fun h h' r => ∃ a o, New h h' a o ∧ ∃ vs nn, r = .ref a ∧ o = W.listOf (List.toArray vs) nn ∧ StrsAre vs (namesOf z.toNat)) := by
  intro dp un fr gd h₀ s Q E hd hu hb hkp hp hret
  obtain ⟨n, rfl⟩ : ∃ n : Nat, z = n := ⟨z.toNat, by omega⟩
  rw [Int.toNat_natCast] at hret
  refine' enter [] [(Str.ofString "node", .int n t)] hb hkp (fun _ h => nomatch h) ?k6 ?k7 ?k8 ?k9 ?kB ?c2 ?c3 ?c4 ?c5 ?_
  walk_at "ENTER"
  intro g L h₁ tk F N X T kg kback knew klt
  k_with "table" => skip
  k_steps
  refine Hold.mk ?_
  rename News _ _ _ _ => N1; rename Fr _ _ _ _ => F1
  refine While_inv2 (NmJ n) (n₀ := n) F1 N1 ⟨t, _, [], [], 0, rfl, rfl, rfl, .nil, Nat.le_refl _, by simp⟩ ?_
  clear N1 F1
  rintro k m₁ news₁ h₂ tk₂ F₂ N₂ ⟨t', a, vs, ss, nn, e1, e2, rfl, hS, hle, hN⟩
  replace F₂ := fr_known [(Str.ofString "node", .int k t'), (Str.ofString "names", .ref a)] F₂ (List.forall_mem_cons.mpr ⟨e1, List.forall_mem_cons.mpr ⟨e2, fun _ h => nomatch h⟩⟩)
  dsimp only [kstB] at F₂
  have hlen : vs.length ≤ 4000 := by
    have h1 := hS.length
    have h2 := congrArg List.length hN
    have h3 := namesOf_len n
    rw [List.length_append] at h2; omega
  k_steps
  · rename News _ _ _ _ => N9; rename Fr _ _ _ _ => F9
    obtain ⟨j, rfl⟩ : ∃ j, k = j + 1 := ⟨k - 1, by omega⟩
    rw [fmod_pred] at N9
    refine ⟨_, _, _, [_], j / 3, rfl, F9, fun p hp => N9 p (by rw [List.mem_singleton.mp hp]; exact .head _), by omega, _, _, _, nm j :: ss, _, (congrArg (fun z => some (Value.int z _)) (fdiv_pred j)), rfl, rfl, .cons _ _ hS, by omega, ?_⟩
    rw [hN, namesOf, List.append_assoc]; rfl
  · rename News _ _ _ _ => N9; rename Fr _ _ _ _ => F9
    obtain rfl : k = 0 := by omega
    rw [namesOf, List.nil_append] at hN
    exact hret _ _ _ (kback L _ _ F9.keep N9 (fun _ h => nomatch h)) ⟨_, _, knew L _ _ _ _ N9 (.head _) (fun _ h => nomatch h), _, _, rfl, rfl, hN ▸ hS⟩
local macro_rules | `(tactic| walk_at "call ref") => `(tactic| (k_here; k_dflt (refine' ctr_use1 (names_spec _ _) ?zF ?zN ?zX ?zT ?zd ?zu ?zp ?_; walk_at "USE"; (case zp => first | assumption | (constructor <;> omega)); k_whole; intro r a o h' tk' F' N' l1 hC; obtain ⟨vs, nn, hC1, hC2, hC3⟩ := hC; subst hC1; subst hC2; (try simp only [AllNe, and_true] at l1); (try k_sweep); (try k_fold))))
section
variable {prog : Program} {A : Around} {E : Value → Shared → Prop} {s : Shared}
theorem join_my {D : Addr} {vs : List Value} {ys : List Str} {x : Str} {t : Tok} {Q : Value → Shared → Prop} (hl : s.heap.IsList D vs.toArray) (hi : StrsAre vs ys) (hsep : x.length = 1) (hw : (ys.map (·.length)).sum + ys.length ≤ 100000)
    (h : ∀ t' k, (Txt.join x ys).length ≤ 100000 → Q (.str (Txt.join x ys) t') { s with toks := k }) : wpAny (model prog w) A (call (.builtin "str.join") [.str x t, .ref D]) Q E s := by
  refine join_listW hl (by simpa using hi) (by omega) (by omega) fun t' k => h t' k ?_
  have := StrLaws.join_length_le x ys
  show (Builtin.Str.glued x ys).length ≤ _
  rw [StrLaws.glued_eq_join]
  rw [hsep] at this; omega
end
local macro_rules | `(tactic| walk_at "call builtin:str.join") => `(tactic| (k_here; k_dflt (refine' join_my ?a ?b ?c ?d ?_; (case a => exact News.isList (by k_asm) (by k_mem)); (case b => assumption); (case c => exact rfl); (case d => omega); k_whole); intro t' k' hjl))
theorem nm_len (k : Nat) : (nm k).length ≤ 2 := by
  unfold nm
  have : k % 3 = 0 ∨ k % 3 = 1 ∨ k % 3 = 2 := by omega
  rcases this with e | e | e <;> rw [e] <;> decide
theorem namesOf_mem (n : Nat) : ∀ x ∈ namesOf n, ∃ k, x = nm k := by
  induction n using namesOf.induct with
  | case1 => simp [namesOf]
  | case2 k ih =>
    rw [namesOf]
    intro x hx
    rcases List.mem_append.mp hx with h | h
    · exact ih x h
    · exact ⟨k, List.mem_singleton.mp h⟩
theorem namesOf_w (n : Nat) : ((namesOf n).map (·.length)).sum + (namesOf n).length ≤ 3 * n := by
  induction n using namesOf.induct with
  | case1 => simp [namesOf]
  | case2 k ih =>
    have := nm_len k
    rw [namesOf, List.map_append, List.sum_append, List.length_append]
    simp only [List.map_cons, List.map_nil, List.sum_cons, List.sum_nil, List.length_cons, List.length_nil]
    omega
def straight (n : Nat) : Str := Str.ofString "/" ++ Txt.join (Str.ofString "/") (namesOf n)
theorem straight_spec (z : Int) (t : Tok) : Ctr w mean mg mb 191 2 [.int z t] (fun _ _ => 0 ≤ z ∧ z ≤ 4000) (fun h h' r => ∃ t', r = .str (straight z.toNat) t') := by
  intro dp un fr gd h₀ s Q E hd hu hb hkp hp hret
  refine' enter [] [(Str.ofString "node", .int z t)] hb hkp (fun _ h => nomatch h) ?k6 ?k7 ?k8 ?k9 ?kB ?c2 ?c3 ?c4 ?c5 ?_
  walk_at "ENTER"
  intro g L h₁ tk F N X T kg kback knew klt
  have hw := namesOf_w z.toNat
  k_steps
  rename Fr _ _ _ _ => F9
  exact hret _ _ _ (kback L _ _ F9.keep News.nil (fun _ h => nomatch h)) ⟨_, rfl⟩
theorem str_ex {x y : Str} {t : Tok} (e : x = y) : ∃ t', Value.str x t = .str y t' := ⟨t, by rw [e]⟩
def sepOf (b : Int) : Str := [Str.ofString "/", Str.ofString "//", Str.ofString "/./", Str.ofString "/.//"].getD (b.fmod 4).toNat Str.empty
theorem sepOf_len (b : Int) : (sepOf b).length ≤ 4 := by
  unfold sepOf
  generalize (b.fmod 4).toNat = k
  match k with
  | 0 => decide
  | 1 => decide
  | 2 => decide
  | 3 => decide
  | k + 4 => show Str.empty.length ≤ 4; decide
def endOf (b : Int) : Str := [Str.ofString "", Str.ofString "/", Str.ofString "/.", Str.ofString "//"].getD (b.fmod 4).toNat Str.empty
def crStep (pb : Str × Int) (x : Str) : Str × Int := (pb.1 ++ sepOf pb.2 ++ x, pb.2.fdiv 4)
def crooked (n : Nat) (b : Int) : Str :=
  let r := (namesOf n).foldl crStep (Str.ofString "", b)
  (if r.1 = Str.ofString "" then Str.ofString "/" else r.1) ++ endOf r.2
theorem strsAre_get {vs : List Value} {ys : List Str} (h : StrsAre vs ys) : ∀ (i : Nat) (v : Value), vs[i]? = some v → ∃ y t, ys[i]? = some y ∧ v = .str y t := by
  induction h with
  | nil => intro i v e; simp at e
  | cons y t _ ih =>
    intro i v e
    cases i with
    | zero => simp at e; exact ⟨y, t, by simp, e.symm⟩
    | succ i => simp at e; simpa using ih i v e
def CrJ (a : Addr) (o : Obj) (n : Nat) (b₀ : Int) (i : Nat) (m : Str → Option Value) (led : List (Addr × Obj)) : Prop :=
  ∃ (p : Str) (b : Int) (tp tb : Tok), m (Str.ofString "path") = some (.str p tp) ∧ m (Str.ofString "bits") = some (.int b tb) ∧ led = [(a, o)] ∧ ((namesOf n).take i).foldl crStep (Str.ofString "", b₀) = (p, b) ∧ p.length ≤ 6 * i
theorem crooked_spec (z b : Int) (t t2 : Tok) : Ctr w mean mg mb 198 2 [.int z t, .int b t2] (fun _ _ => 0 ≤ z ∧ z ≤ 4000) (fun h h' r => ∃ t', r = .str (crooked z.toNat b) t') := by
  intro dp un fr gd h₀ s Q E hd hu hb hkp hp hret
  refine' enter [] [(Str.ofString "node", .int z t), (Str.ofString "bits", .int b t2)] hb hkp (fun _ h => nomatch h) ?k6 ?k7 ?k8 ?k9 ?kB ?c2 ?c3 ?c4 ?c5 ?_
  walk_at "ENTER"
  intro g L h₁ tk F N X T kg kback knew klt
  k_with "table" => skip
  k_steps
  refine Hold.mk (For_invV g rfl rfl ?_)
  k_steps
  refine Hold.mk ?_
  rename News _ _ _ _ => N1; rename Fr _ _ _ _ => F1; rename StrsAre _ _ => hS
  refine for_led (CrJ _ _ z.toNat b) rfl F1 N1 (.head _) (fun i m led h => by obtain ⟨_, _, _, _, _, _, rfl, _⟩ := h; exact .head _) ⟨_, _, _, _, rfl, rfl, rfl, rfl, Nat.le_refl _⟩ ?_ ?_
  · clear N1 F1
    rintro I i v m₁ led oI h tk hv ⟨p, b1, tp, tb, e1, e2, rfl, e3, hlen⟩ hoff F₂ N₂
    replace F₂ := fr_known [(Str.ofString "name", v), (Str.ofString "path", .str p tp), (Str.ofString "bits", .int b1 tb)] F₂ (List.forall_mem_cons.mpr ⟨rfl, List.forall_mem_cons.mpr ⟨e1, List.forall_mem_cons.mpr ⟨e2, fun _ h => nomatch h⟩⟩⟩)
    dsimp only [kstB] at F₂
    obtain ⟨y, ty, hy, rfl⟩ := strsAre_get hS i v (by simpa using hv)
    have hym := List.mem_of_getElem? hy
    have hyl : y.length ≤ 2 := by obtain ⟨k, rfl⟩ := namesOf_mem _ _ hym; exact nm_len k
    have hil : i < 4000 := by
      have h1 := namesOf_len z.toNat
      have h2 := (List.getElem?_eq_some_iff.mp hy).1
      omega
    simp only [AllNe, and_true] at hoff
    have hsl : (sepOf b1).length ≤ 4 := sepOf_len b1
    k_steps
    rename News _ _ _ _ => N9; rename Fr _ _ _ _ => F9
    refine TEnd.mk [_] F9 N9 (List.forall_mem_cons.mpr ⟨.tail _ (.head _), List.forall_mem_cons.mpr ⟨.tail _ (.tail _ (.head _)), fun _ h => nomatch h⟩⟩) ⟨hoff, trivial⟩ ⟨_, _, _, _, rfl, rfl, rfl, ?_, ?_⟩
    · rw [List.take_add_one, hy, List.foldl_append, e3]; rfl
    · show (p ++ sepOf b1 ++ y).length ≤ _
      rw [Str.length_append, Str.length_append]; omega
  · clear N1 F1
    rintro m₁ led h tk ⟨p, b1, tp, tb, e1, e2, rfl, e3, hlen⟩ F₂ N₂
    replace F₂ := fr_known [(Str.ofString "path", .str p tp), (Str.ofString "bits", .int b1 tb)] F₂ (List.forall_mem_cons.mpr ⟨e1, List.forall_mem_cons.mpr ⟨e2, fun _ h => nomatch h⟩⟩)
    dsimp only [kstB] at F₂
    have hil := hS.length
    have hnl := namesOf_len z.toNat
    rw [List.size_toArray] at e3 hlen
    have hpl : p.length ≤ 24000 := by omega
    clear hlen
    rw [hil, List.take_length] at e3
    k_steps
    · rename Fr _ _ _ _ => F9
      refine hret _ _ _ (kback L _ _ F9.keep News.nil (fun _ h => nomatch h)) (str_ex ?_)
      rename ((_ == _) = true) => hpe
      unfold crooked; rw [e3]; dsimp only; rw [if_pos (by simpa using hpe)]; rfl
    · rename Fr _ _ _ _ => F9
      refine hret _ _ _ (kback L _ _ F9.keep News.nil (fun _ h => nomatch h)) (str_ex ?_)
      rename ((_ == _) = false) => hpe
      unfold crooked; rw [e3]; dsimp only; rw [if_neg (by simpa using hpe)]; rfl
section
variable {w : World} {mean : ExcName → Option Value} {mg mb : Str → Option Value}
def lcaN (a b : Nat) : Nat := if a = b then a else if b < a then lcaN ((a - 1) / 3) b else lcaN a ((b - 1) / 3)
termination_by a + b
decreasing_by all_goals omega
theorem lcaN_self (a : Nat) : lcaN a a = a := by unfold lcaN; simp
theorem lcaN_gt {a b : Nat} (h : b < a) : lcaN a b = lcaN ((a - 1) / 3) b := by rw [lcaN, if_neg (by omega), if_pos h]
theorem lcaN_lt {a b : Nat} (h : a < b) : lcaN a b = lcaN a ((b - 1) / 3) := by rw [lcaN, if_neg (by omega), if_neg (by omega)]
def LwJ (L : Addr) (o : Obj) (ks : List Nat) (k₀ : Nat) (i : Nat) (m : Str → Option Value) (led : List (Addr × Obj)) : Prop :=
  ∃ (low : Nat) (t : Tok), m (Str.ofString "low") = some (.int low t) ∧ led = [(L, o)] ∧ (ks.take i).foldl lcaN k₀ = low
theorem intsAre_get {vs : List Value} {ys : List Int} (h : IntsAre vs ys) : ∀ (i : Nat) (v : Value), vs[i]? = some v → ∃ y t, ys[i]? = some y ∧ v = .int y t := by
  induction h with
  | nil => intro i v e; simp at e
  | cons y t _ ih =>
    intro i v e
    cases i with
    | zero => simp at e; exact ⟨y, t, by simp, e.symm⟩
    | succ i => simp at e; simpa using ih i v e
def natI (ks : List Nat) : List Int := ks.map Int.ofNat
theorem natI_head (ks : List Nat) : (natI ks).getD (Int.toNat 0) 0 = (ks.headD 0 : Nat) := by cases ks <;> rfl
theorem lowest_spec (l : Addr) (nn : Nat) (vs : List Value) (ks : List Nat) (hI : IntsAre vs (natI ks)) (hn : 0 < ks.length) (hb : ks.length ≤ 100) : Ctr w mean mg mb 212 1 [.ref l] (fun h₀ h => New h₀ h l (W.listOf vs.toArray nn)) (fun h h' r => ∃ t, r = .int (ks.foldl lcaN (ks.headD 0) : Nat) t) := by
  intro dp un fr gd h₀ s Q E hd hu hb hkp hp hret
  refine' enter [(l, W.listOf vs.toArray nn)] [(Str.ofString "nodes", .ref l)] hb hkp (List.forall_mem_cons.mpr ⟨hp, fun _ h => nomatch h⟩) ?k6 ?k7 ?k8 ?k9 ?kB ?c2 ?c3 ?c4 ?c5 ?_
  walk_at "ENTER"
  intro g L h₁ tk F N X T kg kback knew klt
  have hlen := hI.length
  have hl0 : 0 < (natI ks).length := by simpa [natI] using hn
  have hl1 : (natI ks).length ≤ 100 := by simpa [natI] using ‹ks.length ≤ 100›
  k_steps
  refine Hold.mk (For_invV g rfl rfl ?_)
  k_steps
  refine Hold.mk ?_
  rename News _ _ _ _ => N1; rename Fr _ _ _ _ => F1
  refine for_led (LwJ l (W.listOf vs.toArray nn) ks (ks.headD 0)) rfl F1 N1 (.head _) (fun i m led h => by obtain ⟨_, _, _, rfl, _⟩ := h; exact .head _) ⟨_, _, congrArg (fun z => some (Value.int z _)) (natI_head ks), rfl, rfl⟩ ?_ ?_
  · clear N1 F1
    rintro I i v m₁ led oI h tk hv ⟨low, tl, e1, rfl, e2⟩ hoff F₂ N₂
    obtain ⟨y, ty, hy, rfl⟩ := intsAre_get hI i v (by simpa using hv)
    obtain ⟨x, hx, rfl⟩ : ∃ x : Nat, ks[i]? = some x ∧ y = x := by
      simp only [natI, List.getElem?_map, Option.map_eq_some_iff] at hy
      obtain ⟨x, h1, h2⟩ := hy
      exact ⟨x, h1, h2.symm⟩
    replace F₂ := fr_known [(Str.ofString "node", .int x ty), (Str.ofString "low", .int low tl)] F₂ (List.forall_mem_cons.mpr ⟨rfl, List.forall_mem_cons.mpr ⟨e1, fun _ h => nomatch h⟩⟩)
    dsimp only [kstB] at F₂
    k_steps
    refine Hold.mk ?_
    rename News _ _ _ _ => N3; rename Fr _ _ _ _ => F3
    refine While_inv2 (fun k m led => ∃ (a b : Nat) (ta tb : Tok), m (Str.ofString "low") = some (.int a ta) ∧ m (Str.ofString "other") = some (.int b tb) ∧ led = [(I, oI), (l, W.listOf vs.toArray nn)] ∧ lcaN a b = lcaN low x ∧ k = a + b) (n₀ := low + x) F3 N3 ⟨_, _, _, _, rfl, rfl, rfl, rfl, rfl⟩ ?_
    clear N3 F3
    rintro k m₂ news₂ h₃ tk₃ F₄ N₄ ⟨a, b, ta, tb, e3, e4, rfl, e5, rfl⟩
    replace F₄ := fr_known [(Str.ofString "low", .int a ta), (Str.ofString "other", .int b tb)] F₄ (List.forall_mem_cons.mpr ⟨e3, List.forall_mem_cons.mpr ⟨e4, fun _ h => nomatch h⟩⟩)
    dsimp only [kstB] at F₄
    k_steps
    · rename News _ _ _ _ => N9; rename Fr _ _ _ _ => F9
      obtain ⟨j, rfl⟩ : ∃ j, a = j + 1 := ⟨a - 1, by omega⟩
      exact ⟨_, _, _, _, j / 3 + b, rfl, F9, N9, by omega, j / 3, b, _, _, congrArg (fun z => some (Value.int z _)) (fdiv_pred j), rfl, rfl, by rw [← e5, lcaN_gt (a := j + 1) (b := b) (by omega)]; rfl, rfl⟩
    · rename News _ _ _ _ => N9; rename Fr _ _ _ _ => F9
      obtain ⟨j, rfl⟩ : ∃ j, b = j + 1 := ⟨b - 1, by omega⟩
      exact ⟨_, _, _, _, a + j / 3, rfl, F9, N9, by omega, a, j / 3, _, _, rfl, congrArg (fun z => some (Value.int z _)) (fdiv_pred j), rfl, by rw [← e5, lcaN_lt (a := a) (b := j + 1) (by omega)]; rfl, rfl⟩
    · rename Fr _ _ _ _ => F9
      obtain rfl : a = b := by omega
      refine TEnd.mk [_] F9 N₄ (fun _ h => h) hoff ⟨a, _, rfl, rfl, ?_⟩
      rw [List.take_add_one, hx, List.foldl_append, e2, ← lcaN_self a, e5]; rfl
  · clear N1 F1
    rintro m₁ led h tk ⟨low, tl, e1, rfl, e2⟩ F₂ N₂
    replace F₂ := fr_known [(Str.ofString "low", .int low tl)] F₂ (List.forall_mem_cons.mpr ⟨e1, fun _ h => nomatch h⟩)
    dsimp only [kstB] at F₂
    k_steps
    refine hret _ _ _ (kback L _ _ (Fr.keep (by k_asm)) (by k_asm) (by lcg_sub)) ⟨tl, ?_⟩
    rw [← e2, List.size_toArray, hlen, natI, List.length_map, List.take_length]
end
section
variable {w : World} {mean : ExcName → Option Value} {mg mb : Str → Option Value}
def ndStep (ks : List Nat) (n : Int) : List Nat :=
  ks ++ [if n.fmod 5 = 0 then ((n.fdiv 5).fmod 40).toNat else if n.fmod 5 = 4 then (ks.getD ((n.fdiv 5).fmod ks.length).toNat 0 - 1) / 3 else 3 * ks.getD ((n.fdiv 5).fmod ks.length).toNat 0 + (n.fmod 5).toNat]
def NdJ (D : Addr) (oD : Obj) (ns : List Int) (i : Nat) (m : Str → Option Value) (led : List (Addr × Obj)) : Prop :=
  ∃ (a : Addr) (vs : List Value) (nn : Nat) (ks : List Nat), m (Str.ofString "nodes") = some (.ref a) ∧ led = [(D, oD), (a, W.listOf vs.toArray nn)] ∧ @LT.lt Nat _ a D ∧ IntsAre vs (natI ks) ∧ (ns.take i).foldl ndStep [14] = ks ∧ ks.length = i + 1
def ndAll (ns : List Int) : List Nat := (ns.take 4).foldl ndStep [14]
def nodesOf (ns : List Int) : List Nat := (ndAll ns).drop 1 ++ [3 * (ndAll ns).getD ((ndAll ns).length - 1) 0 + 1, 3 * (ndAll ns).getD ((ndAll ns).length - 1) 0 + 2]
theorem natI_getD (ks : List Nat) (j : Nat) : (natI ks).getD j 0 = ((ks.getD j 0 : Nat) : Int) := by
  unfold natI
  rw [List.getD_eq_getElem?_getD, List.getD_eq_getElem?_getD, List.getElem?_map]
  cases ks[j]? <;> rfl
theorem natI_len (ks : List Nat) : (natI ks).length = ks.length := by rw [natI, List.length_map]
theorem ints_snoc {us : List Value} {ks : List Nat} {v : Int} {t : Tok} {x : Nat} (h : IntsAre us (natI ks)) (e : v = x) : IntsAre (us ++ [.int v t]) (natI (ks ++ [x])) := by
  subst e
  rw [natI, List.map_append]
  exact IntsAre.append h (.cons _ _ .nil)
theorem nd_step {us : List Value} {ks : List Nat} {n v : Int} {t : Tok} (h : IntsAre us (natI ks))
    (e : v = (if n.fmod 5 = 0 then ((n.fdiv 5).fmod 40).toNat else if n.fmod 5 = 4 then (ks.getD ((n.fdiv 5).fmod ks.length).toNat 0 - 1) / 3 else 3 * ks.getD ((n.fdiv 5).fmod ks.length).toNat 0 + (n.fmod 5).toNat : Nat)) :
    IntsAre (us ++ [.int v t]) (natI (ndStep ks n)) := ints_snoc h e
theorem nodes_spec (l : Addr) (vs : List Value) (ns : List Int) (hI : IntsAre vs ns) (hn : ns.length ≤ 63) : Ctr w mean mg mb 205 1 [.ref l] (fun h₀ _ => h₀.IsList l vs.toArray)
    (fun h h' r => ∃ a o, New h h' a o ∧ ∃ us nn, r = .ref a ∧ o = W.listOf (List.toArray us) nn ∧ IntsAre us (natI (nodesOf ns))) := by
  intro dp un fr gd h₀ s Q E hd hu hb hkp hp hret
  refine' enter [] [(Str.ofString "script", .ref l)] hb hkp (fun _ h => nomatch h) ?k6 ?k7 ?k8 ?k9 ?kB ?c2 ?c3 ?c4 ?c5 ?_
  walk_at "ENTER"
  intro g L h₁ tk F N X T kg kback knew klt
  have hlg : g.IsList l vs.toArray := stays_list kg hp
  k_steps
  refine Hold.mk (For_invV g rfl rfl ?_)
  k_steps
  refine Hold.mk ?_
  clear hI
  rename IntsAre _ _ => hI
  have hlen := hI.length
  rename News _ _ _ _ => N1; rename Fr _ _ _ _ => F1
  rename (@LT.lt Nat _ _ _) => hlt
  refine for_led (NdJ _ _ (ns.take 4)) rfl F1 N1 (.head _) (fun i m led h => by obtain ⟨_, _, _, _, _, rfl, _⟩ := h; exact .head _) ⟨_, [.int 14 _], _, [14], rfl, rfl, hlt, .cons _ _ .nil, by simp, rfl⟩ ?_ ?_
  · clear N1 F1
    rintro I i v m₁ led oI h tk hv ⟨a, us, nn, ks, e1, rfl, hlt2, hJ, e2, e3⟩ hoff F₂ N₂
    obtain ⟨n, ty, hy, rfl⟩ := intsAre_get hI i v (by simpa using hv)
    replace F₂ := fr_known [(Str.ofString "n", .int n ty), (Str.ofString "nodes", .ref a)] F₂ (List.forall_mem_cons.mpr ⟨rfl, List.forall_mem_cons.mpr ⟨e1, fun _ h => nomatch h⟩⟩)
    dsimp only [kstB] at F₂
    simp only [AllNe, and_true] at hoff
    have hil := (List.getElem?_eq_some_iff.mp hy).1
    have hkl : (natI ks).length = i + 1 := by rw [natI, List.length_map, e3]
    have hi4 : i < 4 := by rw [List.length_take] at hil; omega
    clear hv
    k_steps
    all_goals (
      rename News _ _ _ _ => N9; rename Fr _ _ _ _ => F9
      simp only [List.push_toArray] at N9
      refine TEnd.mk [_, _] F9 N9 (fun _ h => h) ⟨hoff.1, hoff.2, trivial⟩ ⟨_, _, _, ndStep ks n, rfl, rfl, hlt2, nd_step hJ ?_, ?_, ?_⟩)
    · rename (n.fmod 5 = 0) => h5
      rw [if_pos h5, Int.toNat_of_nonneg (Int.fmod_nonneg_of_pos _ (by omega))]
    · rw [List.take_add_one, hy, List.foldl_append, e2]; rfl
    · rw [ndStep, List.length_append, e3]; rfl
    · rename (n.fmod 5 ≠ 0) => h5; rename (n.fmod 5 = 4) => h6
      rw [if_neg h5, if_pos h6, natI_getD, natI_len]
      generalize ks.getD _ 0 = q
      split
      · obtain rfl : q = 0 := by omega
        rfl
      · rw [Int.fdiv_eq_ediv_of_nonneg _ (by omega)]; omega
    · rw [List.take_add_one, hy, List.foldl_append, e2]; rfl
    · rw [ndStep, List.length_append, e3]; rfl
    · rename (n.fmod 5 ≠ 0) => h5; rename (n.fmod 5 ≠ 4) => h6
      have h7 : 0 ≤ n.fmod 5 := Int.fmod_nonneg_of_pos _ (by omega)
      rw [if_neg h5, if_neg h6, natI_getD, natI_len]
      generalize ks.getD _ 0 = q
      omega
    · rw [List.take_add_one, hy, List.foldl_append, e2]; rfl
    · rw [ndStep, List.length_append, e3]; rfl
  · clear N1 F1
    rintro m₁ led h tk ⟨a, us, nn, ks, e1, rfl, hlt2, hJ, e2, e3⟩ F₂ N₂
    replace F₂ := fr_known [(Str.ofString "nodes", .ref a)] F₂ (List.forall_mem_cons.mpr ⟨e1, fun _ h => nomatch h⟩)
    dsimp only [kstB] at F₂
    have hkl : (natI ks).length = ks.length := by rw [natI, List.length_map]
    have hws : ks.length ≤ 5 := by rw [e3, List.size_toArray, hlen, List.length_take]; omega
    have hks : ks = ndAll ns := by
      rw [List.size_toArray, hlen, List.take_length] at e2
      exact e2.symm
    k_steps
    rename News _ _ _ _ => N9; rename Fr _ _ _ _ => F9; rename IntsAre _ _ => hI9
    refine hret _ _ _ (kback L _ _ F9.keep N9 (fun _ h => nomatch h)) ⟨_, _, knew L _ _ _ _ N9 (.head _) (fun _ h => nomatch h), _, _, rfl, rfl, ?_⟩
    rw [natI_getD, natI_len, show (-1 + (ks.length : Int)).toNat = ks.length - 1 by omega] at hI9
    subst hks
    unfold nodesOf
    have e : natI (List.drop 1 (ndAll ns) ++ [3 * (ndAll ns).getD ((ndAll ns).length - 1) 0 + 1, 3 * (ndAll ns).getD ((ndAll ns).length - 1) 0 + 2]) = List.drop 1 (natI (ndAll ns)) ++ [3 * (((ndAll ns).getD ((ndAll ns).length - 1) 0 : Nat) : Int) + 1, 3 * (((ndAll ns).getD ((ndAll ns).length - 1) 0 : Nat) : Int) + 2] := by
      simp [natI, List.map_drop]
    rw [e]; exact hI9
end
section
variable {w : World} {mean : ExcName → Option Value} {mg mb : Str → Option Value}
abbrev tup2 (x y : Str) (t u : Tok) : Obj := { cls := Value.type "tuple", data := Data.seq #[Value.str x t, Value.str y u] }
abbrev pd2 (x y : Str) : PyData := .tuple [.str x, .str y]
theorem pd2_shaped {x y : Str} (hx : PyData.strOk x = true) (hy : PyData.strOk y = true) : SeqAt.shaped (pd2 x y) = true := by
  simp [SeqAt.shaped, PyData.canLay0, PyData.canLayAll0, PyData.depth, PyData.depthAll, hx, hy]
theorem pd2_reads {h : Heap} {a : Addr} {x y : Str} {t u : Tok} (e : h.get? a = some (tup2 x y t u)) : ∃ as, Reads h (.ref a) (pd2 x y) as :=
  ⟨_, reads_tuple_at e rfl rfl (ReadsAll.cons (Reads.str _ _) (ReadsAll.cons (Reads.str _ _) ReadsAll.nil))⟩
theorem pd2_eqv (x1 y1 x2 y2 : Str) : PyData.eqv (pd2 x1 y1) (pd2 x2 y2) = (x1 == x2 && y1 == y2) := by
  simp [PyData.eqv, PyData.eqvAll]
def pfx (y : Str) : Str := if (Txt.slice y (some (-1)) none != Str.ofString "/") = true then y ++ Str.ofString "/" else y
def suburi (x1 y1 x2 y2 : Str) : Bool := if (x1 == x2 && y1 == y2) = true then true else if (x1 != x2) = true then false else Txt.startswith y2 (pfx y1)
theorem suburi_1 {x1 y1 x2 y2 : Str} (h : (x1 == x2 && y1 == y2) = true) : suburi x1 y1 x2 y2 = true := by unfold suburi; rw [if_pos h]
theorem suburi_2 {x1 y1 x2 y2 : Str} (h : (x1 == x2 && y1 == y2) = false) (h2 : (x1 != x2) = true) : suburi x1 y1 x2 y2 = false := by unfold suburi; rw [if_neg (ne_true_of_eq_false h), if_pos h2]
theorem suburi_3 {x1 y1 x2 y2 : Str} (h : (x1 == x2 && y1 == y2) = false) (h2 : (x1 != x2) = false) (h3 : (Txt.slice y1 (some (-1)) none != Str.ofString "/") = true) : suburi x1 y1 x2 y2 = Txt.startswith y2 (y1 ++ Str.ofString "/") := by
  unfold suburi pfx; rw [if_neg (ne_true_of_eq_false h), if_neg (ne_true_of_eq_false h2), if_pos h3]
theorem suburi_4 {x1 y1 x2 y2 : Str} (h : (x1 == x2 && y1 == y2) = false) (h2 : (x1 != x2) = false) (h3 : (Txt.slice y1 (some (-1)) none != Str.ofString "/") = false) : suburi x1 y1 x2 y2 = Txt.startswith y2 y1 := by
  unfold suburi pfx; rw [if_neg (ne_true_of_eq_false h), if_neg (ne_true_of_eq_false h2), if_neg (ne_true_of_eq_false h3)]
theorem suburi_spec (v : Value) (b c : Addr) (x1 y1 x2 y2 : Str) (t1 u1 t2 u2 : Tok) (o1 : PyData.strOk x1 = true) (o2 : PyData.strOk y1 = true) (o3 : PyData.strOk x2 = true) (o4 : PyData.strOk y2 = true) :
    Ctr w mean mg mb 64 1 [v, .ref b, .ref c] (fun h₀ h => New h₀ h b (tup2 x1 y1 t1 u1) ∧ New h₀ h c (tup2 x2 y2 t2 u2) ∧ y1.length ≤ 100000) (fun _ _ r => r = .bool (suburi x1 y1 x2 y2)) := by
  intro dp un fr gd h₀ s Q E hd hu hb hkp hp hret
  obtain ⟨p1, p2, p3⟩ := hp
  refine' enter [(c, tup2 x2 y2 t2 u2), (b, tup2 x1 y1 t1 u1)] [(Str.ofString "self", v), (Str.ofString "base", .ref b), (Str.ofString "test", .ref c)] hb hkp (List.forall_mem_cons.mpr ⟨p2, List.forall_mem_cons.mpr ⟨p1, fun _ h => nomatch h⟩⟩) ?k6 ?k7 ?k8 ?k9 ?kB ?c2 ?c3 ?c4 ?c5 ?_
  walk_at "ENTER"
  intro g L h₁ tk F N X T kg kback knew klt
  k_steps
  obtain ⟨as1, r1⟩ := pd2_reads (N _ (.tail _ (.head _))).1
  obtain ⟨as2, r2⟩ := pd2_reads (N _ (.head _)).1
  refine eq_dataH r1 r2 (pd2_shaped o1 o2) (pd2_shaped o3 o4) (by dsimp only [AR, Around.deeper, cLine]; omega) ?_
  rw [pd2_eqv]
  clear r1 r2
  k_steps
  all_goals refine hret _ _ _ (kback L _ _ (Fr.keep (by k_asm)) (by k_asm) (by lcg_sub)) (congrArg Value.bool ?_)
  · exact (suburi_1 (by assumption)).symm
  · exact (suburi_2 (by assumption) (by assumption)).symm
  · exact (suburi_3 (by assumption) (by assumption) (by assumption)).symm
  · exact (suburi_4 (by assumption) (by assumption) (by assumption)).symm
end
local macro_rules | `(tactic| walk_at "call ref") => `(tactic| (k_here; k_dflt (refine' ctr_use (straight_spec _ _) ?zF ?zN ?zX ?zT ?zd ?zu ?zp ?_; walk_at "USE"; (case zp => first | assumption | (constructor <;> omega)); k_whole; intro r h' tk' F' N' kp hR; obtain ⟨t', hR1⟩ := hR; subst hR1; clear kp; (try k_sweep); (try k_fold))))
/-- going up from n one comes to k by pre -/
inductive Up (low n : Nat) : List Nat → Nat → Prop
  | here : Up low n [] n
  | step {pre : List Nat} {k : Nat} : Up low n pre k → k ≠ low → Up low n (pre ++ [k]) ((k - 1) / 3)
/-- low stands on the way up from k -/
def Anc (low : Nat) (k : Nat) : Prop := if k = low then True else if k = 0 then False else Anc low ((k - 1) / 3)
termination_by k
decreasing_by omega
theorem anc_step {low k : Nat} (h : Anc low k) (hne : k ≠ low) : 0 < k ∧ Anc low ((k - 1) / 3) := by
  unfold Anc at h
  rw [if_neg hne] at h
  split at h
  · exact h.elim
  · exact ⟨by omega, h⟩
theorem Up.le {low n : Nat} {pre : List Nat} {k : Nat} (h : Up low n pre k) : k ≤ n := by
  induction h with
  | here => exact Nat.le_refl _
  | step _ _ ih => omega
def WyJ (n low : Nat) (tl : Tok) (k : Nat) (m : Str → Option Value) (led : List (Addr × Obj)) : Prop :=
  ∃ (t : Tok) (a : Addr) (vs : List Value) (nn : Nat) (pre : List Nat), m (Str.ofString "node") = some (.int k t) ∧ m (Str.ofString "low") = some (.int low tl) ∧ m (Str.ofString "way") = some (.ref a) ∧ led = [(a, W.listOf vs.toArray nn)] ∧
    StrsAre vs ((pre ++ [k]).map straight) ∧ Up low n pre k ∧ Anc low k ∧ pre.length + k ≤ n
theorem way_spec (n low : Nat) (t t2 : Tok) (hn : n ≤ 4000) (hup : Anc low n) : Ctr w mean mg mb 219 3 [.int n t, .int low t2] (fun _ _ => True)
    (fun h h' r => ∃ a o, New h h' a o ∧ ∃ vs nn pre, r = .ref a ∧ o = W.listOf (List.toArray vs) nn ∧ StrsAre vs ((pre ++ [low]).map straight) ∧ Up low n pre low) := by
  intro dp un fr gd h₀ s Q E hd hu hb hkp hp hret
  refine' enter [] [(Str.ofString "node", .int n t), (Str.ofString "low", .int low t2)] hb hkp (fun _ h => nomatch h) ?k6 ?k7 ?k8 ?k9 ?kB ?c2 ?c3 ?c4 ?c5 ?_
  walk_at "ENTER"
  intro g L h₁ tk F N X T kg kback knew klt
  k_steps
  refine Hold.mk ?_
  rename News _ _ _ _ => N1; rename Fr _ _ _ _ => F1
  refine While_inv2 (WyJ n low t2) (n₀ := n) F1 N1 ⟨_, _, _, _, [], rfl, rfl, rfl, rfl, .cons _ _ .nil, .here, hup, by simp⟩ ?_
  clear N1 F1
  rintro k m₁ news₁ h₂ tk₂ F₂ N₂ ⟨t', a, vs, nn, pre, e1, e2, e3, rfl, hS, hU, hA, hL⟩
  replace F₂ := fr_known [(Str.ofString "node", .int k t'), (Str.ofString "low", .int low t2), (Str.ofString "way", .ref a)] F₂ (List.forall_mem_cons.mpr ⟨e1, List.forall_mem_cons.mpr ⟨e2, List.forall_mem_cons.mpr ⟨e3, fun _ h => nomatch h⟩⟩⟩)
  dsimp only [kstB] at F₂
  have hlen : vs.length ≤ 4001 := by have := hS.length; simp at this; omega
  have hpos : (k : Int) ≠ low → 0 ≤ ((k : Int) - 1).fdiv 3 ∧ ((k : Int) - 1).fdiv 3 ≤ 4000 := by
    intro hne
    have h1 := anc_step hA (by omega)
    obtain ⟨j, rfl⟩ : ∃ j, k = j + 1 := ⟨k - 1, by omega⟩
    rw [fdiv_pred]; omega
  k_steps
  · rename News _ _ _ _ => N9; rename Fr _ _ _ _ => F9
    have h1 := anc_step hA (by omega)
    obtain ⟨j, rfl⟩ : ∃ j, k = j + 1 := ⟨k - 1, by omega⟩
    rw [fdiv_pred] at N9
    simp only [List.push_toArray] at N9
    refine ⟨_, _, _, _, j / 3, rfl, F9, N9, by omega, _, _, vs ++ [_], _, pre ++ [j + 1], congrArg (fun z => some (Value.int z _)) (fdiv_pred j), rfl, rfl, rfl, ?_, .step hU (by omega), h1.2, ?_⟩
    · rw [List.map_append (l₁ := pre ++ [j + 1])]
      exact hS.append' (.cons _ _ .nil)
    · rw [List.length_append, List.length_singleton]; omega
  · obtain rfl : k = low := by omega
    exact hret _ _ _ (kback L _ _ (Fr.keep (by k_asm)) (by k_asm) (by lcg_sub)) ⟨_, _, knew L _ _ _ _ N₂ (.head _) (fun _ h => nomatch h), _, _, pre, rfl, rfl, hS, hU⟩
section
variable {w : World} {mean : ExcName → Option Value} {mg mb : Str → Option Value} {dp un : Nat} {fr : Option (List Env)} {gd : Option (List Code)} {h₀ : Heap} {s : Shared} {Q E : Value → Shared → Prop}
  {name qual : Str} {params : Arguments} {body : List Stmt} {scope : Scope} {dV kV doc pm cdv ct oc : Value} {an od : Option Addr} {osl : Array (Option Value)} {f : Addr} {args : List Value}
theorem enterS (tup : Obj) (binds : Addr → List (Str × Value)) (hb : Bs w mean mg mb h₀) (kp : Kp h₀ s.heap) (hfree : tup.isFreed = false)
    (ho : (kF w.params).lookup f = some ⟨oc, od, .func (fnOf name qual params body scope dV kV doc pm an cdv ct), osl⟩) (hcd : codeIn (kF w.params) cdv qual = true) (hroom : dp < recursionLimit)
    (hbind : bindArgs (fnOf name qual params body scope dV kV doc pm an cdv ct) ⟨args, []⟩ = (alloc tup >>= fun D => pure (binds D))) (hloc : ∀ D, ∀ y ∈ binds D, scope.names.lookup y.1 = some .local)
    (hco : scope.isCoroutine = false) (hgen : scope.isGenerator = false) (hk : scope.kind = .function) (hcell : ∀ x ∈ scope.names, x.2 ≠ .cell)
    (h : ∀ D g L h₁ tk, Fr g L h₁ (fun y => (binds D).reverse.lookup y) → News g L h₁ [(D, tup)] → (kF w.params).In g → Top vw (looseW vw []) mean mg mb g → Kp h₀ g →
      (∀ L h' news', Kp g h' → News g L h' news' → (∀ p ∈ [(D, tup)], p ∈ news') → Kp s.heap h') → D < L →
      wpAny (model PySem.Challenge.rw_pd0052_01.row.prog w) ((AR dp un fr gd).deeper (envOf qual scope L f cdv)) (execs body (envOf qual scope L f cdv)) (fun fl s' => Q (match fl with | .ret v => v | _ => .none) s') (fun _ _ => False) { s with heap := h₁, toks := tk }) :
    wpAny (model PySem.Challenge.rw_pd0052_01.row.prog w) (AR dp un fr gd) (call (.ref f) args) Q E s := by
  have hbs := hb.keeps kp
  have up : Kp s.heap (s.heap.push tup) := fun b o e => Heap.get?_push_of_some _ e
  have hown : ∀ p ∈ [(s.heap.objs.size, tup)], New h₀ (s.heap.push tup) p.1 p.2 := by
    intro p hp
    rw [List.mem_singleton.mp hp]
    refine ⟨?_, Heap.get?_push_size _ hfree⟩
    cases q : h₀.get? s.heap.objs.size with
    | none => rfl
    | some o => exact absurd (Heap.lt_size (kp _ _ q)) (Nat.lt_irrefl _)
  obtain ⟨k1, k2, k3⟩ := hide_ground (s := { s with heap := s.heap.push tup }) [(s.heap.objs.size, tup)] (kp.trans up) hown
  have hg := hb.keeps k1
  refine wpAny_call (codeAny_call_function (fd := fnOf name qual params body scope dV kV doc pm an cdv ct) hroom (hbs.k _ _ ho) rfl hco hgen rfl (codeRec_of hbs.k hcd) ?_)
  rw [hbind]
  refine wpAny_bind (wpAny_alloc (wpAny_pure ?_))
  refine wpAny_newFunctionEnv hcell (hloc _) (fun h₁ hns hsb => ⟨(hbs.t.nolimit.push tup).fresh _ hsb, codeAny_func ?_⟩) hk
  have hk₁ : ∀ b o, (s.heap.push tup).get? b = some o → h₁.get? b = some o := fun b o e => hsb.extBut b o (Nat.ne_of_lt (Heap.lt_size e)) (Heap.get?_push_of_some _ e)
  exact wpAny_mono (h s.heap.objs.size _ (s.heap.push tup).objs.size h₁ _ ⟨hns, fun b o e => hk₁ b o (of_hideAll _ e), Nat.le_of_eq (hideAll_size _ _)⟩
    (fun p hp => ⟨hk₁ _ _ (hown p hp).2, Nat.ne_of_lt (Heap.lt_size (hown p hp).2), hideAll_none _ (List.mem_map_of_mem hp)⟩) hg.k hg.t k1 (fun L h' news' a b c => up.trans (k2 L h' news' a b c)) (by rw [Heap.size_push]; exact Nat.lt_succ_self _)) (fun _ _ x => x) fun _ _ x => x.elim
end
def joinS (x y : Str) : Str := if Txt.startswith y (Str.ofString "/") = true then y else if (x.length : Int) = 0 then y else if Txt.endswith x (Str.ofString "/") = true then x ++ y else x ++ (Str.ofString "/" ++ y)
theorem joinS_1 {x y : Str} (h : Txt.startswith y (Str.ofString "/") = true) : joinS x y = y := by unfold joinS; rw [if_pos h]
theorem joinS_2 {x y : Str} (h : Txt.startswith y (Str.ofString "/") = false) (h2 : (x.length : Int) ≠ 0) (h3 : Txt.endswith x (Str.ofString "/") = true) : joinS x y = x ++ y := by unfold joinS; rw [if_neg (ne_true_of_eq_false h), if_neg h2, if_pos h3]
theorem joinS_3 {x y : Str} (h : Txt.startswith y (Str.ofString "/") = false) (h2 : (x.length : Int) ≠ 0) (h3 : Txt.endswith x (Str.ofString "/") = false) : joinS x y = x ++ (Str.ofString "/" ++ y) := by unfold joinS; rw [if_neg (ne_true_of_eq_false h), if_neg h2, if_neg (ne_true_of_eq_false h3)]
theorem joinS_4 {x y : Str} (h : Txt.startswith y (Str.ofString "/") = false) (h2 : (x.length : Int) = 0) : joinS x y = y := by unfold joinS; rw [if_neg (ne_true_of_eq_false h), if_pos h2]
theorem joinS_len (x y : Str) : (joinS x y).length ≤ x.length + y.length + 1 := by
  unfold joinS
  split
  · omega
  · split
    · omega
    · split
      · rw [Str.length_append]; omega
      · rw [Str.length_append, Str.length_append]; show x.length + (1 + y.length) ≤ _; omega
theorem join_spec (x y : Str) (t u : Tok) : Ctr w mean mg mb 165 2 [.str x t, .str y u] (fun _ _ => x.length ≤ 100000 ∧ y.length ≤ 1000) (fun _ _ r => ∃ t', r = .str (joinS x y) t') := by
  intro dp un fr gd h₀ s Q E hd hu hb hkp hp hret
  obtain ⟨hx, hy⟩ := hp
  refine' enterS { cls := .type "tuple", data := .seq #[.str y u] } (fun D => [(Str.ofString "a", .str x t), (Str.ofString "p", .ref D)]) hb hkp rfl ?k6 ?k7 ?k8 ?k9 ?kB ?c2 ?c3 ?c4 ?c5 ?_
  (case k6 => k_is)
  (case k7 => k_is)
  (case k8 => walk_at "ROOM")
  (case k9 => rfl)
  (case kB => exact fun _ => locs rfl)
  (case c5 => decide)
  (case c2 => exact rfl)
  (case c3 => exact rfl)
  (case c4 => exact rfl)
  intro D g L h₁ tk F N X T kg kback klt
  have nh : NoH := ⟨⟩
  k_steps
  all_goals refine hret _ _ _ (kback L _ _ (Fr.keep (by k_asm)) (by k_asm) (by lcg_sub)) (str_ex ?_)
  · exact (joinS_1 (by assumption)).symm
  · exact (joinS_2 (by assumption) (by assumption) (by assumption)).symm
  · exact (joinS_3 (by assumption) (by assumption) (by assumption)).symm
  · exact (joinS_4 (by assumption) (by assumption)).symm
local macro_rules | `(tactic| walk_at "call ref") => `(tactic| (k_here; k_dflt (refine' ctr_use (join_spec _ _ _ _) ?zF ?zN ?zX ?zT ?zd ?zu ?zp ?_; walk_at "USE"; (case zp => first | assumption | (constructor <;> omega)); k_whole; intro r h' tk' F' N' kp hR; obtain ⟨t', hR1⟩ := hR; subst hR1; clear kp; (try k_sweep); (try k_fold))))
def DnJ (l : Addr) (o : Obj) (x : Str) (ss : List Str) (i : Nat) (m : Str → Option Value) (led : List (Addr × Obj)) : Prop :=
  ∃ (p : Str) (tp : Tok), m (Str.ofString "place") = some (.str p tp) ∧ led = [(l, o)] ∧ (ss.take i).foldl joinS x = p ∧ p.length ≤ x.length + 3 * i
theorem down_spec (x : Str) (t : Tok) (l : Addr) (nn : Nat) (vs : List Value) (ss : List Str) (hS : StrsAre vs ss) (h2 : ∀ y ∈ ss, y.length ≤ 2) : Ctr w mean mg mb 231 3 [.str x t, .ref l] (fun h₀ h => New h₀ h l (W.listOf vs.toArray nn) ∧ x.length ≤ 50000 ∧ ss.length ≤ 5000) (fun _ _ r => ∃ t', r = .str (ss.foldl joinS x) t') := by
  intro dp un fr gd h₀ s Q E hd hu hb hkp hp hret
  obtain ⟨hp, hx, hsl⟩ := hp
  refine' enter [(l, W.listOf vs.toArray nn)] [(Str.ofString "place", .str x t), (Str.ofString "names", .ref l)] hb hkp (List.forall_mem_cons.mpr ⟨hp, fun _ h => nomatch h⟩) ?k6 ?k7 ?k8 ?k9 ?kB ?c2 ?c3 ?c4 ?c5 ?_
  walk_at "ENTER"
  intro g L h₁ tk F N X T kg kback knew klt
  k_steps
  refine Hold.mk (For_invV g rfl rfl ?_)
  k_steps
  refine Hold.mk ?_
  rename News _ _ _ _ => N1; rename Fr _ _ _ _ => F1
  refine for_led (DnJ l (W.listOf vs.toArray nn) x ss) rfl F1 N1 (.head _) (fun i m led h => by obtain ⟨_, _, _, rfl, _⟩ := h; exact .head _) ⟨_, _, rfl, rfl, rfl, Nat.le_refl _⟩ ?_ ?_
  · clear N1 F1
    rintro I i v m₁ led oI h tk hv ⟨p, tp, e1, rfl, e2, hpl⟩ hoff F₂ N₂
    obtain ⟨y, ty, hy, rfl⟩ := strsAre_get hS i v (by simpa using hv)
    replace F₂ := fr_known [(Str.ofString "name", .str y ty), (Str.ofString "place", .str p tp)] F₂ (List.forall_mem_cons.mpr ⟨rfl, List.forall_mem_cons.mpr ⟨e1, fun _ h => nomatch h⟩⟩)
    dsimp only [kstB] at F₂
    have hyl := h2 y (List.mem_of_getElem? hy)
    have hil := (List.getElem?_eq_some_iff.mp hy).1
    k_steps
    rename News _ _ _ _ => N9; rename Fr _ _ _ _ => F9
    refine TEnd.mk [_] F9 N9 (fun _ h => h) hoff ⟨_, _, rfl, rfl, ?_, ?_⟩
    · rw [List.take_add_one, hy, List.foldl_append, e2]; rfl
    · have := joinS_len p y; omega
  · clear N1 F1
    rintro m₁ led h tk ⟨p, tp, e1, rfl, e2, hpl⟩ F₂ N₂
    replace F₂ := fr_known [(Str.ofString "place", .str p tp)] F₂ (List.forall_mem_cons.mpr ⟨e1, fun _ h => nomatch h⟩)
    dsimp only [kstB] at F₂
    k_steps
    refine hret _ _ _ (kback L _ _ (Fr.keep (by k_asm)) (by k_asm) (by lcg_sub)) (str_ex ?_)
    rw [← e2, List.size_toArray, hS.length, List.take_length]
local macro_rules | `(tactic| k_ne) => `(tactic| (refine neN ?_; (try dsimp only); with_reducible first | exact ne_d1 | exact Ne.symm ne_d1 | exact ne_d2 | exact Ne.symm ne_d2 | exact ne_d3 | exact Ne.symm ne_d3 | assumption | (refine Ne.symm ?_; assumption) | (refine Nat.ne_of_lt ?_; assumption) | (refine Nat.ne_of_gt ?_; assumption) | walk_at "PICK" | omega))
/-- the manager: its object and its dict -/
abbrev manD (hs : Int) (tk : Tok) (v : Value) : Obj := dictOf [⟨hs, .str (Str.ofString "passwd") tk, v⟩] 1
def climbGo (ps : List Str) : Nat → Str → List Str
  | 0, x => [x]
  | k + 1, x => if (ps.filter fun p => !suburi (Str.ofString "h") x (Str.ofString "h") p) = [] then [x] else x :: climbGo ps k (headOf x)
theorem new_ofC {h₀ h : Heap} {L a : Addr} {o : Obj} {news : List (Addr × Obj)} (N : News h₀ L h news) (hm : (a, o) ∈ news) : New h₀ h a o := ⟨(N _ hm).2.2, (N _ hm).1⟩
local macro_rules | `(tactic| walk_at "call ref") => `(tactic| (k_here; k_dflt (refine' ctr_use1 (split_spec _ _) ?zF ?zN ?zX ?zT ?zd ?zu ?zp ?_; walk_at "USE"; (case zp => first | assumption | omega); k_whole; intro r a o h' tk' F' N' l1 hC; obtain ⟨t1, t2, hC1, hC2⟩ := hC; subst hC1; subst hC2; (try simp only [AllNe, and_true] at l1); (try k_sweep); (try k_fold))))
local macro_rules | `(tactic| walk_at "call ref") => `(tactic| (k_here; k_dflt (refine' ctr_use (suburi_spec _ _ _ _ _ _ _ _ _ _ _ ?zo1 ?zo2 ?zo3 ?zo4) ?zF ?zN ?zX ?zT ?zd ?zu ?zp ?_; walk_at "USE"; (case zp => exact ⟨new_ofC (by k_asm) (by k_mem), new_ofC (by k_asm) (by k_mem), by omega⟩); (case zo1 => first | assumption | decide +kernel); (case zo2 => first | assumption | decide +kernel); (case zo3 => first | assumption | decide +kernel); (case zo4 => first | assumption | decide +kernel); k_whole; intro r h' tk' F' N' kp hR; subst hR; clear kp; (try k_sweep); (try k_fold))))
theorem last_item {prog : Program} {A : Around} {E : Value → Shared → Prop} {s : Shared} {value slice : PySem.Expr} {l : Addr} {us : List Value} {v : Value} {u : Tok} {Q : Value → Shared → Prop}
    (hl : s.heap.IsList l (us ++ [v]).toArray) (hn : us.length < 10000) (h : Q v s)
    (hs : subscripted slice false (.ref l) (.int (-1) u) = operate [.ref l, .int (-1) u] (getItem (.ref l) (.int (-1) u)) := by with_unfolding_all rfl) :
    wpAny (model prog w) A (subscriptTail value slice (.ref l) (.int (-1) u)) Q E s :=
  tail_any hl.typeIs slot_list_getitem.lookup (wpAny_getItem_list_neg hl (by decide) (by rw [List.size_toArray, List.length_append, List.length_singleton]; omega) (by decide) (by
    rw [List.size_toArray, List.length_append, List.length_singleton, show (-1 + ((us.length + 1 : Nat) : Int)).toNat = us.length by omega]; simp) h) hs
local macro_rules | `(tactic| walk_at "subscriptTail") => `(tactic| (k_here; (with_reducible show wpAny _ _ (subscriptTail _ _ (Value.ref _) (Value.int (-1) _)) _ _ _); k_dflt (refine' last_item ?k1 ?k2 ?_ ?k6; (case k1 => exact News.isList (by k_asm) (by k_mem)); (case k2 => omega); (case k6 => with_unfolding_all rfl); k_whole)))
theorem strs_depth : ∀ xs : List Str, PyData.depthAll (xs.map PyData.str) = 0
  | [] => rfl
  | x :: r => by simp [PyData.depthAll, PyData.depth, strs_depth r]
theorem strs_canLay : ∀ xs : List Str, (∀ p ∈ xs, PyData.strOk p = true) → PyData.canLayAll0 (xs.map PyData.str) = true
  | [], _ => rfl
  | x :: r, h => by simp [PyData.canLayAll0, PyData.canLay0, h x (.head _), strs_canLay r fun p hp => h p (.tail _ hp)]
theorem strs_shaped {xs : List Str} (h : ∀ p ∈ xs, PyData.strOk p = true) : SeqAt.shaped (.list (xs.map PyData.str)) = true := by
  simp [SeqAt.shaped, PyData.canLay0, PyData.depth, strs_depth, strs_canLay xs h]
theorem strs_eqv (xs ys : List Str) : PyData.eqvAll (xs.map PyData.str) (ys.map PyData.str) = decide (xs = ys) := by
  induction xs generalizing ys with
  | nil => cases ys <;> simp [PyData.eqvAll]
  | cons x r ih =>
    cases ys with
    | nil => simp [PyData.eqvAll]
    | cons y t => rw [List.map_cons, List.map_cons, PyData.eqvAll, PyData.eqv, ih t, Bool.eq_iff_iff]; simp
theorem reads_strs {h : Heap} {a : Addr} {vs : List Value} {xs : List Str} (hl : h.IsList a vs.toArray) (hS : StrsAre vs xs) : ∃ as, Reads h (.ref a) (.list (xs.map PyData.str)) as := by
  obtain ⟨o, ho, hc, n, hd⟩ := hl
  exact ⟨_, reads_list_at ho hc hd (by simpa using StrsAre.reads _ hS)⟩
theorem eq_strs {prog : Program} {A : Around} {E : Value → Shared → Prop} {s : Shared} {a b : Addr} {vs us : List Value} {xs ys : List Str} {Q : Value → Shared → Prop} (h1 : s.heap.IsList a vs.toArray) (h2 : s.heap.IsList b us.toArray) (S1 : StrsAre vs xs) (S2 : StrsAre us ys)
    (o1 : ∀ p ∈ xs, PyData.strOk p = true) (o2 : ∀ p ∈ ys, PyData.strOk p = true) (hu : A.units + 64 < cLine) (h : Q (.bool (decide (xs = ys))) s) : wpAny (model prog w) A (compareOp .Eq (.ref a) (.ref b)) Q E s := by
  obtain ⟨_, r1⟩ := reads_strs h1 S1
  obtain ⟨_, r2⟩ := reads_strs h2 S2
  refine eq_dataH r1 r2 (strs_shaped o1) (strs_shaped o2) hu ?_
  simp only [PyData.eqv, strs_eqv]; exact h
theorem ne_strs {prog : Program} {A : Around} {E : Value → Shared → Prop} {s : Shared} {a b : Addr} {vs us : List Value} {xs ys : List Str} {Q : Value → Shared → Prop} (h1 : s.heap.IsList a vs.toArray) (h2 : s.heap.IsList b us.toArray) (S1 : StrsAre vs xs) (S2 : StrsAre us ys)
    (o1 : ∀ p ∈ xs, PyData.strOk p = true) (o2 : ∀ p ∈ ys, PyData.strOk p = true) (hu : A.units + 64 < cLine) (h : Q (.bool (!decide (xs = ys))) s) : wpAny (model prog w) A (compareOp .NotEq (.ref a) (.ref b)) Q E s := by
  obtain ⟨_, r1⟩ := reads_strs h1 S1
  obtain ⟨_, r2⟩ := reads_strs h2 S2
  refine ne_dataH r1 r2 (strs_shaped o1) (strs_shaped o2) hu ?_
  simp only [PyData.eqv, strs_eqv]; exact h
local macro_rules | `(tactic| walk_at "compareOp Eq ref ref") => `(tactic| (k_here; k_dflt (refine' eq_strs ?zA ?zB ?zS1 ?zS2 ?zo1 ?zo2 ?zu ?_; (case zA => exact News.isList (by k_asm) (by k_mem)); (case zB => exact News.isList (by k_asm) (by k_mem)); (case zS1 => first | assumption | exact .nil); (case zS2 => first | assumption | exact .nil); (case zo1 => first | assumption | exact (fun _ h => nomatch h)); (case zo2 => first | assumption | exact (fun _ h => nomatch h)); (case zu => (dsimp only [AR, Around.deeper, Around.in1, cLine]; omega)); k_whole)))
local macro_rules | `(tactic| walk_at "compareOp NotEq ref ref") => `(tactic| (k_here; k_dflt (refine' ne_strs ?zA ?zB ?zS1 ?zS2 ?zo1 ?zo2 ?zu ?_; (case zA => exact News.isList (by k_asm) (by k_mem)); (case zB => exact News.isList (by k_asm) (by k_mem)); (case zS1 => first | assumption | exact .nil); (case zS2 => first | assumption | exact .nil); (case zo1 => first | assumption | exact (fun _ h => nomatch h)); (case zo2 => first | assumption | exact (fun _ h => nomatch h)); (case zu => (dsimp only [AR, Around.deeper, Around.in1, cLine]; omega)); k_whole)))
def ClJ (L l man dm : Addr) (ol om1 om2 : Obj) (ps : List Str) (x : Str) (om : Obj) (i : Nat) (m : Str → Option Value) (led : List (Addr × Obj)) : Prop :=
  ∃ (a : Addr) (ow : Obj) (us : List Value) (ws : List Str) (y : Str) (ty : Tok) (nn : Nat), m (Str.ofString "places") = some (.ref l) ∧ led = [(a, W.listOf (us ++ [Value.str y ty]).toArray nn), (L + 1 + 1, ow), (L + 1, om), (l, ol), (man, om1), (dm, om2)] ∧
    ow.data = .cell (some (.ref a)) ∧ @LT.lt Nat _ (L + 1 + 1) a ∧ @LT.lt Nat _ (L + 1) a ∧ @LT.lt Nat _ l a ∧ @LT.lt Nat _ man a ∧ @LT.lt Nat _ dm a ∧ StrsAre us ws ∧ us.length = i ∧ climbGo ps 20 x = ws ++ climbGo ps (20 - i) y ∧ y.length ≤ 1000 ∧ PyData.strOk y = true
theorem climb_spec (man dm l : Addr) (hs : Int) (tkd : Tok) (vd : Value) (x : Str) (t : Tok) (nn : Nat) (vs : List Value) (ps : List Str) (hS : StrsAre vs ps) (hok : ∀ p ∈ ps, PyData.strOk p = true) (hx : PyData.strOk x = true) (hlen : ps.length ≤ 100) :
    Ctr w mean mg mb 224 4 [.ref man, .str x t, .ref l] (fun h₀ h => New h₀ h man (instObj 67 dm) ∧ New h₀ h dm (manD hs tkd vd) ∧ New h₀ h l (W.listOf vs.toArray nn) ∧ x.length ≤ 1000)
    (fun h h' r => ∃ a o, New h h' a o ∧ ∃ us nn, r = .ref a ∧ o = W.listOf (List.toArray us) nn ∧ StrsAre us (climbGo ps 20 x)) := by
  intro dp un fr gd h₀ s Q E hd hu hb hkp hp hret
  obtain ⟨p1, p2, p3, hxl⟩ := hp
  refine' enterC [(l, W.listOf vs.toArray nn), (man, instObj 67 dm), (dm, manD hs tkd vd)] [(Str.ofString "manager", .ref man), (Str.ofString "place", .str x t), (Str.ofString "places", .ref l)] hb hkp (List.forall_mem_cons.mpr ⟨p3, List.forall_mem_cons.mpr ⟨p1, List.forall_mem_cons.mpr ⟨p2, fun _ h => nomatch h⟩⟩⟩) ?k6 ?k7 ?k8 ?k9 ?kB ?kD ?c2 ?c3 ?c4 ?_
  walk_at "ENTERC"
  intro g L h₁ tk cells F N Y X T kg kback knew klt
  have hY := CellsAre.two Y
  obtain ⟨oW, oM, hE, d1, d2⟩ := hY
  subst hE
  clear Y
  simp only [List.cons_append, List.nil_append] at N
  replace d1 : oW.data = .cell none := d1
  replace d2 : oM.data = .cell (some (.ref man)) := d2
  k_lt klt
  k_steps
  refine Hold.mk (For_invV g rfl rfl ?_)
  k_steps
  refine Hold.mk ?_
  rename News _ _ _ _ => N1; rename Fr _ _ _ _ => F1; rename IsRange _ _ _ _ _ _ _ _ => hR
  rename (_ ∧ _) => hlt; rename (Obj.data _ = Data.cell (some _)) => hdW
  refine for_range (ClJ L l man dm _ _ _ ps x oM) (n := 20) rfl hR (by decide) (by decide) F1 N1 ⟨_, _, [], [], x, t, _, rfl, rfl, hdW, hlt.1, hlt.2.1, hlt.2.2.1, hlt.2.2.2.1, hlt.2.2.2.2, .nil, rfl, rfl, hxl, hx⟩ ?_ ?_
  · clear N1 F1 hlt hdW
    rintro I i ti m₁ led oI h tk hi ⟨a, ow, us, ws, y, ty, nn', e1, rfl, hdW, l1, l2, l3, l4, l5, hU, hUl, hcl, hyl, hyo⟩ hoff F₂ N₂
    replace F₂ := fr_known [(Str.ofString "places", .ref l)] F₂ (List.forall_mem_cons.mpr ⟨e1, fun _ h => nomatch h⟩)
    dsimp only [kstB] at F₂
    simp only [AllNe, and_true] at hoff
    have hvl := hS.length
    k_steps
    rename Fr _ _ _ _ => F3
    refine csrc_led (fun j ys led => led = [(I, oI), (a, W.listOf (us ++ [Value.str y ty]).toArray nn'), (L + 1 + 1, ow), (L + 1, oM), (l, W.listOf vs.toArray nn), (man, instObj 67 dm), (dm, manD hs tkd vd)] ∧ StrsAre ys ((ps.take j).filter fun p => !suburi (Str.ofString "h") y (Str.ofString "h") p)) rfl F3 N₂ (by k_mem) (by rw [List.size_toArray, sizeLine_eq]; omega) ⟨rfl, .nil⟩ (fun _ _ _ h => by rw [h.1]; k_mem) ?_ ?_
    · intro g2 j hj
      rintro v I2 oI2 C oC D m₂ ys led h2 tk2 E' hv ⟨rfl, hys⟩ hC hx2 F4 N4 off4 ne4
      obtain ⟨p, tp, hp, rfl⟩ := strsAre_get hS j v (by simpa using hv)
      have hpo := hok p (List.mem_of_getElem? hp)
      have off5 := off4
      simp only [LCg.Off3, and_true] at off4
      refine wpAny_tests_one ?_
      clear N₂ F3
      k_steps
      · rename News _ _ _ _ => N9; rename Fr _ _ _ _ => F9; rename (suburi _ _ _ _ = true) => hsu
        refine CEnd.mk _ F9 N9 (by lcg_sub) off5 ⟨rfl, ?_⟩
        rw [List.take_add_one, hp, List.filter_append]
        simpa [hsu] using hys
      · rename News _ _ _ _ => N9; rename Fr _ _ _ _ => F9; rename (suburi _ _ _ _ = false) => hsu
        refine CEnd.mk _ F9 N9 (by lcg_sub) off5 ⟨rfl, ?_⟩
        rw [List.take_add_one, hp, List.filter_append]
        refine hys.append' ?_
        simpa [hsu] using StrsAre.cons p tp .nil
    · rintro g2 ys led ⟨rfl, hys⟩
      rw [List.size_toArray, hvl, List.take_length] at hys
      intro D h2 tk2 F4 N4 off4
      simp only [LCg.Off1, and_true] at off4
      clear N₂ F3
      have hfo : ∀ p ∈ (ps.filter fun p => !suburi (Str.ofString "h") y (Str.ofString "h") p), PyData.strOk p = true := fun p hp => hok p (List.mem_filter.mp hp).1
      dsimp only
      k_steps
      · rename News _ _ _ _ => N9; rename Fr _ _ _ _ => F9; rename (decide _ = true) => hfe
        refine hret _ _ _ (kback L _ _ F9.keep N9 (by lcg_sub)) ⟨_, _, knew L _ _ _ _ N9 (by k_mem) ?_, _, _, rfl, rfl, ?_⟩
        · simp only [List.forall_mem_cons, List.not_mem_nil, false_implies, implies_true, and_true]
          exact ⟨neN (by omega), neN (by omega), neN (by omega)⟩
        · rw [hcl, show 20 - i = (19 - i) + 1 by omega, climbGo, if_pos (of_decide_eq_true hfe)]
          exact hU.append' (.cons _ _ .nil)
      · rename News _ _ _ _ => N9; rename Fr _ _ _ _ => F9; rename (decide _ = false) => hfe
        simp only [List.push_toArray] at N9
        refine TEnd.mk [_, _, _, _, _, _] F9 N9 (by lcg_sub) ⟨hoff.1, hoff.2.1, hoff.2.2.1, hoff.2.2.2.1, hoff.2.2.2.2.1, hoff.2.2.2.2.2, trivial⟩ ⟨a, ow, us ++ [Value.str y ty], ws ++ [y], headOf y, _, _, rfl, rfl, hdW, l1, l2, l3, l4, l5, hU.append' (.cons _ _ .nil), ?_, ?_, ?_, headOf_ok hyo⟩
        · rw [List.length_append, List.length_singleton, hUl]
        · rw [hcl, show 20 - i = (20 - (i + 1)) + 1 by omega, climbGo, if_neg (of_decide_eq_false hfe), List.append_assoc]; rfl
        · have := headOf_len y; omega
  · rintro m₁ led h tk ⟨a, ow, us, ws, y, ty, nn', e1, rfl, hdW, l1, l2, l3, l4, l5, hU, hUl, hcl, hyl, hyo⟩ F₂ N₂
    clear N1 F1 hlt
    k_steps
    rename Fr _ _ _ _ => F9
    refine hret _ _ _ (kback L _ _ F9.keep N₂ (by lcg_sub)) ⟨_, _, knew L _ _ _ _ N₂ (.head _) ?_, _, _, rfl, rfl, ?_⟩
    · simp only [List.forall_mem_cons, List.not_mem_nil, false_implies, implies_true, and_true]
      exact ⟨neN (by omega), neN (by omega), neN (by omega)⟩
    · rw [hcl]
      exact hU.append' (.cons _ _ .nil)
local macro_rules | `(tactic| k_ne) => `(tactic| (refine neN ?_; (try dsimp only); omega))
section
section
variable {prog : Program} {w : World} {A : Around} {E : Value → Shared → Prop} {s : Shared}
theorem newSet_my {Q : Value → Shared → Prop} (h : Q (.ref s.heap.objs.size) { s with heap := s.heap.push (setT0 (!w.params.followText "set-order")) }) : wpAny (model prog w) A (newSet (.type "set")) Q E s := by
  unfold newSet setsByText
  refine wpAny_bind (wpAny_bind (wpAny_askSetting (wpAny_pure ?_)))
  dsimp only
  simp only [newObj]
  exact wpAny_bind (wpAny_alloc (wpAny_pure h))
theorem codeAny_compStart_set {R : Result → Shared → Prop} {elt target iter ifs rest scope pos it acc env}
    (h0 : codeAny (model prog w) A (.compLoop (.SetComp elt (⟨target, iter, ifs, 0⟩ :: rest) scope pos) 0 it acc env) R s)
    (h : wpAny (model prog w) A (pyIter it) (fun it' s' => codeAny (model prog w) A (.compLoop (.SetComp elt (⟨target, iter, ifs, 0⟩ :: rest) scope pos) 0 it' acc env) R s')
      (notedBy (model prog w) A env fun x s' => R (.error x) s') s) :
    codeAny (model prog w) A (.compStart (.SetComp elt (⟨target, iter, ifs, 0⟩ :: rest) scope pos) 0 it acc env) R s := by
  refine codeAny_of_tree ?_
  show wpAny _ A ((compStart (.SetComp elt (⟨target, iter, ifs, 0⟩ :: rest) scope pos) 0 it acc env).onRaise (fun x => do noteFrame x env; standAt theWindowsPlace)) _ _ s
  refine wpAny_notedAt ?_
  unfold compStart
  show wpAny _ A (ask >>= _) _ _ s
  refine wpAny_bind (wpAny_askSetting (wpAny_ite ?_))
  split
  · exact wpAny_pure ⟨rfl, h0⟩
  · refine wpAny_bind (wpAny_rule ?_)
    show wpAny _ _ (standAt iter.pos >>= _) _ _ s
    refine wpAny_bind (wpAny_standAt (wpAny_bind ?_))
    refine wpAny_mono h (fun _ _ q => ?_) fun _ _ q => q
    exact wpAny_pure ⟨rfl, q⟩
theorem codeAny_compLoop_set {R : Result → Shared → Prop} {elt target iter : Expr} {scope : Scope} {pos : Pos} {it acc : Value} {env : Env} (I : Nat → Shared → Prop)
    (turn : ∀ n s, I n s → wpAny (model prog w) A (pyNext it) (fun r s₁ => match r with
      | none => R (.ok .next) s₁
      | some v => wpAny (model prog w) A (assign target env v) (fun _ s₂ => wpAny (model prog w) A (eval elt env) (fun x s₄ =>
              wpAny (model prog w) A (call (.builtin "set.add") [acc, x]) (fun _ s₅ => ∃ m, m < n ∧ I m s₅) (notedBy (model prog w) A env fun e s' => R (.error e) s') s₄) (notedBy (model prog w) A env fun e s' => R (.error e) s') s₂)
            (notedBy (model prog w) A env fun e s' => R (.error e) s') s₁) (notedBy (model prog w) A env fun e s' => R (.error e) s') s)
    (n : Nat) (h : I n s) (ht : ∀ v, letOwnedTupleGo target it v = pure () := by intro _; rfl) :
    codeAny (model prog w) A (.compLoop (.SetComp elt [⟨target, iter, [], 0⟩] scope pos) 0 it acc env) R s := by
  refine codeAny_loop rfl I (fun n s hI => ?_) n h
  show wpAny _ A ((compTurn (.SetComp elt [⟨target, iter, [], 0⟩] scope pos) 0 it acc env).onRaise (fun x => do noteFrame x env; theTreesLotGoes x)) _ _ s
  refine wpAny_noted ?_
  unfold compTurn
  dsimp only
  refine wpAny_bind (wpAny_standAt (wpAny_bind (wpAny_mono (turn n s hI) (fun r s₁ h₁ => ?_) fun _ _ h' => h')))
  cases r with
  | none => exact wpAny_pure h₁
  | some v =>
    refine wpAny_bind (wpAny_of_eq (ht v) ?_)
    refine wpAny_bind (wpAny_mono h₁ (fun _ s₂ h₂ => wpAny_bind (wpAny_pure ?_)) fun _ _ h' => h')
    exact wpAny_bind (wpAny_bind (wpAny_mono h₂ (fun x s₄ h₄ => wpAny_bind (wpAny_standAt (wpAny_bind (wpAny_mono h₄ (fun _ s₅ h₅ => wpAny_pure (wpAny_pure ⟨rfl, h₅⟩)) fun _ _ h' => h')))) fun _ _ h' => h'))
end
def STurn (prog : Program) (w : World) (A : Around) (h₀ : Heap) (L : Addr) (m : Str → Option Value) (env : Env) (elt : Expr) (x : Str) (scope : Scope) (cl : List (Str × Addr)) (s : Shared) (P : Nat → Value → Prop) (led : List (Addr × Obj)) (i : Nat) : Prop :=
  ∀ v I oI C oC D oD m₂ h tk (E' : Value → Shared → Prop), P i v → LCg.NsObj oC m₂ → m₂ x = some v → Fr h₀ L h m → News h₀ L h ((I, oI) :: (C, oC) :: (D, oD) :: led) → LCg.Off3 I C D led → ((@Ne Nat I C) ∧ (@Ne Nat I D) ∧ (@Ne Nat C D)) →
    wpAny (model prog w) A (eval elt (compEnvC scope cl C env)) (fun y s₄ => y = .bool true ∧ CEnd h₀ L m s I oI C oC D oD (fun led' => led' = led) s₄) E' { s with heap := h, toks := tk }
section
variable {prog : Program} {w : World} {A : Around} {E : Value → Shared → Prop} {s : Shared} {h₀ : Heap} {L : Addr} {m : Str → Option Value} {env : Env}
def setAt (fl : Bool) (i : Nat) : Obj := if i = 0 then setT0 fl else setT1 fl
theorem set_block {elt iter : Expr} {x : Str} {px : Pos} {scope : Scope} {cl : List (Str × Addr)} {pos : Pos} {s₂ : Shared} {I : Addr} {fp : List Addr} {n : Nat} {P : Nat → Value → Prop} {St : Nat → Heap → Prop} {led : List (Addr × Obj)} {RR : Value → Addr → Result → Shared → Prop}
    (W : Walks prog w A I fp [I] n P St) (hn : 0 < n) (hIo : ∀ i h, St i h → ∃ o, h.get? I = some o)
    (hSt : ∀ i h h' o, St i h → h.get? I = some o → h'.get? I = some o → News h₀ L h' led → St i h')
    (hcell : ∀ y ∈ scope.names, y.2 ≠ .cell) (hkind : scope.kind = .function) (hx : scope.names.lookup x = some .local) (hst : St 0 s₂.heap) (hfp : ∀ b ∈ fp, b < s₂.heap.objs.size)
    (F : Fr h₀ L s₂.heap m) (N : News h₀ L s₂.heap led) (hIL : L ≠ I) (hI₀ : h₀.get? I = none) (off : ∀ p ∈ led, p.1 ≠ I)
    (turn : ∀ i, i < n → STurn prog w A h₀ L m env elt x scope cl s₂ P led i)
    (hRR : ∀ D C h tk m', Fr h₀ L h m → News h₀ L h ((D, setT1 (!w.params.followText "set-order")) :: led) → LCg.Off1 D led → h.Ns C m' → h₀.get? C = none → h₀.get? D = none → C ≠ L → D ≠ L → C ≠ D → (∀ p ∈ led, p.1 ≠ C) → RR (.ref D) C (.ok .next) { s₂ with heap := h, toks := tk }) :
    wpAny (model prog w) A (newSet (.type "set")) (fun acc s₃ => wpAny (model prog w) A (newFunctionEnv scope env.globals cl [] env.qual none .none (some env)) (fun cenv s₄ =>
      codeAny (model prog w) A (.compStart (.SetComp elt [⟨.Name x px, iter, [], 0⟩] scope pos) 0 (.ref I) acc { cenv with scope := relabel scope env }) (RR acc cenv.locals) s₄) E s₃) E s₂ := by
  refine newSet_my (wpAny_newFunctionEnv hcell (by intro y hy; simp at hy) (fun h₁ hns₁ hsb₁ => ?_) hkind)
  generalize (!w.params.followText "set-order") = fl at hRR hns₁ hsb₁ ⊢
  dsimp only at hns₁ hsb₁ ⊢
  generalize hH2 : s₂.heap.push (setT0 fl) = H2 at hns₁ hsb₁ ⊢
  have hC : H2.objs.size = s₂.heap.objs.size + 1 := by rw [← hH2, Heap.size_push]
  have old : Kp s₂.heap h₁ := fun b o e => hsb₁.extBut b o (neN (by have := ltN (Heap.lt_size e); omega)) (Heap.get?_push_of_some _ (hH2 ▸ Heap.get?_push_of_some _ e))
  have hacc : h₁.get? s₂.heap.objs.size = some (setT0 fl) := hsb₁.extBut _ _ (neN (by omega)) (Heap.get?_push_of_some _ (hH2 ▸ Heap.get?_push_size _ rfl))
  have hIlt : @LT.lt Nat _ I s₂.heap.objs.size := hfp I (W.sub I (List.mem_singleton.mpr rfl))
  have hst₁ : St 0 h₁ := W.frame _ _ _ hst fun b _ o e => old b o e
  have fresh₀ : ∀ a : Nat, s₂.heap.objs.size ≤ a → h₀.get? a = none := fun a ha => by
    cases e : h₀.get? a with
    | none => rfl
    | some o' => have := ltN (Heap.lt_size (F.keep a o' e)); omega
  have hD₀ : h₀.get? s₂.heap.objs.size = none := fresh₀ _ (Nat.le_refl _)
  have hC₀ : h₀.get? H2.objs.size = none := fresh₀ _ (by omega)
  have hLlt : @LT.lt Nat _ L s₂.heap.objs.size := F.ns.lt
  have hCL : H2.objs.size ≠ L := neN (by omega)
  have hDL : s₂.heap.objs.size ≠ L := neN (by omega)
  have ne : (@Ne Nat I H2.objs.size) ∧ (@Ne Nat I s₂.heap.objs.size) ∧ (@Ne Nat H2.objs.size s₂.heap.objs.size) := ⟨by omega, by omega, by omega⟩
  have off' : LCg.Off3 I H2.objs.size s₂.heap.objs.size led := LCg.Off3.of fun p hp => by
    have := ltN (Heap.lt_size (N p hp).1)
    exact ⟨off p hp, neN (by omega), neN (by omega)⟩
  have off3 := off'.mem
  have loop : ∀ s₃ : Shared, s₃ = { s₂ with heap := h₁, toks := s₂.toks + ([] : List (Str × Value)).length } →
      codeAny (model prog w) A (.compLoop (.SetComp elt [⟨.Name x px, iter, [], 0⟩] scope pos) 0 (.ref I) (.ref s₂.heap.objs.size) (compEnvC scope cl H2.objs.size env)) (RR (.ref s₂.heap.objs.size) H2.objs.size) s₃ := by
    rintro s₃ rfl
    refine codeAny_compLoop_set
      (fun k s' => ∃ h' tk i m', s' = { s₂ with heap := h', toks := tk } ∧ i ≤ n ∧ k = n + 1 - i ∧ St i h' ∧ Fr h₀ L h' m ∧ h'.Ns H2.objs.size m' ∧ News h₀ L h' ((s₂.heap.objs.size, setAt fl i) :: led)) ?_ (n + 1)
      ⟨h₁, _, 0, _, rfl, Nat.zero_le _, rfl, hst₁, F.keeps old, hns₁, fun p hp => ?_⟩
    · rintro k s' ⟨h', tk, i, m', rfl, hi, rfl, hst', F', hn', N'⟩
      by_cases hlt : i < n
      · refine W.item i _ _ _ hlt hst' fun v h₂ tk₂ hPv hst₂ hk₂ => ?_
        refine wpAny_assign_Name (wpAny_storeName_local (lookup_relabel_local hx) (hn'.at' fun o e => hk₂ _ o (by simpa using Ne.symm ne.1) e) (fun h₃ hn₃ hs₃ => ?_) (by simp [compEnvC, relabel, hkind]))
        have hst₃ : St (i + 1) h₃ := W.frame _ _ _ hst₂ fun b hb o e => hs₃.extBut b o (fun q => by have := ltN (hfp b hb); have q' : @Eq Nat b H2.objs.size := q; omega) e
        obtain ⟨oI, heI⟩ := hIo _ _ hst₃
        obtain ⟨oC, heC, hoC⟩ := LCg.ns_obj hn₃
        have F₃ : Fr h₀ L h₃ m := (LCg.fr_but F' hk₂ hIL hI₀).change hs₃ hCL hC₀
        have N₂ : News h₀ L h₂ ((s₂.heap.objs.size, setAt fl i) :: led) := LCg.news_but N' hk₂ fun p hp => by
          rcases List.mem_cons.mp hp with rfl | hp
          · exact Ne.symm ne.2.1
          · exact (off3 p hp).1
        have N₃ : News h₀ L h₃ ((I, oI) :: (H2.objs.size, oC) :: (s₂.heap.objs.size, setAt fl i) :: led) := fun p hp => by
          rcases List.mem_cons.mp hp with rfl | hp
          · exact ⟨heI, Ne.symm hIL, hI₀⟩
          · rcases List.mem_cons.mp hp with rfl | hp
            · exact ⟨heC, hCL, hC₀⟩
            · have z := N₂ p hp
              refine ⟨hs₃.extBut _ _ ?_ z.1, z.2⟩
              rcases List.mem_cons.mp hp with rfl | hp
              · exact Ne.symm ne.2.2
              · exact (off3 p hp).2.1
        refine wpAny_mono (turn i hlt v I oI H2.objs.size oC s₂.heap.objs.size _ _ h₃ _ _ hPv hoC (by simp) F₃ N₃ off' ne) (fun y s₅ h₅ => ?_) fun _ _ e => e
        obtain ⟨rfl, h₄, tk₄, led₄, rfl, F₄, N₄, off₄, rfl⟩ := h₅
        have zI := (N₄ (I, oI) List.mem_cons_self).1
        have zC := (N₄ (H2.objs.size, oC) (List.mem_cons_of_mem _ List.mem_cons_self)).1
        have zD := (N₄ (s₂.heap.objs.size, setAt fl i) (List.mem_cons_of_mem _ (List.mem_cons_of_mem _ List.mem_cons_self))).1
        have N₄' : News h₀ L h₄ led₄ := fun p hp => N₄ p (List.mem_cons_of_mem _ (List.mem_cons_of_mem _ (List.mem_cons_of_mem _ hp)))
        have hst₄ : St (i + 1) h₄ := hSt _ _ _ _ hst₃ heI zI N₄'
        have fin : ∀ h₆ tk₆, Heap.SameBut s₂.heap.objs.size h₄ h₆ → h₆.get? s₂.heap.objs.size = some (setT1 fl) →
            ∃ k, k < n + 1 - i ∧ ∃ h' tk i m', ({ s₂ with heap := h₆, toks := tk₆ } : Shared) = { s₂ with heap := h', toks := tk } ∧ i ≤ n ∧ k = n + 1 - i ∧ St i h' ∧ Fr h₀ L h' m ∧ h'.Ns H2.objs.size m' ∧ News h₀ L h' ((s₂.heap.objs.size, setAt fl i) :: led₄) := fun h₆ tk₆ hs₆ hD₆ => by
          refine ⟨n + 1 - (i + 1), by omega, h₆, tk₆, i + 1, _, rfl, hlt, rfl, W.frame _ _ _ hst₄ fun b hb o e => hs₆.extBut b o (fun q => by have := ltN (hfp b hb); have q' : @Eq Nat b s₂.heap.objs.size := q; omega) e, F₄.change hs₆ hDL hD₀,
            (hoC.ns zC).sameBut hs₆ (neN ne.2.2), fun p hp => ?_⟩
          rcases List.mem_cons.mp hp with rfl | hp
          · exact ⟨hD₆, hDL, hD₀⟩
          · exact ⟨hs₆.extBut _ _ (off3 p hp).2.2 (N₄' p hp).1, (N₄' p hp).2⟩
        by_cases hi0 : i = 0
        · subst hi0
          exact set_first (s := { s₂ with heap := h₄, toks := tk₄ }) zD fun h₆ hs₆ hD₆ => fin h₆ _ hs₆ hD₆
        · have e1 : setAt fl i = setT1 fl := if_neg hi0
          rw [e1] at zD
          exact set_again (s := { s₂ with heap := h₄, toks := tk₄ }) zD (fin h₄ _ (Heap.SameBut.refl ..) zD)
      · obtain rfl : i = n := Nat.le_antisymm hi (Nat.not_lt.mp hlt)
        refine W.done _ _ _ hst' fun h₂ tk₂ hk₂ => ?_
        have e1 : setAt fl i = setT1 fl := if_neg (by omega)
        rw [e1] at N'
        exact hRR _ _ h₂ tk₂ _ (LCg.fr_but F' hk₂ hIL hI₀) (LCg.news_but N' hk₂ fun p hp => by
          rcases List.mem_cons.mp hp with rfl | hp
          · exact Ne.symm ne.2.1
          · exact (off3 p hp).1) off'.one (hn'.at' fun o e => hk₂ _ o (by simpa using Ne.symm ne.1) e) hC₀ hD₀ hCL hDL ne.2.2 (fun p hp => (off3 p hp).2.1)
    · rcases List.mem_cons.mp hp with rfl | hp
      · exact ⟨hacc, hDL, hD₀⟩
      · exact ⟨old _ _ (N p hp).1, (N p hp).2⟩
  exact codeAny_compStart_set (loop _ rfl) (W.self 0 _ _ _ hst₁ (loop _ rfl))
def SSrc (prog : Program) (w : World) (A : Around) (h₀ : Heap) (L : Addr) (m : Str → Option Value) (env : Env) (elt : Expr) (x : Str) (scope : Scope) (cl : List (Str × Addr)) (Q : Value → Shared → Prop) (xv : Value) (s₁ : Shared) : Prop :=
  ∃ (ax : Addr) (arr : Array Value) (led : List (Addr × Obj)), xv = .ref ax ∧ A.handled = none ∧ Fr h₀ L s₁.heap m ∧ News h₀ L s₁.heap led ∧ (ax, tupO arr) ∈ led ∧ 0 < arr.size ∧
      ∀ g, (∀ i, i < arr.size → STurn prog w A h₀ L m env elt x scope cl { s₁ with heap := g } (fun i v => arr[i]? = some v) led i) ∧
        ∀ D h tk, Fr h₀ L h m → News h₀ L h ((D, setT1 (!w.params.followText "set-order")) :: led) → LCg.Off1 D led → Q (.ref D) { s₁ with heap := h, toks := tk }
theorem ssrc_mk {elt : Expr} {x : Str} {scope : Scope} {cl : List (Str × Addr)} {Q : Value → Shared → Prop} {s₁ : Shared} {ax : Addr} {arr : Array Value} {led : List (Addr × Obj)} (hh : A.handled = none) (F : Fr h₀ L s₁.heap m) (N : News h₀ L s₁.heap led) (hm : (ax, tupO arr) ∈ led) (hn : 0 < arr.size)
    (turn : ∀ g i, i < arr.size → STurn prog w A h₀ L m env elt x scope cl { s₁ with heap := g } (fun i v => arr[i]? = some v) led i)
    (fin : ∀ D h tk, Fr h₀ L h m → News h₀ L h ((D, setT1 (!w.params.followText "set-order")) :: led) → LCg.Off1 D led → Q (.ref D) { s₁ with heap := h, toks := tk }) : SSrc prog w A h₀ L m env elt x scope cl Q (.ref ax) s₁ :=
  ⟨ax, arr, led, rfl, hh, F, N, hm, hn, fun g => ⟨turn g, fin⟩⟩
/-- a set comprehension over a tuple of the ledger's, every item of which gives True -/
theorem set_eval {elt iter : Expr} {x : Str} {px : Pos} {scope : Scope} {cl : List (Str × Addr)} {pos : Pos} {Q : Value → Shared → Prop} (F₀ : Fr h₀ L s.heap m)
    (hclos : closureFor scope env = pure cl) (hcell : ∀ y ∈ scope.names, y.2 ≠ .cell) (hkind : scope.kind = .function)
    (hnames : ∀ y ∈ scope.names, y.2 = .local → scope.names.lookup y.1 = some .local) (hx : scope.names.lookup x = some .local)
    (hs : ∀ x, foldedSetIterable iter env x = pure x)
    (h : wpAny (model prog w) A (eval iter env) (SSrc prog w A h₀ L m env elt x scope cl Q) E s) :
    wpAny (model prog w) A (eval (.SetComp elt [⟨.Name x px, iter, [], 0⟩] scope pos) env) Q E s := by
  have _ := F₀
  rw [arm_eval_SetComp]
  refine wpAny_comprehension_free (use := none) rfl hs hclos hkind hnames (wpAny_mono h (fun xv s₁ h₁ => ?_) fun _ _ e => e)
  obtain ⟨ax, arr, led, rfl, hh, F, N, hm, hn, R⟩ := h₁
  have hg := (N _ hm).1
  have ht : s₁.heap.IsTuple ax arr := ⟨_, hg, rfl, _, rfl⟩
  have hlt : ax < s₁.heap.objs.size := Heap.lt_size hg
  refine wpAny_pyIter_tuple ht ?_
  have up : Kp s₁.heap (s₁.heap.push { cls := .type "tuple_iterator", data := .fields #[.ref ax, .int 0 0] }) := fun b o e => Heap.get?_push_of_some _ e
  obtain ⟨R1, R2⟩ := R (s₁.heap.push { cls := .type "tuple_iterator", data := .fields #[.ref ax, .int 0 0] })
  refine set_block (Walks.tuple hh s₁.heap.objs.size ax (Nat.ne_of_lt hlt) arr) hn (fun i h st => by obtain ⟨o, e, _⟩ := st.1; exact ⟨o, e⟩) (fun i h h' o st e e' N' => ?_) hcell hkind hx
    ⟨⟨_, Heap.get?_push_size _ rfl, rfl, rfl⟩, ht.push _⟩ (fun b hb => ?_) (F.keeps up) (N.grown up) (Nat.ne_of_lt F.ns.lt) (next_is_new F) (fun p hp => Nat.ne_of_lt (Heap.lt_size (N p hp).1)) R1 ?_
  · obtain ⟨⟨oI, a1, a2, a3⟩, _⟩ := st
    rw [a1] at e; cases e
    exact ⟨⟨_, e', a2, a3⟩, ⟨_, (N' _ hm).1, rfl, _, rfl⟩⟩
  · show b < (s₁.heap.push _).objs.size
    rw [Heap.size_push]
    rcases List.mem_cons.mp hb with rfl | hb
    · exact Nat.lt_succ_self _
    · rw [List.mem_singleton.mp hb]; exact Nat.lt_succ_of_lt hlt
  · intro D C h tk m' F' N' o1 hn hC₀ hD₀ hCL hDL hCD offC
    refine ⟨m', hn, fun h'' hs'' => R2 D h'' tk (F'.change hs'' hCL hC₀) (fun p hp => ?_) o1⟩
    refine ⟨hs''.extBut _ _ ?_ (N' p hp).1, (N' p hp).2⟩
    rcases List.mem_cons.mp hp with rfl | hp
    · exact Ne.symm hCD
    · exact offC p hp
theorem assign_set1 {x : Str} {px pos : Pos} {x1 : Nat} {D : Addr} {news : List (Addr × Obj)} {Q : Unit → Shared → Prop} (hh : A.handled = none) (F : Fr h₀ env.locals s.heap m) (N : News h₀ env.locals s.heap news) (hS : (D, setT1 (!w.params.followText "set-order")) ∈ news)
    (hx : env.kindOf x = some .local) (hp : (env.scope.kind == .class || (env.scope.kind == .module && env.locals != env.globals)) = false)
    (h : ∀ h' tk', Fr h₀ env.locals h' (fun z => if z = x then some (.bool true) else m z) → News h₀ env.locals h' news → Q () { s with heap := h', toks := tk' }) :
    wpAny (model prog w) A (assign (.Tuple [.Name x px] x1 pos) env (.ref D)) Q E s := by
  rw [arm_assign_Tuple]
  refine wpAny_bind (wpAny_standAt ?_)
  show wpAny _ A (holding [.ref D] (unpackItems (.ref D) 1 none) >>= _) _ _ _
  refine wpAny_bind (wpAny_holding (unpack_set1 hh (N _ hS).1 rfl fun h1 e1 => ?_))
  have k1 : Kp s.heap h1 := fun b o e => e1 b o (Nat.ne_of_lt (Heap.lt_size e)) e
  have F1 := F.keeps k1
  have N1 := N.grown k1
  show wpAny _ A (do holding [] (assign (.Name x px) env (.bool true)); pure ()) _ _ _
  refine wpAny_bind (wpAny_holding (wpAny_assign_Name (wpAny_storeName_local hx F1.ns (fun h₄ hn₄ hs₄ => wpAny_pure ?_) hp)))
  exact h h₄ _ (F1.set hn₄ hs₄) (N1.set hs₄)
end
end
section
/-- a list of strs that the ledger bears: place, items, room, texts -/
abbrev LI := Addr × List Value × Nat × List Str
abbrev LI.obj (p : LI) : Obj := W.listOf p.2.1.toArray p.2.2.1
abbrev refsOf (Ls : List LI) : List Value := Ls.map fun p => .ref p.1
abbrev txtsOf (Ls : List LI) : List (List Str) := Ls.map fun p => p.2.2.2
def btL (xss : List (List Str)) (i j : Nat) : Bool := lexLt (xss.getD i []) (xss.getD j [])
def btG (xss : List (List Str)) (i j : Nat) : Bool := lexLt (xss.getD j []) (xss.getD i [])
theorem txt_at {Ls : List LI} {i : Nat} {p : LI} (h : Ls[i]? = some p) : (txtsOf Ls).getD i [] = p.2.2.2 := by
  rw [List.getD_eq_getElem?_getD, List.getElem?_map, h]; rfl
section
variable {prog : Program} {w : World} {A : Around} {E : Value → Shared → Prop} {s : Shared} {R : Result → Shared → Prop} {l I S : Addr} {nn : Nat} {Ls : List LI}
theorem min_loop_my (hh : A.handled = none) (hlI : l ≠ I) (hSI : S ≠ I) (hlS : l ≠ S) (hoff : ∀ p ∈ Ls, p.1 ≠ I ∧ p.1 ≠ S) (hok : ∀ p ∈ Ls, StrsAre p.2.1 p.2.2.2) (hu : A.units + 2 < cLine)
    (hl : s.heap.get? l = some (W.listOf (refsOf Ls).toArray nn)) (hLs : ∀ p ∈ Ls, s.heap.get? p.1 = some (LI.obj p))
    (hR : ∀ p h' tk', Ls[argBest (btL (txtsOf Ls)) (Ls.length - 1)]? = some p → (∀ b o, b ≠ I → b ≠ S → s.heap.get? b = some o → h'.get? b = some o) → R (.ok (.ret (.ref p.1))) { s with heap := h', toks := tk' }) :
    ∀ (r j : Nat) (h : Heap) (tk : Nat) (p : LI) (c : Nat), Ls.length - (j + 1) = r → j + 1 ≤ Ls.length → Ls[argBest (btL (txtsOf Ls)) j]? = some p → h.IsListIter I l (j + 1) →
      h.get? S = some { cls := .type "list", data := .seq #[.ref p.1, .ref p.1] c } → (∀ b o, b ≠ I → b ≠ S → s.heap.get? b = some o → h.get? b = some o) →
      codeAny (model prog w) A (.builtin "min.loop" ⟨[.ref I, .none, .ref S], []⟩) R { s with heap := h, toks := tk } := by
  have hname : (toString "min" ++ toString ".loop" : String) = "min.loop" := by decide
  have W := Walks.list (prog := prog) (w := w) (A := A.in1) hh I l hlI (refsOf Ls).toArray
  have hlen : (refsOf Ls).toArray.size = Ls.length := by simp
  have isl : ∀ h : Heap, (∀ b o, b ≠ I → b ≠ S → s.heap.get? b = some o → h.get? b = some o) → h.IsList l (refsOf Ls).toArray := fun h k => ⟨_, k _ _ hlI hlS hl, rfl, _, rfl⟩
  intro r
  induction r with
  | zero =>
    intro j h tk p c hr hj hp hit hS hk
    have hin : j + 1 = Ls.length := by omega
    refine codeAny_builtin PySem.F.entry_min_loop ?_
    rw [Around.under_plainId PySem.F.plain_min_loop _]
    show wpAny _ A.in1 (seqItems? (.ref S) >>= _) _ _ _
    refine wpAny_bind (wpAny_seqItems hS rfl ?_)
    show wpAny _ A.in1 (tryCatch (pyNext (.ref I)) _ >>= _) _ _ _
    refine wpAny_bind (wpAny_tryCatch (W.done _ _ _ ⟨by rw [hlen, ← hin]; exact hit, isl h hk⟩ fun h' tk' hk' => ?_))
    have hS' := hk' S _ (by simpa using hSI) hS
    have s1 := Heap.SameBut.update h' S (Obj.mapSeq fun _ => (#[] : Array Value))
    show wpAny _ A.in1 (updateSeq S (fun _ => #[]) >>= _) _ _ _
    refine wpAny_bind ?_
    refine wpAny_updateSeq hS' rfl (wpAny_bind (wpAny_letGo (wpAny_pure ?_)))
    refine hR p _ _ (by rw [← hin]; exact hp) fun b o b1 b2 e => (s1.2 b b2).trans (hk' b o (by simpa using b1) (hk b o b1 b2 e))
  | succ r ih =>
    intro j h tk p c hr hj hp hit hS hk
    have hlt : j + 1 < Ls.length := by omega
    refine codeAny_builtin PySem.F.entry_min_loop ?_
    rw [Around.under_plainId PySem.F.plain_min_loop _]
    show wpAny _ A.in1 (seqItems? (.ref S) >>= _) _ _ _
    refine wpAny_bind (wpAny_seqItems hS rfl ?_)
    show wpAny _ A.in1 (tryCatch (pyNext (.ref I)) _ >>= _) _ _ _
    refine wpAny_bind (wpAny_tryCatch (W.item (j + 1) _ _ _ (by rw [hlen]; exact hlt) ⟨hit, isl h hk⟩ fun v h' tk' hP hst' hk' => ?_))
    obtain ⟨q, hq, rfl⟩ : ∃ q, Ls[j + 1]? = some q ∧ v = .ref q.1 := by
      have hP2 : (refsOf Ls)[j + 1]? = some v := by simpa using hP
      rw [List.getElem?_map, Option.map_eq_some_iff] at hP2
      obtain ⟨q, h1, h2⟩ := hP2
      exact ⟨q, h1, h2.symm⟩
    have k2 : ∀ b o, b ≠ I → b ≠ S → s.heap.get? b = some o → h'.get? b = some o := fun b o b1 b2 e => hk' b o (by simpa using b1) (hk b o b1 b2 e)
    have hS' := hk' S _ (by simpa using hSI) hS
    have at' : ∀ x ∈ Ls, h'.IsList x.1 x.2.1.toArray := fun x hx => ⟨_, k2 _ _ (hoff x hx).1 (hoff x hx).2 (hLs x hx), rfl, _, rfl⟩
    have mp := List.mem_of_getElem? hp
    have mq := List.mem_of_getElem? hq
    show wpAny _ A.in1 (tryCatch (holding [.ref q.1, .ref q.1] (richCompare .Lt (.ref q.1) (.ref p.1) >>= _)) _ >>= _) _ _ _
    refine wpAny_bind (wpAny_tryCatch (wpAny_holding (wpAny_bind (rc_lt_strs (s := { s with heap := h', toks := tk' }) (at' q mq) (at' p mp) (hok q mq) (hok p mp) (by show A.units + 1 < cLine; omega) ?_))))
    refine wpAny_bind (wpAny_holding (wpAny_truthy_bool ?_))
    refine wpAny_bind (wpAny_letGo (wpAny_pure ?_))
    have eb : btL (txtsOf Ls) (j + 1) (argBest (btL (txtsOf Ls)) j) = lexLt q.2.2.2 p.2.2.2 := congr (congrArg lexLt (txt_at hq)) (txt_at hp)
    cases hb : lexLt q.2.2.2 p.2.2.2 with
    | true =>
      rw [hb] at eb
      simp only [if_true]
      have s1 := Heap.SameBut.update h' S (Obj.mapSeq fun _ => #[Value.ref q.1, Value.ref q.1])
      refine wpAny_bind ?_
      refine wpAny_updateSeq hS' rfl (wpAny_bind (wpAny_letGo ?_))
      rw [hname]
      refine wpAny_pure ⟨plainId_quiet PySem.F.plain_min_loop _, ih (j + 1) _ _ q _ (by omega) hlt (by simp only [argBest, eb, if_true]; exact hq) ?_ (Heap.get?_update_self _ hS' rfl) fun b o b1 b2 e => (s1.2 b b2).trans (k2 b o b1 b2 e)⟩
      obtain ⟨oI, hoI, x1, x2⟩ := hst'.1
      exact ⟨oI, (s1.2 I hSI.symm).trans hoI, x1, x2⟩
    | false =>
      rw [hb] at eb
      simp only [Bool.false_eq_true, if_false]
      refine wpAny_bind (wpAny_letGo ?_)
      rw [hname]
      exact wpAny_pure ⟨plainId_quiet PySem.F.plain_min_loop _, ih (j + 1) _ _ p c (by omega) hlt (by simp only [argBest, eb, Bool.false_eq_true, if_false]; exact hp) hst'.1 hS' k2⟩
theorem min_my {Q : Value → Shared → Prop} (hh : A.handled = none) (hok : ∀ p ∈ Ls, StrsAre p.2.1 p.2.2.2) (hu : A.units + 2 < cLine) (hne : 0 < Ls.length)
    (hl : s.heap.get? l = some (W.listOf (refsOf Ls).toArray nn)) (hLs : ∀ p ∈ Ls, s.heap.get? p.1 = some (LI.obj p))
    (hQ : ∀ p h' tk', Ls[argBest (btL (txtsOf Ls)) (Ls.length - 1)]? = some p → (∀ b o, s.heap.get? b = some o → h'.get? b = some o) → Q (.ref p.1) { s with heap := h', toks := tk' }) :
    wpAny (model prog w) A (call (.builtin "min") [.ref l]) Q E s := by
  have hname : (toString "min" ++ toString ".loop" : String) = "min.loop" := by decide
  refine call_function_tree PySem.F.kind_min PySem.F.plain_min PySem.F.entry_min (PySem.F.args_min1 _) ?_
  show wpAny _ A.in1 (Builtin.Builtins.bindParams "min" ["key", "default"] 0 ⟨[], []⟩ >>= _) _ _ s
  refine wpAny_bind (wpAny_of_eq (show Builtin.Builtins.bindParams "min" ["key", "default"] 0 ⟨[], []⟩ = pure [none, none] from rfl) ?_)
  refine wpAny_bind (wpAny_pure ?_)
  have hls : s.heap.IsList l (refsOf Ls).toArray := ⟨_, hl, rfl, _, rfl⟩
  refine wpAny_bind (wpAny_pyIter_list hls ?_)
  refine wpAny_bind (wpAny_newObj_type ?_)
  rw [hname]
  have W := fun (hlI : l ≠ s.heap.objs.size) => Walks.list (prog := prog) (w := w) (A := A.in1) hh s.heap.objs.size l hlI (refsOf Ls).toArray
  generalize hI : s.heap.objs.size = I at W ⊢
  have hll : @LT.lt Nat _ l I := by rw [← hI]; exact Heap.lt_size hl
  have hlt : ∀ p ∈ Ls, @LT.lt Nat _ p.1 I := fun p hp => by rw [← hI]; exact Heap.lt_size (hLs p hp)
  have hS : (s.heap.push { cls := .type "list_iterator", data := .fields #[.ref l, .int 0 0] }).objs.size = I + 1 := by rw [Heap.size_push, hI]
  have gI : ((s.heap.push { cls := .type "list_iterator", data := .fields #[.ref l, .int 0 0] }).push { cls := .type "list", data := .seq #[] }).get? I = some { cls := .type "list_iterator", data := .fields #[.ref l, .int 0 0] } := by
    rw [← hI]; exact Heap.get?_push_of_some _ (Heap.get?_push_size _ rfl)
  have gS := Heap.get?_push_size (s.heap.push { cls := .type "list_iterator", data := .fields #[.ref l, .int 0 0] }) (o := { cls := .type "list", data := .seq #[] }) rfl
  rw [hS] at gS ⊢
  have up : ∀ b o, s.heap.get? b = some o → ((s.heap.push { cls := .type "list_iterator", data := .fields #[.ref l, .int 0 0] }).push { cls := .type "list", data := .seq #[] }).get? b = some o := fun b o e => Heap.get?_push_of_some _ (Heap.get?_push_of_some _ e)
  have hlI : l ≠ I := Nat.ne_of_lt hll
  have hSI : @Ne Nat (I + 1) I := Nat.succ_ne_self _
  have hlS : @Ne Nat l (I + 1) := Nat.ne_of_lt (Nat.lt_succ_of_lt hll)
  have hlen : (refsOf Ls).toArray.size = Ls.length := by simp
  refine wpAny_pure ⟨plainId_quiet PySem.F.plain_min_loop _, codeAny_builtin PySem.F.entry_min_loop ?_⟩
  rw [Around.under_plainId PySem.F.plain_min_loop _]
  show wpAny _ A.in1 (seqItems? (.ref _) >>= _) _ _ _
  refine wpAny_bind (wpAny_seqItems gS rfl ?_)
  show wpAny _ A.in1 (tryCatch (pyNext (.ref I)) _ >>= _) _ _ _
  refine wpAny_bind (wpAny_tryCatch ((W hlI).item 0 _ _ _ (by rw [hlen]; exact hne) ⟨⟨_, gI, rfl, rfl⟩, ⟨_, up _ _ hl, rfl, _, rfl⟩⟩ fun v h' tk' hP hst' hk' => ?_))
  obtain ⟨q, hq, rfl⟩ : ∃ q, Ls[0]? = some q ∧ v = .ref q.1 := by
    have hP2 : (refsOf Ls)[0]? = some v := by simpa using hP
    rw [List.getElem?_map, Option.map_eq_some_iff] at hP2
    obtain ⟨q, h1, h2⟩ := hP2
    exact ⟨q, h1, h2.symm⟩
  have hS' := hk' (I + 1) _ (by simpa using hSI) gS
  have s1 := Heap.SameBut.update h' (I + 1) (Obj.mapSeq fun _ => #[Value.ref q.1, Value.ref q.1])
  show wpAny _ A.in1 (updateSeq (I + 1) (fun _ => #[.ref q.1, .ref q.1]) >>= _) _ _ _
  refine wpAny_bind ?_
  refine wpAny_updateSeq hS' rfl ?_
  rw [hname]
  have low : ∀ b o, s.heap.get? b = some o → @Ne Nat b I ∧ @Ne Nat b (I + 1) := fun b o e => by
    have z : @LT.lt Nat _ b I := by rw [← hI]; exact Heap.lt_size e
    exact ⟨Nat.ne_of_lt z, Nat.ne_of_lt (Nat.lt_succ_of_lt z)⟩
  refine wpAny_pure ⟨plainId_quiet PySem.F.plain_min_loop _, min_loop_my (I := I) (S := I + 1) (l := l) (nn := nn) (Ls := Ls) hh hlI hSI hlS (fun p hp => ⟨Nat.ne_of_lt (hlt p hp), Nat.ne_of_lt (Nat.lt_succ_of_lt (hlt p hp))⟩) hok hu hl hLs ?_ _ 0 _ _ q _ rfl hne hq ?_ (Heap.get?_update_self _ hS' rfl) fun b o b1 b2 e => (s1.2 b b2).trans (hk' b o (by simpa using b1) (up b o e))⟩
  · intro p h2 tk2 hp hk2
    exact hQ p h2 tk2 hp fun b o e => hk2 b o (low b o e).1 (low b o e).2 e
  · obtain ⟨oI, hoI, x1, x2⟩ := hst'.1
    exact ⟨oI, (s1.2 I hSI.symm).trans hoI, x1, x2⟩
theorem max_loop_my (hh : A.handled = none) (hlI : l ≠ I) (hSI : S ≠ I) (hlS : l ≠ S) (hoff : ∀ p ∈ Ls, p.1 ≠ I ∧ p.1 ≠ S) (hok : ∀ p ∈ Ls, StrsAre p.2.1 p.2.2.2) (hu : A.units + 2 < cLine)
    (hl : s.heap.get? l = some (W.listOf (refsOf Ls).toArray nn)) (hLs : ∀ p ∈ Ls, s.heap.get? p.1 = some (LI.obj p))
    (hR : ∀ p h' tk', Ls[argBest (btG (txtsOf Ls)) (Ls.length - 1)]? = some p → (∀ b o, b ≠ I → b ≠ S → s.heap.get? b = some o → h'.get? b = some o) → R (.ok (.ret (.ref p.1))) { s with heap := h', toks := tk' }) :
    ∀ (r j : Nat) (h : Heap) (tk : Nat) (p : LI) (c : Nat), Ls.length - (j + 1) = r → j + 1 ≤ Ls.length → Ls[argBest (btG (txtsOf Ls)) j]? = some p → h.IsListIter I l (j + 1) →
      h.get? S = some { cls := .type "list", data := .seq #[.ref p.1, .ref p.1] c } → (∀ b o, b ≠ I → b ≠ S → s.heap.get? b = some o → h.get? b = some o) →
      codeAny (model prog w) A (.builtin "max.loop" ⟨[.ref I, .none, .ref S], []⟩) R { s with heap := h, toks := tk } := by
  have hname : (toString "max" ++ toString ".loop" : String) = "max.loop" := by decide
  have W := Walks.list (prog := prog) (w := w) (A := A.in1) hh I l hlI (refsOf Ls).toArray
  have hlen : (refsOf Ls).toArray.size = Ls.length := by simp
  have isl : ∀ h : Heap, (∀ b o, b ≠ I → b ≠ S → s.heap.get? b = some o → h.get? b = some o) → h.IsList l (refsOf Ls).toArray := fun h k => ⟨_, k _ _ hlI hlS hl, rfl, _, rfl⟩
  intro r
  induction r with
  | zero =>
    intro j h tk p c hr hj hp hit hS hk
    have hin : j + 1 = Ls.length := by omega
    refine codeAny_builtin PySem.F.entry_max_loop ?_
    rw [Around.under_plainId PySem.F.plain_max_loop _]
    show wpAny _ A.in1 (seqItems? (.ref S) >>= _) _ _ _
    refine wpAny_bind (wpAny_seqItems hS rfl ?_)
    show wpAny _ A.in1 (tryCatch (pyNext (.ref I)) _ >>= _) _ _ _
    refine wpAny_bind (wpAny_tryCatch (W.done _ _ _ ⟨by rw [hlen, ← hin]; exact hit, isl h hk⟩ fun h' tk' hk' => ?_))
    have hS' := hk' S _ (by simpa using hSI) hS
    have s1 := Heap.SameBut.update h' S (Obj.mapSeq fun _ => (#[] : Array Value))
    show wpAny _ A.in1 (updateSeq S (fun _ => #[]) >>= _) _ _ _
    refine wpAny_bind ?_
    refine wpAny_updateSeq hS' rfl (wpAny_bind (wpAny_letGo (wpAny_pure ?_)))
    refine hR p _ _ (by rw [← hin]; exact hp) fun b o b1 b2 e => (s1.2 b b2).trans (hk' b o (by simpa using b1) (hk b o b1 b2 e))
  | succ r ih =>
    intro j h tk p c hr hj hp hit hS hk
    have hlt : j + 1 < Ls.length := by omega
    refine codeAny_builtin PySem.F.entry_max_loop ?_
    rw [Around.under_plainId PySem.F.plain_max_loop _]
    show wpAny _ A.in1 (seqItems? (.ref S) >>= _) _ _ _
    refine wpAny_bind (wpAny_seqItems hS rfl ?_)
    show wpAny _ A.in1 (tryCatch (pyNext (.ref I)) _ >>= _) _ _ _
    refine wpAny_bind (wpAny_tryCatch (W.item (j + 1) _ _ _ (by rw [hlen]; exact hlt) ⟨hit, isl h hk⟩ fun v h' tk' hP hst' hk' => ?_))
    obtain ⟨q, hq, rfl⟩ : ∃ q, Ls[j + 1]? = some q ∧ v = .ref q.1 := by
      have hP2 : (refsOf Ls)[j + 1]? = some v := by simpa using hP
      rw [List.getElem?_map, Option.map_eq_some_iff] at hP2
      obtain ⟨q, h1, h2⟩ := hP2
      exact ⟨q, h1, h2.symm⟩
    have k2 : ∀ b o, b ≠ I → b ≠ S → s.heap.get? b = some o → h'.get? b = some o := fun b o b1 b2 e => hk' b o (by simpa using b1) (hk b o b1 b2 e)
    have hS' := hk' S _ (by simpa using hSI) hS
    have at' : ∀ x ∈ Ls, h'.IsList x.1 x.2.1.toArray := fun x hx => ⟨_, k2 _ _ (hoff x hx).1 (hoff x hx).2 (hLs x hx), rfl, _, rfl⟩
    have mp := List.mem_of_getElem? hp
    have mq := List.mem_of_getElem? hq
    show wpAny _ A.in1 (tryCatch (holding [.ref q.1, .ref q.1] (richCompare .Gt (.ref q.1) (.ref p.1) >>= _)) _ >>= _) _ _ _
    refine wpAny_bind (wpAny_tryCatch (wpAny_holding (wpAny_bind (rc_gt_strs (s := { s with heap := h', toks := tk' }) (at' q mq) (at' p mp) (hok q mq) (hok p mp) (by show A.units + 1 < cLine; omega) ?_))))
    refine wpAny_bind (wpAny_holding (wpAny_truthy_bool ?_))
    refine wpAny_bind (wpAny_letGo (wpAny_pure ?_))
    have eb : btG (txtsOf Ls) (j + 1) (argBest (btG (txtsOf Ls)) j) = lexLt p.2.2.2 q.2.2.2 := congr (congrArg lexLt (txt_at hp)) (txt_at hq)
    cases hb : lexLt p.2.2.2 q.2.2.2 with
    | true =>
      rw [hb] at eb
      simp only [if_true]
      have s1 := Heap.SameBut.update h' S (Obj.mapSeq fun _ => #[Value.ref q.1, Value.ref q.1])
      refine wpAny_bind ?_
      refine wpAny_updateSeq hS' rfl (wpAny_bind (wpAny_letGo ?_))
      rw [hname]
      refine wpAny_pure ⟨plainId_quiet PySem.F.plain_max_loop _, ih (j + 1) _ _ q _ (by omega) hlt (by simp only [argBest, eb, if_true]; exact hq) ?_ (Heap.get?_update_self _ hS' rfl) fun b o b1 b2 e => (s1.2 b b2).trans (k2 b o b1 b2 e)⟩
      obtain ⟨oI, hoI, x1, x2⟩ := hst'.1
      exact ⟨oI, (s1.2 I hSI.symm).trans hoI, x1, x2⟩
    | false =>
      rw [hb] at eb
      simp only [Bool.false_eq_true, if_false]
      refine wpAny_bind (wpAny_letGo ?_)
      rw [hname]
      exact wpAny_pure ⟨plainId_quiet PySem.F.plain_max_loop _, ih (j + 1) _ _ p c (by omega) hlt (by simp only [argBest, eb, Bool.false_eq_true, if_false]; exact hp) hst'.1 hS' k2⟩
theorem max_my {Q : Value → Shared → Prop} (hh : A.handled = none) (hok : ∀ p ∈ Ls, StrsAre p.2.1 p.2.2.2) (hu : A.units + 2 < cLine) (hne : 0 < Ls.length)
    (hl : s.heap.get? l = some (W.listOf (refsOf Ls).toArray nn)) (hLs : ∀ p ∈ Ls, s.heap.get? p.1 = some (LI.obj p))
    (hQ : ∀ p h' tk', Ls[argBest (btG (txtsOf Ls)) (Ls.length - 1)]? = some p → (∀ b o, s.heap.get? b = some o → h'.get? b = some o) → Q (.ref p.1) { s with heap := h', toks := tk' }) :
    wpAny (model prog w) A (call (.builtin "max") [.ref l]) Q E s := by
  have hname : (toString "max" ++ toString ".loop" : String) = "max.loop" := by decide
  refine call_function_tree PySem.F.kind_max PySem.F.plain_max PySem.F.entry_max (PySem.F.args_max1 _) ?_
  show wpAny _ A.in1 (Builtin.Builtins.bindParams "max" ["key", "default"] 0 ⟨[], []⟩ >>= _) _ _ s
  refine wpAny_bind (wpAny_of_eq (show Builtin.Builtins.bindParams "max" ["key", "default"] 0 ⟨[], []⟩ = pure [none, none] from rfl) ?_)
  refine wpAny_bind (wpAny_pure ?_)
  have hls : s.heap.IsList l (refsOf Ls).toArray := ⟨_, hl, rfl, _, rfl⟩
  refine wpAny_bind (wpAny_pyIter_list hls ?_)
  refine wpAny_bind (wpAny_newObj_type ?_)
  rw [hname]
  have W := fun (hlI : l ≠ s.heap.objs.size) => Walks.list (prog := prog) (w := w) (A := A.in1) hh s.heap.objs.size l hlI (refsOf Ls).toArray
  generalize hI : s.heap.objs.size = I at W ⊢
  have hll : @LT.lt Nat _ l I := by rw [← hI]; exact Heap.lt_size hl
  have hlt : ∀ p ∈ Ls, @LT.lt Nat _ p.1 I := fun p hp => by rw [← hI]; exact Heap.lt_size (hLs p hp)
  have hS : (s.heap.push { cls := .type "list_iterator", data := .fields #[.ref l, .int 0 0] }).objs.size = I + 1 := by rw [Heap.size_push, hI]
  have gI : ((s.heap.push { cls := .type "list_iterator", data := .fields #[.ref l, .int 0 0] }).push { cls := .type "list", data := .seq #[] }).get? I = some { cls := .type "list_iterator", data := .fields #[.ref l, .int 0 0] } := by
    rw [← hI]; exact Heap.get?_push_of_some _ (Heap.get?_push_size _ rfl)
  have gS := Heap.get?_push_size (s.heap.push { cls := .type "list_iterator", data := .fields #[.ref l, .int 0 0] }) (o := { cls := .type "list", data := .seq #[] }) rfl
  rw [hS] at gS ⊢
  have up : ∀ b o, s.heap.get? b = some o → ((s.heap.push { cls := .type "list_iterator", data := .fields #[.ref l, .int 0 0] }).push { cls := .type "list", data := .seq #[] }).get? b = some o := fun b o e => Heap.get?_push_of_some _ (Heap.get?_push_of_some _ e)
  have hlI : l ≠ I := Nat.ne_of_lt hll
  have hSI : @Ne Nat (I + 1) I := Nat.succ_ne_self _
  have hlS : @Ne Nat l (I + 1) := Nat.ne_of_lt (Nat.lt_succ_of_lt hll)
  have hlen : (refsOf Ls).toArray.size = Ls.length := by simp
  refine wpAny_pure ⟨plainId_quiet PySem.F.plain_max_loop _, codeAny_builtin PySem.F.entry_max_loop ?_⟩
  rw [Around.under_plainId PySem.F.plain_max_loop _]
  show wpAny _ A.in1 (seqItems? (.ref _) >>= _) _ _ _
  refine wpAny_bind (wpAny_seqItems gS rfl ?_)
  show wpAny _ A.in1 (tryCatch (pyNext (.ref I)) _ >>= _) _ _ _
  refine wpAny_bind (wpAny_tryCatch ((W hlI).item 0 _ _ _ (by rw [hlen]; exact hne) ⟨⟨_, gI, rfl, rfl⟩, ⟨_, up _ _ hl, rfl, _, rfl⟩⟩ fun v h' tk' hP hst' hk' => ?_))
  obtain ⟨q, hq, rfl⟩ : ∃ q, Ls[0]? = some q ∧ v = .ref q.1 := by
    have hP2 : (refsOf Ls)[0]? = some v := by simpa using hP
    rw [List.getElem?_map, Option.map_eq_some_iff] at hP2
    obtain ⟨q, h1, h2⟩ := hP2
    exact ⟨q, h1, h2.symm⟩
  have hS' := hk' (I + 1) _ (by simpa using hSI) gS
  have s1 := Heap.SameBut.update h' (I + 1) (Obj.mapSeq fun _ => #[Value.ref q.1, Value.ref q.1])
  show wpAny _ A.in1 (updateSeq (I + 1) (fun _ => #[.ref q.1, .ref q.1]) >>= _) _ _ _
  refine wpAny_bind ?_
  refine wpAny_updateSeq hS' rfl ?_
  rw [hname]
  have low : ∀ b o, s.heap.get? b = some o → @Ne Nat b I ∧ @Ne Nat b (I + 1) := fun b o e => by
    have z : @LT.lt Nat _ b I := by rw [← hI]; exact Heap.lt_size e
    exact ⟨Nat.ne_of_lt z, Nat.ne_of_lt (Nat.lt_succ_of_lt z)⟩
  refine wpAny_pure ⟨plainId_quiet PySem.F.plain_max_loop _, max_loop_my (I := I) (S := I + 1) (l := l) (nn := nn) (Ls := Ls) hh hlI hSI hlS (fun p hp => ⟨Nat.ne_of_lt (hlt p hp), Nat.ne_of_lt (Nat.lt_succ_of_lt (hlt p hp))⟩) hok hu hl hLs ?_ _ 0 _ _ q _ rfl hne hq ?_ (Heap.get?_update_self _ hS' rfl) fun b o b1 b2 e => (s1.2 b b2).trans (hk' b o (by simpa using b1) (up b o e))⟩
  · intro p h2 tk2 hp hk2
    exact hQ p h2 tk2 hp fun b o e => hk2 b o (low b o e).1 (low b o e).2 e
  · obtain ⟨oI, hoI, x1, x2⟩ := hst'.1
    exact ⟨oI, (s1.2 I hSI.symm).trans hoI, x1, x2⟩
theorem min_K {h₀ : Heap} {L : Addr} {m : Str → Option Value} {news : List (Addr × Obj)} {Q : Value → Shared → Prop} (hh : A.handled = none) (F : Fr h₀ L s.heap m) (N : News h₀ L s.heap news) (hl : (l, W.listOf (refsOf Ls).toArray nn) ∈ news) (hLs : ∀ p ∈ Ls, (p.1, LI.obj p) ∈ news)
    (hok : ∀ p ∈ Ls, StrsAre p.2.1 p.2.2.2) (hu : A.units + 2 < cLine) (hne : 0 < Ls.length)
    (h : ∀ p h' tk', Ls[argBest (btL (txtsOf Ls)) (Ls.length - 1)]? = some p → Fr h₀ L h' m → News h₀ L h' news → Q (.ref p.1) { s with heap := h', toks := tk' }) :
    wpAny (model prog w) A (call (.builtin "min") [.ref l]) Q E s :=
  min_my hh hok hu hne (N _ hl).1 (fun p hp => (N _ (hLs p hp)).1) fun p h' tk' hp k => h p h' tk' hp (F.keeps k) (N.grown k)
theorem max_K {h₀ : Heap} {L : Addr} {m : Str → Option Value} {news : List (Addr × Obj)} {Q : Value → Shared → Prop} (hh : A.handled = none) (F : Fr h₀ L s.heap m) (N : News h₀ L s.heap news) (hl : (l, W.listOf (refsOf Ls).toArray nn) ∈ news) (hLs : ∀ p ∈ Ls, (p.1, LI.obj p) ∈ news)
    (hok : ∀ p ∈ Ls, StrsAre p.2.1 p.2.2.2) (hu : A.units + 2 < cLine) (hne : 0 < Ls.length)
    (h : ∀ p h' tk', Ls[argBest (btG (txtsOf Ls)) (Ls.length - 1)]? = some p → Fr h₀ L h' m → News h₀ L h' news → Q (.ref p.1) { s with heap := h', toks := tk' }) :
    wpAny (model prog w) A (call (.builtin "max") [.ref l]) Q E s :=
  max_my hh hok hu hne (N _ hl).1 (fun p hp => (N _ (hLs p hp)).1) fun p h' tk' hp k => h p h' tk' hp (F.keeps k) (N.grown k)
end
end
section
theorem str_of_list {x y : Str} (h : x.cps.toList = y.cps.toList) : x = y := by
  cases x; cases y; simp at h; rw [h]
theorem lexLt_irrefl : ∀ xs : List Str, lexLt xs xs = false
  | [] => rfl
  | x :: r => by rw [lexLt, if_pos rfl, lexLt_irrefl r]
theorem lexLt_cons {x y : Str} {r t : List Str} : lexLt (x :: r) (y :: t) = true ↔ (x = y ∧ lexLt r t = true) ∨ (x ≠ y ∧ x.cps.toList < y.cps.toList) := by
  rw [lexLt]
  by_cases h : x = y
  · simp [h]
  · simp [h]
/-- not above: z is not less than x, x is less than y: then z is not less .. -/
theorem lexLt_trans : ∀ {xs ys zs : List Str}, lexLt xs ys = true → lexLt ys zs = true → lexLt xs zs = true
  | _, [], zs, h, h2 => by simp [lexLt] at h
  | _, _ :: _, [], h, h2 => by simp [lexLt] at h2
  | [], y :: r, z :: t, _, _ => rfl
  | x :: q, y :: r, z :: t, h, h2 => by
    rw [lexLt_cons] at h h2 ⊢
    rcases h with ⟨rfl, h⟩ | ⟨n1, h⟩ <;> rcases h2 with ⟨rfl, h2⟩ | ⟨n2, h2⟩
    · exact .inl ⟨rfl, lexLt_trans h h2⟩
    · exact .inr ⟨n2, h2⟩
    · exact .inr ⟨n1, h⟩
    · have h3 := List.lt_trans h h2
      exact .inr ⟨fun e => by subst e; exact List.lt_irrefl _ h3, h3⟩
theorem lexLt_tri : ∀ {xs ys : List Str}, lexLt xs ys = false → lexLt ys xs = false → xs = ys
  | [], [], _, _ => rfl
  | [], _ :: _, h, _ => by simp [lexLt] at h
  | _ :: _, [], _, h => by simp [lexLt] at h
  | x :: r, y :: t, h, h2 => by
    rw [lexLt] at h h2
    by_cases e : x = y
    · subst e
      rw [if_pos rfl] at h h2
      rw [lexLt_tri h h2]
    · rw [if_neg e] at h
      rw [if_neg (Ne.symm e)] at h2
      exact absurd (str_of_list (List.le_antisymm (of_decide_eq_false h2) (of_decide_eq_false h))) e
theorem lexLt_cotrans {xs ys zs : List Str} (h : lexLt xs ys = true) (h2 : lexLt zs ys = false) : lexLt zs xs = false := by
  cases e : lexLt zs xs with
  | false => rfl
  | true => rw [lexLt_trans e h] at h2; cases h2
theorem lexLt_cotrans2 {xs ys zs : List Str} (h : lexLt xs ys = true) (h2 : lexLt xs zs = false) : lexLt ys zs = false := by
  cases e : lexLt ys zs with
  | false => rfl
  | true => rw [lexLt_trans h e] at h2; cases h2
theorem arg_lo (xss : List (List Str)) : ∀ k, argBest (btL xss) k ≤ k ∧ ∀ j ≤ k, lexLt (xss.getD j []) (xss.getD (argBest (btL xss) k) []) = false
  | 0 => ⟨Nat.le_refl _, fun j hj => by obtain rfl : j = 0 := by omega
                                        exact lexLt_irrefl _⟩
  | k + 1 => by
    obtain ⟨h1, h2⟩ := arg_lo xss k
    cases e : btL xss (k + 1) (argBest (btL xss) k) with
    | true =>
      simp only [argBest, e, if_true]
      refine ⟨Nat.le_refl _, fun j hj => ?_⟩
      by_cases hj2 : j = k + 1
      · subst hj2; exact lexLt_irrefl _
      · exact lexLt_cotrans e (h2 j (by omega))
    | false =>
      simp only [argBest, e, Bool.false_eq_true, if_false]
      refine ⟨by omega, fun j hj => ?_⟩
      by_cases hj2 : j = k + 1
      · subst hj2; exact e
      · exact h2 j (by omega)
theorem arg_hi (xss : List (List Str)) : ∀ k, argBest (btG xss) k ≤ k ∧ ∀ j ≤ k, lexLt (xss.getD (argBest (btG xss) k) []) (xss.getD j []) = false
  | 0 => ⟨Nat.le_refl _, fun j hj => by obtain rfl : j = 0 := by omega
                                        exact lexLt_irrefl _⟩
  | k + 1 => by
    obtain ⟨h1, h2⟩ := arg_hi xss k
    cases e : btG xss (k + 1) (argBest (btG xss) k) with
    | true =>
      simp only [argBest, e, if_true]
      refine ⟨Nat.le_refl _, fun j hj => ?_⟩
      by_cases hj2 : j = k + 1
      · subst hj2; exact lexLt_irrefl _
      · exact lexLt_cotrans2 e (h2 j (by omega))
    | false =>
      simp only [argBest, e, Bool.false_eq_true, if_false]
      refine ⟨by omega, fun j hj => ?_⟩
      by_cases hj2 : j = k + 1
      · subst hj2; exact e
      · exact h2 j (by omega)
def loL (xss : List (List Str)) : List Str := xss.getD (argBest (btL xss) (xss.length - 1)) []
def hiL (xss : List (List Str)) : List Str := xss.getD (argBest (btG xss) (xss.length - 1)) []
theorem loL_le {xss : List (List Str)} {x : List Str} (h : x ∈ xss) : lexLt x (loL xss) = false := by
  obtain ⟨j, hj, rfl⟩ := List.getElem_of_mem h
  have := (arg_lo xss (xss.length - 1)).2 j (by omega)
  rwa [List.getD_eq_getElem?_getD, List.getElem?_eq_getElem hj] at this
theorem hiL_le {xss : List (List Str)} {x : List Str} (h : x ∈ xss) : lexLt (hiL xss) x = false := by
  obtain ⟨j, hj, rfl⟩ := List.getElem_of_mem h
  have := (arg_hi xss (xss.length - 1)).2 j (by omega)
  rwa [List.getD_eq_getElem?_getD (i := j), List.getElem?_eq_getElem hj] at this
theorem loL_mem {xss : List (List Str)} (h : 0 < xss.length) : loL xss ∈ xss := by
  have := (arg_lo xss (xss.length - 1)).1
  unfold loL
  rw [List.getD_eq_getElem?_getD, List.getElem?_eq_getElem (by omega)]
  exact List.getElem_mem _
theorem hiL_mem {xss : List (List Str)} (h : 0 < xss.length) : hiL xss ∈ xss := by
  have := (arg_hi xss (xss.length - 1)).1
  unfold hiL
  rw [List.getD_eq_getElem?_getD, List.getElem?_eq_getElem (by omega)]
  exact List.getElem_mem _
/-- what both begin with -/
def cmn : List Str → List Str → List Str
  | x :: r, y :: t => if x = y then x :: cmn r t else []
  | _, _ => []
theorem cmn_prefix_left : ∀ a b : List Str, cmn a b <+: a
  | [], _ => by simp [cmn]
  | _ :: _, [] => by simp [cmn]
  | x :: r, y :: t => by
    rw [cmn]
    split
    · exact (List.prefix_cons_inj x).mpr (cmn_prefix_left r t)
    · simp
theorem cmn_between : ∀ {a b x : List Str}, lexLt x a = false → lexLt b x = false → cmn a b <+: x
  | [], _, _, _, _ => by simp [cmn]
  | _ :: _, [], _, _, _ => by simp [cmn]
  | p :: r, q :: t, x, h1, h2 => by
    rw [cmn]
    split
    · rename_i e
      subst e
      cases x with
      | nil => simp [lexLt] at h1
      | cons z u =>
        rw [lexLt] at h1 h2
        by_cases e : z = p
        · subst e
          rw [if_pos rfl] at h1 h2
          exact (List.prefix_cons_inj z).mpr (cmn_between h1 h2)
        · rw [if_neg e] at h1
          rw [if_neg (Ne.symm e)] at h2
          exact absurd (str_of_list (List.le_antisymm (of_decide_eq_false h2) (of_decide_eq_false h1))) e
    · simp
theorem cmn_greatest : ∀ {a b c : List Str}, c <+: a → c <+: b → c <+: cmn a b
  | _, _, [], _, _ => by simp
  | [], _, z :: u, h, _ => by simp at h
  | _ :: _, [], z :: u, _, h => by simp at h
  | x :: r, y :: t, z :: u, h1, h2 => by
    obtain ⟨e1, k1⟩ := List.cons_prefix_cons.mp h1
    obtain ⟨e2, k2⟩ := List.cons_prefix_cons.mp h2
    subst e1; subst e2
    rw [cmn, if_pos rfl]
    exact (List.prefix_cons_inj z).mpr (cmn_greatest k1 k2)
/-- at the first place where they part -/
theorem cmn_at : ∀ {a b : List Str} {i : Nat} {x y : Str}, a.take i = b.take i → a[i]? = some x → b[i]? = some y → x ≠ y → cmn a b = a.take i
  | [], _, _, _, _, _, h, _, _ => by simp at h
  | _ :: _, [], _, _, _, _, _, h, _ => by simp at h
  | p :: r, q :: t, 0, x, y, _, h2, h3, hne => by
    simp at h2 h3
    subst h2; subst h3
    rw [cmn, if_neg hne]; rfl
  | p :: r, q :: t, i + 1, x, y, h1, h2, h3, hne => by
    simp at h1 h2 h3
    obtain ⟨rfl, h1⟩ := h1
    rw [cmn, if_pos rfl, List.take_succ_cons, cmn_at h1 h2 h3 hne]
theorem cmn_whole : ∀ {a b : List Str}, a = b.take a.length → cmn a b = a
  | [], _, _ => by simp [cmn]
  | _ :: _, [], h => by simp at h
  | p :: r, q :: t, h => by
    simp at h
    obtain ⟨rfl, h⟩ := h
    rw [cmn, if_pos rfl, cmn_whole h]
theorem lex_room : ∀ {a b : List Str} {i : Nat}, lexLt b a = false → i < a.length → a.take i = b.take i → i < b.length
  | [], _, _, _, h, _ => by simp at h
  | _ :: _, [], _, h, _, _ => by simp [lexLt] at h
  | p :: r, q :: t, 0, _, _, _ => by simp
  | p :: r, q :: t, i + 1, h, hi, e => by
    simp at e hi
    obtain ⟨rfl, e⟩ := e
    rw [lexLt, if_pos rfl] at h
    have := lex_room h hi e
    simpa using this
end
section
variable {prog : Program} {w : World} {A : Around} {E : Value → Shared → Prop} {s : Shared} {env : Env} {h₀ : Heap}
def EEnd (h₀ : Heap) (L : Addr) (s : Shared) (led : List (Addr × Obj)) (J : (Str → Option Value) → Prop) (s₂ : Shared) : Prop :=
  ∃ h' tk' m', s₂ = { s with heap := h', toks := tk' } ∧ Fr h₀ L h' m' ∧ News h₀ L h' led ∧ J m'
def EPost (h₀ : Heap) (L : Addr) (s : Shared) (led : List (Addr × Obj)) (J : (Str → Option Value) → Prop) (Q : Flow → Shared → Prop) (B : Shared → Prop) (f : Flow) (s₂ : Shared) : Prop :=
  match f with
  | .ret v => Q (.ret v) s₂
  | .brk => Hold (B s₂)
  | _ => EEnd h₀ L s led J s₂
theorem enum_loop {xi xc : Str} {body : List Stmt} {Q : Flow → Shared → Prop} {l : Addr} {nn : Nat} {arr : Array Value} {m₀ : Str → Option Value} {news : List (Addr × Obj)} (J : Nat → (Str → Option Value) → Prop) (B : Shared → Prop) (hh : A.handled = none)
    (F : Fr h₀ env.locals s.heap m₀) (N : News h₀ env.locals s.heap news) (hl : (l, W.listOf arr nn) ∈ news) (hj : J 0 m₀)
    (turn : ∀ i v t m₁ own h tk, arr[i]? = some v → J i m₁ → Fr h₀ env.locals h (fun y => if y = xc then some v else if y = xi then some (.int (i : Nat) t) else m₁ y) → News h₀ env.locals h (news ++ own) →
      wpAny (model prog w) A (execs body env) (EPost h₀ env.locals s (news ++ own) (J (i + 1)) Q B) E { s with heap := h, toks := tk })
    (done : ∀ m₁ h tk, J arr.size m₁ → Fr h₀ env.locals h m₁ → News h₀ env.locals h news → B { s with heap := h, toks := tk }) (fin : ∀ s₂, B s₂ → Q .next s₂) :
    wpAny (model prog w) A (call (.type "enumerate") [.ref l]) (fun xv s₁ => wpAny (model prog w) A (pyIter xv) (fun it s₂ => PairAt3 prog w A h₀ env xi xc body Q E it s₂) E s₁) E s := by
  have hg := (N _ hl).1
  have hlt : @LT.lt Nat _ l s.heap.objs.size := Heap.lt_size hg
  have hLt : @LT.lt Nat _ env.locals s.heap.objs.size := F.ns.lt
  have fresh : ∀ a : Nat, s.heap.objs.size ≤ a → h₀.get? a = none := fun a ha => by
    cases e : h₀.get? a with
    | none => rfl
    | some o' => have := ltN (Heap.lt_size (F.keep a o' e)); omega
  refine call_enumerate_list ⟨_, hg, rfl, _, rfl⟩ fun h' hE hI hsz hk => ?_
  refine wpAny_pyIter_enum hE ?_
  refine ⟨s.heap.objs.size + 1, [s.heap.objs.size + 1, s.heap.objs.size, l], [s.heap.objs.size + 1, s.heap.objs.size], arr.size, _, _, _, (fun i v0 v1 => ∃ t, arr[i]? = some v1 ∧ v0 = .int (i : Nat) t), m₀, news, (fun i m led => J i m ∧ led = news), rfl,
    WalksT.enumerate hh (s.heap.objs.size + 1) s.heap.objs.size l (neN (by omega)) (neN (by omega)) (neN (by omega)) arr, ?_, ?_, ?_, ?_, ⟨⟨_, hE⟩, hI, ⟨_, hk _ _ hg, rfl, _, rfl⟩⟩, F.keeps hk, N.grown hk, ⟨hj, rfl⟩, ?_, ?_⟩
  · rintro i vals ⟨t, x, hx, rfl⟩
    exact ⟨_, _, rfl, t, hx, rfl⟩
  · intro hm
    simp only [List.mem_cons, List.not_mem_nil, or_false] at hm
    rcases hm with e | e | e
    · have e' : @Eq Nat env.locals (s.heap.objs.size + 1) := e; omega
    · have e' : @Eq Nat env.locals s.heap.objs.size := e; omega
    · exact (N _ hl).2.1 e.symm
  · intro b hb
    simp only [List.mem_cons, List.not_mem_nil, or_false] at hb
    rcases hb with rfl | rfl
    · exact fresh _ (Nat.le_succ _)
    · exact fresh _ (Nat.le_refl _)
  · intro p hp hm
    have := ltN (Heap.lt_size (N p hp).1)
    simp only [List.mem_cons, List.not_mem_nil, or_false] at hm
    rcases hm with e | e
    · have e' : @Eq Nat p.1 (s.heap.objs.size + 1) := e; omega
    · have e' : @Eq Nat p.1 s.heap.objs.size := e; omega
  · rintro i v0 v1 m₁ news₁ s₁ own ⟨h, tk, rfl⟩ hi ⟨t, hx, rfl⟩ ⟨hJ, rfl⟩ _ _ F₁ N₁
    refine wpAny_mono (turn i v1 t m₁ own h tk hx hJ F₁ fun p hp => N₁ p (by
      rcases List.mem_append.mp hp with q | q
      · exact List.mem_append_right _ q
      · exact List.mem_append_left _ q)) (fun f s₂ hf => ?_) fun _ _ e => e
    have back : ∀ {h₂ : Heap}, News h₀ env.locals h₂ (news₁ ++ own) → News h₀ env.locals h₂ (own ++ news₁) := fun N₂ p hp => N₂ p (by
      rcases List.mem_append.mp hp with q | q
      · exact List.mem_append_right _ q
      · exact List.mem_append_left _ q)
    cases f with
    | ret v => exact hf
    | brk => exact fin _ hf.out
    | next =>
      obtain ⟨h₂, tk₂, m₂, rfl, F₂, N₂, hJ₂⟩ := hf
      exact ⟨rfl, h₂, tk₂, m₂, news₁, rfl, F₂, back N₂, rfl, hJ₂, rfl⟩
    | cont =>
      obtain ⟨h₂, tk₂, m₂, rfl, F₂, N₂, hJ₂⟩ := hf
      exact ⟨rfl, h₂, tk₂, m₂, news₁, rfl, F₂, back N₂, rfl, hJ₂, rfl⟩
  · rintro h₂ tk m' news' F' N' _ ⟨hJ, rfl⟩
    exact fin _ (done m' h₂ tk hJ F' N')
end
local macro_rules | `(tactic| walk_at "EPost") => `(tactic| dsimp only [EPost])
local macro_rules | `(tactic| walk_at "exec For Tuple Call cons nil") => `(tactic| ((with_reducible show wpAny _ _ (exec (Stmt.For _ _ _ _ _) _) _ _ _); refine Hold.out ?_))
local macro_rules | `(tactic| walk_at "call type:enumerate") => `(tactic| ((with_reducible show wpAny _ _ (call (Value.type "enumerate") [Value.ref _]) (fun xv s₁ => wpAny _ _ (pyIter xv) (fun it s₂ => PairAt3 _ _ _ _ _ _ _ _ _ _ it s₂) _ s₁) _ _); refine Hold.out ?_))
local macro_rules | `(tactic| walk_at "call type:map") => `(tactic| (k_here; k_dflt (refine' map_K ?zF ?zN ?zl ?_; (case zF => k_asm); (case zN => k_asm); (case zl => k_mem); k_whole; intro It T M h' F' N' l1 l2 l3; (try k_sweep))))
local macro_rules | `(tactic| walk_at "call type:tuple") => `(tactic| (k_here; k_dflt (refine' tupleMap_K ?zF ?zX ?zT ?zN ?zl ?zS ?zr ?z1 ?z2 ?zz ?zd ?zu ?_; (case zF => k_asm); (case zX => k_asm); (case zT => k_asm); (case zN => k_asm); (case zl => k_mem); (case zS => assumption); (case zr => assumption); (case z1 => assumption); (case z2 => assumption); (case zz => assumption); (case zd => walk_at "ROOM"); (case zu => walk_at "ROOM"); k_whole; intro D h' tk' F' N' l1; (try k_lt l1); (try k_sweep))))
local macro_rules | `(tactic| walk_at "truthy ref") => `(tactic| (k_here; k_dflt (refine' ktl_truthyK ?zN ?zm ?zz ?_; (case zN => k_asm); (case zm => k_mem); (case zz => omega); k_whole)))
theorem try_plain {prog : Program} {A : Around} {body : List Stmt} {h₀ : ExceptHandler} {hs : List ExceptHandler} {pos : Pos} {env : Env} {s : Shared} {Q : Flow → Shared → Prop} {E : Value → Shared → Prop}
    (h : wpAny (model prog w) A (execs body env) Q (fun _ _ => False) s) : wpAny (model prog w) A (exec (.Try body (h₀ :: hs) [] [] pos) env) Q E s :=
  wpAny_Try_except (wpAny_mono h (fun f s' x => by cases f <;> first | exact wpAny_execs_nil x | exact x) fun _ _ x => x.elim)
local macro_rules | `(tactic| walk_at "exec Try") => `(tactic| (k_here; k_dflt (refine try_plain ?_)))
local macro_rules | `(tactic| walk_at "call builtin:str.split") => `(tactic| (k_here; (with_reducible show wpAny _ _ (call (Value.builtin "str.split") _) _ _ _); k_dflt (refine KSpl.split1 (by k_asm) (by k_asm) (by decide) ?_ (by (rw [sizeLine_eq]; omega)); intro D' lz h' k' e' a' F' N' l1; rw [e'] at a'; clear e')))
abbrev objsOf (Ls : List LI) : List (Addr × Obj) := Ls.map fun p => (p.1, LI.obj p)
theorem mem_objs_snoc {Ls : List LI} {x : LI} {p : Addr × Obj} (h : p ∈ objsOf (Ls ++ [x])) : p ∈ objsOf Ls ∨ p = (x.1, LI.obj x) := by
  rw [objsOf, List.map_append, List.mem_append] at h
  exact h.imp_right fun h => List.mem_singleton.mp h
theorem mem_objs_right {Ls Ms : List LI} {p : Addr × Obj} (h : p ∈ objsOf Ms) : p ∈ objsOf (Ls ++ Ms) := by
  obtain ⟨q, hq, e⟩ := List.mem_map.mp h
  exact List.mem_map.mpr ⟨q, List.mem_append_right _ hq, e⟩
theorem item_my {prog : Program} {A : Around} {E : Value → Shared → Prop} {s : Shared} {value slice : PySem.Expr} {l : Addr} {us : List Value} {v : Value} {k : Int} {u : Tok} {Q : Value → Shared → Prop}
    (hl : s.heap.IsList l us.toArray) (h0 : 0 ≤ k) (h1 : k < 2 ^ 63) (hx : us[k.toNat]? = some v) (h : Q v s)
    (hs : subscripted slice false (.ref l) (.int k u) = operate [.ref l, .int k u] (getItem (.ref l) (.int k u)) := by with_unfolding_all rfl) :
    wpAny (model prog w) A (subscriptTail value slice (.ref l) (.int k u)) Q E s :=
  tail_any hl.typeIs slot_list_getitem.lookup (wpAny_getItem_list hl h0 h1 (by simpa using hx) h) hs
local macro_rules | `(tactic| walk_at "subscriptTail") => `(tactic| (k_here; (with_reducible show wpAny _ _ (subscriptTail _ _ (Value.ref _) (Value.int _ _)) _ _ _); k_dflt (refine' item_my ?zk1 ?zk2 ?zk3 ?zk4 ?_ ?zk6; (case zk1 => exact News.isList (by k_asm) (by k_mem)); (case zk2 => omega); (case zk3 => omega); (case zk4 => assumption); (case zk6 => with_unfolding_all rfl); k_whole)))
theorem sub_snoc (pre : List (Addr × Obj)) {Ls : List LI} {x : LI} : ∀ p ∈ pre ++ objsOf (Ls ++ [x]), p ∈ (x.1, LI.obj x) :: (pre ++ objsOf Ls) := fun p hp => by
  rcases List.mem_append.mp hp with h | h
  · exact .tail _ (List.mem_append_left _ h)
  · rcases mem_objs_snoc h with h | rfl
    · exact .tail _ (List.mem_append_right _ h)
    · exact .head _
theorem off_snoc (pre : List (Addr × Obj)) {I C D : Addr} {Ls : List LI} {x : LI} (h : LCg.Off3 I C D (pre ++ objsOf Ls)) (hx : x.1 ≠ I ∧ x.1 ≠ C ∧ x.1 ≠ D) : LCg.Off3 I C D (pre ++ objsOf (Ls ++ [x])) :=
  LCg.Off3.of fun p hp => by
    rcases List.mem_append.mp hp with h1 | h1
    · exact h.mem p (List.mem_append_left _ h1)
    · rcases mem_objs_snoc h1 with h1 | rfl
      · exact h.mem p (List.mem_append_right _ h1)
      · exact hx
/-- the pieces of p -/
def cut (p : Str) : List Str := Txt.split p (Str.ofString "/")
theorem off_snoc2 (pre : List (Addr × Obj)) {I C D : Addr} {Ls Ms : List LI} {x : LI} (h : LCg.Off3 I C D (pre ++ objsOf (Ls ++ Ms))) (hx : x.1 ≠ I ∧ x.1 ≠ C ∧ x.1 ≠ D) : LCg.Off3 I C D (pre ++ objsOf (Ls ++ (Ms ++ [x]))) := by
  rw [← List.append_assoc]; exact off_snoc pre h hx
theorem sub_snoc2 (pre : List (Addr × Obj)) {Ls Ms : List LI} {x : LI} : ∀ p ∈ pre ++ objsOf (Ls ++ (Ms ++ [x])), p ∈ (x.1, LI.obj x) :: (pre ++ objsOf (Ls ++ Ms)) := by
  rw [← List.append_assoc]; exact sub_snoc pre
theorem ref_at {Ls : List LI} {i : Nat} {v : Value} (h : (refsOf Ls).toArray[i]? = some v) : ∃ q : LI, Ls[i]? = some q ∧ v = .ref q.1 := by
  have h2 : (refsOf Ls)[i]? = some v := by simpa using h
  rw [List.getElem?_map, Option.map_eq_some_iff] at h2
  obtain ⟨q, h1, h3⟩ := h2
  exact ⟨q, h1, h3.symm⟩
theorem mem_objs (pre : List (Addr × Obj)) {Ls Ms : List LI} {q : LI} (h : q ∈ Ls) : (q.1, LI.obj q) ∈ pre ++ objsOf (Ls ++ Ms) := List.mem_append_right _ (List.mem_map.mpr ⟨q, List.mem_append_left _ h, rfl⟩)
theorem mem_le_sum {xs : List Str} {c : Str} (h : c ∈ xs) : c.length ≤ (xs.map (·.length)).sum := by
  induction xs with
  | nil => cases h
  | cons x r ih =>
    rw [List.map_cons, List.sum_cons]
    rcases List.mem_cons.mp h with rfl | h
    · omega
    · have := ih h; omega
def keepC (c : Str) : Bool := decide ((c.length : Int) ≠ 0) && (c != Str.ofString ".")
theorem keepC_1 {c : Str} (h : (c.length : Int) ≠ 0) (h2 : (c != Str.ofString ".") = true) : keepC c = true := by unfold keepC; rw [decide_eq_true h, h2]; rfl
theorem keepC_2 {c : Str} (h2 : (c != Str.ofString ".") = false) : keepC c = false := by unfold keepC; rw [h2, Bool.and_false]
theorem keepC_3 {c : Str} (h : (c.length : Int) = 0) : keepC c = false := by unfold keepC; rw [decide_eq_false (by omega)]; rfl
theorem kept_yes {ys : List Value} {cs : List Str} {j : Nat} {c : Str} {t : Tok} (hys : StrsAre ys ((cs.take j).filter keepC)) (hc : cs[j]? = some c) (h : keepC c = true) : StrsAre (ys ++ [.str c t]) ((cs.take (j + 1)).filter keepC) := by
  rw [List.take_add_one, hc, List.filter_append]
  refine hys.append' ?_
  simpa [h] using StrsAre.cons c t .nil
theorem kept_no {ys : List Value} {cs : List Str} {j : Nat} {c : Str} (hys : StrsAre ys ((cs.take j).filter keepC)) (hc : cs[j]? = some c) (h : keepC c = false) : StrsAre ys ((cs.take (j + 1)).filter keepC) := by
  rw [List.take_add_one, hc, List.filter_append]
  simpa [h] using hys
def parts (p : Str) : List Str := (cut p).filter keepC
def commonS (ps : List Str) : Str := Str.ofString "/" ++ Txt.join (Str.ofString "/") (cmn (loL (ps.map parts)) (hiL (ps.map parts)))
theorem filter_sum {f : Str → Bool} : ∀ xs : List Str, ((xs.filter f).map (·.length)).sum ≤ (xs.map (·.length)).sum
  | [] => Nat.le_refl _
  | x :: r => by
    have := filter_sum (f := f) r
    rw [List.filter_cons]
    split
    · simp only [List.map_cons, List.sum_cons]; omega
    · simp only [List.map_cons, List.sum_cons]; omega
theorem prefix_sum {a b : List Str} (h : a <+: b) : (a.map (·.length)).sum ≤ (b.map (·.length)).sum := by
  obtain ⟨c, rfl⟩ := h
  rw [List.map_append, List.sum_append]; omega
theorem strs_take {vs : List Value} {ys : List Str} (h : StrsAre vs ys) : ∀ i, StrsAre (vs.take i) (ys.take i) := by
  induction h with
  | nil => intro i; simp; exact .nil
  | cons y t _ ih =>
    intro i
    cases i with
    | zero => exact .nil
    | succ i => exact .cons y t (ih i)
theorem getD_at {ys : List Str} {i : Nat} {y : Str} (h : ys[i]? = some y) : ys.getD ((i : Nat) : Int).toNat Str.empty = y := by
  rw [Int.toNat_natCast, List.getD_eq_getElem?_getD, h]; rfl
structure PathOk (p : Str) : Prop where
  abs : Txt.startswith p (Str.ofString "/") = true
  len : p.length ≤ 60000
  num : (cut p).length ≤ 30000
  sum : ((cut p).map (·.length)).sum ≤ 60000
theorem commonpath_spec (l : Addr) (nn : Nat) (vs : List Value) (ps : List Str) (hS : StrsAre vs ps) (hst : ∀ p ∈ ps, PathOk p) :
    Ctr w mean mg mb 177 3 [.ref l] (fun h₀ h => New h₀ h l (W.listOf vs.toArray nn) ∧ ps.length ≤ 100 ∧ 0 < ps.length)
    (fun _ _ r => ∃ t, r = .str (commonS ps) t) := by
  intro dp un fr gd h₀ s Q E hd hu hb hkp hp hret
  obtain ⟨p1, hln, hl0⟩ := hp
  have hvl := hS.length
  have hget := strsAre_get hS
  refine' enterC [(l, W.listOf vs.toArray nn)] [(Str.ofString "paths", .ref l)] hb hkp (List.forall_mem_cons.mpr ⟨p1, fun _ h => nomatch h⟩) ?k6 ?k7 ?k8 ?k9 ?kB ?kD ?c2 ?c3 ?c4 ?_
  walk_at "ENTERC"
  intro g L h₁ tk cells F N Y X T kg kback knew klt
  have hY := CellsAre.two Y
  obtain ⟨oC, oS, hE, d1, d2⟩ := hY
  subst hE
  clear Y
  simp only [List.cons_append, List.nil_append] at N
  replace d1 : oC.data = .cell none := d1
  replace d2 : oS.data = .cell none := d2
  k_lt klt
  have hne : vs.isEmpty = false := by cases vs with | nil => simp at hvl; omega | cons _ _ => rfl
  have hsz : vs.length ≤ sizeLine := by rw [sizeLine_eq]; omega
  k_steps
  rename News _ _ _ _ => N1; rename Fr _ _ _ _ => F1
  rename_i D hq1 tq1 lD hq2 tq2 tq3 tq4 tq5 hq3 oSep dSep hq4 oCur dCur
  refine csrc_tup (fun i ys led => ∃ Ls : List LI, ys = refsOf Ls ∧ led = (D, tupO vs.toArray) :: (L + 1 + 1, oCur) :: (L + 1, oSep) :: (l, W.listOf vs.toArray nn) :: objsOf Ls ∧ (∀ p ∈ Ls, StrsAre p.2.1 p.2.2.2) ∧ txtsOf Ls = (ps.take i).map cut)
    rfl F1 N1 (.head _) (by rw [List.size_toArray]; exact hsz) ⟨[], rfl, rfl, (fun _ h => nomatch h), by simp⟩ (fun i ys led h => by obtain ⟨Ls, _, rfl, _⟩ := h; exact .head _) ?_ ?_
  · intro g2 i hi
    rintro v I oI C oC D2 m₂ ys led h2 tk2 E' hv ⟨Ls, rfl, rfl, hok, htx⟩ hC hx2 F4 N4 off4 ne4
    obtain ⟨p, tp, hp, rfl⟩ := hget i v (by simpa using hv)
    have hpm := hst p (List.mem_of_getElem? hp)
    have hpl := hpm.len
    clear N1 F1
    refine wpAny_tests_nil ?_
    simp only [if_true]
    k_steps
    rename_i aN lz hN kN a9 F9 N9 l9
    refine CEnd.mk ((D, tupO vs.toArray) :: (L + 1 + 1, oCur) :: (L + 1, oSep) :: (l, W.listOf vs.toArray nn) :: objsOf (Ls ++ [(aN, strValues lz, 0, cut p)])) F9 N9 (sub_snoc [(I, oI), (C, oC), (D2, _), _, _, _, _]) (off_snoc [_, _, _, _] off4 ⟨Ne.symm (Nat.ne_of_lt (l9 _ (.head _))), Ne.symm (Nat.ne_of_lt (l9 _ (.tail _ (.head _)))), Ne.symm (Nat.ne_of_lt (l9 _ (.tail _ (.tail _ (.head _)))))⟩)
      ⟨Ls ++ [(_, _, 0, cut p)], by simp, rfl, ?_, ?_⟩
    · intro q hq
      rcases List.mem_append.mp hq with hq | hq
      · exact hok q hq
      · rw [List.mem_singleton.mp hq]; exact a9
    · rw [txtsOf, List.map_append, List.take_add_one, hp, List.map_append]
      exact congrArg (· ++ _) htx
  · rintro g2 ys led ⟨Ls, rfl, rfl, hok, htx⟩
    rw [List.size_toArray, hvl, List.take_length] at htx
    intro D3 h2 tk2 F4 N4 off4
    clear N1 F1
    dsimp only
    k_steps
    refine set_eval F4 (by rfl) (by decide) (by rfl) (by decide) (by rfl) (by intro _; rfl) ?_
    k_steps
    rename Fr _ _ _ _ => F1
    refine ssrc_mk rfl F1 N4 (.tail _ (.head _)) (by rw [List.size_toArray]; omega) ?_ ?_
    · intro g3 i hi
      rintro v I oI C oC D5 oD m₂ h3 tk3 E' hv hC hx2 F5 N5 off5 ne5
      obtain ⟨p, tp, hp, rfl⟩ := hget i v (by simpa using hv)
      have hpm := (hst p (List.mem_of_getElem? hp)).abs
      clear N4 F1
      k_steps
      · exact congrArg Value.bool hpm
      · exact CEnd.mk _ (by k_asm) (by k_asm) (fun _ h => h) off5 rfl
    · intro D5 h3 tk3 F5 N5 off5
      clear N4 F1
      refine assign_set1 rfl F5 N5 (.head _) (by rfl) (by rfl) fun h4 tk4 F6 N6 => ?_
      clear F5 N5
      dsimp only
      k_steps
      rename Fr _ _ _ _ => F1
      have N7 : News g L h4 ((D3, lst (refsOf Ls)) :: (L + 1 + 1, oCur) :: (L + 1, oSep) :: (l, W.listOf vs.toArray nn) :: objsOf (Ls ++ [])) := fun p hp => N6 p (by
        rw [List.append_nil] at hp
        rcases List.mem_cons.mp hp with rfl | hp
        · exact .tail _ (.head _)
        · exact .tail _ (.tail _ (.tail _ hp)))
      have hcut : ∀ q ∈ Ls, ∃ p ∈ ps, q.2.2.2 = cut p := fun q hq => by
        have z : q.2.2.2 ∈ txtsOf Ls := List.mem_map.mpr ⟨q, hq, rfl⟩
        rw [htx] at z
        obtain ⟨p, hp, e⟩ := List.mem_map.mp z
        exact ⟨p, hp, e.symm⟩
      have hLl : Ls.length = ps.length := by have := congrArg List.length htx; simpa using this
      refine csrc_led (fun i ys led => ∃ Ms : List LI, ys = refsOf Ms ∧ led = (D3, lst (refsOf Ls)) :: (L + 1 + 1, oCur) :: (L + 1, oSep) :: (l, W.listOf vs.toArray nn) :: objsOf (Ls ++ Ms) ∧ (∀ p ∈ Ms, StrsAre p.2.1 p.2.2.2) ∧ txtsOf Ms = (Ls.take i).map fun q => q.2.2.2.filter keepC)
        rfl F1 N7 (.head _) (by rw [List.size_toArray, List.length_map, sizeLine_eq]; omega) ⟨[], rfl, rfl, (fun _ h => nomatch h), by simp⟩ (fun i ys led h => by obtain ⟨Ms, _, rfl, _⟩ := h; exact .head _) ?_ ?_
      · clear N6 N7 F1 off4 off5
        intro g3 i hi
        rintro v I oI C oC D6 m₂ ys led h5 tk5 E' hv ⟨Ms, rfl, rfl, hokM, htM⟩ hC hx2 F7 N7 off7 ne7
        obtain ⟨q, hq, rfl⟩ := ref_at hv
        have hqm := List.mem_of_getElem? hq
        have hqS := hok q hqm
        refine wpAny_tests_nil ?_
        simp only [if_true]
        obtain ⟨p0, hp0, hc0⟩ := hcut q hqm
        have hnum := (hst p0 hp0).num
        have hsum := (hst p0 hp0).sum
        rw [← hc0] at hnum hsum
        have hqlen := hqS.length
        have hgq := strsAre_get hqS
        k_steps
        rename Fr _ _ _ _ => F8
        refine csrc_led (k := q.2.2.1) (arr := q.2.1.toArray) (fun j ys led => led = (I, oI) :: (C, oC) :: (D6, lst (refsOf Ms)) :: (D3, lst (refsOf Ls)) :: (L + 1 + 1, oCur) :: (L + 1, oSep) :: (l, W.listOf vs.toArray nn) :: objsOf (Ls ++ Ms) ∧ StrsAre ys ((q.2.2.2.take j).filter keepC))
          rfl F8 N7 (mem_objs [_, _, _, _, _, _, _] hqm) (by rw [List.size_toArray, sizeLine_eq]; omega) ⟨rfl, .nil⟩ (fun _ _ _ h => by rw [h.1]; exact mem_objs [_, _, _, _, _, _, _] hqm) ?_ ?_
        · intro g4 j hj
          rintro v I2 oI2 C2 oC2 D7 m₃ ys led h6 tk6 E2 hv2 ⟨rfl, hys⟩ hC2 hx3 F9 N9 off9 ne9
          obtain ⟨c, tc, hc, rfl⟩ := hgq j v (by simpa using hv2)
          have hcl : c.length ≤ 60000 := Nat.le_trans (mem_le_sum (List.mem_of_getElem? hc)) hsum
          refine wpAny_tests_one ?_
          clear N7 F8
          k_steps
          · exact CEnd.mk _ (by k_asm) (by k_asm) (fun _ h => h) off9 ⟨rfl, kept_yes hys hc (keepC_1 (by assumption) (by assumption))⟩
          · exact CEnd.mk _ (by k_asm) (by k_asm) (fun _ h => h) off9 ⟨rfl, kept_no hys hc (keepC_2 (by assumption))⟩
          · exact CEnd.mk _ (by k_asm) (by k_asm) (fun _ h => h) off9 ⟨rfl, kept_no hys hc (keepC_3 (by assumption))⟩
        · rintro g4 ys led ⟨rfl, hys⟩
          rw [List.size_toArray, hqlen, List.take_length] at hys
          intro D8 h6 tk6 F9 N9 off9
          clear N7 F8
          refine CEnd.mk ((D3, lst (refsOf Ls)) :: (L + 1 + 1, oCur) :: (L + 1, oSep) :: (l, W.listOf vs.toArray nn) :: objsOf (Ls ++ (Ms ++ [(D8, ys, ys.length, q.2.2.2.filter keepC)]))) F9 N9 (sub_snoc2 [(I, oI), (C, oC), (D6, _), _, _, _, _])
            (off_snoc2 [_, _, _, _] off7 ⟨Ne.symm off9.1, Ne.symm off9.2.1, Ne.symm off9.2.2.1⟩) ⟨Ms ++ [(D8, ys, ys.length, q.2.2.2.filter keepC)], by simp, rfl, ?_, ?_⟩
          · intro x hx
            rcases List.mem_append.mp hx with hx | hx
            · exact hokM x hx
            · rw [List.mem_singleton.mp hx]; exact hys
          · rw [txtsOf, List.map_append, List.take_add_one, hq, List.map_append]
            exact congrArg (· ++ _) htM
      · rintro g3 ys led ⟨Ms, rfl, rfl, hokM, htM⟩
        rw [List.size_toArray, List.length_map, List.take_length] at htM
        intro D6 h5 tk5 F7 N8 off7
        clear N6 N7 F1 off4 off5
        dsimp only
        have N9 : News g L h5 ((D6, lst (refsOf Ms)) :: (L + 1 + 1, oCur) :: (L + 1, oSep) :: (l, W.listOf vs.toArray nn) :: objsOf Ms) := fun p hp => N8 p (by
          rcases List.mem_cons.mp hp with rfl | hp
          · exact .head _
          · refine .tail _ (.tail _ ?_)
            rcases List.mem_append.mp (show p ∈ [(L + 1 + 1, oCur), (L + 1, oSep), (l, W.listOf vs.toArray nn)] ++ objsOf Ms from hp) with h | h
            · exact List.mem_append_left _ h
            · refine List.mem_append_right [(L + 1 + 1, oCur), (L + 1, oSep), (l, W.listOf vs.toArray nn)] ?_
              exact mem_objs_right h)
        have htP : txtsOf Ms = ps.map parts := by
          have e2 : txtsOf Ms = (txtsOf Ls).map (List.filter keepC) := by rw [htM, txtsOf, List.map_map]; rfl
          rw [e2, htx, List.map_map]; rfl
        have hM : ∀ q ∈ Ms, q.2.2.2.length ≤ 30000 ∧ (q.2.2.2.map (·.length)).sum ≤ 60000 := fun q hq => by
          have z : q.2.2.2 ∈ txtsOf Ms := List.mem_map.mpr ⟨q, hq, rfl⟩
          rw [htP] at z
          obtain ⟨p, hp, e⟩ := List.mem_map.mp z
          rw [← e]
          exact ⟨Nat.le_trans (List.length_filter_le _ _) (hst p hp).num, Nat.le_trans (filter_sum _) (hst p hp).sum⟩
        clear N8 hok htx hcut off7
        have hMl : Ms.length = ps.length := by have := congrArg List.length htM; simp at this; omega
        k_steps
        rename Fr _ _ _ _ => F1
        refine min_K (nn := (refsOf Ms).length) rfl F1 N9 (.head _) (fun p hp => .tail _ (.tail _ (.tail _ (.tail _ (List.mem_map.mpr ⟨p, hp, rfl⟩))))) hokM (by dsimp only [AR, Around.deeper, cLine]; omega) (by omega) fun p1 h6 tk6 hp1 F2 N2 => ?_
        clear N9 F1
        k_steps
        rename Fr _ _ _ _ => F1; rename News _ _ _ _ => N1
        refine max_K (nn := (refsOf Ms).length) rfl F1 N1 (.head _) (fun p hp => .tail _ (.tail _ (.tail _ (.tail _ (List.mem_map.mpr ⟨p, hp, rfl⟩))))) hokM (by dsimp only [AR, Around.deeper, cLine]; omega) (by omega) fun p2 h7 tk7 hp2 F3 N3 => ?_
        k_steps
        rename Fr _ _ _ _ => F4; rename News _ _ _ _ => N4
        have m1 := List.mem_of_getElem? hp1
        have m2 := List.mem_of_getElem? hp2
        have S1 := hokM p1 m1
        have S2 := hokM p2 m2
        have N5 : ∀ h, News g L h ((D6, lst (refsOf Ms)) :: (L + 1 + 1, oCur) :: (L + 1, oSep) :: (l, W.listOf vs.toArray nn) :: objsOf Ms) → News g L h [(p1.1, W.listOf p1.2.1.toArray p1.2.2.1), (p2.1, W.listOf p2.2.1.toArray p2.2.2.1), (L + 1, oSep), (l, W.listOf vs.toArray nn)] := fun h N p hp => by
          simp only [List.mem_cons, List.not_mem_nil, or_false] at hp
          rcases hp with rfl | rfl | rfl | rfl
          · exact N _ (.tail _ (.tail _ (.tail _ (.tail _ (List.mem_map.mpr ⟨p1, m1, rfl⟩)))))
          · exact N _ (.tail _ (.tail _ (.tail _ (.tail _ (List.mem_map.mpr ⟨p2, m2, rfl⟩)))))
          · exact N _ (.tail _ (.tail _ (.head _)))
          · exact N _ (.tail _ (.tail _ (.tail _ (.head _))))
        replace N4 := N5 _ N4
        clear N5
        have q1 : (txtsOf Ms).length = Ms.length := by rw [List.length_map]
        have hlo : p1.2.2.2 = loL (txtsOf Ms) := by rw [loL, q1]; exact (txt_at hp1).symm
        have hhi : p2.2.2.2 = hiL (txtsOf Ms) := by rw [hiL, q1]; exact (txt_at hp2).symm
        have hle : lexLt p2.2.2.2 p1.2.2.2 = false := by rw [hlo]; exact loL_le (List.mem_map.mpr ⟨p2, m2, rfl⟩)
        have hb1 := hM p1 m1
        have hg1 := strsAre_get S1
        have hw0 := prefix_sum (cmn_prefix_left p1.2.2.2 p2.2.2.2)
        have hw1 := (cmn_prefix_left p1.2.2.2 p2.2.2.2).length_le
        rw [htP] at hlo hhi
        clear hM htP htM hokM
        refine Hold.mk (For_pair3 g rfl rfl rfl rfl ?_ (by intro _; rfl))
        k_steps
        rename Fr _ _ _ _ => F5; rename News _ _ _ _ => N6
        refine Hold.mk (enum_loop (fun i m => m (Str.ofString "common") = some (.ref p1.1) ∧ m (Str.ofString "s1") = some (.ref p1.1) ∧ m (Str.ofString "s2") = some (.ref p2.1) ∧ m (Str.ofString "isabs") = some (.bool true) ∧ p1.2.2.2.take i = p2.2.2.2.take i)
          (fun s₂ => ∃ h tk m aC vC nC, s₂ = { s with heap := h, toks := tk } ∧ Fr g L h m ∧ News g L h [(aC, W.listOf (List.toArray vC) nC), (L + 1, oSep), (l, W.listOf vs.toArray nn)] ∧ m (Str.ofString "common") = some (.ref aC) ∧ m (Str.ofString "isabs") = some (.bool true) ∧ StrsAre vC (cmn p1.2.2.2 p2.2.2.2))
          rfl F5 N6 (.head _) ⟨rfl, rfl, rfl, rfl, rfl⟩ ?_ ?_ ?_)
        · clear F5 N6
          rintro i v t m₁ own h8 tk8 hv ⟨e1, e2, e3, e4, e5⟩ F8 N8
          obtain ⟨c, tc, hc, rfl⟩ := hg1 i v (by simpa using hv)
          have hi1 := (List.getElem?_eq_some_iff.mp hc).1
          have hi2 := lex_room hle hi1 e5
          obtain ⟨ty, hy⟩ := lt_get S2 hi2
          have hy2 : p2.2.1[((i : Nat) : Int).toNat]? = some (.str p2.2.2.2[i] ty) := by simpa using hy
          clear hy hv
          generalize hyy : p2.2.2.2[i] = y at hy2
          have hy3 : p2.2.2.2[i]? = some y := by rw [List.getElem?_eq_getElem hi2, hyy]
          clear hyy
          simp only [List.cons_append, List.nil_append] at N8
          replace F8 := fr_known [(Str.ofString "c", .str c tc), (Str.ofString "i", .int (i : Nat) t), (Str.ofString "common", .ref p1.1), (Str.ofString "s1", .ref p1.1), (Str.ofString "s2", .ref p2.1), (Str.ofString "isabs", .bool true)] F8
            (List.forall_mem_cons.mpr ⟨rfl, List.forall_mem_cons.mpr ⟨rfl, List.forall_mem_cons.mpr ⟨e1, List.forall_mem_cons.mpr ⟨e2, List.forall_mem_cons.mpr ⟨e3, List.forall_mem_cons.mpr ⟨e4, fun _ h => nomatch h⟩⟩⟩⟩⟩⟩)
          dsimp only [kstB] at F8
          k_steps
          · rename News _ _ _ _ => N9; rename Fr _ _ _ _ => F9; rename ((_ != _) = true) => hne2
            rw [slicePick_upto _ i (by rw [List.size_toArray, S1.length]; omega)] at N9
            rw [getD_at hy3] at hne2
            refine Hold.mk ⟨_, _, _, _, p1.2.1.take i, 0, rfl, F9, fun p hp => N9 p ?_, rfl, rfl, ?_⟩
            · simp only [List.mem_cons, List.not_mem_nil, or_false] at hp
              rcases hp with rfl | rfl | rfl
              · exact .head _
              · exact .tail _ (.tail _ (.tail _ (.head _)))
              · exact .tail _ (.tail _ (.tail _ (.tail _ (.head _))))
            · rw [cmn_at e5 hc hy3 (by simpa using hne2)]
              exact strs_take S1 i
          · rename Fr _ _ _ _ => F9; rename ((_ != _) = false) => heq2
            rw [getD_at hy3] at heq2
            refine ⟨_, _, _, rfl, F9, N8, rfl, rfl, rfl, rfl, ?_⟩
            rw [List.take_add_one, List.take_add_one, hc, hy3, e5, show c = y by simpa using heq2]
        · clear F5 N6
          rintro m₁ h8 tk8 ⟨e1, e2, e3, e4, e5⟩ F8 N8
          refine ⟨_, _, _, p1.1, p1.2.1, p1.2.2.1, rfl, F8, fun p hp => N8 p ?_, e1, e4, ?_⟩
          · simp only [List.mem_cons, List.not_mem_nil, or_false] at hp
            rcases hp with rfl | rfl | rfl
            · exact .head _
            · exact .tail _ (.tail _ (.head _))
            · exact .tail _ (.tail _ (.tail _ (.head _)))
          · rw [List.size_toArray, S1.length, List.take_length] at e5
            rw [cmn_whole e5]; exact S1
        · clear F5 N6
          rintro _ ⟨h8, tk8, m₁, aC, vC, nC, rfl, F8, N8, e1, e4, hC⟩
          replace F8 := fr_known [(Str.ofString "common", .ref aC), (Str.ofString "isabs", .bool true)] F8 (List.forall_mem_cons.mpr ⟨e1, List.forall_mem_cons.mpr ⟨e4, fun _ h => nomatch h⟩⟩)
          dsimp only [kstB] at F8
          generalize hcs : cmn p1.2.2.2 p2.2.2.2 = cs at hC hw0 hw1
          clear S1 hle hg1
          obtain ⟨hb1, hb2⟩ := hb1
          k_steps
          refine hret _ _ _ (kback L _ _ (Fr.keep (by k_asm)) (by k_asm) (by lcg_sub)) (str_ex ?_)
          rw [commonS, ← hlo, ← hhi, hcs]
local macro_rules | `(tactic| law_fm) => `(tactic| skip)
theorem Ctr.weak {f : Addr} {k : Nat} {vs : List Value} {Pre Pre' : Heap → Heap → Prop} {R R' : Heap → Heap → Value → Prop} (C : Ctr w mean mg mb f k vs Pre R) (hp : ∀ h h', Pre' h h' → Pre h h') (hr : ∀ h h' r, R h h' r → R' h h' r) : Ctr w mean mg mb f k vs Pre' R' :=
  fun dp un fr gd h₀ s Q E hd hu hb hkp hpre hret => C dp un fr gd h₀ s Q E hd hu hb hkp (hp _ _ hpre) fun r h' tk' kp hR => hret r h' tk' kp (hr _ _ _ hR)
theorem straightN_spec (k : Nat) (t : Tok) (z : Str) (e : straight k = z) (hk : k ≤ 4000) : Ctr w mean mg mb 191 2 [.int (k : Nat) t] (fun _ _ => True) (fun _ _ r => ∃ t', r = .str z t') :=
  (straight_spec (k : Nat) t).weak (fun _ _ _ => by constructor <;> omega) fun _ _ r ⟨t', h⟩ => ⟨t', by rw [h, Int.toNat_natCast, e]⟩
theorem common_spec (l : Addr) (nn : Nat) (vs : List Value) (ps : List Str) (z : Str) (hS : StrsAre vs ps) (hst : ∀ p ∈ ps, PathOk p) (h1 : ps.length ≤ 100) (h0 : 0 < ps.length) (e : commonS ps = z) :
    Ctr w mean mg mb 177 3 [.ref l] (fun h₀ h => New h₀ h l (W.listOf vs.toArray nn)) (fun _ _ r => ∃ t, r = .str z t) :=
  (commonpath_spec l nn vs ps hS hst).weak (fun _ _ h => ⟨h, h1, h0⟩) fun _ _ r ⟨t', h⟩ => ⟨t', by rw [h, e]⟩
theorem low_spec (l : Addr) (nn : Nat) (vs : List Value) (ks : List Nat) (k : Nat) (hI : IntsAre vs (natI ks)) (hn : 0 < ks.length) (hb : ks.length ≤ 100) (e : ks.foldl lcaN (ks.headD 0) = k) :
    Ctr w mean mg mb 212 1 [.ref l] (fun h₀ h => New h₀ h l (W.listOf vs.toArray nn)) (fun _ _ r => ∃ t, r = .int (k : Nat) t) :=
  (lowest_spec l nn vs ks hI hn hb).weak (fun _ _ h => h) fun _ _ r ⟨t', h⟩ => ⟨t', by rw [h, e]⟩
theorem low2_spec (l : Addr) (nn : Nat) (a b : Nat) (t u : Tok) (k : Nat) (e : [a, b].foldl lcaN ([a, b].headD 0) = k) :
    Ctr w mean mg mb 212 1 [.ref l] (fun h₀ h => New h₀ h l (W.listOf (List.toArray [.int (a : Nat) t, .int (b : Nat) u]) nn)) (fun _ _ r => ∃ t, r = .int (k : Nat) t) :=
  low_spec l nn _ [a, b] k (.cons _ _ (.cons _ _ .nil)) (by simp) (by simp) e
theorem common2_spec (l : Addr) (nn : Nat) (a b : Str) (t u : Tok) (z : Str) (hst : ∀ p ∈ [a, b], PathOk p) (e : commonS [a, b] = z) :
    Ctr w mean mg mb 177 3 [.ref l] (fun h₀ h => New h₀ h l (W.listOf (List.toArray [.str a t, .str b u]) nn)) (fun _ _ r => ∃ t, r = .str z t) :=
  common_spec l nn _ [a, b] z (.cons _ _ (.cons _ _ .nil)) hst (by simp) (by simp) e
theorem common1_spec (l : Addr) (nn : Nat) (a : Str) (t : Tok) (z : Str) (hst : ∀ p ∈ [a], PathOk p) (e : commonS [a] = z) :
    Ctr w mean mg mb 177 3 [.ref l] (fun h₀ h => New h₀ h l (W.listOf (List.toArray [.str a t]) nn)) (fun _ _ r => ∃ t, r = .str z t) :=
  common_spec l nn _ [a] z (.cons _ _ .nil) hst (by simp) (by simp) e
local macro_rules | `(tactic| walk_at "call ref") => `(tactic| (k_here; k_dflt (refine' ctr_use (straightN_spec _ _ _ ?ze ?zk) ?zF ?zN ?zX ?zT ?zd ?zu trivial ?_; walk_at "USE"; (case ze => with_reducible assumption); (case zk => omega); k_whole; intro r h' tk' F' N' kp hR; obtain ⟨t', hR1⟩ := hR; subst hR1; clear kp; (try k_sweep); (try k_fold))))
local macro_rules | `(tactic| walk_at "call ref") => `(tactic| (k_here; k_dflt (refine' ctr_use (low2_spec _ _ _ _ _ _ _ ?ze) ?zF ?zN ?zX ?zT ?zd ?zu ?zp ?_; walk_at "USE"; (case zp => exact new_ofC (by k_asm) (by k_mem)); (case ze => with_reducible assumption); k_whole; intro r h' tk' F' N' kp hR; obtain ⟨t', hR1⟩ := hR; subst hR1; clear kp; (try k_sweep); (try k_fold))))
local macro_rules | `(tactic| walk_at "call ref") => `(tactic| (k_here; k_dflt (refine' ctr_use (common2_spec _ _ _ _ _ _ _ ?zok ?ze) ?zF ?zN ?zX ?zT ?zd ?zu ?zp ?_; walk_at "USE"; (case zp => exact new_ofC (by k_asm) (by k_mem)); (case zok => with_reducible assumption); (case ze => with_reducible assumption); k_whole; intro r h' tk' F' N' kp hR; obtain ⟨t', hR1⟩ := hR; subst hR1; clear kp; (try k_sweep); (try k_fold))))
local macro_rules | `(tactic| walk_at "subscriptTail Name Name ref int") => `(tactic| (k_here; (with_reducible show wpAny _ _ (subscriptTail _ _ (Value.ref _) (Value.int _ _)) _ _ _); k_dflt (refine' item_my ?zk1 ?zk2 ?zk3 ?zk4 ?_ ?zk6; (case zk1 => exact News.isList (by k_asm) (by k_mem)); (case zk4 => with_reducible assumption); (case zk2 => omega); (case zk3 => omega); (case zk6 => with_unfolding_all rfl); k_whole)))
theorem told_reads {h : Heap} {a : Addr} {x : Str} {t : Tok} {b1 b2 b3 b4 b5 : Bool} (e : h.IsList a [Value.str x t, .bool b1, .bool b2, .bool b3, .bool b4, .bool b5].toArray) :
    ∃ as, Reads h (.ref a) (.list [.str x, .bool b1, .bool b2, .bool b3, .bool b4, .bool b5]) as := by
  obtain ⟨o, ho, hc, k, hd⟩ := e
  exact ⟨_, reads_list_at ho hc hd (ReadsAll.cons (Reads.str _ _) (ReadsAll.cons (Reads.bool _) (ReadsAll.cons (Reads.bool _) (ReadsAll.cons (Reads.bool _) (ReadsAll.cons (Reads.bool _) (ReadsAll.cons (Reads.bool _) ReadsAll.nil))))))⟩
theorem ne_told {prog : Program} {A : Around} {E : Value → Shared → Prop} {s : Shared} {a b : Addr} {x y : Str} {t u : Tok} {b1 b2 b3 b4 b5 c1 c2 c3 c4 c5 : Bool} {Q : Value → Shared → Prop}
    (h1 : s.heap.IsList a [Value.str x t, .bool b1, .bool b2, .bool b3, .bool b4, .bool b5].toArray) (h2 : s.heap.IsList b [Value.str y u, .bool c1, .bool c2, .bool c3, .bool c4, .bool c5].toArray)
    (e0 : x = y) (e1 : b1 = c1) (e2 : b2 = c2) (e3 : b3 = c3) (e4 : b4 = c4) (e5 : b5 = c5) (o1 : PyData.strOk x = true) (hu : A.units + 64 < cLine) (h : Q (.bool false) s) : wpAny (model prog w) A (compareOp .NotEq (.ref a) (.ref b)) Q E s := by
  subst e0; subst e1; subst e2; subst e3; subst e4; subst e5
  obtain ⟨_, r1⟩ := told_reads h1
  obtain ⟨_, r2⟩ := told_reads h2
  have sh : SeqAt.shaped (.list [PyData.str x, .bool b1, .bool b2, .bool b3, .bool b4, .bool b5]) = true := by
    simp [SeqAt.shaped, PyData.canLay0, PyData.canLayAll0, PyData.depth, PyData.depthAll, o1]
  refine ne_dataH r1 r2 sh sh hu ?_
  have e : PyData.eqv (.list [PyData.str x, .bool b1, .bool b2, .bool b3, .bool b4, .bool b5]) (.list [PyData.str x, .bool b1, .bool b2, .bool b3, .bool b4, .bool b5]) = true := by
    simp [PyData.eqv, PyData.eqvAll]
  rw [e]; exact h
local macro_rules | `(tactic| walk_at "compareOp NotEq ref ref") => `(tactic| (k_here; k_dflt (refine' ne_told ?zA ?zB rfl ?ze1 ?ze2 ?ze3 ?ze4 ?ze5 ?zo ?zu ?_; (case zA => exact News.isList (by k_asm) (by k_mem)); (case zB => exact News.isList (by k_asm) (by k_mem)); (case ze1 => with_reducible assumption); (case ze2 => with_reducible assumption); (case ze3 => with_reducible assumption); (case ze4 => with_reducible assumption); (case ze5 => with_reducible assumption); (case zo => with_reducible assumption); (case zu => (dsimp only [AR, Around.deeper, Around.in1, cLine]; omega)); k_whole)))
structure PairOk (a b low : Nat) (ci cj p q z : Str) : Prop where
  lowN : low ≤ 4000
  lowE : [a, b].foldl lcaN ([a, b].headD 0) = low
  str : straight low = z
  com : commonS [ci, cj] = z
  s1 : suburi (Str.ofString "h") z (Str.ofString "h") p = true
  s2 : suburi (Str.ofString "h") z (Str.ofString "h") q = true
  s3 : suburi (Str.ofString "h") p (Str.ofString "h") q = (z == p)
  s4 : suburi (Str.ofString "h") q (Str.ofString "h") p = (z == q)
  s5 : suburi (Str.ofString "h") z (Str.ofString "i") p = false
  okz : PyData.strOk z = true
  okp : PyData.strOk p = true
  okq : PyData.strOk q = true
  lenz : z.length ≤ 50000
  lenp : p.length ≤ 50000
  lenq : q.length ≤ 50000
  paths : ∀ x ∈ [ci, cj], PathOk x
theorem strs_item {vs : List Value} {ys : List Str} (h : StrsAre vs ys) {i : Nat} (hi : i < ys.length) {k : Int} (hk : k = i) : ∃ y t, ys[i]? = some y ∧ vs[k.toNat]? = some (.str y t) := by
  obtain ⟨t, e⟩ := lt_get h hi
  exact ⟨_, t, List.getElem?_eq_getElem hi, by rw [hk, Int.toNat_natCast]; exact e⟩
theorem ints_item {vs : List Value} {ks : List Nat} (h : IntsAre vs (natI ks)) {i : Nat} (hi : i < ks.length) {k : Int} (hk : k = i) : ∃ (x : Nat) (t : Tok), ks[i]? = some x ∧ vs[k.toNat]? = some (.int x t) := by
  obtain ⟨t, e⟩ := h.get i (ks[i] : Nat) (by simp [natI, hi])
  exact ⟨_, t, List.getElem?_eq_getElem hi, by rw [hk, Int.toNat_natCast]; exact e⟩
def WpJ (aw man dm l1 l2 l3 : Addr) (o o1 o2 o3 om od : Obj) (_ : Nat) (m : Str → Option Value) (led : List (Addr × Obj)) : Prop :=
  m (Str.ofString "wrong") = some (.ref aw) ∧ m (Str.ofString "manager") = some (.ref man) ∧ m (Str.ofString "nodes") = some (.ref l1) ∧ m (Str.ofString "crooked") = some (.ref l2) ∧ m (Str.ofString "places") = some (.ref l3) ∧ led = [(aw, o), (l3, o3), (l2, o2), (l1, o1), (man, om), (dm, od)]
def WpK (I : Addr) (oI : Obj) (iv : Value) (aw man dm l1 l2 l3 : Addr) (o o1 o2 o3 om od : Obj) (_ : Nat) (m : Str → Option Value) (led : List (Addr × Obj)) : Prop :=
  m (Str.ofString "i") = some iv ∧ m (Str.ofString "wrong") = some (.ref aw) ∧ m (Str.ofString "manager") = some (.ref man) ∧ m (Str.ofString "nodes") = some (.ref l1) ∧ m (Str.ofString "crooked") = some (.ref l2) ∧ m (Str.ofString "places") = some (.ref l3) ∧
    led = [(I, oI), (aw, o), (l3, o3), (l2, o2), (l1, o1), (man, om), (dm, od)]
theorem size_range (n : Nat) : Builtin.Range.rangeSize 0 (n : Int) 1 = (n : Int) := by
  unfold Builtin.Range.rangeSize
  rw [if_pos (by decide)]
  split
  · rw [Int.ediv_one]; omega
  · omega
theorem small_range {n : Nat} (h : n ≤ 100000) : Builtin.Range.small 0 (n : Int) 1 = true := by
  unfold Builtin.Range.small
  rw [size_range, if_pos (by decide)]
  have f : ∀ x : Int, 0 ≤ x → x ≤ 100000 → Builtin.Range.rangeFitsLong x = true := fun x h1 h2 => by
    unfold Builtin.Range.rangeFitsLong
    simp only [Bool.and_eq_true, decide_eq_true_eq]
    omega
  rw [f 0 (by omega) (by omega), f 1 (by omega) (by omega), f n (by omega) (by omega), f ((n : Int) + (1 - 1)) (by omega) (by omega)]
  simp
theorem wp_abs {M : Model} {A : Around} {α : Type} {t : Sem α} {Q : α → Shared → Prop} {E : Value → Shared → Prop} {s : Shared} (h : ∀ (P : α → Shared → Prop), (∀ a s', Q a s' → P a s') → wpAny M A t P E s) : wpAny M A t Q E s := h Q fun _ _ x => x
theorem wrong_spec (man dm l1 l2 l3 : Addr) (hs : Int) (tkd : Tok) (vd : Value) (n1 n2 n3 : Nat) (v1 v2 v3 : List Value) (ks : List Nat) (cs ps : List Str) (hI : IntsAre v1 (natI ks)) (hC : StrsAre v2 cs) (hP : StrsAre v3 ps) (hlc : cs.length = ks.length) (hlp : ps.length = ks.length) (hl : ks.length ≤ 100)
    (hpair : ∀ (i j a b : Nat) (ci cj p q : Str), j < i → ks[i]? = some a → ks[j]? = some b → cs[i]? = some ci → cs[j]? = some cj → ps[i]? = some p → ps[j]? = some q → ∃ low z, PairOk a b low ci cj p q z) :
    Ctr w mean mg mb 238 5 [.ref man, .ref l1, .ref l2, .ref l3] (fun h₀ h => New h₀ h man (instObj 67 dm) ∧ New h₀ h dm (manD hs tkd vd) ∧ New h₀ h l1 (W.listOf v1.toArray n1) ∧ New h₀ h l2 (W.listOf v2.toArray n2) ∧ New h₀ h l3 (W.listOf v3.toArray n3))
    (fun h h' r => ∃ a o, New h h' a o ∧ ∃ nn, r = .ref a ∧ o = W.listOf #[] nn) := by
  intro dp un fr gd h₀ s Q E hd hu hb hkp hp hret
  obtain ⟨p1, p2, p3, p4, p5⟩ := hp
  refine' enter [(l3, W.listOf v3.toArray n3), (l2, W.listOf v2.toArray n2), (l1, W.listOf v1.toArray n1), (man, instObj 67 dm), (dm, manD hs tkd vd)] [(Str.ofString "manager", .ref man), (Str.ofString "nodes", .ref l1), (Str.ofString "crooked", .ref l2), (Str.ofString "places", .ref l3)] hb hkp
    (List.forall_mem_cons.mpr ⟨p5, List.forall_mem_cons.mpr ⟨p4, List.forall_mem_cons.mpr ⟨p3, List.forall_mem_cons.mpr ⟨p1, List.forall_mem_cons.mpr ⟨p2, fun _ h => nomatch h⟩⟩⟩⟩⟩) ?k6 ?k7 ?k8 ?k9 ?kB ?c2 ?c3 ?c4 ?c5 ?_
  walk_at "ENTER"
  intro g L h₁ tk F N X T kg kback knew klt
  k_lt klt
  have hIl : v1.length = ks.length := by rw [hI.length, natI, List.length_map]
  have hgi : ∀ {i : Nat}, i < ks.length → ∀ {k : Int}, k = i → ∃ (x : Nat) (t : Tok), ks[i]? = some x ∧ v1[k.toNat]? = some (.int x t) := fun hi _ hk => ints_item hI hi hk
  have hgc : ∀ {i : Nat}, i < cs.length → ∀ {k : Int}, k = i → ∃ y t, cs[i]? = some y ∧ v2[k.toNat]? = some (.str y t) := fun hi _ hk => strs_item hC hi hk
  have hgp : ∀ {i : Nat}, i < ps.length → ∀ {k : Int}, k = i → ∃ y t, ps[i]? = some y ∧ v3[k.toNat]? = some (.str y t) := fun hi _ hk => strs_item hP hi hk
  clear hC hP
  have hnl : (natI ks).length = ks.length := natI_len ks
  k_steps
  refine Hold.mk (For_invV g rfl rfl ?_)
  k_steps
  refine Hold.mk ?_
  rename News _ _ _ _ => N1; rename Fr _ _ _ _ => F1; rename IsRange _ _ _ _ _ _ _ _ => hR
  rename (_ ∧ _) => lW
  rw [hnl] at hR
  refine for_range (WpJ _ man dm l1 l2 l3 _ _ _ _ _ _) (n := ks.length) rfl hR (small_range (by omega)) (size_range _) F1 N1 ⟨rfl, rfl, rfl, rfl, rfl, rfl⟩ ?_ ?_
  · clear N1 F1 hR
    rintro I i ti m₁ led oI h tk hi ⟨e1, e2, e3, e4, e5, rfl⟩ hoff F₂ N₂
    simp only [Int.zero_add] at F₂
    replace F₂ := fr_known [(Str.ofString "i", .int (i : Nat) ti), (Str.ofString "wrong", .ref _), (Str.ofString "manager", .ref man), (Str.ofString "nodes", .ref l1), (Str.ofString "crooked", .ref l2), (Str.ofString "places", .ref l3)] F₂
      (List.forall_mem_cons.mpr ⟨rfl, List.forall_mem_cons.mpr ⟨e1, List.forall_mem_cons.mpr ⟨e2, List.forall_mem_cons.mpr ⟨e3, List.forall_mem_cons.mpr ⟨e4, List.forall_mem_cons.mpr ⟨e5, fun _ h => nomatch h⟩⟩⟩⟩⟩⟩)
    dsimp only [kstB] at F₂
    have hoff2 := hoff
    simp only [AllNe, and_true] at hoff
    k_steps
    refine Hold.mk (For_invV g rfl rfl ?_)
    k_steps
    refine Hold.mk ?_
    rename News _ _ _ _ => N3; rename Fr _ _ _ _ => F3; rename IsRange _ _ _ _ _ _ _ _ => hR
    refine for_range (WpK I oI (.int (i : Nat) ti) _ man dm l1 l2 l3 _ _ _ _ _ _) (n := i) rfl hR (small_range (by omega)) (size_range _) F3 N3 ⟨rfl, rfl, rfl, rfl, rfl, rfl, rfl⟩ ?_ ?_
    · clear N3 F3 hR
      rintro I2 j tj m₂ led oI2 h2 tk2 hj ⟨e0, e1, e2, e3, e4, e5, rfl⟩ hoff3 F₂ N₂
      simp only [Int.zero_add] at F₂
      replace F₂ := fr_known [(Str.ofString "j", .int (j : Nat) tj), (Str.ofString "i", .int (i : Nat) ti), (Str.ofString "wrong", .ref _), (Str.ofString "manager", .ref man), (Str.ofString "nodes", .ref l1), (Str.ofString "crooked", .ref l2), (Str.ofString "places", .ref l3)] F₂
        (List.forall_mem_cons.mpr ⟨rfl, List.forall_mem_cons.mpr ⟨e0, List.forall_mem_cons.mpr ⟨e1, List.forall_mem_cons.mpr ⟨e2, List.forall_mem_cons.mpr ⟨e3, List.forall_mem_cons.mpr ⟨e4, List.forall_mem_cons.mpr ⟨e5, fun _ h => nomatch h⟩⟩⟩⟩⟩⟩⟩)
      dsimp only [kstB] at F₂
      have hoff4 := hoff3
      simp only [AllNe, and_true] at hoff3
      obtain ⟨a, ta, ha, ha2⟩ := hgi (i := i) hi rfl
      obtain ⟨b, tb, hb1, hb2⟩ := hgi (i := j) (by omega) rfl
      obtain ⟨ci, tci, hci, hci2⟩ := hgc (i := i) (by omega) rfl
      obtain ⟨cj, tcj, hcj, hcj2⟩ := hgc (i := j) (by omega) rfl
      obtain ⟨p, tp, hp, hp2⟩ := hgp (i := i) (by omega) rfl
      obtain ⟨q, tq, hq, hq2⟩ := hgp (i := j) (by omega) rfl
      obtain ⟨low, z, P1, P2, P3, P4, P5, P6, P7, P8, P9, P10, P11, P12, P13, P14, P15, P16⟩ := hpair i j a b ci cj p q hj ha hb1 hci hcj hp hq
      clear ha hb1 hci hcj hp hq e0 e1 e2 e3 e4 e5
      refine wp_abs fun PP hPP => ?_
      k_steps
      rename News _ _ _ _ => N9; rename Fr _ _ _ _ => F9
      refine hPP _ _ ?_
      exact TEnd.mk [_, _, _, _, _, _, _] F9 N9 (by lcg_sub) hoff4 ⟨rfl, rfl, rfl, rfl, rfl, rfl, rfl⟩
    · clear N3 F3 hR
      rintro m₂ led h2 tk2 ⟨e0, e1, e2, e3, e4, e5, rfl⟩ F₂ N₂
      k_steps
      exact TEnd.mk [_, _, _, _, _, _] F₂ N₂ (fun _ h => h) hoff2 ⟨e1, e2, e3, e4, e5, rfl⟩
  · clear N1 F1 hR
    rintro m₁ led h tk ⟨e1, e2, e3, e4, e5, rfl⟩ F₂ N₂
    replace F₂ := fr_known [(Str.ofString "wrong", .ref _)] F₂ (List.forall_mem_cons.mpr ⟨e1, fun _ h => nomatch h⟩)
    dsimp only [kstB] at F₂
    k_steps
    rename Fr _ _ _ _ => F9
    refine hret _ _ _ (kback L _ _ F9.keep N₂ (by lcg_sub)) ⟨_, _, knew L _ _ _ _ N₂ (.head _) ?_, _, rfl, rfl⟩
    simp only [List.forall_mem_cons, List.not_mem_nil, false_implies, implies_true, and_true]
    exact ⟨neN (by omega), neN (by omega), neN (by omega), neN (by omega), neN (by omega)⟩
section
variable {w : World} {mean : ExcName → Option Value} {mg mb : Str → Option Value}
theorem codeM {A : Around} {s : Shared} {R : Result → Shared → Prop} {name qual : Str} {params : Arguments} {body : List Stmt} {scope : Scope} {dV kV doc pm cdv ct oc : Value} {an od : Option Addr} {osl : Array (Option Value)} {f : Addr} {args : List Value} (binds : List (Str × Value))
    (X : (kF w.params).In s.heap) (T : Top vw (looseW vw []) mean mg mb s.heap)
    (ho : (kF w.params).lookup f = some ⟨oc, od, .func (fnOf name qual params body scope dV kV doc pm an cdv ct), osl⟩) (hcd : codeIn (kF w.params) cdv qual = true) (hroom : A.depth < recursionLimit)
    (hbind : BindsTo s (fnOf name qual params body scope dV kV doc pm an cdv ct) ⟨args, []⟩ binds) (hloc : ∀ y ∈ binds, scope.names.lookup y.1 = some .local)
    (hco : scope.isCoroutine = false) (hgen : scope.isGenerator = false) (hk : scope.kind = .function) (hcell : ∀ x ∈ scope.names, x.2 ≠ .cell)
    (h : ∀ h₁ tk, h₁.Ns s.heap.objs.size (fun y => binds.reverse.lookup y) → Kp s.heap h₁ →
      wpAny (model PySem.Challenge.rw_pd0052_01.row.prog w) (A.deeper (envOf qual scope s.heap.objs.size f cdv)) (execs body (envOf qual scope s.heap.objs.size f cdv)) (fun fl s' => R (.ok (.ret (match fl with | .ret v => v | _ => .none))) s') (fun _ _ => False) { s with heap := h₁, toks := tk }) :
    codeAny (model PySem.Challenge.rw_pd0052_01.row.prog w) A (.call (.ref f) ⟨args, []⟩) R s :=
  codeAny_call_def (fd := fnOf name qual params body scope dV kV doc pm an cdv ct) (body := body) (binds := binds) hroom (X _ _ ho) rfl T.nolimit (codeRec_of X hcd) rfl hbind hcell hloc (fun h₁ hns hk₁ => wpAny_mono (h h₁ _ hns hk₁) (fun _ _ x => x) fun _ _ x => x.elim) hco hgen hk
/-- the class called: the object, its dict, its inner dict -/
theorem make_man {dp un : Nat} {fr : Option (List Env)} {gd : Option (List Code)} {h₀ : Heap} {L : Addr} {m : Str → Option Value} {news : List (Addr × Obj)} {s : Shared} {Q E : Value → Shared → Prop}
    (F : Fr h₀ L s.heap m) (N : News h₀ L s.heap news) (X : (kF w.params).In h₀) (T : Top vw (looseW vw []) mean mg mb h₀) (h1 : dp < 900) (h2 : un < 9000)
    (h : ∀ x dx d hs tkd od h' tk', Fr h₀ L h' m → News h₀ L h' ((x, instObj 67 dx) :: (dx, manD hs tkd (.ref d)) :: (d, od) :: news) → (∀ p ∈ news, p.1 < dx) → dx < x → x < d → Q (.ref x) { s with heap := h', toks := tk' }) :
    wpAny (model PySem.Challenge.rw_pd0052_01.row.prog w) (AR dp un fr gd) (call (.ref 67) []) Q E s := by
  refine call_cls (kw := []) F X N (by k_is) (by k_is) (by k_is) fun x dx g1 F1 N1 l1 l2 => ?_
  have hX1 := X.keeps F1.keep
  have hT1 : Top vw (looseW vw []) mean mg mb g1 := T.keeps F1.keep
  have nx := N1 _ (.head _)
  have nd := N1 _ (.tail _ (.head _))
  -- the ground behind
  let g : Heap := hideAll g1 [x, dx]
  have kg : Kp h₀ g := fun b o e => hideAll_get _ (F1.keep b o e) (by
    intro q
    simp only [List.mem_cons, List.not_mem_nil, or_false] at q
    rcases q with rfl | rfl
    · rw [nx.2.2] at e; cases e
    · rw [nd.2.2] at e; cases e)
  have hXg := X.keeps kg
  have hTg : Top vw (looseW vw []) mean mg mb g := T.keeps kg
  refine codeM (s := { s with heap := g1 }) [(Str.ofString "self", .ref x)] hX1 hT1 (by k_is) (by k_is) ?_ (BindsTo.of_eq rfl) (by exact locs rfl) (by exact rfl) (by exact rfl) (by exact rfl) (by decide) fun g2 tk2 hns hk2 => ?_
  · rw [depth_under_make]
    show dp + 1 < recursionLimit
    simp only [recursionLimit]; omega
  have F2 : Fr g g1.objs.size g2 (fun y => [(Str.ofString "self", Value.ref x)].reverse.lookup y) := ⟨hns, fun b o e => hk2 b o (of_hideAll _ e), Nat.le_of_eq (hideAll_size _ _)⟩
  have N2 : News g g1.objs.size g2 [(x, instObj 67 dx), (dx, dictOf [] 0)] := fun p hp => by
    simp only [List.mem_cons, List.not_mem_nil, or_false] at hp
    rcases hp with rfl | rfl
    · exact ⟨hk2 _ _ nx.1, Nat.ne_of_lt (Heap.lt_size nx.1), hideAll_none _ (.head _)⟩
    · exact ⟨hk2 _ _ nd.1, Nat.ne_of_lt (Heap.lt_size nd.1), hideAll_none _ (.tail _ (.head _))⟩
  have back : ∀ b o, g1.get? b = some o → b ≠ x → b ≠ dx → g.get? b = some o := fun b o e h1 h2 => hideAll_get _ e (by
    intro q
    simp only [List.mem_cons, List.not_mem_nil, or_false] at q
    rcases q with rfl | rfl
    · exact h1 rfl
    · exact h2 rfl)
  have hsz : @LT.lt Nat _ x g1.objs.size := Heap.lt_size nx.1
  dsimp only at *
  clear_value g
  generalize g1.objs.size = L2 at F2 N2 hsz
  have close : ∀ {h3 : Heap} {tk3 : Nat} {m3 : Str → Option Value} {d : Addr} {od : Obj} {hs : Int} {tkd : Tok}, Fr g L2 h3 m3 → News g L2 h3 [(d, od), (x, instObj 67 dx), (dx, manD hs tkd (.ref d))] → x < d → Q (.ref x) { s with heap := h3, toks := tk3 } := by
    intro h3 tk3 m3 d od hs tkd F9 N9 l9
    have nD := N9 _ (.head _)
    have kp : ∀ b o, g1.get? b = some o → b ≠ x → b ≠ dx → h3.get? b = some o := fun b o e q1 q2 => F9.keep b o (back b o e q1 q2)
    refine h x dx d hs tkd od h3 tk3 ⟨F1.ns.at' fun o e => kp _ _ e (Ne.symm nx.2.1) (Ne.symm nd.2.1), fun b o e => F9.keep b o (kg b o e), F1.above⟩ ?_ l1 l2 l9
    intro p hp
    simp only [List.mem_cons] at hp
    rcases hp with rfl | rfl | rfl | hp
    · exact ⟨(N9 _ (.tail _ (.head _))).1, nx.2⟩
    · exact ⟨(N9 _ (.tail _ (.tail _ (.head _)))).1, nd.2⟩
    · refine ⟨nD.1, fun e => ?_, ?_⟩
      · obtain ⟨oL, _, _, hL, _⟩ := F1.ns
        have q := back _ _ hL (Ne.symm nx.2.1) (Ne.symm nd.2.1)
        rw [← show d = L from e, nD.2.2] at q; cases q
      · cases q : h₀.get? d with
        | none => rfl
        | some o => have q2 := kg _ _ q; rw [nD.2.2] at q2; cases q2
    · have z := l1 p hp
      exact ⟨kp _ _ (N1 p (.tail _ (.tail _ hp))).1 (Nat.ne_of_lt (Nat.lt_trans z l2)) (Nat.ne_of_lt z), (N p hp).2⟩
  clear hns hk2 X T hX1 hT1 h N N1 nx nd kg back l1
  k_lt2 l2
  k_steps
  rename News _ _ _ _ => N9; rename Fr _ _ _ _ => F9; rename (_ ∧ _) => l9
  exact ⟨rfl, close F9 N9 l9.1⟩
end
def bitsOf (ns : List Int) : List Int := (ns.take 4).map (·.fdiv 200) ++ [6, 27]
def crookedOf (ks : List Nat) (bs : List Int) : List Str := (List.range ks.length).map fun i => crooked (ks.getD i 0) (bs.getD i 0)
def lowOf (ks : List Nat) : Nat := ks.foldl lcaN (ks.headD 0)
def wayL (low k : Nat) : List Nat := if k = low then [k] else if k = 0 then [k] else k :: wayL low ((k - 1) / 3)
termination_by k
decreasing_by omega
theorem wayL_low (low : Nat) : wayL low low = [low] := by unfold wayL; rw [if_pos rfl]
theorem anc_up {low k : Nat} (h : Anc low ((k - 1) / 3)) (hne : k ≠ low) : 0 < k := by
  rcases Nat.eq_zero_or_pos k with rfl | h0
  · unfold Anc at h
    rw [if_neg (by simpa using hne)] at h
    exact h.elim
  · exact h0
theorem up_way {low n : Nat} {pre : List Nat} {k : Nat} (h : Up low n pre k) : Anc low k → wayL low n = pre ++ wayL low k := by
  induction h with
  | here => intro _; rfl
  | @step pre k hu hne ih =>
    intro ha
    have h0 := anc_up ha hne
    have hk : Anc low k := by unfold Anc; rw [if_neg hne, if_neg (by omega)]; exact ha
    rw [ih hk, List.append_assoc]
    congr 1
    rw [wayL, if_neg hne, if_neg (by omega)]; rfl
structure LawOk (ks : List Nat) (bs : List Int) : Prop where
  num : 0 < ks.length ∧ ks.length ≤ 100 ∧ bs.length = ks.length
  small : ∀ k ∈ ks, k ≤ 4000
  lowS : lowOf ks ≤ 4000
  paths : ∀ c ∈ crookedOf ks bs, PathOk c
  one : ∀ i k, ks[i]? = some k → commonS [crooked k (bs.getD i 0)] = straight k
  all : commonS (crookedOf ks bs) = straight (lowOf ks)
  down : ∀ k ∈ ks, ((namesOf k).drop (namesOf (lowOf ks)).length).foldl joinS (straight (lowOf ks)) = straight k
  climb : ∀ k ∈ ks, climbGo (ks.map straight) 20 (straight k) = (wayL (lowOf ks) k).map straight
  wayOk : ∀ k ∈ ks, ∀ x ∈ wayL (lowOf ks) k, x ≤ 4000
  anc : ∀ k ∈ ks, Anc (lowOf ks) k
  okS : ∀ k, k ≤ 4000 → PyData.strOk (straight k) = true ∧ (straight k).length ≤ 1000
  pair : ∀ (i j a b : Nat) (ci cj p q : Str), j < i → ks[i]? = some a → ks[j]? = some b → (crookedOf ks bs)[i]? = some ci → (crookedOf ks bs)[j]? = some cj → (ks.map straight)[i]? = some p → (ks.map straight)[j]? = some q → ∃ low z, PairOk a b low ci cj p q z
theorem crookedN_spec (k : Nat) (b : Int) (t t2 : Tok) (hk : k ≤ 4000) : Ctr w mean mg mb 198 2 [.int (k : Nat) t, .int b t2] (fun _ _ => True) (fun _ _ r => ∃ t', r = .str (crooked k b) t') :=
  (crooked_spec (k : Nat) b t t2).weak (fun _ _ _ => by constructor <;> omega) fun _ _ r ⟨t', h⟩ => ⟨t', by rw [h, Int.toNat_natCast]⟩
theorem namesN_spec (k : Nat) (t : Tok) (hk : k ≤ 4000) : Ctr w mean mg mb 184 1 [.int (k : Nat) t] (fun _ _ => True) (fun h h' r => ∃ a o, New h h' a o ∧ ∃ vs nn, r = .ref a ∧ o = W.listOf (List.toArray vs) nn ∧ StrsAre vs (namesOf k)) :=
  (names_spec (k : Nat) t).weak (fun _ _ _ => by constructor <;> omega) fun _ _ r h => by rwa [Int.toNat_natCast] at h
theorem natI_get {vs : List Value} {ks : List Nat} (h : IntsAre vs (natI ks)) (i : Nat) (v : Value) (hv : vs[i]? = some v) : ∃ (x : Nat) (t : Tok), ks[i]? = some x ∧ v = .int (x : Nat) t := by
  obtain ⟨y, ty, hy, rfl⟩ := intsAre_get h i v hv
  simp only [natI, List.getElem?_map, Option.map_eq_some_iff] at hy
  obtain ⟨x, h1, h2⟩ := hy
  exact ⟨x, ty, h1, by rw [← h2]; rfl⟩
local macro_rules | `(tactic| walk_at "call ref") => `(tactic| (k_here; k_dflt (refine' ctr_use1 (namesN_spec _ _ ?zk) ?zF ?zN ?zX ?zT ?zd ?zu trivial ?_; walk_at "USE"; (case zk => with_reducible assumption); k_whole; intro r a o h' tk' F' N' l1 hC; obtain ⟨vs, nn, hC1, hC2, hC3⟩ := hC; subst hC1; subst hC2; (try simp only [AllNe, and_true] at l1); (try k_sweep); (try k_fold))))
theorem anc_self (low : Nat) : Anc low low := by unfold Anc; rw [if_pos rfl]; trivial
theorem wayW_spec (n low : Nat) (t t2 : Tok) (ww : List Str) (hn : n ≤ 4000) (hup : Anc low n) (e : (wayL low n).map straight = ww) : Ctr w mean mg mb 219 3 [.int (n : Nat) t, .int (low : Nat) t2] (fun _ _ => True)
    (fun h h' r => ∃ a o, New h h' a o ∧ ∃ vs nn, r = .ref a ∧ o = W.listOf (List.toArray vs) nn ∧ StrsAre vs ww) :=
  (way_spec n low t t2 hn hup).weak (fun _ _ h => h) fun _ _ r ⟨a, o, h1, vs, nn, pre, h2, h3, h4, h5⟩ => ⟨a, o, h1, vs, nn, h2, h3, by rw [← e, up_way h5 (anc_self low), wayL_low]; exact h4⟩
theorem climbW_spec (man dm l : Addr) (hs : Int) (tkd : Tok) (vd : Value) (x : Str) (t : Tok) (nn : Nat) (vs : List Value) (ps ww : List Str) (hS : StrsAre vs ps) (hok : ∀ p ∈ ps, PyData.strOk p = true) (hx : PyData.strOk x = true) (hxl : x.length ≤ 1000) (hlen : ps.length ≤ 100) (e : climbGo ps 20 x = ww) :
    Ctr w mean mg mb 224 4 [.ref man, .str x t, .ref l] (fun h₀ h => New h₀ h man (instObj 67 dm) ∧ New h₀ h dm (manD hs tkd vd) ∧ New h₀ h l (W.listOf vs.toArray nn))
    (fun h h' r => ∃ a o, New h h' a o ∧ ∃ us nn, r = .ref a ∧ o = W.listOf (List.toArray us) nn ∧ StrsAre us ww) :=
  (climb_spec man dm l hs tkd vd x t nn vs ps hS hok hx hlen).weak (fun _ _ ⟨a, b, c⟩ => ⟨a, b, c, hxl⟩) fun _ _ r ⟨a, o, h1, us, nn, h2, h3, h4⟩ => ⟨a, o, h1, us, nn, h2, h3, e ▸ h4⟩
theorem len_strs {prog : Program} {A : Around} {E : Value → Shared → Prop} {s : Shared} {l : Addr} {vs : List Value} {xs : List Str} {Q : Value → Shared → Prop} (hl : s.heap.IsList l vs.toArray) (hS : StrsAre vs xs) (hb : xs.length ≤ 100000)
    (h : Q (.int (xs.length : Nat) (s.toks + 1)) { s with toks := s.toks + 1 + 1 }) : wpAny (model prog w) A (call (.builtin "len") [.ref l]) Q E s :=
  Calls.call_len_list hl (by rw [List.size_toArray, hS.length]; omega) (by rw [List.size_toArray, hS.length]; exact h)
theorem strs_drop {vs : List Value} {ys : List Str} (h : StrsAre vs ys) : ∀ i, StrsAre (vs.drop i) (ys.drop i) := by
  induction h with
  | nil => intro i; simp; exact .nil
  | cons y t h ih =>
    intro i
    cases i with
    | zero => exact .cons y t h
    | succ i => exact ih i
local macro_rules | `(tactic| walk_at "call builtin:len") => `(tactic| (k_here; (with_reducible show wpAny _ _ (call (Value.builtin "len") [Value.ref _]) _ _ _); k_dflt (refine' len_strs ?zA ?zS ?zb ?_; (case zA => exact News.isList (by k_asm) (by k_mem)); (case zS => with_reducible assumption); (case zb => omega); k_whole)))
local macro_rules | `(tactic| walk_at "subscriptTail Name Constant ref int") => `(tactic| (k_here; (with_reducible show wpAny _ _ (subscriptTail _ _ (Value.ref _) (Value.int _ _)) _ _ _); k_dflt (refine' item_my ?zk1 ?zk2 ?zk3 ?zk4 ?_ ?zk6; (case zk1 => exact News.isList (by k_asm) (by k_mem)); (case zk4 => with_reducible assumption); (case zk2 => omega); (case zk3 => omega); (case zk6 => with_unfolding_all rfl); k_whole)))
local macro_rules | `(tactic| walk_at "call ref") => `(tactic| (k_here; k_dflt (refine' ctr_use1 (wayW_spec _ _ _ _ _ ?zk ?za ?ze) ?zF ?zN ?zX ?zT ?zd ?zu trivial ?_; walk_at "USE"; (case za => with_reducible assumption); (case zk => with_reducible assumption); (case ze => with_reducible assumption); k_whole; intro r a o h' tk' F' N' l1 hC; obtain ⟨vs, nn, hC1, hC2, hC3⟩ := hC; subst hC1; subst hC2; (try simp only [AllNe, and_true] at l1); (try k_sweep); (try k_fold))))
local macro_rules | `(tactic| walk_at "call ref") => `(tactic| (k_here; k_dflt (refine' ctr_use1 (climbW_spec _ _ _ _ _ _ _ _ _ _ _ _ ?zS ?zok ?zx ?zl ?zb ?ze) ?zF ?zN ?zX ?zT ?zd ?zu ?zp ?_; walk_at "USE"; (case zp => exact ⟨new_ofC (by k_asm) (by k_mem), new_ofC (by k_asm) (by k_mem), new_ofC (by k_asm) (by k_mem)⟩); (case zS => with_reducible assumption); (case ze => with_reducible assumption); (case zok => with_reducible assumption); (case zx => with_reducible assumption); (case zl => with_reducible assumption); (case zb => with_reducible assumption); k_whole; intro r a o h' tk' F' N' l1 hC; obtain ⟨vs, nn, hC1, hC2, hC3⟩ := hC; subst hC1; subst hC2; (try simp only [AllNe, and_true] at l1); (try k_sweep); (try k_fold))))
theorem ne_str_same {prog : Program} {A : Around} {E : Value → Shared → Prop} {s : Shared} {x : Str} {t u : Tok} {Q : Value → Shared → Prop} (h : Q (.bool false) s) : wpAny (model prog w) A (compareOp .NotEq (.str x t) (.str x u)) Q E s :=
  PyProof.Rows.ne_str (by rw [bne_self_eq_false]; exact h)
local macro_rules | `(tactic| walk_at "compareOp NotEq str str") => `(tactic| (k_here; (with_reducible show wpAny _ _ (compareOp CmpOp.NotEq (Value.str _ _) (Value.str _ _)) _ _ _); k_dflt (with_reducible refine' ne_str_same ?_; k_whole)))
theorem downW_spec (x : Str) (t : Tok) (l : Addr) (nn : Nat) (vs : List Value) (ss : List Str) (z : Str) (hS : StrsAre vs ss) (h2 : ∀ y ∈ ss, y.length ≤ 2) (e : ss.foldl joinS x = z) : Ctr w mean mg mb 231 3 [.str x t, .ref l] (fun h₀ h => New h₀ h l (W.listOf vs.toArray nn) ∧ x.length ≤ 50000 ∧ ss.length ≤ 5000) (fun _ _ r => ∃ t', r = .str z t') :=
  (down_spec x t l nn vs ss hS h2).weak (fun _ _ h => h) fun _ _ r ⟨t', h⟩ => ⟨t', by rw [h, e]⟩
theorem lowAll_spec (l : Addr) (nn : Nat) (vs : List Value) (ks : List Nat) (k : Nat) (hI : IntsAre vs (natI ks)) (hn : 0 < ks.length) (hb : ks.length ≤ 100) (e : lowOf ks = k) :
    Ctr w mean mg mb 212 1 [.ref l] (fun h₀ h => New h₀ h l (W.listOf vs.toArray nn)) (fun _ _ r => ∃ t, r = .int (k : Nat) t) := low_spec l nn vs ks k hI hn hb e
theorem intsZ_item {vs : List Value} {ns : List Int} (h : IntsAre vs ns) {i : Nat} (hi : i < ns.length) {k : Int} (hk : k = i) : ∃ (x : Int) (t : Tok), ns[i]? = some x ∧ vs[k.toNat]? = some (.int x t) := by
  obtain ⟨t, e⟩ := h.get i ns[i] (by simp [hi])
  exact ⟨_, t, List.getElem?_eq_getElem hi, by rw [hk, Int.toNat_natCast]; exact e⟩
theorem ne_same {prog : Program} {A : Around} {E : Value → Shared → Prop} {s : Shared} {a b : Addr} {vs us : List Value} {xs : List Str} {Q : Value → Shared → Prop} (h1 : s.heap.IsList a vs.toArray) (h2 : s.heap.IsList b us.toArray) (S1 : StrsAre vs xs) (S2 : StrsAre us xs)
    (o1 : ∀ p ∈ xs, PyData.strOk p = true) (hu : A.units + 64 < cLine) (h : Q (.bool false) s) : wpAny (model prog w) A (compareOp .NotEq (.ref a) (.ref b)) Q E s :=
  ne_strs h1 h2 S1 S2 o1 o1 hu (by rw [decide_eq_true rfl]; exact h)
local macro_rules | `(tactic| walk_at "call ref") => `(tactic| (k_here; k_dflt (refine' ctr_use (crookedN_spec _ _ _ _ ?zk) ?zF ?zN ?zX ?zT ?zd ?zu trivial ?_; walk_at "USE"; (case zk => with_reducible assumption); k_whole; intro r h' tk' F' N' kp hR; obtain ⟨t', hR1⟩ := hR; subst hR1; clear kp; (try k_sweep); (try k_fold))))
local macro_rules | `(tactic| walk_at "call ref") => `(tactic| (k_here; k_dflt (refine' ctr_use (lowAll_spec _ _ _ _ _ ?zI ?zn ?zb ?ze) ?zF ?zN ?zX ?zT ?zd ?zu ?zp ?_; walk_at "USE"; (case zp => exact new_ofC (by k_asm) (by k_mem)); (case zI => with_reducible assumption); (case zn => with_reducible assumption); (case zb => with_reducible assumption); (case ze => with_reducible assumption); k_whole; intro r h' tk' F' N' kp hR; obtain ⟨t', hR1⟩ := hR; subst hR1; clear kp; (try k_sweep); (try k_fold))))
local macro_rules | `(tactic| walk_at "call ref") => `(tactic| (k_here; k_dflt (refine' ctr_use (common_spec _ _ _ _ _ ?zS ?zok ?z1 ?z0 ?ze) ?zF ?zN ?zX ?zT ?zd ?zu ?zp ?_; walk_at "USE"; (case zp => exact new_ofC (by k_asm) (by k_mem)); (case zS => with_reducible assumption); (case ze => with_reducible assumption); (case zok => with_reducible assumption); (case z1 => with_reducible assumption); (case z0 => with_reducible assumption); k_whole; intro r h' tk' F' N' kp hR; obtain ⟨t', hR1⟩ := hR; subst hR1; clear kp; (try k_sweep); (try k_fold))))
local macro_rules | `(tactic| walk_at "call ref") => `(tactic| (k_here; k_dflt (refine' ctr_use (common1_spec _ _ _ _ _ ?zok ?ze) ?zF ?zN ?zX ?zT ?zd ?zu ?zp ?_; walk_at "USE"; (case zp => exact new_ofC (by k_asm) (by k_mem)); (case ze => with_reducible assumption); (case zok => with_reducible assumption); k_whole; intro r h' tk' F' N' kp hR; obtain ⟨t', hR1⟩ := hR; subst hR1; clear kp; (try k_sweep); (try k_fold))))
local macro_rules | `(tactic| walk_at "compareOp NotEq ref ref") => `(tactic| (k_here; k_dflt (refine' ne_same ?zA ?zB ?zS1 ?zS2 ?zo1 ?zu ?_; (case zA => exact News.isList (by k_asm) (by k_mem)); (case zB => exact News.isList (by k_asm) (by k_mem)); (case zS1 => with_reducible assumption); (case zS2 => with_reducible assumption); (case zo1 => with_reducible assumption); (case zu => (dsimp only [AR, Around.deeper, Around.in1, cLine]; omega)); k_whole)))
local macro_rules | `(tactic| walk_at "call ref") => `(tactic| (k_here; k_dflt (refine' ctr_use1 (nodes_spec _ _ _ ?zI ?zn) ?zF ?zN ?zX ?zT ?zd ?zu ?zp ?_; walk_at "USE"; (case zI => with_reducible assumption); (case zn => with_reducible assumption); (case zp => with_reducible assumption); k_whole; intro r a o h' tk' F' N' l1 hC; obtain ⟨vs, nn, hC1, hC2, hC3⟩ := hC; subst hC1; subst hC2; (try simp only [AllNe, and_true] at l1); (try k_sweep); (try k_fold))))
theorem news_sub {h₀ h : Heap} {L : Addr} {A B : List (Addr × Obj)} (N : News h₀ L h A) (sub : ∀ p ∈ B, p ∈ A) : News h₀ L h B := fun p hp => N p (sub p hp)
theorem slice_from_strs {prog : Program} {A : Around} {E : Value → Shared → Prop} {hp : Heap} {gs : Array GenState} {dr : Drawn} {tk : Nat} {os : OsState} {h₀ : Heap} {L l : Addr} {m : Str → Option Value} {news : List (Addr × Obj)} {value slice : PySem.Expr} {vs : List Value} {ss : List Str} {vl vu : Value} {a : Nat} {sl : Addr} {Q : Value → Shared → Prop} (F : Fr h₀ L hp m) (N : News h₀ L hp news) (hl : hp.IsList l vs.toArray) (hS : StrsAre vs ss) (pl : IsPart vl (some (a : Int))) (pu : IsPart vu none) (hz : ss.length ≤ 100000)
    (h : ∀ D ws h', Fr h₀ L h' m → News h₀ L h' ((D, W.listOf (List.toArray ws) 0) :: news) → (∀ p ∈ news, p.1 < D) → StrsAre ws (ss.drop a) → Q (.ref D) ⟨h', gs, dr, tk, os⟩) (hsl : sl = hp.objs.size)
    (hs : subscripted slice false (.ref l) (.ref sl) = operate [.ref sl, .ref l] (getItem (.ref l) (.ref sl))) (ht : ∀ r, letTemporaryGo value (.ref l) r = pure ()) :
    wpAny (model prog w) A (subscriptTail value slice (.ref l) (.ref sl)) Q E ⟨hp.push { cls := .type "slice", data := .fields #[vl, vu, .none] }, gs, dr, tk, os⟩ := by
  subst hsl
  exact kmk_slice (s := ⟨hp, gs, dr, tk, os⟩) F N hl pl pu (fun D h' F' N' l1 => h D (vs.drop a) h' F' (by rw [slicePick_from'] at N'; exact N') l1 (strs_drop hS a)) hs ht (by rw [List.size_toArray, hS.length, sizeLine_eq]; omega)
local macro_rules | `(tactic| walk_at "call ref") => `(tactic| (k_here; k_dflt (refine' ctr_use (downW_spec _ _ _ _ _ _ _ ?zS ?z2 ?ze) ?zF ?zN ?zX ?zT ?zd ?zu ?zp ?_; walk_at "USE"; (case zp => exact ⟨new_ofC (by k_asm) (by k_mem), by omega, by omega⟩); (case zS => with_reducible assumption); (case z2 => with_reducible assumption); (case ze => with_reducible assumption); k_whole; intro r h' tk' F' N' kp hR; obtain ⟨t', hR1⟩ := hR; subst hR1; clear kp; (try k_sweep); (try k_fold))))
theorem item_m1 {prog : Program} {A : Around} {E : Value → Shared → Prop} {s : Shared} {value slice : PySem.Expr} {l : Addr} {us : List Value} {v : Value} {u : Tok} {Q : Value → Shared → Prop}
    (hl : s.heap.IsList l us.toArray) (hn : us.length < 10000) (hx : us[us.length - 1]? = some v) (h : Q v s)
    (hs : subscripted slice false (.ref l) (.int (-1) u) = operate [.ref l, .int (-1) u] (getItem (.ref l) (.int (-1) u)) := by with_unfolding_all rfl) :
    wpAny (model prog w) A (subscriptTail value slice (.ref l) (.int (-1) u)) Q E s := by
  rcases List.eq_nil_or_concat us with rfl | ⟨us', b, rfl⟩
  · simp at hx
  · simp at hx
    subst hx
    simp only [List.concat_eq_append] at hl hn
    exact last_item hl (by simp at hn; omega) h hs
local macro_rules | `(tactic| walk_at "subscriptTail Name UnaryOp ref int") => `(tactic| (k_here; (with_reducible show wpAny _ _ (subscriptTail _ _ (Value.ref _) (Value.int (-1) _)) _ _ _); k_dflt (refine' item_m1 ?k1 ?k2 ?k3 ?_ ?k6; (case k1 => exact News.isList (by k_asm) (by k_mem)); (case k3 => with_reducible assumption); (case k2 => omega); (case k6 => with_unfolding_all rfl); k_whole)))
structure StopS : Prop where
local macro_rules | `(tactic| walk_at "storeName") => `(tactic| ((have st9 : StopS := by assumption); refine Hold.out ?_))
local macro_rules | `(tactic| k_ne) => `(tactic| (refine neN ?_; (try dsimp only); with_reducible first | exact ne_d1 | exact Ne.symm ne_d1 | exact ne_d2 | exact Ne.symm ne_d2 | exact ne_d3 | exact Ne.symm ne_d3 | assumption | (refine Ne.symm ?_; assumption) | (refine Nat.ne_of_lt ?_; assumption) | (refine Nat.ne_of_gt ?_; assumption) | walk_at "PICK" | omega))
theorem law_spec (l : Addr) (vs : List Value) (ns : List Int) (hI : IntsAre vs ns) (hn : ns.length ≤ 63) (ok : LawOk (nodesOf ns) (bitsOf ns)) :
    Ctr w mean mg mb 243 8 [.ref l] (fun h₀ _ => h₀.IsList l vs.toArray) (fun _ _ r => r = .bool true) := by
  intro dp un fr gd h₀ s Q E hd hu hb hkp hp hret
  refine' enterC [] [(Str.ofString "script", .ref l)] hb hkp (fun _ h => nomatch h) ?k6 ?k7 ?k8 ?k9 ?kB ?kD ?c2 ?c3 ?c4 ?_
  walk_at "ENTERC"
  intro g L h₁ tk cells F N Y X T kg kback knew klt
  have hlg : g.IsList l vs.toArray := stays_list kg hp
  have hY := CellsAre.four Y
  obtain ⟨o1, o2, o3, o4, hE, d1, d2, d3, d4⟩ := hY
  subst hE
  clear Y
  simp only [List.cons_append, List.nil_append] at N
  replace d1 : o1.data = .cell none := d1
  replace d2 : o2.data = .cell none := d2
  replace d3 : o3.data = .cell none := d3
  replace d4 : o4.data = .cell none := d4
  clear klt
  obtain ⟨hk0, hk1, hk2⟩ := ok.num
  have hnl := natI_len (nodesOf ns)
  k_steps
  rename News _ _ _ _ => N1; rename Fr _ _ _ _ => F1
  refine make_man F1 N1 X T (by dsimp only [AR, Around.deeper]; omega) (by dsimp only [AR, Around.deeper]; omega) fun man dm dd hs tkd od h1 tk1 F2 N2 l1 l2 l3 => ?_
  clear F1 N1
  k_lt l1
  k_lt2 l2
  k_lt2 l3
  k_steps
  dsimp only
  rename_i aN hA1 tkA usN nnN hN lA hA2 oN dN DS wsS hA3 F3 N3 hS hC4 hL4 lS
  have hSl := hS.length
  rw [List.length_take] at hSl
  have hgs := intsAre_get hS
  replace N3 := news_sub (B := (DS, W.listOf wsS.toArray 0) :: (aN, W.listOf usN.toArray nnN) :: (man, instObj 67 dm) :: (dm, manD hs tkd (.ref dd)) :: (L + 1 + 1 + 1 + 1, o1) :: (L + 1 + 1 + 1, o2) :: (L + 1 + 1, o3) :: (L + 1, oN) :: []) N3 (by lcg_sub)
  clear l3
  refine csrc_led (fun i ys led => led = (DS, W.listOf wsS.toArray 0) :: (aN, W.listOf usN.toArray nnN) :: (man, instObj 67 dm) :: (dm, manD hs tkd (.ref dd)) :: (L + 1 + 1 + 1 + 1, o1) :: (L + 1 + 1 + 1, o2) :: (L + 1 + 1, o3) :: (L + 1, oN) :: [] ∧ IntsAre ys (((ns.take 4).take i).map (·.fdiv 200)))
    rfl F3 N3 (.head _) (by rw [List.size_toArray, sizeLine_eq]; omega) ⟨rfl, .nil⟩ (fun _ _ _ h => by rw [h.1]; exact .head _) ?_ ?_
  · clear F3 N3
    intro g2 i hi
    rintro v I oI C oC D2 m₂ ys led h2 tk2 E' hv ⟨rfl, hys⟩ hC hx2 F4 N4 off4 ne4
    obtain ⟨n, tn, hn2, rfl⟩ := hgs i v (by simpa using hv)
    refine wpAny_tests_nil ?_
    simp only [if_true]
    refine wp_abs fun PP hPP => ?_
    k_steps
    refine hPP _ _ (CEnd.mk _ (by k_asm) (by k_asm) (fun _ h => h) off4 ⟨rfl, ?_⟩)
    rw [List.take_add_one, hn2, List.map_append]
    exact hys.append (.cons _ _ .nil)
  · clear F3 N3
    rintro g2 ys led ⟨rfl, hys⟩
    rw [List.size_toArray, hS.length, List.take_length] at hys
    intro D3 h3 tk3 F5 N5 off5
    have hyl := hys.length
    rw [List.length_map, List.length_take] at hyl
    simp only [LCg.Off1, and_true] at off5
    k_steps
    dsimp only
    rename_i lB hB1 lB1 DB hB2 lB2 hB3 oB FB NB dB hB4 tkB2 t1 u1 v1 hR F6 N6 kB
    have hBI : IntsAre (ys ++ [Value.int 6 tk3, Value.int 27 (tk3 + 1)]) (bitsOf ns) := hys.append (.cons _ _ (.cons _ _ .nil))
    generalize hbv : ys ++ [Value.int 6 tk3, Value.int 27 (tk3 + 1)] = bv at N6 hBI lB2
    clear FB NB kB hbv
    replace N6 := news_sub (B := (DB, W.listOf bv.toArray 0) :: (aN, W.listOf usN.toArray nnN) :: (man, instObj 67 dm) :: (dm, manD hs tkd (.ref dd)) :: (L + 1 + 1 + 1 + 1, o1) :: (L + 1 + 1 + 1, o2) :: (L + 1 + 1, oB) :: (L + 1, oN) :: []) N6 (by lcg_sub)
    replace lB2 := lB2.2.2.2
    clear lB1 lS off5 hys hyl hgs hSl hS
    rw [hnl] at hR
    have hsmall := ok.small
    generalize hks : nodesOf ns = ks at *
    generalize hbs : bitsOf ns = bs at *
    refine csrc_range (n := ks.length) (fun i ys led => led = (DB, W.listOf bv.toArray 0) :: (aN, W.listOf usN.toArray nnN) :: (man, instObj 67 dm) :: (dm, manD hs tkd (.ref dd)) :: (L + 1 + 1 + 1 + 1, o1) :: (L + 1 + 1 + 1, o2) :: (L + 1 + 1, oB) :: (L + 1, oN) :: [] ∧ StrsAre ys ((List.range i).map fun i => crooked (ks.getD i 0) (bs.getD i 0)))
      rfl F6 N6 hR (small_range (by omega)) (size_range _) (by rw [sizeLine_eq]; omega) ⟨rfl, .nil⟩ ?_ ?_
    · clear F6 N6 hR
      intro g2 i hi
      rintro v I oI C oC D2 m₂ ys led h2 tk2 E' ⟨ti, rfl⟩ ⟨rfl, hys⟩ hC hx2 F4 N4 off4 ne4
      obtain ⟨k, tk, hk, hk'⟩ := ints_item hN hi (k := 0 + (i : Int)) (by omega)
      obtain ⟨b, tb, hb, hb'⟩ := intsZ_item hBI (i := i) (by omega) (k := 0 + (i : Int)) (by omega)
      have hks4 := hsmall k (List.mem_of_getElem? hk)
      refine wpAny_tests_nil ?_
      simp only [if_true]
      refine wp_abs fun PP hPP => ?_
      k_steps
      refine hPP _ _ (CEnd.mk _ (by k_asm) (by k_asm) (fun _ h => h) off4 ⟨rfl, ?_⟩)
      rw [List.range_succ, List.map_append]
      refine hys.append' ?_
      rw [List.map_singleton, List.getD_eq_getElem?_getD, hk, List.getD_eq_getElem?_getD, hb]
      exact .cons _ _ .nil
    · clear F6 N6 hR
      rintro g2 ys led ⟨rfl, hys⟩
      intro D4 h3 tk3 F5 N5 off5
      simp only [LCg.Off1, and_true] at off5
      dsimp only
      replace hys : StrsAre ys (crookedOf ks bs) := hys
      k_steps
      rename Fr _ _ _ _ => F6
      have hcl : (crookedOf ks bs).length = ks.length := by rw [crookedOf, List.length_map, List.length_range]
      have hyl := hys.length
      have hgc := strsAre_get hys
      have hone := ok.one
      have hall := ok.all
      have hpaths := ok.paths
      have hokS := ok.okS
      have hcl1 : (crookedOf ks bs).length ≤ 100 := by omega
      have hcl0 : 0 < (crookedOf ks bs).length := by omega
      generalize hcs : crookedOf ks bs = cs at *
      have N6 : News g L h3 ((D4, lst ys) :: (aN, W.listOf usN.toArray nnN) :: (man, instObj 67 dm) :: (dm, manD hs tkd (.ref dd)) :: (L + 1 + 1 + 1 + 1, o1) :: (L + 1 + 1 + 1, o2) :: (L + 1, oN) :: []) := news_sub N5 (by lcg_sub)
      clear N5
      replace off5 := off5.2
      refine csrc_led (fun i zs led => led = (D4, lst ys) :: (aN, W.listOf usN.toArray nnN) :: (man, instObj 67 dm) :: (dm, manD hs tkd (.ref dd)) :: (L + 1 + 1 + 1 + 1, o1) :: (L + 1 + 1 + 1, o2) :: (L + 1, oN) :: [] ∧ StrsAre zs ((ks.take i).map straight))
        rfl F6 N6 (.head _) (by rw [List.size_toArray, sizeLine_eq]; omega) ⟨rfl, .nil⟩ (fun _ _ _ h => by rw [h.1]; exact .head _) ?_ ?_
      · clear F6 N6
        intro g2 i hi
        rintro v I oI C oC D2 m₂ zs led h2 tk2 E' hv ⟨rfl, hzs⟩ hC hx2 F4 N4 off4 ne4
        obtain ⟨c, tc, hc, rfl⟩ := hgc i v (by simpa using hv)
        have hi2 : i < ks.length := by have := (List.getElem?_eq_some_iff.mp hc).1; omega
        obtain ⟨k, hk⟩ : ∃ k, ks[i]? = some k := ⟨_, List.getElem?_eq_getElem hi2⟩
        have hce : commonS [c] = straight k := by
          have h1 := hone i k hk
          rw [← hcs, crookedOf, List.getElem?_map, List.getElem?_range hi2] at hc
          simp only [Option.map_some, Option.some.injEq] at hc
          rw [List.getD_eq_getElem?_getD, hk] at hc
          rw [← hc]; exact h1
        have hpc : ∀ p ∈ [c], PathOk p := fun p hp => by rw [List.mem_singleton.mp hp]; exact hpaths c (List.mem_of_getElem? hc)
        refine wpAny_tests_nil ?_
        simp only [if_true]
        refine wp_abs fun PP hPP => ?_
        k_steps
        refine hPP _ _ (CEnd.mk ((D4, lst ys) :: (aN, W.listOf usN.toArray nnN) :: (man, instObj 67 dm) :: (dm, manD hs tkd (.ref dd)) :: (L + 1 + 1 + 1 + 1, o1) :: (L + 1 + 1 + 1, o2) :: (L + 1, oN) :: []) (by k_asm) (by k_asm) (by lcg_sub) off4 ⟨rfl, ?_⟩)
        rw [List.take_add_one, hk, List.map_append]
        exact hzs.append' (.cons _ _ .nil)
      · clear F6 N6
        rintro g2 zs led ⟨rfl, hzs⟩
        rw [List.size_toArray, hyl, hcl, List.take_length] at hzs
        intro D5 h4 tk4 F5 N5 off6
        simp only [LCg.Off1, and_true] at off6
        dsimp only
        have hzok : ∀ p ∈ ks.map straight, PyData.strOk p = true := fun p hp => by
          obtain ⟨k, hk, rfl⟩ := List.mem_map.mp hp
          exact (hokS k (hsmall k hk)).1
        have hlow4 := ok.lowS
        obtain ⟨zl, hzl⟩ : ∃ z, straight (lowOf ks) = z := ⟨_, rfl⟩
        rw [hzl] at hall
        generalize hlw : lowOf ks = low at *
        k_steps
        dsimp only
        rename_i hX oP F6 N6 dP
        have hIl := hN.length
        rw [hnl] at hIl
        have hgn := natI_get hN
        refine csrc_led (fun i xs led => led = (D5, lst zs) :: (D4, lst ys) :: (aN, W.listOf usN.toArray nnN) :: (man, instObj 67 dm) :: (dm, manD hs tkd (.ref dd)) :: (L + 1 + 1 + 1 + 1, o1) :: (L + 1 + 1 + 1, oP) :: (L + 1, oN) :: [] ∧ StrsAre xs ((ks.take i).map straight))
          rfl F6 N6 (by k_mem) (by rw [List.size_toArray, sizeLine_eq]; omega) ⟨rfl, .nil⟩ (fun _ _ _ h => by rw [h.1]; k_mem) ?_ ?_
        · clear F6 N6
          intro g2 i hi
          rintro v I oI C oC D2 m₂ xs led h2 tk2 E' hv ⟨rfl, hxs⟩ hC hx2 F4 N4 off4 ne4
          obtain ⟨k, tk, hk, rfl⟩ := hgn i v (by simpa using hv)
          have hk4 := hsmall k (List.mem_of_getElem? hk)
          obtain ⟨zk, hz⟩ : ∃ z, straight k = z := ⟨_, rfl⟩
          refine wpAny_tests_nil ?_
          simp only [if_true]
          refine wp_abs fun PP hPP => ?_
          k_steps
          refine hPP _ _ (CEnd.mk _ (by k_asm) (by k_asm) (fun _ h => h) off4 ⟨rfl, ?_⟩)
          rw [List.take_add_one, hk, List.map_append]
          exact hxs.append' (by rw [← hz]; exact .cons _ _ .nil)
        · clear F6 N6
          rintro g2 xs led ⟨rfl, hxs⟩
          rw [List.size_toArray, hIl, List.take_length] at hxs
          intro D6 h5 tk5 F7 N7 off7
          simp only [LCg.Off1, and_true] at off7
          dsimp only
          have hnm := namesOf_len low
          have stS : StopS := ⟨⟩
          k_steps
          refine Hold.mk ?_
          clear stS
          dsimp only
          rename_i aM hM1 tkM vsM nnM hSM lM
          rename Fr _ _ _ _ => F8; rename News _ _ _ _ => N8
          replace N8 : News g L _ ((D5, lst zs) :: (D4, lst ys) :: (aN, W.listOf usN.toArray nnN) :: (man, instObj 67 dm) :: (dm, manD hs tkd (.ref dd)) :: (L + 1 + 1 + 1 + 1, o1) :: (L + 1 + 1 + 1, oP) :: (L + 1, oN) :: []) := news_sub N8 (by lcg_sub)
          obtain ⟨x1, x2, x3, x4, x5, x6, x7⟩ := off6
          obtain ⟨y1, y2, y3, y4, y5, y6⟩ := off5
          obtain ⟨z1, z2, z3, z4, z5, z6, z7⟩ := lA
          obtain ⟨w1, w2, w3, w4⟩ := l1
          clear off7 lM lB2
          have v1 : @Ne Nat (L + 1 + 1 + 1 + 1) man := by clear x1 x2 x3 x4 x5 x6 x7 y1 y2 y3 y4 y5 y6 z1 z2 z3 z4 z5 z6 z7; omega
          have v2 : @Ne Nat (L + 1 + 1 + 1 + 1) dm := by clear x1 x2 x3 x4 x5 x6 x7 y1 y2 y3 y4 y5 y6 z1 z2 z3 z4 z5 z6 z7; omega
          have v3 : @Ne Nat (L + 1 + 1 + 1 + 1) (L + 1 + 1 + 1) := by clear x1 x2 x3 x4 x5 x6 x7 y1 y2 y3 y4 y5 y6 z1 z2 z3 z4 z5 z6 z7; omega
          have v4 : @Ne Nat (L + 1 + 1 + 1 + 1) (L + 1) := by clear x1 x2 x3 x4 x5 x6 x7 y1 y2 y3 y4 y5 y6 z1 z2 z3 z4 z5 z6 z7; omega
          k_steps
          · rename_i hX2 oD F8 N9 dD
            clear x1 x2 x3 x4 x5 x6 x7 y1 y2 y3 y4 y5 y6 z1 z2 z3 z4 z5 z6 z7 v1 v2 v3 v4
            have hdown := ok.down
            have hclimb := ok.climb
            have hway := ok.wayOk
            have hanc := ok.anc
            have hpair := ok.pair
            have hzll : zl.length ≤ 1000 := by rw [← hzl]; exact (hokS low hlow4).2
            rw [hlw] at hdown hclimb hway hanc
            rw [hzl] at hdown
            rw [hcs] at hpair
            clear hxs
            refine csrc_led (fun i xs led => led = (D5, lst zs) :: (D4, lst ys) :: (aN, W.listOf usN.toArray nnN) :: (man, instObj 67 dm) :: (dm, manD hs tkd (.ref dd)) :: (L + 1 + 1 + 1 + 1, oD) :: (L + 1 + 1 + 1, oP) :: (L + 1, oN) :: [] ∧ StrsAre xs ((ks.take i).map straight))
              rfl F8 N9 (by k_mem) (by rw [List.size_toArray, sizeLine_eq]; omega) ⟨rfl, .nil⟩ (fun _ _ _ h => by rw [h.1]; k_mem) ?_ ?_
            · clear F8 N9
              intro g2 i hi
              rintro v I oI C oC D2 m₂ xs led h2 tk2 E' hv ⟨rfl, hxs⟩ hC hx2 F4 N4 off4 ne4
              obtain ⟨k, tk, hk, rfl⟩ := hgn i v (by simpa using hv)
              have hkm := List.mem_of_getElem? hk
              have hk4 := hsmall k hkm
              have hdk := hdown k hkm
              have hnk := namesOf_len k
              have hnd : ((namesOf k).drop (namesOf low).length).length ≤ 5000 := by rw [List.length_drop]; omega
              have hn2 : ∀ y ∈ (namesOf k).drop (namesOf low).length, y.length ≤ 2 := fun y hy => by
                obtain ⟨j, rfl⟩ := namesOf_mem k y (List.mem_of_mem_drop hy)
                exact nm_len j
              refine wpAny_tests_nil ?_
              simp only [if_true]
              refine wp_abs fun PP hPP => ?_
              k_steps
              rename News _ _ _ _ => N5; rename Fr _ _ _ _ => F5; rename StrsAre _ (namesOf k) => hSk
              refine' slice_from_strs (a := (namesOf low).length) (ss := namesOf k) ?zF ?zN ?zl ?zS ?zp ?zq ?zz ?_ ?zy ?zs ?zt
              (case zF => exact F5)
              (case zN => exact N5)
              (case zl => exact News.isList N5 (.head _))
              (case zS => exact hSk)
              (case zp => exact IsPart.int _ _)
              (case zq => exact IsPart.none)
              (case zz => omega)
              (case zy => rfl)
              (case zs => with_unfolding_all rfl)
              (case zt => intro _; with_unfolding_all rfl)
              intro D9 ws9 h9 F6 N6 l6 hS6
              clear N5 F5
              k_steps
              refine hPP _ _ (CEnd.mk ((D5, lst zs) :: (D4, lst ys) :: (aN, W.listOf usN.toArray nnN) :: (man, instObj 67 dm) :: (dm, manD hs tkd (.ref dd)) :: (L + 1 + 1 + 1 + 1, oD) :: (L + 1 + 1 + 1, oP) :: (L + 1, oN) :: []) (by k_asm) (by k_asm) (by lcg_sub) off4 ⟨rfl, ?_⟩)
              rw [List.take_add_one, hk, List.map_append]
              exact hxs.append' (.cons _ _ .nil)
            · clear F8 N9
              rintro g2 xs led ⟨rfl, hxs⟩
              rw [List.size_toArray, hIl, List.take_length] at hxs
              intro D7 h6 tk6 F9 N9 off8
              have N10 : News g L h6 ((D7, lst xs) :: (D5, lst zs) :: (D4, lst ys) :: (aN, W.listOf usN.toArray nnN) :: (man, instObj 67 dm) :: (dm, manD hs tkd (.ref dd)) :: (L + 1, oN) :: []) := news_sub N9 (by lcg_sub)
              clear N9 off8 dD dP
              dsimp only
              have hzl5 := hzs.length
              rw [List.length_map] at hzl5
              have hpl : (ks.map straight).length ≤ 100 := by rw [List.length_map]; exact hk1
              have key : ∀ i, i < ks.length → ∃ (k : Nat) (p : Str) (ww : List Str) (tk tp : Tok), usN[i]? = some (.int (k : Nat) tk) ∧ zs[i]? = some (.str p tp) ∧ k ≤ 4000 ∧ Anc low k ∧ PyData.strOk p = true ∧ p.length ≤ 1000 ∧
                  climbGo (ks.map straight) 20 p = ww ∧ (wayL low k).map straight = ww ∧ ∀ x ∈ ww, PyData.strOk x = true := fun i hi => by
                obtain ⟨k, tk, h1, h2⟩ := ints_item hN hi (k := (i : Int)) rfl
                obtain ⟨p, tp, h3, h4⟩ := strs_item hzs (i := i) (by rw [List.length_map]; exact hi) (k := (i : Int)) rfl
                have hm := List.mem_of_getElem? h1
                have hk4 := hsmall k hm
                rw [List.getElem?_map, h1] at h3
                simp only [Option.map_some, Option.some.injEq] at h3
                subst h3
                refine ⟨k, straight k, _, tk, tp, by simpa using h2, by simpa using h4, hk4, hanc k hm, (hokS k hk4).1, (hokS k hk4).2, hclimb k hm, rfl, fun x hx => ?_⟩
                obtain ⟨q, hq, rfl⟩ := List.mem_map.mp hx
                exact (hokS q (hway k hm q hq)).1
              obtain ⟨k0, p0, w0, tk0, tp0, e1, e2, e3, e4, e5, e6, e7, e8, e9⟩ := key 0 hk0
              obtain ⟨kL, pL, wL, tkL, tpL, f1, f2, f3, f4, f5, f6, f7, f8, f9⟩ := key (ks.length - 1) (by omega)
              have e1' : usN[(0 : Int).toNat]? = some (.int (k0 : Nat) tk0) := e1
              have e2' : zs[(0 : Int).toNat]? = some (.str p0 tp0) := e2
              have f1' : usN[usN.length - 1]? = some (.int (kL : Nat) tkL) := by rw [hIl]; exact f1
              have f2' : zs[zs.length - 1]? = some (.str pL tpL) := by rw [hzl5]; exact f2
              clear key e1 e2 f1 f2
              k_steps
              rename Fr _ _ _ _ => F11; rename News _ _ _ _ => N11
              refine ctr_use1 (wrong_spec man dm aN D4 D5 hs tkd (.ref dd) nnN ys.length zs.length usN ys zs ks cs (ks.map straight) hN hys hzs hcl (by rw [List.length_map]) hk1 hpair) F11 N11 X T (by walk_at "ROOM") (by walk_at "ROOM")
                ⟨new_of N11 (by k_mem), new_of N11 (by k_mem), new_of N11 (by k_mem), new_of N11 (by k_mem), new_of N11 (by k_mem)⟩ fun r aW oW h12 tk12 F12 N12 l12 hC12 => ?_
              obtain ⟨nW, rfl, rfl⟩ := hC12
              have N13 : News g L h12 [(aW, W.listOf (List.toArray []) nW)] := news_sub N12 (by lcg_sub)
              clear N11 F11 N12 l12
              dsimp only
              k_steps
              exact hret _ _ _ (kback L _ [] (Fr.keep (by k_asm)) News.nil (fun _ h => nomatch h)) rfl
section
abbrev tl (x : Str) : List Nat := x.cps.toList
theorem tl_append (a b : Str) : tl (a ++ b) = tl a ++ tl b := by show (a.cps ++ b.cps).toList = _; simp
theorem tl_sl : tl (Str.ofString "/") = [47] := by decide +kernel
theorem sl_eq : Str.ofString "/" = ⟨#[47]⟩ := by decide +kernel
theorem tl_inj {a b : Str} (h : tl a = tl b) : a = b := str_of_list h
theorem len_tl (a : Str) : a.length = (tl a).length := by show a.cps.size = _; simp
def gl : List Str → List Nat
  | [] => []
  | q :: r => 47 :: (tl q ++ gl r)
theorem gl_append (a b : List Str) : gl (a ++ b) = gl a ++ gl b := by
  induction a with
  | nil => rfl
  | cons x r ih => simp [gl, ih]
theorem join_gl (p : Str) (qs : List Str) : tl (Txt.join (Str.ofString "/") (p :: qs)) = tl p ++ gl qs := by
  show tl (Builtin.Str.glued _ _) = _
  rw [StrLaws.glued_eq_join]
  induction qs generalizing p with
  | nil => show tl p = _; simp [gl]
  | cons q r ih =>
    show tl (p ++ Str.ofString "/" ++ Str.join (Str.ofString "/") (q :: r)) = _
    rw [tl_append, tl_append, ih, tl_sl]; simp [gl]
def free (x : Str) : Prop := 47 ∉ tl x
def opens (s : List Nat) : Prop := s = [] ∨ ∃ r, s = 47 :: r
theorem gl_opens (ps : List Str) : opens (gl ps) := by cases ps with
  | nil => exact .inl rfl
  | cons q r => exact .inr ⟨_, rfl⟩
theorem part_eq : ∀ {a b s t : List Nat}, 47 ∉ a → 47 ∉ b → opens s → opens t → a ++ s = b ++ t → a = b ∧ s = t
  | [], [], _, _, _, _, _, _, h => ⟨rfl, by simpa using h⟩
  | [], c :: b, s, t, _, hb, hs, _, h => by
    rcases hs with rfl | ⟨r, rfl⟩
    · simp at h
    · simp at h; exact absurd (h.1 ▸ List.mem_cons_self) hb
  | c :: a, [], s, t, ha, _, _, ht, h => by
    rcases ht with rfl | ⟨r, rfl⟩
    · simp at h
    · simp at h; exact absurd (h.1 ▸ List.mem_cons_self) ha
  | c :: a, d :: b, s, t, ha, hb, hs, ht, h => by
    simp only [List.cons_append, List.cons.injEq] at h
    obtain ⟨rfl, h⟩ := h
    have := part_eq (fun q => ha (List.mem_cons_of_mem _ q)) (fun q => hb (List.mem_cons_of_mem _ q)) hs ht h
    exact ⟨by rw [this.1], this.2⟩
theorem gl_inj : ∀ {ps qs : List Str}, (∀ p ∈ ps, free p) → (∀ q ∈ qs, free q) → gl ps = gl qs → ps = qs
  | [], [], _, _, _ => rfl
  | [], _ :: _, _, _, h => by simp [gl] at h
  | _ :: _, [], _, _, h => by simp [gl] at h
  | p :: ps, q :: qs, hp, hq, h => by
    simp only [gl, List.cons.injEq, true_and] at h
    have := part_eq (hp p (.head _)) (hq q (.head _)) (gl_opens ps) (gl_opens qs) h
    rw [tl_inj this.1, gl_inj (fun x hx => hp x (.tail _ hx)) (fun x hx => hq x (.tail _ hx)) this.2]
theorem cut_ne (x : Str) : cut x ≠ [] := by
  intro h
  have hj : Str.join (Str.ofString "/") (cut x) = x := StrLaws.join_split x _
  rw [h] at hj
  have e : x = Str.empty := hj.symm
  subst e
  exact absurd h (by decide +kernel)
theorem cut_eq {x p : Str} {ps : List Str} (hp : free p) (hps : ∀ q ∈ ps, free q) (h : tl x = tl p ++ gl ps) : cut x = p :: ps := by
  have hfree : ∀ q ∈ cut x, free q := fun q hq => by
    have := StrLaws.split_free x 47
    rw [← sl_eq] at this
    exact this q hq
  have hj : Str.join (Str.ofString "/") (cut x) = x := StrLaws.join_split x _
  cases hc : cut x with
  | nil => exact absurd hc (cut_ne x)
  | cons c cs =>
    rw [hc] at hj hfree
    have h1 : tl (Txt.join (Str.ofString "/") (c :: cs)) = tl x := by
      show tl (Builtin.Str.glued _ _) = _
      rw [StrLaws.glued_eq_join, hj]
    rw [join_gl, h] at h1
    have := part_eq (hfree c (.head _)) hp (gl_opens cs) (gl_opens ps) h1
    rw [tl_inj this.1, gl_inj (fun q hq => hfree q (.tail _ hq)) hps this.2]
theorem three (k : Nat) : k % 3 = 0 ∨ k % 3 = 1 ∨ k % 3 = 2 := by omega
theorem nm_free (k : Nat) : free (nm k) := by
  unfold nm free
  rcases three k with e | e | e <;> rw [e] <;> decide +kernel
theorem nm_keep (k : Nat) : keepC (nm k) = true := by
  unfold nm
  rcases three k with e | e | e <;> rw [e] <;> decide +kernel
theorem nm_ne (k : Nat) : tl (nm k) ≠ [] := by
  unfold nm
  rcases three k with e | e | e <;> rw [e] <;> decide +kernel
theorem names_ok (n : Nat) : ∀ x ∈ namesOf n, free x ∧ keepC x = true ∧ x.length ≤ 2 ∧ tl x ≠ [] := fun x hx => by
  obtain ⟨k, rfl⟩ := namesOf_mem n x hx
  exact ⟨nm_free k, nm_keep k, nm_len k, nm_ne k⟩
def sepP (b : Int) : List Str := [[], [Str.empty], [Str.ofString "."], [Str.ofString ".", Str.empty]].getD (b.fmod 4).toNat []
def endP (b : Int) : List Str := [[], [Str.empty], [Str.ofString "."], [Str.empty, Str.empty]].getD (b.fmod 4).toNat []
theorem four (b : Int) : (b.fmod 4).toNat = 0 ∨ (b.fmod 4).toNat = 1 ∨ (b.fmod 4).toNat = 2 ∨ (b.fmod 4).toNat = 3 := by
  have h1 := Int.fmod_nonneg_of_pos b (b := 4) (by omega)
  have h2 := Int.fmod_lt_of_pos b (b := 4) (by omega)
  omega
theorem dot_free : free (Str.ofString ".") := by show 47 ∉ tl _; decide +kernel
theorem emp_free : free Str.empty := by show 47 ∉ tl _; decide +kernel
theorem tl_emp : tl Str.empty = [] := rfl
theorem sep_gl (b : Int) (x : Str) : tl (sepOf b) ++ tl x = gl (sepP b ++ [x]) := by
  unfold sepOf sepP
  rcases four b with e | e | e | e <;> rw [e]
  · show tl (Str.ofString "/") ++ _ = _; rw [tl_sl]; simp [gl]
  · show tl (Str.ofString "//") ++ _ = _; rw [show tl (Str.ofString "//") = [47, 47] by decide +kernel]; simp [gl, tl_emp]
  · show tl (Str.ofString "/./") ++ _ = _; rw [show tl (Str.ofString "/./") = [47, 46, 47] by decide +kernel]; simp [gl, show tl (Str.ofString ".") = [46] by decide +kernel]
  · show tl (Str.ofString "/.//") ++ _ = _; rw [show tl (Str.ofString "/.//") = [47, 46, 47, 47] by decide +kernel]; simp [gl, tl_emp, show tl (Str.ofString ".") = [46] by decide +kernel]
theorem end_gl (b : Int) : tl (endOf b) = gl (endP b) := by
  unfold endOf endP
  rcases four b with e | e | e | e <;> rw [e] <;> decide +kernel
theorem sepP_ok (b : Int) : (∀ q ∈ sepP b, free q) ∧ (sepP b).filter keepC = [] := by
  unfold sepP
  rcases four b with e | e | e | e <;> rw [e]
  · simp
  · exact ⟨by simp [emp_free], by decide +kernel⟩
  · exact ⟨by simp [dot_free], by decide +kernel⟩
  · exact ⟨by simp [dot_free, emp_free], by decide +kernel⟩
theorem endP_ok (b : Int) : (∀ q ∈ endP b, free q) ∧ (endP b).filter keepC = [] ∧ (endOf b).length ≤ 2 := by
  unfold endP endOf
  rcases four b with e | e | e | e <;> rw [e]
  · exact ⟨by simp, by simp, by decide +kernel⟩
  · exact ⟨by simp [emp_free], by decide +kernel, by decide +kernel⟩
  · exact ⟨by simp [dot_free], by decide +kernel, by decide +kernel⟩
  · exact ⟨by simp [emp_free], by decide +kernel, by decide +kernel⟩
theorem fold_gl : ∀ (ns : List Str), (∀ x ∈ ns, free x ∧ keepC x = true ∧ x.length ≤ 2) → ∀ (p : Str) (b : Int) (P : List Str), tl p = gl P →
    ∃ P' : List Str, tl (ns.foldl crStep (p, b)).1 = gl (P ++ P') ∧ (∀ q ∈ P', free q) ∧ P'.filter keepC = ns ∧ (ns.foldl crStep (p, b)).1.length ≤ p.length + 6 * ns.length
  | [], _, p, b, P, h => ⟨[], by simpa using h, by simp, rfl, by simp⟩
  | x :: ns, hx, p, b, P, h => by
    have h0 := hx x (.head _)
    have e : tl (p ++ sepOf b ++ x) = gl (P ++ (sepP b ++ [x])) := by
      rw [tl_append, tl_append, List.append_assoc, sep_gl, h, ← gl_append]
    obtain ⟨P', e1, e2, e3, e4⟩ := fold_gl ns (fun y hy => hx y (.tail _ hy)) (p ++ sepOf b ++ x) (b.fdiv 4) (P ++ (sepP b ++ [x])) e
    refine ⟨sepP b ++ [x] ++ P', ?_, ?_, ?_, ?_⟩
    · show tl (ns.foldl crStep (crStep (p, b) x)).1 = _
      rw [show crStep (p, b) x = (p ++ sepOf b ++ x, b.fdiv 4) from rfl, e1]; simp
    · intro q hq
      rcases List.mem_append.mp hq with hq | hq
      · rcases List.mem_append.mp hq with hq | hq
        · exact (sepP_ok b).1 q hq
        · rw [List.mem_singleton.mp hq]; exact h0.1
      · exact e2 q hq
    · rw [List.filter_append, List.filter_append, (sepP_ok b).2, e3]; simp [h0.2.1]
    · show (ns.foldl crStep (crStep (p, b) x)).1.length ≤ _
      rw [show crStep (p, b) x = (p ++ sepOf b ++ x, b.fdiv 4) from rfl]
      rw [Str.length_append, Str.length_append] at e4
      have := sepOf_len b
      rw [List.length_cons]; omega
theorem crooked_gl (n : Nat) (b : Int) (hn : n ≤ 4000) : ∃ P : List Str, tl (crooked n b) = gl P ∧ P ≠ [] ∧ (∀ q ∈ P, free q) ∧ P.filter keepC = namesOf n ∧ (crooked n b).length ≤ 24003 := by
  obtain ⟨P', e1, e2, e3, e4⟩ := fold_gl (namesOf n) (fun x hx => ⟨(names_ok n x hx).1, (names_ok n x hx).2.1, (names_ok n x hx).2.2.1⟩) (Str.ofString "") b [] (by decide +kernel)
  have hl := namesOf_len n
  rw [show (Str.ofString "").length = 0 by decide +kernel] at e4
  rw [List.nil_append] at e1
  unfold crooked
  dsimp only
  generalize (namesOf n).foldl crStep (Str.ofString "", b) = r at e1 e4
  have hend := endP_ok r.2
  by_cases hr : r.1 = Str.ofString ""
  · rw [if_pos hr]
    rw [hr, show tl (Str.ofString "") = [] by decide +kernel] at e1
    obtain rfl : P' = [] := by cases P' with
      | nil => rfl
      | cons q r => simp [gl] at e1
    refine ⟨Str.empty :: endP r.2, ?_, by simp, ?_, ?_, ?_⟩
    · rw [tl_append, tl_sl, end_gl]; simp [gl, tl_emp]
    · intro q hq
      rcases List.mem_cons.mp hq with rfl | hq
      · exact emp_free
      · exact hend.1 q hq
    · rw [List.filter_cons_of_neg (by decide +kernel), hend.2.1, ← e3]; rfl
    · rw [Str.length_append, show (Str.ofString "/").length = 1 by decide +kernel]; omega
  · rw [if_neg hr]
    refine ⟨P' ++ endP r.2, ?_, ?_, ?_, ?_, ?_⟩
    · rw [tl_append, e1, end_gl, gl_append]
    · intro h
      rw [(List.append_eq_nil_iff.mp h).1] at e1
      exact hr (tl_inj (e1.trans (by decide +kernel)))
    · intro q hq
      rcases List.mem_append.mp hq with hq | hq
      · exact e2 q hq
      · exact hend.1 q hq
    · rw [List.filter_append, hend.2.1, e3, List.append_nil]
    · rw [Str.length_append]; omega
theorem len_gl (ps : List Str) : (gl ps).length = ps.length + (ps.map (·.length)).sum := by
  induction ps with
  | nil => rfl
  | cons p r ih => simp only [gl, List.length_cons, List.length_append, ih, List.map_cons, List.sum_cons, len_tl p]; omega
theorem cut_gl {x : Str} {P : List Str} (h : tl x = gl P) (hf : ∀ q ∈ P, free q) : cut x = Str.empty :: P := cut_eq emp_free hf (by rw [h]; rfl)
theorem keep_emp : keepC Str.empty = false := by decide +kernel
theorem parts_crooked (n : Nat) (b : Int) (hn : n ≤ 4000) : parts (crooked n b) = namesOf n := by
  obtain ⟨P, e1, _, e3, e4, _⟩ := crooked_gl n b hn
  unfold parts
  rw [cut_gl e1 e3, List.filter_cons_of_neg (by rw [keep_emp]; exact Bool.false_ne_true), e4]
theorem startswith_tl {x y : Str} (h : tl y <+: tl x) : Txt.startswith x y = true := by
  unfold Txt.startswith
  have hl := h.length_le
  rw [Bool.and_eq_true]
  refine ⟨decide_eq_true (by rw [len_tl x, len_tl y]; omega), ?_⟩
  rw [StrLaws.subAt_eq, List.drop_zero, beq_iff_eq, len_tl y]
  exact (List.prefix_iff_eq_take.mp h).symm
theorem startswith_iff {x y : Str} : Txt.startswith x y = true ↔ tl y <+: tl x := by
  refine ⟨fun h => ?_, startswith_tl⟩
  unfold Txt.startswith at h
  rw [Bool.and_eq_true, StrLaws.subAt_eq, List.drop_zero, beq_iff_eq, len_tl y] at h
  exact List.prefix_iff_eq_take.mpr h.2.symm
theorem path_ok (n : Nat) (b : Int) (hn : n ≤ 4000) : PathOk (crooked n b) := by
  obtain ⟨P, e1, e2, e3, e4, e5⟩ := crooked_gl n b hn
  have hc := cut_gl e1 e3
  have hl := len_gl P
  rw [← e1, ← len_tl] at hl
  refine ⟨startswith_tl ?_, by omega, ?_, ?_⟩
  · rw [tl_sl, e1]
    cases P with
    | nil => exact absurd rfl e2
    | cons q r => exact ⟨_, rfl⟩
  · rw [hc, List.length_cons]; omega
  · rw [hc, List.map_cons, List.sum_cons]; show 0 + _ ≤ _; omega
end
section
theorem names_succ (k : Nat) : namesOf (k + 1) = namesOf (k / 3) ++ [nm k] := by rw [namesOf]
theorem nm_inj {a b : Nat} (h : nm a = nm b) : a % 3 = b % 3 := by
  unfold nm at h
  rcases three a with e | e | e <;> rcases three b with f | f | f <;> rw [e, f] at h ⊢ <;> exact absurd h (by decide +kernel)
theorem names_inj : ∀ {a b : Nat}, namesOf a = namesOf b → a = b := by
  intro a
  induction a using namesOf.induct with
  | case1 =>
    intro b h
    cases b with
    | zero => rfl
    | succ b => rw [names_succ, namesOf] at h; exact absurd h.symm (by simp)
  | case2 k ih =>
    intro b h
    cases b with
    | zero => rw [names_succ, namesOf] at h; exact absurd h (by simp)
    | succ b =>
      rw [names_succ, names_succ] at h
      have h1 := List.append_inj' h rfl
      have h2 := nm_inj (List.singleton_inj.mp h1.2)
      have h3 := ih h1.1
      omega
theorem names_pre_succ (k : Nat) : namesOf (k / 3) <+: namesOf (k + 1) := by rw [names_succ]; exact List.prefix_append _ _
theorem pre_snoc {α : Type} {c a : List α} {x : α} (h : c <+: a ++ [x]) : c <+: a ∨ c = a ++ [x] := by
  rw [List.prefix_concat_iff] at h
  exact h.symm
theorem pre_le : ∀ {a b : Nat}, namesOf a <+: namesOf b → a ≤ b := by
  intro a b
  induction b using namesOf.induct with
  | case1 =>
    intro h
    rw [namesOf] at h
    have h1 : namesOf a = namesOf 0 := by rw [namesOf]; simpa using h
    exact Nat.le_of_eq (names_inj h1)
  | case2 k ih =>
    intro h
    rw [names_succ] at h
    rcases pre_snoc h with h | h
    · have := ih h; omega
    · rw [← names_succ] at h
      exact Nat.le_of_eq (names_inj h)
theorem lca_pre (a b : Nat) : namesOf (lcaN a b) <+: namesOf a ∧ namesOf (lcaN a b) <+: namesOf b := by
  induction h : a + b using Nat.strongRecOn generalizing a b with
  | _ n ih =>
    rcases Nat.lt_trichotomy a b with hlt | rfl | hlt
    · obtain ⟨j, rfl⟩ : ∃ j, b = j + 1 := ⟨b - 1, by omega⟩
      rw [lcaN_lt hlt]
      have := ih (a + (j + 1 - 1) / 3) (by omega) a ((j + 1 - 1) / 3) rfl
      exact ⟨this.1, this.2.trans (names_pre_succ j)⟩
    · rw [lcaN_self]; exact ⟨List.prefix_rfl, List.prefix_rfl⟩
    · obtain ⟨j, rfl⟩ : ∃ j, a = j + 1 := ⟨a - 1, by omega⟩
      rw [lcaN_gt hlt]
      have := ih ((j + 1 - 1) / 3 + b) (by omega) ((j + 1 - 1) / 3) b rfl
      exact ⟨this.1.trans (names_pre_succ j), this.2⟩
theorem lca_great {c : List Str} (a b : Nat) : c <+: namesOf a → c <+: namesOf b → c <+: namesOf (lcaN a b) := by
  induction h : a + b using Nat.strongRecOn generalizing a b with
  | _ n ih =>
    intro h1 h2
    rcases Nat.lt_trichotomy a b with hlt | rfl | hlt
    · obtain ⟨j, rfl⟩ : ∃ j, b = j + 1 := ⟨b - 1, by omega⟩
      rw [lcaN_lt hlt]
      refine ih (a + (j + 1 - 1) / 3) (by omega) a ((j + 1 - 1) / 3) rfl h1 ?_
      rw [names_succ] at h2
      rcases pre_snoc h2 with h2 | h2
      · exact h2
      · rw [← names_succ] at h2
        rw [h2] at h1
        have := pre_le h1; omega
    · rw [lcaN_self]; exact h1
    · obtain ⟨j, rfl⟩ : ∃ j, a = j + 1 := ⟨a - 1, by omega⟩
      rw [lcaN_gt hlt]
      refine ih ((j + 1 - 1) / 3 + b) (by omega) ((j + 1 - 1) / 3) b rfl ?_ h2
      rw [names_succ] at h1
      rcases pre_snoc h1 with h1 | h1
      · exact h1
      · rw [← names_succ] at h1
        rw [h1] at h2
        have := pre_le h2; omega
theorem fold_pre : ∀ (ks : List Nat) (k : Nat), namesOf (ks.foldl lcaN k) <+: namesOf k ∧ ∀ x ∈ ks, namesOf (ks.foldl lcaN k) <+: namesOf x
  | [], k => ⟨List.prefix_rfl, fun _ h => nomatch h⟩
  | y :: r, k => by
    have h1 := fold_pre r (lcaN k y)
    have h2 := lca_pre k y
    refine ⟨h1.1.trans h2.1, fun x hx => ?_⟩
    rcases List.mem_cons.mp hx with rfl | hx
    · exact h1.1.trans h2.2
    · exact h1.2 x hx
theorem fold_great {c : List Str} : ∀ (ks : List Nat) (k : Nat), c <+: namesOf k → (∀ x ∈ ks, c <+: namesOf x) → c <+: namesOf (ks.foldl lcaN k)
  | [], _, h, _ => h
  | y :: r, k, h, h2 => fold_great r (lcaN k y) (lca_great k y h (h2 y (.head _))) fun x hx => h2 x (.tail _ hx)
theorem low_pre {ks : List Nat} {k : Nat} (h : k ∈ ks) : namesOf (lowOf ks) <+: namesOf k := (fold_pre ks _).2 k h
theorem low_great {ks : List Nat} {c : List Str} (hn : 0 < ks.length) (h : ∀ k ∈ ks, c <+: namesOf k) : c <+: namesOf (lowOf ks) := by
  cases ks with
  | nil => simp at hn
  | cons k r => exact fold_great _ _ (h k (.head _)) h
def SN (ns : List Str) : Str := Str.ofString "/" ++ Txt.join (Str.ofString "/") ns
theorem SN_nil : tl (SN []) = [47] := by decide +kernel
theorem SN_cons (x : Str) (r : List Str) : tl (SN (x :: r)) = gl (x :: r) := by
  unfold SN
  rw [tl_append, join_gl, tl_sl]; rfl
theorem SN_ne {ns : List Str} (h : ns ≠ []) : tl (SN ns) = gl ns := by
  cases ns with
  | nil => exact absurd rfl h
  | cons x r => exact SN_cons x r
theorem cmn_self : ∀ a : List Str, cmn a a = a
  | [] => rfl
  | x :: r => by rw [cmn, if_pos rfl, cmn_self r]
theorem common_of {ps : List Str} {xss : List (List Str)} (e : ps.map parts = xss) (hn : 0 < xss.length) {c : List Str} (h1 : ∀ x ∈ xss, c <+: x) (h2 : ∀ d, (∀ x ∈ xss, d <+: x) → d <+: c) : commonS ps = SN c := by
  have e1 : cmn (loL xss) (hiL xss) = c := by
    have q1 := h2 (cmn (loL xss) (hiL xss)) fun x hx => cmn_between (loL_le hx) (hiL_le hx)
    have q2 := cmn_greatest (h1 _ (loL_mem hn)) (h1 _ (hiL_mem hn))
    exact List.IsPrefix.eq_of_length_le q1 q2.length_le
  unfold commonS
  rw [e, e1]; rfl
end
section
def isNm (x : Str) : Prop := free x ∧ tl x ≠ []
theorem names_nm (n : Nat) : ∀ x ∈ namesOf n, isNm x := fun x hx => ⟨(names_ok n x hx).1, (names_ok n x hx).2.2.2⟩
theorem common_one (k : Nat) (b : Int) (hk : k ≤ 4000) : commonS [crooked k b] = straight k := by
  refine common_of (xss := [namesOf k]) (by rw [List.map_singleton, parts_crooked k b hk]) (by simp) (c := namesOf k) (fun x hx => by rw [List.mem_singleton.mp hx]; exact List.prefix_rfl) fun d h => h _ (List.mem_singleton.mpr rfl)
theorem crookedOf_parts (ks : List Nat) (bs : List Int) (h : ∀ k ∈ ks, k ≤ 4000) : (crookedOf ks bs).map parts = ks.map namesOf := by
  unfold crookedOf
  rw [List.map_map]
  refine List.ext_getElem (by simp) fun i h1 h2 => ?_
  simp at h1
  simp only [List.getElem_map, List.getElem_range, Function.comp]
  have e : ks.getD i 0 = ks[i] := by rw [List.getD_eq_getElem?_getD, List.getElem?_eq_getElem h1]; rfl
  rw [e, parts_crooked _ _ (h _ (List.getElem_mem h1))]
theorem common_all (ks : List Nat) (bs : List Int) (hn : 0 < ks.length) (h : ∀ k ∈ ks, k ≤ 4000) : commonS (crookedOf ks bs) = straight (lowOf ks) := by
  refine common_of (crookedOf_parts ks bs h) (by simpa using hn) (c := namesOf (lowOf ks)) (fun x hx => ?_) fun d hd => low_great hn fun k hk => hd _ (List.mem_map.mpr ⟨k, hk, rfl⟩)
  obtain ⟨k, hk, rfl⟩ := List.mem_map.mp hx
  exact low_pre hk
theorem common_two (a b : Nat) (x y : Int) (ha : a ≤ 4000) (hb : b ≤ 4000) : commonS [crooked a x, crooked b y] = straight (lcaN a b) := by
  refine common_of (xss := [namesOf a, namesOf b]) (by simp [parts_crooked _ _ ha, parts_crooked _ _ hb]) (by simp) (c := namesOf (lcaN a b)) (fun z hz => ?_) fun d hd => lca_great a b (hd _ (by simp)) (hd _ (by simp))
  simp at hz
  rcases hz with rfl | rfl
  · exact (lca_pre a b).1
  · exact (lca_pre a b).2
theorem SN_snoc (ns : List Str) (x : Str) : tl (SN (ns ++ [x])) = gl ns ++ 47 :: tl x := by
  rw [SN_ne (by simp), gl_append]; simp [gl]
theorem last1 {s t : List Nat} (h : t ≠ []) (hf : 47 ∉ t) : ((s ++ t).drop ((s ++ t).length - 1)).take 1 ≠ [47] := by
  rcases List.eq_nil_or_concat t with rfl | ⟨u, c, rfl⟩
  · exact absurd rfl h
  · rw [List.concat_eq_append] at *
    have e : (s ++ (u ++ [c])).drop ((s ++ (u ++ [c])).length - 1) = [c] := by
      rw [← List.append_assoc, List.length_append, List.length_singleton, Nat.add_sub_cancel, List.drop_left]
    rw [e]
    intro q
    simp at q
    exact hf (by rw [q]; simp)
theorem ends_nil : Txt.endswith (SN []) (Str.ofString "/") = true := by decide +kernel
theorem ends_no {ns : List Str} {x : Str} (hx : isNm x) : Txt.endswith (SN (ns ++ [x])) (Str.ofString "/") = false := by
  unfold Txt.endswith
  rw [Bool.and_eq_false_iff]
  refine .inr ?_
  rw [StrLaws.subAt_eq, beq_eq_false_iff_ne]
  have e : (Str.ofString "/").length = 1 := by decide +kernel
  rw [e, len_tl]
  show ((tl (SN (ns ++ [x]))).drop _).take 1 ≠ tl (Str.ofString "/")
  rw [SN_snoc, tl_sl, show gl ns ++ 47 :: tl x = (gl ns ++ [47]) ++ tl x by simp]
  exact last1 hx.2 hx.1
theorem starts_no {x : Str} (hx : isNm x) : Txt.startswith x (Str.ofString "/") = false := by
  cases e : Txt.startswith x (Str.ofString "/") with
  | false => rfl
  | true =>
    rw [startswith_iff, tl_sl] at e
    obtain ⟨r, hr⟩ := e
    exact absurd (by rw [← hr]; simp) hx.1
theorem SN_len (ns : List Str) : ((SN ns).length : Int) ≠ 0 := by
  unfold SN
  rw [Str.length_append, show (Str.ofString "/").length = 1 by decide +kernel]; omega
theorem join_SN (ns : List Str) (hns : ∀ y ∈ ns, isNm y) (x : Str) (hx : isNm x) : joinS (SN ns) x = SN (ns ++ [x]) := by
  rcases List.eq_nil_or_concat ns with rfl | ⟨ms, y, rfl⟩
  · rw [joinS_2 (starts_no hx) (SN_len _) ends_nil]
    apply tl_inj
    rw [tl_append, SN_nil, SN_snoc]; simp [gl]
  · rw [List.concat_eq_append] at hns ⊢
    rw [joinS_3 (starts_no hx) (SN_len _) (ends_no (hns y (by simp)))]
    apply tl_inj
    rw [tl_append, tl_append, tl_sl, SN_snoc (ms ++ [y]) x, SN_ne (by simp)]; rfl
theorem fold_SN : ∀ (rest ns : List Str), (∀ y ∈ ns, isNm y) → (∀ y ∈ rest, isNm y) → rest.foldl joinS (SN ns) = SN (ns ++ rest)
  | [], ns, _, _ => by simp
  | x :: r, ns, h1, h2 => by
    rw [List.foldl_cons, join_SN ns h1 x (h2 x (.head _)), fold_SN r (ns ++ [x]) (fun y hy => by
      rcases List.mem_append.mp hy with hy | hy
      · exact h1 y hy
      · rw [List.mem_singleton.mp hy]; exact h2 x (.head _)) (fun y hy => h2 y (.tail _ hy))]
    simp
theorem down_ok {ks : List Nat} {k : Nat} (hk : k ∈ ks) : ((namesOf k).drop (namesOf (lowOf ks)).length).foldl joinS (straight (lowOf ks)) = straight k := by
  have h := List.prefix_iff_eq_append.mp (low_pre hk)
  show ((namesOf k).drop (namesOf (lowOf ks)).length).foldl joinS (SN (namesOf (lowOf ks))) = SN (namesOf k)
  rw [fold_SN _ _ (names_nm _) (fun y hy => names_nm k y (List.mem_of_mem_drop hy)), h]
/-- a path's own end -/
theorem slice_last {s t : List Nat} {x : Str} (h : tl x = s ++ t) (ht : t ≠ []) (hf : 47 ∉ t) : (Txt.slice x (some (-1)) none != Str.ofString "/") = true := by
  have hl : 0 < (tl x).length := by
    rw [h, List.length_append]
    cases t with
    | nil => exact absurd rfl ht
    | cons _ _ => rw [List.length_cons]; omega
  have hx1 : x.length = (tl x).length := len_tl x
  have hx2 : x.cps.toList.length = x.length := hx1.symm
  have hx3 : 0 < x.length := by rw [hx1]; exact hl
  have e : Txt.slice x (some (-1)) none = ⟨((x.cps.toList.drop ((-1 : Int) + x.length).toNat).take ((x.cps.toList.length : Int) - (-1 + x.length)).toNat).toArray⟩ := StrLaws.sliceText_from_neg (by omega) (by omega)
  rw [bne_iff_ne]
  intro q
  rw [e] at q
  have q2 := congrArg tl q
  rw [tl_sl] at q2
  have e1 : ((-1 : Int) + x.length).toNat = (tl x).length - 1 := by rw [← hx1]; omega
  have e2 : ((x.cps.toList.length : Int) - (-1 + x.length)).toNat = 1 := by rw [hx2]; omega
  rw [e1, e2] at q2
  have q3 : ((tl x).drop ((tl x).length - 1)).take 1 = [47] := by simpa using q2
  rw [h] at q3
  exact last1 ht hf q3
theorem pfx_nil : pfx (SN []) = SN [] := by decide +kernel
theorem pfx_snoc (ns : List Str) (x : Str) (hx : isNm x) : tl (pfx (SN (ns ++ [x]))) = gl (ns ++ [x]) ++ [47] := by
  unfold pfx
  rw [if_pos (slice_last (s := gl ns ++ [47]) (t := tl x) (by rw [SN_snoc]; simp) hx.2 hx.1), tl_append, tl_sl, SN_ne (by simp)]
theorem gl_under : ∀ {a b : List Str}, (∀ x ∈ a, free x) → (∀ x ∈ b, free x) → gl a ++ [47] <+: gl b → ∃ y r, b = a ++ y :: r
  | [], [], _, _, h => by simp [gl] at h
  | [], y :: r, _, _, _ => ⟨y, r, rfl⟩
  | x :: a, [], _, _, h => by simp [gl] at h
  | x :: a, y :: b, ha, hb, h => by
    obtain ⟨u, hu⟩ := h
    simp only [gl, List.cons_append, List.cons.injEq, true_and, List.append_assoc] at hu
    have ho : opens (gl a ++ (47 :: u)) := by
      rcases gl_opens a with e | ⟨r, e⟩
      · rw [e]; exact .inr ⟨u, rfl⟩
      · rw [e]; exact .inr ⟨_, rfl⟩
    have := part_eq (ha x (.head _)) (hb y (.head _)) ho (gl_opens b) (by simpa using hu)
    obtain ⟨z, r, e⟩ := gl_under (fun q hq => ha q (.tail _ hq)) (fun q hq => hb q (.tail _ hq)) ⟨u, by simpa using this.2⟩
    exact ⟨z, r, by rw [tl_inj this.1, e]; rfl⟩
theorem SN_inj {a b : List Str} (ha : ∀ x ∈ a, isNm x) (hb : ∀ x ∈ b, isNm x) (h : SN a = SN b) : a = b := by
  have h1 := congrArg tl h
  have key : ∀ (x : Str) (r : List Str), isNm x → [47] ≠ gl (x :: r) := fun x r hx q => by
    simp [gl] at q
    exact hx.2 (by simpa using q.1)
  cases a with
  | nil => cases b with
    | nil => rfl
    | cons y t => rw [SN_nil, SN_cons] at h1; exact absurd h1 (key y t (hb y (.head _)))
  | cons x r => cases b with
    | nil => rw [SN_nil, SN_cons] at h1; exact absurd h1.symm (key x r (ha x (.head _)))
    | cons y t =>
      rw [SN_cons, SN_cons] at h1
      exact gl_inj (fun q hq => (ha q hq).1) (fun q hq => (hb q hq).1) h1
theorem under_iff {a b : List Str} (ha : ∀ x ∈ a, isNm x) (hb : ∀ x ∈ b, isNm x) : suburi (Str.ofString "h") (SN a) (Str.ofString "h") (SN b) = true ↔ a <+: b := by
  have e1 : suburi (Str.ofString "h") (SN a) (Str.ofString "h") (SN b) = true ↔ (SN a = SN b ∨ Txt.startswith (SN b) (pfx (SN a)) = true) := by
    unfold suburi
    by_cases h : SN a = SN b
    · simp [h]
    · simp [h]
  rw [e1, startswith_iff]
  rcases List.eq_nil_or_concat a with rfl | ⟨c, x, rfl⟩
  · rw [pfx_nil, SN_nil]
    refine ⟨fun _ => List.nil_prefix, fun _ => .inr ?_⟩
    cases b with
    | nil => rw [SN_nil]; exact List.prefix_rfl
    | cons y t => rw [SN_cons]; exact ⟨_, rfl⟩
  · rw [List.concat_eq_append] at *
    rw [pfx_snoc c x (ha x (by simp))]
    constructor
    · rintro (h | h)
      · rw [SN_inj ha hb h]; exact List.prefix_rfl
      · cases b with
        | nil =>
          rw [SN_nil, gl_append] at h
          have := h.length_le
          simp [gl] at this
          omega
        | cons y t =>
          rw [SN_cons] at h
          obtain ⟨z, r, e⟩ := gl_under (fun q hq => (ha q hq).1) (fun q hq => (hb q hq).1) h
          rw [e]; exact List.prefix_append _ _
    · rintro ⟨d, rfl⟩
      cases d with
      | nil => left; simp
      | cons y r =>
        right
        rw [SN_ne (by simp), gl_append (c ++ [x])]
        exact ⟨tl y ++ gl r, by simp [gl]⟩
end
section
theorem at_iff {x : Str} {i : Nat} : StrLaws.At x (Str.ofString "/") x.length i ↔ ((tl x).drop i).take 1 = [47] := by
  unfold StrLaws.At
  rw [StrLaws.subAt_eq, beq_iff_eq, hd_sl.1]
  show _ ∧ ((tl x).drop i).take 1 = tl (Str.ofString "/") ↔ _
  rw [tl_sl, len_tl]
  refine ⟨fun h => h.2, fun h => ⟨?_, h⟩⟩
  have h9 := congrArg List.length h
  rw [List.length_take, List.length_drop] at h9
  have h8 : [47].length = 1 := rfl
  omega
theorem rfind_at {x : Str} {s t : List Nat} (h : tl x = s ++ 47 :: t) (hf : 47 ∉ t) : Txt.rfind x (Str.ofString "/") = (s.length : Nat) := by
  have h1 : StrLaws.At x (Str.ofString "/") x.length s.length := at_iff.mpr (by rw [h, List.drop_left]; rfl)
  unfold Txt.rfind
  rcases StrLaws.last_spec x (Str.ofString "/") with ⟨e, hn⟩ | ⟨i, e, hi, hl⟩
  · exact absurd h1 (hn _)
  · rw [e]; dsimp only
    have h2 : s.length ≤ i := Nat.le_of_not_lt fun q => hl _ q h1
    have h3 : i ≤ s.length := Nat.le_of_not_lt fun q => by
      rw [at_iff, h] at hi
      obtain ⟨d, rfl⟩ : ∃ d, i = s.length + (d + 1) := ⟨i - s.length - 1, by omega⟩
      rw [List.drop_append, List.drop_of_length_le (by omega), List.nil_append, show s.length + (d + 1) - s.length = d + 1 by omega, List.drop_succ_cons] at hi
      have hm : 47 ∈ (t.drop d).take 1 := by rw [hi]; simp
      exact hf (List.mem_of_mem_drop (List.mem_of_mem_take hm))
    rw [Nat.le_antisymm h3 h2]
theorem head0_SN (ns : List Str) (x : Str) (hx : isNm x) : tl (head0 (SN (ns ++ [x]))) = gl ns ++ [47] := by
  show (head0 _).cps.toList = _
  rw [head0_take, rfind_at (SN_snoc ns x) hx.1]
  show (tl (SN (ns ++ [x]))).take _ = _
  rw [SN_snoc, show (((gl ns).length : Nat) : Int) + 1 = (((gl ns).length + 1 : Nat) : Int) by push_cast; rfl, Int.toNat_natCast]
  rw [show gl ns ++ 47 :: tl x = (gl ns ++ [47]) ++ tl x by simp, show (gl ns).length + 1 = (gl ns ++ [47]).length by simp, List.take_left]
theorem fold_rep (n : Nat) (a : Array Nat) : ((List.replicate n (#[47] : Array Nat)).foldl (· ++ ·) a).toList = a.toList ++ List.replicate n 47 := by
  induction n generalizing a with
  | zero => simp
  | succ n ih => rw [List.replicate_succ, List.foldl_cons, ih]; simp [List.replicate_succ]
theorem mul_all (n : Int) : ∀ c ∈ tl (Txt.mul (Str.ofString "/") n), c = 47 := by
  intro c hc
  unfold Txt.mul at hc
  split at hc
  · exact absurd hc (by show c ∉ []; simp)
  · split at hc
    · rw [tl_sl] at hc; simpa using hc
    · have e : (Str.ofString "/").cps = #[47] := by rw [sl_eq]
      rw [e] at hc
      have hc2 : c ∈ ((List.replicate n.toNat (#[47] : Array Nat)).foldl (· ++ ·) #[]).toList := hc
      rw [fold_rep] at hc2
      simp at hc2
      exact hc2.2
theorem head_nil : headOf (SN []) = SN [] := by decide +kernel
theorem head_one (x : Str) (hx : isNm x) : headOf (SN [x]) = SN [] := by
  have h := head0_SN [] x hx
  have e : head0 (SN ([] ++ [x])) = Str.ofString "/" := tl_inj (by rw [h, tl_sl]; rfl)
  rw [List.nil_append] at e
  unfold headOf
  rw [e]
  decide +kernel
theorem contains_sl (c : Nat) : (Str.ofString "/").cps.contains c = (c == 47) := by
  rw [sl_eq]
  show (#[47] : Array Nat).contains c = _
  simp [Array.contains, BEq.comm]
theorem head_snoc (ns : List Str) (y x : Str) (hy : isNm y) (hx : isNm x) : headOf (SN (ns ++ [y] ++ [x])) = SN (ns ++ [y]) := by
  have h := head0_SN (ns ++ [y]) x hx
  generalize hz : head0 (SN (ns ++ [y] ++ [x])) = z at h
  have hgy : gl (ns ++ [y]) = gl ns ++ 47 :: tl y := by rw [gl_append]; simp [gl]
  obtain ⟨u, c, hu⟩ : ∃ u c, tl y = u ++ [c] := by
    rcases List.eq_nil_or_concat (tl y) with e | ⟨u, c, e⟩
    · exact absurd e hy.2
    · exact ⟨u, c, by rw [e, List.concat_eq_append]⟩
  have hc : c ≠ 47 := fun e => hy.1 (by rw [hu, e]; simp)
  have hlen : z.length = (gl (ns ++ [y])).length + 1 := by rw [len_tl, h]; simp
  have n1 : ((head0 (SN (ns ++ [y] ++ [x]))).length : Int) ≠ 0 := by rw [hz, hlen]; omega
  have n2 : (head0 (SN (ns ++ [y] ++ [x])) != Txt.mul (Str.ofString "/") ((head0 (SN (ns ++ [y] ++ [x]))).length : Int)) = true := by
    rw [hz, bne_iff_ne]
    intro e
    have hm : c ∈ tl z := by rw [h, hgy, hu]; simp
    rw [e] at hm
    exact hc (mul_all _ c hm)
  rw [headOf_1 n1 n2, hz]
  have hrev : (z.cps.toList.drop 0).reverse.takeWhile (Str.ofString "/").cps.contains = [47] := by
    show ((tl z).drop 0).reverse.takeWhile _ = _
    rw [List.drop_zero, h, hgy, hu]
    have hp : (Str.ofString "/").cps.contains = (fun k => k == 47) := funext contains_sl
    rw [hp]
    simp [List.takeWhile_cons, hc]
  have hhi : stripHi (Str.ofString "/").cps.contains true z 0 = (gl (ns ++ [y])).length := by
    unfold stripHi
    rw [if_pos rfl, hrev, hlen]; simp
  unfold Txt.rstripChars Txt.stripBy
  rw [if_neg (by
    unfold stripSame
    rw [show stripLo (Str.ofString "/").cps.contains false z = 0 from rfl, hhi, hlen]
    simp)]
  unfold PySem.stripped
  apply tl_inj
  unfold tl
  rw [StrLaws.strSub_toList, show stripLo (Str.ofString "/").cps.contains false z = 0 from rfl, hhi, List.drop_zero, Nat.sub_zero]
  change (tl z).take _ = tl _
  rw [h, List.take_left, SN_ne (by simp)]
theorem head_names (k : Nat) : headOf (straight (k + 1)) = straight (k / 3) := by
  show headOf (SN (namesOf (k + 1))) = SN (namesOf (k / 3))
  rw [names_succ]
  have hx : isNm (nm k) := ⟨nm_free k, nm_ne k⟩
  rcases List.eq_nil_or_concat (namesOf (k / 3)) with e | ⟨u, c, e⟩
  · rw [e]; exact head_one _ hx
  · rw [List.concat_eq_append] at e
    rw [e]
    exact head_snoc u c _ (names_nm (k / 3) c (by rw [e]; simp)) hx
end
section
theorem depth (n : Nat) : 2 ^ (namesOf n).length ≤ n + 1 := by
  induction n using namesOf.induct with
  | case1 => rw [namesOf]; simp
  | case2 k ih => rw [names_succ, List.length_append, List.length_singleton, Nat.pow_succ]; omega
theorem depth12 {n : Nat} (h : n ≤ 4000) : (namesOf n).length < 12 := by
  apply Nat.lt_of_not_le
  intro q
  have h1 := depth n
  have h2 : 2 ^ 12 ≤ 2 ^ (namesOf n).length := Nat.pow_le_pow_right (by omega) q
  have h3 : 2 ^ 12 = 4096 := by decide
  omega
theorem under_names (a b : Nat) : suburi (Str.ofString "h") (straight a) (Str.ofString "h") (straight b) = true ↔ namesOf a <+: namesOf b := under_iff (names_nm a) (names_nm b)
theorem straight_inj {a b : Nat} (h : straight a = straight b) : a = b := names_inj (SN_inj (names_nm a) (names_nm b) h)
theorem anc_of {low : Nat} : ∀ {k : Nat}, namesOf low <+: namesOf k → Anc low k := by
  intro k
  induction k using namesOf.induct with
  | case1 =>
    intro h
    have h1 := pre_le h
    unfold Anc
    rw [if_pos (by omega)]; trivial
  | case2 k ih =>
    intro h
    unfold Anc
    by_cases e : k + 1 = low
    · rw [if_pos e]; trivial
    · rw [if_neg e, if_neg (by omega), show (k + 1 - 1) / 3 = k / 3 by rw [Nat.add_sub_cancel]]
      rw [names_succ] at h
      rcases pre_snoc h with h | h
      · exact ih h
      · rw [← names_succ] at h; exact absurd (names_inj h).symm e
theorem way_le (low : Nat) : ∀ (k x : Nat), x ∈ wayL low k → x ≤ k := by
  intro k
  induction k using Nat.strongRecOn with
  | _ k ih =>
    intro x hx
    rw [wayL] at hx
    split at hx
    · rw [List.mem_singleton.mp hx]; exact Nat.le_refl _
    · split at hx
      · rw [List.mem_singleton.mp hx]; exact Nat.le_refl _
      · rcases List.mem_cons.mp hx with rfl | hx
        · exact Nat.le_refl _
        · have := ih ((k - 1) / 3) (by omega) x hx
          omega
theorem climb_go {ks : List Nat} (hn : 0 < ks.length) : ∀ (f k : Nat), namesOf (lowOf ks) <+: namesOf k → (namesOf k).length ≤ f → climbGo (ks.map straight) f (straight k) = (wayL (lowOf ks) k).map straight
  | 0, k, h, hf => by
    have e : k = 0 := by
      cases k with
      | zero => rfl
      | succ k => rw [names_succ, List.length_append, List.length_singleton] at hf; omega
    subst e
    have h1 := pre_le h
    have h2 : lowOf ks = 0 := by omega
    rw [h2, wayL_low]; rfl
  | f + 1, k, h, hf => by
    by_cases e : k = lowOf ks
    · subst e
      rw [wayL_low, climbGo, if_pos]
      · rfl
      · rw [List.filter_eq_nil_iff]
        intro p hp
        obtain ⟨x, hx, rfl⟩ := List.mem_map.mp hp
        rw [(under_names _ _).mpr (low_pre hx)]
        simp
    · have hk : 0 < k := anc_up' h e
      obtain ⟨j, rfl⟩ : ∃ j, k = j + 1 := ⟨k - 1, by omega⟩
      rw [climbGo, if_neg]
      · rw [head_names, wayL, if_neg e, if_neg (by omega), show (j + 1 - 1) / 3 = j / 3 by rw [Nat.add_sub_cancel], List.map_cons]
        congr 1
        refine climb_go hn f (j / 3) ?_ ?_
        · rw [names_succ] at h
          rcases pre_snoc h with h | h
          · exact h
          · rw [← names_succ] at h; exact absurd (names_inj h).symm e
        · rw [names_succ, List.length_append, List.length_singleton] at hf; omega
      · intro q
        rw [List.filter_eq_nil_iff] at q
        have : namesOf (j + 1) <+: namesOf (lowOf ks) := low_great hn fun x hx => by
          have := q (straight x) (List.mem_map.mpr ⟨x, hx, rfl⟩)
          rw [← under_names]
          simpa using this
        have h1 := pre_le this
        have h2 := pre_le h
        omega
where
  anc_up' {low k : Nat} (h : namesOf low <+: namesOf k) (e : k ≠ low) : 0 < k := by
    have := pre_le h
    omega
theorem strOk_iff (x : Str) : PyData.strOk x = true ↔ ∀ c ∈ tl x, c < 0x110000 := by
  unfold PyData.strOk
  rw [← Array.all_toList, List.all_eq_true]
  simp [tl]
theorem gl_all {P : Nat → Prop} (h47 : P 47) : ∀ {ns : List Str}, (∀ x ∈ ns, ∀ c ∈ tl x, P c) → ∀ c ∈ gl ns, P c
  | [], _, c, hc => by simp [gl] at hc
  | x :: r, h, c, hc => by
    simp only [gl, List.mem_cons, List.mem_append] at hc
    rcases hc with rfl | hc | hc
    · exact h47
    · exact h x (.head _) c hc
    · exact gl_all h47 (fun y hy => h y (.tail _ hy)) c hc
theorem nm_chars (k : Nat) : ∀ c ∈ tl (nm k), c < 0x110000 := by
  unfold nm
  rcases three k with e | e | e <;> rw [e] <;> decide +kernel
theorem sum_le2 : ∀ (ns : List Str), (∀ x ∈ ns, x.length ≤ 2) → (ns.map (·.length)).sum ≤ 2 * ns.length
  | [], _ => by simp
  | x :: r, h => by
    have h1 := h x (.head _)
    have h2 := sum_le2 r fun y hy => h y (.tail _ hy)
    rw [List.map_cons, List.sum_cons, List.length_cons]; omega
theorem ok_straight {k : Nat} (h : k ≤ 4000) : PyData.strOk (straight k) = true ∧ (straight k).length ≤ 1000 := by
  have hd := depth12 h
  have h2 := sum_le2 (namesOf k) fun x hx => (names_ok k x hx).2.2.1
  have h3 : ∀ c ∈ gl (namesOf k), c < 0x110000 := gl_all (by omega) fun x hx => by
    obtain ⟨j, rfl⟩ := namesOf_mem k x hx
    exact nm_chars j
  show PyData.strOk (SN (namesOf k)) = true ∧ (SN (namesOf k)).length ≤ 1000
  rw [strOk_iff, len_tl]
  by_cases e : namesOf k = []
  · rw [e, SN_nil]; decide
  · rw [SN_ne e, len_gl]
    exact ⟨h3, by omega⟩
theorem suburi_host (z p : Str) : suburi (Str.ofString "h") z (Str.ofString "i") p = false := by
  have e : (Str.ofString "h" == Str.ofString "i") = false := by decide +kernel
  have e2 : (Str.ofString "h" != Str.ofString "i") = true := by decide +kernel
  exact suburi_2 (by rw [e]; rfl) e2
theorem side (a b : Nat) : suburi (Str.ofString "h") (straight a) (Str.ofString "h") (straight b) = (straight (lcaN a b) == straight a) := by
  rw [Bool.eq_iff_iff, under_names, beq_iff_eq]
  constructor
  · intro h
    have h1 := lca_great a b List.prefix_rfl h
    have h2 := (lca_pre a b).1
    rw [Nat.le_antisymm (pre_le h2) (pre_le h1)]
  · intro h
    have h2 := (lca_pre a b).2
    rwa [straight_inj h] at h2
theorem lca_comm (a b : Nat) : lcaN a b = lcaN b a := by
  apply names_inj
  exact List.IsPrefix.eq_of_length_le (lca_great b a (lca_pre a b).2 (lca_pre a b).1) (lca_great a b (lca_pre b a).2 (lca_pre b a).1).length_le
theorem pair_ok (a b : Nat) (x y : Int) (ha : a ≤ 4000) (hb : b ≤ 4000) : PairOk a b (lcaN a b) (crooked a x) (crooked b y) (straight a) (straight b) (straight (lcaN a b)) := by
  have hl : lcaN a b ≤ 4000 := Nat.le_trans (pre_le (lca_pre a b).1) ha
  have o1 := ok_straight ha
  have o2 := ok_straight hb
  have o3 := ok_straight hl
  exact {
    lowN := hl
    lowE := by simp [lcaN_self]
    str := rfl
    com := common_two a b x y ha hb
    s1 := (under_names _ _).mpr (lca_pre a b).1
    s2 := (under_names _ _).mpr (lca_pre a b).2
    s3 := side a b
    s4 := by rw [side b a, lca_comm]
    s5 := suburi_host _ _
    okz := o3.1
    okp := o1.1
    okq := o2.1
    lenz := by omega
    lenp := by omega
    lenq := by omega
    paths := by
      intro c hc
      simp at hc
      rcases hc with rfl | rfl
      · exact path_ok a x ha
      · exact path_ok b y hb }
end
section
theorem nd_step_le {ks : List Nat} {M : Nat} (hM : 13 ≤ M) (h : ∀ k ∈ ks, k ≤ M) (n : Int) : ∀ k ∈ ndStep ks n, k ≤ 3 * M + 3 := by
  intro k hk
  unfold ndStep at hk
  have hg : ∀ j, ks.getD j 0 ≤ M := fun j => by
    rw [List.getD_eq_getElem?_getD]
    by_cases q : j < ks.length
    · rw [List.getElem?_eq_getElem q]; exact h _ (List.getElem_mem q)
    · rw [List.getElem?_eq_none (by omega)]; exact Nat.zero_le _
  have h5 := Int.fmod_lt_of_pos n (b := 5) (by omega)
  have h6 := Int.fmod_nonneg_of_pos n (b := 5) (by omega)
  rcases List.mem_append.mp hk with hk | hk
  · have := h k hk; omega
  · rw [List.mem_singleton.mp hk]
    have h1 := Int.fmod_lt_of_pos (n.fdiv 5) (b := 40) (by omega)
    have h2 := hg ((n.fdiv 5).fmod ks.length).toNat
    split
    · omega
    · split
      · omega
      · omega
theorem nd_len (ks : List Nat) (n : Int) : (ndStep ks n).length = ks.length + 1 := by unfold ndStep; simp
theorem nd_fold : ∀ (ns : List Int) (ks : List Nat) (M : Nat), 13 ≤ M → (∀ k ∈ ks, k ≤ M) → (ns.foldl ndStep ks).length = ks.length + ns.length ∧ ∀ k ∈ ns.foldl ndStep ks, k + 2 ≤ 3 ^ ns.length * (M + 2)
  | [], ks, M, _, h => ⟨rfl, fun k hk => by have := h k hk; simp; omega⟩
  | n :: r, ks, M, hM, h => by
    have q := nd_fold r (ndStep ks n) (3 * M + 3) (by omega) (nd_step_le hM h n)
    rw [nd_len] at q
    refine ⟨by rw [List.foldl_cons, q.1, List.length_cons]; omega, fun k hk => ?_⟩
    have h1 := q.2 k hk
    have h2 : 3 ^ r.length * (3 * M + 3 + 2) ≤ 3 ^ r.length * (3 * (M + 2)) := Nat.mul_le_mul_left _ (by omega)
    rw [List.length_cons, Nat.pow_succ, Nat.mul_assoc]
    omega
theorem nd_all (ns : List Int) : (ndAll ns).length = 1 + (ns.take 4).length ∧ ∀ k ∈ ndAll ns, k ≤ 1294 := by
  have q := nd_fold (ns.take 4) [14] 14 (by omega) (by simp)
  refine ⟨q.1, fun k hk => ?_⟩
  have h1 := q.2 k hk
  have h2 : 3 ^ (ns.take 4).length ≤ 3 ^ 4 := Nat.pow_le_pow_right (by omega) (by simp; omega)
  have h3 : 3 ^ (ns.take 4).length * (14 + 2) ≤ 3 ^ 4 * (14 + 2) := Nat.mul_le_mul_right _ h2
  have h4 : 3 ^ 4 * (14 + 2) = 1296 := by decide
  omega
theorem nodes_len (ns : List Int) : (nodesOf ns).length = (ns.take 4).length + 2 := by
  unfold nodesOf
  rw [List.length_append, List.length_drop, (nd_all ns).1]
  simp
theorem nodes_le (ns : List Int) : ∀ k ∈ nodesOf ns, k ≤ 4000 := by
  intro k hk
  have h := (nd_all ns).2
  have hg : ∀ j, (ndAll ns).getD j 0 ≤ 1294 := fun j => by
    rw [List.getD_eq_getElem?_getD]
    by_cases q : j < (ndAll ns).length
    · rw [List.getElem?_eq_getElem q]; exact h _ (List.getElem_mem q)
    · rw [List.getElem?_eq_none (by omega)]; exact Nat.zero_le _
  unfold nodesOf at hk
  rcases List.mem_append.mp hk with hk | hk
  · have := h k (List.mem_of_mem_drop hk); omega
  · have h1 := hg ((ndAll ns).length - 1)
    simp only [List.mem_cons, List.not_mem_nil, or_false] at hk
    rcases hk with rfl | rfl <;> omega
theorem mem_get {α : Type} {l : List α} {i : Nat} {x : α} (h : l[i]? = some x) : x ∈ l := List.mem_of_getElem? h
theorem crooked_at {ks : List Nat} {bs : List Int} {i a : Nat} {c : Str} (h : ks[i]? = some a) (h2 : (crookedOf ks bs)[i]? = some c) : c = crooked a (bs.getD i 0) := by
  unfold crookedOf at h2
  rw [List.getElem?_map, Option.map_eq_some_iff] at h2
  obtain ⟨j, h3, rfl⟩ := h2
  have h4 : i < ks.length := (List.getElem?_eq_some_iff.mp h).1
  rw [List.getElem?_range h4] at h3
  cases h3
  rw [List.getD_eq_getElem?_getD, h]; rfl
theorem straight_at {ks : List Nat} {i a : Nat} {p : Str} (h : ks[i]? = some a) (h2 : (ks.map straight)[i]? = some p) : p = straight a := by
  rw [List.getElem?_map, h] at h2
  exact (Option.some.inj h2).symm
theorem law_of (ks : List Nat) (bs : List Int) (hn : 0 < ks.length ∧ ks.length ≤ 100 ∧ bs.length = ks.length) (hs : ∀ k ∈ ks, k ≤ 4000) : LawOk ks bs where
  num := hn
  small := hs
  lowS := by
    cases ks with
    | nil => exact absurd hn.1 (by simp)
    | cons k r => exact Nat.le_trans (pre_le (low_pre (.head _))) (hs k (.head _))
  paths := by
    intro c hc
    unfold crookedOf at hc
    obtain ⟨i, hi, rfl⟩ := List.mem_map.mp hc
    have hi := List.mem_range.mp hi
    refine path_ok _ _ (hs _ ?_)
    rw [List.getD_eq_getElem?_getD, List.getElem?_eq_getElem hi]
    exact List.getElem_mem hi
  one := fun i k h => common_one k _ (hs k (mem_get h))
  all := common_all ks bs hn.1 hs
  down := fun k hk => down_ok hk
  climb := fun k hk => climb_go hn.1 20 k (low_pre hk) (by have := depth12 (hs k hk); omega)
  wayOk := fun k hk x hx => Nat.le_trans (way_le _ k x hx) (hs k hk)
  anc := fun k hk => anc_of (low_pre hk)
  okS := fun k hk => ok_straight hk
  pair := by
    intro i j a b ci cj p q _ ha hb hci hcj hp hq
    rw [crooked_at ha hci, crooked_at hb hcj, straight_at ha hp, straight_at hb hq]
    exact ⟨_, _, pair_ok a b _ _ (hs a (mem_get ha)) (hs b (mem_get hb))⟩
theorem law_ok (ns : List Int) : LawOk (nodesOf ns) (bitsOf ns) := by
  have h := nodes_len ns
  have h4 : (ns.take 4).length ≤ 4 := by simp; omega
  refine law_of _ _ ⟨by omega, by omega, ?_⟩ (nodes_le ns)
  unfold bitsOf
  rw [h, List.length_append, List.length_map]; rfl
end
theorem said_ok : PySem.Challenge.rw_pd0052_01.wellSaid = true := by decide +kernel
end Mine
open Mine
set_option maxHeartbeats 8000000 in
set_option maxRecDepth 100000 in
theorem PySem.Challenge.cw_pd0052_01_holds : PySem.Challenge.rw_pd0052_01.Holds := by
  w_on
  refine holds_law said_ok fun said => ?_
  refine holds_open (q := vw) (loose := []) (Xt := fun s => xlAt vw [] s && recOk (RowW.records PySem.Challenge.rw_pd0052_01.row.toRowW) s) (XP := XL vw []) (Yf := Hook.obs kH) (Ya := Hook.val kH) (YP := Hook.says kH) (N := 3188) left (Hook.of kH) (Hook.keeps kH) (fun s e => xl_of s (Bool.and_eq_true_iff.mp e).1) XL.keeps (by rfl) (by rfl) (by rfl) (fun s e => recFacts_of (Bool.and_eq_true_iff.mp e).2) (by rfl) (by first | assumption | decide +kernel) (by decide +kernel) ⟨rfl, rfl, rfl, rfl, rfl, by decide +kernel⟩ ?hw ?hc
  case hw => w_witness2
  case hc =>
    clear said
    intro w s₀ s₁ mg mb G Y fa o pm cd doc dV kV ho hd hcd hD hmg hg args vals as hpre hlay hrd hwl hlo
    have KX := kIn_of Y
    refine Ground.open G ?_
    intro T B D TE TW
    have efa : fa = 243 := by
      have h : mg (Str.ofString "law") = some (.ref 243) := mg_of KX (Top.g T) (by kernel_rfl)
      exact Value.ref.inj (Option.some.inj (hmg.symm.trans h))
    subst efa
    clear hmg hD hd hcd
    wrow_args hpre hlay hrd hwl hlo
    have law := fun l vs ns hI hn => law_spec (w := w) (mean := ExcName.means s₀.heap) (mg := mg) (mb := mb) l vs ns hI hn (law_ok ns)
    refine law _ _ _ (by assumption) (by omega) _ _ _ _ s₁.heap s₁ _ _ ?d1 ?d2 ⟨KX, T⟩ (Kp.refl _) (by assumption) ?_
    case d1 => decide
    case d2 => decide
    intro r h' tk' kp hr
    subst hr
    apply GoodW.toG
    refine ⟨.inl ⟨_, .bool true, [], rfl, raisesW_false ?_, .bool true, ?_, unshared_nil⟩, kp, rfl, (by assumption)⟩
    · wrow_none_raised
    · wrow_post

