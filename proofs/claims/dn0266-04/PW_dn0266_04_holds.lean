import PyProof.Rows.All
import Wide.All
import OpenK.AllK
import Wide.FinOn
import PySem.Challenge.RW_dn0266_04
set_option Elab.async false
set_option linter.all false
namespace Mine
open PySem PySem.W PySem.Calls PyProof.Rows
set_option maxRecDepth 100000
set_option maxHeartbeats 4000000
def top04 (i : Nat) : Stmt := PySem.Challenge.pw_dn0266_04.main.body.getD i default
def methOf04 : Stmt → Nat → Stmt
  | .ClassDef _ _ _ b _ _ _ _ _ _ _, j => b.getD j default
  | _, _ => default
def meth04 (i j : Nat) : Stmt := methOf04 (top04 i) j
def fnO04 (st : Stmt) (qual : Str) (dV mod cd : Value) : Obj := match st with
  | .FunctionDef n a b _ _ _ sc _ _ _ => { cls := .type "function", data := .func { name := n, qualname := qual, params := a, body := .stmts b, scope := sc, globals := 3, closure := [], defaults := dV, kwdefaults := .none, pyModule := mod, code := cd } }
  | _ => default
noncomputable def w36 : { o : Obj // o = fnO04 (meth04 2 0) (Str.ofString "FileWrapper.__init__") (Value.ref 29) (Value.str (Str.ofString "cpy313.wsgiref.util") 194) (Value.ref 35) } := by
  refine ⟨?o, ?h⟩
  case h =>
    conv => rhs; whnf
noncomputable def w43 : { o : Obj // o = fnO04 (meth04 2 1) (Str.ofString "FileWrapper.__iter__") (Value.none) (Value.str (Str.ofString "cpy313.wsgiref.util") 194) (Value.ref 42) } := by
  refine ⟨?o, ?h⟩
  case h =>
    conv => rhs; whnf
noncomputable def w50 : { o : Obj // o = fnO04 (meth04 2 2) (Str.ofString "FileWrapper.__next__") (Value.none) (Value.str (Str.ofString "cpy313.wsgiref.util") 194) (Value.ref 49) } := by
  refine ⟨?o, ?h⟩
  case h =>
    conv => rhs; whnf
noncomputable def w64 : { o : Obj // o = fnO04 (top04 3) (Str.ofString "guess_scheme") (Value.none) (Value.str (Str.ofString "cpy313.wsgiref.util") 194) (Value.ref 63) } := by
  refine ⟨?o, ?h⟩
  case h =>
    conv => rhs; whnf
noncomputable def w71 : { o : Obj // o = fnO04 (top04 5) (Str.ofString "_whence") (Value.none) (Value.str (Str.ofString "io") 251) (Value.ref 70) } := by
  refine ⟨?o, ?h⟩
  case h =>
    conv => rhs; whnf
noncomputable def w78 : { o : Obj // o = fnO04 (top04 6) (Str.ofString "_index") (Value.none) (Value.str (Str.ofString "io") 251) (Value.ref 77) } := by
  refine ⟨?o, ?h⟩
  case h =>
    conv => rhs; whnf
noncomputable def w105 : { o : Obj // o = fnO04 (meth04 8 1) (Str.ofString "IOBase.__new__") (Value.none) (Value.str (Str.ofString "io") 251) (Value.ref 104) } := by
  refine ⟨?o, ?h⟩
  case h =>
    conv => rhs; whnf
noncomputable def w152 : { o : Obj // o = fnO04 (meth04 11 1) (Str.ofString "BytesIO.__init__") (Value.ref 145) (Value.str (Str.ofString "io") 251) (Value.ref 151) } := by
  refine ⟨?o, ?h⟩
  case h =>
    conv => rhs; whnf
noncomputable def w159 : { o : Obj // o = fnO04 (meth04 11 2) (Str.ofString "BytesIO.__check") (Value.none) (Value.str (Str.ofString "io") 251) (Value.ref 158) } := by
  refine ⟨?o, ?h⟩
  case h =>
    conv => rhs; whnf
noncomputable def w181 : { o : Obj // o = fnO04 (meth04 11 5) (Str.ofString "BytesIO.close") (Value.none) (Value.str (Str.ofString "io") 251) (Value.ref 180) } := by
  refine ⟨?o, ?h⟩
  case h =>
    conv => rhs; whnf
noncomputable def w265 : { o : Obj // o = fnO04 (meth04 11 17) (Str.ofString "BytesIO.tell") (Value.none) (Value.str (Str.ofString "io") 251) (Value.ref 264) } := by
  refine ⟨?o, ?h⟩
  case h =>
    conv => rhs; whnf
noncomputable def w273 : { o : Obj // o = fnO04 (meth04 11 18) (Str.ofString "BytesIO.seek") (Value.ref 266) (Value.str (Str.ofString "io") 251) (Value.ref 272) } := by
  refine ⟨?o, ?h⟩
  case h =>
    conv => rhs; whnf
noncomputable def w289 : { o : Obj // o = fnO04 (meth04 11 20) (Str.ofString "BytesIO.read") (Value.ref 282) (Value.str (Str.ofString "io") 251) (Value.ref 288) } := by
  refine ⟨?o, ?h⟩
  case h =>
    conv => rhs; whnf
noncomputable def w348 : { o : Obj // o = fnO04 (meth04 11 28) (Str.ofString "BytesIO.write") (Value.none) (Value.str (Str.ofString "io") 251) (Value.ref 347) } := by
  refine ⟨?o, ?h⟩
  case h =>
    conv => rhs; whnf
noncomputable def w382 : { o : Obj // o = fnO04 (meth04 12 1) (Str.ofString "StringIO.__init__") (Value.ref 375) (Value.str (Str.ofString "io") 251) (Value.ref 381) } := by
  refine ⟨?o, ?h⟩
  case h =>
    conv => rhs; whnf
noncomputable def w389 : { o : Obj // o = fnO04 (meth04 12 2) (Str.ofString "StringIO.__translated") (Value.none) (Value.str (Str.ofString "io") 251) (Value.ref 388) } := by
  refine ⟨?o, ?h⟩
  case h =>
    conv => rhs; whnf
noncomputable def w621 : { o : Obj // o = fnO04 (top04 14) (Str.ofString "setup_testing_defaults") (Value.none) (Value.str (Str.ofString "cpy313.wsgiref.util") 908) (Value.ref 620) } := by
  refine ⟨?o, ?h⟩
  case h =>
    conv => rhs; whnf
noncomputable def w626 : { o : Obj // o = fnO04 (top04 16) (Str.ofString "law") (Value.none) (Value.str (Str.ofString "law_dn0266_04") 917) (Value.ref 625) } := by
  refine ⟨?o, ?h⟩
  case h =>
    conv => rhs; whnf
noncomputable def hd.heap_39 : Params → Frag := fun P =>
  (nat_lit 2, { cls := Value.none, data := Data.dict #[{ hash := PyData.keyHash P (Str.ofString "type.__subclasses__.OSError.0"), key := Value.str (Str.ofString "type.__subclasses__.OSError.0") 287, val := Value.int 88 0 }, { hash := PyData.keyHash P (Str.ofString "type.__subclasses__.OSError.n"), key := Value.str (Str.ofString "type.__subclasses__.OSError.n") 288, val := Value.int 1 0 }] 2 }) ::
  (nat_lit 3, { cls := Value.type "dict", data := Data.dict #[{ hash := PyData.keyHash P (Str.ofString "__name__"), key := Value.str (Str.ofString "__name__") 165, val := Value.str (Str.ofString "law_dn0266_04") 917 }, { hash := PyData.keyHash P (Str.ofString "__doc__"), key := Value.str (Str.ofString "__doc__") 166, val := Value.none }, { hash := PyData.keyHash P (Str.ofString "__package__"), key := Value.str (Str.ofString "__package__") 167, val := Value.none }, { hash := PyData.keyHash P (Str.ofString "__loader__"), key := Value.str (Str.ofString "__loader__") 168, val := Value.builtin "__main__.__loader__#opaque" }, { hash := PyData.keyHash P (Str.ofString "__spec__"), key := Value.str (Str.ofString "__spec__") 169, val := Value.none }, { hash := PyData.keyHash P (Str.ofString "__annotations__"), key := Value.str (Str.ofString "__annotations__") 170, val := Value.ref 6 }, { hash := PyData.keyHash P (Str.ofString "__builtins__"), key := Value.str (Str.ofString "__builtins__") 171, val := Value.ref 4 }, { hash := PyData.keyHash P (Str.ofString "__file__"), key := Value.str (Str.ofString "__file__") 173, val := Value.str (Str.ofString "/claim/cut.py") 172 }, { hash := PyData.keyHash P (Str.ofString "__cached__"), key := Value.str (Str.ofString "__cached__") 174, val := Value.none }, { hash := PyData.keyHash P (Str.ofString "_wall"), key := Value.str (Str.ofString "_wall") 193, val := Value.ref 21 }, { hash := PyData.keyHash P (Str.ofString "FileWrapper"), key := Value.str (Str.ofString "FileWrapper") 243, val := Value.ref 53 }, { hash := PyData.keyHash P (Str.ofString "guess_scheme"), key := Value.str (Str.ofString "guess_scheme") 250, val := Value.ref 64 }, { hash := PyData.keyHash P (Str.ofString "_whence"), key := Value.str (Str.ofString "_whence") 260, val := Value.ref 71 }, { hash := PyData.keyHash P (Str.ofString "_index"), key := Value.str (Str.ofString "_index") 268, val := Value.ref 78 }, { hash := PyData.keyHash P (Str.ofString "UnsupportedOperation"), key := Value.str (Str.ofString "UnsupportedOperation") 290, val := Value.ref 88 }, { hash := PyData.keyHash P (Str.ofString "IOBase"), key := Value.str (Str.ofString "IOBase") 322, val := Value.ref 108 }, { hash := PyData.keyHash P (Str.ofString "BufferedIOBase"), key := Value.str (Str.ofString "BufferedIOBase") 340, val := Value.ref 123 }, { hash := PyData.keyHash P (Str.ofString "TextIOBase"), key := Value.str (Str.ofString "TextIOBase") 358, val := Value.ref 135 }, { hash := PyData.keyHash P (Str.ofString "BytesIO"), key := Value.str (Str.ofString "BytesIO") 620, val := Value.ref 365 }, { hash := PyData.keyHash P (Str.ofString "StringIO"), key := Value.str (Str.ofString "StringIO") 907, val := Value.ref 612 }, { hash := PyData.keyHash P (Str.ofString "setup_testing_defaults"), key := Value.str (Str.ofString "setup_testing_defaults") 916, val := Value.ref 621 }, { hash := PyData.keyHash P (Str.ofString "law"), key := Value.str (Str.ofString "law") 924, val := Value.ref 626 }] 22 }) ::
  (nat_lit 29, { cls := Value.type "tuple", data := Data.seq #[Value.int 8192 208] }) ::
  (nat_lit 35, { cls := Value.type "code", data := Data.fields #[Value.str (Str.ofString "__init__") 209, Value.str (Str.ofString "FileWrapper.__init__") 210, Value.str (Str.ofString "/claim/cut.py") 211, Value.int 7 0, Value.int 3 0, Value.int 0 0, Value.int 0 0, Value.int 3 0, Value.ref 30, Value.bool true, Value.int 181 0, Value.ref 31, Value.none, Value.ref 32, Value.ref 33, Value.ref 34, Value.int 215 0, Value.int 7 0, Value.str (Str.ofString "/claim/cut.py") 216] }) ::
  (nat_lit 36, w36.1) ::
  (nat_lit 42, { cls := Value.type "code", data := Data.fields #[Value.str (Str.ofString "__iter__") 218, Value.str (Str.ofString "FileWrapper.__iter__") 219, Value.str (Str.ofString "/claim/cut.py") 220, Value.int 13 0, Value.int 1 0, Value.int 0 0, Value.int 0 0, Value.int 3 0, Value.ref 37, Value.bool true, Value.int 181 0, Value.ref 38, Value.none, Value.ref 39, Value.ref 40, Value.ref 41, Value.int 222 0, Value.int 13 0, Value.str (Str.ofString "/claim/cut.py") 223] }) ::
  (nat_lit 43, w43.1) ::
  (nat_lit 49, { cls := Value.type "code", data := Data.fields #[Value.str (Str.ofString "__next__") 225, Value.str (Str.ofString "FileWrapper.__next__") 226, Value.str (Str.ofString "/claim/cut.py") 227, Value.int 16 0, Value.int 1 0, Value.int 0 0, Value.int 0 0, Value.int 3 0, Value.ref 44, Value.bool true, Value.int 181 0, Value.ref 45, Value.none, Value.ref 46, Value.ref 47, Value.ref 48, Value.int 230 0, Value.int 16 0, Value.str (Str.ofString "/claim/cut.py") 231] }) ::
  (nat_lit 50, w50.1) ::
  (nat_lit 52, { cls := Value.type "dict", data := Data.dict #[{ hash := PyData.keyHash P (Str.ofString "__module__"), key := Value.str (Str.ofString "__module__") 203, val := Value.str (Str.ofString "cpy313.wsgiref.util") 194 }, { hash := PyData.keyHash P (Str.ofString "__firstlineno__"), key := Value.str (Str.ofString "__firstlineno__") 207, val := Value.int 5 206 }, { hash := PyData.keyHash P (Str.ofString "__init__"), key := Value.str (Str.ofString "__init__") 217, val := Value.ref 36 }, { hash := PyData.keyHash P (Str.ofString "__iter__"), key := Value.str (Str.ofString "__iter__") 224, val := Value.ref 43 }, { hash := PyData.keyHash P (Str.ofString "__next__"), key := Value.str (Str.ofString "__next__") 232, val := Value.ref 50 }, { hash := PyData.keyHash P (Str.ofString "__static_attributes__"), key := Value.str (Str.ofString "__static_attributes__") 236, val := Value.ref 51 }, { hash := PyData.keyHash P (Str.ofString "__dict__"), key := Value.str (Str.ofString "__dict__") 238, val := Value.ref 54 }, { hash := PyData.keyHash P (Str.ofString "__weakref__"), key := Value.str (Str.ofString "__weakref__") 240, val := Value.ref 55 }, { hash := PyData.keyHash P (Str.ofString "__doc__"), key := Value.str (Str.ofString "__doc__") 241, val := Value.none }] 4 }) ::
  (nat_lit 53, { cls := Value.type "type", data := Data.cls { name := Str.ofString "FileWrapper", bases := [Value.type "object"], mro := [Value.ref 53, Value.type "object"], ns := 52, qualname := Str.ofString "FileWrapper" }, slots := #[none, none, some (Value.str (Str.ofString "FileWrapper") 196), some (Value.str (Str.ofString "FileWrapper") 204), some (Value.builtin "object.__new__"), some (Value.bool true)] }) ::
  (nat_lit 63, { cls := Value.type "code", data := Data.fields #[Value.str (Str.ofString "guess_scheme") 244, Value.str (Str.ofString "guess_scheme") 245, Value.str (Str.ofString "/claim/cut.py") 246, Value.int 21 0, Value.int 1 0, Value.int 0 0, Value.int 0 0, Value.int 3 0, Value.ref 58, Value.bool true, Value.int 181 0, Value.ref 59, Value.none, Value.ref 60, Value.ref 61, Value.ref 62, Value.int 248 0, Value.int 21 0, Value.str (Str.ofString "/claim/cut.py") 249] }) ::
  (nat_lit 64, w64.1) ::
  (nat_lit 70, { cls := Value.type "code", data := Data.fields #[Value.str (Str.ofString "_whence") 253, Value.str (Str.ofString "_whence") 254, Value.str (Str.ofString "/claim/cut.py") 255, Value.int 27 0, Value.int 2 0, Value.int 0 0, Value.int 0 0, Value.int 3 0, Value.ref 65, Value.bool true, Value.int 181 0, Value.ref 66, Value.none, Value.ref 67, Value.ref 68, Value.ref 69, Value.int 258 0, Value.int 27 0, Value.str (Str.ofString "/claim/cut.py") 259] }) ::
  (nat_lit 71, w71.1) ::
  (nat_lit 77, { cls := Value.type "code", data := Data.fields #[Value.str (Str.ofString "_index") 261, Value.str (Str.ofString "_index") 262, Value.str (Str.ofString "/claim/cut.py") 263, Value.int 32 0, Value.int 2 0, Value.int 0 0, Value.int 0 0, Value.int 3 0, Value.ref 72, Value.bool true, Value.int 181 0, Value.ref 73, Value.none, Value.ref 74, Value.ref 75, Value.ref 76, Value.int 266 0, Value.int 32 0, Value.str (Str.ofString "/claim/cut.py") 267] }) ::
  (nat_lit 78, w78.1) ::
  (nat_lit 87, { cls := Value.type "dict", data := Data.dict #[{ hash := PyData.keyHash P (Str.ofString "__module__"), key := Value.str (Str.ofString "__module__") 276, val := Value.str (Str.ofString "io") 281 }, { hash := PyData.keyHash P (Str.ofString "__firstlineno__"), key := Value.str (Str.ofString "__firstlineno__") 280, val := Value.int 39 279 }, { hash := PyData.keyHash P (Str.ofString "__static_attributes__"), key := Value.str (Str.ofString "__static_attributes__") 283, val := Value.ref 86 }, { hash := PyData.keyHash P (Str.ofString "__weakref__"), key := Value.str (Str.ofString "__weakref__") 285, val := Value.ref 89 }, { hash := PyData.keyHash P (Str.ofString "__doc__"), key := Value.str (Str.ofString "__doc__") 286, val := Value.none }] 3 }) ::
  (nat_lit 88, { cls := Value.type "type", data := Data.cls { name := Str.ofString "UnsupportedOperation", bases := [Value.type "OSError", Value.type "ValueError"], mro := [Value.ref 88, Value.type "OSError", Value.type "ValueError", Value.type "Exception", Value.type "BaseException", Value.type "object"], ns := 87, qualname := Str.ofString "UnsupportedOperation" }, slots := #[some (Value.ref 79), none, some (Value.str (Str.ofString "UnsupportedOperation") 269), some (Value.str (Str.ofString "UnsupportedOperation") 277), some (Value.builtin "OSError.__new__"), some (Value.bool true)] }) ::
  (nat_lit 104, { cls := Value.type "code", data := Data.fields #[Value.str (Str.ofString "__new__") 305, Value.str (Str.ofString "IOBase.__new__") 306, Value.str (Str.ofString "/claim/cut.py") 307, Value.int 44 0, Value.int 1 0, Value.int 1 0, Value.int 0 0, Value.int 15 0, Value.ref 99, Value.bool true, Value.int 181 0, Value.ref 100, Value.none, Value.ref 101, Value.ref 102, Value.ref 103, Value.int 311 0, Value.int 44 0, Value.str (Str.ofString "/claim/cut.py") 312] }) ::
  (nat_lit 105, w105.1) ::
  (nat_lit 107, { cls := Value.type "dict", data := Data.dict #[{ hash := PyData.keyHash P (Str.ofString "__module__"), key := Value.str (Str.ofString "__module__") 298, val := Value.str (Str.ofString "io") 303 }, { hash := PyData.keyHash P (Str.ofString "__firstlineno__"), key := Value.str (Str.ofString "__firstlineno__") 302, val := Value.int 41 301 }, { hash := PyData.keyHash P (Str.ofString "__new__"), key := Value.str (Str.ofString "__new__") 313, val := Value.ref 109 }, { hash := PyData.keyHash P (Str.ofString "__static_attributes__"), key := Value.str (Str.ofString "__static_attributes__") 314, val := Value.ref 106 }, { hash := PyData.keyHash P (Str.ofString "__dict__"), key := Value.str (Str.ofString "__dict__") 317, val := Value.ref 110 }, { hash := PyData.keyHash P (Str.ofString "__weakref__"), key := Value.str (Str.ofString "__weakref__") 319, val := Value.ref 111 }, { hash := PyData.keyHash P (Str.ofString "__doc__"), key := Value.str (Str.ofString "__doc__") 320, val := Value.none }] 4 }) ::
  (nat_lit 108, { cls := Value.type "type", data := Data.cls { name := Str.ofString "IOBase", bases := [Value.type "object"], mro := [Value.ref 108, Value.type "object"], ns := 107, qualname := Str.ofString "IOBase", subclasses := [Value.ref 123, Value.ref 135] }, slots := #[none, none, some (Value.str (Str.ofString "IOBase") 291), some (Value.str (Str.ofString "IOBase") 299), some Value.none, some (Value.bool true)] }) ::
  (nat_lit 109, { cls := Value.type "staticmethod", data := Data.fields #[Value.ref 105] }) ::
  (nat_lit 122, { cls := Value.type "dict", data := Data.dict #[{ hash := PyData.keyHash P (Str.ofString "__module__"), key := Value.str (Str.ofString "__module__") 330, val := Value.str (Str.ofString "io") 335 }, { hash := PyData.keyHash P (Str.ofString "__firstlineno__"), key := Value.str (Str.ofString "__firstlineno__") 334, val := Value.int 48 333 }, { hash := PyData.keyHash P (Str.ofString "__static_attributes__"), key := Value.str (Str.ofString "__static_attributes__") 337, val := Value.ref 121 }, { hash := PyData.keyHash P (Str.ofString "__doc__"), key := Value.str (Str.ofString "__doc__") 338, val := Value.none }] 2 }) ::
  (nat_lit 123, { cls := Value.type "type", data := Data.cls { name := Str.ofString "BufferedIOBase", bases := [Value.ref 108], mro := [Value.ref 123, Value.ref 108, Value.type "object"], ns := 122, qualname := Str.ofString "BufferedIOBase", subclasses := [Value.ref 365] }, slots := #[some (Value.ref 114), none, some (Value.str (Str.ofString "BufferedIOBase") 323), some (Value.str (Str.ofString "BufferedIOBase") 331), some Value.none, some (Value.bool true)] }) ::
  (nat_lit 134, { cls := Value.type "dict", data := Data.dict #[{ hash := PyData.keyHash P (Str.ofString "__module__"), key := Value.str (Str.ofString "__module__") 348, val := Value.str (Str.ofString "io") 353 }, { hash := PyData.keyHash P (Str.ofString "__firstlineno__"), key := Value.str (Str.ofString "__firstlineno__") 352, val := Value.int 50 351 }, { hash := PyData.keyHash P (Str.ofString "__static_attributes__"), key := Value.str (Str.ofString "__static_attributes__") 355, val := Value.ref 133 }, { hash := PyData.keyHash P (Str.ofString "__doc__"), key := Value.str (Str.ofString "__doc__") 356, val := Value.none }] 2 }) ::
  (nat_lit 135, { cls := Value.type "type", data := Data.cls { name := Str.ofString "TextIOBase", bases := [Value.ref 108], mro := [Value.ref 135, Value.ref 108, Value.type "object"], ns := 134, qualname := Str.ofString "TextIOBase", subclasses := [Value.ref 612] }, slots := #[some (Value.ref 126), none, some (Value.str (Str.ofString "TextIOBase") 341), some (Value.str (Str.ofString "TextIOBase") 349), some Value.none, some (Value.bool true)] }) ::
  (nat_lit 145, { cls := Value.type "tuple", data := Data.seq #[Value.none] }) ::
  (nat_lit 151, { cls := Value.type "code", data := Data.fields #[Value.str (Str.ofString "__init__") 373, Value.str (Str.ofString "BytesIO.__init__") 374, Value.str (Str.ofString "/claim/cut.py") 375, Value.int 55 0, Value.int 2 0, Value.int 0 0, Value.int 0 0, Value.int 3 0, Value.ref 146, Value.bool true, Value.int 181 0, Value.ref 147, Value.none, Value.ref 148, Value.ref 149, Value.ref 150, Value.int 378 0, Value.int 55 0, Value.str (Str.ofString "/claim/cut.py") 379] }) ::
  (nat_lit 152, w152.1) ::
  (nat_lit 158, { cls := Value.type "code", data := Data.fields #[Value.str (Str.ofString "__check") 381, Value.str (Str.ofString "BytesIO.__check") 382, Value.str (Str.ofString "/claim/cut.py") 383, Value.int 61 0, Value.int 1 0, Value.int 0 0, Value.int 0 0, Value.int 3 0, Value.ref 153, Value.bool true, Value.int 181 0, Value.ref 154, Value.none, Value.ref 155, Value.ref 156, Value.ref 157, Value.int 385 0, Value.int 61 0, Value.str (Str.ofString "/claim/cut.py") 386] }) ::
  (nat_lit 159, w159.1) ::
  (nat_lit 180, { cls := Value.type "code", data := Data.fields #[Value.str (Str.ofString "close") 407, Value.str (Str.ofString "BytesIO.close") 408, Value.str (Str.ofString "/claim/cut.py") 409, Value.int 82 0, Value.int 1 0, Value.int 0 0, Value.int 0 0, Value.int 3 0, Value.ref 175, Value.bool true, Value.int 181 0, Value.ref 176, Value.none, Value.ref 177, Value.ref 178, Value.ref 179, Value.int 411 0, Value.int 82 0, Value.str (Str.ofString "/claim/cut.py") 412] }) ::
  (nat_lit 181, w181.1) ::
  (nat_lit 264, { cls := Value.type "code", data := Data.fields #[Value.str (Str.ofString "tell") 492, Value.str (Str.ofString "BytesIO.tell") 493, Value.str (Str.ofString "/claim/cut.py") 494, Value.int 123 0, Value.int 1 0, Value.int 0 0, Value.int 0 0, Value.int 3 0, Value.ref 259, Value.bool true, Value.int 181 0, Value.ref 260, Value.none, Value.ref 261, Value.ref 262, Value.ref 263, Value.int 496 0, Value.int 123 0, Value.str (Str.ofString "/claim/cut.py") 497] }) ::
  (nat_lit 265, w265.1) ::
  (nat_lit 266, { cls := Value.type "tuple", data := Data.seq #[Value.int 0 499] }) ::
  (nat_lit 272, { cls := Value.type "code", data := Data.fields #[Value.str (Str.ofString "seek") 500, Value.str (Str.ofString "BytesIO.seek") 501, Value.str (Str.ofString "/claim/cut.py") 502, Value.int 127 0, Value.int 3 0, Value.int 3 0, Value.int 0 0, Value.int 3 0, Value.ref 267, Value.bool true, Value.int 181 0, Value.ref 268, Value.none, Value.ref 269, Value.ref 270, Value.ref 271, Value.int 506 0, Value.int 127 0, Value.str (Str.ofString "/claim/cut.py") 507] }) ::
  (nat_lit 273, w273.1) ::
  (nat_lit 282, { cls := Value.type "tuple", data := Data.seq #[Value.int (-1) 518] }) ::
  (nat_lit 288, { cls := Value.type "code", data := Data.fields #[Value.str (Str.ofString "read") 519, Value.str (Str.ofString "BytesIO.read") 520, Value.str (Str.ofString "/claim/cut.py") 521, Value.int 147 0, Value.int 2 0, Value.int 2 0, Value.int 0 0, Value.int 3 0, Value.ref 283, Value.bool true, Value.int 181 0, Value.ref 284, Value.none, Value.ref 285, Value.ref 286, Value.ref 287, Value.int 526 0, Value.int 147 0, Value.str (Str.ofString "/claim/cut.py") 527] }) ::
  (nat_lit 289, w289.1) ::
  (nat_lit 347, { cls := Value.type "code", data := Data.fields #[Value.str (Str.ofString "write") 590, Value.str (Str.ofString "BytesIO.write") 591, Value.str (Str.ofString "/claim/cut.py") 592, Value.int 201 0, Value.int 2 0, Value.int 2 0, Value.int 0 0, Value.int 3 0, Value.ref 342, Value.bool true, Value.int 181 0, Value.ref 343, Value.none, Value.ref 344, Value.ref 345, Value.ref 346, Value.int 597 0, Value.int 201 0, Value.str (Str.ofString "/claim/cut.py") 598] }) ::
  (nat_lit 348, w348.1) ::
  (nat_lit 364, { cls := Value.type "dict", data := Data.dict #[{ hash := PyData.keyHash P (Str.ofString "__module__"), key := Value.str (Str.ofString "__module__") 366, val := Value.str (Str.ofString "_io") 371 }, { hash := PyData.keyHash P (Str.ofString "__firstlineno__"), key := Value.str (Str.ofString "__firstlineno__") 370, val := Value.int 52 369 }, { hash := PyData.keyHash P (Str.ofString "__init__"), key := Value.str (Str.ofString "__init__") 380, val := Value.ref 152 }, { hash := PyData.keyHash P (Str.ofString "_BytesIO__check"), key := Value.str (Str.ofString "_BytesIO__check") 387, val := Value.ref 159 }, { hash := PyData.keyHash P (Str.ofString "_BytesIO__line"), key := Value.str (Str.ofString "_BytesIO__line") 398, val := Value.ref 166 }, { hash := PyData.keyHash P (Str.ofString "closed"), key := Value.str (Str.ofString "closed") 406, val := Value.ref 174 }, { hash := PyData.keyHash P (Str.ofString "close"), key := Value.str (Str.ofString "close") 413, val := Value.ref 181 }, { hash := PyData.keyHash P (Str.ofString "__enter__"), key := Value.str (Str.ofString "__enter__") 420, val := Value.ref 188 }, { hash := PyData.keyHash P (Str.ofString "__exit__"), key := Value.str (Str.ofString "__exit__") 428, val := Value.ref 195 }, { hash := PyData.keyHash P (Str.ofString "readable"), key := Value.str (Str.ofString "readable") 435, val := Value.ref 202 }, { hash := PyData.keyHash P (Str.ofString "writable"), key := Value.str (Str.ofString "writable") 442, val := Value.ref 209 }, { hash := PyData.keyHash P (Str.ofString "seekable"), key := Value.str (Str.ofString "seekable") 449, val := Value.ref 216 }, { hash := PyData.keyHash P (Str.ofString "isatty"), key := Value.str (Str.ofString "isatty") 456, val := Value.ref 223 }, { hash := PyData.keyHash P (Str.ofString "flush"), key := Value.str (Str.ofString "flush") 463, val := Value.ref 230 }, { hash := PyData.keyHash P (Str.ofString "fileno"), key := Value.str (Str.ofString "fileno") 470, val := Value.ref 237 }, { hash := PyData.keyHash P (Str.ofString "detach"), key := Value.str (Str.ofString "detach") 477, val := Value.ref 244 }, { hash := PyData.keyHash P (Str.ofString "getvalue"), key := Value.str (Str.ofString "getvalue") 484, val := Value.ref 251 }, { hash := PyData.keyHash P (Str.ofString "getbuffer"), key := Value.str (Str.ofString "getbuffer") 491, val := Value.ref 258 }, { hash := PyData.keyHash P (Str.ofString "tell"), key := Value.str (Str.ofString "tell") 498, val := Value.ref 265 }, { hash := PyData.keyHash P (Str.ofString "seek"), key := Value.str (Str.ofString "seek") 508, val := Value.ref 273 }, { hash := PyData.keyHash P (Str.ofString "truncate"), key := Value.str (Str.ofString "truncate") 516, val := Value.ref 281 }, { hash := PyData.keyHash P (Str.ofString "read"), key := Value.str (Str.ofString "read") 528, val := Value.ref 289 }, { hash := PyData.keyHash P (Str.ofString "read1"), key := Value.str (Str.ofString "read1") 538, val := Value.ref 297 }, { hash := PyData.keyHash P (Str.ofString "readinto"), key := Value.str (Str.ofString "readinto") 548, val := Value.ref 304 }, { hash := PyData.keyHash P (Str.ofString "readinto1"), key := Value.str (Str.ofString "readinto1") 556, val := Value.ref 311 }, { hash := PyData.keyHash P (Str.ofString "readline"), key := Value.str (Str.ofString "readline") 566, val := Value.ref 319 }, { hash := PyData.keyHash P (Str.ofString "readlines"), key := Value.str (Str.ofString "readlines") 574, val := Value.ref 327 }, { hash := PyData.keyHash P (Str.ofString "__iter__"), key := Value.str (Str.ofString "__iter__") 581, val := Value.ref 334 }, { hash := PyData.keyHash P (Str.ofString "__next__"), key := Value.str (Str.ofString "__next__") 589, val := Value.ref 341 }, { hash := PyData.keyHash P (Str.ofString "write"), key := Value.str (Str.ofString "write") 599, val := Value.ref 348 }, { hash := PyData.keyHash P (Str.ofString "writelines"), key := Value.str (Str.ofString "writelines") 607, val := Value.ref 355 }, { hash := PyData.keyHash P (Str.ofString "__repr__"), key := Value.str (Str.ofString "__repr__") 614, val := Value.ref 362 }, { hash := PyData.keyHash P (Str.ofString "__static_attributes__"), key := Value.str (Str.ofString "__static_attributes__") 617, val := Value.ref 363 }, { hash := PyData.keyHash P (Str.ofString "__doc__"), key := Value.str (Str.ofString "__doc__") 618, val := Value.none }] 2 }) ::
  (nat_lit 365, { cls := Value.type "type", data := Data.cls { name := Str.ofString "BytesIO", bases := [Value.ref 123], mro := [Value.ref 365, Value.ref 123, Value.ref 108, Value.type "object"], ns := 364, qualname := Str.ofString "BytesIO" }, slots := #[some (Value.ref 138), none, some (Value.str (Str.ofString "BytesIO") 359), some (Value.str (Str.ofString "BytesIO") 367), some Value.none, some (Value.bool true)] }) ::
  (nat_lit 375, { cls := Value.type "tuple", data := Data.seq #[Value.str (Str.ofString "") 635, Value.str (Str.ofString "\n") 636] }) ::
  (nat_lit 381, { cls := Value.type "code", data := Data.fields #[Value.str (Str.ofString "__init__") 637, Value.str (Str.ofString "StringIO.__init__") 638, Value.str (Str.ofString "/claim/cut.py") 639, Value.int 225 0, Value.int 3 0, Value.int 0 0, Value.int 0 0, Value.int 3 0, Value.ref 376, Value.bool true, Value.int 181 0, Value.ref 377, Value.none, Value.ref 378, Value.ref 379, Value.ref 380, Value.int 643 0, Value.int 225 0, Value.str (Str.ofString "/claim/cut.py") 644] }) ::
  (nat_lit 382, w382.1) ::
  (nat_lit 388, { cls := Value.type "code", data := Data.fields #[Value.str (Str.ofString "__translated") 646, Value.str (Str.ofString "StringIO.__translated") 647, Value.str (Str.ofString "/claim/cut.py") 648, Value.int 238 0, Value.int 2 0, Value.int 0 0, Value.int 0 0, Value.int 3 0, Value.ref 383, Value.bool true, Value.int 181 0, Value.ref 384, Value.none, Value.ref 385, Value.ref 386, Value.ref 387, Value.int 652 0, Value.int 238 0, Value.str (Str.ofString "/claim/cut.py") 653] }) ::
  (nat_lit 389, w389.1) ::
  (nat_lit 611, { cls := Value.type "dict", data := Data.dict #[{ hash := PyData.keyHash P (Str.ofString "__module__"), key := Value.str (Str.ofString "__module__") 628, val := Value.str (Str.ofString "_io") 633 }, { hash := PyData.keyHash P (Str.ofString "__firstlineno__"), key := Value.str (Str.ofString "__firstlineno__") 632, val := Value.int 222 631 }, { hash := PyData.keyHash P (Str.ofString "__init__"), key := Value.str (Str.ofString "__init__") 645, val := Value.ref 382 }, { hash := PyData.keyHash P (Str.ofString "_StringIO__translated"), key := Value.str (Str.ofString "_StringIO__translated") 654, val := Value.ref 389 }, { hash := PyData.keyHash P (Str.ofString "_StringIO__check"), key := Value.str (Str.ofString "_StringIO__check") 661, val := Value.ref 396 }, { hash := PyData.keyHash P (Str.ofString "_StringIO__check_dot"), key := Value.str (Str.ofString "_StringIO__check_dot") 668, val := Value.ref 403 }, { hash := PyData.keyHash P (Str.ofString "_StringIO__line"), key := Value.str (Str.ofString "_StringIO__line") 683, val := Value.ref 410 }, { hash := PyData.keyHash P (Str.ofString "closed"), key := Value.str (Str.ofString "closed") 691, val := Value.ref 418 }, { hash := PyData.keyHash P (Str.ofString "line_buffering"), key := Value.str (Str.ofString "line_buffering") 699, val := Value.ref 426 }, { hash := PyData.keyHash P (Str.ofString "newlines"), key := Value.str (Str.ofString "newlines") 707, val := Value.ref 434 }, { hash := PyData.keyHash P (Str.ofString "encoding"), key := Value.str (Str.ofString "encoding") 715, val := Value.ref 442 }, { hash := PyData.keyHash P (Str.ofString "errors"), key := Value.str (Str.ofString "errors") 723, val := Value.ref 450 }, { hash := PyData.keyHash P (Str.ofString "close"), key := Value.str (Str.ofString "close") 730, val := Value.ref 457 }, { hash := PyData.keyHash P (Str.ofString "__enter__"), key := Value.str (Str.ofString "__enter__") 737, val := Value.ref 464 }, { hash := PyData.keyHash P (Str.ofString "__exit__"), key := Value.str (Str.ofString "__exit__") 745, val := Value.ref 471 }, { hash := PyData.keyHash P (Str.ofString "readable"), key := Value.str (Str.ofString "readable") 752, val := Value.ref 478 }, { hash := PyData.keyHash P (Str.ofString "writable"), key := Value.str (Str.ofString "writable") 759, val := Value.ref 485 }, { hash := PyData.keyHash P (Str.ofString "seekable"), key := Value.str (Str.ofString "seekable") 766, val := Value.ref 492 }, { hash := PyData.keyHash P (Str.ofString "isatty"), key := Value.str (Str.ofString "isatty") 773, val := Value.ref 499 }, { hash := PyData.keyHash P (Str.ofString "flush"), key := Value.str (Str.ofString "flush") 780, val := Value.ref 506 }, { hash := PyData.keyHash P (Str.ofString "fileno"), key := Value.str (Str.ofString "fileno") 787, val := Value.ref 513 }, { hash := PyData.keyHash P (Str.ofString "detach"), key := Value.str (Str.ofString "detach") 794, val := Value.ref 520 }, { hash := PyData.keyHash P (Str.ofString "getvalue"), key := Value.str (Str.ofString "getvalue") 801, val := Value.ref 527 }, { hash := PyData.keyHash P (Str.ofString "tell"), key := Value.str (Str.ofString "tell") 808, val := Value.ref 534 }, { hash := PyData.keyHash P (Str.ofString "seek"), key := Value.str (Str.ofString "seek") 818, val := Value.ref 542 }, { hash := PyData.keyHash P (Str.ofString "truncate"), key := Value.str (Str.ofString "truncate") 826, val := Value.ref 550 }, { hash := PyData.keyHash P (Str.ofString "read"), key := Value.str (Str.ofString "read") 838, val := Value.ref 558 }, { hash := PyData.keyHash P (Str.ofString "readline"), key := Value.str (Str.ofString "readline") 848, val := Value.ref 566 }, { hash := PyData.keyHash P (Str.ofString "readlines"), key := Value.str (Str.ofString "readlines") 858, val := Value.ref 574 }, { hash := PyData.keyHash P (Str.ofString "__iter__"), key := Value.str (Str.ofString "__iter__") 865, val := Value.ref 581 }, { hash := PyData.keyHash P (Str.ofString "__next__"), key := Value.str (Str.ofString "__next__") 873, val := Value.ref 588 }, { hash := PyData.keyHash P (Str.ofString "write"), key := Value.str (Str.ofString "write") 885, val := Value.ref 595 }, { hash := PyData.keyHash P (Str.ofString "writelines"), key := Value.str (Str.ofString "writelines") 893, val := Value.ref 602 }, { hash := PyData.keyHash P (Str.ofString "__repr__"), key := Value.str (Str.ofString "__repr__") 900, val := Value.ref 609 }, { hash := PyData.keyHash P (Str.ofString "__static_attributes__"), key := Value.str (Str.ofString "__static_attributes__") 904, val := Value.ref 610 }, { hash := PyData.keyHash P (Str.ofString "__doc__"), key := Value.str (Str.ofString "__doc__") 905, val := Value.none }] 2 }) ::
  (nat_lit 612, { cls := Value.type "type", data := Data.cls { name := Str.ofString "StringIO", bases := [Value.ref 135], mro := [Value.ref 612, Value.ref 135, Value.ref 108, Value.type "object"], ns := 611, qualname := Str.ofString "StringIO" }, slots := #[some (Value.ref 368), none, some (Value.str (Str.ofString "StringIO") 621), some (Value.str (Str.ofString "StringIO") 629), some Value.none, some (Value.bool true)] }) ::
  (nat_lit 620, { cls := Value.type "code", data := Data.fields #[Value.str (Str.ofString "setup_testing_defaults") 910, Value.str (Str.ofString "setup_testing_defaults") 911, Value.str (Str.ofString "/claim/cut.py") 912, Value.int 428 0, Value.int 1 0, Value.int 0 0, Value.int 0 0, Value.int 3 0, Value.ref 615, Value.bool true, Value.int 181 0, Value.ref 616, Value.none, Value.ref 617, Value.ref 618, Value.ref 619, Value.int 914 0, Value.int 428 0, Value.str (Str.ofString "/claim/cut.py") 915] }) ::
  (nat_lit 621, w621.1) ::
  (nat_lit 625, { cls := Value.type "code", data := Data.fields #[Value.str (Str.ofString "law") 919, Value.str (Str.ofString "law") 920, Value.str (Str.ofString "/claim/cut.py") 921, Value.int 449 0, Value.int 1 0, Value.int 0 0, Value.int 0 0, Value.int 3 0, Value.ref 622, Value.bool true, Value.int 181 0, Value.ref 623, Value.none, Value.none, Value.none, Value.ref 624, Value.int 922 0, Value.int 449 0, Value.str (Str.ofString "/claim/cut.py") 923] }) ::
  (nat_lit 626, w626.1) :: []
def adrs04 : List Addr := [2, 3, 29, 35, 36, 42, 43, 49, 50, 52, 53, 63, 64, 70, 71, 77, 78, 87, 88, 104, 105, 107, 108, 109, 122, 123, 134, 135, 145, 151, 152, 158, 159, 180, 181, 264, 265, 266, 272, 273, 282, 288, 289, 347, 348, 364, 365, 375, 381, 382, 388, 389, 611, 612, 620, 621, 625, 626]
theorem adrs04_ok (P : Params) : adrs04 = (Mine.hd.heap_39 P).map (·.1) := by kernel_rfl
noncomputable def hd.view_39 : Program := PySem.W.view PySem.Challenge.rw_dn0266_04.row.toRowW.1 [0, 2, 3, 5, 6, 7, 8, 9, 10, 11, 12, 14, 16]
end Mine
namespace Mine
open PySem PySem.W PySem.Calls PyProof.Rows
set_option maxRecDepth 100000
set_option maxHeartbeats 4000000
abbrev loose04 : List Str := [Str.ofString "UnsupportedOperation", Str.ofString "IOBase", Str.ofString "BufferedIOBase", Str.ofString "TextIOBase", Str.ofString "BytesIO", Str.ofString "StringIO"]
abbrev prog04 : Program := PySem.Challenge.rw_dn0266_04.row.toRowW.1
noncomputable abbrev hook04 : Hook := kHook Mine.hd.heap_39 adrs04 adrs04_ok
def env04 : Env := { scope := prog04.main.scope, locals := mainNs, globals := mainNs, cells := [], code := Value.ref 13, frame := some 14 }
def b11 : Obj := { cls := Value.type "tuple", data := Data.seq #[] }
def b12 : Obj := { cls := Value.none, data := Data.fields #[] }
def b13 : Obj := { cls := Value.type "code", data := Data.fields #[Value.str (Str.ofString "<module>") 182, Value.str (Str.ofString "<module>") 183,
          Value.str (Str.ofString "/claim/cut.py") 184, Value.int 1 0, Value.int 0 0, Value.int 0 0, Value.int 0 0,
          Value.int 0 0, Value.ref 11, Value.bool false, Value.int 181 0, Value.ref 12, Value.none, Value.none,
          Value.none, Value.none, Value.int 185 0, Value.int 1 0, Value.str (Str.ofString "/claim/cut.py") 186] }
def b14 : Obj := { cls := Value.type "frame", slots := #[some (Value.ref 13), some (Value.ref 3), some (Value.ref 3), none, some (Value.str (Str.ofString "__main__") 164), none, some (Value.ref 0)] }
noncomputable def tree04 (P : Params) : BT :=
  BT.node (boot_o_0 P)
    (BT.node (boot_o_1 P)
      (BT.node (boot_o_3 P) (BT.node (boot_o_7 P) BT.nil BT.nil) (BT.node b11 BT.nil BT.nil))
      (BT.node (boot_o_5 P) (BT.node (boot_o_9 P) BT.nil BT.nil) (BT.node b13 BT.nil BT.nil)))
    (BT.node (boot_o_2 P)
      (BT.node (boot_o_4 P) (BT.node (boot_o_8 P) BT.nil BT.nil) (BT.node b12 BT.nil BT.nil))
      (BT.node (boot_o_6 P) (BT.node (boot_o_10 P) BT.nil BT.nil) (BT.node b14 BT.nil BT.nil)))
noncomputable def heap04 (P : Params) : Heap := { objs := { toList := [boot_o_0 P, boot_o_1 P, boot_o_2 P, boot_o_3 P, boot_o_4 P, boot_o_5 P, boot_o_6 P, boot_o_7 P, boot_o_8 P, boot_o_9 P, boot_o_10 P, b11, b12, b13, b14] } }
abbrev code04 : Code := Code.body (behindTheImports prog04) env04
abbrev ann04 : Option Value := some (Value.ref 6)
noncomputable abbrev st04 (P : Params) (os : OsState) : SharedT := ⟨tree04 P, 15, {}, ⟨[]⟩, {}, 187, os⟩
noncomputable abbrev looks04 (P : Params) (s : Shared) := 
  (staticsOk (importedModules prog04.main.body) (boot_heap P) s.heap && namesBound prog04 s.heap && gensDone s && laidKept (boot_heap P) s.heap,
   openSeen Mine.hd.view_39 loose04 (importedModules prog04.main.body) (fun s => xlAt Mine.hd.view_39 [] s && recOk (RowW.records PySem.Challenge.rw_dn0266_04.row.toRowW) s) true s,
   adrs04.map s.heap.get?)
end Mine
namespace Mine
open PySem PySem.W PySem.Calls PyProof.Rows
set_option maxRecDepth 100000
set_option maxHeartbeats 4000000
theorem shot04 (w : World) (os : OsState) :
    (segRunT treeTable prog04 w 11 ann04 1 4300 (st04 w.params os) (piecesOf (behindTheImports prog04) env04 code04 ⟨0, 0, 0, 0⟩ [topFrame ⟨0, 0, 0, 0⟩])).map (fun r => (r.1, r.2.2, looks04 w.params r.2.1.abs)) =
    some (Flow.next, (code04, (⟨449, 0, 483, 15⟩ : Pos)), true, openGood Mine.hd.view_39 loose04, (Mine.hd.heap_39 w.params).map fun p => some p.2) := by
  unfold looks04
  rw [PySem.W.Fast.te10110043849684766642, PySem.W.Fast.te14364793385576792824, PySem.W.Fast.te4187177175401517315]
  kernel_rfl
end Mine
namespace Mine
open PySem PySem.W PySem.Calls PyProof.Rows
set_option maxRecDepth 100000
set_option maxHeartbeats 4000000
theorem open04 : opening prog04 = plainProg prog04.main.scope.names := by kernel_rfl
theorem fence04 (s : Shared) : fenceModules? prog04 s = some s := by kernel_rfl
theorem size04 (w : World) : ((boot_heap w.params).isNs mainGlobals && (Array.mk [] : Array GenState).size == 0, (boot_heap w.params).objs.size, (boot_heap w.params).nsMap mainGlobals "__annotations__") = (true, 11, ann04) := by kernel_rfl
abbrev pos0 : Pos := ⟨0, 0, 0, 0⟩
theorem pre04 (w : World) (os : OsState) : topGo treeTable prog04 w 11 ann04 12 ⟨boot_heap w.params, Array.mk [], boot_drawn, boot_toks, os⟩ (topStub prog04) =
    some (⟨heap04 w.params, Array.mk [], {}, 187, os⟩, ⟨denote treeTable code04, code04, pos0, [topFrame pos0]⟩) := by
  kernel_rfl
theorem block04 (w : World) (os : OsState) : segRun treeTable prog04 w 11 ann04 1 1 ⟨heap04 w.params, Array.mk [], {}, 187, os⟩ (blockOf (behindTheImports prog04) env04 code04 pos0 [topFrame pos0]) =
    some (.next, (st04 w.params os).abs, code04, pos0) := by
  kernel_rfl
theorem end04 (w : World) (s : Shared) (c : Code) (p : Pos) : topRun treeTable prog04 w 11 ann04 2 s ⟨doneF .next, c, p, [topFrame pos0]⟩ = some s := by
  obtain ⟨h, g, d, t, os⟩ := s
  rfl
theorem run04 (w : World) (os : OsState) : ∃ s, topRun treeTable prog04 w 11 ann04 (12 + (1 + (4300 + 2))) ⟨boot_heap w.params, Array.mk [], boot_drawn, boot_toks, os⟩ (topStub prog04) = some s ∧
    looks04 w.params s = (true, openGood Mine.hd.view_39 loose04, (Mine.hd.heap_39 w.params).map fun p => some p.2) := by
  obtain ⟨⟨f, st, c, p⟩, h1, h2⟩ := Option.map_eq_some_iff.mp (shot04 w os)
  obtain ⟨rfl, h3, h4⟩ : f = Flow.next ∧ (c, p) = (code04, (⟨449, 0, 483, 15⟩ : Pos)) ∧ _ := by
    have e1 := congrArg Prod.fst h2
    have e2 := congrArg (fun x => x.2.1) h2
    have e3 := congrArg (fun x => x.2.2) h2
    exact ⟨e1, e2, e3⟩
  obtain ⟨rfl, rfl⟩ := Prod.mk.inj h3
  refine ⟨st.abs, ?_, h4⟩
  have h5 := segRun_of h1
  refine go_top (pre04 w os) (piece_block (block04 w os) ?_)
  have := piece_app (rest := []) h5 (piece_nil (end04 w st.abs code04 _))
  rw [List.append_nil] at this
  exact this
theorem left_of_run {p q : Program} {loose : List Str} {Xt : Shared → Bool} {α : Type} {Yf : Shared → α} {Ya : World → α} {N M m₀ : Nat} {ann : Option Value} {H₀ : Params → Heap} {gs₀ : Array GenState} {d₀ : Drawn} {k₀ : Nat}
    (open_ : ∀ w : World, (fencedOpening treeTable p w N).map (fun s => (s.heap, s.gens, s.drawn, s.toks)) = some (H₀ w.params, gs₀, d₀, k₀))
    (size : ∀ w : World, ((H₀ w.params).isNs mainGlobals && gs₀.size == 0, (H₀ w.params).objs.size, (H₀ w.params).nsMap mainGlobals "__annotations__") = (true, m₀, ann))
    (run : ∀ (w : World) (os : OsState), ∃ s, topRun treeTable p w m₀ ann M ⟨H₀ w.params, gs₀, d₀, k₀, os⟩ (topStub p) = some s ∧
      (staticsOk (importedModules p.main.body) (H₀ w.params) s.heap && namesBound p s.heap && gensDone s && laidKept (H₀ w.params) s.heap, openSeen q loose (importedModules p.main.body) Xt true s, Yf s) = (true, openGood q loose, Ya w)) (le : Nat.ble M N = true) :
    LeftO p q loose Xt Yf Ya N := fun w => by
  obtain ⟨⟨h, gs, d, k, os⟩, e, e'⟩ := Option.map_eq_some_iff.mp (open_ w)
  obtain ⟨rfl, rfl, rfl, rfl⟩ : h = H₀ w.params ∧ gs = gs₀ ∧ d = d₀ ∧ k = k₀ := by simpa using e'
  obtain ⟨z1, z2, z3⟩ : _ ∧ _ ∧ _ := by simpa only [Prod.mk.injEq] using size w
  obtain ⟨s, r0, lk⟩ := run w os
  obtain ⟨l1, l2, l3⟩ : _ ∧ _ ∧ _ := by simpa only [Prod.mk.injEq] using lk
  have r := topRun_mono (N - M) _ _ _ _ r0
  rw [show M + (N - M) = N by have := Nat.le_of_ble_eq_true le; omega] at r
  have t : topFrom treeTable p w N ⟨H₀ w.params, gs, d, k, os⟩ = some s := by
    unfold topFrom
    dsimp only
    rw [z1, z2, z3, r]
    show (match staticsOk (importedModules p.main.body) (H₀ w.params) s.heap && namesBound p s.heap && gensDone s && laidKept (H₀ w.params) s.heap with | true => _ | false => _) = _
    rw [l1]
  unfold openEnds
  rw [e]
  show (topFrom treeTable p w N _).map _ = _
  rw [t]
  exact congrArg some (Prod.ext l2 l3)
theorem left04 : LeftO prog04 Mine.hd.view_39 loose04 (fun s => xlAt Mine.hd.view_39 [] s && recOk (RowW.records PySem.Challenge.rw_dn0266_04.row.toRowW) s) hook04.obs hook04.val 8618 :=
  left_of_run (boot_open (p := prog04) (N := 8618) open04 (by decide) fence04) size04 run04 (by decide)
end Mine
namespace Mine
open PySem PySem.W PySem.Calls PyProof.Rows
set_option maxRecDepth 100000
set_option maxHeartbeats 4000000
section
variable {prog : Program} {w : World} {A : Around} {E : Value → Shared → Prop} {s : Shared}

theorem lk_none_close : typeLookup (.type "NoneType") (Str.ofString "close") = pure none := by rw [typeLookup_type, builtinLookup_eq_fast]; kernel_rfl
theorem entry_hasattr : entryFor table "hasattr" = some Builtin.«hasattr» := entryFor_of_tree (by kernel_rfl)
theorem args_hasattr (a b : Value) : argsOk "hasattr" ⟨[a, b], []⟩ := by unfold argsOk; kernel_rfl

theorem getAttrBy_miss_none {name : Str} {u : Tok} {Q : Value → Shared → Prop} (hmiss : typeLookup (.type "NoneType") name = pure none) (hA : A.handled = none)
    (h : ∀ h' tk e, Heap.NewAttrErr s.heap h' e .none name → E (.ref e) { s with heap := h', toks := tk }) (hsz : name.length + 100 ≤ sizeLine) :
    wpAny (model prog w) A (getAttrBy (.none) (.str name u) false) Q E s := by
  obtain ⟨hp, g, d, tk, os⟩ := s
  have hT : ∀ s' : Shared, s'.TypeIs (.none) "NoneType" := fun _ => rfl
  have f1 := sub_AttributeError
  have f3 := F.slot_NoneType_getattribute.lookup
  have f4 := F.slot_NoneType_getattribute.bind (.none)
  have f5 := am_none_getattr_none
  unfold getAttrBy
  repeat (any_goals (first | assumption | ((with_reducible show wpAny _ _ (call (Value.builtin "object.__getattribute__") _ _) _ _ _); refine call_meets F.slot_NoneType_getattribute (hT _) F.entry_object_getattribute (F.args_object_getattribute_2 _ _) (meets_getattribute_miss_none name _ hmiss hsz) ⟨hA, fun h' tk' e hx => ?_⟩) | wp_step))
  obtain ⟨t', u', he⟩ := hx.there
  show wpAny _ _ (getattributeRaised _ _ _ _ _ _ _) _ _ _
  unfold getattributeRaised
  repeat (any_goals (first | assumption | wp_step))
  exact h _ _ _ hx

theorem hasattr_none {tk : Tok} {Q : Value → Shared → Prop} (hh : A.handled = none)
    (h : ∀ h' tk', (∀ b o, s.heap.get? b = some o → h'.get? b = some o) → Q (.bool false) { s with heap := h', toks := tk' }) :
    wpAny (model prog w) A (call (.builtin "hasattr") [.none, .str (Str.ofString "close") tk]) Q E s := by
  refine call_function_entry (by decide +kernel) (by decide +kernel) entry_hasattr (args_hasattr _ _) ?_
  obtain ⟨hp, g, d, t, os⟩ := s
  have hT : ∀ s' : Shared, s'.TypeIs (.none) "NoneType" := fun _ => rfl
  have f1 := lk_none_close
  have f2 := sub_AttributeError
  unfold Builtin.«hasattr»
  repeat (any_goals (first | assumption | ((with_reducible show wpAny _ _ (getAttrBy _ _ _) _ _ _); refine getAttrBy_miss_none f1 (by exact hh) (fun h' tk' e hx => ?_) (by size_fits); obtain ⟨t', u', he⟩ := id hx.there) | wp_step))
  exact ⟨_, rfl, h _ _ hx.keeps⟩
end
end Mine
namespace Mine
open PySem PySem.W PySem.Calls PyProof.Rows
set_option maxRecDepth 100000
set_option maxHeartbeats 4000000
section
variable {prog : Program} {w : World} {A : Around} {E : Value → Shared → Prop} {s : Shared} {K : Frag} {x C : Addr} {ox : Obj} {od : Option Obj} {name : Str}

theorem getAttrBy_value {v : Value} {u : Tok} {Q : Value → Shared → Prop} (X : K.In s.heap) (I : InstAt s.heap x ox C od) (hga : findIn K (.ref C) "__getattribute__" = some (some (.builtin "object.__getattribute__")))
    (hf : findObj K C od name = some (.value v)) (hh : handedIn v = true) (h : Q v s) : wpAny (model prog w) A (getAttrBy (.ref x) (.str name u) false) Q E s := by
  obtain ⟨hp, g, d, t, os⟩ := s
  have L0 := I.type (M := model prog w)
  have L1 := looks_findIn (M := model prog w) X hga
  have L2 := looks_find (M := model prog w) X I hf
  unfold getAttrBy
  refine wpAny_holding (wpAny_bind (L0.at (wpAny_bind (L1.at ?_))))
  show wpAny _ _ (getAttrEveryday _ _ _) _ _ _
  refine wpAny_bind (wpAny_onRaise (wpAny_runValue (codeAny_builtin F.plainObj_entry_getattr_hooked ?_)))
  refine wpAny_bind (wpAny_pure (wpAny_bind (L0.at (wpAny_bind (L2.at ?_)))))
  refine wpAny_pure ?_
  show wpAny _ _ (handedOut v) _ _ _
  rw [handedOut_of hh]; exact wpAny_pure h

theorem raiseAttr_of_inst {α : Type} {cd : ClassData} {Q : α → Shared → Prop} (X : K.In s.heap) (I : InstAt s.heap x ox C od) (hc : clsIn K C = some cd) (hn : cd.name.cps.foldl (fun k c => k + (Str.utf8Of c).length) 0 ≤ 100)
    (hA : A.handled = none) (hsz : (Str.ofString (toString "'" ++ toString cd.name.toString ++ toString "' object has no attribute '") ++ name ++ Str.ofString "'").length ≤ sizeLine)
    (h : ∀ h' tk e, Heap.NewAttrErr s.heap h' e (.ref x) name → E (.ref e) { s with heap := h', toks := tk }) :
    wpAny (model prog w) A (Builtin.ObjectAttr.noSuchAttribute (.ref x) name : Sem α) Q E s := by
  obtain ⟨hp, g, d, t, os⟩ := s
  have L0 := I.type (M := model prog w)
  have L1 := looks_clsIn (M := model prog w) X hc
  unfold Builtin.ObjectAttr.noSuchAttribute typeNameOfCut shownTypeOf
  refine wpAny_bind (wpAny_bind (wpAny_bind (L0.at ?_)))
  refine wpAny_bind (wpAny_pure ?_)
  refine wpAny_pure ?_
  unfold typeNameCut
  refine wpAny_bind (L1.at ?_)
  dsimp only
  rw [if_pos hn]
  refine wpAny_pure ?_
  exact wpAny_raiseAttrError hA h hsz

theorem getAttrBy_missing {cd : ClassData} {u : Tok} {Q : Value → Shared → Prop} (X : K.In s.heap) (I : InstAt s.heap x ox C od) (hga : findIn K (.ref C) "__getattribute__" = some (some (.builtin "object.__getattribute__")))
    (hk : findIn K (.ref C) "__getattr__" = some none)
    (hf : findObj K C od name = some .missing) (hc : clsIn K C = some cd) (hn : cd.name.cps.foldl (fun k c => k + (Str.utf8Of c).length) 0 ≤ 100)
    (hA : A.handled = none) (hsz : (Str.ofString (toString "'" ++ toString cd.name.toString ++ toString "' object has no attribute '") ++ name ++ Str.ofString "'").length ≤ sizeLine)
    (h : ∀ h' tk e, Heap.NewAttrErr s.heap h' e (.ref x) name → E (.ref e) { s with heap := h', toks := tk }) : wpAny (model prog w) A (getAttrBy (.ref x) (.str name u) false) Q E s := by
  obtain ⟨hp, g, d, t, os⟩ := s
  have L0 := I.type (M := model prog w)
  have L1 := looks_findIn (M := model prog w) X hga
  have L2 := looks_find (M := model prog w) X I hf
  have L3 := looks_findIn (M := model prog w) X hk
  unfold getAttrBy
  refine wpAny_holding (wpAny_bind (L0.at (wpAny_bind (L1.at ?_))))
  show wpAny _ _ (getAttrEveryday _ _ _) _ _ _
  refine wpAny_bind (wpAny_onRaise (wpAny_runValue (codeAny_builtin F.plainObj_entry_getattr_hooked ?_)))
  refine wpAny_bind (wpAny_pure (wpAny_bind (L0.at (wpAny_bind (L2.at ?_)))))
  dsimp only
  refine wpAny_bind (L3.at ?_)
  show wpAny _ _ (Builtin.ObjectAttr.noSuchAttribute (.ref x) name) _ _ _
  refine raiseAttr_of_inst X I hc hn hA hsz fun h' tk e hx => ?_
  show wpAny _ _ (noteIf false _ _ _) _ _ _
  exact wpAny_pure (h h' tk e hx)

theorem hasattr_inst {tk : Tok} {Q : Value → Shared → Prop} (I : InstAt s.heap x ox C od) (X : K.In s.heap) (hm : mroIn K C (.type "module") = some false)
    (hg : wpAny (model prog w) A.in1 (getAttrBy (.ref x) (.str name tk) false) (fun _ s' => Q (.bool true) s') (fun e s' => (∃ a o, e = .ref a ∧ s'.heap.get? a = some o ∧ o.cls = .type "AttributeError") ∧ Q (.bool false) s') s) :
    wpAny (model prog w) A (call (.builtin "hasattr") [.ref x, .str name tk]) Q E s := by
  refine call_function_entry (by decide +kernel) (by decide +kernel) entry_hasattr (args_hasattr _ _) ?_
  obtain ⟨hp, g, d, t, os⟩ := s
  dsimp only at I X
  have L0 := I.type (M := model prog w)
  have LI : Looks (model prog w) hp (isInstance (.ref x) (.type "module")) false := L0.andThen (looks_mroIn X hm)
  have f2 := sub_AttributeError
  unfold Builtin.«hasattr»
  refine wpAny_bind (wpAny_pure ?_)
  dsimp only
  repeat (any_goals (first | assumption | (with_reducible refine Looks.at (by assumption) ?_) | ((with_reducible show wpAny _ _ (getAttrBy _ _ _) _ _ _); refine wpAny_mono hg (fun v s' hq => ?_) (fun e s' hq => ?_)) | wp_step))
  · exact ⟨_, rfl, hq⟩
  · obtain ⟨hp', g', d', t', os'⟩ := s'
    obtain ⟨⟨a, ⟨oc, odi, oda, osl⟩, rfl, hq1, rfl⟩, hq2⟩ := hq
    dsimp only at hq1 hq2
    repeat (any_goals (first | assumption | wp_step))
    exact ⟨_, rfl, hq2⟩

theorem hasattr_yes {v : Value} {es : List DictEntry} {n : Nat} {attr : Option Value} {tk : Tok} {Q : Value → Shared → Prop} (X : K.In s.heap) (I : InstAt s.heap x ox C (some (dictOf es n))) (hm : mroIn K C (.type "module") = some false)
    (hg : plainGet K C name = true) (hh : hasDictIn K C = true)
    (ha : findIn K (.ref C) name = some attr) (hn : noGet K attr = true) (hl : getL name es = some (some v)) (hv : handedIn v = true) (h : Q (.bool true) s) :
    wpAny (model prog w) A (call (.builtin "hasattr") [.ref x, .str name tk]) Q E s :=
  hasattr_inst I X hm (getAttrBy_value X I (plainGet_of hg).1 (findObj_own hh ha hn hl) hv h)

theorem findObj_miss {od : Obj} (hh : hasDictIn K C = true) (ha : findIn K (.ref C) name = some none) (hc : copiedNames.contains name = false) (hl : lookIn name od = some none) :
    findObj K C (some od) name = some .missing := by
  obtain ⟨cd, hc', hd⟩ := any_some hh
  unfold findObj
  have ho : PySem.W.ownOf cd (some od) name = some none := by unfold PySem.W.ownOf; rw [if_pos hd]; exact hl
  rw [hc', Option.bind_some, ha, Option.bind_some]
  simp only [Option.bind_some, ho, hc, Bool.false_and, Bool.false_eq_true, if_false]

theorem hasattr_no {cd : ClassData} {es : List DictEntry} {n : Nat} {tk : Tok} {Q : Value → Shared → Prop} (X : K.In s.heap) (I : InstAt s.heap x ox C (some (dictOf es n))) (hm : mroIn K C (.type "module") = some false)
    (hg : plainGet K C name = true) (hh : hasDictIn K C = true)
    (ha : findIn K (.ref C) name = some none) (hcn : copiedNames.contains name = false) (hl : getL name es = some none) (hc : clsIn K C = some cd) (hn : cd.name.cps.foldl (fun k c => k + (Str.utf8Of c).length) 0 ≤ 100)
    (hA : A.handled = none) (hsz : (Str.ofString (toString "'" ++ toString cd.name.toString ++ toString "' object has no attribute '") ++ name ++ Str.ofString "'").length ≤ sizeLine)
    (h : ∀ h' tk', (∀ b o, s.heap.get? b = some o → h'.get? b = some o) → Q (.bool false) { s with heap := h', toks := tk' }) :
    wpAny (model prog w) A (call (.builtin "hasattr") [.ref x, .str name tk]) Q E s :=
  hasattr_inst I X hm (getAttrBy_missing X I (plainGet_of hg).1 (plainGet_of hg).2 (findObj_miss hh ha hcn hl) hc hn hA hsz (fun h' tk' e hx => ⟨by
    obtain ⟨t, u, he⟩ := hx.there; exact ⟨e, _, rfl, he, rfl⟩, h h' tk' hx.keeps⟩))

variable {h₀ : Heap} {L : Addr} {m : Str → Option Value} {news : List (Addr × Obj)}
theorem hasattr_none_K {tk : Tok} {Q : Value → Shared → Prop} (hh : A.handled = none) (F : Fr h₀ L s.heap m) (N : News h₀ L s.heap news)
    (h : ∀ h' tk', Fr h₀ L h' m → News h₀ L h' news → Q (.bool false) { s with heap := h', toks := tk' }) :
    wpAny (model prog w) A (call (.builtin "hasattr") [.none, .str (Str.ofString "close") tk]) Q E s :=
  hasattr_none hh fun h' tk' hk => h h' tk' (F.keeps hk) (N.grown hk)
theorem hasattr_yes_K {v : Value} {es : List DictEntry} {n : Nat} {attr : Option Value} {tk : Tok} {Q : Value → Shared → Prop} (F : Fr h₀ L s.heap m) (X₀ : K.In h₀) (I : InstAt s.heap x ox C (some (dictOf es n))) (hm : mroIn K C (.type "module") = some false)
    (hg : plainGet K C name = true) (hh : hasDictIn K C = true)
    (ha : findIn K (.ref C) name = some attr) (hn : noGet K attr = true) (hl : getL name es = some (some v)) (hv : handedIn v = true) (h : Q (.bool true) s) :
    wpAny (model prog w) A (call (.builtin "hasattr") [.ref x, .str name tk]) Q E s :=
  hasattr_yes (X₀.keeps F.keep) I hm hg hh ha hn hl hv h
theorem hasattr_no_K {cd : ClassData} {es : List DictEntry} {n : Nat} {tk : Tok} {Q : Value → Shared → Prop} (hA : A.handled = none) (F : Fr h₀ L s.heap m) (N : News h₀ L s.heap news) (X₀ : K.In h₀) (I : InstAt s.heap x ox C (some (dictOf es n))) (hm : mroIn K C (.type "module") = some false)
    (hg : plainGet K C name = true) (hh : hasDictIn K C = true)
    (ha : findIn K (.ref C) name = some none) (hcn : copiedNames.contains name = false) (hl : getL name es = some none) (hc : clsIn K C = some cd) (hn : cd.name.cps.foldl (fun k c => k + (Str.utf8Of c).length) 0 ≤ 100)
    (hsz : (Str.ofString (toString "'" ++ toString cd.name.toString ++ toString "' object has no attribute '") ++ name ++ Str.ofString "'").length ≤ sizeLine)
    (h : ∀ h' tk', Fr h₀ L h' m → News h₀ L h' news → Q (.bool false) { s with heap := h', toks := tk' }) :
    wpAny (model prog w) A (call (.builtin "hasattr") [.ref x, .str name tk]) Q E s :=
  hasattr_no (X₀.keeps F.keep) I hm hg hh ha hcn hl hc hn hA hsz fun h' tk' hk => h h' tk' (F.keeps hk) (N.grown hk)
end
end Mine
namespace Mine
open PySem PySem.W PySem.Calls PyProof.Rows
set_option maxRecDepth 100000
set_option maxHeartbeats 4000000
def pickL (ns : List Int) (lo hi st : Option Int) : List Int :=
  (sliceRange (sliceBounds lo hi st ns.length).1 (sliceBounds lo hi st ns.length).2.1 (sliceBounds lo hi st ns.length).2.2).filterMap (ns[·]?)
theorem ints_filterMap {vs : List Value} {ns : List Int} (h : IntsAre vs ns) : ∀ is : List Nat, IntsAre (is.filterMap (vs[·]?)) (is.filterMap (ns[·]?))
  | [] => .nil
  | i :: is => by
    have ih := ints_filterMap h is
    have hl := h.length
    cases hn : ns[i]? with
    | none =>
      have hv : vs[i]? = none := by rw [List.getElem?_eq_none_iff] at hn ⊢; omega
      rw [List.filterMap_cons, List.filterMap_cons, hn, hv]; exact ih
    | some n =>
      obtain ⟨t, ht⟩ := h.get i n hn
      rw [List.filterMap_cons, List.filterMap_cons, hn, ht]; exact .cons _ _ ih
theorem ints_pick {vs : List Value} {ns : List Int} (h : IntsAre vs ns) (lo hi st : Option Int) : IntsAre (slicePick vs.toArray lo hi st).toList (pickL ns lo hi st) := by
  have e := ints_filterMap h (sliceRange (sliceBounds lo hi st ns.length).1 (sliceBounds lo hi st ns.length).2.1 (sliceBounds lo hi st ns.length).2.2)
  have hl : vs.toArray.size = ns.length := by simp [h.length]
  unfold slicePick pickL
  rw [hl]
  simpa using e
section
variable {prog : Program} {w : World} {A : Around} {E : Value → Shared → Prop} {s : Shared} {h₀ : Heap} {L : Addr} {m : Str → Option Value} {news : List (Addr × Obj)}
theorem sum_pick {l : Addr} {vs : List Value} {ns : List Int} {lo hi st : Option Int} {Q : Value → Shared → Prop} (hh : A.handled = none) (F : Fr h₀ L s.heap m) (N : News h₀ L s.heap news)
    (hm : (l, ({ cls := .type "list", data := .seq (slicePick vs.toArray lo hi st) } : Obj)) ∈ news) (hI : IntsAre vs ns)
    (h : ∀ h' tk t', Fr h₀ L h' m → News h₀ L h' news → Q (.int (pickL ns lo hi st).sum t') { s with heap := h', toks := tk }) :
    wpAny (model prog w) A (call (.builtin "sum") [.ref l]) Q E s :=
  sumK hh F N ⟨_, (N _ hm).1, rfl, 0, by simp⟩ (ints_pick hI lo hi st) h
end
end Mine
namespace Mine
open PySem PySem.W PySem.Calls PyProof.Rows
set_option maxRecDepth 100000
set_option maxHeartbeats 4000000
def NeF (a b : Nat) : Prop := a ≠ b
theorem NeF.l {a b : Nat} (h : NeF a b) : a ≠ b := h
theorem NeF.r {a b : Nat} (h : NeF a b) : b ≠ a := Ne.symm h
def NeTo (a : Nat) : List Nat → Prop | [] => True | b :: r => NeF a b ∧ NeTo a r
def NeAll : List Nat → Prop | [] => True | a :: r => NeTo a r ∧ NeAll r
theorem neTo_of {a : Nat} : ∀ {l : List Nat}, a ∉ l → NeTo a l
  | [], _ => trivial
  | _ :: _, h => ⟨fun e => h (by rw [e]; exact .head _), neTo_of fun e => h (.tail _ e)⟩
theorem neAll_of : ∀ {l : List Nat}, l.Nodup → NeAll l
  | [], _ => trivial
  | _ :: _, h => ⟨neTo_of (List.nodup_cons.mp h).1, neAll_of (List.nodup_cons.mp h).2⟩
section
variable {prog : Program} {w : World} {A : Around} {E : Value → Shared → Prop} {s : Shared}
theorem len_eq {l : Addr} {vs : List Value} {T : Nat} {Q : Value → Shared → Prop} (hl : s.heap.IsList l vs.toArray) (he : vs.length = T) (hfit : T < 2 ^ 62)
    (h : Q (.int (T : Nat) (s.toks + 1)) { s with toks := s.toks + 1 + 1 }) : wpAny (model prog w) A (call (.builtin "len") [.ref l]) Q E s :=
  len_list hl (by rw [List.size_toArray, he]; omega) (by rw [List.size_toArray, he]; exact h)
end
section
variable {prog : Program} {w : World} {A : Around} {E : Value → Shared → Prop} {s : Shared} {env : Env} {h₀ : Heap} {x : Str} {body : List Stmt} {Q : Flow → Shared → Prop}

def LpEnd (h₀ : Heap) (L : Addr) (J : (Str → Option Value) → List (Addr × Obj) → Prop) (I : Addr) (oI : Obj) (s₁ s₂ : Shared) : Prop :=
  ∃ h' tk m' news' nx, s₂ = { s₁ with heap := h', toks := tk } ∧ Fr h₀ L h' m' ∧ News h₀ L h' news' ∧ (∀ p ∈ nx, p ∈ news') ∧ (I, oI) ∈ news' ∧ (∀ p ∈ nx, p.1 ≠ I) ∧ J m' nx
def LpPost (h₀ : Heap) (L : Addr) (J : (Str → Option Value) → List (Addr × Obj) → Prop) (I : Addr) (oI : Obj) (s₁ : Shared) (Q : Flow → Shared → Prop) (f : Flow) (s₂ : Shared) : Prop :=
  match f with
  | .ret v => Q (.ret v) s₂
  | .brk => Q .next s₂
  | _ => LpEnd h₀ L J I oI s₁ s₂

theorem loop_inv {I : Addr} {fp wr : List Addr} {n : Nat} {P : Nat → Value → Prop} {St : Nat → Heap → Prop} {m₀ : Str → Option Value} {news : List (Addr × Obj)} (J : Nat → (Str → Option Value) → List (Addr × Obj) → Prop)
    (W : Walks prog w A I fp wr n P St) (hIf : I ∈ fp) (hfp : ∀ b ∈ fp, b = I ∨ ∃ q, h₀.get? b = some q) (hI0 : h₀.get? I = none) (hwr1 : wr = [I]) (hob : ∀ i h, St i h → ∃ o, h.get? I = some o)
    (hLf : env.locals ∉ fp) (hnw : ∀ p ∈ news, p.1 ≠ I) (hst : St 0 s.heap) (F : Fr h₀ env.locals s.heap m₀) (N : News h₀ env.locals s.heap news) (hj : J 0 m₀ news)
    (turn : ∀ i v m₁ nx h tk oI, i < n → P i v → J i m₁ nx → (∀ p ∈ nx, p.1 ≠ I) → Fr h₀ env.locals h (fun y => if y = x then some v else m₁ y) → News h₀ env.locals h ((I, oI) :: nx) →
      wpAny (model prog w) A (execs body env) (LpPost h₀ env.locals (J (i + 1)) I oI { s with heap := h, toks := tk } Q) E { s with heap := h, toks := tk })
    (done : ∀ m₁ nx h tk, J n m₁ nx → Fr h₀ env.locals h m₁ → News h₀ env.locals h nx → Q .next { s with heap := h, toks := tk }) :
    LoopAtV prog w A h₀ env x body Q E (.ref I) s := by
  have hwI : ∀ b ∈ wr, b = I := fun b hb => by rw [hwr1] at hb; exact List.mem_singleton.mp hb
  have hwr : ∀ b ∈ wr, h₀.get? b = none := fun b hb => by rw [hwI b hb]; exact hI0
  refine ⟨I, fp, wr, n, P, St, m₀, news, J, rfl, W, hLf, hwr, (fun p hp hb => hnw p hp (hwI _ hb)), hst, F, N, hj, ?_, ?_⟩
  · rintro i v m₁ nx s₁ own ⟨hh', tk', rfl⟩ hin hP hJ hoff hown _ hall hst' F₁ N₁
    obtain ⟨o, ho⟩ := hob _ _ hst'
    have hio : (I, o) ∈ own := hall I hIf hI0 o ho
    have hone := own_one hown hfp ho N₁
    have hoff' : ∀ p ∈ nx, p.1 ≠ I := fun p hp e => by
      exact hoff p hp (by rw [hwr1, e]; exact List.mem_singleton.mpr rfl)
    refine wpAny_mono (turn i v m₁ nx hh' tk' o hin hP hJ hoff' F₁ (news_one hio N₁)) (fun f s₂ p => ?_) fun _ _ e => e
    have fin : LpEnd h₀ env.locals (J (i + 1)) I o { s with heap := hh', toks := tk' } s₂ → LoopStepU h₀ env.locals wr own (J (i + 1)) { s with heap := hh', toks := tk' } .next s₂ := by
      rintro ⟨h', tk, m', news', nx', e, F', N', hn, hi, ha, hm⟩
      refine ⟨rfl, h', tk, m', nx', e, F', fun p hp => ?_, fun p hp hq => ha p hp (hwI _ hq), hm⟩
      rcases List.mem_append.mp hp with h1 | h1
      · rw [hone p h1]; exact N' _ hi
      · exact N' _ (hn p h1)
    cases f with
    | ret v => exact .ret p
    | brk => exact .brk p
    | next => exact .next (fin p)
    | cont => exact .cont (fin p)
  · rintro h' tk m' news' F' N' _ hJ
    exact done m' news' h' tk hJ F' N'

theorem range_inv {r : Addr} {a₀ b₀ : Int} {t₀ u₀ v₀ : Tok} {n : Nat} {m₀ : Str → Option Value} {news : List (Addr × Obj)} (J : Nat → (Str → Option Value) → List (Addr × Obj) → Prop)
    (hh : A.handled = none) (hr : IsRange s.heap r a₀ b₀ 1 t₀ u₀ v₀) (hsmall : Builtin.Range.small a₀ b₀ 1 = true) (hn : Builtin.Range.rangeSize a₀ b₀ 1 = (n : Int)) (F : Fr h₀ env.locals s.heap m₀) (N : News h₀ env.locals s.heap news) (hj : J 0 m₀ news)
    (turn : ∀ i t m₁ nx h tk I oI, i < n → J i m₁ nx → (∀ p ∈ nx, p.1 ≠ I) → Fr h₀ env.locals h (fun y => if y = x then some (.int (a₀ + i) t) else m₁ y) → News h₀ env.locals h ((I, oI) :: nx) →
      wpAny (model prog w) A (execs body env) (LpPost h₀ env.locals (J (i + 1)) I oI { s with heap := h, toks := tk } Q) E { s with heap := h, toks := tk })
    (done : ∀ m₁ nx h tk, J n m₁ nx → Fr h₀ env.locals h m₁ → News h₀ env.locals h nx → Q .next { s with heap := h, toks := tk }) :
    wpAny (model prog w) A (pyIter (.ref r)) (fun it s₂ => LoopAtV prog w A h₀ env x body Q E it s₂) E s := by
  refine wpAny_pyIter_range hr hsmall ?_
  have W : Walks prog w A s.heap.objs.size [s.heap.objs.size] [s.heap.objs.size] n (fun i v => i < n ∧ ∃ t, v = .int (a₀ + i * 1) t)
      (fun i h => IsRangeIter h s.heap.objs.size (a₀ + (i : Nat) * 1) ((n : Int) - (i : Nat)) 1) := (Walks.range hh _ a₀ 1 n).bound
  refine loop_inv J W (List.mem_singleton.mpr rfl) (fun b hb => .inl (List.mem_singleton.mp hb)) (next_is_new F) rfl (fun i h hs => ⟨_, hs⟩) ?_ ?_ (by show IsRangeIter _ _ _ _ _; rw [hn]; simpa using Heap.get?_push_size _ rfl) (F.push _) (fun p hp => ⟨Heap.get?_push_of_some _ (N p hp).1, (N p hp).2⟩) hj ?_ done
  · intro hm
    exact absurd F.ns.lt ((List.mem_singleton.mp hm) ▸ Nat.lt_irrefl _)
  · intro p hp hI
    exact absurd (Heap.lt_size (N p hp).1) (hI ▸ Nat.lt_irrefl _)
  · rintro i v m₁ nx h tk oI hi ⟨_, t, rfl⟩ hJ ho F₁ N₁
    refine turn i t m₁ nx h tk _ oI hi hJ ho ?_ N₁
    simpa using F₁
end
end Mine
namespace Mine
open PySem PySem.W PySem.Calls PyProof.Rows Builtin Builtin.ObjectAttr
set_option maxRecDepth 100000
set_option maxHeartbeats 4000000
theorem slot_del : Slot "object" "__delattr__" "object.__delattr__" :=
  .of (owner := "object") (n := "__delattr__") (by rw [typeLookup_type, builtinLookup_eq_fast]; kernel_rfl) (by decide +kernel) (by decide +kernel) (by decide +kernel)
    (by first | exact .inl (by decide +kernel) | exact .inr (by decide +kernel)) (by rw [isSubtype_type]; kernel_rfl)
theorem entry_del : entryFor table "object.__delattr__" = some Builtin.«object.__delattr__» := entryFor_of_tree (by kernel_rfl)
theorem args_del (a b : Value) : argsOk "object.__delattr__" ⟨[a, b], []⟩ := by unfold argsOk; kernel_rfl
theorem passes_del (self : Value) : refuseLoop self "__delattr__" [.type "object"] = pure () := by kernel_rfl
theorem refuse_del (self : Value) : ∀ {l : List Value}, onlyObject l = true → refuseLoop self "__delattr__" l = pure ()
  | [.type n], e => by rw [show n = "object" from beq_iff_eq.mp e]; exact passes_del self
  | .ref c :: r, e => by rw [refuseLoop_ref]; exact refuse_del self (by cases r <;> first | exact e | cases e)
theorem del_eq (self : Value) (name : Str) (tk : Tok) : Builtin.«object.__delattr__» ⟨[self, .str name tk], []⟩ = (refuseIfOverridden self "__delattr__" >>= fun _ => typeOf self >>= fun tp => typeLookup tp name >>= fun attr => storeTaker? attr >>= fun r =>
    match r with | some a => deleteByDescriptor a self | none => deleteInOwnDict self tp name attr.isSome) := by kernel_rfl
section
variable {prog : Program} {w : World} {A : Around} {E : Value → Shared → Prop} {s : Shared} {K : Frag} {x C dx : Addr} {h₀ : Heap} {L : Addr} {m : Str → Option Value} {news news' : List (Addr × Obj)} {ox od od' : Obj} {name : Str}
theorem del_dict {Q : Unit → Shared → Prop} (F : Fr h₀ L s.heap m) (X₀ : K.In h₀) (N : News h₀ L s.heap news) (I : InstAt s.heap x ox C (some od)) (hd : ox.dict = some dx)
    (hs : findIn K (.ref C) "__delattr__" = some (some (.builtin "object.__delattr__"))) (hp : plainOver K C = true) (ht : takerIn K C name = some none) (hh : hasDictIn K C = true)
    (hn : nsHas name od = pure true) (e : Obj.dropName name od = od') (hf : od'.isFreed = false) (U : Upd dx od od' news news')
    (h : ∀ h', Fr h₀ L h' m → News h₀ L h' news' → Q () { s with heap := h', toks := s.toks + 1 }) :
    wpAny (model prog w) A (delAttr (.ref x) name) Q E s := by
  have X := X₀.keeps F.keep
  obtain ⟨pre, post, rfl, rfl, h1, h2⟩ := U.split
  obtain ⟨hp', g, d, t, os⟩ := s
  dsimp only at F N I X
  obtain ⟨cd, hc, ho⟩ := any_some hp
  obtain ⟨cd2, hc2, hd'⟩ := any_some hh
  rw [hc] at hc2; cases hc2
  have ne : cd.mro.isEmpty = false := by cases q : cd.mro with | nil => rw [q] at ho; cases ho | cons _ _ => rfl
  have L0 := I.type (M := model prog w)
  have sub : Looks (model prog w) hp' (isInstance (.ref x) (.type "object")) true := L0.andThen (looks_mroIn X (by unfold mroIn; rw [hc, Option.bind_some, if_neg (by rw [ne]; decide), only_has ho]))
  have L1 := looks_findIn (M := model prog w) X hs
  obtain ⟨attr, ha, hr⟩ := Option.bind_eq_some_iff.mp ht
  have hm : Looks (model prog w) hp' (mroOf (.ref C)) cd.mro := (looks_clsIn X hc).andThen .now
  have L2 := looks_findIn (M := model prog w) X ha
  have L3 : Looks (model prog w) hp' (storeTaker? attr) none := by
    cases attr with
    | none => exact .now
    | some a =>
      obtain ⟨b, hb, e⟩ := Option.map_eq_some_iff.mp hr
      refine (looks_takesIn X hb).andThen ?_
      cases b
      · exact .now
      · cases e
  obtain ⟨U1, U2⟩ := news_upd (f := Obj.dropName name) F N h1 h2 e hf
  have D := (N (dx, od) (by simp)).1
  unfold delAttr
  refine wpAny_bind (wpAny_mkText (wpAny_bind (wpAny_bind (wpAny_bind (L0.at (L1.at (wpAny_holding ?_)))))))
  rw [slot_del.bind]
  refine wpAny_bind (wpAny_pure (wpAny_bind (wpAny_call ?_)))
  refine codeAny_call_builtin slot_del.plain entry_del (@check_slot (model prog w) _ _ _ "object.__delattr__" "object" "__delattr__" (.ref x) [.str name t] [] _ (by decide +kernel) (by decide +kernel) sub (args_del (.ref x) (.str name t)) ?_)
  show wpAny _ _ (Builtin.«object.__delattr__» ⟨[.ref x, .str name t], []⟩) _ _ _
  rw [del_eq, refuse_eq]
  refine wpAny_bind (wpAny_bind (L0.at (wpAny_bind (hm.at ?_))))
  rw [refuse_del _ ho]
  refine wpAny_pure (wpAny_bind (L0.at (wpAny_bind (L2.at (wpAny_bind (L3.at ?_))))))
  dsimp only
  obtain ⟨hx, hcl, hno, -⟩ := I
  obtain ⟨oc, odi, oda, osl⟩ := ox
  dsimp only at hcl hd
  subst hcl hd
  unfold deleteInOwnDict ownDictForStores instanceDict
  refine wpAny_bind (wpAny_pure (wpAny_bind (wpAny_bind (wpAny_loadPart hx (wpAny_bind ((looks_clsIn X hc).at ?_))))))
  rw [hd']
  refine wpAny_pure (a := some dx) ?_
  dsimp only
  unfold deleteInDict
  refine wpAny_ite_false rfl ?_
  unfold nsDel
  refine wpAny_bind (wpAny_bind (wpAny_loadPart D ?_))
  rw [hn]
  refine wpAny_bind (wpAny_pure ?_)
  refine wpAny_bind (wpAny_updatePart D (wpAny_pure ?_))
  exact wpAny_pure (wpAny_pure (wpAny_pure (h _ U1 U2)))

theorem is_apart {y : Addr} {oy : Obj} {M : Model} {Q : Value → Shared → Prop} (N : News h₀ L s.heap news) (hx : (x, ox) ∈ news) (hy : (y, oy) ∈ news) (hxy : x ≠ y) (hb : ox.cls = Value.type "function") (hq : Q (.bool false) s) : wpAny M A (compareOp .Is (.ref x) (.ref y)) Q E s :=
  wpAny_is_ref_other hxy (N _ hx).1 (N _ hy).1 (by rw [hb]; intro z; exact absurd (Value.type.inj z) (by decide)) hq
end
end Mine
namespace Mine
open PySem PySem.W PySem.Calls PyProof.Rows
theorem putL_le {name : Str} {hsh : Int} {key v : Value} : ∀ {es : List DictEntry}, (putL name hsh key v es).length ≤ es.length + 1
  | [] => by simp [putL]
  | e :: r => by
    have := putL_le (name := name) (hsh := hsh) (key := key) (v := v) (es := r)
    unfold putL
    split <;> simp <;> omega
theorem putL_le2 {name : Str} {hsh : Int} {key v : Value} {es : List DictEntry} (h : es.length ≤ 900) : (putL name hsh key v es).length ≤ 1000 := Nat.le_trans putL_le (by omega)
end Mine
namespace Mine
open PySem PySem.W PySem.Calls PyProof.Rows Builtin Builtin.ObjectAttr
set_option maxRecDepth 100000
set_option maxHeartbeats 1000000
def NewBack (M : Model) (A : Around) (h₀ : Heap) (C fI : Addr) (rest : List Value) (kw : List (Str × Value)) (R : Result → Shared → Prop) (r : Result) (s' : Shared) : Prop := match r with
  | .ok (.ret v) => (∀ b o, h₀.get? b = some o → s'.heap.get? b = some o) ∧ ∃ x dx, v = .ref x ∧ s'.heap.get? x = some (instObj C dx) ∧ codeAny M (A.under (.builtin "type.__call__" ⟨.ref C :: rest, kw⟩)) (.call (.ref fI) ⟨.ref x :: rest, kw⟩) (InitBack x R) s'
  | .ok _ => False
  | .error e => R (.error e) s'
theorem newBack_ {M : Model} {A : Around} {h₀ : Heap} {L C fI x dx : Addr} {m : Str → Option Value} {news : List (Addr × Obj)} {rest : List Value} {kw : List (Str × Value)} {R : Result → Shared → Prop} {s' : Shared} (F : Fr h₀ L s'.heap m) (N : News h₀ L s'.heap news) (hm : (x, instObj C dx) ∈ news)
    (h : codeAny M (A.under (.builtin "type.__call__" ⟨.ref C :: rest, kw⟩)) (.call (.ref fI) ⟨.ref x :: rest, kw⟩) (InitBack x R) s') : NewBack M A h₀ C fI rest kw R (.ok (.ret (.ref x))) s' := ⟨F.keep, x, dx, rfl, (N _ hm).1, h⟩
def ownObj : Obj → Bool
  | ⟨_, _, .cls cd, _⟩ => !cd.mro.isEmpty && (!cd.abstract && !cd.hasDel)
  | _ => false
def ownCls (K : Frag) (C : Addr) : Bool := (K.lookup C).any ownObj
theorem ownCls_of {K : Frag} {C : Addr} (h : ownCls K C = true) : ∃ oc od cd sl, K.lookup C = some ⟨oc, od, .cls cd, sl⟩ ∧ cd.mro.isEmpty = false ∧ cd.abstract = false ∧ cd.hasDel = false := by
  unfold ownCls at h
  cases hl : K.lookup C with
  | none => rw [hl] at h; cases h
  | some o =>
    rw [hl] at h
    obtain ⟨oc, od, dt, sl⟩ := o
    cases dt with
    | cls cd =>
      have h' : (!cd.mro.isEmpty && (!cd.abstract && !cd.hasDel)) = true := h
      simp only [Bool.and_eq_true, Bool.not_eq_true'] at h'
      exact ⟨oc, od, cd, sl, rfl, h'.1, h'.2.1, h'.2.2⟩
    | _ => cases h
section
variable {prog : Program} {w : World} {A : Around} {K : Frag} {C p fN fI : Addr} {s : Shared} {h₀ : Heap} {L : Addr} {m : Str → Option Value} {R : Result → Shared → Prop}
theorem make_own {rest sr : List Value} {kw : List (Str × Value)} {mc : Value} (F : Fr h₀ L s.heap m) (X₀ : K.In h₀)
    (ho : ownCls K C = true) (hmb : peek K ⟨prog, w.params⟩ (Bind.madeBy (.ref C)) = some none)
    (hcl : specialIn K (.ref C) "__call__" = some (some (.builtin "type.__call__"))) (hty : instIn K (.ref C) (.type "type") = some true) (hself : mroIn K C (.ref C) = some true)
    (hm : typeIn K (.ref C) = some mc) (hr : readsIn K C mc = true) (e : findCls K (.ref C) mc (Str.ofString "__new__") = some (.get (.builtin "staticmethod.__get__") (.ref p) .none (.ref C))) (hp : recIn K p "staticmethod" = some (.ref fN :: sr)) (hv : handedIn (.ref fN) = true)
    (hi : findIn K (.ref C) "__init__" = some (some (.ref fI))) (hf : typeIn K (.ref fI) = some (.type "function"))
    (h : codeAny (model prog w) (A.under (.builtin "type.__call__" ⟨.ref C :: rest, kw⟩)) (.call (.ref fN) ⟨.ref C :: rest, kw⟩) (NewBack (model prog w) A h₀ C fI rest kw R) { s with toks := s.toks + 1 }) :
    codeAny (model prog w) A (.call (.ref C) ⟨rest, kw⟩) R s := by
  have X := X₀.keeps F.keep
  obtain ⟨oc, od, cd, sl, hC, he, _, _⟩ := ownCls_of ho
  have call : Looks (model prog w) s.heap (specialOf (.ref C) "__call__") (some (.builtin "type.__call__")) := looks_specialIn X hcl
  have typ : Looks (model prog w) s.heap (isInstance (.ref C) (.type "type")) true := looks_instIn X hty
  have made : Looks (model prog w) s.heap (Bind.madeBy (.ref C)) none := Looks.of_peek X hmb
  refine codeAny_of_tree ?_
  show wpAny _ _ (callAny (.ref C) _) _ _ _
  refine nd_load (X _ _ hC) ?_
  show wpAny _ _ (callAny.viaDunder (.ref C) _) _ _ _
  unfold callAny.viaDunder
  refine wpAny_bind (call.here ?_)
  dsimp only
  rw [tc_bind]
  refine wpAny_bind (wpAny_pure (wpAny_bind (wpAny_pure ?_)))
  refine wpAny_pure (a := Fin.again (.call (.builtin "type.__call__") ⟨.ref C :: rest, kw⟩)) (And.intro rfl ?_)
  refine codeAny_call_builtin_at (Code.quiet_builtin _ (by decide +kernel)) entry_typeCall (check_slot tc_kind tc_split typ (tc_args _ _ _) ?_)
  unfold Builtin.«type.__call__»
  have hmro : Looks (model prog w) s.heap (mroOf (.ref C)) cd.mro := ((Looks.ld (part := none) (X _ _ hC)).andThen .now).andThen .now
  repeat (first | refine cls_sm F X₀ hm hr e hp hv ?_ | refine wpAny_bind (cls_sm F X₀ hm hr e hp hv ?_) | simp only [he, Bool.false_eq_true, if_false] | with_reducible refine wpAny_call ?_ | lk)
  refine codeAny_mono h fun r s' z => ?_
  rcases r with er | (v | _ | _ | _) <;> first | exact z | exact z.elim | skip
  obtain ⟨kk, x, dx, rfl, hx, z⟩ := z
  have X' := X₀.keeps kk
  have t1 : Looks (model prog w) s'.heap (typeOf (.ref x)) (.ref C) := (Looks.ld (part := none) hx).andThen .now
  have s1 : Looks (model prog w) s'.heap (isSubtype (.ref C) (.ref C)) true := looks_mroIn X' hself
  have i1 := looks_findIn (M := model prog w) X' hi
  have b1 := bind_fn (M := model prog w) X' (.ref x) hf
  unfold isInstance callSpecial? specialOf
  repeat (first | with_reducible refine wpAny_call ?_ | lk)
  refine codeAny_mono z fun r s' z => ?_
  rcases r with e | (v | _ | _ | _) <;> first | exact z | exact z.elim | skip
  obtain ⟨rfl, z⟩ := z
  exact wpAny_pure (wpAny_pure z)
theorem new_own {news : List (Addr × Obj)} (F : Fr h₀ L s.heap m) (N : News h₀ L s.heap news) (X₀ : K.In h₀)
    (ho : ownCls K C = true) (hsb : peek K ⟨prog, w.params⟩ (Bind.staticBase (.ref C)) = some (.type "object")) (hmo : peek K ⟨prog, w.params⟩ (Bind.madeBy (.type "object")) = some (some "object.__new__")) (htop : mroIn K C (.type "object") = some true) (hty : instIn K (.ref C) (.type "type") = some true)
    (h : ∀ x dx h', Fr h₀ L h' m → News h₀ L h' ((x, instObj C dx) :: (dx, emptyDict) :: news) → (∀ p ∈ news, p.1 < dx) → dx < x → R (.ok (.ret (.ref x))) { s with heap := h' }) :
    codeAny (model prog w) A (.call (.builtin "object.__new__") ⟨[.ref C], []⟩) R s := by
  have X := X₀.keeps F.keep
  obtain ⟨oc, od, cd, sl, hC, e4, e1, e2⟩ := ownCls_of ho
  obtain ⟨hh, g, d, t, os⟩ := s
  dsimp only at X F N
  have hCh := X _ _ hC
  have N' := (N.push F emptyDict).push (F.push _) (instObj C hh.objs.size)
  rw [Heap.size_push] at N'
  have hq := h _ hh.objs.size _ ((F.push _).push _) N' (fun p hp => Heap.lt_size (N p hp).1) (Nat.lt_succ_self _)
  have base : Looks (model prog w) hh (Bind.staticBase (.ref C)) (.type "object") := Looks.of_peek X hsb
  have made : Looks (model prog w) hh (Bind.madeBy (.type "object")) (some "object.__new__") := Looks.of_peek X hmo
  have here : Looks (model prog w) hh (Bind.madeHere "object.__new__" (.ref C)) () := base.andThen (made.andThen (Looks.of_pure (by simp only [Option.map_some, bne_self_eq_false, Bool.false_eq_true, if_false])))
  have top : Looks (model prog w) hh (isSubtype (.ref C) (.type "object")) true := looks_mroIn X htop
  have typ : Looks (model prog w) hh (isInstance (.ref C) (.type "type")) true := looks_instIn X hty
  have FF := PySem.F.objNew
  refine codeAny_call_builtin_code (Code.quiet_builtin _ FF.quiet) ?_
  simp only [checkBuiltinCall, FF.kind, FF.split, FF.row]
  have args : Bind.checkArgs "object.__new__" ⟨.hand, "object.__new__", "__new__", .cls, []⟩ ⟨[.ref C], []⟩ = pure () := by kernel_rfl
  rw [args]
  repeat (first | simp only [bne_self_eq_false, Bool.false_eq_true, if_false] | lk)
  refine codeAny_builtin FF.entry ?_
  unfold Builtin.«object.__new__»
  repeat (first | simp only [e1, Bool.false_eq_true, if_false] | lk)
  refine nd_load (Heap.get?_push_of_some _ (Heap.get?_push_of_some _ hCh)) (wpAny_pure ?_)
  refine wpAny_pure ?_
  rw [e2]
  refine wpAny_pure (wpAny_pure ?_)
  show R _ _
  rw [Heap.size_push]
  exact hq
end
end Mine
namespace Mine
open PySem PySem.W PySem.Calls PyProof.Rows
set_option maxRecDepth 100000
set_option maxHeartbeats 1000000
def isDec : Code → Bool
  | .builtin id _ => Builtin.Bytes.decodersThatHold.contains id
  | _ => false
def Good (l : List (Code × Pos)) : Prop := ∀ x ∈ l, isDec x.1 = false
def GoodC (Γ : Ctx) : Prop := isDec Γ.code = false ∧ Good Γ.below
def wpG {α : Type} (M : Model) (A : Around) (t : Sem α) (Q : α → Shared → Prop) (E : Value → Shared → Prop) (s : Shared) : Prop :=
  ∀ Γ p, Γ.In A → GoodC Γ → Sem.wp M Γ t (fun a _ s' => Q a s') (fun e _ s' => E e s') p s
def codeG (M : Model) (A : Around) (c : Code) (R : Result → Shared → Prop) (s : Shared) : Prop :=
  ∀ Γ p, Γ.code = c → Γ.Below A → Good Γ.below → wpCode M Γ R p s
section
variable {α β : Type} {M : Model} {A : Around} {E : Value → Shared → Prop} {s : Shared}
theorem wpG_of {t : Sem α} {Q : α → Shared → Prop} (h : wpAny M A t Q E s) : wpG M A t Q E s := fun Γ p hΓ _ => h Γ p hΓ
theorem codeG_of {c : Code} {R : Result → Shared → Prop} (h : codeAny M A c R s) : codeG M A c R s := fun Γ p hc hΓ _ => h Γ p hc hΓ
theorem wpG_bind {m : Sem α} {f : α → Sem β} {Q : β → Shared → Prop} (h : wpG M A m (fun a s' => wpG M A (f a) Q E s') E s) : wpG M A (m >>= f) Q E s := fun Γ p hΓ g => by
  rw [Sem.wp_bind']
  exact Sem.wp_mono M Γ m (fun a p' s' h' => h' Γ p' hΓ g) (fun _ _ _ h' => h') p s (h Γ p hΓ g)
theorem wpG_bindA {m : Sem α} {f : α → Sem β} {Q : β → Shared → Prop} (h : wpAny M A m (fun a s' => wpG M A (f a) Q E s') E s) : wpG M A (m >>= f) Q E s := wpG_bind (wpG_of h)
theorem wpG_mono {t : Sem α} {Q Q' : α → Shared → Prop} {E' : Value → Shared → Prop} (h : wpG M A t Q E s) (hQ : ∀ a s, Q a s → Q' a s) (hE : ∀ e s, E e s → E' e s) : wpG M A t Q' E' s :=
  fun Γ p hΓ g => Sem.wp_mono M Γ t (fun a _ s => hQ a s) (fun e _ s => hE e s) p s (h Γ p hΓ g)
theorem wpG_pure {a : α} {Q : α → Shared → Prop} (h : Q a s) : wpG M A (pure a) Q E s := wpG_of (wpAny_pure h)
theorem wpG_holding {vs : List Value} {m : Sem α} {Q : α → Shared → Prop} (h : wpG M A m Q E s) : wpG M A (holding vs m) Q E s := fun Γ p hΓ g => by rw [Sem.wp_holding]; exact h Γ p hΓ g
theorem wpG_look {t : Sem α} {r : α} {Q : α → Shared → Prop} (L : Looks M s.heap t r) (h : Q r s) : wpG M A t Q E s := wpG_of (L.here h)
theorem goodEnter {Γ : Ctx} (g : GoodC Γ) (c : Code) (h : Option Value) (p : Pos) : Good (Γ.enter c h p).below := fun x hx => by
  rcases List.mem_cons.mp (show x ∈ (Γ.code, p) :: Γ.below from hx) with rfl | hx
  · exact g.1
  · exact g.2 x hx
theorem wpG_runValue {c : Code} {Q : Value → Shared → Prop} (hc : codeG M A c (fun r s' => match r with | .ok (.ret v) => Q v s' | .ok _ => False | .error e => E e s') s) : wpG M A (runValue c) Q E s := fun Γ p hΓ g => by
  rw [Sem.wp_runValue]
  exact hc _ p rfl (hΓ.enter c none p (by intro x; cases x)) (goodEnter g c none p)
theorem wpG_call {f : Value} {pos : List Value} {kw : List (Str × Value)} {Q : Value → Shared → Prop} (hc : codeG M A (.call f ⟨pos, kw⟩) (fun r s' => match r with | .ok (.ret v) => Q v s' | .ok _ => False | .error e => E e s') s) : wpG M A (call f pos kw) Q E s := wpG_runValue hc
theorem codeG_mono {c : Code} {R R' : Result → Shared → Prop} (h : codeG M A c R s) (hR : ∀ r s, R r s → R' r s) : codeG M A c R' s := fun Γ p hc hΓ g => wpCode_mono hR (h Γ p hc hΓ g)
theorem codeG_of_tree {c : Code} {R : Result → Shared → Prop} (hd : isDec c = false)
    (h : wpG M (A.under c) (M.den c) (fun fin s' => match fin with | .done f => R (.ok f) s' | .again c' => c'.quiet = true ∧ codeG M A c' R s') (fun e s' => R (.error e) s') s) : codeG M A c R s := fun Γ p hc hΓ g => by
  rw [wpCode_iff_wp, hc]
  refine Sem.wp_mono M Γ _ (fun fin p' s' h' => ?_) (fun _ _ _ h' => h') p s (h Γ p (hc ▸ hΓ.in) ⟨hc ▸ hd, g⟩)
  cases fin with
  | done f => exact h'
  | again c' => exact ⟨h'.1, h'.2 (Γ.goto c') p' rfl (hΓ.goto c') g⟩
end
end Mine
namespace Mine
open PySem PySem.W PySem.Calls PyProof.Rows
set_option maxRecDepth 100000
set_option maxHeartbeats 4000000
theorem caller_good : GoodC (⟨.builtin "claim.caller" {}, none, none, [], none⟩ : Ctx) := ⟨by decide +kernel, fun x hx => nomatch hx⟩
theorem endsG {prog : Program} {w : World} {t : Sem Fin} {s : Shared} {R : Result → Shared → Prop} (hreg : s.asleep)
    (h : wpG (model prog w) callerA t (fun fin s' => ∃ f, fin = .done f ∧ (R (.ok f) s' ∧ leftWithCleanup s'.gens = false)) (fun e s' => R (.error e) s' ∧ leftWithCleanup s'.gens = false) s) :
    ∃ n r s' s'', runN (denote table) prog w n s ⟨t, .builtin "claim.caller" {}, default, []⟩ = .halted (outcomeOf r) s' ∧
      schedN (denote table) prog w n (.single s ⟨t, .builtin "claim.caller" {}, default, []⟩) = .halted (outcomeOf r) s' ∧ s'.forget = s''.forget ∧ R r s'' := by
  have h1 := Sem.wp_mono (model prog w) _ t (post' := Sem.finPost (model prog w) ⟨.builtin "claim.caller" {}, none, none, [], none⟩ (fun r s' => R r s' ∧ leftWithCleanup s'.gens = false))
    (fun fin _ s' z => by obtain ⟨f, rfl, hf⟩ := z; exact hf) (fun _ _ _ z => z) default s (h _ default caller_in caller_good)
  obtain ⟨n, r, a, b, hs, hn, hfo, hR⟩ := wp_halts_full (M := model prog w) (R := R) hreg h1
  exact ⟨n, r, b, a, hn, hs, hfo, hR⟩
theorem callFromG {c : ClaimW} {tree : List Value → Sem Fin} {w : World} {s : Shared} {free : Addr → Prop} {gens : Prop} {kept : Heap → Prop} (hz : s.asleep) (hgens : s.gens = #[])
    (hspec : ∀ args, c.pre args = true → WData.layableAll args = true → ∀ ord : List DictEntry → List DictEntry, (∀ l, (ord l).Perm l) →
      ∃ vs s₁, layAllW c.records (classAt s.heap) w.params ord args s = some (vs, s₁) ∧
        wpG (model c.prog w) callerA (tree vs) (fun fin s' => ∃ f, fin = .done f ∧ (c.Ends s args vs s₁ (.ok f) s' ∧ s'.os = s.os ∧ AllBare s'.gens ∧ kept s'.heap))
          (fun e s' => c.Ends s args vs s₁ (.error e) s' ∧ s'.os = s.os ∧ AllBare s'.gens ∧ kept s'.heap) s₁) :
    c.CallFrom (fun vs => ⟨tree vs, .builtin "claim.caller" {}, default, []⟩) w free gens kept s := by
  intro args hpre hlay ord hord
  obtain ⟨vs, s₁, hlaid, hcode⟩ := hspec args hpre hlay ord hord
  have hal := layAllW_rest _ _ _ hlaid
  have hrun0 := endsG (prog := c.prog) (w := w) (t := tree vs) (s := s₁) (R := fun r s' => c.Ends s args vs s₁ r s' ∧ s'.os = s.os ∧ kept s'.heap) (Shared.asleep_of_life hal.2.2.2 hz)
    (wpG_mono hcode (fun fin s' z => by obtain ⟨f, e, z1, z2, z3, z4⟩ := z; exact ⟨f, e, ⟨z1, z2, z4⟩, leftWithCleanup_false_of_bare z3⟩)
      (fun e s' z => by obtain ⟨z1, z2, z3, z4⟩ := z; exact ⟨⟨z1, z2, z4⟩, leftWithCleanup_false_of_bare z3⟩))
  obtain ⟨k, r, s', s'', hrun, hsched, hfo, hcase, hos, hkp⟩ := hrun0
  obtain ⟨eh, _, _, eo, _⟩ := Shared.forget_eq hfo
  replace hcase := hcase.congr eh
  replace hkp : kept s'.heap := by rw [eh]; exact hkp
  rw [← eo] at hos
  have hlife : s'.heap.life = s.heap.life := (runN_life _ _ _ hrun).trans hal.2.2.2
  refine ⟨vs, s₁, hlaid, k, _, s', hsched, ?_, (fun _ i x hx => by rw [hgens] at hx; simp at hx), hkp, by rw [hlife], Shared.rest_eq hos⟩
  rcases hcase with ⟨v, rfl, d1, d2, d3, d4, d5⟩ | ⟨e, ob, cls, rfl, d1, d2, d3, d4, d5⟩
  · exact .inl ⟨v, rfl, d1, d2, d3, fun b o y _ => d4 b o y, d5⟩
  · exact .inr ⟨e, ob, cls, rfl, d1, d2, d3, d4, fun b o y _ => d5 b o y⟩

abbrev WalkG (q : Program) (loose : List Str) (XP : (Str → Option Value) → Heap → Prop) (YP : World → Heap → Prop) (r : RowW) (d : DefRec) (kwd : List (Str × Expr)) : Prop :=
  ∀ (w : World) (s₀ s₁ : Shared) (mg mb : Str → Option Value), Ground q loose r.records XP w s₀ mg mb s₁.heap → YP w s₁.heap → ∀ (a : Addr) (o : Obj) (pm cd doc dV kV : Value), s₁.heap.get? a = some o →
    o.data = .func { docDef d.name d.params d.body d.scope pm cd doc with defaults := dV, kwdefaults := kV } → s₁.heap.CodeRec cd d.name → Dflts mg s₁.heap d.params kwd dV kV → mg d.name = some (.ref a) → s₁.gens = #[] →
    ∀ (args : List WData) (vals : List Value) (as : List Addr), r.claim.pre args = true → WData.layableAll args = true → ReadsAllW r.records (classAt s₀.heap) s₁.heap vals args as → WellAll w.params s₁.heap vals args → (∀ a ∈ as, (a == sysModules) = false) →
      wpG (model r.prog w) callerA (PySem.call (.ref a) vals) (fun v s' => GoodWG r.claim (classAt s₀.heap) (ExcName.means s₀.heap) args s₁ (.ok (.ret v)) s')
        (fun e s' => GoodWG r.claim (classAt s₀.heap) (ExcName.means s₀.heap) args s₁ (.error e) s') s₁
theorem openG {r : OpenRow} {q : Program} {loose : List Str} {Xt : Shared → Bool} {XP : (Str → Option Value) → Heap → Prop} {α : Type} {Yf : Shared → α} {Ya : World → α} {YP : World → Heap → Prop} {d : DefRec} {kwd : List (Str × Expr)} {N : Nat}
    (left : LeftO r.prog q loose Xt Yf Ya N) (hY : ∀ w s, Yf s = Ya w → YP w s.heap) (hYk : ∀ w h h', YP w h → (∀ b o, h.get? b = some o → h'.get? b = some o) → YP w h')
    (hX : ∀ s, Xt s = true → XP (s.heap.nsMap mainGlobals) s.heap) (hXk : ∀ mg h h', XP mg h → (∀ b o, h.get? b = some o → h'.get? b = some o) → XP mg h')
    (hdef : defOf q r.name = some (d, kwd)) (hp : r.prog.theDef r.name = some (d.params, d.body, d.scope)) (hk : kwWritten? d.params.kwonlyargs d.params.kw_defaults = some kwd) (hRf : ∀ s, Xt s = true → RecFacts r.records s.heap) (hwr : (!r.writes || r.records.isEmpty) = true)
    (k1 : r.wellSaid = true) (ok : (chainsOk q && opensWell r.prog && (frees r.toRowW && r.within.isEmpty)) = true) (hb : r.prog.bare) (hw : r.toRowW.promised)
    (call : WalkG q loose XP YP r.toRowW d kwd) : r.Holds := by
  refine ⟨k1, hw, ?_⟩
  obtain ⟨ok12, ok34⟩ := Bool.and_eq_true_iff.mp ok
  obtain ⟨hch, o1⟩ := Bool.and_eq_true_iff.mp ok12
  obtain ⟨k5, k6⟩ := Bool.and_eq_true_iff.mp ok34
  obtain ⟨hsame, hu, ha, hap, hm⟩ := frees_parts k5
  refine ⟨⟨hb, o1, by show r.makers.map _ = []; rw [hm]; rfl⟩, hw.witness, fun w => ⟨(left.behind hX hch w).1, fun s' hs' => ?_⟩⟩
  have hbeh := (left.behind (XP := fun mg h => XP mg h ∧ RecFacts r.records h) (fun s hs => ⟨hX s hs, hRf s hs⟩) hch w).2 s' hs'
  obtain ⟨s₀, hf, hg0, s, hT, hz, hgens, hg, G00, y⟩ := hbeh
  have G0 : Ground q loose [] XP w s (s.heap.nsMap mainGlobals) (s.heap.nsMap builtinsNs) s.heap := { G00 with X := G00.X.1 }
  have RF := G00.X.2
  have hgens' : s.gens = #[] := Array.eq_empty_of_size_eq_zero (beq_iff_eq.mp hgens)
  have G : Ground q loose r.records XP w s _ _ s.heap := RF.ground G0
  refine ⟨s₀, hf, hg0, s, hT, ?_, RF.1, RF.2.1, ?_⟩
  · intro n hn
    obtain rfl : n = r.name := by split at hn <;> simp_all
    exact pinned_of_view hg G0 hdef hp hk
  refine callFromG (c := r.claim) hz hgens' fun args hpre hlay ord hord => ?_
  obtain ⟨⟨vs, s₁⟩, hlaid⟩ := Option.isSome_iff_exists.mp (layAllW_isSome (P := w.params) (ord := ord) G.has args r.args s (pre_splitW hpre).1)
  have keeps := layAllW_keeps _ _ _ hlaid
  have hal := layAllW_rest _ _ _ hlaid
  obtain ⟨as, hrd, hin, hold⟩ := reads_layAllW hord _ _ _ hlaid hlay s₁.heap (fun _ _ e => e)
  have L : Laid r.records w s s₁ args vs as := ⟨⟨ord, hord, hlaid⟩, hrd, hin, hold, keeps, hal.1.trans hgens', hal.2.2.1⟩
  have G₁ := G.keeps hXk keeps
  obtain ⟨a, o, pm, cd, doc, dV, kV, h1, h2, h3, h4, h5⟩ := G₁.fn hdef
  have hi := ident_freeW hu ha hap
  have hwi : r.claim.within = [] := List.isEmpty_iff.mp k6
  have hrun := call w s s₁ _ _ G₁ (hYk _ _ _ (hY w s y) keeps) a o pm cd doc dV kV h2 h3 h4 h5 (defOf_name hdef ▸ h1) L.gens args vs as hpre hlay L.reads L.well (L.low G.low)
  refine ⟨vs, s₁, hlaid, ?_⟩
  refine wpG_bindA (wpAny_nsGet G₁.T.g ?_)
  rw [h1]
  refine wpG_bind (wpG_mono hrun (fun v s' g => wpG_pure ?_) fun e s' g => ?_)
  · have z := g.laid (c := r.claim) hsame hwi hi L
    exact ⟨_, rfl, z.1, z.2.1, z.2.2, fun q => ⟨namesKept_of hT hg r.keeps keeps g.2.1.old, noTable hwr q⟩⟩
  · have z := g.laid (c := r.claim) hsame hwi hi L
    exact ⟨z.1, z.2.1, z.2.2, fun q => ⟨namesKept_of hT hg r.keeps keeps g.2.1.old, noTable hwr q⟩⟩

theorem def04_is : (defOf Mine.hd.view_39 (Str.ofString "law")).isSome = true := by kernel_rfl
noncomputable def def04 : DefRec := ((defOf Mine.hd.view_39 (Str.ofString "law")).get def04_is).1
theorem ok04a : chainsOk Mine.hd.view_39 = true := by kernel_rfl
theorem ok04b : opensWell PySem.Challenge.rw_dn0266_04.row.prog = true := by kernel_rfl
theorem ok04c : (frees PySem.Challenge.rw_dn0266_04.row.toRowW && PySem.Challenge.rw_dn0266_04.row.within.isEmpty) = true := by kernel_rfl
theorem ok04 : (chainsOk Mine.hd.view_39 && opensWell PySem.Challenge.rw_dn0266_04.row.prog && (frees PySem.Challenge.rw_dn0266_04.row.toRowW && PySem.Challenge.rw_dn0266_04.row.within.isEmpty)) = true := by rw [ok04a, ok04b, ok04c]; rfl
theorem bare04 : PySem.Challenge.rw_dn0266_04.row.prog.tablesWhole = true := by kernel_rfl
theorem said04 : PySem.Challenge.rw_dn0266_04.wellSaid = true := by kernel_rfl
theorem wit04a : PySem.Challenge.rw_dn0266_04.row.claim.pre [WData.list []] = true := by kernel_rfl
theorem wit04b : (WData.layableAll [WData.list []] && PySem.Challenge.rw_dn0266_04.row.returnsAt [WData.list []]) = true := by kernel_rfl
theorem hdG04 (walk : WalkG Mine.hd.view_39 loose04 (XL Mine.hd.view_39 []) hook04.says PySem.Challenge.rw_dn0266_04.row.toRowW def04 []) : PySem.Challenge.rw_dn0266_04.Holds := by
  refine holds_law said04 fun said => ?_
  exact openG (d := def04) (kwd := []) left04 hook04.of hook04.keeps (fun s e => xl_of s (Bool.and_eq_true_iff.mp e).1) XL.keeps (by kernel_rfl) (by kernel_rfl) (by kernel_rfl) (fun s e => recFacts_of (Bool.and_eq_true_iff.mp e).2) (by kernel_rfl) said ok04 ⟨rfl, rfl, rfl, rfl, rfl, bare04⟩ ⟨[WData.list []], wit04a, wit04b⟩ walk
end Mine
namespace Mine
open PySem PySem.W PySem.Calls PyProof.Rows
set_option maxRecDepth 100000
set_option maxHeartbeats 4000000
theorem f4_own (P : Params) : ownCls (hd.heap_39 P) 365 = true := by kernel_rfl
theorem f4_mb (S : Setting) (P : Params) : peek (hd.heap_39 P) S (Bind.madeBy (.ref 365)) = some none := by kernel_rfl
theorem f4_sb (S : Setting) (P : Params) : peek (hd.heap_39 P) S (Bind.staticBase (.ref 365)) = some (.type "object") := by kernel_rfl
theorem f4_mo (S : Setting) (P : Params) : peek (hd.heap_39 P) S (Bind.madeBy (.type "object")) = some (some "object.__new__") := by kernel_rfl
theorem f5_own (P : Params) : ownCls (hd.heap_39 P) 612 = true := by kernel_rfl
theorem f5_mb (S : Setting) (P : Params) : peek (hd.heap_39 P) S (Bind.madeBy (.ref 612)) = some none := by kernel_rfl
theorem f5_sb (S : Setting) (P : Params) : peek (hd.heap_39 P) S (Bind.staticBase (.ref 612)) = some (.type "object") := by kernel_rfl
end Mine
namespace Mine
open PySem PySem.W PySem.Calls PyProof.Rows
set_option maxRecDepth 100000
set_option maxHeartbeats 1000000
section
variable {prog : Program} {w : World} {A A₀ : Around} {s : Shared} {R : Result → Shared → Prop}
theorem wpG_onRaise {α : Type} {M : Model} {E : Value → Shared → Prop} {m : Sem α} {k : Value → Sem Unit} {Q : α → Shared → Prop} (h : wpG M A m Q (fun e s' => wpG M A (k e) (fun _ s'' => E e s'') E s') s) : wpG M A (m.onRaise k) Q E s := fun Γ p hΓ g => by
  rw [Sem.wp_onRaise]
  exact Sem.wp_mono M Γ m (fun _ _ _ h' => h') (fun e p' s' h' => h' Γ p' hΓ g) p s (h Γ p hΓ g)
theorem funcG {body : List Stmt} {env : Env}
    (h : wpG (model prog w) (A.deeper env) (execs body env) (fun f s' => R (.ok (.ret (match f with | .ret v => v | _ => .none))) s')
      (fun e s' => wpG (model prog w) (A.deeper env) (leaving env e) (fun _ s'' => R (.error e) s'') (fun e' s'' => R (.error e') s'') s') s) :
    codeG (model prog w) A (.func body env) R s := by
  refine codeG_of_tree rfl ?_
  show wpG _ (A.deeper env) (do point; match ← (execs body env).onRaise (leaving env) with | .ret v => ret v | _ => ret .none) _ _ s
  refine wpG_bindA (wpAny_point (wpG_bind (wpG_onRaise (wpG_mono h (fun f s' h' => ?_) fun _ _ h' => h'))))
  cases f <;> exact wpG_pure h'
theorem callG_function {a : Addr} {args : Args} {o : Obj} {fd : FuncData} {body : List Stmt} (hroom : A.depth < recursionLimit) (ho : s.heap.get? a = some o)
    (hd' : o.data = .func fd) (hco : fd.scope.isCoroutine = false) (hgen : fd.scope.isGenerator = false) (hbody : fd.body = .stmts body) (hcd : s.heap.CodeRec fd.code fd.qualname)
    (h : wpAny (model prog w) A.in1 (bindArgs fd args) (fun binds s₁ =>
      wpAny (model prog w) A.in1 (newFunctionEnv fd.scope fd.globals fd.closure binds (fd.qualname ++ ".<locals>.") (some a) fd.code none fd.builtins)
        (fun env s₂ => s₂.heap.NoLimit ∧ codeG (model prog w) A (.func body env) R s₂) (fun e s' => R (.error e) s') s₁) (fun e s' => R (.error e) s') s) :
    codeG (model prog w) A (.call (.ref a) args) R s := by
  refine codeG_of_tree rfl (wpG_of ?_)
  show wpAny _ A.in1 (callAny (.ref a) args) _ _ s
  simp only [callAny]
  refine wpAny_bind (wpAny_load ho ?_)
  obtain ⟨c, oc, vs, tq, hc, hoc, hdc, hq⟩ := hcd
  simp only [hd', callFunction, hco, hgen, hbody, hc]
  rw [hc] at h
  refine wpAny_bind (m := field (.ref c) 1) (wpAny_field hoc hdc hq (wpAny_bind (wpAny_pure ?_)))
  exact wpAny_bind (wpAny_mono h (fun binds s₁ h₁ => wpAny_bind (wpAny_mono h₁ (fun env s₂ h₂ => wpAny_bind (wpAny_enterFrame h₂.1 hroom (wpAny_pure (And.intro rfl h₂.2)))) fun _ _ h' => h')) fun _ _ h' => h')
end
section
variable {prog : Program} {w : World} {A A₀ : Around} {s : Shared} {base h₀ : Heap} {outer : List Env} {L : Addr} {m : Str → Option Value} {env : Env} {news : List (Addr × Obj)} {K : Frag} {p : Program} {loose : List Str} {mean : ExcName → Option Value} {mg mb : Str → Option Value}
  {R : Result → Shared → Prop} {name qual : Str} {params : Arguments} {body : List Stmt} {scope : Scope} {cl : List (Str × Addr)} {dV kV doc pm cdv ct oc : Value} {an od : Option Addr} {osl : Array (Option Value)} {f : Addr} {args : Args} {binds : List (Str × Value)}
theorem defG (B : Below A₀ base outer h₀) (F : Fr h₀ L s.heap m) (X₀ : K.In h₀) (N : News h₀ L s.heap news) (T : Top p loose mean mg mb h₀) (hA : A.frames = some (env :: outer)) (hf : env.frame = some L) (hke : env.scope.kind = .function)
    (ho : K.lookup f = some ⟨oc, od, .func (fnOf name qual params body scope dV kV doc pm an cdv ct), osl⟩) (hcd : codeIn K cdv qual = true) (hroom : A.depth < recursionLimit)
    (hbind : BindsTo s (fnOf name qual params body scope dV kV doc pm an cdv ct) args binds) (hloc : ∀ y ∈ binds, scope.names.lookup y.1 = some .local)
    (h : ∀ g L' h₁, Fr h₀ L g m → Fr g L' h₁ (fun y => binds.reverse.lookup y) → News g L' h₁ news → Below A base (env :: outer) g → K.In g → Top p loose mean mg mb g →
      wpG (model prog w) (A.deeper (envOf qual scope L' f cdv)) (execs body (envOf qual scope L' f cdv))
        (fun fl s' => LeaveK h₀ L m g R (match fl with | .ret v => v | _ => .none) s')
        (fun e s' => wpG (model prog w) (A.deeper (envOf qual scope L' f cdv)) (leaving (envOf qual scope L' f cdv) e) (fun _ s'' => R (.error e) s'') (fun e' s'' => R (.error e') s'') s')
        { s with heap := h₁, toks := s.toks + binds.length })
    (hco : scope.isCoroutine = false) (hgen : scope.isGenerator = false) (hk : scope.kind = .function)
    (hcell : ∀ x ∈ scope.names, x.2 ≠ .cell) : codeG (model prog w) A (.call (.ref f) args) R s := by
  obtain ⟨FG, BG, st, lv⟩ := groundX (R := R) B F N hA hf hke
  refine callG_function hroom ((X₀.keeps F.keep) _ _ ho) rfl hco hgen rfl (codeRec_of (X₀.keeps F.keep) hcd) (hbind _ _ _ _ ?_)
  refine wpAny_newFunctionEnv hcell hloc (fun h₁ hns hsb => ⟨(T.nolimit.keeps F.keep).fresh _ hsb, funcG ?_⟩) hk
  have hk₁ : ∀ b o, s.heap.get? b = some o → h₁.get? b = some o := fun b o e => hsb.extBut b o (Nat.ne_of_lt (Heap.lt_size e)) (Heap.get?_push_of_some _ e)
  exact wpG_mono (h _ s.heap.objs.size h₁ FG ⟨hns, fun b o e => hk₁ b o (of_hideAll _ e), Nat.le_of_eq (hideAll_size _ _)⟩
    (fun p hp => ⟨hk₁ _ _ (N p hp).1, Nat.ne_of_lt (Heap.lt_size (N p hp).1), hideAll_none _ (List.mem_map_of_mem hp)⟩) BG (X₀.keeps st) (T.keeps st)) (fun fl s' hl => lv _ _ hl) fun _ _ y => y
end
end Mine
namespace Mine
open PySem PySem.W PySem.Calls PyProof.Rows
set_option maxRecDepth 100000
set_option maxHeartbeats 1000000
section
variable {M : Model} {A : Around} {E : Value → Shared → Prop} {s : Shared} {env : Env}
theorem execsG_cons {st : Stmt} {rest : List Stmt} {Q : Flow → Shared → Prop} (h : wpG M A (exec st env) (fun f s' => match f with | .next => wpG M A (execs rest env) Q E s' | f => Q f s') E s) : wpG M A (execs (st :: rest) env) Q E s := by
  rw [execs_cons]
  refine wpG_bind (wpG_mono h (fun f s' h' => ?_) fun _ _ z => z)
  cases f <;> first | exact h' | exact wpG_pure h'
theorem execsG_append {rest : List Stmt} {Q : Flow → Shared → Prop} : ∀ {front : List Stmt} {s : Shared}, wpAny M A (execs front env) (fun f s' => match f with | .next => wpG M A (execs rest env) Q E s' | f => Q f s') E s → wpG M A (execs (front ++ rest) env) Q E s
  | [], s, h => fun Γ p hΓ g => by
    have := h Γ p hΓ
    exact (show (match Flow.next with | .next => wpG M A (execs rest env) Q E s | f => Q f s) from this) Γ p hΓ g
  | st :: front, s, h => fun Γ p hΓ g => by
    have h1 := h Γ p hΓ
    show Sem.wp M Γ (execs (st :: (front ++ rest)) env) _ _ p s
    rw [execs_cons, Sem.wp_bind'] at h1 ⊢
    refine Sem.wp_mono M Γ _ (fun f p' s' h' => ?_) (fun _ _ _ z => z) p s h1
    cases f with
    | next =>
      have h2 : Sem.wp M Γ (execs front env) (fun f _ s' => match f with | .next => wpG M A (execs rest env) Q E s' | f => Q f s') (fun e _ s' => E e s') p' s' := h'
      exact execG_pt hΓ g h2
    | _ => exact h'
where execG_pt {rest : List Stmt} {Q : Flow → Shared → Prop} {Γ : Ctx} (hΓ : Γ.In A) (g : GoodC Γ) : ∀ {front : List Stmt} {p : Pos} {s : Shared}, Sem.wp M Γ (execs front env) (fun f _ s' => match f with | .next => wpG M A (execs rest env) Q E s' | f => Q f s') (fun e _ s' => E e s') p s → Sem.wp M Γ (execs (front ++ rest) env) (fun f _ s' => Q f s') (fun e _ s' => E e s') p s
  | [], p, s, h => (show (match Flow.next with | .next => wpG M A (execs rest env) Q E s | f => Q f s) from h) Γ p hΓ g
  | st :: front, p, s, h => by
    show Sem.wp M Γ (execs (st :: (front ++ rest)) env) _ _ p s
    rw [execs_cons, Sem.wp_bind'] at h ⊢
    refine Sem.wp_mono M Γ _ (fun f p' s' h' => ?_) (fun _ _ _ z => z) p s h
    cases f with
    | next => exact execG_pt hΓ g h'
    | _ => exact h'
theorem exprG {prog : Program} {w : World} {e : PySem.Expr} {pos : Pos} {Q : Flow → Shared → Prop} (h : wpG (model prog w) A (eval e env) (fun _ s' => Q .next s') E s) (hi : interactive env = false) (hs : swapsWith e none pos.line env = pure false) : wpG (model prog w) A (exec (.Expr e pos) env) Q E s := by
  rw [exec_Expr env e pos hi hs]
  exact wpG_bindA (wpAny_standAt (wpG_bind (wpG_mono h (fun v s' h' => wpG_of (wpAny_dropValue h')) fun _ _ x => x)))
theorem keepG {α : Type} {vs : List Value} {t : Sem α} {Q : α → Shared → Prop} (h : wpG M A t Q E s) : wpG M A (t.keep vs) Q E s := fun Γ p hΓ g => by rw [Sem.wp_keep]; exact h Γ p hΓ g
theorem splicedG_cons {x : Sem Value} {rest : List (Bool × Sem Value)} {Q : List Value → Shared → Prop}
    (h : wpG M A x (fun v s₁ => wpG M A (spliced rest) (fun vs s₂ => Q (v :: vs) s₂) E s₁) E s) : wpG M A (spliced ((false, x) :: rest)) Q E s := by
  rw [spliced]
  refine wpG_bind (wpG_mono h (fun v s₁ h₁ => ?_) fun _ _ x => x)
  simp only [Bool.false_eq_true, if_false]
  exact wpG_bindA (wpAny_pure (wpG_bind (wpG_holding (wpG_mono h₁ (fun vs s₂ h₂ => wpG_pure h₂) fun _ _ x => x))))
theorem argsG {f : Value} {x : Sem Value} {rest : List (Bool × Sem Value)} {Q : Args → Shared → Prop}
    (h : wpG M A (spliced ((false, x) :: rest)) (fun vs s' => Q ⟨vs, []⟩ s') E s) : wpG M A (evalArgs f true ((false, x) :: rest) []) Q E s := by
  unfold evalArgs
  show wpG M A (spliced ((false, x) :: rest) >>= _) Q E s
  refine wpG_bind (wpG_mono h (fun vs s' h' => ?_) fun _ _ x => x)
  refine wpG_holding ?_
  exact wpG_bindA (wpAny_pure (wpG_bindA (wpAny_pure (wpG_pure h'))))
theorem callWithG {pos : Pos} {f : Value} {first : List Value} {Q : Value → Shared → Prop} {P : Heap → Prop} {args : List (Bool × Sem Value)} {keywords : List (Option Str × Sem Value)} (hplain : (args.any (·.1) || keywords.any (·.1.isNone)) = false)
    (hk : ∀ h, P h → ∃ k, (k = Keeper.frame ∨ k = Keeper.machine ∨ k = Keeper.boundFrame) ∧ Looks M h (keeperOf f) k)
    (h : wpG M A (evalArgs f true args keywords) (fun a s₁ => P s₁.heap ∧ wpG M A (call f (first ++ a.pos) a.kw) Q E s₁) E s) : wpG M A (callWith pos f first args keywords) Q E s := by
  unfold callWith
  refine wpG_bind (wpG_holding (wpG_mono h (fun a s₁ h₁ => wpG_bindA (wpAny_standAt ?_)) fun _ _ x => x))
  obtain ⟨k, hk', L⟩ := hk _ h₁.1
  simp only [hplain]
  refine wpG_bindA (L.here ?_)
  have tail : ∀ {t : Sem Value}, wpG M A t Q E s₁ → wpG M A (t >>= fun r => holding [r] point >>= fun _ => pure r) Q E s₁ :=
    fun ht => wpG_bind (wpG_mono ht (fun r s₂ hr => wpG_bindA (wpAny_holding (wpAny_point (wpG_pure hr)))) fun _ _ x => x)
  have marked (mk : Value) : wpG M A (callMarked mk f (first ++ a.pos) a.kw) Q E s₁ := by unfold callMarked; exact keepG h₁.2
  rcases hk' with rfl | rfl | rfl <;> dsimp only <;> first | exact tail h₁.2 | (split <;> first | exact tail h₁.2 | exact tail (marked _))
theorem callNameG {id : Str} {p pos : Pos} {args : List PySem.Expr} {keywords : List Keyword} {Q : Value → Shared → Prop}
    (h : wpAny M A (eval (.Name id p) env) (fun f s₁ => wpG M A (callWith pos f [] (backTo pos (starEach args env)) (backToKw pos (keywordEach keywords env))) Q E s₁) E s) :
    wpG M A (eval (.Call (.Name id p) args keywords pos) env) Q E s := by
  rw [arm_eval_Call_Name']
  exact wpG_bindA h
theorem callAttrG {o : PySem.Expr} {name : Str} {apos pos : Pos} {args : List PySem.Expr} {kws : List Keyword} {pl : Sem Bool} {Q : Value → Shared → Prop}
    (h : wpAny M A (eval o env) (fun ov s₁ => wpAny M A (getMethod ov name pl) (fun fx s₂ => wpG M A (callWith pos fx.1 fx.2 (backTo pos (starEach args env)) (backToKw pos (keywordEach kws env))) Q E s₂) E s₁) E s)
    (he : eval (.Call (.Attribute o name apos) args kws pos) env = (do
      let ov ← eval o env
      standAt apos.atName
      let (f, first) ← holding [ov] (getMethod ov name pl)
      callWith pos f first (backTo pos (starEach args env)) (backToKw pos (keywordEach kws env))) := by rfl) :
    wpG M A (eval (.Call (.Attribute o name apos) args kws pos) env) Q E s := by
  rw [he]
  refine wpG_bindA (wpAny_mono h (fun ov s₁ h₁ => wpG_bindA (wpAny_standAt (wpG_bindA (wpAny_holding (wpAny_mono h₁ (fun fx s₂ h₂ => ?_) fun _ _ x => x))))) fun _ _ x => x)
  exact h₂
end
end Mine
namespace Mine
open PySem PySem.W PySem.Calls PyProof.Rows
set_option maxRecDepth 100000
set_option maxHeartbeats 1000000
def holdsB (self : Value) : Code × Pos → Bool
    | (.builtin "bytearray.__contains__" ⟨v :: _, _⟩, _) | (.builtin "bytearray.__mod__" ⟨v :: _, _⟩, _)
    | (.builtin "bytearray.__rmod__" ⟨_ :: v :: _, _⟩, _) | (.builtin "_struct.pack_into.held" ⟨v :: _, _⟩, _) => Builtin.Bytes.sameRef v self
    | (.builtin "bytearray.find.held" ⟨_ :: _ :: held, _⟩, _) => held.any (Builtin.Bytes.sameRef self)
    | (.builtin id ⟨v :: _, _⟩, _) => Builtin.Bytes.sameRef v self && Builtin.Bytes.decodersThatHold.contains id
    | _ => false
theorem exported_eq (self : Value) : Builtin.Bytes.exported self = (do return (← stack).any (holdsB self)) := rfl
theorem holdsB_no {self : Value} {c : Code} {p : Pos} (h1 : c.isGuard = false) (h2 : isDec c = false) : holdsB self (c, p) = false := by
  cases c with
  | builtin id args =>
    obtain ⟨pos, kw⟩ := args
    have g : guardIds.contains id = false := h1
    have d : Builtin.Bytes.decodersThatHold.contains id = false := h2
    unfold holdsB
    split
    · rename_i e; cases e; exact absurd g (by decide +kernel)
    · rename_i e; cases e; exact absurd g (by decide +kernel)
    · rename_i e; cases e; exact absurd g (by decide +kernel)
    · rename_i e; cases e; exact absurd g (by decide +kernel)
    · rename_i e; cases e; exact absurd g (by decide +kernel)
    · rename_i e; cases e; rw [d, Bool.and_false]
    · rfl
  | _ => rfl
section
variable {M : Model} {A : Around} {E : Value → Shared → Prop} {s : Shared}
theorem any_no {self : Value} : ∀ {l : List (Code × Pos)}, guardsOf l = [] → Good l → l.any (holdsB self) = false
  | [], _, _ => rfl
  | (c, p) :: l, hg, gd => by
    rw [guardsOf_cons] at hg
    have h1 := (List.append_eq_nil_iff.mp hg)
    have hc : c.isGuard = false := by
      cases q : c.isGuard with
      | false => rfl
      | true => have := h1.1; simp [Code.guards, q] at this
    rw [List.any_cons, holdsB_no hc (gd _ (.head _)), any_no h1.2 fun x hx => gd x (.tail _ hx)]
    rfl
theorem exportedG {self : Value} {Q : Bool → Shared → Prop} (hg : A.guards = some []) (h : Q false s) : wpG M A (Builtin.Bytes.exported self) Q E s := fun Γ p hΓ g => by
  rw [exported_eq]
  show Q (((Γ.code, p) :: Γ.below).any (holdsB self)) s
  rw [any_no]
  · exact h
  · rw [guardsOf_cons]; exact hΓ.2.2.2.1 _ hg
  · intro x hx
    rcases List.mem_cons.mp hx with rfl | hx
    · exact g.1
    · exact g.2 x hx
end
end Mine
namespace Mine
open PySem PySem.W PySem.Calls PyProof.Rows
set_option maxRecDepth 100000
set_option maxHeartbeats 1000000
set_option maxRecDepth 1000000 in
set_option maxHeartbeats 4000000 in
theorem mro_ba : mroOf (.type "bytearray") = pure [.type "bytearray", .type "object"] := by rw [mroOf_type]; kernel_rfl
theorem lookup_ba_new : typeLookup (.type "bytearray") "__new__" = pure (some (.builtin "bytearray.__new__")) := by rw [typeLookup_type, builtinLookup_eq_fast]; kernel_rfl
theorem slot_ba_init : Slot "bytearray" "__init__" "bytearray.__init__" :=
  .of (owner := "bytearray") (n := "__init__") (by rw [typeLookup_type, builtinLookup_eq_fast]; kernel_rfl) (by decide +kernel) (by decide +kernel) (by decide +kernel) (.inl (by decide +kernel)) (by rw [isSubtype_type]; kernel_rfl)
theorem called_ba : TypeCalled "bytearray" "bytearray.__new__" "bytearray.__init__" :=
  ⟨by decide +kernel, by decide +kernel, ⟨_, _, mro_ba⟩, madeBy_type mro_ba lookup_ba_new (by decide +kernel), by decide +kernel, by rw [isSubtype_type]; kernel_rfl, slot_ba_init⟩
theorem typeCall_ba0 : checkTypeCall "bytearray" ⟨[], []⟩ = pure () := by kernel_rfl
theorem typeCall_ba1 (a : Value) : checkTypeCall "bytearray" ⟨[a], []⟩ = pure () := by kernel_rfl
theorem newCall_ba0 : checkBuiltinCall "bytearray.__new__" ⟨[.type "bytearray"], []⟩ = pure () := by kernel_rfl
theorem newCall_ba1 (a : Value) : checkBuiltinCall "bytearray.__new__" ⟨[.type "bytearray", a], []⟩ = pure () := by kernel_rfl
theorem entry_ba_new : entryFor table "bytearray.__new__" = some Builtin.«list.__new__» :=
  entryFor_alias (id' := "list.__new__") (by kernel_rfl) (by first | rfl | decide +kernel | (unfold String.splitOn; simp +decide [String.splitOnAux])) (by decide +kernel) (by kernel_rfl)
theorem plain_ba_new : plainId "bytearray.__new__" = true := by decide +kernel
theorem entry_ba_init : entryFor table "bytearray.__init__" = some Builtin.«bytearray.__init__» := entryFor_of_tree (by kernel_rfl)
theorem owner_ba_new : ("bytearray.__new__".splitOn ".__new__").headD "" = "bytearray" := by simp +decide [String.splitOn, String.splitOnAux]
theorem sub_ba_self : isSubtype (.type "bytearray") (.type "bytearray") = pure true := by rw [isSubtype_type]; kernel_rfl
abbrev baObj (b : Array UInt8) (n : Nat := 0) : Obj := { cls := .type "bytearray", data := .bytearray b n }
section
variable {prog : Program} {w : World} {A : Around} {E : Value → Shared → Prop} {s : Shared}
theorem ba_new0 {Q₁ : Value → Shared → Prop} (h : Q₁ (.ref s.heap.objs.size) { s with heap := s.heap.push (baObj #[]) }) :
    codeAny (model prog w) A (.call (.builtin "bytearray.__new__") ⟨[.type "bytearray"], []⟩) (wants Q₁ E) s := by
  refine codeAny_of_tree ?_
  show wpAny _ A.in1 (do checkBuiltinCall "bytearray.__new__" ⟨[.type "bytearray"], []⟩; again (.builtin "bytearray.__new__" ⟨[.type "bytearray"], []⟩)) _ _ s
  refine wpAny_bind (wpAny_of_eq newCall_ba0 (wpAny_pure ⟨plainId_quiet plain_ba_new _, codeAny_builtin_stack entry_ba_new rfl fun p st => ?_⟩))
  rw [Around.under_plainId plain_ba_new _]
  have hsub := sub_ba_self
  have hown := owner_ba_new
  obtain ⟨hp, g, d, tk, os⟩ := s
  simp only [hown]
  wp_walk
  exact h
theorem ba_new1 (a : Value) {Q₁ : Value → Shared → Prop} (h : Q₁ (.ref s.heap.objs.size) { s with heap := s.heap.push (baObj #[]) }) :
    codeAny (model prog w) A (.call (.builtin "bytearray.__new__") ⟨[.type "bytearray", a], []⟩) (wants Q₁ E) s := by
  refine codeAny_of_tree ?_
  show wpAny _ A.in1 (do checkBuiltinCall "bytearray.__new__" ⟨[.type "bytearray", a], []⟩; again (.builtin "bytearray.__new__" ⟨[.type "bytearray", a], []⟩)) _ _ s
  refine wpAny_bind (wpAny_of_eq (newCall_ba1 a) (wpAny_pure ⟨plainId_quiet plain_ba_new _, codeAny_builtin_stack entry_ba_new rfl fun p st => ?_⟩))
  rw [Around.under_plainId plain_ba_new _]
  have hsub := sub_ba_self
  have hown := owner_ba_new
  obtain ⟨hp, g, d, tk, os⟩ := s
  simp only [hown]
  wp_walk
  exact h
end
end Mine
namespace Mine
open PySem PySem.W PySem.Calls PyProof.Rows
set_option maxRecDepth 100000
set_option maxHeartbeats 1000000
theorem lookup_ba_rel : typeLookup (.type "bytearray") "__release_buffer__" = pure (some (.builtin "bytearray.__release_buffer__")) := by rw [typeLookup_type, builtinLookup_eq_fast]; kernel_rfl
theorem drop_ba : "bytearray.__release_buffer__".dropRight ("__release_buffer__".length + 1) = "bytearray" := by decide +kernel
theorem bindOpt0 : Builtin.Bytes.bindOptional "bytearray.__init__" "bytearray" ["source", "encoding", "errors"] [] [] = pure [none, none, none] := by kernel_rfl
theorem bindOpt1 (v : Value) : Builtin.Bytes.bindOptional "bytearray.__init__" "bytearray" ["source", "encoding", "errors"] [v] [] = pure [some v, none, none] := by kernel_rfl
section
variable {prog : Program} {w : World} {A : Around} {E : Value → Shared → Prop} {s : Shared}
theorem ownRelease_ba {b : Addr} {o : Obj} {Q : Bool → Shared → Prop} (hb : s.heap.get? b = some o) (hc : o.cls = .type "bytearray") (h : Q false s) : wpAny (model prog w) A (Builtin.Bytes.ownRelease (.ref b)) Q E s := by
  have hT : s.TypeIs (.ref b) "bytearray" := ⟨o, hb, hc⟩
  unfold Builtin.Bytes.ownRelease Builtin.Bytes.slotIsOwn
  refine wpAny_bind (wpAny_bind (wpAny_specialOf hT lookup_ba_rel ?_))
  show wpAny _ _ (if (!"bytearray.__release_buffer__".endsWith ("." ++ "__release_buffer__")) = true then pure false else isInstance (.ref b) (.type ("bytearray.__release_buffer__".dropRight ("__release_buffer__".length + 1)))) _ _ _
  rw [if_neg (by decide +kernel), drop_ba]
  exact wpAny_isInstance hT sub_ba_self (wpAny_pure h)
theorem past_ba {arr : Array UInt8} {n : Nat} (h : arr.size ≤ sizeLine) : (Data.bytearray arr n).pastItsLine = none := by
  show (if arr.size > sizeLine then some "bytearray:memory" else none) = none
  rw [if_neg (Nat.not_lt.mpr h)]
theorem exports_ba {b : Addr} {arr : Array UInt8} {Q : Bool → Shared → Prop} (hb : s.heap.get? b = some (baObj arr)) (h : Q false s) : wpAny (model prog w) A (do return decide ((← Builtin.Bytes.exportsOf (.ref b)) > 0)) Q E s := by
  refine wpAny_bind ?_
  show wpAny _ _ (load b >>= _) _ _ _
  exact wpAny_bind (wpAny_load hb (wpAny_pure (wpAny_pure h)))
theorem heldG {b : Addr} {arr : Array UInt8} {Q : Bool → Shared → Prop} (hg : A.guards = some []) (hb : s.heap.get? b = some (baObj arr)) (h : Q false s) :
    wpG (model prog w) A (Builtin.Bytes.exported (.ref b) <||> (do return decide ((← Builtin.Bytes.exportsOf (.ref b)) > 0))) Q E s := by
  unfold orM
  refine wpG_bind (exportedG hg ?_)
  exact wpG_of (exports_ba hb h)
theorem ba_write {b : Addr} {arr : Array UInt8} {n : Nat} {f : Array UInt8 → Array UInt8} {Q : Unit → Shared → Prop} (hb : s.heap.get? b = some (baObj arr n)) (hz : (f arr).size ≤ sizeLine)
    (h : Q () { s with heap := s.heap.update b (Obj.mapBytearray f) }) : wpAny (model prog w) A (Builtin.Bytes.write (.ref b) f) Q E s := by
  show wpAny _ _ (updateBytearray b f) _ _ _
  unfold updateBytearray
  refine wpAny_bind (wpAny_load hb ?_)
  show wpAny _ _ (update b (Obj.mapBytearray f) >>= fun _ => lookBehind b) _ _ _
  refine wpAny_bind (wpAny_update hb ?_)
  have hb' := Heap.get?_update_self (Obj.mapBytearray f) hb rfl
  exact wpAny_lookBehind hb' (past_ba hz) h
theorem ba_init0 {b : Addr} {Q : Value → Shared → Prop} (hg : A.guards = some []) (hb : s.heap.get? b = some (baObj #[]))
    (h : Q .none { s with heap := s.heap.update b (Obj.mapBytearray fun _ => #[]) }) :
    wpG (model prog w) A (Builtin.«bytearray.__init__» ⟨[.ref b], []⟩) (fun fin s' => ∃ v, fin = .done (.ret v) ∧ Q v s') E s := by
  unfold Builtin.«bytearray.__init__»
  refine wpG_bindA (ownRelease_ba hb rfl ?_)
  simp only [Bool.false_eq_true, if_false]
  rw [bindOpt0]
  refine wpG_bindA (wpAny_pure ?_)
  dsimp only
  refine wpG_bindA (wpAny_of_eq (show Builtin.Bytes.checkCodecArg "bytearray.__init__" "bytearray" "encoding" none = pure () from rfl) ?_)
  refine wpG_bindA (wpAny_of_eq (show Builtin.Bytes.checkCodecArg "bytearray.__init__" "bytearray" "errors" none = pure () from rfl) ?_)
  refine wpG_bind (heldG hg hb ?_)
  simp only [Bool.false_eq_true, if_false]
  refine wpG_bindA (ba_write hb (by decide) ?_)
  simp only [Option.isSome_none, Bool.false_eq_true, if_false]
  exact wpG_bindA (wpAny_pure (wpG_pure ⟨_, rfl, h⟩))
theorem bytes_is (arr : Array UInt8) (t : Tok) : s.TypeIs (.bytes arr t) "bytes" := rfl
theorem lookup_by_index : typeLookup (.type "bytes") "__index__" = pure none := by rw [typeLookup_type, builtinLookup_eq_fast]; kernel_rfl
theorem lookup_by_buffer : typeLookup (.type "bytes") "__buffer__" = pure (some (.builtin "bytes.__buffer__")) := by rw [typeLookup_type, builtinLookup_eq_fast]; kernel_rfl
theorem lookup_by_rel : typeLookup (.type "bytes") "__release_buffer__" = pure none := by rw [typeLookup_type, builtinLookup_eq_fast]; kernel_rfl
theorem drop_by : "bytes.__buffer__".dropRight ("__buffer__".length + 1) = "bytes" := by decide +kernel
theorem sub_by_self : isSubtype (.type "bytes") (.type "bytes") = pure true := by rw [isSubtype_type]; kernel_rfl
theorem ownRelease_by {arr : Array UInt8} {t : Tok} {Q : Bool → Shared → Prop} (h : Q false s) : wpAny (model prog w) A (Builtin.Bytes.ownRelease (.bytes arr t)) Q E s := by
  unfold Builtin.Bytes.ownRelease Builtin.Bytes.slotIsOwn
  exact wpAny_bind (wpAny_bind (wpAny_specialOf (bytes_is arr t) lookup_by_rel (wpAny_pure (wpAny_pure h))))
theorem slotOwn_by {arr : Array UInt8} {t : Tok} {Q : Bool → Shared → Prop} (h : Q true s) : wpAny (model prog w) A (Builtin.Bytes.slotIsOwn (.bytes arr t) "__buffer__") Q E s := by
  unfold Builtin.Bytes.slotIsOwn
  refine wpAny_bind (wpAny_specialOf (bytes_is arr t) lookup_by_buffer ?_)
  show wpAny _ _ (if (!"bytes.__buffer__".endsWith ("." ++ "__buffer__")) = true then pure false else isInstance (.bytes arr t) (.type ("bytes.__buffer__".dropRight ("__buffer__".length + 1)))) _ _ _
  rw [if_neg (by decide +kernel), drop_by]
  exact wpAny_isInstance (bytes_is arr t) sub_by_self h
theorem buffer_by {id : String} {fl : Bool} {arr : Array UInt8} {t : Tok} {Q : Option (Array UInt8) → Shared → Prop} (h : Q (some arr) s) : wpAny (model prog w) A (Builtin.Bytes.buffer? id (.bytes arr t) fl) Q E s := by
  unfold Builtin.Bytes.buffer?
  refine wpAny_bind (wpAny_specialOf (bytes_is arr t) lookup_by_buffer ?_)
  try dsimp only
  refine wpAny_bind (slotOwn_by ?_)
  simp only [Bool.not_true, Bool.false_eq_true, if_false]
  refine wpAny_bind (wpAny_specialOf (bytes_is arr t) lookup_by_buffer ?_)
  try dsimp only
  refine wpAny_bind (ownRelease_by ?_)
  simp only [Bool.false_eq_true, if_false]
  exact wpAny_bind (wpAny_pure (wpAny_pure h))
theorem ba_init1 {b : Addr} {arr : Array UInt8} {t : Tok} {Q : Value → Shared → Prop} (hg : A.guards = some []) (hb : s.heap.get? b = some (baObj #[])) (hz : arr.size ≤ sizeLine)
    (h : Q .none { s with heap := (s.heap.update b (Obj.mapBytearray fun _ => #[])).update b (Obj.mapBytearray fun _ => arr) }) :
    wpG (model prog w) A (Builtin.«bytearray.__init__» ⟨[.ref b, .bytes arr t], []⟩) (fun fin s' => ∃ v, fin = .done (.ret v) ∧ Q v s') E s := by
  unfold Builtin.«bytearray.__init__»
  refine wpG_bindA (ownRelease_ba hb rfl ?_)
  simp only [Bool.false_eq_true, if_false]
  rw [bindOpt1]
  refine wpG_bindA (wpAny_pure ?_)
  try dsimp only
  refine wpG_bindA (wpAny_of_eq (show Builtin.Bytes.checkCodecArg "bytearray.__init__" "bytearray" "encoding" none = pure () from rfl) ?_)
  refine wpG_bindA (wpAny_of_eq (show Builtin.Bytes.checkCodecArg "bytearray.__init__" "bytearray" "errors" none = pure () from rfl) ?_)
  refine wpG_bind (heldG hg hb ?_)
  simp only [Bool.false_eq_true, if_false]
  refine wpG_bindA (ba_write hb (by decide) ?_)
  refine wpG_bindA (wpAny_of_eq (show asStr? (.bytes arr t) = pure none from rfl) ?_)
  simp only [Option.isSome_none, Bool.false_eq_true, if_false]
  refine wpG_bindA (wpAny_pure ?_)
  refine wpG_bindA (wpAny_specialOf (bytes_is arr t) lookup_by_index ?_)
  simp only [Option.isSome_none, Bool.false_eq_true, if_false]
  refine wpG_bindA (buffer_by ?_)
  try dsimp only
  refine wpG_bindA (wpAny_rule ?_)
  have hb' := Heap.get?_update_self (Obj.mapBytearray fun _ => (#[] : Array UInt8)) hb rfl
  refine wpG_bindA (ba_write (n := 0) (arr := #[]) hb' hz ?_)
  exact wpG_pure ⟨_, rfl, h⟩
end
end Mine
namespace Mine
open PySem PySem.W PySem.Calls PyProof.Rows
set_option maxRecDepth 100000
set_option maxHeartbeats 1000000
theorem tc_noDec {args : Args} : isDec (.builtin "type.__call__" args) = false := by
  show Builtin.Bytes.decodersThatHold.contains "type.__call__" = false
  decide +kernel
section
variable {prog : Program} {w : World} {A : Around} {E : Value → Shared → Prop} {s : Shared} {R : Result → Shared → Prop}
theorem builtinG {id : String} {args : Args} {b : Builtin} (hb : entryFor table id = some b) (hd : isDec (.builtin id args) = false)
    (h : wpG (model prog w) (A.under (.builtin id args)) (b args) (fun fin s' => match fin with | .done f => R (.ok f) s' | .again c' => c'.quiet = true ∧ codeG (model prog w) A c' R s') (fun e s' => R (.error e) s') s) :
    codeG (model prog w) A (.builtin id args) R s := by
  refine codeG_of_tree hd ?_
  have hden : (model prog w).den (.builtin id args) = b args := by
    show (match entryFor table id with | some b => b args | none => unsupported ((withoutEnding? id "#data").getD id)) = _
    rw [hb]
  rw [hden]
  exact h
theorem callBuiltinG {id : String} {args : Args} {b : Builtin} (hp : plainId id = true) (hb : entryFor table id = some b) (hd : isDec (.builtin id args) = false)
    (h : wpAny (model prog w) A.in1 (checkBuiltinCall id args) (fun _ s₁ => wpG (model prog w) A.in1 (b args) (fun fin s' => match fin with | .done f => R (.ok f) s' | .again c' => c'.quiet = true ∧ codeG (model prog w) A c' R s') (fun e s' => R (.error e) s') s₁) (fun e s' => R (.error e) s') s) :
    codeG (model prog w) A (.call (.builtin id) args) R s := by
  refine codeG_of_tree rfl ?_
  show wpG _ A.in1 (do checkBuiltinCall id args; again (.builtin id args)) _ _ s
  refine wpG_bindA (wpAny_mono h (fun _ s₁ h₁ => wpG_pure ⟨plainId_quiet hp _, builtinG hb hd ?_⟩) fun _ _ z => z)
  rw [Around.under_plainId hp args]
  exact h₁
theorem callTypeG {T newId initId : String} {Bi : Builtin} {args : List Value} {Q Q₁ : Value → Shared → Prop} (ft : TypeCalled T newId initId)
    (hct : checkTypeCall T ⟨args, []⟩ = pure ()) (entryI : entryFor table initId = some Bi) (hdi : Builtin.Bytes.decodersThatHold.contains initId = false)
    (hnew : codeAny (model prog w) A.in1 (.call (.builtin newId) ⟨.type T :: args, []⟩) (wants Q₁ E) s)
    (hnext : ∀ obj s₁, Q₁ obj s₁ → s₁.TypeIs obj T ∧ argsOk initId ⟨obj :: args, []⟩ ∧
      wpG (model prog w) A.in1.in1 (Bi ⟨obj :: args, []⟩) (fun fin s' => ∃ v, fin = .done (.ret v) ∧ (v = .none ∧ Q obj s')) E s₁) :
    wpG (model prog w) A (call (.type T) args) Q E s := by
  obtain ⟨c, tl, hmro⟩ := ft.mro
  have hmade := ft.made
  have hsub := ft.sub
  refine wpG_call (codeG_of_tree rfl ?_)
  show wpG _ _ (callAny (.type T) _) _ _ _
  refine wpG_pure ⟨Code.quiet_builtin _ (by decide +kernel), builtinG F.entry_type_call tc_noDec ?_⟩
  rw [Around.under_plain (weight_type_call_type T args []) rfl]
  have h1 := ft.notType
  have h2 := ft.canCreate
  unfold Builtin.«type.__call__»
  simp only [h1, h2, Bool.false_eq_true, if_false]
  refine wpG_bindA (wpAny_of_eq hct ?_)
  rw [hmro]
  refine wpG_bindA (wpAny_pure ?_)
  simp only [List.isEmpty_cons, Bool.false_eq_true, if_false]
  rw [hmade]
  refine wpG_bindA (wpAny_pure ?_)
  dsimp only
  refine wpG_bindA (wpAny_pure ?_)
  refine wpG_bind (wpG_holding (wpG_call (codeG_of (codeAny_mono hnew fun r s₁ hr => ?_))))
  cases r with
  | error e => exact hr
  | ok fl =>
    cases fl with
    | ret obj =>
      obtain ⟨hT, hok, hsi⟩ := hnext _ _ hr
      have hli := ft.init.lookup
      have hbi := ft.init.bind obj
      refine wpG_bindA (wpAny_isInstance hT hsub ?_)
      simp only [Bool.not_true, Bool.false_eq_true, if_false]
      refine wpG_bind (wpG_holding ?_)
      unfold callSpecial?
      refine wpG_bindA (wpAny_specialOf hT hli ?_)
      dsimp only
      refine wpG_holding ?_
      rw [hbi]
      refine wpG_bindA (wpAny_pure ?_)
      dsimp only
      refine wpG_bind (wpG_call (callBuiltinG ft.init.plain entryI hdi (ft.init.check _ _ _ _ _ _ _ _ hT hok ?_)))
      refine wpG_mono hsi (fun fin s' z => ?_) fun _ _ z => z
      obtain ⟨v, rfl, rfl, z⟩ := z
      exact wpG_pure (wpG_pure z)
    | _ => exact hr.elim
theorem args_ba_init1 (a : Value) : argsOk "bytearray.__init__" ⟨[a], []⟩ := by unfold argsOk; kernel_rfl
theorem args_ba_init2 (a b : Value) : argsOk "bytearray.__init__" ⟨[a, b], []⟩ := by unfold argsOk; kernel_rfl
theorem bai_noDec : Builtin.Bytes.decodersThatHold.contains "bytearray.__init__" = false := by decide +kernel
theorem baG0 {h₀ : Heap} {L : Addr} {m : Str → Option Value} {news : List (Addr × Obj)} {Q : Value → Shared → Prop} (hg : A.guards = some []) (F : Fr h₀ L s.heap m) (N : News h₀ L s.heap news)
    (h : ∀ b h', Fr h₀ L h' m → News h₀ L h' ((b, baObj #[]) :: news) → (∀ p ∈ news, p.1 < b) → Q (.ref b) { s with heap := h' }) : wpG (model prog w) A (call (.type "bytearray") []) Q E s := by
  refine callTypeG (Q₁ := fun obj s₁ => obj = .ref s.heap.objs.size ∧ s₁ = { s with heap := s.heap.push (baObj #[]) }) called_ba typeCall_ba0 entry_ba_init bai_noDec (ba_new0 ⟨rfl, rfl⟩) fun obj s₁ h₁ => ?_
  obtain ⟨rfl, rfl⟩ := h₁
  have hb : (s.heap.push (baObj #[])).get? s.heap.objs.size = some (baObj #[]) := Heap.get?_push_size _ rfl
  refine ⟨⟨_, hb, rfl⟩, args_ba_init1 _, ba_init0 (Q := fun v s' => v = .none ∧ Q (.ref s.heap.objs.size) s') hg hb ⟨rfl, ?_⟩⟩
  have F1 := F.push (baObj #[])
  have N1 := News.push F N (baObj #[]) rfl
  have U := news_upd (pre := []) (post := news) (f := Obj.mapBytearray fun _ => (#[] : Array UInt8)) F1 N1 (fun _ hp => nomatch hp) (fun p hp => Nat.ne_of_lt (Heap.lt_size (N p hp).1)) (o' := baObj #[]) rfl rfl
  exact h _ _ U.1 U.2 fun p hp => Heap.lt_size (N p hp).1
theorem baG1 {h₀ : Heap} {L : Addr} {m : Str → Option Value} {news : List (Addr × Obj)} {arr : Array UInt8} {t : Tok} {Q : Value → Shared → Prop} (hg : A.guards = some []) (F : Fr h₀ L s.heap m) (N : News h₀ L s.heap news) (hz : arr.size ≤ sizeLine)
    (h : ∀ b h', Fr h₀ L h' m → News h₀ L h' ((b, baObj arr) :: news) → (∀ p ∈ news, p.1 < b) → Q (.ref b) { s with heap := h' }) : wpG (model prog w) A (call (.type "bytearray") [.bytes arr t]) Q E s := by
  refine callTypeG (Q₁ := fun obj s₁ => obj = .ref s.heap.objs.size ∧ s₁ = { s with heap := s.heap.push (baObj #[]) }) called_ba (typeCall_ba1 _) entry_ba_init bai_noDec (ba_new1 _ ⟨rfl, rfl⟩) fun obj s₁ h₁ => ?_
  obtain ⟨rfl, rfl⟩ := h₁
  have hb : (s.heap.push (baObj #[])).get? s.heap.objs.size = some (baObj #[]) := Heap.get?_push_size _ rfl
  refine ⟨⟨_, hb, rfl⟩, args_ba_init2 _ _, ba_init1 (Q := fun v s' => v = .none ∧ Q (.ref s.heap.objs.size) s') hg hb hz ⟨rfl, ?_⟩⟩
  have F1 := F.push (baObj #[])
  have N1 := News.push F N (baObj #[]) rfl
  have lt : ∀ p ∈ news, p.1 < s.heap.objs.size := fun p hp => Heap.lt_size (N p hp).1
  have U := news_upd (pre := []) (post := news) (f := Obj.mapBytearray fun _ => (#[] : Array UInt8)) F1 N1 (fun _ hp => nomatch hp) (fun p hp => Nat.ne_of_lt (lt p hp)) (o' := baObj #[]) rfl rfl
  have U2 := news_upd (pre := []) (post := news) (f := Obj.mapBytearray fun _ => arr) U.1 U.2 (fun _ hp => nomatch hp) (fun p hp => Nat.ne_of_lt (lt p hp)) (o' := baObj arr) rfl rfl
  exact h _ _ U2.1 U2.2 lt
end
end Mine
namespace Mine
open PySem PySem.W PySem.Calls PyProof.Rows Builtin Builtin.ObjectAttr
set_option maxRecDepth 100000
set_option maxHeartbeats 1000000
def NewBackG (M : Model) (A : Around) (h₀ : Heap) (C fI : Addr) (rest : List Value) (kw : List (Str × Value)) (R : Result → Shared → Prop) (r : Result) (s' : Shared) : Prop := match r with
  | .ok (.ret v) => (∀ b o, h₀.get? b = some o → s'.heap.get? b = some o) ∧ ∃ x dx, v = .ref x ∧ s'.heap.get? x = some (instObj C dx) ∧ codeG M (A.under (.builtin "type.__call__" ⟨.ref C :: rest, kw⟩)) (.call (.ref fI) ⟨.ref x :: rest, kw⟩) (InitBack x R) s'
  | .ok _ => False
  | .error e => R (.error e) s'
theorem newBackG_ {M : Model} {A : Around} {h₀ : Heap} {L C fI x dx : Addr} {m : Str → Option Value} {news : List (Addr × Obj)} {rest : List Value} {kw : List (Str × Value)} {R : Result → Shared → Prop} {s' : Shared} (F : Fr h₀ L s'.heap m) (N : News h₀ L s'.heap news) (hm : (x, instObj C dx) ∈ news)
    (h : codeG M (A.under (.builtin "type.__call__" ⟨.ref C :: rest, kw⟩)) (.call (.ref fI) ⟨.ref x :: rest, kw⟩) (InitBack x R) s') : NewBackG M A h₀ C fI rest kw R (.ok (.ret (.ref x))) s' := ⟨F.keep, x, dx, rfl, (N _ hm).1, h⟩
section
variable {prog : Program} {w : World} {A : Around} {K : Frag} {C p fN fI : Addr} {s : Shared} {h₀ : Heap} {L : Addr} {m : Str → Option Value} {R : Result → Shared → Prop}
theorem makeG {rest sr : List Value} {kw : List (Str × Value)} {mc : Value} (F : Fr h₀ L s.heap m) (X₀ : K.In h₀)
    (ho : ownCls K C = true) (hmb : peek K ⟨prog, w.params⟩ (Bind.madeBy (.ref C)) = some none)
    (hcl : specialIn K (.ref C) "__call__" = some (some (.builtin "type.__call__"))) (hty : instIn K (.ref C) (.type "type") = some true) (hself : mroIn K C (.ref C) = some true)
    (hm : typeIn K (.ref C) = some mc) (hr : readsIn K C mc = true) (e : findCls K (.ref C) mc (Str.ofString "__new__") = some (.get (.builtin "staticmethod.__get__") (.ref p) .none (.ref C))) (hp : recIn K p "staticmethod" = some (.ref fN :: sr)) (hv : handedIn (.ref fN) = true)
    (hi : findIn K (.ref C) "__init__" = some (some (.ref fI))) (hf : typeIn K (.ref fI) = some (.type "function"))
    (h : codeAny (model prog w) (A.under (.builtin "type.__call__" ⟨.ref C :: rest, kw⟩)) (.call (.ref fN) ⟨.ref C :: rest, kw⟩) (NewBackG (model prog w) A h₀ C fI rest kw R) { s with toks := s.toks + 1 }) :
    codeG (model prog w) A (.call (.ref C) ⟨rest, kw⟩) R s := by
  have X := X₀.keeps F.keep
  obtain ⟨oc, od, cd, sl, hC, he, _, _⟩ := ownCls_of ho
  have call : Looks (model prog w) s.heap (specialOf (.ref C) "__call__") (some (.builtin "type.__call__")) := looks_specialIn X hcl
  have typ : Looks (model prog w) s.heap (isInstance (.ref C) (.type "type")) true := looks_instIn X hty
  have made : Looks (model prog w) s.heap (Bind.madeBy (.ref C)) none := Looks.of_peek X hmb
  refine codeG_of_tree rfl (wpG_of ?_)
  show wpAny _ _ (callAny (.ref C) _) _ _ _
  refine nd_load (X _ _ hC) ?_
  show wpAny _ _ (callAny.viaDunder (.ref C) _) _ _ _
  unfold callAny.viaDunder
  refine wpAny_bind (call.here ?_)
  dsimp only
  rw [tc_bind]
  refine wpAny_bind (wpAny_pure (wpAny_bind (wpAny_pure ?_)))
  refine wpAny_pure (a := Fin.again (.call (.builtin "type.__call__") ⟨.ref C :: rest, kw⟩)) (And.intro rfl ?_)
  refine codeG_of_tree rfl ?_
  show wpG _ A.in1 (do checkBuiltinCall "type.__call__" ⟨.ref C :: rest, kw⟩; again (.builtin "type.__call__" ⟨.ref C :: rest, kw⟩)) _ _ s
  refine wpG_bindA (check_slot tc_kind tc_split typ (tc_args _ _ _) (wpG_pure ⟨Code.quiet_builtin _ (by decide +kernel), builtinG entry_typeCall tc_noDec ?_⟩))
  unfold Builtin.«type.__call__»
  have hmro : Looks (model prog w) s.heap (mroOf (.ref C)) cd.mro := ((Looks.ld (part := none) (X _ _ hC)).andThen .now).andThen .now
  have h1 : ((Value.ref C) == Value.type "type") = false := rfl
  simp only [h1, Bool.false_eq_true, if_false]
  refine wpG_bindA (hmro.here ?_)
  simp only [he, Bool.false_eq_true, if_false]
  refine wpG_bindA (made.here ?_)
  dsimp only
  refine wpG_bindA (cls_sm F X₀ hm hr e hp hv ?_)
  refine wpG_bind (wpG_holding (wpG_call (codeG_of (codeAny_mono h fun r s' z => ?_))))
  rcases r with er | (v | _ | _ | _) <;> first | exact z | exact z.elim | skip
  obtain ⟨kk, x, dx, rfl, hx, z⟩ := z
  have X' := X₀.keeps kk
  have t1 : Looks (model prog w) s'.heap (typeOf (.ref x)) (.ref C) := (Looks.ld (part := none) hx).andThen .now
  have s1 : Looks (model prog w) s'.heap (isSubtype (.ref C) (.ref C)) true := looks_mroIn X' hself
  have i1 := looks_findIn (M := model prog w) X' hi
  have b1 := bind_fn (M := model prog w) X' (.ref x) hf
  have is1 : Looks (model prog w) s'.heap (isInstance (.ref x) (.ref C)) true := t1.andThen s1
  refine wpG_bindA (is1.here ?_)
  simp only [Bool.not_true, Bool.false_eq_true, if_false]
  refine wpG_bind (wpG_holding ?_)
  unfold callSpecial?
  have sp1 : Looks (model prog w) s'.heap (specialOf (.ref x) (Str.ofString "__init__")) (some (.ref fI)) := t1.andThen i1
  refine wpG_bindA (sp1.here ?_)
  dsimp only
  refine wpG_holding ?_
  refine wpG_bindA (b1.here ?_)
  dsimp only
  refine wpG_bind (wpG_call (codeG_mono z fun r s' z => ?_))
  rcases r with e | (v | _ | _ | _) <;> first | exact z | exact z.elim | skip
  obtain ⟨rfl, z⟩ := z
  exact wpG_pure (wpG_pure z)
end
end Mine
namespace Mine
open PySem PySem.W PySem.Calls PyProof.Rows
set_option maxRecDepth 100000
set_option maxHeartbeats 1000000
section
variable {M : Model} {A : Around} {E : Value → Shared → Prop} {s : Shared} {env : Env}
theorem assignAttrG {o : PySem.Expr} {attr : Str} {pos' pos : Pos} {value : PySem.Expr} {Q : Flow → Shared → Prop}
    (h : wpG M A (eval value env) (fun v s₁ => wpAny M A (eval o env) (fun ov s₂ => wpAny M A (setAttr ov attr v) (fun _ => Q .next) E s₂) E s₁) E s)
    (hs : swapsWith value (some (.Attribute o attr pos')) pos.line env = pure false) :
    wpG M A (exec (.Assign [.Attribute o attr pos'] value pos) env) Q E s := fun Γ p hΓ g => by
  simp only [plainObj_exec_Assign_Attribute o attr pos' value pos hs, assign_Attribute, Sem.wp_bind', Sem.wp_holding, Sem.wp_cmd_standAt, Sem.wp_release, Sem.wp_pure']
  exact Sem.wp_mono M Γ _ (fun v p₁ s₁ h₁ => Sem.wp_mono M Γ _ (fun ov _ s₂ h₂ => h₂ Γ _ hΓ) (fun _ _ _ h' => h') _ _ (h₁ Γ p₁ hΓ)) (fun _ _ _ h' => h') _ _ (h Γ _ hΓ g)
theorem ifExpG {test body orelse : PySem.Expr} {pos : Pos} {Q : Value → Shared → Prop}
    (h : wpAny M A (isTrue test env (eval test env)) (fun b s₁ => if b = true then wpG M A (eval body env) Q E s₁ else wpG M A (eval orelse env) Q E s₁) E s) :
    wpG M A (eval (.IfExp test body orelse pos) env) Q E s := by
  rw [arm_eval_IfExp]
  refine wpG_bindA (wpAny_mono h (fun b s₁ h₁ => ?_) fun _ _ x => x)
  cases b <;> exact h₁
theorem callTypeNilG {pos : Pos} {T : String} {Q : Value → Shared → Prop} (h : wpG M A (call (.type T) []) Q E s) : wpG M A (callWith pos (.type T) [] (backTo pos (starEach [] env)) []) Q E s :=
  callWithG (P := fun _ => True) rfl (fun _ _ => ⟨.machine, .inr (.inl rfl), Looks.of_pure rfl⟩) (wpG_of (evalArgs_nil3 ⟨trivial, h⟩))
theorem callKG {K : Frag} {f : Value} {first : List Value} {pos : Pos} {e : PySem.Expr} {rest : List PySem.Expr} {Q : Value → Shared → Prop} (hk : keepIn K f = true)
    (h : wpAny M A (spliced (backTo pos (starEach (e :: rest) env))) (fun vs s₁ => K.In s₁.heap ∧ wpG M A (call f (first ++ vs)) Q E s₁) E s)
    (he : starEach (e :: rest) env = (false, eval e env) :: starEach rest env) (hplain : (backTo pos (starEach rest env)).any (·.1) = false) :
    wpG M A (callWith pos f first (backTo pos (starEach (e :: rest) env)) []) Q E s := by
  rw [he] at h ⊢
  exact callWithG (P := fun h => K.In h) (by show ((false || (backTo pos (starEach rest env)).any (·.1)) || false) = false; rw [hplain]; rfl) (keeps_K hk) (wpG_of (evalArgs_plain h))
theorem callKG0 {K : Frag} {f : Value} {first : List Value} {pos : Pos} {Q : Value → Shared → Prop} (X : K.In s.heap) (hk : keepIn K f = true) (h : wpG M A (call f (first ++ [])) Q E s) : wpG M A (callWith pos f first (backTo pos (starEach [] env)) []) Q E s :=
  callWithG (P := fun h => K.In h) rfl (keeps_K hk) (wpG_of (evalArgs_nil3 ⟨X, h⟩))
theorem splicedG_back {pos : Pos} {e : PySem.Expr} {rest : List PySem.Expr} {Q : List Value → Shared → Prop}
    (h : wpG M A (eval e env) (fun v s₁ => wpG M A (spliced (backTo pos (starEach rest env))) (fun vs s₂ => Q (v :: vs) s₂) E s₁) E s)
    (he : backTo pos (starEach (e :: rest) env) = (false, eval e env) :: backTo pos (starEach rest env)) : wpG M A (spliced (backTo pos (starEach (e :: rest) env))) Q E s := by
  rw [he]
  exact splicedG_cons h
theorem argsG_back {f : Value} {pos : Pos} {e : PySem.Expr} {rest : List PySem.Expr} {Q : Args → Shared → Prop} (h : wpG M A (spliced (backTo pos (starEach (e :: rest) env))) (fun vs s' => Q ⟨vs, []⟩ s') E s)
    (he : backTo pos (starEach (e :: rest) env) = (false, eval e env) :: backTo pos (starEach rest env)) : wpG M A (evalArgs f true (backTo pos (starEach (e :: rest) env)) []) Q E s := by
  rw [he] at h ⊢
  exact argsG h
theorem callBG {id : String} {first : List Value} {pos : Pos} {e : PySem.Expr} {rest : List PySem.Expr} {Q : Value → Shared → Prop}
    (h : wpG M A (spliced (backTo pos (starEach (e :: rest) env))) (fun vs s₁ => wpG M A (call (.builtin id) (first ++ vs)) Q E s₁) E s)
    (he : backTo pos (starEach (e :: rest) env) = (false, eval e env) :: backTo pos (starEach rest env)) (hplain : (backTo pos (starEach (e :: rest) env)).any (·.1) = false) :
    wpG M A (callWith pos (.builtin id) first (backTo pos (starEach (e :: rest) env)) []) Q E s :=
  callWithG (P := fun _ => True) (by rw [hplain]; rfl) (fun _ _ => ⟨.machine, .inr (.inl rfl), Looks.of_pure rfl⟩) (argsG_back (wpG_mono h (fun _ _ z => ⟨trivial, z⟩) fun _ _ z => z) he)
theorem news3 {h₀ h : Heap} {L : Addr} {a b c : Addr × Obj} {news news' : List (Addr × Obj)} (hm : ∀ p ∈ [a, b, c], p ∈ news') (hr : ∀ p ∈ news, p ∈ news') (N : News h₀ L h news') : News h₀ L h (a :: b :: c :: news) := fun p hp => by
  rcases List.mem_append.mp (show p ∈ [a, b, c] ++ news from hp) with hp | hp
  · exact N p (hm p hp)
  · exact N p (hr p hp)
end
end Mine
namespace Mine
open PySem PySem.W PySem.Calls PyProof.Rows
set_option maxRecDepth 100000
set_option maxHeartbeats 1000000
local macro_rules | `(tactic| k_lt $h) => `(tactic| (have kept := $h; replace $h := allLt_of $h; simp only [AllLt, and_true] at $h:ident))
local macro_rules | `(tactic| k_room) => `(tactic| ((try simp only [depth_under_make, depth_under_kw, depth_in1, depth_deeper, depth_caller]); (try simp only [recursionLimit]); (try dsimp only [Around.in1]); omega))
local macro_rules | `(tactic| k_enter) => `(tactic| (kp_kind "both"; (refine' kp_both ?k1 ?k2 ?k3 ?k4 ?k5 ?kA ?kF ?kK ?k6 ?k7 ?k8 ?kV ?kX ?kQ ?kM ?kN ?kD ?kR ?kP ?kS ?kT ?kB ?_ ?c2 ?c3 ?c4 ?c5; (case kA => exact rfl); (case kF => first | exact rfl | assumption); (case kK => first | exact rfl | assumption); (case k1 => k_asm); (case k2 => k_asm); (case k3 => k_asm); (case k4 => k_asm); (case k5 => k_asm); (case k6 => k_is); (case k7 => k_is); (case k8 => k_room); (case kV => kp_lit); (case kX => kp_lit); (case kQ => exact rfl); (case kM => exact rfl); (case kN => exact rfl); (case kD => kp_flats); (case kR => exact rfl); (case kP => exact rfl); (case kS => exact fun _ => rfl); (case kT => exact fun _ _ => rfl); (case kB => exact fun _ _ => locs rfl); (case c5 => decide); (case c2 => exact rfl); (case c3 => exact rfl); (case c4 => exact rfl); k_whole; intro C' D' o' g' L' h' tk' l1 l2 lo' hs' fs' FG' F' N' B' X' T'; (try k_lt l1); (try k_lt2 l2); (try dsimp only); (try k_lift B'); (try k_fold))))
local macro_rules | `(tactic| walk_at "call builtin:object.__new__") => `(tactic| (k_here; (refine wpAny_call ?_; refine' Mine.new_own ?F ?N ?X ?o ?sb ?mo ?to ?ty ?_; (case F => k_asm); (case N => k_asm); (case X => k_asm); (case o => exact Mine.f4_own _); (case sb => exact Mine.f4_sb _ _); (case mo => exact Mine.f4_mo _ _); (case to => k_is); (case ty => k_is); k_whole; intro x' d' h' F' N' l1 l2; (try k_lt l1); (try k_lt2 l2); (try k_sweep); (try dsimp only))))
theorem bio_new {w : World} {s : Shared} {mg mb : Str → Option Value} {mean : ExcName → Option Value} {loose : List Str} {base h₀ : Heap} {L : Addr} {m : Str → Option Value} {env : Env} {outer : List Env} {A₀ : Around} {dp un : Nat}
    {news : List (Addr × Obj)} {Q : Value → Shared → Prop} {E : Value → Shared → Prop}
    (X' : (Mine.hd.heap_39 w.params).In h₀) (T' : Top Mine.hd.view_39 loose mean mg mb h₀) (K' : Below A₀ base outer h₀) (hf : env.frame = some L) (hke : env.scope.kind = .function) (hroom : dp + 10 < 600) (hun : un < 9000)
    (F' : Fr h₀ L s.heap m) (N' : News h₀ L s.heap news)
    (hQ : ∀ (x dx b t1 t2 t3 n : Nat) h' tk' news', Fr h₀ L h' m → News h₀ L h' news' →
      (∀ p ∈ ([(x, instObj 365 dx), (dx, dictOf [⟨PyData.keyHash w.params (Str.ofString "_BytesIO__buf"), .str (Str.ofString "_BytesIO__buf") t1, .ref b⟩, ⟨PyData.keyHash w.params (Str.ofString "_BytesIO__pos"), .str (Str.ofString "_BytesIO__pos") t2, .int 0 t3⟩] n), (b, baObj #[])] : List (Addr × Obj)), p ∈ news') →
      (∀ p ∈ news, p ∈ news') → (∀ p ∈ news, p.1 < dx) → dx < x → x < b → Q (.ref x) { s with heap := h', toks := tk' }) :
    wpG (model PySem.Challenge.rw_dn0266_04.row.prog w) ⟨none, dp, some (env :: outer), some [], un⟩ (call (.ref 365) []) Q E s := by
  obtain ⟨hp, gs, dr, tk, os⟩ := s
  dsimp only at F' N'
  revert X'; k_fill; intro X'
  refine wpG_call ?_
  refine' makeG (K := Mine.hd.heap_39 w.params) F' X' (f4_own _) (f4_mb _ _) ?cl ?ty ?se ?tm ?r ?e ?p rfl ?i ?f ?h
  case cl => k_is
  case ty => k_is
  case se => k_is
  case tm => k_is
  case r => k_is
  case e => k_is
  case p => k_is
  case i => k_is
  case f => k_is
  case h =>
    k_enter
    k_steps
    refine' newBackG_ ?F ?N ?m ?_
    case F => k_asm
    case N => k_asm
    case m => k_mem
    refine' defG ?k1 ?k2 ?k3 ?k4 ?k5 ?kA ?kF ?kK ?k6 ?k7 ?k8 ?k9 ?kB ?_ ?c2 ?c3 ?c4 ?c5
    case kA => exact rfl
    case kF => first | exact rfl | assumption
    case kK => first | exact rfl | assumption
    case k1 => k_asm
    case k2 => k_asm
    case k3 => k_asm
    case k4 => k_asm
    case k5 => k_asm
    case k6 => k_is
    case k7 => k_is
    case k8 => k_room
    case k9 => first | exact BindsTo.of_eq rfl | exact binds_K (by k_in) rfl (by k_is) rfl rfl rfl
    case c5 => decide
    case kB => exact locs rfl
    case c2 => exact rfl
    case c3 => exact rfl
    case c4 => exact rfl
    intro g1 L1 h1 FG1 F1 N1 B1 X1 T1
    (try dsimp only); (try k_lift B1); (try k_fold)
    refine execsG_append (front := [_]) ?_
    k_steps
    (show wpG _ _ (execs (_ :: _) _) _ _ _)
    refine execsG_cons ?_
    refine assignAttrG ?_ ?sw
    case sw => with_unfolding_all rfl
    refine ifExpG ?_
    k_steps
    refine callNameG ?_
    k_steps
    refine callTypeNilG ?_
    refine' baG0 ?bg ?bF ?bN ?_
    case bg => exact rfl
    case bF => k_asm
    case bN => k_asm
    intro b' h' F' N' l1
    (try k_lt l1)
    k_steps
    (show wpG _ _ (execs (_ :: _) _) _ _ _)
    refine wpG_of ?_
    k_steps
    refine' hQ _ _ _ _ _ _ _ _ _ _ ?F ?N ?m ?r ?lt ?o1 ?o2
    case F => assumption
    case N => assumption
    case m => with_unfolding_all k_allIn
    case r => (intro p hp; k_ownIn)
    case lt => exact fun p hp => (by assumption : ∀ q ∈ _, q.1 < _) p (by k_ownIn)
    case o1 => omega
    case o2 => omega
end Mine
namespace Mine
open PySem PySem.W PySem.Calls PyProof.Rows
set_option maxRecDepth 100000
set_option maxHeartbeats 1000000
def fnBody4 : Stmt → List Stmt | .FunctionDef _ _ b _ _ _ _ _ _ _ => b | _ => []
def fnScope4 : Stmt → Scope | .FunctionDef _ _ _ _ _ _ sc _ _ _ => sc | _ => default
def isFn4 (n : Str) : Stmt → Bool | .FunctionDef m _ _ _ _ _ _ _ _ _ => m == n | _ => false
def stmt4 (n : Str) : Stmt := (PySem.Challenge.pw_dn0266_04.main.body.find? (isFn4 n)).getD default
def law4 : Stmt := PySem.Challenge.pw_dn0266_04.main.body.getD 16 default
def setup4 : Stmt := PySem.Challenge.pw_dn0266_04.main.body.getD 14 default
abbrev lawEnv4 (L fa : Addr) (cd : Value) : Env := envOfC (Str.ofString "law") (fnScope4 law4) L fa cd
def lawRest4 (n : Nat) : List Stmt := (fnBody4 law4).drop n
def setupRest (n : Nat) : List Stmt := (fnBody4 setup4).drop n
end Mine
namespace Mine
open PySem PySem.W PySem.Calls PyProof.Rows
set_option maxRecDepth 100000
set_option maxHeartbeats 1000000
section
variable {prog : Program} {w : World} {A : Around} {s : Shared} {R : Result → Shared → Prop}
theorem callG_cells {fa : Addr} {o : Obj} {name : Str} {params : Arguments} {body : List Stmt} {scope : Scope} {pm cd doc dV kV : Value} {vals : List Value} {binds : List (Str × Value)}
    (hroom : A.depth < recursionLimit) (ho : s.heap.get? fa = some o) (hdata : o.data = .func { docDef name params body scope pm cd doc with defaults := dV, kwdefaults := kV }) (hlim : s.heap.NoLimit) (hcd : s.heap.CodeRec cd name)
    (hbind : BindsTo s { docDef name params body scope pm cd doc with defaults := dV, kwdefaults := kV } ⟨vals, []⟩ binds)
    (hkind : (binds.all fun y => scope.names.lookup y.1 == some .local || scope.names.lookup y.1 == some .cell) = true) (hnd : ((cellsFrom 0 scope.names []).map (·.1)).Nodup)
    (h : ∀ h₁ tk cells, Fr s.heap s.heap.objs.size h₁ (bindL (envOfC name scope s.heap.objs.size fa cd).kindOf binds fun _ => none) → News s.heap s.heap.objs.size h₁ cells →
      CellsAre (bindC (envOfC name scope s.heap.objs.size fa cd).kindOf binds fun _ => none) (cellsFrom (s.heap.objs.size + 1) scope.names []) cells →
      wpG (model prog w) (A.deeper (envOfC name scope s.heap.objs.size fa cd)) (execs body (envOfC name scope s.heap.objs.size fa cd)) (fun f s' => R (.ok (.ret (match f with | .ret v => v | _ => .none))) s')
        (fun e s' => wpG (model prog w) (A.deeper (envOfC name scope s.heap.objs.size fa cd)) (leaving (envOfC name scope s.heap.objs.size fa cd) e) (fun _ s'' => R (.error e) s'') (fun e' s'' => R (.error e') s'') s') { s with heap := h₁, toks := tk })
    (hco : scope.isCoroutine = false) (hgen : scope.isGenerator = false) (hk : scope.kind = .function) : codeG (model prog w) A (.call (.ref fa) ⟨vals, []⟩) R s := by
  refine callG_function hroom ho hdata hco hgen rfl hcd (hbind _ _ _ _ ?_)
  refine wpAny_newFunctionEnv_cells hk (kindsX hkind _) fun env' he s' x => ?_
  subst he
  refine ⟨hlim.keeps x.toInCall.keep, funcG ?_⟩
  obtain ⟨h₁, tk, rfl, _⟩ := x.done
  have hk₁ := x.toInCall.keep
  obtain ⟨cells, NC, Y⟩ := Cl.news (h₀ := s.heap) (Nat.le_refl _) fun n c hm => ⟨x.cell n c (lookup_of_mem_nodup (cellsFrom_names scope.names 0 (s.heap.objs.size + 1) [] [] rfl ▸ hnd) hm), x.above n c hm⟩
  exact h h₁ tk cells ⟨x.toInCall.ns, hk₁, Nat.le_refl _⟩ NC Y
end
end Mine
namespace Mine
open PySem PySem.W PySem.Calls PyProof.Rows
set_option maxRecDepth 100000
set_option maxHeartbeats 1000000
theorem eqb_str_none (a : Str) (t : Tok) : MeetsSeq.EqGives (.str a t) .none false := fun prog w A E s Q h => by
  unfold eqBool
  refine wpAny_holding ?_
  have e1 : ((Value.str a t) == Value.none) = false := rfl
  simp only [e1, Bool.false_eq_true, if_false]
  refine wpAny_bind ((show wpAny (model prog w) A (compareOp .Eq (.str a t) .none) _ _ _ from EqNone.eq_str_none ?_))
  exact wpAny_truthy_bool h
theorem none_in3 {prog : Program} {w : World} {A : Around} {E : Value → Shared → Prop} {s : Shared} {l : Addr} {a b c : Str} {t u v : Tok} {Q : Value → Shared → Prop} (hl : s.heap.IsTuple l #[.str a t, .str b u, .str c v]) (h : Q (.bool false) s) :
    wpAny (model prog w) A (compareOp .In .none (.ref l)) Q E s := by
  refine SeqAt.in_tupleAt (fun _ => false) hl (fun y hy => ?_) ?_
  · have : y = .str a t ∨ y = .str b u ∨ y = .str c v := by simpa using hy
    rcases this with rfl | rfl | rfl <;> exact (eqb_str_none _ _).at _ _
  · simpa using h
end Mine
namespace Mine
open PySem PySem.W PySem.Calls PyProof.Rows
set_option maxRecDepth 100000
set_option maxHeartbeats 4000000
local macro_rules | `(tactic| k_lt $h) => `(tactic| (have kept := $h; replace $h := allLt_of $h; simp only [AllLt, and_true] at $h:ident))
local macro_rules | `(tactic| k_ne) => `(tactic| (refine neN ?_; (try dsimp only); first | exact NeF.l (by with_reducible assumption) | exact NeF.r (by with_reducible assumption) | omega))
local macro_rules | `(tactic| walk_at "call ref") => `(tactic| (k_here; (with_reducible show wpAny _ _ (call (Value.ref 612) _ _) _ _ _); (refine wpAny_call ?_; refine' Mine.make_own ?F ?X ?o ?mb ?cl ?ty ?se ?tm ?r ?e ?p ?v ?i ?f ?_; (case F => k_asm); (case X => k_asm); (case o => exact Mine.f5_own _); (case mb => exact Mine.f5_mb _ _); (case cl => k_is); (case ty => k_is); (case se => k_is); (case tm => k_is); (case r => k_is); (case e => k_is); (case p => k_is); (case v => exact rfl); (case i => k_is); (case f => k_is); k_whole; k_enter)))
local macro_rules | `(tactic| walk_at "NewBack") => `(tactic| ((refine' Mine.newBack_ ?F ?N ?m ?_; (case F => k_asm); (case N => k_asm); (case m => k_mem); k_whole; k_enter)))
local macro_rules | `(tactic| walk_at "call builtin:object.__new__") => `(tactic| (k_here; (refine wpAny_call ?_; refine' Mine.new_own ?F ?N ?X ?o ?sb ?mo ?to ?ty ?_; (case F => k_asm); (case N => k_asm); (case X => k_asm); (case o => exact Mine.f5_own _); (case sb => exact Mine.f5_sb _ _); (case mo => exact Mine.f4_mo _ _); (case to => k_is); (case ty => k_is); k_whole; intro x' d' h' F' N' l1 l2; (try k_lt l1); (try k_lt2 l2); (try k_sweep); (try dsimp only))))
local macro_rules | `(tactic| walk_at "compareOp In none ref") => `(tactic| (k_here; (with_reducible show wpAny _ _ (compareOp CmpOp.In Value.none (Value.ref _)) _ _ _); (with_unfolding_all refine' none_in3 ?k1 ?_; (case k1 => exact News.isTup (by k_asm) (by news_mem)); k_whole)))
theorem setup_go {w : World} {s : Shared} {mg mb : Str → Option Value} {mean : ExcName → Option Value} {loose : List Str} {base : Heap} {L fa D : Nat} {cd : Value} {m : Str → Option Value} {o : Obj} {news : List (Addr × Obj)} {Q : Value → Shared → Prop} {E : Value → Shared → Prop}
    (X' : (Mine.hd.heap_39 w.params).In base) (T' : Top Mine.hd.view_39 loose mean mg mb base) (K' : Below callerA base [] base)
    (F' : Fr base L s.heap m) (N' : News base L s.heap ((D, o) :: news)) (hoff : OwnOff news [D]) (lo' : (D == sysModules) = false) (hs' : o.IsDictOf (PySem.strKind PySem.Challenge.rw_dn0266_04.row.prog w) [])
    (hQ : ∀ (x dx b t1 t2 t3 n : Nat) (o' : Obj) es h' tk' news', Fr base L h' m → News base L h' news' →
      (∀ p ∈ ([(x, instObj 365 dx), (dx, dictOf [⟨PyData.keyHash w.params (Str.ofString "_BytesIO__buf"), .str (Str.ofString "_BytesIO__buf") t1, .ref b⟩, ⟨PyData.keyHash w.params (Str.ofString "_BytesIO__pos"), .str (Str.ofString "_BytesIO__pos") t2, .int 0 t3⟩] n), (b, baObj #[]), (D, o')] : List (Addr × Obj)), p ∈ news') →
      (∀ p ∈ news, p ∈ news') → o'.IsDictOf (PySem.strKind PySem.Challenge.rw_dn0266_04.row.prog w) es → es.lookup (Str.ofString "wsgi.input") = some (.ref x) → (∀ p ∈ news, p.1 < dx) → D < dx → dx < x → x < b → Q .none { s with heap := h', toks := tk' }) :
    wpG (model PySem.Challenge.rw_dn0266_04.row.prog w) (callerA.deeper (lawEnv4 L fa cd)) (call (.ref 621) [.ref D]) Q E s := by
  obtain ⟨hp, gs, dr, tk, os⟩ := s
  dsimp only at F' N'
  revert X'; k_fill; intro X'
  refine wpG_call ?_
  refine' defG ?k1 ?k2 ?k3 ?k4 ?k5 ?kA ?kF ?kK ?k6 ?k7 ?k8 ?k9 ?kB ?_ ?c2 ?c3 ?c4 ?c5
  case kA => exact rfl
  case kF => exact rfl
  case kK => exact rfl
  case k1 => k_asm
  case k2 => k_asm
  case k3 => k_asm
  case k4 => k_asm
  case k5 => k_asm
  case k6 => k_is
  case k7 => k_is
  case k8 => k_room
  case k9 => first | exact BindsTo.of_eq rfl | exact binds_K (by k_in) rfl (by k_is) rfl rfl rfl
  case c5 => decide
  case kB => exact locs rfl
  case c2 => exact rfl
  case c3 => exact rfl
  case c4 => exact rfl
  intro g1 L1 h1 FG1 F1 N1 B1 X1 T1
  (try dsimp only); (try k_lift B1); (try k_fold)
  refine execsG_append (front := [_, _, _, _, _, _, _, _, _, _]) ?_
  k_steps
  (show wpG _ _ (execs (_ :: _) _) _ _ _)
  refine execsG_cons ?_
  refine exprG ?_ ?hi ?hs
  case hi => exact rfl
  case hs => with_unfolding_all rfl
  refine' callAttrG ?_ ?he
  case he => with_unfolding_all rfl
  k_steps
  refine callBG ?_ ?he ?hp
  case he => exact rfl
  case hp => exact rfl
  refine splicedG_back (wpG_of ?_) ?he
  case he => exact rfl
  k_steps
  refine splicedG_back ?_ ?he
  case he => exact rfl
  refine callNameG ?_
  k_steps
  refine callKG0 (K := Mine.hd.heap_39 w.params) ?hx ?hk ?_
  case hx => k_in
  case hk => k_is
  (try dsimp only [List.nil_append])
  refine' bio_new ?bX ?bT ?bK ?bf ?bk ?br ?bu ?bF ?bN ?_
  case bX => k_asm
  case bT => k_asm
  case bK => k_asm
  case bF => k_asm
  case bN => k_asm
  case bf => exact rfl
  case bk => exact rfl
  case br => ((try simp only [depth_deeper]); (try dsimp only [Around.in1]); decide)
  case bu => ((try simp only [units_deeper]); (try dsimp only [Around.in1]); decide)
  intro x dx b t1 t2 t3 n h' tk' news' F' N' hm hr hlt ho1 ho2
  replace N' := news3 hm hr N'
  clear hm hr
  k_lt hlt
  refine wpG_of (spliced_nil ?_)
  (try dsimp only [List.cons_append, List.nil_append])
  refine wpG_of ?_
  k_steps
  (show wpG _ _ (execs (_ :: _) _) _ _ _)
  refine wpG_of ?_
  k_steps
  refine' hQ _ _ _ _ _ _ _ _ _ _ _ _ ?F ?N ?m ?r ?d ?l ?lt ?o0 ?o1 ?o2
  case F => assumption
  case N => assumption
  case m => with_unfolding_all k_allIn
  case r => (intro p hp; k_ownIn)
  case d => assumption
  case l => with_unfolding_all rfl
  case lt => exact fun p hp => (by assumption : ∀ q ∈ _, q.1 < dx) p (by k_ownIn)
  case o0 => omega
  case o1 => omega
  case o2 => omega
end Mine
namespace Mine
open PySem PySem.W PySem.Calls PyProof.Rows
set_option maxRecDepth 100000
set_option maxHeartbeats 1000000
theorem lookup_int_index : typeLookup (.type "int") "__index__" = pure (some (.builtin "int.__index__")) := by rw [typeLookup_type, builtinLookup_eq_fast]; kernel_rfl
theorem lookup_sl_index : typeLookup (.type "slice") "__index__" = pure none := by rw [typeLookup_type, builtinLookup_eq_fast]; kernel_rfl
theorem lookup_by_int : typeLookup (.type "bytes") "__int__" = pure none := by rw [typeLookup_type, builtinLookup_eq_fast]; kernel_rfl
theorem lookup_by_float : typeLookup (.type "bytes") "__float__" = pure none := by rw [typeLookup_type, builtinLookup_eq_fast]; kernel_rfl
theorem sub_by_complex : isSubtype (.type "bytes") (.type "complex") = pure false := by rw [isSubtype_type]; kernel_rfl
theorem sub_by_ba : isSubtype (.type "bytes") (.type "bytearray") = pure false := by rw [isSubtype_type]; kernel_rfl
abbrev slObj (a b c : Value) : Obj := { cls := .type "slice", data := .fields #[a, b, c] }
section
variable {prog : Program} {w : World} {A : Around} {E : Value → Shared → Prop} {s : Shared}
theorem slParts {sl : Addr} {lo hi : Int} {t u : Tok} {Q : Value × Value × Value → Shared → Prop} (ho : s.heap.get? sl = some (slObj (.int lo t) (.int hi u) .none)) (h : Q (rawInt lo, rawInt hi, .none) s) :
    wpAny (model prog w) A (Builtin.Bytes.sliceParts (.ref sl)) Q E s := by
  unfold Builtin.Bytes.sliceParts
  refine wpAny_bind (wpAny_field ho rfl rfl ?_)
  refine wpAny_bind ?_
  refine wpAny_pure ?_
  have e0 : (Value.none == rawInt 0) = false := rfl
  simp only [e0, Bool.false_eq_true, if_false]
  refine wpAny_bind (wpAny_field ho rfl rfl ?_)
  have part : ∀ {k : Int} {v : Tok} {Q' : Value → Shared → Prop}, Q' (rawInt k) s → wpAny (model prog w) A (do
      if (Value.int k v == .none) = true then return Value.none
      if (← specialOf (.int k v) "__index__").isNone then
        rule "bytes.slice.part-no-index"; raiseError "TypeError" "slice indices must be integers or None or have an __index__ method"
      return rawInt (← asIndex (.int k v))) Q' E s := by
    intro k v Q' hq
    have e1 : (Value.int k v == Value.none) = false := rfl
    simp only [e1, Bool.false_eq_true, if_false]
    refine wpAny_bind (wpAny_specialOf (T := "int") rfl lookup_int_index ?_)
    simp only [Option.isNone_some, Bool.false_eq_true, if_false]
    exact wpAny_bind (wpAny_of_eq rfl (wpAny_pure hq))
  refine wpAny_bind (part ?_)
  refine wpAny_bind (wpAny_field ho rfl rfl ?_)
  refine wpAny_bind (part ?_)
  exact wpAny_pure h
theorem slIdx0 {n : Nat} : sliceIndices (rawInt 0) (rawInt (n : Int)) .none 0 = pure (0, 0, 1) := by
  have a0 : ∀ k, asIndex (rawInt k) = pure k := fun _ => rfl
  have r0 : ∀ k, (rawInt k == Value.none) = false := fun _ => rfl
  have m0 : max (0 : Int) (min (n : Int) 0) = 0 := by omega
  have m1 : ¬ ((n : Int) < 0) := by omega
  unfold sliceIndices
  simp [a0, r0]
  rw [m0]
theorem subs_sl {sl : Addr} {o : Obj} {Q : Option Int → Shared → Prop} (ho : s.heap.get? sl = some o) (hc : o.cls = .type "slice") (h : Q none s) : wpAny (model prog w) A (Builtin.Bytes.subscript? (.ref sl)) Q E s := by
  unfold Builtin.Bytes.subscript?
  have hT : s.TypeIs (.ref sl) "slice" := ⟨o, ho, hc⟩
  exact wpAny_bind (wpAny_specialOf hT lookup_sl_index (wpAny_pure h))
theorem payload_ba {b : Addr} {arr : Array UInt8} {n : Nat} {Q : Array UInt8 → Shared → Prop} (hb : s.heap.get? b = some (baObj arr n)) (h : Q arr s) : wpAny (model prog w) A (Builtin.Bytes.payload (.ref b)) Q E s := by
  unfold Builtin.Bytes.payload
  refine wpAny_bind ?_
  show wpAny _ _ (load b >>= _) _ _ _
  exact wpAny_bind (wpAny_load hb (wpAny_pure (wpAny_pure h)))
theorem number_by {arr : Array UInt8} {t : Tok} {Q : Bool → Shared → Prop} (h : Q false s) : wpAny (model prog w) A ((do return (← specialOf (.bytes arr t) "__index__").isSome) <||> (do return (← specialOf (.bytes arr t) "__int__").isSome) <||> (do return (← specialOf (.bytes arr t) "__float__").isSome) <||> isInstance (.bytes arr t) (.type "complex")) Q E s := by
  unfold orM
  refine wpAny_bind (wpAny_bind (wpAny_specialOf (bytes_is arr t) lookup_by_index (wpAny_pure ?_)))
  refine wpAny_bind (wpAny_bind (wpAny_specialOf (bytes_is arr t) lookup_by_int (wpAny_pure ?_)))
  refine wpAny_bind (wpAny_bind (wpAny_specialOf (bytes_is arr t) lookup_by_float (wpAny_pure ?_)))
  exact wpAny_isInstance (bytes_is arr t) sub_by_complex h
theorem resizeG {b : Addr} {arr : Array UInt8} {Q : Unit → Shared → Prop} (hg : A.guards = some []) (hb : s.heap.get? b = some (baObj arr)) (h : Q () s) : wpG (model prog w) A (Builtin.Bytes.checkResize (.ref b)) Q E s := by
  unfold Builtin.Bytes.checkResize
  refine wpG_bind (heldG hg hb ?_)
  simp only [Bool.false_eq_true, if_false]
  exact wpG_pure h
theorem ba_setitemG {h₀ : Heap} {L b sl : Addr} {m : Str → Option Value} {news news' : List (Addr × Obj)} {arr : Array UInt8} {t u v : Tok} {n : Nat} {Q : Value → Shared → Prop} (hg : A.guards = some []) (F : Fr h₀ L s.heap m) (N : News h₀ L s.heap ((sl, slObj (.int 0 u) (.int n v) .none) :: news)) (U : Upd b (baObj #[]) (baObj arr) ((sl, slObj (.int 0 u) (.int n v) .none) :: news) news') (hz : arr.size ≤ sizeLine)
    (h : ∀ h' c, Fr h₀ L h' m → News h₀ L h' ((c, baObj arr) :: news') → (∀ p ∈ news, p.1 < c) → Q .none { s with heap := h' }) :
    wpG (model prog w) A (Builtin.«bytearray.__setitem__» ⟨[.ref b, .ref sl, .bytes arr t], []⟩) (fun fin s' => ∃ v, fin = .done (.ret v) ∧ Q v s') E s := by
  obtain ⟨pre, post, e1, e2, o1, o2⟩ := U.split
  have hsl := (N _ (.head _)).1
  have hbm : (b, baObj #[]) ∈ ((sl, slObj (.int 0 u) (.int n v) .none) :: news) := by rw [e1]; exact List.mem_append_right _ (.head _)
  have hb : s.heap.get? b = some (baObj #[]) := (N _ hbm).1
  have hT : s.TypeIs (.ref sl) "slice" := ⟨_, hsl, rfl⟩
  unfold Builtin.«bytearray.__setitem__»
  simp only [List.isEmpty_nil, Bool.not_true, Bool.false_eq_true, if_false]
  refine wpG_bindA (subs_sl hsl rfl ?_)
  dsimp only
  refine wpG_bindA (wpAny_typeOf hT ?_)
  simp only [bne_self_eq_false, Bool.false_eq_true, if_false]
  refine wpG_bindA (slParts hsl ?_)
  have r1 : Builtin.Bytes.sameRef (.ref b) (.bytes arr t) = false := rfl
  simp only [r1, Bool.false_eq_true, if_false]
  refine wpG_bindA (wpAny_isInstance (bytes_is arr t) sub_by_ba ?_)
  simp only [Bool.not_false, if_true]
  refine wpG_bindA (number_by ?_)
  refine wpG_bindA (wpAny_of_eq (show asStr? (.bytes arr t) = pure none from rfl) ?_)
  simp only [Option.isSome_none, Bool.or_self, Bool.false_eq_true, if_false]
  refine wpG_bindA (wpAny_rule ?_)
  refine wpG_bind (baG1 hg F N hz ?_)
  intro c h' F1 N1 lt
  have hsl1 : h'.get? sl = some (slObj (.int 0 u) (.int n v) .none) := (N1 _ (.tail _ (.head _))).1
  have hc1 : h'.get? c = some (baObj arr) := (N1 _ (.head _)).1
  have hb1 : h'.get? b = some (baObj #[]) := (N1 _ (.tail _ hbm)).1
  refine wpG_bindA (wpAny_holding (slParts hsl1 ?_))
  refine wpG_bindA (payload_ba hc1 ?_)
  refine wpG_bindA (payload_ba hb1 ?_)
  have z0 : (#[] : Array UInt8).size = 0 := rfl
  simp only [z0]
  rw [slIdx0]
  refine wpG_bindA (wpAny_pure ?_)
  simp only [beq_self_eq_true, if_true]
  refine wpG_bindA (wpAny_rule ?_)
  have fE : (fun b : Array UInt8 => b.extract 0 (0 : Int).toNat ++ arr ++ b.extract (max (0 : Int) 0).toNat b.size) #[] = arr := by
    show (#[] : Array UInt8).extract 0 0 ++ arr ++ (#[] : Array UInt8).extract 0 0 = arr
    have q : (#[] : Array UInt8).extract 0 0 = #[] := rfl
    rw [q, Array.empty_append, Array.append_empty]
  have fin : ∀ f : Array UInt8 → Array UInt8, f #[] = arr → wpG (model prog w) A (do Builtin.Bytes.write (.ref b) f; ret .none) (fun fin s' => ∃ v, fin = .done (.ret v) ∧ Q v s') E { s with heap := h' } := by
    intro f hf
    refine wpG_bindA (ba_write hb1 (by rw [hf]; exact hz) (wpG_pure ⟨_, rfl, ?_⟩))
    rw [e1] at N1
    have cb : c ≠ b := fun q => by
      have := lt _ hbm
      rw [q] at this
      exact Nat.lt_irrefl _ this
    have U1 := news_upd (pre := (c, baObj arr) :: pre) (post := post) (f := Obj.mapBytearray f) F1 N1 (fun p hp => (List.mem_cons.mp hp).elim (fun e => e ▸ cb) (o1 p)) o2 (o' := baObj arr) (by show baObj (f #[]) = _; rw [hf]) rfl
    rw [e2] at h
    exact h _ c U1.1 U1.2 fun p hp => lt p (.tail _ hp)
  split
  · refine wpG_bind (resizeG hg hb1 ?_)
    exact fin _ fE
  · exact fin _ fE
theorem slot_ba_set : Slot "bytearray" "__setitem__" "bytearray.__setitem__" :=
  .of (owner := "bytearray") (n := "__setitem__") (by rw [typeLookup_type, builtinLookup_eq_fast]; kernel_rfl) (by decide +kernel) (by decide +kernel) (by decide +kernel) (.inl (by decide +kernel)) (by rw [isSubtype_type]; kernel_rfl)
theorem entry_ba_set : entryFor table "bytearray.__setitem__" = some Builtin.«bytearray.__setitem__» := entryFor_of_tree (by kernel_rfl)
theorem args_ba_set (a b c : Value) : argsOk "bytearray.__setitem__" ⟨[a, b, c], []⟩ := by unfold argsOk; kernel_rfl
theorem bas_noDec {args : Args} : isDec (.builtin "bytearray.__setitem__" args) = false := by
  show Builtin.Bytes.decodersThatHold.contains "bytearray.__setitem__" = false
  decide +kernel
theorem setSliceG {h₀ : Heap} {L b sl : Addr} {m : Str → Option Value} {news news' : List (Addr × Obj)} {arr : Array UInt8} {t u v : Tok} {n : Nat} {Q : Unit → Shared → Prop} (hg : A.guards = some []) (F : Fr h₀ L s.heap m) (N : News h₀ L s.heap ((sl, slObj (.int 0 u) (.int n v) .none) :: news)) (U : Upd b (baObj #[]) (baObj arr) ((sl, slObj (.int 0 u) (.int n v) .none) :: news) news') (hz : arr.size ≤ sizeLine)
    (h : ∀ h' c, Fr h₀ L h' m → News h₀ L h' ((c, baObj arr) :: news') → (∀ p ∈ news, p.1 < c) → Q () { s with heap := h' }) :
    wpG (model prog w) A (setItem (.ref b) (.ref sl) (.bytes arr t)) Q E s := by
  obtain ⟨pre, post, e1, e2, o1, o2⟩ := U.split
  have hbm : (b, baObj #[]) ∈ ((sl, slObj (.int 0 u) (.int n v) .none) :: news) := by rw [e1]; exact List.mem_append_right _ (.head _)
  have hb : s.heap.get? b = some (baObj #[]) := (N _ hbm).1
  have hT : s.TypeIs (.ref b) "bytearray" := ⟨_, hb, rfl⟩
  unfold setItem
  refine wpG_holding ?_
  refine wpG_bindA (wpAny_sequenceKey hT (by decide) ?_)
  refine wpG_bind ?_
  unfold callSpecial?
  refine wpG_bindA (wpAny_specialOf hT slot_ba_set.lookup ?_)
  dsimp only
  refine wpG_holding ?_
  rw [slot_ba_set.bind (.ref b)]
  refine wpG_bindA (wpAny_pure ?_)
  dsimp only
  refine wpG_bind (wpG_call (callBuiltinG slot_ba_set.plain entry_ba_set bas_noDec (slot_ba_set.check _ _ _ _ _ _ _ _ hT (args_ba_set _ _ _) ?_)))
  refine wpG_mono (ba_setitemG (Q := fun v s' => v = .none ∧ Q () s') hg F N U hz fun h' c F' N' lt => ⟨rfl, h h' c F' N' lt⟩) (fun fin s' z => ?_) fun _ _ z => z
  obtain ⟨v, rfl, rfl, z⟩ := z
  exact wpG_pure (wpG_pure z)
end
section
variable {M : Model} {A : Around} {E : Value → Shared → Prop} {s : Shared} {env : Env}
theorem assignSubG {o i value : PySem.Expr} {pos' pos : Pos} {Q : Flow → Shared → Prop}
    (h : wpAny M A (eval value env) (fun v s₁ => wpAny M A (eval o env) (fun ov s₂ => wpAny M A (eval i env) (fun iv s₃ => wpG M A (setItem ov iv v) (fun _ => Q .next) E s₃) E s₂) E s₁) E s)
    (hs : swapsWith value (some (.Subscript o i pos')) pos.line env = pure false) :
    wpG M A (exec (.Assign [.Subscript o i pos'] value pos) env) Q E s := fun Γ p hΓ g => by
  simp only [exec_Assign_Subscript o i pos' value pos hs, assign_Subscript, Sem.wp_bind', Sem.wp_holding, Sem.wp_cmd_standAt, Sem.wp_release, Sem.wp_pure']
  exact Sem.wp_mono M Γ _ (fun v p₁ s₁ h₁ => Sem.wp_mono M Γ _ (fun ov p₂ s₂ h₂ => Sem.wp_mono M Γ _ (fun iv _ s₃ h₃ => h₃ Γ _ hΓ g)
    (fun _ _ _ h' => h') _ _ (h₂ Γ p₂ hΓ)) (fun _ _ _ h' => h') _ _ (h₁ Γ p₁ hΓ)) (fun _ _ _ h' => h') _ _ (h Γ _ hΓ)
end
end Mine
namespace Mine
open PySem PySem.W PySem.Calls PyProof.Rows
set_option maxRecDepth 100000
set_option maxHeartbeats 1000000
theorem slot_ba_len : Slot "bytearray" "__len__" "bytearray.__len__" :=
  .of (owner := "bytearray") (n := "__len__") (by rw [typeLookup_type, builtinLookup_eq_fast]; kernel_rfl) (by decide +kernel) (by decide +kernel) (by decide +kernel) (.inl (by decide +kernel)) (by rw [isSubtype_type]; kernel_rfl)
theorem entry_ba_len : entryFor table "bytearray.__len__" = some Builtin.«bytearray.__len__» := entryFor_of_tree (by kernel_rfl)
theorem args_ba_len (a : Value) : argsOk "bytearray.__len__" ⟨[a], []⟩ := by unfold argsOk; kernel_rfl
section
variable {prog : Program} {w : World} {A : Around} {E : Value → Shared → Prop} {s : Shared}
theorem len_ba {b : Addr} {arr : Array UInt8} {n : Nat} {Q : Value → Shared → Prop} (hb : s.heap.get? b = some (baObj arr n)) (hz : arr.size ≤ sizeLine)
    (h : Q (.int arr.size (s.toks + 1)) { s with toks := s.toks + 1 + 1 }) : wpAny (model prog w) A (call (.builtin "len") [.ref b]) Q E s := by
  have hT : s.TypeIs (.ref b) "bytearray" := ⟨_, hb, rfl⟩
  have hz' : arr.size ≤ 1048576 * 64 := by rw [PySem.sizeLine_eq] at hz; omega
  refine Calls.call_function_entry kind_len plain_len entry_len (args_len1 _) ?_
  unfold Builtin.«len»
  refine wpAny_bind (m := oneArg "len" _) (wpAny_pure ?_)
  refine wpAny_bind (m := callSpecial? (.ref b) (Str.ofString "__len__")) (wpAny_callSpecial?_slot (name := Str.ofString "__len__") hT slot_ba_len (wpAny_call_entry slot_ba_len hT entry_ba_len ?_ (args_ba_len _)))
  show wpAny _ _ (do retInt (← Builtin.Bytes.payload (.ref b)).size) _ _ s
  refine wpAny_bind (payload_ba hb ?_)
  refine wpAny_bind (wpAny_mkInt (wpAny_pure ⟨_, rfl, ?_⟩))
  refine wpAny_bind (wpAny_holding (wpAny_pure ?_))
  refine wpAny_bind (wpAny_letGo ?_)
  show wpAny _ _ (if (arr.size : Int) < 0 then _ else _) _ _ _
  rw [if_neg (by omega)]
  show wpAny _ _ (if (arr.size : Int) ≥ 2 ^ 63 then _ else _) _ _ _
  rw [if_neg (by omega)]
  exact wpAny_bind (wpAny_mkInt (wpAny_pure ⟨_, rfl, h⟩))
end
end Mine
namespace Mine
open PySem PySem.W PySem.Calls PyProof.Rows
set_option maxRecDepth 100000
set_option maxHeartbeats 1000000
def SliceMade (l u st : Value) (Q : Value → Shared → Prop) (s : Shared) : Prop := Q (.ref s.heap.objs.size) { s with heap := s.heap.push (slObj l u st) }
section
variable {M : Model} {A : Around} {E : Value → Shared → Prop} {s : Shared} {env : Env}
theorem slice_N {lower upper step : Option PySem.Expr} {p : Pos} {Q : Value → Shared → Prop}
    (h : wpAny M A (evalPart lower env) (fun l s₁ => wpAny M A (evalPart upper env) (fun u s₂ => wpAny M A (evalPart step env) (fun st s₃ => SliceMade l u st Q s₃) E s₂) E s₁) E s) :
    wpAny M A (eval (.Slice lower upper step p) env) Q E s := wpAny_Slice h
theorem sliceMade_ {h₀ : Heap} {L : Addr} {m : Str → Option Value} {news : List (Addr × Obj)} {l u st : Value} {Q : Value → Shared → Prop} (F : Fr h₀ L s.heap m) (N : News h₀ L s.heap news)
    (h : ∀ a h', Fr h₀ L h' m → News h₀ L h' ((a, slObj l u st) :: news) → (∀ p ∈ news, p.1 < a) → Q (.ref a) { s with heap := h' }) : SliceMade l u st Q s :=
  h _ _ (F.push _) (N.push F _) fun p hp => Heap.lt_size (N p hp).1
end
theorem news_two {h₀ h : Heap} {L : Addr} {l1 l2 news' : List (Addr × Obj)} (hm : ∀ p ∈ l1, p ∈ news') (hr : ∀ p ∈ l2, p ∈ news') (N : News h₀ L h news') : News h₀ L h (l1 ++ l2) := fun p hp => by
  rcases List.mem_append.mp hp with hp | hp
  · exact N p (hm p hp)
  · exact N p (hr p hp)
theorem setSliceG' {prog : Program} {w : World} {A : Around} {E : Value → Shared → Prop} {s : Shared} {h₀ : Heap} {L b sl : Addr} {m : Str → Option Value} {news news' : List (Addr × Obj)} {arr : Array UInt8} {t u v : Tok} {n : Nat} {hi : Int} {Q : Unit → Shared → Prop} (hhi : hi = n) (hg : A.guards = some []) (F : Fr h₀ L s.heap m) (N : News h₀ L s.heap ((sl, slObj (.int 0 u) (.int hi v) .none) :: news)) (U : Upd b (baObj #[]) (baObj arr) ((sl, slObj (.int 0 u) (.int hi v) .none) :: news) news') (hz : arr.size ≤ sizeLine)
    (h : ∀ h' c, Fr h₀ L h' m → News h₀ L h' ((c, baObj arr) :: news') → (∀ p ∈ news, p.1 < c) → Q () { s with heap := h' }) :
    wpG (model prog w) A (setItem (.ref b) (.ref sl) (.bytes arr t)) Q E s := by
  subst hhi
  exact setSliceG hg F N U hz h
theorem put_bio {P : Params} {hs : Int} {k v p b : Value} {t1 t2 n : Nat} : (putL (Str.ofString "_BytesIO__pos") hs k v [⟨PyData.keyHash P (Str.ofString "_BytesIO__buf"), .str (Str.ofString "_BytesIO__buf") t1, b⟩, ⟨PyData.keyHash P (Str.ofString "_BytesIO__pos"), .str (Str.ofString "_BytesIO__pos") t2, p⟩], putN (Str.ofString "_BytesIO__pos") [⟨PyData.keyHash P (Str.ofString "_BytesIO__buf"), .str (Str.ofString "_BytesIO__buf") t1, b⟩, ⟨PyData.keyHash P (Str.ofString "_BytesIO__pos"), .str (Str.ofString "_BytesIO__pos") t2, p⟩] n)
   = ([⟨PyData.keyHash P (Str.ofString "_BytesIO__buf"), .str (Str.ofString "_BytesIO__buf") t1, b⟩, ⟨PyData.keyHash P (Str.ofString "_BytesIO__pos"), .str (Str.ofString "_BytesIO__pos") t2, v⟩], n) := by
  rfl
end Mine
namespace Mine
open PySem PySem.W PySem.Calls PyProof.Rows
set_option maxRecDepth 100000
set_option maxHeartbeats 1000000
abbrev bioDict (w : World) (b : Nat) (t1 t2 : Nat) (pos : Value) (n : Nat) : Obj := dictOf [⟨PyData.keyHash w.params (Str.ofString "_BytesIO__buf"), .str (Str.ofString "_BytesIO__buf") t1, .ref b⟩, ⟨PyData.keyHash w.params (Str.ofString "_BytesIO__pos"), .str (Str.ofString "_BytesIO__pos") t2, pos⟩] n
local macro_rules | `(tactic| k_lt $h) => `(tactic| (have kept := $h; replace $h := allLt_of $h; simp only [AllLt, and_true] at $h:ident))
local macro_rules | `(tactic| k_ne) => `(tactic| (refine neN ?_; (try dsimp only); first | exact NeF.l (by with_reducible assumption) | exact NeF.r (by with_reducible assumption) | omega))
local macro_rules | `(tactic| walk_at "call builtin:len") => `(tactic| (k_here; (with_reducible show wpAny _ _ (call (Value.builtin "len") [Value.ref _]) _ _ _); (with_unfolding_all refine' len_ba ?k1 ?k2 ?_; (case k1 => exact (News.get (by k_asm) (by k_mem))); (case k2 => (rw [PySem.sizeLine_eq]; (try simp only [Array.size_empty, List.size_toArray, List.length_nil]); omega)); k_whole)))
local macro_rules | `(tactic| walk_at "call type:type") => `(tactic| (k_here; (with_reducible show wpAny _ _ (call (Value.type "type") [Value.bytes _ _]) _ _ _); (with_unfolding_all refine' call_type_of (Tx := "bytes") ?k1 ?k2 ?_; (case k1 => exact rfl); (case k2 => decide); k_whole)))
local macro_rules | `(tactic| walk_at "ite") => `(tactic| (first | ((refine ite_neg ?h ?_); (case h => (simp only [beq_iff_eq, bne_iff_ne, ne_eq, decide_eq_true_eq, Bool.false_bne, Bool.true_bne, Bool.not_eq_true', decide_eq_false_iff_not, reduceCtorEq, not_false_eq_true, Array.size_empty, List.size_toArray, List.length_nil]; first | done | omega))) | ((refine ite_pos ?h ?_); (case h => (simp only [beq_iff_eq, bne_iff_ne, ne_eq, decide_eq_true_eq, Bool.false_bne, Bool.true_bne, Bool.not_eq_true', decide_eq_false_iff_not, reduceCtorEq, not_false_eq_true, Array.size_empty, List.size_toArray, List.length_nil]; first | done | omega)))))
local macro_rules | `(tactic| walk_at "eval Slice") => `(tactic| with_reducible refine slice_N ?_)
local macro_rules | `(tactic| walk_at "SliceMade") => `(tactic| ((refine' Mine.sliceMade_ ?F ?N ?_; (case F => k_asm); (case N => k_asm); k_whole; intro a' h' F' N' l1; (try k_lt l1); (try dsimp only))))
local macro_rules | `(tactic| k_put) => `(tactic| exact Mine.put_bio)
theorem write_go {w : World} {s : Shared} {mg mb : Str → Option Value} {mean : ExcName → Option Value} {loose : List Str} {base : Heap} {L fa x dx b t1 t2 t3 n t : Nat} {cd : Value} {m : Str → Option Value} {arr : Array UInt8} {rest : List (Addr × Obj)} {Q : Value → Shared → Prop} {E : Value → Shared → Prop}
    (X' : (Mine.hd.heap_39 w.params).In base) (T' : Top Mine.hd.view_39 loose mean mg mb base) (K' : Below callerA base [] base)
    (F' : Fr base L s.heap m) (N' : News base L s.heap ((x, instObj 365 dx) :: (dx, bioDict w b t1 t2 (.int 0 t3) n) :: (b, baObj #[]) :: rest)) (hoff : OwnOff rest [x, dx, b]) (hne : NeAll [x, dx, b])
    (hz : arr.size ≤ 100) (hz0 : 0 < arr.size)
    (hQ : ∀ h' tk' t4 t5 news', Fr base L h' m → News base L h' news' → (∀ p ∈ ([(x, instObj 365 dx), (dx, bioDict w b t1 t2 (.int arr.size t4) n), (b, baObj arr)] : List (Addr × Obj)), p ∈ news') → (∀ p ∈ rest, p ∈ news') → Q (.int arr.size t5) ⟨h', s.gens, s.drawn, tk', s.os⟩) :
    wpG (model PySem.Challenge.rw_dn0266_04.row.prog w) (callerA.deeper (lawEnv4 L fa cd)) (call (.ref 348) [.ref x, .bytes arr t]) Q E s := by
  simp only [NeAll, NeTo, and_true] at hne
  obtain ⟨⟨n0_1, n0_2⟩, n1_2⟩ := hne
  obtain ⟨hp, gs, dr, tk, os⟩ := s
  dsimp only at F' N'
  revert X'; k_fill; intro X'
  refine wpG_call ?_
  refine' defG ?k1 ?k2 ?k3 ?k4 ?k5 ?kA ?kF ?kK ?k6 ?k7 ?k8 ?k9 ?kB ?_ ?c2 ?c3 ?c4 ?c5
  case kA => exact rfl
  case kF => exact rfl
  case kK => exact rfl
  case k1 => k_asm
  case k2 => k_asm
  case k3 => k_asm
  case k4 => k_asm
  case k5 => k_asm
  case k6 => k_is
  case k7 => k_is
  case k8 => k_room
  case k9 => first | exact BindsTo.of_eq rfl | exact binds_K (by k_in) rfl (by k_is) rfl rfl rfl
  case c5 => decide
  case kB => exact locs rfl
  case c2 => exact rfl
  case c3 => exact rfl
  case c4 => exact rfl
  intro g1 L1 h1 FG1 F1 N1 B1 X1 T1
  (try dsimp only); (try k_lift B1); (try k_fold)
  refine execsG_append (front := [_, _, _, _, _, _, _]) ?_
  k_steps
  (show wpG _ _ (execs (_ :: _) _) _ _ _)
  refine execsG_cons ?_
  refine assignSubG ?_ ?sw
  case sw => with_unfolding_all rfl
  k_steps
  refine' setSliceG' (arr := arr) (n := arr.size) ?e ?g ?F ?N ?U ?z ?_
  case F => k_asm
  case N => k_asm
  case e => omega
  case g => exact rfl
  case U => k_upd
  case z => (rw [PySem.sizeLine_eq]; omega)
  intro h' c F' N' l1
  k_lt l1
  (show wpG _ _ (execs (_ :: _) _) _ _ _)
  refine wpG_of ?_
  k_steps
  (try simp only [Int.zero_add] at *)
  refine' hQ _ _ _ _ _ ?F ?N ?m ?r
  case F => assumption
  case N => assumption
  case m => with_unfolding_all k_allIn
  case r => (intro p hp; k_ownIn)
end Mine
namespace Mine
open PySem PySem.W PySem.Calls PyProof.Rows
set_option maxRecDepth 100000
set_option maxHeartbeats 1000000
theorem news_sub {h₀ h : Heap} {L : Addr} {l news : List (Addr × Obj)} (hs : ∀ p ∈ l, p ∈ news) (N : News h₀ L h news) : News h₀ L h l := fun p hp => N p (hs p hp)
local macro_rules | `(tactic| walk_at "none 0") => `(tactic| fail)
local macro_rules | `(tactic| walk_at "none 1") => `(tactic| fail)
local macro_rules | `(tactic| walk_at "none 2") => `(tactic| fail)
local macro_rules | `(tactic| walk_at "none 3") => `(tactic| fail)
local macro_rules | `(tactic| walk_at "none 4") => `(tactic| fail)
local macro_rules | `(tactic| k_lt $h) => `(tactic| (have kept := $h; replace $h := allLt_of $h; simp only [AllLt, and_true] at $h:ident))
local macro_rules | `(tactic| k_ne) => `(tactic| (refine neN ?_; (try dsimp only); first | exact NeF.l (by with_reducible assumption) | exact NeF.r (by with_reducible assumption) | omega))
local macro_rules | `(tactic| walk_at "ite") => `(tactic| (first | ((refine ite_neg ?h ?_); (case h => (simp only [beq_iff_eq, bne_iff_ne, ne_eq, decide_eq_true_eq, Bool.false_bne, Bool.true_bne, Bool.not_eq_true', decide_eq_false_iff_not, reduceCtorEq, not_false_eq_true, Array.size_empty, List.size_toArray, List.length_nil]; first | done | omega))) | ((refine ite_pos ?h ?_); (case h => (simp only [beq_iff_eq, bne_iff_ne, ne_eq, decide_eq_true_eq, Bool.false_bne, Bool.true_bne, Bool.not_eq_true', decide_eq_false_iff_not, reduceCtorEq, not_false_eq_true, Array.size_empty, List.size_toArray, List.length_nil]; first | done | omega)))))
local macro_rules | `(tactic| k_put) => `(tactic| exact Mine.put_bio)
theorem seek_go {w : World} {s : Shared} {mg mb : Str → Option Value} {mean : ExcName → Option Value} {loose : List Str} {base : Heap} {L fa x dx b t1 t2 n tp : Nat} {cd pv : Value} {m : Str → Option Value} {p : Int} {rest : List (Addr × Obj)} {Q : Value → Shared → Prop} {E : Value → Shared → Prop}
    (X' : (Mine.hd.heap_39 w.params).In base) (T' : Top Mine.hd.view_39 loose mean mg mb base) (K' : Below callerA base [] base)
    (F' : Fr base L s.heap m) (N' : News base L s.heap ((x, instObj 365 dx) :: (dx, bioDict w b t1 t2 pv n) :: rest)) (hoff : OwnOff rest [x, dx]) (hne : NeAll [x, dx])
    (hp0 : 0 ≤ p) (hp1 : p ≤ 1000)
    (hQ : ∀ h' tk' t4 t5 news', Fr base L h' m → News base L h' news' → (∀ q ∈ ([(x, instObj 365 dx), (dx, bioDict w b t1 t2 (.int p t4) n)] : List (Addr × Obj)), q ∈ news') → (∀ q ∈ rest, q ∈ news') → Q (.int p t5) ⟨h', s.gens, s.drawn, tk', s.os⟩) :
    wpAny (model PySem.Challenge.rw_dn0266_04.row.prog w) (callerA.deeper (lawEnv4 L fa cd)) (call (.ref 273) [.ref x, .int p tp]) Q E s := by
  simp only [NeAll, NeTo, and_true] at hne
  obtain ⟨hp, gs, dr, tk, os⟩ := s
  dsimp only at F' N'
  revert X'; k_fill; intro X'
  k_steps
  refine' hQ _ _ _ _ _ ?F ?N ?m ?r
  case F => assumption
  case N => assumption
  case m => with_unfolding_all k_allIn
  case r => (intro p hp; k_ownIn)
end Mine
namespace Mine
open PySem PySem.W PySem.Calls PyProof.Rows Builtin
set_option maxRecDepth 100000
set_option maxHeartbeats 1000000
theorem slot_ba_get : Slot "bytearray" "__getitem__" "bytearray.__getitem__" :=
  .of (owner := "bytearray") (n := "__getitem__") (by rw [typeLookup_type, builtinLookup_eq_fast]; kernel_rfl) (by decide +kernel) (by decide +kernel) (by decide +kernel) (.inl (by decide +kernel)) (by rw [isSubtype_type]; kernel_rfl)
theorem entry_ba_get : entryFor table "bytearray.__getitem__" = some Builtin.«bytearray.__getitem__» := entryFor_of_tree (by kernel_rfl)
theorem args_ba_get (a b : Value) : argsOk "bytearray.__getitem__" ⟨[a, b], []⟩ := by unfold argsOk; kernel_rfl
theorem meets_ba_slice (b : Addr) (arr : Array UInt8) (a : Addr) {l u : Value} {lo hi : Option Int} (hl : IsPart l lo) (hu : IsPart u hi) :
    Meets («bytearray.__getitem__» ⟨[.ref b, .ref a], []⟩) (fun _ R s => s.heap.IsSliceOf a l u .none ∧ s.heap.get? b = some (baObj arr) ∧ (KBy.picked arr lo hi).size ≤ sizeLine ∧ R (.ok (.ret (.ref s.heap.objs.size))) { s with heap := s.heap.push (baObj (KBy.picked arr lo hi)) }) := by
  refine .of_wp fun prog w A R s hS => ?_
  obtain ⟨⟨o, ho, hc, hd⟩, hb, hsz, h⟩ := hS
  have hT : s.TypeIs (.ref a) "slice" := ⟨o, ho, hc⟩
  show wpAny _ _ (Bytes.subscript? (.ref a) >>= fun r => _) _ _ s
  refine wpAny_bind ?_
  unfold Bytes.subscript?
  refine wpAny_bind (wpAny_specialOf hT slice_no_index (wpAny_pure ?_))
  refine wpAny_bind (wpAny_typeOf hT ?_)
  show wpAny _ _ (Bytes.sliceParts (.ref a) >>= fun r => _) _ _ s
  refine wpAny_bind ?_
  unfold Bytes.sliceParts
  refine wpAny_bind (wpAny_field (x := .none) ho hd rfl ?_)
  refine wpAny_bind (wpAny_of_eq (a := Value.none) rfl ?_)
  refine wpAny_ite (KBy.ite_no (show ¬ ((Value.none == rawInt 0) = true) from Bool.false_ne_true) ?_)
  refine wpAny_bind (wpAny_field (x := l) ho hd rfl ?_)
  have go : wpAny (model prog w) A.in1 (sliceIndices (rawPart lo) (rawPart hi) (rawPart none) arr.size) (fun r s' => r = sliceBounds lo hi none arr.size ∧ s' = s) (fun _ _ => False) s :=
    wpAny_of_eq (sliceIndices_raw lo hi none arr.size (fun e => nomatch e)) ⟨rfl, rfl⟩
  cases hl <;> cases hu <;> (first
    | (kby_none; (refine wpAny_bind (wpAny_field (x := .none) ho hd rfl ?_)); kby_none)
    | (kby_none; (refine wpAny_bind (wpAny_field (x := .int _ _) ho hd rfl ?_)); kby_int)
    | (kby_int; (refine wpAny_bind (wpAny_field (x := .none) ho hd rfl ?_)); kby_none)
    | (kby_int; (refine wpAny_bind (wpAny_field (x := .int _ _) ho hd rfl ?_)); kby_int)) <;> refine wpAny_pure ?_
  all_goals
    refine wpAny_bind (payload_ba hb ?_)
    refine wpAny_bind (wpAny_mono go (fun r s' hr => ?_) fun _ _ e => e.elim)
    obtain ⟨hr1, hr2⟩ := hr
    subst hr1 hr2
    refine wpAny_bind ?_
    unfold Bytes.newBytearray
    exact wpAny_newObj_type (wpAny_pure ⟨_, rfl, h⟩) hsz
section
variable {prog : Program} {w : World} {A : Around} {E : Value → Shared → Prop} {s : Shared} {value slice : PySem.Expr} {b : Addr} {arr : Array UInt8} {h₀ : Heap} {L : Addr} {m : PySem.Str → Option Value} {news : List (Addr × Obj)} {l u : Value} {lo hi : Option Int} {Q : Value → Shared → Prop}
theorem slice_ba (hF : Fr h₀ L s.heap m) (hN : News h₀ L s.heap news) (hb : (b, baObj arr) ∈ news) (hl : IsPart l lo) (hu : IsPart u hi) (hz : arr.size ≤ 16777216)
    (h : ∀ (c : Nat) h', Fr h₀ L h' m → News h₀ L h' ((c, baObj (KBy.picked arr lo hi)) :: news) → (∀ p ∈ news, p.1 < c) → Q (.ref c) { s with heap := h' })
    (hs : subscripted slice false (.ref b) (.ref s.heap.objs.size) = operate [.ref s.heap.objs.size, .ref b] (getItem (.ref b) (.ref s.heap.objs.size)) := by with_unfolding_all rfl)
    (ht : ∀ r, letTemporaryGo value (.ref b) r = pure () := by intro _; with_unfolding_all rfl) :
    wpAny (model prog w) A (subscriptTail value slice (.ref b) (.ref s.heap.objs.size)) Q E { s with heap := s.heap.push { cls := .type "slice", data := .fields #[l, u, .none] } } := by
  have hb0 := (hN _ hb).1
  have hb1 : (s.heap.push { cls := .type "slice", data := .fields #[l, u, .none] }).get? b = some (baObj arr) := Heap.get?_push_of_some _ hb0
  have hT : Shared.TypeIs { s with heap := s.heap.push { cls := .type "slice", data := .fields #[l, u, .none] } } (.ref b) "bytearray" := ⟨_, hb1, rfl⟩
  have F1 : Fr h₀ L (s.heap.push { cls := .type "slice", data := .fields #[l, u, .none] }) m := hF.push _
  have N1 : News h₀ L (s.heap.push { cls := .type "slice", data := .fields #[l, u, .none] }) news := News.pushKeep hN _
  refine tail_of_ItemOn ⟨"bytearray", _, slot_ba_get.lookup, hT, getItem_meets hT (by decide) slot_ba_get entry_ba_get (args_ba_get _ _) (meets_ba_slice b arr _ hl hu)
    ⟨Heap.IsSliceOf.new _ _ _ _, hb1, Nat.le_trans (KBc.size_picked_le arr lo hi) (by rw [sizeLine_eq]; exact hz), ?_⟩⟩ hs ht
  exact h _ _ (F1.push _) (N1.push F1 _) fun p hp => Heap.lt_size (N1 p hp).1
end
theorem ba_no_bytes : typeLookup (.type "bytearray") "__bytes__" = pure none := by rw [typeLookup_type, builtinLookup_eq_fast]; kernel_rfl
theorem ba_no_index : typeLookup (.type "bytearray") "__index__" = pure none := by rw [typeLookup_type, builtinLookup_eq_fast]; kernel_rfl
theorem lookup_ba_buffer : typeLookup (.type "bytearray") "__buffer__" = pure (some (.builtin "bytearray.__buffer__")) := by rw [typeLookup_type, builtinLookup_eq_fast]; kernel_rfl
theorem drop_bab : "bytearray.__buffer__".dropRight ("__buffer__".length + 1) = "bytearray" := by decide +kernel
section
variable {prog : Program} {w : World} {A : Around} {E : Value → Shared → Prop} {s : Shared}
theorem buffer_ba {id : String} {fl : Bool} {b : Addr} {arr : Array UInt8} {n : Nat} {Q : Option (Array UInt8) → Shared → Prop} (hb : s.heap.get? b = some (baObj arr n)) (h : Q (some arr) s) : wpAny (model prog w) A (Builtin.Bytes.buffer? id (.ref b) fl) Q E s := by
  have hT : s.TypeIs (.ref b) "bytearray" := ⟨_, hb, rfl⟩
  unfold Builtin.Bytes.buffer?
  refine wpAny_bind (wpAny_specialOf hT lookup_ba_buffer ?_)
  try dsimp only
  refine wpAny_bind ?_
  unfold Builtin.Bytes.slotIsOwn
  refine wpAny_bind (wpAny_specialOf hT lookup_ba_buffer ?_)
  show wpAny _ _ (if (!"bytearray.__buffer__".endsWith ("." ++ "__buffer__")) = true then pure false else isInstance (.ref b) (.type ("bytearray.__buffer__".dropRight ("__buffer__".length + 1)))) _ _ _
  rw [if_neg (by decide +kernel), drop_bab]
  refine wpAny_isInstance hT sub_ba_self ?_
  simp only [Bool.not_true, Bool.false_eq_true, if_false]
  refine wpAny_bind (wpAny_specialOf hT lookup_ba_buffer ?_)
  try dsimp only
  refine wpAny_bind (ownRelease_ba hb rfl ?_)
  simp only [Bool.false_eq_true, if_false]
  exact wpAny_bind (payload_ba hb (wpAny_pure h))
theorem bytes_new_ba {b : Addr} {arr : Array UInt8} {Q : Value → Shared → Prop} (hb : s.heap.get? b = some (baObj arr)) (hz : arr.size ≤ sizeLine)
    (hQ : ∀ t k, Q (.bytes arr t) { s with toks := k }) :
    codeAny (model prog w) A (.call (.builtin "bytes.__new__") ⟨[.type "bytes", .ref b], []⟩) (wants Q E) s := by
  refine codeAny_of_tree ?_
  show wpAny _ A.in1 (do checkBuiltinCall "bytes.__new__" ⟨[.type "bytes", .ref b], []⟩; again (.builtin "bytes.__new__" ⟨[.type "bytes", .ref b], []⟩)) _ _ s
  refine wpAny_bind (wpAny_of_eq (F.bm_newCall _) (wpAny_pure ⟨plainId_quiet F.bm_plain _, codeAny_builtin F.bm_entry ?_⟩))
  rw [Around.under_plainId F.bm_plain _]
  have hT : s.TypeIs (.ref b) "bytearray" := ⟨_, hb, rfl⟩
  unfold Builtin.«bytes.__new__»
  refine wpAny_bind (wpAny_of_eq (a := true) rfl ?_)
  refine bm_if_false rfl ?_
  refine wpAny_bind (wpAny_of_eq F.bm_sub ?_)
  refine bm_if_false rfl ?_
  refine wpAny_bind (wpAny_of_eq (F.bm_bind _) ?_)
  refine wpAny_bind (wpAny_of_eq (a := ()) rfl ?_)
  refine wpAny_bind (wpAny_of_eq (a := ()) rfl ?_)
  refine bm_if_false rfl ?_
  refine wpAny_bind (wpAny_specialOf hT ba_no_bytes ?_)
  refine wpAny_bind (wpAny_bind ?_)
  show wpAny _ _ (load b >>= _) _ _ _
  refine wpAny_bind (wpAny_load hb ?_)
  refine wpAny_pure (wpAny_pure ?_)
  refine bm_if_false rfl ?_
  refine wpAny_bind (wpAny_specialOf hT ba_no_index ?_)
  refine bm_if_true rfl ?_
  first
    | show wpAny _ _ (Builtin.Bytes.buffer? "bytes.__new__" (.ref b) true >>= _) _ _ _
    | (refine wpAny_bind ?_; show wpAny _ _ (Builtin.Bytes.buffer? "bytes.__new__" (.ref b) true >>= _) _ _ _)
  refine wpAny_bind (buffer_ba hb ?_)
  refine wpAny_bind (wpAny_rule ?_)
  refine wpAny_bind (wpAny_mkBytes ?_ hz)
  show wpAny _ _ (if (Value.type "bytes" == Value.type "bytes") = true then _ else _) _ _ _
  refine bm_if_true (by decide) ?_
  first
    | exact wpAny_pure (hQ _ _)
    | exact wpAny_pure (wpAny_pure (hQ _ _))
    | exact wpAny_bind (wpAny_pure (wpAny_pure (hQ _ _)))
theorem bytes_of_ba {b : Addr} {arr : Array UInt8} {Q : Value → Shared → Prop} (hb : s.heap.get? b = some (baObj arr)) (hz : arr.size ≤ 16777216)
    (hQ : ∀ t k, Q (.bytes arr t) { s with toks := k }) : wpAny (model prog w) A (call (.type "bytes") [.ref b]) Q E s := by
  refine callType_codes (Q₁ := fun obj s₁ => s₁.TypeIs obj "bytes" ∧ Q obj s₁) F.bm_called (F.bm_typeCall _) F.entry_object_init
    (bytes_new_ba hb (by rw [sizeLine_eq]; exact hz) fun t k => ⟨PySem.W.typeIs_bytes _ _ _, hQ t k⟩) fun obj s₁ h₁ => ?_
  exact ⟨h₁.1, F.args_object_init_2 obj _, object_init_meets F.bm_called.init.lookup F.bm_called.made (by decide) prog w A.in1 _ s₁ ⟨h₁.1, rfl, h₁.2⟩⟩
end
end Mine
namespace Mine
open PySem PySem.W PySem.Calls PyProof.Rows
set_option maxRecDepth 100000
set_option maxHeartbeats 4000000
theorem entry_next : entryFor table "next" = some Builtin.«next» := entryFor_of_tree (by kernel_rfl)
theorem args_next2 (a b : Value) : argsOk "next" ⟨[a, b], []⟩ := by unfold argsOk; kernel_rfl
section
variable {prog : Program} {w : World} {A : Around} {E : Value → Shared → Prop} {s : Shared} {K : Frag} {x C L f : Addr} {h₀ : Heap} {m : Str → Option Value} {ox : Obj} {od : Option Obj}
theorem next_own {d : Value} {Q : Value → Shared → Prop} (F : Fr h₀ L s.heap m) (X₀ : K.In h₀) (I : InstAt s.heap x ox C od) (hs : findIn K (.ref C) "__next__" = some (some (.ref f))) (hf : isFn K (.ref f) = true)
    (h : wpAny (model prog w) A.in1 (call (.ref f) [.ref x]) (fun v s' => Q v s') (OwitStop (model prog w) A.in1 (fun r s' => Q (r.getD d) s') E) s) :
    wpAny (model prog w) A (call (.builtin "next") [.ref x, d]) Q E s := by
  refine call_function_entry (by decide +kernel) (by decide +kernel) entry_next (args_next2 _ _) ?_
  have LN : Looks (model prog w) s.heap (specialOf (.ref x) "__next__") (some (.ref f)) := I.type.andThen (looks_findIn (X₀.keeps F.keep) hs)
  unfold Builtin.«next»
  refine wpAny_bind (wpAny_pure ?_)
  dsimp only
  refine wpAny_bind (LN.here ?_)
  refine wpAny_ite_false rfl ?_
  refine wpAny_bind (owit_next F X₀ I hs hf ?_)
  refine wpAny_mono h (fun v s' hq => wpAny_pure ⟨_, rfl, hq⟩) (fun e s' he => ?_)
  unfold OwitStop at he ⊢
  refine wpAny_mono he (fun b s₂ hb => ?_) fun _ _ z => z
  cases b with
  | true => exact wpAny_pure ⟨_, rfl, hb⟩
  | false => exact hb

theorem stop_any {M : Model} {Q : Option Value → Shared → Prop} {outer : List Env} {env : Env} {e t : Addr} {h : Heap} {vs : List Value} {news : List (Addr × Obj)}
    (R : RaisedK h₀ (env :: outer) e (.type "StopIteration") t vs news s.heap) (hsm : h.UpToSlots s.heap) (F : Fr h₀ L h m) (hfr : env.frame = some L)
    (k : Fr h₀ L s.heap m → News h₀ L s.heap news → Q none s) : OwitStop M A Q E (.ref e) s := by
  obtain ⟨⟨B, hB, hl, hfl, _⟩, _⟩ := R
  have hL : B.get? L = none := by
    obtain ⟨_, ⟨L', _, hf, hn', _⟩, _⟩ := hfl.2.2.1
    rw [hfr] at hf
    rw [Option.some.inj hf]; exact hn'
  have hf' := flyingW_base hB hfl
  obtain ⟨ob, hob, hobc⟩ := hf'.there
  have hT : s.TypeIs (.ref e) "StopIteration" := (show ∃ o, s.heap.get? e = some o ∧ o.cls = .type "StopIteration" from ⟨ob, hob, hobc⟩)
  have hsub : isSubtype (.type "StopIteration") (.type "StopIteration") = pure true := by rw [isSubtype_type]; kernel_rfl
  unfold OwitStop
  refine wpAny_isInstance hT hsub ?_
  show (if true = true then Q none s else E (.ref e) s)
  rw [if_pos rfl]
  exact k (F.of_stays hf'.1 hsm) fun q hq => ⟨hfl.1 _ _ (hl q hq).1, (fun z => by have := (hl q hq).1; rw [z, hL] at this; cases this), (hl q hq).2⟩
end
end Mine
namespace Mine
open PySem PySem.W PySem.Calls PyProof.Rows Builtin Builtin.ObjectAttr
set_option maxRecDepth 100000
set_option maxHeartbeats 4000000
section
variable {prog : Program} {w : World} {A : Around} {E : Value → Shared → Prop} {s : Shared} {K : Frag} {x C f L : Addr} {ox : Obj} {od : Obj} {name : Str} {h₀ : Heap} {m : Str → Option Value} {news : List (Addr × Obj)} {es : List DictEntry} {n : Nat} {t : Tok}
theorem getAttrBy_bind {g a : Value} {Q : Value → Shared → Prop} (X : K.In s.heap) (I : InstAt s.heap x ox C (some od)) (hga : findIn K (.ref C) "__getattribute__" = some (some (.builtin "object.__getattribute__")))
    (hf : findObj K C (some od) name = some (.bind g a)) (hk : findIn K (.ref C) "__getattr__" = some none)
    (h : wpAny (model prog w) A.in1 (call g [a, .ref x, .ref C]) (fun v s' => wpAny (model prog w) A (handedOut v) Q E s') (fun e s' => wpAny (model prog w) A (noteIf false (.ref x) (.str name t) e) (fun _ s'' => E e s'') E s') s) :
    wpAny (model prog w) A (getAttrBy (.ref x) (.str name t) false) Q E s := by
  obtain ⟨hh', gg, d, tk, os⟩ := s
  have L0 := I.type (M := model prog w)
  have L1 := looks_findIn (M := model prog w) X hga
  have L2 := looks_find (M := model prog w) X I hf
  have L3 := looks_findIn (M := model prog w) X hk
  unfold getAttrBy
  refine wpAny_holding (wpAny_bind (L0.at (wpAny_bind (L1.at ?_))))
  show wpAny _ _ (getAttrEveryday _ _ _) _ _ _
  refine wpAny_bind (wpAny_onRaise (wpAny_runValue (codeAny_builtin F.plainObj_entry_getattr_hooked ?_)))
  refine wpAny_bind (wpAny_pure (wpAny_bind (L0.at (wpAny_bind (L2.at (wpAny_bind (L3.at ?_)))))))
  show wpAny _ _ (holding [a] (call g [a, .ref x, .ref C]) >>= ret) _ _ _
  exact wpAny_bind (wpAny_holding (wpAny_mono h (fun v s' z => wpAny_pure z) fun _ _ z => z))
theorem hasattr_fn_K {Q : Value → Shared → Prop} (F : Fr h₀ L s.heap m) (X₀ : K.In h₀) (N : News h₀ L s.heap news) (I : InstAt s.heap x ox C (some (dictOf es n))) (hm : mroIn K C (.type "module") = some false) (hg : plainGet K C name = true) (hh : hasDictIn K C = true) (ha : findIn K (.ref C) name = some (some (.ref f))) (hf : isFn K (.ref f) = true)
    (hgf : specialIn K (.ref f) "__get__" = some (some (.builtin "function.__get__"))) (ht : takesIn K (.ref f) = some false) (hc : copiedNames.contains name = false) (hl : getL name es = some none)
    (h : ∀ h', Fr h₀ L h' m → News h₀ L h' news → Q (.bool true) { s with heap := h' }) : wpAny (model prog w) A (call (.builtin "hasattr") [.ref x, .str name t]) Q E s := by
  have X := X₀.keeps F.keep
  refine hasattr_inst I X hm (getAttrBy_bind X I (plainGet_of hg).1 (findObj_fn hh ha hgf ht hc (by show lookIn name (dictOf es n) = _; rw [lookIn_dict, hl])) (plainGet_of hg).2
    (wpAny_call (fn_get X (beq_iff_eq.mp hf) (handed_on rfl (h _ (F.push _) fun p hp => (N.push F _) p (.tail _ hp))))))
end
end Mine
namespace Mine
open PySem PySem.W PySem.Calls PyProof.Rows
set_option maxRecDepth 100000
set_option maxHeartbeats 1000000
abbrev entF4 (w : World) (t : Tok) (v : Value) : DictEntry := ⟨PyData.keyHash w.params (Str.ofString "filelike"), .str (Str.ofString "filelike") t, v⟩
abbrev entB4 (w : World) (t : Tok) (v : Value) : DictEntry := ⟨PyData.keyHash w.params (Str.ofString "blksize"), .str (Str.ofString "blksize") t, v⟩
abbrev entC4 (w : World) (t : Tok) (v : Value) : DictEntry := ⟨PyData.keyHash w.params (Str.ofString "close"), .str (Str.ofString "close") t, v⟩
local macro_rules | `(tactic| k_lt $h) => `(tactic| (have kept := $h; replace $h := allLt_of $h; simp only [AllLt, and_true] at $h:ident))
local macro_rules | `(tactic| k_ne) => `(tactic| (refine neN ?_; (try dsimp only); first | exact NeF.l (by with_reducible assumption) | exact NeF.r (by with_reducible assumption) | omega))
local macro_rules | `(tactic| walk_at "call builtin:len") => `(tactic| (k_here; (with_reducible show wpAny _ _ (call (Value.builtin "len") [Value.ref _]) _ _ _); (with_unfolding_all refine' len_ba ?k1 ?k2 ?_; (case k1 => exact (News.get (by k_asm) (by k_mem))); (case k2 => (rw [PySem.sizeLine_eq]; (try simp only [Array.size_empty, List.size_toArray, List.length_nil]); omega)); k_whole)))
local macro_rules | `(tactic| walk_at "ite") => `(tactic| (first | ((refine ite_neg ?h ?_); (case h => (simp only [beq_iff_eq, bne_iff_ne, ne_eq, decide_eq_true_eq, Bool.false_bne, Bool.true_bne, Bool.not_eq_true', decide_eq_false_iff_not, reduceCtorEq, not_false_eq_true, Array.size_empty, List.size_toArray, List.length_nil]; first | done | omega))) | ((refine ite_pos ?h ?_); (case h => (simp only [beq_iff_eq, bne_iff_ne, ne_eq, decide_eq_true_eq, Bool.false_bne, Bool.true_bne, Bool.not_eq_true', decide_eq_false_iff_not, reduceCtorEq, not_false_eq_true, Array.size_empty, List.size_toArray, List.length_nil]; first | done | omega)))))
local macro_rules | `(tactic| k_put) => `(tactic| exact Mine.put_bio)
local macro_rules | `(tactic| walk_at "call builtin:next") => `(tactic| (k_here; (with_reducible show wpAny _ _ (call (Value.builtin "next") [Value.ref _, _]) _ _ _); k_dflt (refine' next_own ?F ?X ?I ?hs ?hf ?_; (case F => k_asm); (case X => k_asm); (case I => k_inst); (case hs => k_is); (case hf => k_is); k_whole)))
local macro_rules | `(tactic| walk_at "OwitStop") => `(tactic| ((rename RaisedK _ _ _ _ _ _ _ _ => rkX); k_dflt (refine' stop_any rkX ?U ?F ?hf ?_; (case U => assumption); (case F => assumption); (case hf => exact rfl)); intro F' N'; (try dsimp only [Option.getD])))
local macro_rules | `(tactic| walk_at "subscriptTail") => `(tactic| (k_here; (with_reducible show wpAny _ _ (subscriptTail _ (Expr.Slice _ _ none _) (Value.ref _) (Value.ref _)) _ _ _); (with_reducible rename Fr _ _ _ _ => F'); (with_reducible rename News _ _ _ _ => N'); (refine slice_ba (s := ⟨_, _, _, _, _⟩) F' N' (by k_mem) (by constructor) (by constructor) (by omega) ?_); intro c' h' F' N' l1; (try k_lt l1)))
local macro_rules | `(tactic| walk_at "call type:bytes") => `(tactic| (k_here; (with_reducible show wpAny _ _ (call (Value.type "bytes") [Value.ref _]) _ _ _); (refine bytes_of_ba (News.get (by k_asm) (by k_mem)) (Nat.le_trans (KBc.size_picked_le _ _ _) (by omega)) ?_); intro _ _))
local macro_rules | `(tactic| walk_at "truthy bytes") => `(tactic| (k_here; (with_reducible show wpAny _ _ (truthy (Value.bytes _ _)) _ _ _); (refine truthy_bytes ?k1 ?_; (case k1 => (first | (exact Nat.le_trans (KBc.size_picked_le _ _ _) (by omega)) | simp)); k_whole)))
theorem next_cut {w : World} {s : Shared} {mg mb : Str → Option Value} {mean : ExcName → Option Value} {loose : List Str} {base : Heap} {L fa x dx b t1 t2 n tp H dH u1 u2 u3 C nH : Nat} {cd : Value} {m : Str → Option Value} {arr : Array UInt8} {p : Nat} {rest : List (Addr × Obj)} {Q : Value → Shared → Prop} {E : Value → Shared → Prop} {z : Int} {tz : Nat}
    (X' : (Mine.hd.heap_39 w.params).In base) (T' : Top Mine.hd.view_39 loose mean mg mb base) (K' : Below callerA base [] base)
    (F' : Fr base L s.heap m) (N' : News base L s.heap ((H, instObj 53 dH) :: (dH, dictOf [entF4 w u1 (.ref x), entB4 w u2 (.int z tz), entC4 w u3 (.ref C)] nH) :: (x, instObj 365 dx) :: (dx, bioDict w b t1 t2 (.int p tp) n) :: (b, baObj arr) :: rest)) (hoff : OwnOff rest [H, dH, x, dx, b]) (hne : NeAll [H, dH, x, dx, b])
    (hz : arr.size ≤ 100) (hp : p ≤ 1000) (hlt : p < arr.size) (hz0 : 0 < z) (hz1 : p + z < arr.size) (hsz : 0 < (KBy.picked arr (some (p : Int)) (some (p + z))).size)
    (hQ : ∀ h' tk' (t4 t5 : Nat) news', Fr base L h' m → News base L h' news' → (∀ q ∈ ([(H, instObj 53 dH), (dH, dictOf [entF4 w u1 (.ref x), entB4 w u2 (.int z tz), entC4 w u3 (.ref C)] nH), (x, instObj 365 dx), (dx, bioDict w b t1 t2 (.int (p + z) t4) n), (b, baObj arr)] : List (Addr × Obj)), q ∈ news') → (∀ q ∈ rest, q ∈ news') → Q (.bytes (KBy.picked arr (some (p : Int)) (some (p + z))) t5) ⟨h', s.gens, s.drawn, tk', s.os⟩) :
    wpAny (model PySem.Challenge.rw_dn0266_04.row.prog w) (callerA.deeper (lawEnv4 L fa cd)) (call (.builtin "next") [.ref H, .none]) Q E s := by
  simp only [NeAll, NeTo, and_true] at hne
  obtain ⟨⟨n0_1, n0_2, n0_3, n0_4⟩, ⟨n1_2, n1_3, n1_4⟩, ⟨n2_3, n2_4⟩, n3_4⟩ := hne
  obtain ⟨hh, gs, dr, tk, os⟩ := s
  dsimp only at F' N'
  revert X'; k_fill; intro X'
  k_steps
  all_goals (refine' hQ _ _ _ _ _ ?F ?N ?m ?r; (case F => assumption); (case N => assumption); (case m => with_unfolding_all k_allIn); (case r => (intro p hp; k_ownIn)))
theorem next_zero {w : World} {s : Shared} {mg mb : Str → Option Value} {mean : ExcName → Option Value} {loose : List Str} {base : Heap} {L fa x dx b t1 t2 n tp H dH u1 u2 u3 C nH : Nat} {cd : Value} {m : Str → Option Value} {arr : Array UInt8} {p : Nat} {rest : List (Addr × Obj)} {Q : Value → Shared → Prop} {E : Value → Shared → Prop} {z : Int} {tz : Nat}
    (X' : (Mine.hd.heap_39 w.params).In base) (T' : Top Mine.hd.view_39 loose mean mg mb base) (K' : Below callerA base [] base)
    (F' : Fr base L s.heap m) (N' : News base L s.heap ((H, instObj 53 dH) :: (dH, dictOf [entF4 w u1 (.ref x), entB4 w u2 (.int z tz), entC4 w u3 (.ref C)] nH) :: (x, instObj 365 dx) :: (dx, bioDict w b t1 t2 (.int p tp) n) :: (b, baObj arr) :: rest)) (hoff : OwnOff rest [H, dH, x, dx, b]) (hne : NeAll [H, dH, x, dx, b])
    (hz : arr.size ≤ 100) (hp : p ≤ 1000) (hlt : p < arr.size) (hz0 : z = 0) (hsz : (KBy.picked arr (some (p : Int)) (some (p + z))).size = 0)
    (hQ : ∀ h' tk' (t4 : Nat) news', Fr base L h' m → News base L h' news' → (∀ q ∈ ([(H, instObj 53 dH), (dH, dictOf [entF4 w u1 (.ref x), entB4 w u2 (.int z tz), entC4 w u3 (.ref C)] nH), (x, instObj 365 dx), (dx, bioDict w b t1 t2 (.int (p + z) t4) n), (b, baObj arr)] : List (Addr × Obj)), q ∈ news') → (∀ q ∈ rest, q ∈ news') → Q (.none) ⟨h', s.gens, s.drawn, tk', s.os⟩) :
    wpAny (model PySem.Challenge.rw_dn0266_04.row.prog w) (callerA.deeper (lawEnv4 L fa cd)) (call (.builtin "next") [.ref H, .none]) Q E s := by
  simp only [NeAll, NeTo, and_true] at hne
  obtain ⟨⟨n0_1, n0_2, n0_3, n0_4⟩, ⟨n1_2, n1_3, n1_4⟩, ⟨n2_3, n2_4⟩, n3_4⟩ := hne
  obtain ⟨hh, gs, dr, tk, os⟩ := s
  dsimp only at F' N'
  revert X'; k_fill; intro X'
  k_steps
  all_goals (refine' hQ _ _ _ _ ?F ?N ?m ?r; (case F => assumption); (case N => assumption); (case m => with_unfolding_all k_allIn); (case r => (intro p hp; k_ownIn)))
end Mine
namespace Mine
open PySem PySem.W PySem.Calls PyProof.Rows
set_option maxRecDepth 100000
set_option maxHeartbeats 1000000



local macro_rules | `(tactic| walk_at "none 0") => `(tactic| fail)
local macro_rules | `(tactic| k_lt $h) => `(tactic| (have kept := $h; replace $h := allLt_of $h; simp only [AllLt, and_true] at $h:ident))
local macro_rules | `(tactic| k_ne) => `(tactic| (refine neN ?_; (try dsimp only); first | exact NeF.l (by with_reducible assumption) | exact NeF.r (by with_reducible assumption) | omega))
local macro_rules | `(tactic| walk_at "call builtin:len") => `(tactic| (k_here; (with_reducible show wpAny _ _ (call (Value.builtin "len") [Value.ref _]) _ _ _); (with_unfolding_all refine' len_ba ?k1 ?k2 ?_; (case k1 => exact (News.get (by k_asm) (by k_mem))); (case k2 => (rw [PySem.sizeLine_eq]; (try simp only [Array.size_empty, List.size_toArray, List.length_nil]); omega)); k_whole)))
local macro_rules | `(tactic| walk_at "ite") => `(tactic| (first | ((refine ite_neg ?h ?_); (case h => (simp only [beq_iff_eq, bne_iff_ne, ne_eq, decide_eq_true_eq, Bool.false_bne, Bool.true_bne, Bool.not_eq_true', decide_eq_false_iff_not, reduceCtorEq, not_false_eq_true, Array.size_empty, List.size_toArray, List.length_nil]; first | done | omega))) | ((refine ite_pos ?h ?_); (case h => (simp only [beq_iff_eq, bne_iff_ne, ne_eq, decide_eq_true_eq, Bool.false_bne, Bool.true_bne, Bool.not_eq_true', decide_eq_false_iff_not, reduceCtorEq, not_false_eq_true, Array.size_empty, List.size_toArray, List.length_nil]; first | done | omega)))))
local macro_rules | `(tactic| k_put) => `(tactic| exact Mine.put_bio)
local macro_rules | `(tactic| walk_at "call builtin:next") => `(tactic| (k_here; (with_reducible show wpAny _ _ (call (Value.builtin "next") [Value.ref _, _]) _ _ _); k_dflt (refine' next_own ?F ?X ?I ?hs ?hf ?_; (case F => k_asm); (case X => k_asm); (case I => k_inst); (case hs => k_is); (case hf => k_is); k_whole)))
local macro_rules | `(tactic| walk_at "OwitStop") => `(tactic| ((rename RaisedK _ _ _ _ _ _ _ _ => rkX); k_dflt (refine' stop_any rkX ?U ?F ?hf ?_; (case U => assumption); (case F => assumption); (case hf => exact rfl)); intro F' N'; (try dsimp only [Option.getD])))
local macro_rules | `(tactic| walk_at "subscriptTail") => `(tactic| (k_here; (with_reducible show wpAny _ _ (subscriptTail _ (Expr.Slice _ _ none _) (Value.ref _) (Value.ref _)) _ _ _); (with_reducible rename Fr _ _ _ _ => F'); (with_reducible rename News _ _ _ _ => N'); (refine slice_ba (s := ⟨_, _, _, _, _⟩) F' N' (by k_mem) (by constructor) (by constructor) (by omega) ?_); intro c' h' F' N' l1; (try k_lt l1)))
local macro_rules | `(tactic| walk_at "call type:bytes") => `(tactic| (k_here; (with_reducible show wpAny _ _ (call (Value.type "bytes") [Value.ref _]) _ _ _); (refine bytes_of_ba (News.get (by k_asm) (by k_mem)) (Nat.le_trans (KBc.size_picked_le _ _ _) (by omega)) ?_); intro _ _))
local macro_rules | `(tactic| walk_at "truthy bytes") => `(tactic| (k_here; (with_reducible show wpAny _ _ (truthy (Value.bytes _ _)) _ _ _); (refine truthy_bytes ?k1 ?_; (case k1 => (first | (exact Nat.le_trans (KBc.size_picked_le _ _ _) (by omega)) | simp)); k_whole)))
theorem next_neg {w : World} {s : Shared} {mg mb : Str → Option Value} {mean : ExcName → Option Value} {loose : List Str} {base : Heap} {L fa x dx b t1 t2 n tp H dH u1 u2 u3 C nH : Nat} {cd : Value} {m : Str → Option Value} {arr : Array UInt8} {p : Nat} {rest : List (Addr × Obj)} {Q : Value → Shared → Prop} {E : Value → Shared → Prop} {z : Int} {tz : Nat}
    (X' : (Mine.hd.heap_39 w.params).In base) (T' : Top Mine.hd.view_39 loose mean mg mb base) (K' : Below callerA base [] base)
    (F' : Fr base L s.heap m) (N' : News base L s.heap ((H, instObj 53 dH) :: (dH, dictOf [entF4 w u1 (.ref x), entB4 w u2 (.int z tz), entC4 w u3 (.ref C)] nH) :: (x, instObj 365 dx) :: (dx, bioDict w b t1 t2 (.int p tp) n) :: (b, baObj arr) :: rest)) (hoff : OwnOff rest [H, dH, x, dx, b]) (hne : NeAll [H, dH, x, dx, b])
    (hz : arr.size ≤ 100) (hp : p ≤ 1000) (hlt : p < arr.size) (hz0 : z < 0) (hz1 : -1000 ≤ z) (hsz : 0 < (KBy.picked arr (some (p : Int)) (some (arr.size : Int))).size)
    (hQ : ∀ h' tk' (t4 t5 : Nat) news', Fr base L h' m → News base L h' news' → (∀ q ∈ ([(H, instObj 53 dH), (dH, dictOf [entF4 w u1 (.ref x), entB4 w u2 (.int z tz), entC4 w u3 (.ref C)] nH), (x, instObj 365 dx), (dx, bioDict w b t1 t2 (.int arr.size t4) n), (b, baObj arr)] : List (Addr × Obj)), q ∈ news') → (∀ q ∈ rest, q ∈ news') → Q (.bytes (KBy.picked arr (some (p : Int)) (some (arr.size : Int))) t5) ⟨h', s.gens, s.drawn, tk', s.os⟩) :
    wpAny (model PySem.Challenge.rw_dn0266_04.row.prog w) (callerA.deeper (lawEnv4 L fa cd)) (call (.builtin "next") [.ref H, .none]) Q E s := by
  simp only [NeAll, NeTo, and_true] at hne
  obtain ⟨⟨n0_1, n0_2, n0_3, n0_4⟩, ⟨n1_2, n1_3, n1_4⟩, ⟨n2_3, n2_4⟩, n3_4⟩ := hne
  obtain ⟨hh, gs, dr, tk, os⟩ := s
  dsimp only at F' N'
  revert X'; k_fill; intro X'
  k_steps
  all_goals (refine' hQ _ _ _ _ _ ?F ?N ?m ?r; (case F => assumption); (case N => assumption); (case m => with_unfolding_all k_allIn); (case r => (intro p hp; k_ownIn)))
theorem next_big {w : World} {s : Shared} {mg mb : Str → Option Value} {mean : ExcName → Option Value} {loose : List Str} {base : Heap} {L fa x dx b t1 t2 n tp H dH u1 u2 u3 C nH : Nat} {cd : Value} {m : Str → Option Value} {arr : Array UInt8} {p : Nat} {rest : List (Addr × Obj)} {Q : Value → Shared → Prop} {E : Value → Shared → Prop} {z : Int} {tz : Nat}
    (X' : (Mine.hd.heap_39 w.params).In base) (T' : Top Mine.hd.view_39 loose mean mg mb base) (K' : Below callerA base [] base)
    (F' : Fr base L s.heap m) (N' : News base L s.heap ((H, instObj 53 dH) :: (dH, dictOf [entF4 w u1 (.ref x), entB4 w u2 (.int z tz), entC4 w u3 (.ref C)] nH) :: (x, instObj 365 dx) :: (dx, bioDict w b t1 t2 (.int p tp) n) :: (b, baObj arr) :: rest)) (hoff : OwnOff rest [H, dH, x, dx, b]) (hne : NeAll [H, dH, x, dx, b])
    (hz : arr.size ≤ 100) (hp : p ≤ 1000) (hlt : p < arr.size) (hz0 : 0 ≤ z) (hz1 : arr.size ≤ p + z) (hz2 : z ≤ 1000) (hsz : 0 < (KBy.picked arr (some (p : Int)) (some (arr.size : Int))).size)
    (hQ : ∀ h' tk' (t4 t5 : Nat) news', Fr base L h' m → News base L h' news' → (∀ q ∈ ([(H, instObj 53 dH), (dH, dictOf [entF4 w u1 (.ref x), entB4 w u2 (.int z tz), entC4 w u3 (.ref C)] nH), (x, instObj 365 dx), (dx, bioDict w b t1 t2 (.int arr.size t4) n), (b, baObj arr)] : List (Addr × Obj)), q ∈ news') → (∀ q ∈ rest, q ∈ news') → Q (.bytes (KBy.picked arr (some (p : Int)) (some (arr.size : Int))) t5) ⟨h', s.gens, s.drawn, tk', s.os⟩) :
    wpAny (model PySem.Challenge.rw_dn0266_04.row.prog w) (callerA.deeper (lawEnv4 L fa cd)) (call (.builtin "next") [.ref H, .none]) Q E s := by
  simp only [NeAll, NeTo, and_true] at hne
  obtain ⟨⟨n0_1, n0_2, n0_3, n0_4⟩, ⟨n1_2, n1_3, n1_4⟩, ⟨n2_3, n2_4⟩, n3_4⟩ := hne
  obtain ⟨hh, gs, dr, tk, os⟩ := s
  dsimp only at F' N'
  revert X'; k_fill; intro X'
  k_steps
  all_goals (refine' hQ _ _ _ _ _ ?F ?N ?m ?r; (case F => assumption); (case N => assumption); (case m => with_unfolding_all k_allIn); (case r => (intro p hp; k_ownIn)))
end Mine
namespace Mine
open PySem PySem.W PySem.Calls PyProof.Rows
set_option maxRecDepth 100000
set_option maxHeartbeats 1000000



local macro_rules | `(tactic| walk_at "none 0") => `(tactic| fail)
local macro_rules | `(tactic| walk_at "none 1") => `(tactic| fail)
local macro_rules | `(tactic| k_lt $h) => `(tactic| (have kept := $h; replace $h := allLt_of $h; simp only [AllLt, and_true] at $h:ident))
local macro_rules | `(tactic| k_ne) => `(tactic| (refine neN ?_; (try dsimp only); first | exact NeF.l (by with_reducible assumption) | exact NeF.r (by with_reducible assumption) | omega))
local macro_rules | `(tactic| walk_at "call builtin:len") => `(tactic| (k_here; (with_reducible show wpAny _ _ (call (Value.builtin "len") [Value.ref _]) _ _ _); (with_unfolding_all refine' len_ba ?k1 ?k2 ?_; (case k1 => exact (News.get (by k_asm) (by k_mem))); (case k2 => (rw [PySem.sizeLine_eq]; (try simp only [Array.size_empty, List.size_toArray, List.length_nil]); omega)); k_whole)))
local macro_rules | `(tactic| walk_at "ite") => `(tactic| (first | ((refine ite_neg ?h ?_); (case h => (simp only [beq_iff_eq, bne_iff_ne, ne_eq, decide_eq_true_eq, Bool.false_bne, Bool.true_bne, Bool.not_eq_true', decide_eq_false_iff_not, reduceCtorEq, not_false_eq_true, Array.size_empty, List.size_toArray, List.length_nil]; first | done | omega))) | ((refine ite_pos ?h ?_); (case h => (simp only [beq_iff_eq, bne_iff_ne, ne_eq, decide_eq_true_eq, Bool.false_bne, Bool.true_bne, Bool.not_eq_true', decide_eq_false_iff_not, reduceCtorEq, not_false_eq_true, Array.size_empty, List.size_toArray, List.length_nil]; first | done | omega)))))
local macro_rules | `(tactic| k_put) => `(tactic| exact Mine.put_bio)
local macro_rules | `(tactic| walk_at "call builtin:next") => `(tactic| (k_here; (with_reducible show wpAny _ _ (call (Value.builtin "next") [Value.ref _, _]) _ _ _); k_dflt (refine' next_own ?F ?X ?I ?hs ?hf ?_; (case F => k_asm); (case X => k_asm); (case I => k_inst); (case hs => k_is); (case hf => k_is); k_whole)))
local macro_rules | `(tactic| walk_at "OwitStop") => `(tactic| ((rename RaisedK _ _ _ _ _ _ _ _ => rkX); k_dflt (refine' stop_any rkX ?U ?F ?hf ?_; (case U => assumption); (case F => assumption); (case hf => exact rfl)); intro F' N'; (try dsimp only [Option.getD])))
local macro_rules | `(tactic| walk_at "subscriptTail") => `(tactic| (k_here; (with_reducible show wpAny _ _ (subscriptTail _ (Expr.Slice _ _ none _) (Value.ref _) (Value.ref _)) _ _ _); (with_reducible rename Fr _ _ _ _ => F'); (with_reducible rename News _ _ _ _ => N'); (refine slice_ba (s := ⟨_, _, _, _, _⟩) F' N' (by k_mem) (by constructor) (by constructor) (by omega) ?_); intro c' h' F' N' l1; (try k_lt l1)))
local macro_rules | `(tactic| walk_at "call type:bytes") => `(tactic| (k_here; (with_reducible show wpAny _ _ (call (Value.type "bytes") [Value.ref _]) _ _ _); (refine bytes_of_ba (News.get (by k_asm) (by k_mem)) (Nat.le_trans (KBc.size_picked_le _ _ _) (by omega)) ?_); intro _ _))
local macro_rules | `(tactic| walk_at "truthy bytes") => `(tactic| (k_here; (with_reducible show wpAny _ _ (truthy (Value.bytes _ _)) _ _ _); (refine truthy_bytes ?k1 ?_; (case k1 => (first | (exact Nat.le_trans (KBc.size_picked_le _ _ _) (by omega)) | simp)); k_whole)))
theorem next_end {w : World} {s : Shared} {mg mb : Str → Option Value} {mean : ExcName → Option Value} {loose : List Str} {base : Heap} {L fa x dx b t1 t2 n tp H dH u1 u2 u3 C nH : Nat} {cd : Value} {m : Str → Option Value} {arr : Array UInt8} {p : Nat} {rest : List (Addr × Obj)} {Q : Value → Shared → Prop} {E : Value → Shared → Prop} {z : Int} {tz : Nat}
    (X' : (Mine.hd.heap_39 w.params).In base) (T' : Top Mine.hd.view_39 loose mean mg mb base) (K' : Below callerA base [] base)
    (F' : Fr base L s.heap m) (N' : News base L s.heap ((H, instObj 53 dH) :: (dH, dictOf [entF4 w u1 (.ref x), entB4 w u2 (.int z tz), entC4 w u3 (.ref C)] nH) :: (x, instObj 365 dx) :: (dx, bioDict w b t1 t2 (.int p tp) n) :: (b, baObj arr) :: rest)) (hoff : OwnOff rest [H, dH, x, dx, b]) (hne : NeAll [H, dH, x, dx, b])
    (hz : arr.size ≤ 100) (hp : p ≤ 1000) (hge : arr.size ≤ p) (hz1 : -1000 ≤ z) (hz2 : z ≤ 1000)
    (hQ : ∀ h' tk' (t4 : Nat) news', Fr base L h' m → News base L h' news' → (∀ q ∈ ([(H, instObj 53 dH), (dH, dictOf [entF4 w u1 (.ref x), entB4 w u2 (.int z tz), entC4 w u3 (.ref C)] nH), (x, instObj 365 dx), (dx, bioDict w b t1 t2 (.int p t4) n), (b, baObj arr)] : List (Addr × Obj)), q ∈ news') → (∀ q ∈ rest, q ∈ news') → Q (.none) ⟨h', s.gens, s.drawn, tk', s.os⟩) :
    wpAny (model PySem.Challenge.rw_dn0266_04.row.prog w) (callerA.deeper (lawEnv4 L fa cd)) (call (.builtin "next") [.ref H, .none]) Q E s := by
  simp only [NeAll, NeTo, and_true] at hne
  obtain ⟨⟨n0_1, n0_2, n0_3, n0_4⟩, ⟨n1_2, n1_3, n1_4⟩, ⟨n2_3, n2_4⟩, n3_4⟩ := hne
  obtain ⟨hh, gs, dr, tk, os⟩ := s
  dsimp only at F' N'
  revert X'; k_fill; intro X'
  k_steps
  all_goals (refine' hQ _ _ _ _ ?F ?N ?m ?r; (case F => assumption); (case N => assumption); (case m => with_unfolding_all k_allIn); (case r => (intro p hp; k_ownIn)))
theorem next_nall {w : World} {s : Shared} {mg mb : Str → Option Value} {mean : ExcName → Option Value} {loose : List Str} {base : Heap} {L fa x dx b t1 t2 n tp H dH u1 u2 u3 C nH : Nat} {cd : Value} {m : Str → Option Value} {arr : Array UInt8} {p : Nat} {rest : List (Addr × Obj)} {Q : Value → Shared → Prop} {E : Value → Shared → Prop} 
    (X' : (Mine.hd.heap_39 w.params).In base) (T' : Top Mine.hd.view_39 loose mean mg mb base) (K' : Below callerA base [] base)
    (F' : Fr base L s.heap m) (N' : News base L s.heap ((H, instObj 53 dH) :: (dH, dictOf [entF4 w u1 (.ref x), entB4 w u2 .none, entC4 w u3 (.ref C)] nH) :: (x, instObj 365 dx) :: (dx, bioDict w b t1 t2 (.int p tp) n) :: (b, baObj arr) :: rest)) (hoff : OwnOff rest [H, dH, x, dx, b]) (hne : NeAll [H, dH, x, dx, b])
    (hz : arr.size ≤ 100) (hp : p ≤ 1000) (hlt : p < arr.size) (hsz : 0 < (KBy.picked arr (some (p : Int)) (some (arr.size : Int))).size)
    (hQ : ∀ h' tk' (t4 t5 : Nat) news', Fr base L h' m → News base L h' news' → (∀ q ∈ ([(H, instObj 53 dH), (dH, dictOf [entF4 w u1 (.ref x), entB4 w u2 .none, entC4 w u3 (.ref C)] nH), (x, instObj 365 dx), (dx, bioDict w b t1 t2 (.int arr.size t4) n), (b, baObj arr)] : List (Addr × Obj)), q ∈ news') → (∀ q ∈ rest, q ∈ news') → Q (.bytes (KBy.picked arr (some (p : Int)) (some (arr.size : Int))) t5) ⟨h', s.gens, s.drawn, tk', s.os⟩) :
    wpAny (model PySem.Challenge.rw_dn0266_04.row.prog w) (callerA.deeper (lawEnv4 L fa cd)) (call (.builtin "next") [.ref H, .none]) Q E s := by
  simp only [NeAll, NeTo, and_true] at hne
  obtain ⟨⟨n0_1, n0_2, n0_3, n0_4⟩, ⟨n1_2, n1_3, n1_4⟩, ⟨n2_3, n2_4⟩, n3_4⟩ := hne
  obtain ⟨hh, gs, dr, tk, os⟩ := s
  dsimp only at F' N'
  revert X'; k_fill; intro X'
  k_steps
  all_goals (refine' hQ _ _ _ _ _ ?F ?N ?m ?r; (case F => assumption); (case N => assumption); (case m => with_unfolding_all k_allIn); (case r => (intro p hp; k_ownIn)))
theorem next_nend {w : World} {s : Shared} {mg mb : Str → Option Value} {mean : ExcName → Option Value} {loose : List Str} {base : Heap} {L fa x dx b t1 t2 n tp H dH u1 u2 u3 C nH : Nat} {cd : Value} {m : Str → Option Value} {arr : Array UInt8} {p : Nat} {rest : List (Addr × Obj)} {Q : Value → Shared → Prop} {E : Value → Shared → Prop} 
    (X' : (Mine.hd.heap_39 w.params).In base) (T' : Top Mine.hd.view_39 loose mean mg mb base) (K' : Below callerA base [] base)
    (F' : Fr base L s.heap m) (N' : News base L s.heap ((H, instObj 53 dH) :: (dH, dictOf [entF4 w u1 (.ref x), entB4 w u2 .none, entC4 w u3 (.ref C)] nH) :: (x, instObj 365 dx) :: (dx, bioDict w b t1 t2 (.int p tp) n) :: (b, baObj arr) :: rest)) (hoff : OwnOff rest [H, dH, x, dx, b]) (hne : NeAll [H, dH, x, dx, b])
    (hz : arr.size ≤ 100) (hp : p ≤ 1000) (hge : arr.size ≤ p)
    (hQ : ∀ h' tk' (t4 : Nat) news', Fr base L h' m → News base L h' news' → (∀ q ∈ ([(H, instObj 53 dH), (dH, dictOf [entF4 w u1 (.ref x), entB4 w u2 .none, entC4 w u3 (.ref C)] nH), (x, instObj 365 dx), (dx, bioDict w b t1 t2 (.int p t4) n), (b, baObj arr)] : List (Addr × Obj)), q ∈ news') → (∀ q ∈ rest, q ∈ news') → Q (.none) ⟨h', s.gens, s.drawn, tk', s.os⟩) :
    wpAny (model PySem.Challenge.rw_dn0266_04.row.prog w) (callerA.deeper (lawEnv4 L fa cd)) (call (.builtin "next") [.ref H, .none]) Q E s := by
  simp only [NeAll, NeTo, and_true] at hne
  obtain ⟨⟨n0_1, n0_2, n0_3, n0_4⟩, ⟨n1_2, n1_3, n1_4⟩, ⟨n2_3, n2_4⟩, n3_4⟩ := hne
  obtain ⟨hh, gs, dr, tk, os⟩ := s
  dsimp only at F' N'
  revert X'; k_fill; intro X'
  k_steps
  all_goals (refine' hQ _ _ _ _ ?F ?N ?m ?r; (case F => assumption); (case N => assumption); (case m => with_unfolding_all k_allIn); (case r => (intro p hp; k_ownIn)))
end Mine
namespace Mine
open PySem PySem.W PySem.Calls PyProof.Rows Builtin
set_option maxRecDepth 100000
set_option maxHeartbeats 1000000
section
variable {prog : Program} {w : World} {A : Around} {E : Value → Shared → Prop} {s : Shared} {value slice : PySem.Expr} {b c : Array UInt8} {t u : Tok} {h₀ : Heap} {L D : Addr} {m : PySem.Str → Option Value} {news news' : List (Addr × Obj)} {vs : List Value} {n i : Nat} {k : Int} {v : Value}
theorem set_at {Q : Unit → Shared → Prop} (hk : k = (i : Nat)) (hi : i < vs.length) (hb : vs.length ≤ 1000) (F : Fr h₀ L s.heap m) (N : News h₀ L s.heap news) (U : Upd D (W.listOf vs.toArray n) (W.listOf (vs.set i v).toArray n) news news')
    (h : ∀ h', Fr h₀ L h' m → News h₀ L h' news' → Q () { s with heap := h' }) : wpAny (model prog w) A (setItem (.ref D) (.int k t) v) Q E s := by
  subst hk
  obtain ⟨pre, post, rfl, rfl, a, b'⟩ := U.split
  have z := N (D, W.listOf vs.toArray n) (List.mem_append.mpr (.inr (.head _)))
  have hs : vs.toArray.size = vs.length := List.size_toArray ..
  refine ki_setAt z.1 (by omega) (by omega) (by omega) (h _ (F.change (Heap.SameBut.update ..) z.2.1 z.2.2) (ki_turn _ N a b' ?_ ?_))
  · show vs.toArray.setIfInBounds ((i : Int)).toNat v = (vs.set i v).toArray
    apply Array.toList_inj.mp
    simp
  · simp
theorem set_get (hi : i < vs.length) : (vs.set i v).toArray[i]? = some v := by simp [hi]
theorem item_at4 {l : Addr} {arr : Array Value} {Q : Value → Shared → Prop} (hl : s.heap.IsList l arr) (hv : arr[i]? = some v) (hk : k = (i : Nat)) (hb : i < 100000) (h : Q v s)
    (hs : subscripted slice false (.ref l) (.int k u) = operate [.ref l, .int k u] (getItem (.ref l) (.int k u)) := by with_unfolding_all rfl) :
    wpAny (model prog w) A (subscriptTail value slice (.ref l) (.int k u)) Q E s := by
  subst hk
  have hlt : i < arr.size := by
    rcases Nat.lt_or_ge i arr.size with h | h
    · exact h
    · rw [Array.getElem?_eq_none h] at hv; cases hv
  exact tail_any hl.typeIs slot_list_getitem.lookup (wpAny_getItem_list hl (by omega) (by omega) (by simpa using hv) h) hs
def SzOk (v : Value) : Prop := v = .none ∨ ∃ (z : Int) (t : Nat), v = .int z t ∧ -1000 ≤ z ∧ z ≤ 1000
theorem item_sz {l : Addr} {its : List Value} {Q : Value → Shared → Prop} (hl : IsTup s.heap l its.toArray) (h0 : 0 ≤ k) (h1 : k < its.length) (hb : its.length ≤ 100) (hall : ∀ v ∈ its, SzOk v) (h : ∀ v, SzOk v → Q v s)
    (hs : subscripted slice false (.ref l) (.int k u) = operate [.ref l, .int k u] (getItem (.ref l) (.int k u)) := by with_unfolding_all rfl) :
    wpAny (model prog w) A (subscriptTail value slice (.ref l) (.int k u)) Q E s := by
  obtain ⟨i, rfl⟩ := Int.eq_ofNat_of_zero_le h0
  have hi : i < its.length := by omega
  have e : its[i]? = some its[i] := by simp [hi]
  refine item_tupleT (j := i) hl (by omega) (by omega) ?_ e (h _ (hall _ (List.getElem_mem hi))) hs
  unfold seqIndex?
  have hn : ¬ ((i : Int) < 0) := by omega
  simp [hn, hi]
theorem slice_by {l u : Value} {lo hi : Option Int} {Q : Value → Shared → Prop} (hF : Fr h₀ L s.heap m) (hN : News h₀ L s.heap news) (hl : IsPart l lo) (hu : IsPart u hi) (hz : b.size ≤ 16777216)
    (h : ∀ h' t' k, Fr h₀ L h' m → News h₀ L h' news → Q (.bytes (KBy.picked b lo hi) t') { s with heap := h', toks := k })
    (hs : subscripted slice false (.bytes b t) (.ref s.heap.objs.size) = operate [.ref s.heap.objs.size, .bytes b t] (getItem (.bytes b t) (.ref s.heap.objs.size)) := by with_unfolding_all rfl)
    (ht : ∀ r, letTemporaryGo value (.bytes b t) r = pure () := by intro _; with_unfolding_all rfl) :
    wpAny (model prog w) A (subscriptTail value slice (.bytes b t) (.ref s.heap.objs.size)) Q E { s with heap := s.heap.push { cls := .type "slice", data := .fields #[l, u, .none] } } :=
  KBc.slice_K hF hN rfl hl hu (by rw [KBw.ints_length]; exact hz) (fun h' t' k F N _ => h h' t' k F N) hs ht
theorem eq_by {r : Bool} {Q : Value → Shared → Prop} (e : (b.toList == c.toList) = r) (h : Q (.bool r) s) : wpAny (model prog w) A (compareOp .Eq (.bytes b t) (.bytes c u)) Q E s := eq_bytes (by rw [e]; exact h)
theorem ne_by {r : Bool} {Q : Value → Shared → Prop} (e : (b.toList != c.toList) = r) (h : Q (.bool r) s) : wpAny (model prog w) A (compareOp .NotEq (.bytes b t) (.bytes c u)) Q E s := ne_bytes (by rw [e]; exact h)
theorem pick_le {lo hi : Option Int} {N : Nat} (h : b.size ≤ N) : (KBy.picked b lo hi).size ≤ N := Nat.le_trans (KBc.size_picked_le b lo hi) h
end
end Mine
namespace Mine
open PySem PySem.W PySem.Calls PyProof.Rows
set_option maxRecDepth 100000
set_option maxHeartbeats 1000000
def forBody4 : Stmt → List Stmt | .For _ _ b _ _ => b | _ => []
def for4 : Stmt := (fnBody4 law4).getD 10 default
abbrev mT (arr : Array UInt8) (td S HA : Nat) (p : Int) (tq : Nat) (u : Str → Option Value) : Str → Option Value := fun y => if y = Str.ofString "data" then some (.bytes arr td) else if y = Str.ofString "sizes" then some (.ref S) else if y = Str.ofString "hands" then some (.ref HA) else if y = Str.ofString "place" then some (.int p tq) else u y
def Names4 (arr : Array UInt8) (td S HA : Nat) (p : Int) (tq : Nat) (m : Str → Option Value) : Prop :=
  m (Str.ofString "data") = some (.bytes arr td) ∧ m (Str.ofString "sizes") = some (.ref S) ∧ m (Str.ofString "hands") = some (.ref HA) ∧ m (Str.ofString "place") = some (.int p tq)
theorem names4_eq {arr : Array UInt8} {td S HA tq : Nat} {p : Int} {m : Str → Option Value} (h : Names4 arr td S HA p tq m) : m = mT arr td S HA p tq m := by
  obtain ⟨h1, h2, h3, h4⟩ := h
  funext y
  unfold mT
  split
  · rename_i e; rw [e]; exact h1
  split
  · rename_i e; rw [e]; exact h2
  split
  · rename_i e; rw [e]; exact h3
  split
  · rename_i e; rw [e]; exact h4
  rfl
theorem put_fw {P : Params} {hs : Int} {k v a b c : Value} {u1 u2 u3 n : Nat} : (putL (Str.ofString "blksize") hs k v [⟨PyData.keyHash P (Str.ofString "filelike"), .str (Str.ofString "filelike") u1, a⟩, ⟨PyData.keyHash P (Str.ofString "blksize"), .str (Str.ofString "blksize") u2, b⟩, ⟨PyData.keyHash P (Str.ofString "close"), .str (Str.ofString "close") u3, c⟩],
     putN (Str.ofString "blksize") [⟨PyData.keyHash P (Str.ofString "filelike"), .str (Str.ofString "filelike") u1, a⟩, ⟨PyData.keyHash P (Str.ofString "blksize"), .str (Str.ofString "blksize") u2, b⟩, ⟨PyData.keyHash P (Str.ofString "close"), .str (Str.ofString "close") u3, c⟩] n)
   = ([⟨PyData.keyHash P (Str.ofString "filelike"), .str (Str.ofString "filelike") u1, a⟩, ⟨PyData.keyHash P (Str.ofString "blksize"), .str (Str.ofString "blksize") u2, v⟩, ⟨PyData.keyHash P (Str.ofString "close"), .str (Str.ofString "close") u3, c⟩], n) := by rfl
theorem szs_ok (a b c d e f : Nat) : ∀ v ∈ [Value.int 1 a, Value.int 2 b, Value.int 4 c, Value.int 8 d, Value.int 0 e, Value.int (-2) f, Value.none], SzOk v := by
  intro v hv
  simp only [List.mem_cons, List.not_mem_nil, or_false] at hv
  rcases hv with rfl | rfl | rfl | rfl | rfl | rfl | rfl
  all_goals first | exact .inl rfl | exact .inr ⟨_, _, rfl, by decide, by decide⟩
theorem seek_led {h₀ h : Heap} {L : Addr} {a b x d : Addr × Obj} {r : List (Addr × Obj)} (N : News h₀ L h (a :: b :: x :: d :: r)) : News h₀ L h (x :: d :: a :: b :: r) := fun p hp => N p (by
  simp only [List.mem_cons] at hp ⊢
  rcases hp with h | h | h | h | h
  · exact .inr (.inr (.inl h))
  · exact .inr (.inr (.inr (.inl h)))
  · exact .inl h
  · exact .inr (.inl h)
  · exact .inr (.inr (.inr (.inr h))))
theorem seek_unled {h₀ h : Heap} {L : Addr} {a b x d : Addr × Obj} {r : List (Addr × Obj)} (N : News h₀ L h (x :: d :: a :: b :: r)) : News h₀ L h (a :: b :: x :: d :: r) := seek_led N
section
variable {rest : List (Addr × Obj)} {H dH x dx b S HA c : Nat}
theorem off5 (hoff : OwnOff rest [H, dH, x, dx, b, S, HA, c]) (hne : NeAll [H, dH, x, dx, b, S, HA, c]) : ∀ o1 o2 o3 : Obj, OwnOff ((S, o1) :: (HA, o2) :: (c, o3) :: rest) [H, dH, x, dx, b] := by
  simp only [NeAll, NeTo, and_true] at hne
  obtain ⟨⟨n0_1, n0_2, n0_3, n0_4, n0_5, n0_6, n0_7⟩, ⟨n1_2, n1_3, n1_4, n1_5, n1_6, n1_7⟩, ⟨n2_3, n2_4, n2_5, n2_6, n2_7⟩, ⟨n3_4, n3_5, n3_6, n3_7⟩, ⟨n4_5, n4_6, n4_7⟩, ⟨n5_6, n5_7⟩, n6_7⟩ := hne
  intro o1 o2 o3 p hp a ha
  simp only [List.mem_cons, List.not_mem_nil, or_false] at hp ha
  rcases hp with rfl | rfl | rfl | hp
  · rcases ha with rfl | rfl | rfl | rfl | rfl <;> exact Ne.symm (by assumption)
  · rcases ha with rfl | rfl | rfl | rfl | rfl <;> exact Ne.symm (by assumption)
  · rcases ha with rfl | rfl | rfl | rfl | rfl <;> exact Ne.symm (by assumption)
  · exact hoff p hp a (by simp only [List.mem_cons, List.not_mem_nil, or_false]; rcases ha with rfl | rfl | rfl | rfl | rfl <;> simp)
theorem off2 (hoff : OwnOff rest [H, dH, x, dx, b, S, HA, c]) (hne : NeAll [H, dH, x, dx, b, S, HA, c]) : ∀ o1 o2 o3 o4 o5 o6 : Obj, OwnOff ((H, o1) :: (dH, o2) :: (b, o3) :: (S, o4) :: (HA, o5) :: (c, o6) :: rest) [x, dx] := by
  simp only [NeAll, NeTo, and_true] at hne
  obtain ⟨⟨n0_1, n0_2, n0_3, n0_4, n0_5, n0_6, n0_7⟩, ⟨n1_2, n1_3, n1_4, n1_5, n1_6, n1_7⟩, ⟨n2_3, n2_4, n2_5, n2_6, n2_7⟩, ⟨n3_4, n3_5, n3_6, n3_7⟩, ⟨n4_5, n4_6, n4_7⟩, ⟨n5_6, n5_7⟩, n6_7⟩ := hne
  intro o1 o2 o3 o4 o5 o6 p hp a ha
  simp only [List.mem_cons, List.not_mem_nil, or_false] at hp ha
  rcases hp with rfl | rfl | rfl | rfl | rfl | rfl | hp
  · rcases ha with rfl | rfl <;> assumption
  · rcases ha with rfl | rfl <;> assumption
  · rcases ha with rfl | rfl <;> exact Ne.symm (by assumption)
  · rcases ha with rfl | rfl <;> exact Ne.symm (by assumption)
  · rcases ha with rfl | rfl <;> exact Ne.symm (by assumption)
  · rcases ha with rfl | rfl <;> exact Ne.symm (by assumption)
  · exact hoff p hp a (by simp only [List.mem_cons, List.not_mem_nil, or_false]; rcases ha with rfl | rfl <;> simp)
theorem ne5 (hne : NeAll [H, dH, x, dx, b, S, HA, c]) : NeAll [H, dH, x, dx, b] := by
  simp only [NeAll, NeTo, and_true] at hne ⊢
  obtain ⟨⟨n0_1, n0_2, n0_3, n0_4, n0_5, n0_6, n0_7⟩, ⟨n1_2, n1_3, n1_4, n1_5, n1_6, n1_7⟩, ⟨n2_3, n2_4, n2_5, n2_6, n2_7⟩, ⟨n3_4, n3_5, n3_6, n3_7⟩, ⟨n4_5, n4_6, n4_7⟩, ⟨n5_6, n5_7⟩, n6_7⟩ := hne
  exact ⟨⟨n0_1, n0_2, n0_3, n0_4⟩, ⟨n1_2, n1_3, n1_4⟩, ⟨n2_3, n2_4⟩, n3_4⟩
theorem ne2 (hne : NeAll [H, dH, x, dx, b, S, HA, c]) : NeAll [x, dx] := by
  simp only [NeAll, NeTo, and_true] at hne ⊢
  exact hne.2.2.1.1
end
end Mine
namespace Mine
open PySem PySem.W PySem.Calls PyProof.Rows
set_option maxRecDepth 100000
set_option maxHeartbeats 1000000
local macro_rules | `(tactic| k_lt $h) => `(tactic| (have kept := $h; replace $h := allLt_of $h; simp only [AllLt, and_true] at $h:ident))
local macro_rules | `(tactic| k_ne) => `(tactic| (refine neN ?_; (try dsimp only); first | exact NeF.l (by with_reducible assumption) | exact NeF.r (by with_reducible assumption) | omega))
local macro_rules | `(tactic| walk_at "call builtin:len") => `(tactic| (k_here; (with_reducible show wpAny _ _ (call (Value.builtin "len") [Value.bytes _ _]) _ _ _); (refine len_bytes ?k1 ?_; (case k1 => first | omega | exact pick_le (by omega) | exact pick_le (pick_le (by omega))); k_whole)))
local macro_rules | `(tactic| walk_at "ite") => `(tactic| (first | (((refine ite_neg ?h ?_); (case h => (simp only [beq_iff_eq, bne_iff_ne, ne_eq, decide_eq_true_eq, Bool.false_bne, Bool.true_bne, Bool.not_eq_true', decide_eq_false_iff_not, reduceCtorEq, not_false_eq_true, not_true_eq_false, Array.size_empty, List.size_toArray, List.length_nil]; first | done | omega)))) | (((refine ite_pos ?h ?_); (case h => (simp only [beq_iff_eq, bne_iff_ne, ne_eq, decide_eq_true_eq, Bool.false_bne, Bool.true_bne, Bool.not_eq_true', decide_eq_false_iff_not, reduceCtorEq, not_false_eq_true, not_true_eq_false, Array.size_empty, List.size_toArray, List.length_nil]; first | done | omega))))))
local macro_rules | `(tactic| k_put) => `(tactic| first | exact Mine.put_bio | exact Mine.put_fw)
local macro_rules | `(tactic| walk_at "subscriptTail") => `(tactic| (k_here; (with_reducible show wpAny _ _ (subscriptTail _ _ (Value.ref _) (Value.int _ _)) _ _ _); (first
  | (with_unfolding_all refine' item_at4 ?k1 ?k2 ?k3 ?k4 ?_ ?k6; (case k1 => is_list); (case k2 => first | with_reducible assumption | exact set_get (by with_reducible assumption)); (case k3 => with_reducible assumption); (case k4 => omega); (case k6 => with_unfolding_all rfl); k_whole)
  | ((with_unfolding_all refine' item_sz ?k1 ?k2 ?k3 ?k5 ?k4 ?_ ?k6; (case k1 => exact News.isTup (by k_asm) (by news_mem)); (case k2 => with_reducible assumption); (case k3 => (simp only [List.length_cons, List.length_nil]; omega)); (case k5 => (simp only [List.length_cons, List.length_nil]; omega)); (case k4 => exact szs_ok _ _ _ _ _ _); (case k6 => with_unfolding_all rfl); k_whole); intro v' hv'))))
local macro_rules | `(tactic| walk_at "setItem ref int") => `(tactic| (k_here; (refine' set_at ?k ?i ?b ?F ?N ?U ?_; (case F => k_asm); (case N => k_asm); (case U => k_upd); (case k => with_reducible assumption); (case i => with_reducible assumption); (case b => omega); k_whole); intro h' F' N'; (try dsimp only [List.nil_append, List.cons_append] at N')))
local macro_rules | `(tactic| walk_at "call ref") => `(tactic| (k_here; (with_reducible show wpAny _ _ (call (Value.ref 273) _ _) _ _ _); (refine' seek_go ?X ?T ?K ?F ?N ?o ?ne ?p0 ?p1 ?_; (case X => k_asm); (case T => k_asm); (case K => k_asm); (case F => k_asm); (case N => exact seek_led (by k_asm)); (case o => exact $(Lean.mkIdent `hO2) _ _ _ _ _ _); (case ne => exact $(Lean.mkIdent `hN2)); (case p0 => omega); (case p1 => omega); k_whole); intro h' tk' t4 t5 news' F' N' hm hr; replace N' := seek_led (news_two hm hr N'); clear hm hr; (try simp only [List.cons_append, List.nil_append] at N')))
local macro_rules | `(tactic| walk_at "call builtin:next") => `(tactic| (k_here; (with_reducible show wpAny _ _ (call (Value.builtin "next") [Value.ref _, _]) _ _ _); (fail)))
local macro_rules | `(tactic| walk_at "subscriptTail") => `(tactic| (k_here; (with_reducible show wpAny _ _ (subscriptTail _ (Expr.Slice _ _ none _) (Value.bytes _ _) (Value.ref _)) _ _ _); (with_reducible rename Fr _ _ _ _ => F'); (with_reducible rename News _ _ _ _ => N'); (refine slice_by (s := ⟨_, _, _, _, _⟩) F' N' (by constructor) (by constructor) (by first | omega | exact pick_le (by omega)) ?_); intro _ _ _ F' N'))
local macro_rules | `(tactic| walk_at "call type:type") => `(tactic| (k_here; (with_reducible show wpAny _ _ (call (Value.type "type") [Value.bytes _ _]) _ _ _); (with_unfolding_all refine' call_type_of (Tx := "bytes") ?k1 ?k2 ?_; (case k1 => exact rfl); (case k2 => decide); k_whole)))
local macro_rules | `(tactic| walk_at "compareOp Eq bytes bytes") => `(tactic| (k_here; (refine eq_by (by with_reducible assumption) ?_)))
local macro_rules | `(tactic| walk_at "compareOp NotEq bytes bytes") => `(tactic| (k_here; (refine ne_by (by with_reducible assumption) ?_)))
theorem turn3 {w : World} {s : Shared} {mg mb : Str → Option Value} {mean : ExcName → Option Value} {loose : List Str} {base : Heap} {L fa x dx b t1 t2 n tp H dH u1 u2 u3 C nH S HA ns nh tx td tq k : Nat} {cd v : Value} {u : Str → Option Value} {arr : Array UInt8} {p : Nat} {xv : Int} {vs hs : List Value} {oS : Obj} {rest : List (Addr × Obj)} {Q : Flow → Shared → Prop} {E : Value → Shared → Prop} 
    (X' : (Mine.hd.heap_39 w.params).In base) (T' : Top Mine.hd.view_39 loose mean mg mb base) (K' : Below callerA base [] base)
    (F' : Fr base L s.heap (fun y => if y = Str.ofString "x" then some (.int xv tx) else mT arr td S HA p tq u y))
    (N' : News base L s.heap ((H, instObj 53 dH) :: (dH, dictOf [entF4 w u1 (.ref x), entB4 w u2 v, entC4 w u3 (.ref C)] nH) :: (x, instObj 365 dx) :: (dx, bioDict w b t1 t2 (.int p tp) n) :: (b, baObj arr) :: (S, W.listOf vs.toArray ns) :: (HA, W.listOf hs.toArray nh) :: (L + 1 + 1, oS) :: rest)) (hoff : OwnOff rest [H, dH, x, dx, b, S, HA, L + 1 + 1]) (hne : NeAll [H, dH, x, dx, b, S, HA, L + 1 + 1])
    (dS : oS.data = .cell (some (.ref x))) (hk5 : Int.fmod xv 5 = (k : Nat)) (hvk : vs.toArray[k]? = some v) (hhk : hs.toArray[k]? = some (.ref H)) (hkv : k < vs.length) (hvl : vs.length = 5)
    (hz : arr.size ≤ 100) (hp : p ≤ 900) (hkd : Int.fmod (Int.fdiv xv 5) 4 = 3) (hq0 : 0 ≤ Int.fmod (Int.fdiv xv 20) 7) (hq1 : Int.fmod (Int.fdiv xv 20) 7 < 7)
    (hQ : ∀ h' tk' m' (t4 t5 : Nat) (v' : Value) news', SzOk v' → Fr base L h' m' → Names4 arr td S HA p t5 m' → News base L h' news' → (∀ q ∈ ([(H, instObj 53 dH), (dH, dictOf [entF4 w u1 (.ref x), entB4 w u2 v', entC4 w u3 (.ref C)] nH), (x, instObj 365 dx), (dx, bioDict w b t1 t2 (.int p t4) n), (b, baObj arr), (S, W.listOf (vs.set k v').toArray ns), (HA, W.listOf hs.toArray nh), (L + 1 + 1, oS)] : List (Addr × Obj)), q ∈ news') → (∀ q ∈ rest, q ∈ news') → Q .next ⟨h', s.gens, s.drawn, tk', s.os⟩) :
    wpAny (model PySem.Challenge.rw_dn0266_04.row.prog w) (callerA.deeper (lawEnv4 L fa cd)) (execs (forBody4 for4) (lawEnv4 L fa cd)) Q E s := by
  have hO5 := off5 hoff hne
  have hO2 := off2 hoff hne
  have hN5 := ne5 hne
  have hN2 := ne2 hne
  simp only [NeAll, NeTo, and_true] at hne
  obtain ⟨⟨n0_1, n0_2, n0_3, n0_4, n0_5, n0_6, n0_7⟩, ⟨n1_2, n1_3, n1_4, n1_5, n1_6, n1_7⟩, ⟨n2_3, n2_4, n2_5, n2_6, n2_7⟩, ⟨n3_4, n3_5, n3_6, n3_7⟩, ⟨n4_5, n4_6, n4_7⟩, ⟨n5_6, n5_7⟩, n6_7⟩ := hne
  obtain ⟨hh, gs, dr, tk, os⟩ := s
  dsimp only at F' N'
  revert X'; k_fill; intro X'
  with_unfolding_all show wpAny _ _ (execs (_ :: _) _) _ _ _
  k_steps
  all_goals (refine' hQ _ _ _ _ _ _ _ ?sz ?F ?nm ?N ?m ?r; (case sz => assumption); (case F => assumption); (case nm => (refine ⟨rfl, rfl, rfl, ?_⟩; with_unfolding_all exact rfl)); (case N => assumption); (case m => with_unfolding_all k_allIn); (case r => (intro p hp; k_ownIn)))
end Mine
namespace Mine
open PySem PySem.W PySem.Calls PyProof.Rows
set_option maxRecDepth 100000
set_option maxHeartbeats 1000000
local macro_rules | `(tactic| walk_at "none 0") => `(tactic| fail)
local macro_rules | `(tactic| k_lt $h) => `(tactic| (have kept := $h; replace $h := allLt_of $h; simp only [AllLt, and_true] at $h:ident))
local macro_rules | `(tactic| k_ne) => `(tactic| (refine neN ?_; (try dsimp only); first | exact NeF.l (by with_reducible assumption) | exact NeF.r (by with_reducible assumption) | omega))
local macro_rules | `(tactic| walk_at "call builtin:len") => `(tactic| (k_here; (with_reducible show wpAny _ _ (call (Value.builtin "len") [Value.bytes _ _]) _ _ _); (refine len_bytes ?k1 ?_; (case k1 => first | omega | exact pick_le (by omega) | exact pick_le (pick_le (by omega))); k_whole)))
local macro_rules | `(tactic| walk_at "ite") => `(tactic| (first | (((refine ite_neg ?h ?_); (case h => (simp only [beq_iff_eq, bne_iff_ne, ne_eq, decide_eq_true_eq, Bool.false_bne, Bool.true_bne, Bool.not_eq_true', decide_eq_false_iff_not, reduceCtorEq, not_false_eq_true, not_true_eq_false, Array.size_empty, List.size_toArray, List.length_nil]; first | done | omega)))) | (((refine ite_pos ?h ?_); (case h => (simp only [beq_iff_eq, bne_iff_ne, ne_eq, decide_eq_true_eq, Bool.false_bne, Bool.true_bne, Bool.not_eq_true', decide_eq_false_iff_not, reduceCtorEq, not_false_eq_true, not_true_eq_false, Array.size_empty, List.size_toArray, List.length_nil]; first | done | omega))))))
local macro_rules | `(tactic| k_put) => `(tactic| first | exact Mine.put_bio | exact Mine.put_fw)
local macro_rules | `(tactic| walk_at "subscriptTail") => `(tactic| (k_here; (with_reducible show wpAny _ _ (subscriptTail _ _ (Value.ref _) (Value.int _ _)) _ _ _); (first
  | (with_unfolding_all refine' item_at4 ?k1 ?k2 ?k3 ?k4 ?_ ?k6; (case k1 => is_list); (case k2 => first | with_reducible assumption | exact set_get (by with_reducible assumption)); (case k3 => with_reducible assumption); (case k4 => omega); (case k6 => with_unfolding_all rfl); k_whole)
  | ((with_unfolding_all refine' item_sz ?k1 ?k2 ?k3 ?k5 ?k4 ?_ ?k6; (case k1 => exact News.isTup (by k_asm) (by news_mem)); (case k2 => with_reducible assumption); (case k3 => (simp only [List.length_cons, List.length_nil]; omega)); (case k5 => (simp only [List.length_cons, List.length_nil]; omega)); (case k4 => exact szs_ok _ _ _ _ _ _); (case k6 => with_unfolding_all rfl); k_whole); intro v' hv'))))
local macro_rules | `(tactic| walk_at "setItem ref int") => `(tactic| (k_here; (refine' set_at ?k ?i ?b ?F ?N ?U ?_; (case F => k_asm); (case N => k_asm); (case U => k_upd); (case k => with_reducible assumption); (case i => with_reducible assumption); (case b => omega); k_whole); intro h' F' N'; (try dsimp only [List.nil_append, List.cons_append] at N')))
local macro_rules | `(tactic| walk_at "call ref") => `(tactic| (k_here; (with_reducible show wpAny _ _ (call (Value.ref 273) _ _) _ _ _); (refine' seek_go ?X ?T ?K ?F ?N ?o ?ne ?p0 ?p1 ?_; (case X => k_asm); (case T => k_asm); (case K => k_asm); (case F => k_asm); (case N => exact seek_led (by k_asm)); (case o => exact $(Lean.mkIdent `hO2) _ _ _ _ _ _); (case ne => exact $(Lean.mkIdent `hN2)); (case p0 => omega); (case p1 => omega); k_whole); intro h' tk' t4 t5 news' F' N' hm hr; replace N' := seek_led (news_two hm hr N'); clear hm hr; (try simp only [List.cons_append, List.nil_append] at N')))
local macro_rules | `(tactic| walk_at "call builtin:next") => `(tactic| (k_here; (with_reducible show wpAny _ _ (call (Value.builtin "next") [Value.ref _, _]) _ _ _); (fail)))
local macro_rules | `(tactic| walk_at "subscriptTail") => `(tactic| (k_here; (with_reducible show wpAny _ _ (subscriptTail _ (Expr.Slice _ _ none _) (Value.bytes _ _) (Value.ref _)) _ _ _); (with_reducible rename Fr _ _ _ _ => F'); (with_reducible rename News _ _ _ _ => N'); (refine slice_by (s := ⟨_, _, _, _, _⟩) F' N' (by constructor) (by constructor) (by first | omega | exact pick_le (by omega)) ?_); intro _ _ _ F' N'))
local macro_rules | `(tactic| walk_at "call type:type") => `(tactic| (k_here; (with_reducible show wpAny _ _ (call (Value.type "type") [Value.bytes _ _]) _ _ _); (with_unfolding_all refine' call_type_of (Tx := "bytes") ?k1 ?k2 ?_; (case k1 => exact rfl); (case k2 => decide); k_whole)))
local macro_rules | `(tactic| walk_at "compareOp Eq bytes bytes") => `(tactic| (k_here; (refine eq_by (by with_reducible assumption) ?_)))
local macro_rules | `(tactic| walk_at "compareOp NotEq bytes bytes") => `(tactic| (k_here; (refine ne_by (by with_reducible assumption) ?_)))
theorem turn2 {w : World} {s : Shared} {mg mb : Str → Option Value} {mean : ExcName → Option Value} {loose : List Str} {base : Heap} {L fa x dx b t1 t2 n tp H dH u1 u2 u3 C nH S HA ns nh tx td tq k : Nat} {cd v : Value} {u : Str → Option Value} {arr : Array UInt8} {p : Nat} {xv : Int} {vs hs : List Value} {oS : Obj} {rest : List (Addr × Obj)} {Q : Flow → Shared → Prop} {E : Value → Shared → Prop} 
    (X' : (Mine.hd.heap_39 w.params).In base) (T' : Top Mine.hd.view_39 loose mean mg mb base) (K' : Below callerA base [] base)
    (F' : Fr base L s.heap (fun y => if y = Str.ofString "x" then some (.int xv tx) else mT arr td S HA p tq u y))
    (N' : News base L s.heap ((H, instObj 53 dH) :: (dH, dictOf [entF4 w u1 (.ref x), entB4 w u2 v, entC4 w u3 (.ref C)] nH) :: (x, instObj 365 dx) :: (dx, bioDict w b t1 t2 (.int p tp) n) :: (b, baObj arr) :: (S, W.listOf vs.toArray ns) :: (HA, W.listOf hs.toArray nh) :: (L + 1 + 1, oS) :: rest)) (hoff : OwnOff rest [H, dH, x, dx, b, S, HA, L + 1 + 1]) (hne : NeAll [H, dH, x, dx, b, S, HA, L + 1 + 1])
    (dS : oS.data = .cell (some (.ref x))) (hk5 : Int.fmod xv 5 = (k : Nat)) (hvk : vs.toArray[k]? = some v) (hhk : hs.toArray[k]? = some (.ref H)) (hkv : k < vs.length) (hvl : vs.length = 5)
    (hz : arr.size ≤ 100) (hp : p ≤ 900) (hkd : Int.fmod (Int.fdiv xv 5) 4 = 2) (hq0 : 0 ≤ Int.fmod (Int.fdiv xv 20) (arr.size + 3)) (hq1 : Int.fmod (Int.fdiv xv 20) (arr.size + 3) ≤ 900)
    (hQ : ∀ h' tk' m' (t4 t5 : Nat) news', Fr base L h' m' → Names4 arr td S HA (Int.fmod (Int.fdiv xv 20) (arr.size + 3)) t5 m' → News base L h' news' → (∀ q ∈ ([(H, instObj 53 dH), (dH, dictOf [entF4 w u1 (.ref x), entB4 w u2 v, entC4 w u3 (.ref C)] nH), (x, instObj 365 dx), (dx, bioDict w b t1 t2 (.int (Int.fmod (Int.fdiv xv 20) (arr.size + 3)) t4) n), (b, baObj arr), (S, W.listOf vs.toArray ns), (HA, W.listOf hs.toArray nh), (L + 1 + 1, oS)] : List (Addr × Obj)), q ∈ news') → (∀ q ∈ rest, q ∈ news') → Q .next ⟨h', s.gens, s.drawn, tk', s.os⟩) :
    wpAny (model PySem.Challenge.rw_dn0266_04.row.prog w) (callerA.deeper (lawEnv4 L fa cd)) (execs (forBody4 for4) (lawEnv4 L fa cd)) Q E s := by
  have hO5 := off5 hoff hne
  have hO2 := off2 hoff hne
  have hN5 := ne5 hne
  have hN2 := ne2 hne
  simp only [NeAll, NeTo, and_true] at hne
  obtain ⟨⟨n0_1, n0_2, n0_3, n0_4, n0_5, n0_6, n0_7⟩, ⟨n1_2, n1_3, n1_4, n1_5, n1_6, n1_7⟩, ⟨n2_3, n2_4, n2_5, n2_6, n2_7⟩, ⟨n3_4, n3_5, n3_6, n3_7⟩, ⟨n4_5, n4_6, n4_7⟩, ⟨n5_6, n5_7⟩, n6_7⟩ := hne
  obtain ⟨hh, gs, dr, tk, os⟩ := s
  dsimp only at F' N'
  revert X'; k_fill; intro X'
  with_unfolding_all show wpAny _ _ (execs (_ :: _) _) _ _ _
  k_steps
  all_goals (refine' hQ _ _ _ _ _ _ ?F ?nm ?N ?m ?r; (case F => assumption); (case nm => (refine ⟨rfl, rfl, rfl, ?_⟩; with_unfolding_all exact rfl)); (case N => assumption); (case m => with_unfolding_all k_allIn); (case r => (intro p hp; k_ownIn)))
end Mine
namespace Mine
open PySem PySem.W PySem.Calls PyProof.Rows
set_option maxRecDepth 100000
set_option maxHeartbeats 1000000
section
local macro_rules | `(tactic| walk_at "none 0") => `(tactic| fail)
local macro_rules | `(tactic| walk_at "none 1") => `(tactic| fail)
local macro_rules | `(tactic| k_lt $h) => `(tactic| (have kept := $h; replace $h := allLt_of $h; simp only [AllLt, and_true] at $h:ident))
local macro_rules | `(tactic| k_ne) => `(tactic| (refine neN ?_; (try dsimp only); first | exact NeF.l (by with_reducible assumption) | exact NeF.r (by with_reducible assumption) | omega))
local macro_rules | `(tactic| walk_at "call builtin:len") => `(tactic| (k_here; (with_reducible show wpAny _ _ (call (Value.builtin "len") [Value.bytes _ _]) _ _ _); (refine len_bytes ?k1 ?_; (case k1 => first | omega | exact pick_le (by omega) | exact pick_le (pick_le (by omega))); k_whole)))
local macro_rules | `(tactic| walk_at "ite") => `(tactic| (first | (((refine ite_neg ?h ?_); (case h => (simp only [beq_iff_eq, bne_iff_ne, ne_eq, decide_eq_true_eq, Bool.false_bne, Bool.true_bne, Bool.not_eq_true', decide_eq_false_iff_not, reduceCtorEq, not_false_eq_true, not_true_eq_false, Array.size_empty, List.size_toArray, List.length_nil]; first | done | omega)))) | (((refine ite_pos ?h ?_); (case h => (simp only [beq_iff_eq, bne_iff_ne, ne_eq, decide_eq_true_eq, Bool.false_bne, Bool.true_bne, Bool.not_eq_true', decide_eq_false_iff_not, reduceCtorEq, not_false_eq_true, not_true_eq_false, Array.size_empty, List.size_toArray, List.length_nil]; first | done | omega))))))
local macro_rules | `(tactic| k_put) => `(tactic| first | exact Mine.put_bio | exact Mine.put_fw)
local macro_rules | `(tactic| walk_at "subscriptTail") => `(tactic| (k_here; (with_reducible show wpAny _ _ (subscriptTail _ _ (Value.ref _) (Value.int _ _)) _ _ _); (first
  | (with_unfolding_all refine' item_at4 ?k1 ?k2 ?k3 ?k4 ?_ ?k6; (case k1 => is_list); (case k2 => first | with_reducible assumption | exact set_get (by with_reducible assumption)); (case k3 => with_reducible assumption); (case k4 => omega); (case k6 => with_unfolding_all rfl); k_whole)
  | ((with_unfolding_all refine' item_sz ?k1 ?k2 ?k3 ?k5 ?k4 ?_ ?k6; (case k1 => exact News.isTup (by k_asm) (by news_mem)); (case k2 => with_reducible assumption); (case k3 => (simp only [List.length_cons, List.length_nil]; omega)); (case k5 => (simp only [List.length_cons, List.length_nil]; omega)); (case k4 => exact szs_ok _ _ _ _ _ _); (case k6 => with_unfolding_all rfl); k_whole); intro v' hv'))))
local macro_rules | `(tactic| walk_at "setItem ref int") => `(tactic| (k_here; (refine' set_at ?k ?i ?b ?F ?N ?U ?_; (case F => k_asm); (case N => k_asm); (case U => k_upd); (case k => with_reducible assumption); (case i => with_reducible assumption); (case b => omega); k_whole); intro h' F' N'; (try dsimp only [List.nil_append, List.cons_append] at N')))
local macro_rules | `(tactic| walk_at "call ref") => `(tactic| (k_here; (with_reducible show wpAny _ _ (call (Value.ref 273) _ _) _ _ _); (refine' seek_go ?X ?T ?K ?F ?N ?o ?ne ?p0 ?p1 ?_; (case X => k_asm); (case T => k_asm); (case K => k_asm); (case F => k_asm); (case N => exact seek_led (by k_asm)); (case o => exact $(Lean.mkIdent `hO2) _ _ _ _ _ _); (case ne => exact $(Lean.mkIdent `hN2)); (case p0 => omega); (case p1 => omega); k_whole); intro h' tk' t4 t5 news' F' N' hm hr; replace N' := seek_led (news_two hm hr N'); clear hm hr; (try simp only [List.cons_append, List.nil_append] at N')))
local macro_rules | `(tactic| walk_at "call builtin:next") => `(tactic| (k_here; (with_reducible show wpAny _ _ (call (Value.builtin "next") [Value.ref _, _]) _ _ _); (refine' next_cut ?X ?T ?K ?F ?N ?o ?ne ?z ?p ?a0 ?a1 ?a2 ?a3 ?_; (case X => k_asm); (case T => k_asm); (case K => k_asm); (case F => k_asm); (case N => k_asm); (case o => exact $(Lean.mkIdent `hO5) _ _ _); (case ne => exact $(Lean.mkIdent `hN5)); (case z => with_reducible assumption); (case p => omega); (case a0 => first | with_reducible assumption | omega); (case a1 => first | with_reducible assumption | omega); (case a2 => first | with_reducible assumption | omega); (case a3 => first | with_reducible assumption | omega); k_whole); (intro h' tk' t4 t5 news' F' N' hm hr; replace N' := news_two hm hr N'; clear hm hr; (try simp only [List.cons_append, List.nil_append] at N'))))
local macro_rules | `(tactic| walk_at "subscriptTail") => `(tactic| (k_here; (with_reducible show wpAny _ _ (subscriptTail _ (Expr.Slice _ _ none _) (Value.bytes _ _) (Value.ref _)) _ _ _); (with_reducible rename Fr _ _ _ _ => F'); (with_reducible rename News _ _ _ _ => N'); (refine slice_by (s := ⟨_, _, _, _, _⟩) F' N' (by constructor) (by constructor) (by first | omega | exact pick_le (by omega)) ?_); intro _ _ _ F' N'))
local macro_rules | `(tactic| walk_at "call type:type") => `(tactic| (k_here; (with_reducible show wpAny _ _ (call (Value.type "type") [Value.bytes _ _]) _ _ _); (with_unfolding_all refine' call_type_of (Tx := "bytes") ?k1 ?k2 ?_; (case k1 => exact rfl); (case k2 => decide); k_whole)))
local macro_rules | `(tactic| walk_at "compareOp Eq bytes bytes") => `(tactic| (k_here; (refine eq_by (by with_reducible assumption) ?_)))
local macro_rules | `(tactic| walk_at "compareOp NotEq bytes bytes") => `(tactic| (k_here; (refine ne_by (by with_reducible assumption) ?_)))
theorem turn_cut {w : World} {s : Shared} {mg mb : Str → Option Value} {mean : ExcName → Option Value} {loose : List Str} {base : Heap} {L fa x dx b t1 t2 n tp H dH u1 u2 u3 C nH S HA ns nh tx td tq k : Nat} {cd v : Value} {u : Str → Option Value} {arr : Array UInt8} {p : Nat} {xv : Int} {vs hs : List Value} {oS : Obj} {rest : List (Addr × Obj)} {Q : Flow → Shared → Prop} {E : Value → Shared → Prop} {z : Int} {tz : Nat}
    (X' : (Mine.hd.heap_39 w.params).In base) (T' : Top Mine.hd.view_39 loose mean mg mb base) (K' : Below callerA base [] base)
    (F' : Fr base L s.heap (fun y => if y = Str.ofString "x" then some (.int xv tx) else mT arr td S HA p tq u y))
    (N' : News base L s.heap ((H, instObj 53 dH) :: (dH, dictOf [entF4 w u1 (.ref x), entB4 w u2 (.int z tz), entC4 w u3 (.ref C)] nH) :: (x, instObj 365 dx) :: (dx, bioDict w b t1 t2 (.int p tp) n) :: (b, baObj arr) :: (S, W.listOf vs.toArray ns) :: (HA, W.listOf hs.toArray nh) :: (L + 1 + 1, oS) :: rest)) (hoff : OwnOff rest [H, dH, x, dx, b, S, HA, L + 1 + 1]) (hne : NeAll [H, dH, x, dx, b, S, HA, L + 1 + 1])
    (dS : oS.data = .cell (some (.ref x))) (hk5 : Int.fmod xv 5 = (k : Nat)) (hvk : vs.toArray[k]? = some (.int z tz)) (hhk : hs.toArray[k]? = some (.ref H)) (hkv : k < vs.length) (hvl : vs.length = 5)
    (hz : arr.size ≤ 100) (hp : p ≤ 900) (hkd : Int.fmod (Int.fdiv xv 5) 4 ≠ 3) (hkd2 : Int.fmod (Int.fdiv xv 5) 4 ≠ 2) (hlt : p < arr.size) (hz0 : 0 < z) (hz1 : p + z < arr.size) (he : ((KBy.picked (KBy.picked arr (some (p : Int)) none) none (some z)).toList == (#[] : Array UInt8).toList) = false) (hn : ((KBy.picked arr (some (p : Int)) (some (p + z))).toList != (KBy.picked (KBy.picked arr (some (p : Int)) none) none (some z)).toList) = false) (hsz : 0 < (KBy.picked arr (some (p : Int)) (some (p + z))).size) (hl : ((KBy.picked (KBy.picked arr (some (p : Int)) none) none (some z)).size : Int) = z)
    (hQ : ∀ h' tk' m' (t4 t5 : Nat) news', Fr base L h' m' → Names4 arr td S HA (p + ((KBy.picked (KBy.picked arr (some (p : Int)) none) none (some z)).size : Nat)) t5 m' → News base L h' news' → (∀ q ∈ ([(H, instObj 53 dH), (dH, dictOf [entF4 w u1 (.ref x), entB4 w u2 (.int z tz), entC4 w u3 (.ref C)] nH), (x, instObj 365 dx), (dx, bioDict w b t1 t2 (.int (p + z) t4) n), (b, baObj arr), (S, W.listOf vs.toArray ns), (HA, W.listOf hs.toArray nh), (L + 1 + 1, oS)] : List (Addr × Obj)), q ∈ news') → (∀ q ∈ rest, q ∈ news') → Q .next ⟨h', s.gens, s.drawn, tk', s.os⟩) :
    wpAny (model PySem.Challenge.rw_dn0266_04.row.prog w) (callerA.deeper (lawEnv4 L fa cd)) (execs (forBody4 for4) (lawEnv4 L fa cd)) Q E s := by
  have hO5 := off5 hoff hne
  have hO2 := off2 hoff hne
  have hN5 := ne5 hne
  have hN2 := ne2 hne
  simp only [NeAll, NeTo, and_true] at hne
  obtain ⟨⟨n0_1, n0_2, n0_3, n0_4, n0_5, n0_6, n0_7⟩, ⟨n1_2, n1_3, n1_4, n1_5, n1_6, n1_7⟩, ⟨n2_3, n2_4, n2_5, n2_6, n2_7⟩, ⟨n3_4, n3_5, n3_6, n3_7⟩, ⟨n4_5, n4_6, n4_7⟩, ⟨n5_6, n5_7⟩, n6_7⟩ := hne
  obtain ⟨hh, gs, dr, tk, os⟩ := s
  dsimp only at F' N'
  revert X'; k_fill; intro X'
  with_unfolding_all show wpAny _ _ (execs (_ :: _) _) _ _ _
  k_steps
  all_goals (refine' hQ _ _ _ _ _ _ ?F ?nm ?N ?m ?r; (case F => assumption); (case nm => (refine ⟨rfl, rfl, rfl, ?_⟩; with_unfolding_all exact rfl)); (case N => assumption); (case m => with_unfolding_all k_allIn); (case r => (intro p hp; k_ownIn)))
end
section
local macro_rules | `(tactic| walk_at "none 0") => `(tactic| fail)
local macro_rules | `(tactic| walk_at "none 1") => `(tactic| fail)
local macro_rules | `(tactic| walk_at "none 2") => `(tactic| fail)
local macro_rules | `(tactic| k_lt $h) => `(tactic| (have kept := $h; replace $h := allLt_of $h; simp only [AllLt, and_true] at $h:ident))
local macro_rules | `(tactic| k_ne) => `(tactic| (refine neN ?_; (try dsimp only); first | exact NeF.l (by with_reducible assumption) | exact NeF.r (by with_reducible assumption) | omega))
local macro_rules | `(tactic| walk_at "call builtin:len") => `(tactic| (k_here; (with_reducible show wpAny _ _ (call (Value.builtin "len") [Value.bytes _ _]) _ _ _); (refine len_bytes ?k1 ?_; (case k1 => first | omega | exact pick_le (by omega) | exact pick_le (pick_le (by omega))); k_whole)))
local macro_rules | `(tactic| walk_at "ite") => `(tactic| (first | (((refine ite_neg ?h ?_); (case h => (simp only [beq_iff_eq, bne_iff_ne, ne_eq, decide_eq_true_eq, Bool.false_bne, Bool.true_bne, Bool.not_eq_true', decide_eq_false_iff_not, reduceCtorEq, not_false_eq_true, not_true_eq_false, Array.size_empty, List.size_toArray, List.length_nil]; first | done | omega)))) | (((refine ite_pos ?h ?_); (case h => (simp only [beq_iff_eq, bne_iff_ne, ne_eq, decide_eq_true_eq, Bool.false_bne, Bool.true_bne, Bool.not_eq_true', decide_eq_false_iff_not, reduceCtorEq, not_false_eq_true, not_true_eq_false, Array.size_empty, List.size_toArray, List.length_nil]; first | done | omega))))))
local macro_rules | `(tactic| k_put) => `(tactic| first | exact Mine.put_bio | exact Mine.put_fw)
local macro_rules | `(tactic| walk_at "subscriptTail") => `(tactic| (k_here; (with_reducible show wpAny _ _ (subscriptTail _ _ (Value.ref _) (Value.int _ _)) _ _ _); (first
  | (with_unfolding_all refine' item_at4 ?k1 ?k2 ?k3 ?k4 ?_ ?k6; (case k1 => is_list); (case k2 => first | with_reducible assumption | exact set_get (by with_reducible assumption)); (case k3 => with_reducible assumption); (case k4 => omega); (case k6 => with_unfolding_all rfl); k_whole)
  | ((with_unfolding_all refine' item_sz ?k1 ?k2 ?k3 ?k5 ?k4 ?_ ?k6; (case k1 => exact News.isTup (by k_asm) (by news_mem)); (case k2 => with_reducible assumption); (case k3 => (simp only [List.length_cons, List.length_nil]; omega)); (case k5 => (simp only [List.length_cons, List.length_nil]; omega)); (case k4 => exact szs_ok _ _ _ _ _ _); (case k6 => with_unfolding_all rfl); k_whole); intro v' hv'))))
local macro_rules | `(tactic| walk_at "setItem ref int") => `(tactic| (k_here; (refine' set_at ?k ?i ?b ?F ?N ?U ?_; (case F => k_asm); (case N => k_asm); (case U => k_upd); (case k => with_reducible assumption); (case i => with_reducible assumption); (case b => omega); k_whole); intro h' F' N'; (try dsimp only [List.nil_append, List.cons_append] at N')))
local macro_rules | `(tactic| walk_at "call ref") => `(tactic| (k_here; (with_reducible show wpAny _ _ (call (Value.ref 273) _ _) _ _ _); (refine' seek_go ?X ?T ?K ?F ?N ?o ?ne ?p0 ?p1 ?_; (case X => k_asm); (case T => k_asm); (case K => k_asm); (case F => k_asm); (case N => exact seek_led (by k_asm)); (case o => exact $(Lean.mkIdent `hO2) _ _ _ _ _ _); (case ne => exact $(Lean.mkIdent `hN2)); (case p0 => omega); (case p1 => omega); k_whole); intro h' tk' t4 t5 news' F' N' hm hr; replace N' := seek_led (news_two hm hr N'); clear hm hr; (try simp only [List.cons_append, List.nil_append] at N')))
local macro_rules | `(tactic| walk_at "call builtin:next") => `(tactic| (k_here; (with_reducible show wpAny _ _ (call (Value.builtin "next") [Value.ref _, _]) _ _ _); (refine' next_zero ?X ?T ?K ?F ?N ?o ?ne ?z ?p ?a0 ?a1 ?a2 ?_; (case X => k_asm); (case T => k_asm); (case K => k_asm); (case F => k_asm); (case N => k_asm); (case o => exact $(Lean.mkIdent `hO5) _ _ _); (case ne => exact $(Lean.mkIdent `hN5)); (case z => with_reducible assumption); (case p => omega); (case a0 => first | with_reducible assumption | omega); (case a1 => first | with_reducible assumption | omega); (case a2 => first | with_reducible assumption | omega); k_whole); (intro h' tk' t4 news' F' N' hm hr; replace N' := news_two hm hr N'; clear hm hr; (try simp only [List.cons_append, List.nil_append] at N'))))
local macro_rules | `(tactic| walk_at "subscriptTail") => `(tactic| (k_here; (with_reducible show wpAny _ _ (subscriptTail _ (Expr.Slice _ _ none _) (Value.bytes _ _) (Value.ref _)) _ _ _); (with_reducible rename Fr _ _ _ _ => F'); (with_reducible rename News _ _ _ _ => N'); (refine slice_by (s := ⟨_, _, _, _, _⟩) F' N' (by constructor) (by constructor) (by first | omega | exact pick_le (by omega)) ?_); intro _ _ _ F' N'))
local macro_rules | `(tactic| walk_at "call type:type") => `(tactic| (k_here; (with_reducible show wpAny _ _ (call (Value.type "type") [Value.bytes _ _]) _ _ _); (with_unfolding_all refine' call_type_of (Tx := "bytes") ?k1 ?k2 ?_; (case k1 => exact rfl); (case k2 => decide); k_whole)))
local macro_rules | `(tactic| walk_at "compareOp Eq bytes bytes") => `(tactic| (k_here; (refine eq_by (by with_reducible assumption) ?_)))
local macro_rules | `(tactic| walk_at "compareOp NotEq bytes bytes") => `(tactic| (k_here; (refine ne_by (by with_reducible assumption) ?_)))
theorem turn_zero {w : World} {s : Shared} {mg mb : Str → Option Value} {mean : ExcName → Option Value} {loose : List Str} {base : Heap} {L fa x dx b t1 t2 n tp H dH u1 u2 u3 C nH S HA ns nh tx td tq k : Nat} {cd v : Value} {u : Str → Option Value} {arr : Array UInt8} {p : Nat} {xv : Int} {vs hs : List Value} {oS : Obj} {rest : List (Addr × Obj)} {Q : Flow → Shared → Prop} {E : Value → Shared → Prop} {z : Int} {tz : Nat}
    (X' : (Mine.hd.heap_39 w.params).In base) (T' : Top Mine.hd.view_39 loose mean mg mb base) (K' : Below callerA base [] base)
    (F' : Fr base L s.heap (fun y => if y = Str.ofString "x" then some (.int xv tx) else mT arr td S HA p tq u y))
    (N' : News base L s.heap ((H, instObj 53 dH) :: (dH, dictOf [entF4 w u1 (.ref x), entB4 w u2 (.int z tz), entC4 w u3 (.ref C)] nH) :: (x, instObj 365 dx) :: (dx, bioDict w b t1 t2 (.int p tp) n) :: (b, baObj arr) :: (S, W.listOf vs.toArray ns) :: (HA, W.listOf hs.toArray nh) :: (L + 1 + 1, oS) :: rest)) (hoff : OwnOff rest [H, dH, x, dx, b, S, HA, L + 1 + 1]) (hne : NeAll [H, dH, x, dx, b, S, HA, L + 1 + 1])
    (dS : oS.data = .cell (some (.ref x))) (hk5 : Int.fmod xv 5 = (k : Nat)) (hvk : vs.toArray[k]? = some (.int z tz)) (hhk : hs.toArray[k]? = some (.ref H)) (hkv : k < vs.length) (hvl : vs.length = 5)
    (hz : arr.size ≤ 100) (hp : p ≤ 900) (hkd : Int.fmod (Int.fdiv xv 5) 4 ≠ 3) (hkd2 : Int.fmod (Int.fdiv xv 5) 4 ≠ 2) (hlt : p < arr.size) (hz0 : z = 0) (hsz : (KBy.picked arr (some (p : Int)) (some (p + z))).size = 0) (he : ((KBy.picked (KBy.picked arr (some (p : Int)) none) none (some z)).toList == (#[] : Array UInt8).toList) = true) (hl : ((KBy.picked (KBy.picked arr (some (p : Int)) none) none (some z)).size : Int) = 0)
    (hQ : ∀ h' tk' m' (t4 t5 : Nat) news', Fr base L h' m' → Names4 arr td S HA (p + ((KBy.picked (KBy.picked arr (some (p : Int)) none) none (some z)).size : Nat)) t5 m' → News base L h' news' → (∀ q ∈ ([(H, instObj 53 dH), (dH, dictOf [entF4 w u1 (.ref x), entB4 w u2 (.int z tz), entC4 w u3 (.ref C)] nH), (x, instObj 365 dx), (dx, bioDict w b t1 t2 (.int (p + z) t4) n), (b, baObj arr), (S, W.listOf vs.toArray ns), (HA, W.listOf hs.toArray nh), (L + 1 + 1, oS)] : List (Addr × Obj)), q ∈ news') → (∀ q ∈ rest, q ∈ news') → Q .next ⟨h', s.gens, s.drawn, tk', s.os⟩) :
    wpAny (model PySem.Challenge.rw_dn0266_04.row.prog w) (callerA.deeper (lawEnv4 L fa cd)) (execs (forBody4 for4) (lawEnv4 L fa cd)) Q E s := by
  have hO5 := off5 hoff hne
  have hO2 := off2 hoff hne
  have hN5 := ne5 hne
  have hN2 := ne2 hne
  simp only [NeAll, NeTo, and_true] at hne
  obtain ⟨⟨n0_1, n0_2, n0_3, n0_4, n0_5, n0_6, n0_7⟩, ⟨n1_2, n1_3, n1_4, n1_5, n1_6, n1_7⟩, ⟨n2_3, n2_4, n2_5, n2_6, n2_7⟩, ⟨n3_4, n3_5, n3_6, n3_7⟩, ⟨n4_5, n4_6, n4_7⟩, ⟨n5_6, n5_7⟩, n6_7⟩ := hne
  obtain ⟨hh, gs, dr, tk, os⟩ := s
  dsimp only at F' N'
  revert X'; k_fill; intro X'
  with_unfolding_all show wpAny _ _ (execs (_ :: _) _) _ _ _
  k_steps
  all_goals (refine' hQ _ _ _ _ _ _ ?F ?nm ?N ?m ?r; (case F => assumption); (case nm => (refine ⟨rfl, rfl, rfl, ?_⟩; with_unfolding_all exact rfl)); (case N => assumption); (case m => with_unfolding_all k_allIn); (case r => (intro p hp; k_ownIn)))
end
end Mine
namespace Mine
open PySem PySem.W PySem.Calls PyProof.Rows
set_option maxRecDepth 100000
set_option maxHeartbeats 1000000
section
local macro_rules | `(tactic| walk_at "none 0") => `(tactic| fail)
local macro_rules | `(tactic| walk_at "none 1") => `(tactic| fail)
local macro_rules | `(tactic| walk_at "none 2") => `(tactic| fail)
local macro_rules | `(tactic| walk_at "none 3") => `(tactic| fail)
local macro_rules | `(tactic| k_lt $h) => `(tactic| (have kept := $h; replace $h := allLt_of $h; simp only [AllLt, and_true] at $h:ident))
local macro_rules | `(tactic| k_ne) => `(tactic| (refine neN ?_; (try dsimp only); first | exact NeF.l (by with_reducible assumption) | exact NeF.r (by with_reducible assumption) | omega))
local macro_rules | `(tactic| walk_at "call builtin:len") => `(tactic| (k_here; (with_reducible show wpAny _ _ (call (Value.builtin "len") [Value.bytes _ _]) _ _ _); (refine len_bytes ?k1 ?_; (case k1 => first | omega | exact pick_le (by omega) | exact pick_le (pick_le (by omega))); k_whole)))
local macro_rules | `(tactic| walk_at "ite") => `(tactic| (first | (((refine ite_neg ?h ?_); (case h => (simp only [beq_iff_eq, bne_iff_ne, ne_eq, decide_eq_true_eq, Bool.false_bne, Bool.true_bne, Bool.not_eq_true', decide_eq_false_iff_not, reduceCtorEq, not_false_eq_true, not_true_eq_false, Array.size_empty, List.size_toArray, List.length_nil]; first | done | omega)))) | (((refine ite_pos ?h ?_); (case h => (simp only [beq_iff_eq, bne_iff_ne, ne_eq, decide_eq_true_eq, Bool.false_bne, Bool.true_bne, Bool.not_eq_true', decide_eq_false_iff_not, reduceCtorEq, not_false_eq_true, not_true_eq_false, Array.size_empty, List.size_toArray, List.length_nil]; first | done | omega))))))
local macro_rules | `(tactic| k_put) => `(tactic| first | exact Mine.put_bio | exact Mine.put_fw)
local macro_rules | `(tactic| walk_at "subscriptTail") => `(tactic| (k_here; (with_reducible show wpAny _ _ (subscriptTail _ _ (Value.ref _) (Value.int _ _)) _ _ _); (first
  | (with_unfolding_all refine' item_at4 ?k1 ?k2 ?k3 ?k4 ?_ ?k6; (case k1 => is_list); (case k2 => first | with_reducible assumption | exact set_get (by with_reducible assumption)); (case k3 => with_reducible assumption); (case k4 => omega); (case k6 => with_unfolding_all rfl); k_whole)
  | ((with_unfolding_all refine' item_sz ?k1 ?k2 ?k3 ?k5 ?k4 ?_ ?k6; (case k1 => exact News.isTup (by k_asm) (by news_mem)); (case k2 => with_reducible assumption); (case k3 => (simp only [List.length_cons, List.length_nil]; omega)); (case k5 => (simp only [List.length_cons, List.length_nil]; omega)); (case k4 => exact szs_ok _ _ _ _ _ _); (case k6 => with_unfolding_all rfl); k_whole); intro v' hv'))))
local macro_rules | `(tactic| walk_at "setItem ref int") => `(tactic| (k_here; (refine' set_at ?k ?i ?b ?F ?N ?U ?_; (case F => k_asm); (case N => k_asm); (case U => k_upd); (case k => with_reducible assumption); (case i => with_reducible assumption); (case b => omega); k_whole); intro h' F' N'; (try dsimp only [List.nil_append, List.cons_append] at N')))
local macro_rules | `(tactic| walk_at "call ref") => `(tactic| (k_here; (with_reducible show wpAny _ _ (call (Value.ref 273) _ _) _ _ _); (refine' seek_go ?X ?T ?K ?F ?N ?o ?ne ?p0 ?p1 ?_; (case X => k_asm); (case T => k_asm); (case K => k_asm); (case F => k_asm); (case N => exact seek_led (by k_asm)); (case o => exact $(Lean.mkIdent `hO2) _ _ _ _ _ _); (case ne => exact $(Lean.mkIdent `hN2)); (case p0 => omega); (case p1 => omega); k_whole); intro h' tk' t4 t5 news' F' N' hm hr; replace N' := seek_led (news_two hm hr N'); clear hm hr; (try simp only [List.cons_append, List.nil_append] at N')))
local macro_rules | `(tactic| walk_at "call builtin:next") => `(tactic| (k_here; (with_reducible show wpAny _ _ (call (Value.builtin "next") [Value.ref _, _]) _ _ _); (refine' next_neg ?X ?T ?K ?F ?N ?o ?ne ?z ?p ?a0 ?a1 ?a2 ?a3 ?_; (case X => k_asm); (case T => k_asm); (case K => k_asm); (case F => k_asm); (case N => k_asm); (case o => exact $(Lean.mkIdent `hO5) _ _ _); (case ne => exact $(Lean.mkIdent `hN5)); (case z => with_reducible assumption); (case p => omega); (case a0 => first | with_reducible assumption | omega); (case a1 => first | with_reducible assumption | omega); (case a2 => first | with_reducible assumption | omega); (case a3 => first | with_reducible assumption | omega); k_whole); (intro h' tk' t4 t5 news' F' N' hm hr; replace N' := news_two hm hr N'; clear hm hr; (try simp only [List.cons_append, List.nil_append] at N'))))
local macro_rules | `(tactic| walk_at "subscriptTail") => `(tactic| (k_here; (with_reducible show wpAny _ _ (subscriptTail _ (Expr.Slice _ _ none _) (Value.bytes _ _) (Value.ref _)) _ _ _); (with_reducible rename Fr _ _ _ _ => F'); (with_reducible rename News _ _ _ _ => N'); (refine slice_by (s := ⟨_, _, _, _, _⟩) F' N' (by constructor) (by constructor) (by first | omega | exact pick_le (by omega)) ?_); intro _ _ _ F' N'))
local macro_rules | `(tactic| walk_at "call type:type") => `(tactic| (k_here; (with_reducible show wpAny _ _ (call (Value.type "type") [Value.bytes _ _]) _ _ _); (with_unfolding_all refine' call_type_of (Tx := "bytes") ?k1 ?k2 ?_; (case k1 => exact rfl); (case k2 => decide); k_whole)))
local macro_rules | `(tactic| walk_at "compareOp Eq bytes bytes") => `(tactic| (k_here; (refine eq_by (by with_reducible assumption) ?_)))
local macro_rules | `(tactic| walk_at "compareOp NotEq bytes bytes") => `(tactic| (k_here; (refine ne_by (by with_reducible assumption) ?_)))
theorem turn_neg {w : World} {s : Shared} {mg mb : Str → Option Value} {mean : ExcName → Option Value} {loose : List Str} {base : Heap} {L fa x dx b t1 t2 n tp H dH u1 u2 u3 C nH S HA ns nh tx td tq k : Nat} {cd v : Value} {u : Str → Option Value} {arr : Array UInt8} {p : Nat} {xv : Int} {vs hs : List Value} {oS : Obj} {rest : List (Addr × Obj)} {Q : Flow → Shared → Prop} {E : Value → Shared → Prop} {z : Int} {tz : Nat}
    (X' : (Mine.hd.heap_39 w.params).In base) (T' : Top Mine.hd.view_39 loose mean mg mb base) (K' : Below callerA base [] base)
    (F' : Fr base L s.heap (fun y => if y = Str.ofString "x" then some (.int xv tx) else mT arr td S HA p tq u y))
    (N' : News base L s.heap ((H, instObj 53 dH) :: (dH, dictOf [entF4 w u1 (.ref x), entB4 w u2 (.int z tz), entC4 w u3 (.ref C)] nH) :: (x, instObj 365 dx) :: (dx, bioDict w b t1 t2 (.int p tp) n) :: (b, baObj arr) :: (S, W.listOf vs.toArray ns) :: (HA, W.listOf hs.toArray nh) :: (L + 1 + 1, oS) :: rest)) (hoff : OwnOff rest [H, dH, x, dx, b, S, HA, L + 1 + 1]) (hne : NeAll [H, dH, x, dx, b, S, HA, L + 1 + 1])
    (dS : oS.data = .cell (some (.ref x))) (hk5 : Int.fmod xv 5 = (k : Nat)) (hvk : vs.toArray[k]? = some (.int z tz)) (hhk : hs.toArray[k]? = some (.ref H)) (hkv : k < vs.length) (hvl : vs.length = 5)
    (hz : arr.size ≤ 100) (hp : p ≤ 900) (hkd : Int.fmod (Int.fdiv xv 5) 4 ≠ 3) (hkd2 : Int.fmod (Int.fdiv xv 5) 4 ≠ 2) (hlt : p < arr.size) (hz0 : z < 0) (hz1 : -1000 ≤ z) (he : ((KBy.picked arr (some (p : Int)) none).toList == (#[] : Array UInt8).toList) = false) (hn : ((KBy.picked arr (some (p : Int)) (some (arr.size : Int))).toList != (KBy.picked arr (some (p : Int)) none).toList) = false) (hsz : 0 < (KBy.picked arr (some (p : Int)) (some (arr.size : Int))).size) (hl : ((KBy.picked arr (some (p : Int)) none).size : Int) = arr.size - p)
    (hQ : ∀ h' tk' m' (t4 t5 : Nat) news', Fr base L h' m' → Names4 arr td S HA (p + ((KBy.picked arr (some (p : Int)) none).size : Nat)) t5 m' → News base L h' news' → (∀ q ∈ ([(H, instObj 53 dH), (dH, dictOf [entF4 w u1 (.ref x), entB4 w u2 (.int z tz), entC4 w u3 (.ref C)] nH), (x, instObj 365 dx), (dx, bioDict w b t1 t2 (.int arr.size t4) n), (b, baObj arr), (S, W.listOf vs.toArray ns), (HA, W.listOf hs.toArray nh), (L + 1 + 1, oS)] : List (Addr × Obj)), q ∈ news') → (∀ q ∈ rest, q ∈ news') → Q .next ⟨h', s.gens, s.drawn, tk', s.os⟩) :
    wpAny (model PySem.Challenge.rw_dn0266_04.row.prog w) (callerA.deeper (lawEnv4 L fa cd)) (execs (forBody4 for4) (lawEnv4 L fa cd)) Q E s := by
  have hO5 := off5 hoff hne
  have hO2 := off2 hoff hne
  have hN5 := ne5 hne
  have hN2 := ne2 hne
  simp only [NeAll, NeTo, and_true] at hne
  obtain ⟨⟨n0_1, n0_2, n0_3, n0_4, n0_5, n0_6, n0_7⟩, ⟨n1_2, n1_3, n1_4, n1_5, n1_6, n1_7⟩, ⟨n2_3, n2_4, n2_5, n2_6, n2_7⟩, ⟨n3_4, n3_5, n3_6, n3_7⟩, ⟨n4_5, n4_6, n4_7⟩, ⟨n5_6, n5_7⟩, n6_7⟩ := hne
  obtain ⟨hh, gs, dr, tk, os⟩ := s
  dsimp only at F' N'
  revert X'; k_fill; intro X'
  with_unfolding_all show wpAny _ _ (execs (_ :: _) _) _ _ _
  k_steps
  all_goals (refine' hQ _ _ _ _ _ _ ?F ?nm ?N ?m ?r; (case F => assumption); (case nm => (refine ⟨rfl, rfl, rfl, ?_⟩; with_unfolding_all exact rfl)); (case N => assumption); (case m => with_unfolding_all k_allIn); (case r => (intro p hp; k_ownIn)))
end
section
local macro_rules | `(tactic| walk_at "none 0") => `(tactic| fail)
local macro_rules | `(tactic| walk_at "none 1") => `(tactic| fail)
local macro_rules | `(tactic| walk_at "none 2") => `(tactic| fail)
local macro_rules | `(tactic| walk_at "none 3") => `(tactic| fail)
local macro_rules | `(tactic| walk_at "none 4") => `(tactic| fail)
local macro_rules | `(tactic| k_lt $h) => `(tactic| (have kept := $h; replace $h := allLt_of $h; simp only [AllLt, and_true] at $h:ident))
local macro_rules | `(tactic| k_ne) => `(tactic| (refine neN ?_; (try dsimp only); first | exact NeF.l (by with_reducible assumption) | exact NeF.r (by with_reducible assumption) | omega))
local macro_rules | `(tactic| walk_at "call builtin:len") => `(tactic| (k_here; (with_reducible show wpAny _ _ (call (Value.builtin "len") [Value.bytes _ _]) _ _ _); (refine len_bytes ?k1 ?_; (case k1 => first | omega | exact pick_le (by omega) | exact pick_le (pick_le (by omega))); k_whole)))
local macro_rules | `(tactic| walk_at "ite") => `(tactic| (first | (((refine ite_neg ?h ?_); (case h => (simp only [beq_iff_eq, bne_iff_ne, ne_eq, decide_eq_true_eq, Bool.false_bne, Bool.true_bne, Bool.not_eq_true', decide_eq_false_iff_not, reduceCtorEq, not_false_eq_true, not_true_eq_false, Array.size_empty, List.size_toArray, List.length_nil]; first | done | omega)))) | (((refine ite_pos ?h ?_); (case h => (simp only [beq_iff_eq, bne_iff_ne, ne_eq, decide_eq_true_eq, Bool.false_bne, Bool.true_bne, Bool.not_eq_true', decide_eq_false_iff_not, reduceCtorEq, not_false_eq_true, not_true_eq_false, Array.size_empty, List.size_toArray, List.length_nil]; first | done | omega))))))
local macro_rules | `(tactic| k_put) => `(tactic| first | exact Mine.put_bio | exact Mine.put_fw)
local macro_rules | `(tactic| walk_at "subscriptTail") => `(tactic| (k_here; (with_reducible show wpAny _ _ (subscriptTail _ _ (Value.ref _) (Value.int _ _)) _ _ _); (first
  | (with_unfolding_all refine' item_at4 ?k1 ?k2 ?k3 ?k4 ?_ ?k6; (case k1 => is_list); (case k2 => first | with_reducible assumption | exact set_get (by with_reducible assumption)); (case k3 => with_reducible assumption); (case k4 => omega); (case k6 => with_unfolding_all rfl); k_whole)
  | ((with_unfolding_all refine' item_sz ?k1 ?k2 ?k3 ?k5 ?k4 ?_ ?k6; (case k1 => exact News.isTup (by k_asm) (by news_mem)); (case k2 => with_reducible assumption); (case k3 => (simp only [List.length_cons, List.length_nil]; omega)); (case k5 => (simp only [List.length_cons, List.length_nil]; omega)); (case k4 => exact szs_ok _ _ _ _ _ _); (case k6 => with_unfolding_all rfl); k_whole); intro v' hv'))))
local macro_rules | `(tactic| walk_at "setItem ref int") => `(tactic| (k_here; (refine' set_at ?k ?i ?b ?F ?N ?U ?_; (case F => k_asm); (case N => k_asm); (case U => k_upd); (case k => with_reducible assumption); (case i => with_reducible assumption); (case b => omega); k_whole); intro h' F' N'; (try dsimp only [List.nil_append, List.cons_append] at N')))
local macro_rules | `(tactic| walk_at "call ref") => `(tactic| (k_here; (with_reducible show wpAny _ _ (call (Value.ref 273) _ _) _ _ _); (refine' seek_go ?X ?T ?K ?F ?N ?o ?ne ?p0 ?p1 ?_; (case X => k_asm); (case T => k_asm); (case K => k_asm); (case F => k_asm); (case N => exact seek_led (by k_asm)); (case o => exact $(Lean.mkIdent `hO2) _ _ _ _ _ _); (case ne => exact $(Lean.mkIdent `hN2)); (case p0 => omega); (case p1 => omega); k_whole); intro h' tk' t4 t5 news' F' N' hm hr; replace N' := seek_led (news_two hm hr N'); clear hm hr; (try simp only [List.cons_append, List.nil_append] at N')))
local macro_rules | `(tactic| walk_at "call builtin:next") => `(tactic| (k_here; (with_reducible show wpAny _ _ (call (Value.builtin "next") [Value.ref _, _]) _ _ _); (refine' next_big ?X ?T ?K ?F ?N ?o ?ne ?z ?p ?a0 ?a1 ?a2 ?a3 ?a4 ?_; (case X => k_asm); (case T => k_asm); (case K => k_asm); (case F => k_asm); (case N => k_asm); (case o => exact $(Lean.mkIdent `hO5) _ _ _); (case ne => exact $(Lean.mkIdent `hN5)); (case z => with_reducible assumption); (case p => omega); (case a0 => first | with_reducible assumption | omega); (case a1 => first | with_reducible assumption | omega); (case a2 => first | with_reducible assumption | omega); (case a3 => first | with_reducible assumption | omega); (case a4 => first | with_reducible assumption | omega); k_whole); (intro h' tk' t4 t5 news' F' N' hm hr; replace N' := news_two hm hr N'; clear hm hr; (try simp only [List.cons_append, List.nil_append] at N'))))
local macro_rules | `(tactic| walk_at "subscriptTail") => `(tactic| (k_here; (with_reducible show wpAny _ _ (subscriptTail _ (Expr.Slice _ _ none _) (Value.bytes _ _) (Value.ref _)) _ _ _); (with_reducible rename Fr _ _ _ _ => F'); (with_reducible rename News _ _ _ _ => N'); (refine slice_by (s := ⟨_, _, _, _, _⟩) F' N' (by constructor) (by constructor) (by first | omega | exact pick_le (by omega)) ?_); intro _ _ _ F' N'))
local macro_rules | `(tactic| walk_at "call type:type") => `(tactic| (k_here; (with_reducible show wpAny _ _ (call (Value.type "type") [Value.bytes _ _]) _ _ _); (with_unfolding_all refine' call_type_of (Tx := "bytes") ?k1 ?k2 ?_; (case k1 => exact rfl); (case k2 => decide); k_whole)))
local macro_rules | `(tactic| walk_at "compareOp Eq bytes bytes") => `(tactic| (k_here; (refine eq_by (by with_reducible assumption) ?_)))
local macro_rules | `(tactic| walk_at "compareOp NotEq bytes bytes") => `(tactic| (k_here; (refine ne_by (by with_reducible assumption) ?_)))
theorem turn_big {w : World} {s : Shared} {mg mb : Str → Option Value} {mean : ExcName → Option Value} {loose : List Str} {base : Heap} {L fa x dx b t1 t2 n tp H dH u1 u2 u3 C nH S HA ns nh tx td tq k : Nat} {cd v : Value} {u : Str → Option Value} {arr : Array UInt8} {p : Nat} {xv : Int} {vs hs : List Value} {oS : Obj} {rest : List (Addr × Obj)} {Q : Flow → Shared → Prop} {E : Value → Shared → Prop} {z : Int} {tz : Nat}
    (X' : (Mine.hd.heap_39 w.params).In base) (T' : Top Mine.hd.view_39 loose mean mg mb base) (K' : Below callerA base [] base)
    (F' : Fr base L s.heap (fun y => if y = Str.ofString "x" then some (.int xv tx) else mT arr td S HA p tq u y))
    (N' : News base L s.heap ((H, instObj 53 dH) :: (dH, dictOf [entF4 w u1 (.ref x), entB4 w u2 (.int z tz), entC4 w u3 (.ref C)] nH) :: (x, instObj 365 dx) :: (dx, bioDict w b t1 t2 (.int p tp) n) :: (b, baObj arr) :: (S, W.listOf vs.toArray ns) :: (HA, W.listOf hs.toArray nh) :: (L + 1 + 1, oS) :: rest)) (hoff : OwnOff rest [H, dH, x, dx, b, S, HA, L + 1 + 1]) (hne : NeAll [H, dH, x, dx, b, S, HA, L + 1 + 1])
    (dS : oS.data = .cell (some (.ref x))) (hk5 : Int.fmod xv 5 = (k : Nat)) (hvk : vs.toArray[k]? = some (.int z tz)) (hhk : hs.toArray[k]? = some (.ref H)) (hkv : k < vs.length) (hvl : vs.length = 5)
    (hz : arr.size ≤ 100) (hp : p ≤ 900) (hkd : Int.fmod (Int.fdiv xv 5) 4 ≠ 3) (hkd2 : Int.fmod (Int.fdiv xv 5) 4 ≠ 2) (hlt : p < arr.size) (hz0 : 0 ≤ z) (hz1 : arr.size ≤ p + z) (hz2 : z ≤ 1000) (he : ((KBy.picked (KBy.picked arr (some (p : Int)) none) none (some z)).toList == (#[] : Array UInt8).toList) = false) (hn : ((KBy.picked arr (some (p : Int)) (some (arr.size : Int))).toList != (KBy.picked (KBy.picked arr (some (p : Int)) none) none (some z)).toList) = false) (hsz : 0 < (KBy.picked arr (some (p : Int)) (some (arr.size : Int))).size) (hl : ((KBy.picked (KBy.picked arr (some (p : Int)) none) none (some z)).size : Int) = arr.size - p)
    (hQ : ∀ h' tk' m' (t4 t5 : Nat) news', Fr base L h' m' → Names4 arr td S HA (p + ((KBy.picked (KBy.picked arr (some (p : Int)) none) none (some z)).size : Nat)) t5 m' → News base L h' news' → (∀ q ∈ ([(H, instObj 53 dH), (dH, dictOf [entF4 w u1 (.ref x), entB4 w u2 (.int z tz), entC4 w u3 (.ref C)] nH), (x, instObj 365 dx), (dx, bioDict w b t1 t2 (.int arr.size t4) n), (b, baObj arr), (S, W.listOf vs.toArray ns), (HA, W.listOf hs.toArray nh), (L + 1 + 1, oS)] : List (Addr × Obj)), q ∈ news') → (∀ q ∈ rest, q ∈ news') → Q .next ⟨h', s.gens, s.drawn, tk', s.os⟩) :
    wpAny (model PySem.Challenge.rw_dn0266_04.row.prog w) (callerA.deeper (lawEnv4 L fa cd)) (execs (forBody4 for4) (lawEnv4 L fa cd)) Q E s := by
  have hO5 := off5 hoff hne
  have hO2 := off2 hoff hne
  have hN5 := ne5 hne
  have hN2 := ne2 hne
  simp only [NeAll, NeTo, and_true] at hne
  obtain ⟨⟨n0_1, n0_2, n0_3, n0_4, n0_5, n0_6, n0_7⟩, ⟨n1_2, n1_3, n1_4, n1_5, n1_6, n1_7⟩, ⟨n2_3, n2_4, n2_5, n2_6, n2_7⟩, ⟨n3_4, n3_5, n3_6, n3_7⟩, ⟨n4_5, n4_6, n4_7⟩, ⟨n5_6, n5_7⟩, n6_7⟩ := hne
  obtain ⟨hh, gs, dr, tk, os⟩ := s
  dsimp only at F' N'
  revert X'; k_fill; intro X'
  with_unfolding_all show wpAny _ _ (execs (_ :: _) _) _ _ _
  k_steps
  all_goals (refine' hQ _ _ _ _ _ _ ?F ?nm ?N ?m ?r; (case F => assumption); (case nm => (refine ⟨rfl, rfl, rfl, ?_⟩; with_unfolding_all exact rfl)); (case N => assumption); (case m => with_unfolding_all k_allIn); (case r => (intro p hp; k_ownIn)))
end
end Mine
namespace Mine
open PySem PySem.W PySem.Calls PyProof.Rows
set_option maxRecDepth 100000
set_option maxHeartbeats 1000000
section
local macro_rules | `(tactic| walk_at "none 0") => `(tactic| fail)
local macro_rules | `(tactic| walk_at "none 1") => `(tactic| fail)
local macro_rules | `(tactic| walk_at "none 2") => `(tactic| fail)
local macro_rules | `(tactic| walk_at "none 3") => `(tactic| fail)
local macro_rules | `(tactic| walk_at "none 4") => `(tactic| fail)
local macro_rules | `(tactic| walk_at "none 5") => `(tactic| fail)
local macro_rules | `(tactic| k_lt $h) => `(tactic| (have kept := $h; replace $h := allLt_of $h; simp only [AllLt, and_true] at $h:ident))
local macro_rules | `(tactic| k_ne) => `(tactic| (refine neN ?_; (try dsimp only); first | exact NeF.l (by with_reducible assumption) | exact NeF.r (by with_reducible assumption) | omega))
local macro_rules | `(tactic| walk_at "call builtin:len") => `(tactic| (k_here; (with_reducible show wpAny _ _ (call (Value.builtin "len") [Value.bytes _ _]) _ _ _); (refine len_bytes ?k1 ?_; (case k1 => first | omega | exact pick_le (by omega) | exact pick_le (pick_le (by omega))); k_whole)))
local macro_rules | `(tactic| walk_at "ite") => `(tactic| (first | (((refine ite_neg ?h ?_); (case h => (simp only [beq_iff_eq, bne_iff_ne, ne_eq, decide_eq_true_eq, Bool.false_bne, Bool.true_bne, Bool.not_eq_true', decide_eq_false_iff_not, reduceCtorEq, not_false_eq_true, not_true_eq_false, Array.size_empty, List.size_toArray, List.length_nil]; first | done | omega)))) | (((refine ite_pos ?h ?_); (case h => (simp only [beq_iff_eq, bne_iff_ne, ne_eq, decide_eq_true_eq, Bool.false_bne, Bool.true_bne, Bool.not_eq_true', decide_eq_false_iff_not, reduceCtorEq, not_false_eq_true, not_true_eq_false, Array.size_empty, List.size_toArray, List.length_nil]; first | done | omega))))))
local macro_rules | `(tactic| k_put) => `(tactic| first | exact Mine.put_bio | exact Mine.put_fw)
local macro_rules | `(tactic| walk_at "subscriptTail") => `(tactic| (k_here; (with_reducible show wpAny _ _ (subscriptTail _ _ (Value.ref _) (Value.int _ _)) _ _ _); (first
  | (with_unfolding_all refine' item_at4 ?k1 ?k2 ?k3 ?k4 ?_ ?k6; (case k1 => is_list); (case k2 => first | with_reducible assumption | exact set_get (by with_reducible assumption)); (case k3 => with_reducible assumption); (case k4 => omega); (case k6 => with_unfolding_all rfl); k_whole)
  | ((with_unfolding_all refine' item_sz ?k1 ?k2 ?k3 ?k5 ?k4 ?_ ?k6; (case k1 => exact News.isTup (by k_asm) (by news_mem)); (case k2 => with_reducible assumption); (case k3 => (simp only [List.length_cons, List.length_nil]; omega)); (case k5 => (simp only [List.length_cons, List.length_nil]; omega)); (case k4 => exact szs_ok _ _ _ _ _ _); (case k6 => with_unfolding_all rfl); k_whole); intro v' hv'))))
local macro_rules | `(tactic| walk_at "setItem ref int") => `(tactic| (k_here; (refine' set_at ?k ?i ?b ?F ?N ?U ?_; (case F => k_asm); (case N => k_asm); (case U => k_upd); (case k => with_reducible assumption); (case i => with_reducible assumption); (case b => omega); k_whole); intro h' F' N'; (try dsimp only [List.nil_append, List.cons_append] at N')))
local macro_rules | `(tactic| walk_at "call ref") => `(tactic| (k_here; (with_reducible show wpAny _ _ (call (Value.ref 273) _ _) _ _ _); (refine' seek_go ?X ?T ?K ?F ?N ?o ?ne ?p0 ?p1 ?_; (case X => k_asm); (case T => k_asm); (case K => k_asm); (case F => k_asm); (case N => exact seek_led (by k_asm)); (case o => exact $(Lean.mkIdent `hO2) _ _ _ _ _ _); (case ne => exact $(Lean.mkIdent `hN2)); (case p0 => omega); (case p1 => omega); k_whole); intro h' tk' t4 t5 news' F' N' hm hr; replace N' := seek_led (news_two hm hr N'); clear hm hr; (try simp only [List.cons_append, List.nil_append] at N')))
local macro_rules | `(tactic| walk_at "call builtin:next") => `(tactic| (k_here; (with_reducible show wpAny _ _ (call (Value.builtin "next") [Value.ref _, _]) _ _ _); (refine' next_end ?X ?T ?K ?F ?N ?o ?ne ?z ?p ?a0 ?a1 ?a2 ?_; (case X => k_asm); (case T => k_asm); (case K => k_asm); (case F => k_asm); (case N => k_asm); (case o => exact $(Lean.mkIdent `hO5) _ _ _); (case ne => exact $(Lean.mkIdent `hN5)); (case z => with_reducible assumption); (case p => omega); (case a0 => first | with_reducible assumption | omega); (case a1 => first | with_reducible assumption | omega); (case a2 => first | with_reducible assumption | omega); k_whole); (intro h' tk' t4 news' F' N' hm hr; replace N' := news_two hm hr N'; clear hm hr; (try simp only [List.cons_append, List.nil_append] at N'))))
local macro_rules | `(tactic| walk_at "subscriptTail") => `(tactic| (k_here; (with_reducible show wpAny _ _ (subscriptTail _ (Expr.Slice _ _ none _) (Value.bytes _ _) (Value.ref _)) _ _ _); (with_reducible rename Fr _ _ _ _ => F'); (with_reducible rename News _ _ _ _ => N'); (refine slice_by (s := ⟨_, _, _, _, _⟩) F' N' (by constructor) (by constructor) (by first | omega | exact pick_le (by omega)) ?_); intro _ _ _ F' N'))
local macro_rules | `(tactic| walk_at "call type:type") => `(tactic| (k_here; (with_reducible show wpAny _ _ (call (Value.type "type") [Value.bytes _ _]) _ _ _); (with_unfolding_all refine' call_type_of (Tx := "bytes") ?k1 ?k2 ?_; (case k1 => exact rfl); (case k2 => decide); k_whole)))
local macro_rules | `(tactic| walk_at "compareOp Eq bytes bytes") => `(tactic| (k_here; (refine eq_by (by with_reducible assumption) ?_)))
local macro_rules | `(tactic| walk_at "compareOp NotEq bytes bytes") => `(tactic| (k_here; (refine ne_by (by with_reducible assumption) ?_)))
theorem turn_endneg {w : World} {s : Shared} {mg mb : Str → Option Value} {mean : ExcName → Option Value} {loose : List Str} {base : Heap} {L fa x dx b t1 t2 n tp H dH u1 u2 u3 C nH S HA ns nh tx td tq k : Nat} {cd v : Value} {u : Str → Option Value} {arr : Array UInt8} {p : Nat} {xv : Int} {vs hs : List Value} {oS : Obj} {rest : List (Addr × Obj)} {Q : Flow → Shared → Prop} {E : Value → Shared → Prop} {z : Int} {tz : Nat}
    (X' : (Mine.hd.heap_39 w.params).In base) (T' : Top Mine.hd.view_39 loose mean mg mb base) (K' : Below callerA base [] base)
    (F' : Fr base L s.heap (fun y => if y = Str.ofString "x" then some (.int xv tx) else mT arr td S HA p tq u y))
    (N' : News base L s.heap ((H, instObj 53 dH) :: (dH, dictOf [entF4 w u1 (.ref x), entB4 w u2 (.int z tz), entC4 w u3 (.ref C)] nH) :: (x, instObj 365 dx) :: (dx, bioDict w b t1 t2 (.int p tp) n) :: (b, baObj arr) :: (S, W.listOf vs.toArray ns) :: (HA, W.listOf hs.toArray nh) :: (L + 1 + 1, oS) :: rest)) (hoff : OwnOff rest [H, dH, x, dx, b, S, HA, L + 1 + 1]) (hne : NeAll [H, dH, x, dx, b, S, HA, L + 1 + 1])
    (dS : oS.data = .cell (some (.ref x))) (hk5 : Int.fmod xv 5 = (k : Nat)) (hvk : vs.toArray[k]? = some (.int z tz)) (hhk : hs.toArray[k]? = some (.ref H)) (hkv : k < vs.length) (hvl : vs.length = 5)
    (hz : arr.size ≤ 100) (hp : p ≤ 900) (hkd : Int.fmod (Int.fdiv xv 5) 4 ≠ 3) (hkd2 : Int.fmod (Int.fdiv xv 5) 4 ≠ 2) (hge : arr.size ≤ p) (hz0 : z < 0) (hz1 : -1000 ≤ z) (hz2 : z ≤ 1000) (he : ((KBy.picked arr (some (p : Int)) none).toList == (#[] : Array UInt8).toList) = true) (hl : ((KBy.picked arr (some (p : Int)) none).size : Int) = 0)
    (hQ : ∀ h' tk' m' (t4 t5 : Nat) news', Fr base L h' m' → Names4 arr td S HA (p + ((KBy.picked arr (some (p : Int)) none).size : Nat)) t5 m' → News base L h' news' → (∀ q ∈ ([(H, instObj 53 dH), (dH, dictOf [entF4 w u1 (.ref x), entB4 w u2 (.int z tz), entC4 w u3 (.ref C)] nH), (x, instObj 365 dx), (dx, bioDict w b t1 t2 (.int p t4) n), (b, baObj arr), (S, W.listOf vs.toArray ns), (HA, W.listOf hs.toArray nh), (L + 1 + 1, oS)] : List (Addr × Obj)), q ∈ news') → (∀ q ∈ rest, q ∈ news') → Q .next ⟨h', s.gens, s.drawn, tk', s.os⟩) :
    wpAny (model PySem.Challenge.rw_dn0266_04.row.prog w) (callerA.deeper (lawEnv4 L fa cd)) (execs (forBody4 for4) (lawEnv4 L fa cd)) Q E s := by
  have hO5 := off5 hoff hne
  have hO2 := off2 hoff hne
  have hN5 := ne5 hne
  have hN2 := ne2 hne
  simp only [NeAll, NeTo, and_true] at hne
  obtain ⟨⟨n0_1, n0_2, n0_3, n0_4, n0_5, n0_6, n0_7⟩, ⟨n1_2, n1_3, n1_4, n1_5, n1_6, n1_7⟩, ⟨n2_3, n2_4, n2_5, n2_6, n2_7⟩, ⟨n3_4, n3_5, n3_6, n3_7⟩, ⟨n4_5, n4_6, n4_7⟩, ⟨n5_6, n5_7⟩, n6_7⟩ := hne
  obtain ⟨hh, gs, dr, tk, os⟩ := s
  dsimp only at F' N'
  revert X'; k_fill; intro X'
  with_unfolding_all show wpAny _ _ (execs (_ :: _) _) _ _ _
  k_steps
  all_goals (refine' hQ _ _ _ _ _ _ ?F ?nm ?N ?m ?r; (case F => assumption); (case nm => (refine ⟨rfl, rfl, rfl, ?_⟩; with_unfolding_all exact rfl)); (case N => assumption); (case m => with_unfolding_all k_allIn); (case r => (intro p hp; k_ownIn)))
end
section
local macro_rules | `(tactic| walk_at "none 0") => `(tactic| fail)
local macro_rules | `(tactic| walk_at "none 1") => `(tactic| fail)
local macro_rules | `(tactic| walk_at "none 2") => `(tactic| fail)
local macro_rules | `(tactic| walk_at "none 3") => `(tactic| fail)
local macro_rules | `(tactic| walk_at "none 4") => `(tactic| fail)
local macro_rules | `(tactic| walk_at "none 5") => `(tactic| fail)
local macro_rules | `(tactic| walk_at "none 6") => `(tactic| fail)
local macro_rules | `(tactic| k_lt $h) => `(tactic| (have kept := $h; replace $h := allLt_of $h; simp only [AllLt, and_true] at $h:ident))
local macro_rules | `(tactic| k_ne) => `(tactic| (refine neN ?_; (try dsimp only); first | exact NeF.l (by with_reducible assumption) | exact NeF.r (by with_reducible assumption) | omega))
local macro_rules | `(tactic| walk_at "call builtin:len") => `(tactic| (k_here; (with_reducible show wpAny _ _ (call (Value.builtin "len") [Value.bytes _ _]) _ _ _); (refine len_bytes ?k1 ?_; (case k1 => first | omega | exact pick_le (by omega) | exact pick_le (pick_le (by omega))); k_whole)))
local macro_rules | `(tactic| walk_at "ite") => `(tactic| (first | (((refine ite_neg ?h ?_); (case h => (simp only [beq_iff_eq, bne_iff_ne, ne_eq, decide_eq_true_eq, Bool.false_bne, Bool.true_bne, Bool.not_eq_true', decide_eq_false_iff_not, reduceCtorEq, not_false_eq_true, not_true_eq_false, Array.size_empty, List.size_toArray, List.length_nil]; first | done | omega)))) | (((refine ite_pos ?h ?_); (case h => (simp only [beq_iff_eq, bne_iff_ne, ne_eq, decide_eq_true_eq, Bool.false_bne, Bool.true_bne, Bool.not_eq_true', decide_eq_false_iff_not, reduceCtorEq, not_false_eq_true, not_true_eq_false, Array.size_empty, List.size_toArray, List.length_nil]; first | done | omega))))))
local macro_rules | `(tactic| k_put) => `(tactic| first | exact Mine.put_bio | exact Mine.put_fw)
local macro_rules | `(tactic| walk_at "subscriptTail") => `(tactic| (k_here; (with_reducible show wpAny _ _ (subscriptTail _ _ (Value.ref _) (Value.int _ _)) _ _ _); (first
  | (with_unfolding_all refine' item_at4 ?k1 ?k2 ?k3 ?k4 ?_ ?k6; (case k1 => is_list); (case k2 => first | with_reducible assumption | exact set_get (by with_reducible assumption)); (case k3 => with_reducible assumption); (case k4 => omega); (case k6 => with_unfolding_all rfl); k_whole)
  | ((with_unfolding_all refine' item_sz ?k1 ?k2 ?k3 ?k5 ?k4 ?_ ?k6; (case k1 => exact News.isTup (by k_asm) (by news_mem)); (case k2 => with_reducible assumption); (case k3 => (simp only [List.length_cons, List.length_nil]; omega)); (case k5 => (simp only [List.length_cons, List.length_nil]; omega)); (case k4 => exact szs_ok _ _ _ _ _ _); (case k6 => with_unfolding_all rfl); k_whole); intro v' hv'))))
local macro_rules | `(tactic| walk_at "setItem ref int") => `(tactic| (k_here; (refine' set_at ?k ?i ?b ?F ?N ?U ?_; (case F => k_asm); (case N => k_asm); (case U => k_upd); (case k => with_reducible assumption); (case i => with_reducible assumption); (case b => omega); k_whole); intro h' F' N'; (try dsimp only [List.nil_append, List.cons_append] at N')))
local macro_rules | `(tactic| walk_at "call ref") => `(tactic| (k_here; (with_reducible show wpAny _ _ (call (Value.ref 273) _ _) _ _ _); (refine' seek_go ?X ?T ?K ?F ?N ?o ?ne ?p0 ?p1 ?_; (case X => k_asm); (case T => k_asm); (case K => k_asm); (case F => k_asm); (case N => exact seek_led (by k_asm)); (case o => exact $(Lean.mkIdent `hO2) _ _ _ _ _ _); (case ne => exact $(Lean.mkIdent `hN2)); (case p0 => omega); (case p1 => omega); k_whole); intro h' tk' t4 t5 news' F' N' hm hr; replace N' := seek_led (news_two hm hr N'); clear hm hr; (try simp only [List.cons_append, List.nil_append] at N')))
local macro_rules | `(tactic| walk_at "call builtin:next") => `(tactic| (k_here; (with_reducible show wpAny _ _ (call (Value.builtin "next") [Value.ref _, _]) _ _ _); (refine' next_end ?X ?T ?K ?F ?N ?o ?ne ?z ?p ?a0 ?a1 ?a2 ?_; (case X => k_asm); (case T => k_asm); (case K => k_asm); (case F => k_asm); (case N => k_asm); (case o => exact $(Lean.mkIdent `hO5) _ _ _); (case ne => exact $(Lean.mkIdent `hN5)); (case z => with_reducible assumption); (case p => omega); (case a0 => first | with_reducible assumption | omega); (case a1 => first | with_reducible assumption | omega); (case a2 => first | with_reducible assumption | omega); k_whole); (intro h' tk' t4 news' F' N' hm hr; replace N' := news_two hm hr N'; clear hm hr; (try simp only [List.cons_append, List.nil_append] at N'))))
local macro_rules | `(tactic| walk_at "subscriptTail") => `(tactic| (k_here; (with_reducible show wpAny _ _ (subscriptTail _ (Expr.Slice _ _ none _) (Value.bytes _ _) (Value.ref _)) _ _ _); (with_reducible rename Fr _ _ _ _ => F'); (with_reducible rename News _ _ _ _ => N'); (refine slice_by (s := ⟨_, _, _, _, _⟩) F' N' (by constructor) (by constructor) (by first | omega | exact pick_le (by omega)) ?_); intro _ _ _ F' N'))
local macro_rules | `(tactic| walk_at "call type:type") => `(tactic| (k_here; (with_reducible show wpAny _ _ (call (Value.type "type") [Value.bytes _ _]) _ _ _); (with_unfolding_all refine' call_type_of (Tx := "bytes") ?k1 ?k2 ?_; (case k1 => exact rfl); (case k2 => decide); k_whole)))
local macro_rules | `(tactic| walk_at "compareOp Eq bytes bytes") => `(tactic| (k_here; (refine eq_by (by with_reducible assumption) ?_)))
local macro_rules | `(tactic| walk_at "compareOp NotEq bytes bytes") => `(tactic| (k_here; (refine ne_by (by with_reducible assumption) ?_)))
theorem turn_endpos {w : World} {s : Shared} {mg mb : Str → Option Value} {mean : ExcName → Option Value} {loose : List Str} {base : Heap} {L fa x dx b t1 t2 n tp H dH u1 u2 u3 C nH S HA ns nh tx td tq k : Nat} {cd v : Value} {u : Str → Option Value} {arr : Array UInt8} {p : Nat} {xv : Int} {vs hs : List Value} {oS : Obj} {rest : List (Addr × Obj)} {Q : Flow → Shared → Prop} {E : Value → Shared → Prop} {z : Int} {tz : Nat}
    (X' : (Mine.hd.heap_39 w.params).In base) (T' : Top Mine.hd.view_39 loose mean mg mb base) (K' : Below callerA base [] base)
    (F' : Fr base L s.heap (fun y => if y = Str.ofString "x" then some (.int xv tx) else mT arr td S HA p tq u y))
    (N' : News base L s.heap ((H, instObj 53 dH) :: (dH, dictOf [entF4 w u1 (.ref x), entB4 w u2 (.int z tz), entC4 w u3 (.ref C)] nH) :: (x, instObj 365 dx) :: (dx, bioDict w b t1 t2 (.int p tp) n) :: (b, baObj arr) :: (S, W.listOf vs.toArray ns) :: (HA, W.listOf hs.toArray nh) :: (L + 1 + 1, oS) :: rest)) (hoff : OwnOff rest [H, dH, x, dx, b, S, HA, L + 1 + 1]) (hne : NeAll [H, dH, x, dx, b, S, HA, L + 1 + 1])
    (dS : oS.data = .cell (some (.ref x))) (hk5 : Int.fmod xv 5 = (k : Nat)) (hvk : vs.toArray[k]? = some (.int z tz)) (hhk : hs.toArray[k]? = some (.ref H)) (hkv : k < vs.length) (hvl : vs.length = 5)
    (hz : arr.size ≤ 100) (hp : p ≤ 900) (hkd : Int.fmod (Int.fdiv xv 5) 4 ≠ 3) (hkd2 : Int.fmod (Int.fdiv xv 5) 4 ≠ 2) (hge : arr.size ≤ p) (hz0 : 0 ≤ z) (hz1 : -1000 ≤ z) (hz2 : z ≤ 1000) (he : ((KBy.picked (KBy.picked arr (some (p : Int)) none) none (some z)).toList == (#[] : Array UInt8).toList) = true) (hl : ((KBy.picked (KBy.picked arr (some (p : Int)) none) none (some z)).size : Int) = 0)
    (hQ : ∀ h' tk' m' (t4 t5 : Nat) news', Fr base L h' m' → Names4 arr td S HA (p + ((KBy.picked (KBy.picked arr (some (p : Int)) none) none (some z)).size : Nat)) t5 m' → News base L h' news' → (∀ q ∈ ([(H, instObj 53 dH), (dH, dictOf [entF4 w u1 (.ref x), entB4 w u2 (.int z tz), entC4 w u3 (.ref C)] nH), (x, instObj 365 dx), (dx, bioDict w b t1 t2 (.int p t4) n), (b, baObj arr), (S, W.listOf vs.toArray ns), (HA, W.listOf hs.toArray nh), (L + 1 + 1, oS)] : List (Addr × Obj)), q ∈ news') → (∀ q ∈ rest, q ∈ news') → Q .next ⟨h', s.gens, s.drawn, tk', s.os⟩) :
    wpAny (model PySem.Challenge.rw_dn0266_04.row.prog w) (callerA.deeper (lawEnv4 L fa cd)) (execs (forBody4 for4) (lawEnv4 L fa cd)) Q E s := by
  have hO5 := off5 hoff hne
  have hO2 := off2 hoff hne
  have hN5 := ne5 hne
  have hN2 := ne2 hne
  simp only [NeAll, NeTo, and_true] at hne
  obtain ⟨⟨n0_1, n0_2, n0_3, n0_4, n0_5, n0_6, n0_7⟩, ⟨n1_2, n1_3, n1_4, n1_5, n1_6, n1_7⟩, ⟨n2_3, n2_4, n2_5, n2_6, n2_7⟩, ⟨n3_4, n3_5, n3_6, n3_7⟩, ⟨n4_5, n4_6, n4_7⟩, ⟨n5_6, n5_7⟩, n6_7⟩ := hne
  obtain ⟨hh, gs, dr, tk, os⟩ := s
  dsimp only at F' N'
  revert X'; k_fill; intro X'
  with_unfolding_all show wpAny _ _ (execs (_ :: _) _) _ _ _
  k_steps
  all_goals (refine' hQ _ _ _ _ _ _ ?F ?nm ?N ?m ?r; (case F => assumption); (case nm => (refine ⟨rfl, rfl, rfl, ?_⟩; with_unfolding_all exact rfl)); (case N => assumption); (case m => with_unfolding_all k_allIn); (case r => (intro p hp; k_ownIn)))
end
end Mine
namespace Mine
open PySem PySem.W PySem.Calls PyProof.Rows
set_option maxRecDepth 100000
set_option maxHeartbeats 1000000
section
local macro_rules | `(tactic| walk_at "none 0") => `(tactic| fail)
local macro_rules | `(tactic| walk_at "none 1") => `(tactic| fail)
local macro_rules | `(tactic| walk_at "none 2") => `(tactic| fail)
local macro_rules | `(tactic| walk_at "none 3") => `(tactic| fail)
local macro_rules | `(tactic| walk_at "none 4") => `(tactic| fail)
local macro_rules | `(tactic| walk_at "none 5") => `(tactic| fail)
local macro_rules | `(tactic| walk_at "none 6") => `(tactic| fail)
local macro_rules | `(tactic| walk_at "none 7") => `(tactic| fail)
local macro_rules | `(tactic| k_lt $h) => `(tactic| (have kept := $h; replace $h := allLt_of $h; simp only [AllLt, and_true] at $h:ident))
local macro_rules | `(tactic| k_ne) => `(tactic| (refine neN ?_; (try dsimp only); first | exact NeF.l (by with_reducible assumption) | exact NeF.r (by with_reducible assumption) | omega))
local macro_rules | `(tactic| walk_at "call builtin:len") => `(tactic| (k_here; (with_reducible show wpAny _ _ (call (Value.builtin "len") [Value.bytes _ _]) _ _ _); (refine len_bytes ?k1 ?_; (case k1 => first | omega | exact pick_le (by omega) | exact pick_le (pick_le (by omega))); k_whole)))
local macro_rules | `(tactic| walk_at "ite") => `(tactic| (first | (((refine ite_neg ?h ?_); (case h => (simp only [beq_iff_eq, bne_iff_ne, ne_eq, decide_eq_true_eq, Bool.false_bne, Bool.true_bne, Bool.not_eq_true', decide_eq_false_iff_not, reduceCtorEq, not_false_eq_true, not_true_eq_false, Array.size_empty, List.size_toArray, List.length_nil]; first | done | omega)))) | (((refine ite_pos ?h ?_); (case h => (simp only [beq_iff_eq, bne_iff_ne, ne_eq, decide_eq_true_eq, Bool.false_bne, Bool.true_bne, Bool.not_eq_true', decide_eq_false_iff_not, reduceCtorEq, not_false_eq_true, not_true_eq_false, Array.size_empty, List.size_toArray, List.length_nil]; first | done | omega))))))
local macro_rules | `(tactic| k_put) => `(tactic| first | exact Mine.put_bio | exact Mine.put_fw)
local macro_rules | `(tactic| walk_at "subscriptTail") => `(tactic| (k_here; (with_reducible show wpAny _ _ (subscriptTail _ _ (Value.ref _) (Value.int _ _)) _ _ _); (first
  | (with_unfolding_all refine' item_at4 ?k1 ?k2 ?k3 ?k4 ?_ ?k6; (case k1 => is_list); (case k2 => first | with_reducible assumption | exact set_get (by with_reducible assumption)); (case k3 => with_reducible assumption); (case k4 => omega); (case k6 => with_unfolding_all rfl); k_whole)
  | ((with_unfolding_all refine' item_sz ?k1 ?k2 ?k3 ?k5 ?k4 ?_ ?k6; (case k1 => exact News.isTup (by k_asm) (by news_mem)); (case k2 => with_reducible assumption); (case k3 => (simp only [List.length_cons, List.length_nil]; omega)); (case k5 => (simp only [List.length_cons, List.length_nil]; omega)); (case k4 => exact szs_ok _ _ _ _ _ _); (case k6 => with_unfolding_all rfl); k_whole); intro v' hv'))))
local macro_rules | `(tactic| walk_at "setItem ref int") => `(tactic| (k_here; (refine' set_at ?k ?i ?b ?F ?N ?U ?_; (case F => k_asm); (case N => k_asm); (case U => k_upd); (case k => with_reducible assumption); (case i => with_reducible assumption); (case b => omega); k_whole); intro h' F' N'; (try dsimp only [List.nil_append, List.cons_append] at N')))
local macro_rules | `(tactic| walk_at "call ref") => `(tactic| (k_here; (with_reducible show wpAny _ _ (call (Value.ref 273) _ _) _ _ _); (refine' seek_go ?X ?T ?K ?F ?N ?o ?ne ?p0 ?p1 ?_; (case X => k_asm); (case T => k_asm); (case K => k_asm); (case F => k_asm); (case N => exact seek_led (by k_asm)); (case o => exact $(Lean.mkIdent `hO2) _ _ _ _ _ _); (case ne => exact $(Lean.mkIdent `hN2)); (case p0 => omega); (case p1 => omega); k_whole); intro h' tk' t4 t5 news' F' N' hm hr; replace N' := seek_led (news_two hm hr N'); clear hm hr; (try simp only [List.cons_append, List.nil_append] at N')))
local macro_rules | `(tactic| walk_at "call builtin:next") => `(tactic| (k_here; (with_reducible show wpAny _ _ (call (Value.builtin "next") [Value.ref _, _]) _ _ _); (refine' next_nall ?X ?T ?K ?F ?N ?o ?ne ?z ?p ?a0 ?a1 ?_; (case X => k_asm); (case T => k_asm); (case K => k_asm); (case F => k_asm); (case N => k_asm); (case o => exact $(Lean.mkIdent `hO5) _ _ _); (case ne => exact $(Lean.mkIdent `hN5)); (case z => with_reducible assumption); (case p => omega); (case a0 => first | with_reducible assumption | omega); (case a1 => first | with_reducible assumption | omega); k_whole); (intro h' tk' t4 t5 news' F' N' hm hr; replace N' := news_two hm hr N'; clear hm hr; (try simp only [List.cons_append, List.nil_append] at N'))))
local macro_rules | `(tactic| walk_at "subscriptTail") => `(tactic| (k_here; (with_reducible show wpAny _ _ (subscriptTail _ (Expr.Slice _ _ none _) (Value.bytes _ _) (Value.ref _)) _ _ _); (with_reducible rename Fr _ _ _ _ => F'); (with_reducible rename News _ _ _ _ => N'); (refine slice_by (s := ⟨_, _, _, _, _⟩) F' N' (by constructor) (by constructor) (by first | omega | exact pick_le (by omega)) ?_); intro _ _ _ F' N'))
local macro_rules | `(tactic| walk_at "call type:type") => `(tactic| (k_here; (with_reducible show wpAny _ _ (call (Value.type "type") [Value.bytes _ _]) _ _ _); (with_unfolding_all refine' call_type_of (Tx := "bytes") ?k1 ?k2 ?_; (case k1 => exact rfl); (case k2 => decide); k_whole)))
local macro_rules | `(tactic| walk_at "compareOp Eq bytes bytes") => `(tactic| (k_here; (refine eq_by (by with_reducible assumption) ?_)))
local macro_rules | `(tactic| walk_at "compareOp NotEq bytes bytes") => `(tactic| (k_here; (refine ne_by (by with_reducible assumption) ?_)))
theorem turn_nall {w : World} {s : Shared} {mg mb : Str → Option Value} {mean : ExcName → Option Value} {loose : List Str} {base : Heap} {L fa x dx b t1 t2 n tp H dH u1 u2 u3 C nH S HA ns nh tx td tq k : Nat} {cd v : Value} {u : Str → Option Value} {arr : Array UInt8} {p : Nat} {xv : Int} {vs hs : List Value} {oS : Obj} {rest : List (Addr × Obj)} {Q : Flow → Shared → Prop} {E : Value → Shared → Prop} 
    (X' : (Mine.hd.heap_39 w.params).In base) (T' : Top Mine.hd.view_39 loose mean mg mb base) (K' : Below callerA base [] base)
    (F' : Fr base L s.heap (fun y => if y = Str.ofString "x" then some (.int xv tx) else mT arr td S HA p tq u y))
    (N' : News base L s.heap ((H, instObj 53 dH) :: (dH, dictOf [entF4 w u1 (.ref x), entB4 w u2 .none, entC4 w u3 (.ref C)] nH) :: (x, instObj 365 dx) :: (dx, bioDict w b t1 t2 (.int p tp) n) :: (b, baObj arr) :: (S, W.listOf vs.toArray ns) :: (HA, W.listOf hs.toArray nh) :: (L + 1 + 1, oS) :: rest)) (hoff : OwnOff rest [H, dH, x, dx, b, S, HA, L + 1 + 1]) (hne : NeAll [H, dH, x, dx, b, S, HA, L + 1 + 1])
    (dS : oS.data = .cell (some (.ref x))) (hk5 : Int.fmod xv 5 = (k : Nat)) (hvk : vs.toArray[k]? = some .none) (hhk : hs.toArray[k]? = some (.ref H)) (hkv : k < vs.length) (hvl : vs.length = 5)
    (hz : arr.size ≤ 100) (hp : p ≤ 900) (hkd : Int.fmod (Int.fdiv xv 5) 4 ≠ 3) (hkd2 : Int.fmod (Int.fdiv xv 5) 4 ≠ 2) (hlt : p < arr.size) (he : ((KBy.picked arr (some (p : Int)) none).toList == (#[] : Array UInt8).toList) = false) (hn : ((KBy.picked arr (some (p : Int)) (some (arr.size : Int))).toList != (KBy.picked arr (some (p : Int)) none).toList) = false) (hsz : 0 < (KBy.picked arr (some (p : Int)) (some (arr.size : Int))).size) (hl : ((KBy.picked arr (some (p : Int)) none).size : Int) = arr.size - p)
    (hQ : ∀ h' tk' m' (t4 t5 : Nat) news', Fr base L h' m' → Names4 arr td S HA (p + ((KBy.picked arr (some (p : Int)) none).size : Nat)) t5 m' → News base L h' news' → (∀ q ∈ ([(H, instObj 53 dH), (dH, dictOf [entF4 w u1 (.ref x), entB4 w u2 .none, entC4 w u3 (.ref C)] nH), (x, instObj 365 dx), (dx, bioDict w b t1 t2 (.int arr.size t4) n), (b, baObj arr), (S, W.listOf vs.toArray ns), (HA, W.listOf hs.toArray nh), (L + 1 + 1, oS)] : List (Addr × Obj)), q ∈ news') → (∀ q ∈ rest, q ∈ news') → Q .next ⟨h', s.gens, s.drawn, tk', s.os⟩) :
    wpAny (model PySem.Challenge.rw_dn0266_04.row.prog w) (callerA.deeper (lawEnv4 L fa cd)) (execs (forBody4 for4) (lawEnv4 L fa cd)) Q E s := by
  have hO5 := off5 hoff hne
  have hO2 := off2 hoff hne
  have hN5 := ne5 hne
  have hN2 := ne2 hne
  simp only [NeAll, NeTo, and_true] at hne
  obtain ⟨⟨n0_1, n0_2, n0_3, n0_4, n0_5, n0_6, n0_7⟩, ⟨n1_2, n1_3, n1_4, n1_5, n1_6, n1_7⟩, ⟨n2_3, n2_4, n2_5, n2_6, n2_7⟩, ⟨n3_4, n3_5, n3_6, n3_7⟩, ⟨n4_5, n4_6, n4_7⟩, ⟨n5_6, n5_7⟩, n6_7⟩ := hne
  obtain ⟨hh, gs, dr, tk, os⟩ := s
  dsimp only at F' N'
  revert X'; k_fill; intro X'
  with_unfolding_all show wpAny _ _ (execs (_ :: _) _) _ _ _
  k_steps
  all_goals (refine' hQ _ _ _ _ _ _ ?F ?nm ?N ?m ?r; (case F => assumption); (case nm => (refine ⟨rfl, rfl, rfl, ?_⟩; with_unfolding_all exact rfl)); (case N => assumption); (case m => with_unfolding_all k_allIn); (case r => (intro p hp; k_ownIn)))
end
section
local macro_rules | `(tactic| walk_at "none 0") => `(tactic| fail)
local macro_rules | `(tactic| walk_at "none 1") => `(tactic| fail)
local macro_rules | `(tactic| walk_at "none 2") => `(tactic| fail)
local macro_rules | `(tactic| walk_at "none 3") => `(tactic| fail)
local macro_rules | `(tactic| walk_at "none 4") => `(tactic| fail)
local macro_rules | `(tactic| walk_at "none 5") => `(tactic| fail)
local macro_rules | `(tactic| walk_at "none 6") => `(tactic| fail)
local macro_rules | `(tactic| walk_at "none 7") => `(tactic| fail)
local macro_rules | `(tactic| walk_at "none 8") => `(tactic| fail)
local macro_rules | `(tactic| k_lt $h) => `(tactic| (have kept := $h; replace $h := allLt_of $h; simp only [AllLt, and_true] at $h:ident))
local macro_rules | `(tactic| k_ne) => `(tactic| (refine neN ?_; (try dsimp only); first | exact NeF.l (by with_reducible assumption) | exact NeF.r (by with_reducible assumption) | omega))
local macro_rules | `(tactic| walk_at "call builtin:len") => `(tactic| (k_here; (with_reducible show wpAny _ _ (call (Value.builtin "len") [Value.bytes _ _]) _ _ _); (refine len_bytes ?k1 ?_; (case k1 => first | omega | exact pick_le (by omega) | exact pick_le (pick_le (by omega))); k_whole)))
local macro_rules | `(tactic| walk_at "ite") => `(tactic| (first | (((refine ite_neg ?h ?_); (case h => (simp only [beq_iff_eq, bne_iff_ne, ne_eq, decide_eq_true_eq, Bool.false_bne, Bool.true_bne, Bool.not_eq_true', decide_eq_false_iff_not, reduceCtorEq, not_false_eq_true, not_true_eq_false, Array.size_empty, List.size_toArray, List.length_nil]; first | done | omega)))) | (((refine ite_pos ?h ?_); (case h => (simp only [beq_iff_eq, bne_iff_ne, ne_eq, decide_eq_true_eq, Bool.false_bne, Bool.true_bne, Bool.not_eq_true', decide_eq_false_iff_not, reduceCtorEq, not_false_eq_true, not_true_eq_false, Array.size_empty, List.size_toArray, List.length_nil]; first | done | omega))))))
local macro_rules | `(tactic| k_put) => `(tactic| first | exact Mine.put_bio | exact Mine.put_fw)
local macro_rules | `(tactic| walk_at "subscriptTail") => `(tactic| (k_here; (with_reducible show wpAny _ _ (subscriptTail _ _ (Value.ref _) (Value.int _ _)) _ _ _); (first
  | (with_unfolding_all refine' item_at4 ?k1 ?k2 ?k3 ?k4 ?_ ?k6; (case k1 => is_list); (case k2 => first | with_reducible assumption | exact set_get (by with_reducible assumption)); (case k3 => with_reducible assumption); (case k4 => omega); (case k6 => with_unfolding_all rfl); k_whole)
  | ((with_unfolding_all refine' item_sz ?k1 ?k2 ?k3 ?k5 ?k4 ?_ ?k6; (case k1 => exact News.isTup (by k_asm) (by news_mem)); (case k2 => with_reducible assumption); (case k3 => (simp only [List.length_cons, List.length_nil]; omega)); (case k5 => (simp only [List.length_cons, List.length_nil]; omega)); (case k4 => exact szs_ok _ _ _ _ _ _); (case k6 => with_unfolding_all rfl); k_whole); intro v' hv'))))
local macro_rules | `(tactic| walk_at "setItem ref int") => `(tactic| (k_here; (refine' set_at ?k ?i ?b ?F ?N ?U ?_; (case F => k_asm); (case N => k_asm); (case U => k_upd); (case k => with_reducible assumption); (case i => with_reducible assumption); (case b => omega); k_whole); intro h' F' N'; (try dsimp only [List.nil_append, List.cons_append] at N')))
local macro_rules | `(tactic| walk_at "call ref") => `(tactic| (k_here; (with_reducible show wpAny _ _ (call (Value.ref 273) _ _) _ _ _); (refine' seek_go ?X ?T ?K ?F ?N ?o ?ne ?p0 ?p1 ?_; (case X => k_asm); (case T => k_asm); (case K => k_asm); (case F => k_asm); (case N => exact seek_led (by k_asm)); (case o => exact $(Lean.mkIdent `hO2) _ _ _ _ _ _); (case ne => exact $(Lean.mkIdent `hN2)); (case p0 => omega); (case p1 => omega); k_whole); intro h' tk' t4 t5 news' F' N' hm hr; replace N' := seek_led (news_two hm hr N'); clear hm hr; (try simp only [List.cons_append, List.nil_append] at N')))
local macro_rules | `(tactic| walk_at "call builtin:next") => `(tactic| (k_here; (with_reducible show wpAny _ _ (call (Value.builtin "next") [Value.ref _, _]) _ _ _); (refine' next_nend ?X ?T ?K ?F ?N ?o ?ne ?z ?p ?a0 ?_; (case X => k_asm); (case T => k_asm); (case K => k_asm); (case F => k_asm); (case N => k_asm); (case o => exact $(Lean.mkIdent `hO5) _ _ _); (case ne => exact $(Lean.mkIdent `hN5)); (case z => with_reducible assumption); (case p => omega); (case a0 => first | with_reducible assumption | omega); k_whole); (intro h' tk' t4 news' F' N' hm hr; replace N' := news_two hm hr N'; clear hm hr; (try simp only [List.cons_append, List.nil_append] at N'))))
local macro_rules | `(tactic| walk_at "subscriptTail") => `(tactic| (k_here; (with_reducible show wpAny _ _ (subscriptTail _ (Expr.Slice _ _ none _) (Value.bytes _ _) (Value.ref _)) _ _ _); (with_reducible rename Fr _ _ _ _ => F'); (with_reducible rename News _ _ _ _ => N'); (refine slice_by (s := ⟨_, _, _, _, _⟩) F' N' (by constructor) (by constructor) (by first | omega | exact pick_le (by omega)) ?_); intro _ _ _ F' N'))
local macro_rules | `(tactic| walk_at "call type:type") => `(tactic| (k_here; (with_reducible show wpAny _ _ (call (Value.type "type") [Value.bytes _ _]) _ _ _); (with_unfolding_all refine' call_type_of (Tx := "bytes") ?k1 ?k2 ?_; (case k1 => exact rfl); (case k2 => decide); k_whole)))
local macro_rules | `(tactic| walk_at "compareOp Eq bytes bytes") => `(tactic| (k_here; (refine eq_by (by with_reducible assumption) ?_)))
local macro_rules | `(tactic| walk_at "compareOp NotEq bytes bytes") => `(tactic| (k_here; (refine ne_by (by with_reducible assumption) ?_)))
theorem turn_nend {w : World} {s : Shared} {mg mb : Str → Option Value} {mean : ExcName → Option Value} {loose : List Str} {base : Heap} {L fa x dx b t1 t2 n tp H dH u1 u2 u3 C nH S HA ns nh tx td tq k : Nat} {cd v : Value} {u : Str → Option Value} {arr : Array UInt8} {p : Nat} {xv : Int} {vs hs : List Value} {oS : Obj} {rest : List (Addr × Obj)} {Q : Flow → Shared → Prop} {E : Value → Shared → Prop} 
    (X' : (Mine.hd.heap_39 w.params).In base) (T' : Top Mine.hd.view_39 loose mean mg mb base) (K' : Below callerA base [] base)
    (F' : Fr base L s.heap (fun y => if y = Str.ofString "x" then some (.int xv tx) else mT arr td S HA p tq u y))
    (N' : News base L s.heap ((H, instObj 53 dH) :: (dH, dictOf [entF4 w u1 (.ref x), entB4 w u2 .none, entC4 w u3 (.ref C)] nH) :: (x, instObj 365 dx) :: (dx, bioDict w b t1 t2 (.int p tp) n) :: (b, baObj arr) :: (S, W.listOf vs.toArray ns) :: (HA, W.listOf hs.toArray nh) :: (L + 1 + 1, oS) :: rest)) (hoff : OwnOff rest [H, dH, x, dx, b, S, HA, L + 1 + 1]) (hne : NeAll [H, dH, x, dx, b, S, HA, L + 1 + 1])
    (dS : oS.data = .cell (some (.ref x))) (hk5 : Int.fmod xv 5 = (k : Nat)) (hvk : vs.toArray[k]? = some .none) (hhk : hs.toArray[k]? = some (.ref H)) (hkv : k < vs.length) (hvl : vs.length = 5)
    (hz : arr.size ≤ 100) (hp : p ≤ 900) (hkd : Int.fmod (Int.fdiv xv 5) 4 ≠ 3) (hkd2 : Int.fmod (Int.fdiv xv 5) 4 ≠ 2) (hge : arr.size ≤ p) (he : ((KBy.picked arr (some (p : Int)) none).toList == (#[] : Array UInt8).toList) = true) (hl : ((KBy.picked arr (some (p : Int)) none).size : Int) = 0)
    (hQ : ∀ h' tk' m' (t4 t5 : Nat) news', Fr base L h' m' → Names4 arr td S HA (p + ((KBy.picked arr (some (p : Int)) none).size : Nat)) t5 m' → News base L h' news' → (∀ q ∈ ([(H, instObj 53 dH), (dH, dictOf [entF4 w u1 (.ref x), entB4 w u2 .none, entC4 w u3 (.ref C)] nH), (x, instObj 365 dx), (dx, bioDict w b t1 t2 (.int p t4) n), (b, baObj arr), (S, W.listOf vs.toArray ns), (HA, W.listOf hs.toArray nh), (L + 1 + 1, oS)] : List (Addr × Obj)), q ∈ news') → (∀ q ∈ rest, q ∈ news') → Q .next ⟨h', s.gens, s.drawn, tk', s.os⟩) :
    wpAny (model PySem.Challenge.rw_dn0266_04.row.prog w) (callerA.deeper (lawEnv4 L fa cd)) (execs (forBody4 for4) (lawEnv4 L fa cd)) Q E s := by
  have hO5 := off5 hoff hne
  have hO2 := off2 hoff hne
  have hN5 := ne5 hne
  have hN2 := ne2 hne
  simp only [NeAll, NeTo, and_true] at hne
  obtain ⟨⟨n0_1, n0_2, n0_3, n0_4, n0_5, n0_6, n0_7⟩, ⟨n1_2, n1_3, n1_4, n1_5, n1_6, n1_7⟩, ⟨n2_3, n2_4, n2_5, n2_6, n2_7⟩, ⟨n3_4, n3_5, n3_6, n3_7⟩, ⟨n4_5, n4_6, n4_7⟩, ⟨n5_6, n5_7⟩, n6_7⟩ := hne
  obtain ⟨hh, gs, dr, tk, os⟩ := s
  dsimp only at F' N'
  revert X'; k_fill; intro X'
  with_unfolding_all show wpAny _ _ (execs (_ :: _) _) _ _ _
  k_steps
  all_goals (refine' hQ _ _ _ _ _ _ ?F ?nm ?N ?m ?r; (case F => assumption); (case nm => (refine ⟨rfl, rfl, rfl, ?_⟩; with_unfolding_all exact rfl)); (case N => assumption); (case m => with_unfolding_all k_allIn); (case r => (intro p hp; k_ownIn)))
end
end Mine
namespace Mine
open PySem PySem.W PySem.Calls PyProof.Rows Builtin
set_option maxRecDepth 100000
set_option maxHeartbeats 1000000
section
variable {arr : Array UInt8} {p : Nat} {z : Int}
theorem d1_list : (KBy.picked arr (some (p : Int)) none).toList = arr.toList.drop p := by
  rw [KBc.picked_eq]
  simp only [Option.elim, clipAt_nat]
  rcases Nat.le_total p arr.size with h | h
  · rw [Nat.min_eq_left h, List.take_of_length_le (by simp)]
  · rw [Nat.min_eq_right h]
    simp only [Nat.sub_self, List.take_zero]
    rw [List.drop_eq_nil_of_le (by simpa using h)]
theorem d1_size : (KBy.picked arr (some (p : Int)) none).size = arr.size - p := by
  rw [← Array.length_toList, d1_list, List.length_drop, Array.length_toList]
theorem d2_list (hz : 0 ≤ z) : (KBy.picked (KBy.picked arr (some (p : Int)) none) none (some z)).toList = (arr.toList.drop p).take z.toNat := by
  obtain ⟨k, rfl⟩ := Int.eq_ofNat_of_zero_le hz
  rw [KBc.picked_eq, d1_list]
  simp only [Option.elim, clipAt_nat, List.drop_zero, Nat.sub_zero, Int.toNat_natCast, d1_size]
  rcases Nat.le_total k (arr.size - p) with h | h
  · rw [Nat.min_eq_left h]
  · rw [Nat.min_eq_right h, List.take_of_length_le (by simp), List.take_of_length_le (by simp; omega)]
theorem tc_list (hz : 0 ≤ z) (h : p + z < arr.size) : (KBy.picked arr (some (p : Int)) (some (p + z))).toList = (arr.toList.drop p).take z.toNat := by
  obtain ⟨k, rfl⟩ := Int.eq_ofNat_of_zero_le hz
  have e : ((p : Int) + (k : Int)) = ((p + k : Nat) : Int) := by omega
  rw [e, KBc.picked_eq]
  simp only [Option.elim, clipAt_nat, Int.toNat_natCast]
  rw [Nat.min_eq_left (show p ≤ arr.size by omega), Nat.min_eq_left (show p + k ≤ arr.size by omega), Nat.add_sub_cancel_left]
theorem ta_list (h : p < arr.size) : (KBy.picked arr (some (p : Int)) (some (arr.size : Int))).toList = arr.toList.drop p := by
  rw [KBc.picked_eq]
  simp only [Option.elim, clipAt_nat]
  rw [Nat.min_eq_left (Nat.le_of_lt h), Nat.min_self, List.take_of_length_le (by simp)]
theorem size_of {b : Array UInt8} {l : List UInt8} (h : b.toList = l) : b.size = l.length := by rw [← h, Array.length_toList]
theorem eq_empty {b : Array UInt8} (h : b.size = 0) : (b.toList == (#[] : Array UInt8).toList) = true := by
  rw [beq_iff_eq]
  exact List.eq_nil_of_length_eq_zero (by rw [Array.length_toList]; exact h)
theorem ne_empty {b : Array UInt8} (h : 0 < b.size) : (b.toList == (#[] : Array UInt8).toList) = false := by
  rw [beq_eq_false_iff_ne]
  intro e
  have h0 := congrArg List.length e
  rw [Array.length_toList] at h0
  have h1 : b.size = 0 := h0
  omega
theorem ne_same {b c : Array UInt8} (h : b.toList = c.toList) : (b.toList != c.toList) = false := by rw [h]; exact bne_self_eq_false _
end
end Mine
namespace Mine
open PySem PySem.W PySem.Calls PyProof.Rows
set_option maxRecDepth 100000
set_option maxHeartbeats 4000000
section
variable {prog : Program} {w : World} {A : Around} {E : Value → Shared → Prop} {s : Shared} {env : Env} {h₀ : Heap} {x : Str} {body : List Stmt} {Q : Flow → Shared → Prop}
theorem list_inv {l : Addr} {oL : Obj} {vs : List Value} {ns : List Int} {m₀ : Str → Option Value} {news : List (Addr × Obj)} (J : Nat → (Str → Option Value) → List (Addr × Obj) → Prop)
    (hh : A.handled = none) (hls : s.heap.IsList l vs.toArray) (hi : IntsAre vs ns) (F : Fr h₀ env.locals s.heap m₀) (N : News h₀ env.locals s.heap news) (hj : J 0 m₀ news) (hJl : ∀ i m nx, J i m nx → (l, oL) ∈ nx)
    (turn : ∀ i n t m₁ nx h tk I oI, ns[i]? = some n → J i m₁ nx → (∀ p ∈ nx, p.1 ≠ I) → Fr h₀ env.locals h (fun y => if y = x then some (.int n t) else m₁ y) → News h₀ env.locals h ((I, oI) :: nx) →
      wpAny (model prog w) A (execs body env) (LpPost h₀ env.locals (J (i + 1)) I oI { s with heap := h, toks := tk } Q) E { s with heap := h, toks := tk })
    (done : ∀ m₁ nx h tk, J ns.length m₁ nx → Fr h₀ env.locals h m₁ → News h₀ env.locals h nx → Q .next { s with heap := h, toks := tk }) :
    wpAny (model prog w) A (pyIter (.ref l)) (fun it s₂ => LoopAtV prog w A h₀ env x body Q E it s₂) E s := by
  have hlm := hJl _ _ _ hj
  have hlt : l < s.heap.objs.size := Heap.lt_size (N _ hlm).1
  have hne : l ≠ s.heap.objs.size := Nat.ne_of_lt hlt
  have hnew : h₀.get? s.heap.objs.size = none := next_is_new F
  refine wpAny_pyIter_list hls ?_
  have W := Walks.list (prog := prog) (w := w) hh s.heap.objs.size l hne vs.toArray
  have hlen : vs.toArray.size = ns.length := by simp [hi.length]
  rw [hlen] at W
  refine ⟨_, _, _, ns.length, _, _, m₀, news, J, rfl, W, ?_, ?_, ?_, ⟨⟨_, Heap.get?_push_size _ rfl, rfl, rfl⟩, hls.at fun o e => Heap.get?_push_of_some _ e⟩, F.push _, (fun p hp => ⟨Heap.get?_push_of_some _ (N p hp).1, (N p hp).2⟩), hj, ?_, ?_⟩
  · intro hm
    rcases List.mem_cons.mp hm with e | hm
    · exact absurd F.ns.lt (e ▸ Nat.lt_irrefl _)
    · exact (N _ hlm).2.1 (List.mem_singleton.mp hm).symm
  · intro b hb
    rw [List.mem_singleton.mp hb]
    exact hnew
  · intro p hp hI
    exact absurd (Heap.lt_size (N p hp).1) ((List.mem_singleton.mp hI) ▸ Nat.lt_irrefl _)
  · rintro i v m₁ nx s₁ own ⟨hh', tk', rfl⟩ hin hP hJ hoff hown _ hall hst' F₁ N₁
    obtain ⟨o, ho⟩ : ∃ o, hh'.get? s.heap.objs.size = some o := by
      obtain ⟨o, ho, _⟩ := hst'.1
      exact ⟨o, ho⟩
    have hio : (s.heap.objs.size, o) ∈ own := hall _ (.head _) hnew o ho
    have hoff' : ∀ p ∈ nx, p.1 ≠ s.heap.objs.size := fun p hp e => hoff p hp (by rw [e]; exact List.mem_singleton.mpr rfl)
    have hown2 : ∀ p ∈ own, p = (s.heap.objs.size, o) ∨ p = (l, oL) := by
      intro p hp
      have h1 := (N₁ p (List.mem_append_left _ hp)).1
      rcases List.mem_cons.mp (hown p hp) with e | e
      · left
        have h2 := (N₁ _ (List.mem_append_left _ hio)).1
        rw [e] at h1
        rw [h2] at h1
        exact Prod.ext e (Option.some.inj h1).symm
      · right
        replace e := List.mem_singleton.mp e
        have h2 := (N₁ _ (List.mem_append_right _ (hJl _ _ _ hJ))).1
        rw [e] at h1
        rw [h2] at h1
        exact Prod.ext e (Option.some.inj h1).symm
    have hlt' : i < ns.length := hin
    obtain ⟨t, hx⟩ := hi.get i ns[i] (by simp [hlt'])
    have hv : v = .int ns[i] t := by
      have hP' : vs[i]? = some v := by simpa using hP
      rw [hx] at hP'; exact (Option.some.inj hP').symm
    subst hv
    have N₂ : News h₀ env.locals hh' ((s.heap.objs.size, o) :: nx) := fun p hp => by
      rcases List.mem_cons.mp hp with rfl | hp
      · exact N₁ _ (List.mem_append_left _ hio)
      · exact N₁ _ (List.mem_append_right _ hp)
    refine wpAny_mono (turn i ns[i] t m₁ nx hh' tk' _ o (by simp [hlt']) hJ hoff' F₁ N₂) (fun f s₂ p => ?_) fun _ _ e => e
    have fin : LpEnd h₀ env.locals (J (i + 1)) s.heap.objs.size o { s with heap := hh', toks := tk' } s₂ → LoopStepU h₀ env.locals [s.heap.objs.size] own (J (i + 1)) { s with heap := hh', toks := tk' } .next s₂ := by
      rintro ⟨h', tk, m', news', nx', e, F', N', hn, hi', ha, hm⟩
      refine ⟨rfl, h', tk, m', nx', e, F', fun p hp => ?_, fun p hp hq => ha p hp (List.mem_singleton.mp hq), hm⟩
      rcases List.mem_append.mp hp with h1 | h1
      · rcases hown2 p h1 with rfl | rfl
        · exact N' _ hi'
        · exact N' _ (hn _ (hJl _ _ _ hm))
      · exact N' _ (hn p h1)
    cases f with
    | ret v => exact .ret p
    | brk => exact .brk p
    | next => exact .next (fin p)
    | cont => exact .cont (fin p)
  · rintro h' tk m' news' F' N' _ hJ
    exact done m' news' h' tk hJ F' N'
end
end Mine
namespace Mine
open PySem PySem.W PySem.Calls PyProof.Rows
set_option maxRecDepth 100000
set_option maxHeartbeats 1000000
structure Lay4 where
  x : Nat
  dx : Nat
  b : Nat
  S : Nat
  HA : Nat
  c : Nat
  LX : Nat
  t1 : Nat
  t2 : Nat
  n : Nat
  ns : Nat
  nh : Nat
  td : Nat
  H : Nat → Nat
  D : Nat → Nat
  C : Nat → Nat
  U1 : Nat → Nat
  U2 : Nat → Nat
  U3 : Nat → Nat
  NH : Nat → Nat
def hand4 (w : World) (a : Lay4) (vs : List Value) (k : Nat) : List (Addr × Obj) :=
  [(a.H k, instObj 53 (a.D k)), (a.D k, dictOf [entF4 w (a.U1 k) (.ref a.x), entB4 w (a.U2 k) (vs.getD k .none), entC4 w (a.U3 k) (.ref (a.C k))] (a.NH k))]
def hs4 (a : Lay4) : List Value := (List.range 5).map fun k => .ref (a.H k)
def fix4 (w : World) (a : Lay4) (arr : Array UInt8) (oS : Obj) (p tp : Nat) (vs : List Value) : List (Addr × Obj) :=
  [(a.x, instObj 365 a.dx), (a.dx, bioDict w a.b a.t1 a.t2 (.int p tp) a.n), (a.b, baObj arr), (a.S, W.listOf vs.toArray a.ns), (a.HA, W.listOf (hs4 a).toArray a.nh), (a.c, oS)]
def led4 (w : World) (a : Lay4) (arr : Array UInt8) (oS oX : Obj) (p tp : Nat) (vs : List Value) : List (Addr × Obj) :=
  fix4 w a arr oS p tp vs ++ (a.LX, oX) :: (List.range 5).flatMap (hand4 w a vs)
structure Apart4 (a : Lay4) : Prop where
  fx : [a.x, a.dx, a.b, a.S, a.HA, a.c, a.LX].Nodup
  hh : ∀ i j, i < 5 → j < 5 → i ≠ j → a.H i ≠ a.H j
  dd : ∀ i j, i < 5 → j < 5 → i ≠ j → a.D i ≠ a.D j
  hd : ∀ i j, i < 5 → j < 5 → a.H i ≠ a.D j
  hf : ∀ i, i < 5 → a.H i ∉ [a.x, a.dx, a.b, a.S, a.HA, a.c, a.LX]
  df : ∀ i, i < 5 → a.D i ∉ [a.x, a.dx, a.b, a.S, a.HA, a.c, a.LX]
def J4 (w : World) (a : Lay4) (arr : Array UInt8) (oS oX : Obj) (_ : Nat) (m : Str → Option Value) (nx : List (Addr × Obj)) : Prop :=
  ∃ (p tp tq : Nat) (vs : List Value), nx = led4 w a arr oS oX p tp vs ∧ Names4 arr a.td a.S a.HA p tq m ∧ p ≤ 900 ∧ vs.length = 5 ∧ ∀ v ∈ vs, SzOk v
def rest4 (w : World) (a : Lay4) (oX : Obj) (vs : List Value) (I : Nat) (oI : Obj) (k : Nat) : List (Addr × Obj) :=
  (I, oI) :: (a.LX, oX) :: ((List.range 5).filter (fun j => decide (j ≠ k))).flatMap (hand4 w a vs)
section
variable {w : World} {a : Lay4} {arr : Array UInt8} {oS oX oI : Obj} {p tp I k : Nat} {vs : List Value}
theorem mem_hand {q : Addr × Obj} {l : List Nat} : q ∈ l.flatMap (hand4 w a vs) ↔ ∃ j ∈ l, q = (a.H j, instObj 53 (a.D j)) ∨ q = (a.D j, dictOf [entF4 w (a.U1 j) (.ref a.x), entB4 w (a.U2 j) (vs.getD j .none), entC4 w (a.U3 j) (.ref (a.C j))] (a.NH j)) := by
  rw [List.mem_flatMap]
  simp only [hand4, List.mem_cons, List.not_mem_nil, or_false]
theorem mem_rest {q : Addr × Obj} : q ∈ rest4 w a oX vs I oI k ↔ q = (I, oI) ∨ q = (a.LX, oX) ∨ ∃ j, j < 5 ∧ j ≠ k ∧ (q = (a.H j, instObj 53 (a.D j)) ∨ q = (a.D j, dictOf [entF4 w (a.U1 j) (.ref a.x), entB4 w (a.U2 j) (vs.getD j .none), entC4 w (a.U3 j) (.ref (a.C j))] (a.NH j))) := by
  unfold rest4
  rw [List.mem_cons, List.mem_cons, mem_hand]
  simp only [List.mem_filter, List.mem_range, decide_eq_true_eq, and_assoc]
theorem mem_led {q : Addr × Obj} : q ∈ led4 w a arr oS oX p tp vs ↔ q ∈ fix4 w a arr oS p tp vs ∨ q = (a.LX, oX) ∨ ∃ j, j < 5 ∧ (q = (a.H j, instObj 53 (a.D j)) ∨ q = (a.D j, dictOf [entF4 w (a.U1 j) (.ref a.x), entB4 w (a.U2 j) (vs.getD j .none), entC4 w (a.U3 j) (.ref (a.C j))] (a.NH j))) := by
  unfold led4
  rw [List.mem_append, List.mem_cons, mem_hand]
  simp only [List.mem_range]
theorem rest_off (A : Apart4 a) (hk : k < 5) (hI : ∀ q ∈ led4 w a arr oS oX p tp vs, q.1 ≠ I) : OwnOff (rest4 w a oX vs I oI k) [a.H k, a.D k, a.x, a.dx, a.b, a.S, a.HA, a.c] := by
  have hfx := A.fx
  have hHk := A.hf k hk
  have hDk := A.df k hk
  simp only [List.nodup_cons, List.mem_cons, List.not_mem_nil, or_false, not_or, List.nodup_nil, and_true, not_false_eq_true] at hfx hHk hDk
  intro q hq adr ha
  simp only [List.mem_cons, List.not_mem_nil, or_false] at ha
  rcases mem_rest.mp hq with rfl | rfl | ⟨j, hj, hjk, hq⟩
  · have hi : ∀ q ∈ led4 w a arr oS oX p tp vs, I ≠ q.1 := fun q hq => Ne.symm (hI q hq)
    have h1 := fun q (h : q ∈ fix4 w a arr oS p tp vs) => hi q (mem_led.mpr (.inl h))
    have h2 := hi _ (mem_led.mpr (.inr (.inr ⟨k, hk, .inl rfl⟩)))
    have h3 := hi _ (mem_led.mpr (.inr (.inr ⟨k, hk, .inr rfl⟩)))
    simp only [fix4, List.mem_cons, List.not_mem_nil, or_false, forall_eq_or_imp, forall_eq] at h1
    obtain ⟨g1, g2, g3, g4, g5, g6⟩ := h1
    rcases ha with rfl | rfl | rfl | rfl | rfl | rfl | rfl | rfl
    · exact h2
    · exact h3
    · exact g1
    · exact g2
    · exact g3
    · exact g4
    · exact g5
    · exact g6
  · obtain ⟨⟨_, _, _, _, _, f1⟩, ⟨_, _, _, _, f2⟩, ⟨_, _, _, f3⟩, ⟨_, _, f4⟩, ⟨_, f5⟩, f6⟩ := hfx
    rcases ha with rfl | rfl | rfl | rfl | rfl | rfl | rfl | rfl
    · exact Ne.symm hHk.2.2.2.2.2.2
    · exact Ne.symm hDk.2.2.2.2.2.2
    · exact Ne.symm f1
    · exact Ne.symm f2
    · exact Ne.symm f3
    · exact Ne.symm f4
    · exact Ne.symm f5
    · exact Ne.symm f6
  · have hHj := A.hf j hj
    have hDj := A.df j hj
    simp only [List.mem_cons, List.not_mem_nil, or_false, not_or] at hHj hDj
    obtain ⟨e1, e2, e3, e4, e5, e6, e7⟩ := hHj
    obtain ⟨d1, d2, d3, d4, d5, d6, d7⟩ := hDj
    rcases hq with rfl | rfl
    · rcases ha with rfl | rfl | rfl | rfl | rfl | rfl | rfl | rfl
      · exact A.hh j k hj hk hjk
      · exact A.hd j k hj hk
      all_goals assumption
    · rcases ha with rfl | rfl | rfl | rfl | rfl | rfl | rfl | rfl
      · exact Ne.symm (A.hd k j hk hj)
      · exact A.dd j k hj hk hjk
      all_goals assumption
theorem led_ne (A : Apart4 a) (hk : k < 5) : NeAll [a.H k, a.D k, a.x, a.dx, a.b, a.S, a.HA, a.c] := by
  have hfx := A.fx
  have hHk := A.hf k hk
  have hDk := A.df k hk
  have hHD := A.hd k k hk hk
  refine neAll_of ?_
  simp only [List.nodup_cons, List.mem_cons, List.not_mem_nil, or_false, not_or, List.nodup_nil, and_true, not_false_eq_true] at hfx hHk hDk ⊢
  obtain ⟨⟨a1, a2, a3, a4, a5, f1⟩, ⟨b2, b3, b4, b5, f2⟩, ⟨c3, c4, c5, f3⟩, ⟨d4, d5, f4⟩, ⟨e5, f5⟩, f6⟩ := hfx
  obtain ⟨g1, g2, g3, g4, g5, g6, g7⟩ := hHk
  obtain ⟨h1, h2, h3, h4, h5, h6, h7⟩ := hDk
  exact ⟨⟨hHD, g1, g2, g3, g4, g5, g6⟩, ⟨h1, h2, h3, h4, h5, h6⟩, ⟨a1, a2, a3, a4, a5⟩, ⟨b2, b3, b4, b5⟩, ⟨c3, c4, c5⟩, ⟨d4, d5⟩, e5⟩
theorem led_news {h₀ h : Heap} {L : Addr} {v : Value} (hk : k < 5) (hv : vs.getD k .none = v) (N : News h₀ L h ((I, oI) :: led4 w a arr oS oX p tp vs)) :
    News h₀ L h ((a.H k, instObj 53 (a.D k)) :: (a.D k, dictOf [entF4 w (a.U1 k) (.ref a.x), entB4 w (a.U2 k) v, entC4 w (a.U3 k) (.ref (a.C k))] (a.NH k)) :: (a.x, instObj 365 a.dx) :: (a.dx, bioDict w a.b a.t1 a.t2 (.int p tp) a.n) :: (a.b, baObj arr) :: (a.S, W.listOf vs.toArray a.ns) :: (a.HA, W.listOf (hs4 a).toArray a.nh) :: (a.c, oS) :: rest4 w a oX vs I oI k) := by
  subst hv
  intro q hq
  refine N q ?_
  rw [List.mem_cons, mem_led]
  rw [List.mem_cons, List.mem_cons] at hq
  rcases hq with rfl | rfl | hq
  · exact .inr (.inr (.inr ⟨k, hk, .inl rfl⟩))
  · exact .inr (.inr (.inr ⟨k, hk, .inr rfl⟩))
  · rcases List.mem_append.mp (show q ∈ fix4 w a arr oS p tp vs ++ rest4 w a oX vs I oI k from hq) with hq | hq
    · exact .inr (.inl hq)
    · rcases mem_rest.mp hq with rfl | rfl | ⟨j, hj, _, hq⟩
      · exact .inl rfl
      · exact .inr (.inr (.inl rfl))
      · exact .inr (.inr (.inr ⟨j, hj, hq⟩))
theorem post4 {base : Heap} {L : Addr} {s : Shared} {Q : Flow → Shared → Prop} {i p' : Nat} {pos pl : Int} {vs' : List Value} {v' : Value} (hv : vs'.getD k .none = v') (hoth : ∀ j, j ≠ k → vs'.getD j .none = vs.getD j .none) (hlen : vs'.length = 5) (hok : ∀ v ∈ vs', SzOk v)
    (hpos : pos = (p' : Nat)) (hpl : pl = (p' : Nat)) (hp' : p' ≤ 900) (hI : ∀ q ∈ led4 w a arr oS oX p tp vs, q.1 ≠ I) :
    ∀ h' tk' m' (t4 t5 : Nat) news', Fr base L h' m' → Names4 arr a.td a.S a.HA pl t5 m' → News base L h' news' →
      (∀ q ∈ ([(a.H k, instObj 53 (a.D k)), (a.D k, dictOf [entF4 w (a.U1 k) (.ref a.x), entB4 w (a.U2 k) v', entC4 w (a.U3 k) (.ref (a.C k))] (a.NH k)), (a.x, instObj 365 a.dx), (a.dx, bioDict w a.b a.t1 a.t2 (.int pos t4) a.n), (a.b, baObj arr), (a.S, W.listOf vs'.toArray a.ns), (a.HA, W.listOf (hs4 a).toArray a.nh), (a.c, oS)] : List (Addr × Obj)), q ∈ news') →
      (∀ q ∈ rest4 w a oX vs I oI k, q ∈ news') → LpPost base L (J4 w a arr oS oX (i + 1)) I oI s Q .next ⟨h', s.gens, s.drawn, tk', s.os⟩ := by
  subst hpos hpl hv
  intro h' tk' m' t4 t5 news' F' nm N' hall hrest
  rw [List.forall_mem_cons, List.forall_mem_cons] at hall
  obtain ⟨q1, q2, hall⟩ := hall
  refine ⟨h', tk', m', news', led4 w a arr oS oX p' t4 vs', rfl, F', N', ?_, hrest _ (mem_rest.mpr (.inl rfl)), ?_, p', t4, t5, vs', rfl, nm, hp', hlen, hok⟩
  · intro q hq
    rcases mem_led.mp hq with hq | rfl | ⟨j, hj, hq⟩
    · exact hall q hq
    · exact hrest _ (mem_rest.mpr (.inr (.inl rfl)))
    · by_cases e : j = k
      · subst e
        rcases hq with rfl | rfl
        · exact q1
        · exact q2
      · rw [hoth j e] at hq
        exact hrest _ (mem_rest.mpr (.inr (.inr ⟨j, hj, e, hq⟩)))
  · intro q hq
    rcases mem_led.mp hq with hq | rfl | ⟨j, hj, hq⟩
    · have h1 := fun q (h : q ∈ fix4 w a arr oS p tp vs) => hI q (mem_led.mpr (.inl h))
      simp only [fix4, List.mem_cons, List.not_mem_nil, or_false, forall_eq_or_imp, forall_eq] at h1 hq
      obtain ⟨g1, g2, g3, g4, g5, g6⟩ := h1
      rcases hq with rfl | rfl | rfl | rfl | rfl | rfl <;> assumption
    · exact hI _ (mem_led.mpr (.inr (.inl rfl)))
    · rcases hq with rfl | rfl
      · exact hI _ (mem_led.mpr (.inr (.inr ⟨j, hj, .inl rfl⟩)))
      · exact (hI _ (mem_led.mpr (.inr (.inr ⟨j, hj, .inr rfl⟩))) : a.D j ≠ I)
end
end Mine
namespace Mine
open PySem PySem.W PySem.Calls PyProof.Rows
set_option maxRecDepth 100000
set_option maxHeartbeats 1000000
theorem getD_set_self {vs : List Value} {k : Nat} {v : Value} (h : k < vs.length) : (vs.set k v).getD k .none = v := by simp [List.getD, h]
theorem getD_set_other {vs : List Value} {k j : Nat} {v : Value} (h : j ≠ k) : (vs.set k v).getD j .none = vs.getD j .none := by
  simp only [List.getD]
  rw [List.getElem?_set_ne (Ne.symm h)]
theorem hs4_get {a : Lay4} {k : Nat} (hk : k < 5) : (hs4 a).toArray[k]? = some (.ref (a.H k)) := by
  simp [hs4, hk]
theorem turn_all {w : World} {s : Shared} {mg mb : Str → Option Value} {mean : ExcName → Option Value} {loose : List Str} {base : Heap} {L fa tx tq I i p tp : Nat} {cd : Value} {m₁ : Str → Option Value} {arr : Array UInt8} {xv : Int} {vs : List Value} {oS oX oI : Obj} {a : Lay4} {Q : Flow → Shared → Prop} {E : Value → Shared → Prop}
    (X' : (Mine.hd.heap_39 w.params).In base) (T' : Top Mine.hd.view_39 loose mean mg mb base) (K' : Below callerA base [] base) (A : Apart4 a) (hc : a.c = L + 1 + 1)
    (F' : Fr base L s.heap (fun y => if y = Str.ofString "x" then some (.int xv tx) else m₁ y)) (hm : Names4 arr a.td a.S a.HA p tq m₁)
    (N' : News base L s.heap ((I, oI) :: led4 w a arr oS oX p tp vs)) (dS : oS.data = .cell (some (.ref a.x))) (hz : arr.size ≤ 100) (hp : p ≤ 900) (hlen : vs.length = 5) (hok : ∀ v ∈ vs, SzOk v)
    (hI : ∀ q ∈ led4 w a arr oS oX p tp vs, q.1 ≠ I) :
    wpAny (model PySem.Challenge.rw_dn0266_04.row.prog w) (callerA.deeper (lawEnv4 L fa cd)) (execs (forBody4 for4) (lawEnv4 L fa cd)) (LpPost base L (J4 w a arr oS oX (i + 1)) I oI s Q) E s := by
  have k0 : 0 ≤ Int.fmod xv 5 := fmod_lo _ (by decide)
  have k1 : Int.fmod xv 5 < 5 := fmod_hi _ (by decide)
  obtain ⟨k, hk5⟩ := Int.eq_ofNat_of_zero_le k0
  have hk : k < 5 := by omega
  have hkv : k < vs.length := by omega
  rw [names4_eq hm] at F'
  have hoff := rest_off (oI := oI) A hk hI
  have hne := led_ne A hk
  have N'' := led_news hk rfl N'
  rw [hc] at hoff hne N''
  have hvk : vs.toArray[k]? = some (vs.getD k .none) := by simp [List.getD, hkv]
  have hvm : vs.getD k .none ∈ vs := by
    have : vs.getD k .none = vs[k] := by simp [List.getD, hkv]
    rw [this]; exact List.getElem_mem hkv
  have hh := hs4_get (a := a) hk
  by_cases h3 : Int.fmod (Int.fdiv xv 5) 4 = 3
  · refine turn3 X' T' K' F' N'' hoff hne dS hk5 hvk hh hkv hlen hz hp h3 (fmod_lo _ (by decide)) (fmod_hi _ (by decide)) ?_
    intro h' tk' m' t4 t5 v' news' sz F nm N hall hrest
    refine post4 (vs' := vs.set k v') (getD_set_self hkv) (fun j hj => getD_set_other hj) (by rw [List.length_set]; exact hlen) ?_ rfl rfl hp hI h' tk' m' t4 t5 news' F nm N (by rw [hc]; exact hall) hrest
    intro v hv
    rcases List.mem_or_eq_of_mem_set hv with hv | rfl
    · exact hok v hv
    · exact sz
  by_cases h2 : Int.fmod (Int.fdiv xv 5) 4 = 2
  · have q0 : 0 ≤ Int.fmod (Int.fdiv xv 20) (arr.size + 3) := fmod_lo _ (by omega)
    have q1 : Int.fmod (Int.fdiv xv 20) (arr.size + 3) < arr.size + 3 := fmod_hi _ (by omega)
    obtain ⟨p', hp'⟩ := Int.eq_ofNat_of_zero_le q0
    refine turn2 X' T' K' F' N'' hoff hne dS hk5 hvk hh hkv hlen hz hp h2 q0 (by omega) ?_
    intro h' tk' m' t4 t5 news' F nm N hall hrest
    exact post4 (vs' := vs) rfl (fun _ _ => rfl) hlen hok hp' hp' (by omega) hI h' tk' m' t4 t5 news' F nm N (by rw [hc]; exact hall) hrest
  generalize hv0 : vs.getD k .none = v at N'' hvk hvm
  have fin : ∀ {p' : Nat} {pos pl : Int}, pos = (p' : Nat) → pl = (p' : Nat) → p' ≤ 900 → ∀ h' tk' m' (t4 t5 : Nat) news', Fr base L h' m' → Names4 arr a.td a.S a.HA pl t5 m' → News base L h' news' →
      (∀ q ∈ ([(a.H k, instObj 53 (a.D k)), (a.D k, dictOf [entF4 w (a.U1 k) (.ref a.x), entB4 w (a.U2 k) v, entC4 w (a.U3 k) (.ref (a.C k))] (a.NH k)), (a.x, instObj 365 a.dx), (a.dx, bioDict w a.b a.t1 a.t2 (.int pos t4) a.n), (a.b, baObj arr), (a.S, W.listOf vs.toArray a.ns), (a.HA, W.listOf (hs4 a).toArray a.nh), (L + 1 + 1, oS)] : List (Addr × Obj)), q ∈ news') →
      (∀ q ∈ rest4 w a oX vs I oI k, q ∈ news') → LpPost base L (J4 w a arr oS oX (i + 1)) I oI s Q .next ⟨h', s.gens, s.drawn, tk', s.os⟩ := fun e1 e2 e3 h' tk' m' t4 t5 news' F nm N hall hrest =>
    post4 (vs' := vs) hv0 (fun _ _ => rfl) hlen hok e1 e2 e3 hI h' tk' m' t4 t5 news' F nm N (by rw [hc]; exact hall) hrest
  have hd1 := d1_size (arr := arr) (p := p)
  by_cases hlt : p < arr.size
  · have hta := size_of (ta_list hlt)
    rw [List.length_drop, Array.length_toList] at hta
    rcases hok v hvm with rfl | ⟨z, tz, rfl, z1, z2⟩
    · exact turn_nall (v := .none) X' T' K' F' N'' hoff hne dS hk5 hvk hh hkv hlen hz hp h3 h2 hlt (ne_empty (by omega)) (ne_same ((ta_list hlt).trans d1_list.symm)) (by omega) (by omega) (fin (p' := arr.size) rfl (by omega) (by omega))
    · by_cases hz0 : z < 0
      · exact turn_neg (v := .none) X' T' K' F' N'' hoff hne dS hk5 hvk hh hkv hlen hz hp h3 h2 hlt hz0 z1 (ne_empty (by omega)) (ne_same ((ta_list hlt).trans d1_list.symm)) (by omega) (by omega) (fin (p' := arr.size) rfl (by omega) (by omega))
      have hz0' : 0 ≤ z := by omega
      have hd2 := size_of (d2_list (arr := arr) (p := p) hz0')
      rw [List.length_take, List.length_drop, Array.length_toList] at hd2
      by_cases hb : p + z < arr.size
      · have htc := size_of (tc_list hz0' hb)
        rw [List.length_take, List.length_drop, Array.length_toList] at htc
        by_cases hz3 : z = 0
        · exact turn_zero (v := .none) X' T' K' F' N'' hoff hne dS hk5 hvk hh hkv hlen hz hp h3 h2 hlt hz3 (by omega) (eq_empty (by omega)) (by omega) (fin (p' := p) (by omega) (by omega) (by omega))
        · exact turn_cut (v := .none) X' T' K' F' N'' hoff hne dS hk5 hvk hh hkv hlen hz hp h3 h2 hlt (by omega) hb (ne_empty (by omega)) (ne_same ((tc_list hz0' hb).trans (d2_list hz0').symm)) (by omega) (by omega) (fin (p' := p + z.toNat) (by omega) (by omega) (by omega))
      · have e2 : (arr.toList.drop p).take z.toNat = arr.toList.drop p := List.take_of_length_le (by rw [List.length_drop, Array.length_toList]; omega)
        exact turn_big (v := .none) X' T' K' F' N'' hoff hne dS hk5 hvk hh hkv hlen hz hp h3 h2 hlt hz0' (by omega) z2 (ne_empty (by omega)) (ne_same ((ta_list hlt).trans (e2.symm.trans (d2_list hz0').symm))) (by omega) (by omega) (fin (p' := arr.size) rfl (by omega) (by omega))
  · have hge : arr.size ≤ p := by omega
    rcases hok v hvm with rfl | ⟨z, tz, rfl, z1, z2⟩
    · exact turn_nend (v := .none) X' T' K' F' N'' hoff hne dS hk5 hvk hh hkv hlen hz hp h3 h2 hge (eq_empty (by omega)) (by omega) (fin (p' := p) rfl (by omega) (by omega))
    · by_cases hz0 : z < 0
      · exact turn_endneg (v := .none) X' T' K' F' N'' hoff hne dS hk5 hvk hh hkv hlen hz hp h3 h2 hge hz0 z1 z2 (eq_empty (by omega)) (by omega) (fin (p' := p) rfl (by omega) (by omega))
      · have hz0' : 0 ≤ z := by omega
        have hd2 := size_of (d2_list (arr := arr) (p := p) hz0')
        rw [List.length_take, List.length_drop, Array.length_toList] at hd2
        exact turn_endpos (v := .none) X' T' K' F' N'' hoff hne dS hk5 hvk hh hkv hlen hz hp h3 h2 hge hz0' z1 z2 (eq_empty (by omega)) (by omega) (fin (p' := p) rfl (by omega) (by omega))
theorem loop4 {w : World} {s : Shared} {mg mb : Str → Option Value} {mean : ExcName → Option Value} {loose : List Str} {base : Heap} {L fa tq tp : Nat} {cd : Value} {m₀ : Str → Option Value} {arr : Array UInt8} {xs vs : List Value} {ns : List Int} {nX : Nat} {oS : Obj} {a : Lay4} {Q : Flow → Shared → Prop} {E : Value → Shared → Prop} {news : List (Addr × Obj)}
    (X' : (Mine.hd.heap_39 w.params).In base) (T' : Top Mine.hd.view_39 loose mean mg mb base) (K' : Below callerA base [] base) (A : Apart4 a) (hc : a.c = L + 1 + 1)
    (F' : Fr base L s.heap m₀) (hm : Names4 arr a.td a.S a.HA 0 tq m₀) (hI : IntsAre xs ns)
    (N' : News base L s.heap news) (hN : ∀ q ∈ led4 w a arr oS (W.listOf xs.toArray nX) 0 tp vs, q ∈ news) (dS : oS.data = .cell (some (.ref a.x))) (hz : arr.size ≤ 100) (hlen : vs.length = 5) (hok : ∀ v ∈ vs, SzOk v)
    (hQ : ∀ h' tk' m', Fr base L h' m' → Q .next ⟨h', s.gens, s.drawn, tk', s.os⟩) :
    wpAny (model PySem.Challenge.rw_dn0266_04.row.prog w) (callerA.deeper (lawEnv4 L fa cd)) (pyIter (.ref a.LX)) (fun it s₂ => LoopAtV PySem.Challenge.rw_dn0266_04.row.prog w (callerA.deeper (lawEnv4 L fa cd)) base (lawEnv4 L fa cd) (Str.ofString "x") (forBody4 for4) Q E it s₂) E s := by
  have NL : News base L s.heap (led4 w a arr oS (W.listOf xs.toArray nX) 0 tp vs) := fun q hq => N' q (hN q hq)
  have hl : (a.LX, W.listOf xs.toArray nX) ∈ led4 w a arr oS (W.listOf xs.toArray nX) 0 tp vs := mem_led.mpr (.inr (.inl rfl))
  refine list_inv (oL := W.listOf xs.toArray nX) (J4 w a arr oS (W.listOf xs.toArray nX)) rfl (News.isList NL hl) hI F' NL ⟨0, tp, tq, vs, rfl, hm, by omega, hlen, hok⟩ ?_ ?_ ?_
  · rintro i m nx ⟨p, tp', tq', vs', rfl, _⟩
    exact mem_led.mpr (.inr (.inl rfl))
  · rintro i n t m₁ nx h tk I oI _ ⟨p, tp', tq', vs', rfl, nm, hp, hl', hok'⟩ hI' F1 N1
    exact turn_all X' T' K' A hc F1 nm N1 dS hz hp hl' hok' hI'
  · intro m₁ nx h tk _ F1 _
    exact hQ h tk m₁ F1
end Mine
namespace Mine
open PySem PySem.W PySem.Calls PyProof.Rows
set_option maxRecDepth 100000
set_option maxHeartbeats 2000000
def compElt4 : Stmt → PySem.Expr | .Assign _ (.ListComp e _ _ _) _ => e | _ => default
def compScope4 : Stmt → Scope | .Assign _ (.ListComp _ _ sc _) _ => sc | _ => default
def hands4 : Stmt := (fnBody4 law4).getD 8 default
abbrev cl4 (L : Nat) : List (Str × Addr) := [(Str.ofString "stream", L + 1 + 1)]
local macro_rules | `(tactic| walk_at "none 0") => `(tactic| fail)
local macro_rules | `(tactic| walk_at "none 1") => `(tactic| fail)
local macro_rules | `(tactic| walk_at "none 2") => `(tactic| fail)
local macro_rules | `(tactic| walk_at "none 3") => `(tactic| fail)
local macro_rules | `(tactic| walk_at "none 4") => `(tactic| fail)
local macro_rules | `(tactic| walk_at "none 5") => `(tactic| fail)
local macro_rules | `(tactic| walk_at "none 6") => `(tactic| fail)
local macro_rules | `(tactic| walk_at "none 7") => `(tactic| fail)
local macro_rules | `(tactic| walk_at "none 8") => `(tactic| fail)
local macro_rules | `(tactic| walk_at "none 9") => `(tactic| fail)
local macro_rules | `(tactic| walk_at "none 10") => `(tactic| fail)
local macro_rules | `(tactic| walk_at "none 11") => `(tactic| fail)
local macro_rules | `(tactic| walk_at "none 12") => `(tactic| fail)
local macro_rules | `(tactic| walk_at "none 13") => `(tactic| fail)
local macro_rules | `(tactic| walk_at "none 14") => `(tactic| fail)
local macro_rules | `(tactic| walk_at "none 15") => `(tactic| fail)
local macro_rules | `(tactic| walk_at "none 16") => `(tactic| fail)
local macro_rules | `(tactic| walk_at "none 17") => `(tactic| fail)
local macro_rules | `(tactic| walk_at "none 18") => `(tactic| fail)
local macro_rules | `(tactic| k_lt $h) => `(tactic| (have kept := $h; replace $h := allLt_of $h; simp only [AllLt, and_true] at $h:ident))
local macro_rules | `(tactic| k_ne) => `(tactic| (refine neN ?_; (try dsimp only); first | exact NeF.l (by with_reducible assumption) | exact NeF.r (by with_reducible assumption) | omega))
local macro_rules | `(tactic| walk_at "call builtin:hasattr") => `(tactic| (k_here; (with_reducible show wpAny _ _ (call (Value.builtin _) [Value.ref _, _]) _ _ _); (refine' hasattr_fn_K ?k1 ?k2 ?k3 ?k4 ?k5 ?k6 ?k7 ?k8 ?k9 ?k10 ?k11 ?k12 ?k13 ?_; (case k1 => k_asm); (case k2 => k_asm); (case k3 => k_asm); (case k4 => k_inst); (case k5 => k_is); (case k6 => k_is); (case k7 => k_is); (case k8 => k_is); (case k9 => k_is); (case k10 => k_is); (case k11 => k_is); (case k12 => decide +kernel); (case k13 => k_get); k_whole); intro h' F' N'))
theorem hand_new {w : World} {s : Shared} {mg mb : Str → Option Value} {mean : ExcName → Option Value} {loose : List Str} {base : Heap} {L fa x dx b t1 t2 n I C D : Nat} {cd pv v : Value} {m m₂ : Str → Option Value} {oS oI oC oD : Obj} {news : List (Addr × Obj)} {Q : Value → Shared → Prop} {E : Value → Shared → Prop}
    (X' : (Mine.hd.heap_39 w.params).In base) (T' : Top Mine.hd.view_39 loose mean mg mb base) (K' : Below callerA base [] base)
    (F' : Fr base L s.heap m)
    (N' : News base L s.heap ((x, instObj 365 dx) :: (dx, bioDict w b t1 t2 pv n) :: (L + 1 + 1, oS) :: (I, oI) :: (C, oC) :: (D, oD) :: news))
    (dS : oS.data = .cell (some (.ref x))) (hC' : LCg.NsObj oC m₂) (hx' : m₂ (Str.ofString "size") = some v)
    (hQ : ∀ h' tk' (H dH q u1 u2 u3 nH : Nat) news', Fr base L h' m → News base L h' news' → (∀ p ∈ ([(H, instObj 53 dH), (dH, dictOf [entF4 w u1 (.ref x), entB4 w u2 v, entC4 w u3 (.ref q)] nH), (I, oI), (C, oC), (D, oD)] : List (Addr × Obj)), p ∈ news') → (∀ p ∈ news, p ∈ news') → (∀ p ∈ news, p.1 < dH) → I < dH → C < dH → D < dH → dH < H → Q (.ref H) ⟨h', s.gens, s.drawn, tk', s.os⟩) :
    wpAny (model PySem.Challenge.rw_dn0266_04.row.prog w) (callerA.deeper (lawEnv4 L fa cd)) (eval (compElt4 hands4) (compEnvC (compScope4 hands4) (cl4 L) C (lawEnv4 L fa cd))) Q E s := by
  obtain ⟨hh, gs, dr, tk, os⟩ := s
  dsimp only at F' N'
  revert X'; k_fill; intro X'
  with_unfolding_all show wpAny _ _ (eval (Expr.Call _ _ _ _) _) _ _ _
  k_steps
  refine' hQ _ _ _ _ _ _ _ _ _ _ ?F ?N ?m ?r ?lt ?o1 ?o2 ?o3 ?o4
  case F => assumption
  case N => assumption
  case m => with_unfolding_all k_allIn
  case r => (intro p hp; k_ownIn)
  case lt => exact fun p hp => (by assumption : ∀ q ∈ _, q.1 < _) p (by k_ownIn)
  case o1 => omega
  case o2 => omega
  case o3 => omega
  case o4 => omega
abbrev fwD (w : World) (x : Nat) (v : Value) (u1 u2 u3 q nH : Nat) : Obj := dictOf [entF4 w u1 (.ref x), entB4 w u2 v, entC4 w u3 (.ref q)] nH
theorem hands_step {w : World} {s : Shared} {mg mb : Str → Option Value} {mean : ExcName → Option Value} {loose : List Str} {base : Heap} {L fa x dx b t1 t2 n l nl k i : Nat} {cd pv v : Value} {its : Array Value} {m : Str → Option Value} {oS : Obj} {news : List (Addr × Obj)} {P : Nat → Value → Prop} {Fin : List Value → List (Addr × Obj) → Prop} {ys : List Value}
    (X' : (Mine.hd.heap_39 w.params).In base) (T' : Top Mine.hd.view_39 loose mean mg mb base) (K' : Below callerA base [] base) (hv : ∀ v', P i v' → v' = v)
    (hmem : ∀ p ∈ ([(x, instObj 365 dx), (dx, bioDict w b t1 t2 pv n), (L + 1 + 1, oS)] : List (Addr × Obj)), p ∈ news) (hl : (l, W.listOf its nl) ∈ news) (dS : oS.data = .cell (some (.ref x)))
    (next : ∀ (H dH q u1 u2 u3 nH : Nat), (∀ p ∈ news, p.1 < dH) → dH < H → LCg.CompRest PySem.Challenge.rw_dn0266_04.row.prog w (callerA.deeper (lawEnv4 L fa cd)) base L m (lawEnv4 L fa cd) (compElt4 hands4) (Str.ofString "size") (compScope4 hands4) (cl4 L) s (LCg.SrcAt base l its) P Fin k (i + 1) (ys ++ [.ref H]) ((H, instObj 53 dH) :: (dH, fwD w x v u1 u2 u3 q nH) :: news)) :
    LCg.CompRest PySem.Challenge.rw_dn0266_04.row.prog w (callerA.deeper (lawEnv4 L fa cd)) base L m (lawEnv4 L fa cd) (compElt4 hands4) (Str.ofString "size") (compScope4 hands4) (cl4 L) s (LCg.SrcAt base l its) P Fin (k + 1) i ys news := by
  refine LCg.CompRest.succ ?_
  intro v' I oI C oC D m₂ h tk E' hP hC hx F N off ne
  obtain rfl := hv v' hP
  have N2 : News base L h ((x, instObj 365 dx) :: (dx, bioDict w b t1 t2 pv n) :: (L + 1 + 1, oS) :: (I, oI) :: (C, oC) :: (D, LCg.lst ys) :: news) := fun p hp => N p (by
    rcases List.mem_append.mp (show p ∈ [(x, instObj 365 dx), (dx, bioDict w b t1 t2 pv n), (L + 1 + 1, oS)] ++ ((I, oI) :: (C, oC) :: (D, LCg.lst ys) :: news) from hp) with hp | hp
    · exact .tail _ (.tail _ (.tail _ (hmem p hp)))
    · exact hp)
  refine hand_new X' T' K' F N2 dS hC hx ?_
  intro h' tk' H dH q u1 u2 u3 nH news' F1 N1 hm hr hlt hI hCd hD hH
  refine LCg.CompEnd.intro (s₁ := { s with heap := h, toks := tk }) F1 N1 ((H, instObj 53 dH) :: (dH, fwD w x v' u1 u2 u3 q nH) :: news) ?_ ?_ ?_ (next H dH q u1 u2 u3 nH hlt hH)
  · rw [List.forall_mem_cons, List.forall_mem_cons, List.forall_mem_cons, List.forall_mem_cons] at hm
    obtain ⟨m1, m2, m3, m4, m5⟩ := hm
    rw [List.forall_mem_singleton] at m5
    intro p hp
    rcases List.mem_cons.mp hp with rfl | hp
    · exact m3
    rcases List.mem_cons.mp hp with rfl | hp
    · exact m4
    rcases List.mem_cons.mp hp with rfl | hp
    · exact m5
    rcases List.mem_cons.mp hp with rfl | hp
    · exact m1
    rcases List.mem_cons.mp hp with rfl | hp
    · exact m2
    exact hr p hp
  · exact ⟨⟨Nat.ne_of_gt (Nat.lt_trans hI hH), Nat.ne_of_gt (Nat.lt_trans hCd hH), Nat.ne_of_gt (Nat.lt_trans hD hH)⟩, ⟨Nat.ne_of_gt hI, Nat.ne_of_gt hCd, Nat.ne_of_gt hD⟩, off⟩
  · exact .inr ⟨_, .tail _ (.tail _ hl), rfl, _, rfl⟩
theorem hands_all {w : World} {s : Shared} {mg mb : Str → Option Value} {mean : ExcName → Option Value} {loose : List Str} {base : Heap} {L fa x dx b t1 t2 n l nl : Nat} {cd pv v0 v1 v2 v3 v4 : Value} {m : Str → Option Value} {oS : Obj} {news : List (Addr × Obj)} {P : Nat → Value → Prop} {Fin : List Value → List (Addr × Obj) → Prop}
    (X' : (Mine.hd.heap_39 w.params).In base) (T' : Top Mine.hd.view_39 loose mean mg mb base) (K' : Below callerA base [] base) (hP : P = fun i v => (#[v0, v1, v2, v3, v4] : Array Value)[i]? = some v)
    (hmem : ∀ p ∈ ([(x, instObj 365 dx), (dx, bioDict w b t1 t2 pv n), (L + 1 + 1, oS)] : List (Addr × Obj)), p ∈ news) (hl : (l, W.listOf #[v0, v1, v2, v3, v4] nl) ∈ news) (dS : oS.data = .cell (some (.ref x)))
    (fin : ∀ (H0 D0 q0 a0 b0 c0 n0 H1 D1 q1 a1 b1 c1 n1 H2 D2 q2 a2 b2 c2 n2 H3 D3 q3 a3 b3 c3 n3 H4 D4 q4 a4 b4 c4 n4 : Nat), (∀ p ∈ news, p.1 < D0) → D0 < H0 → H0 < D1 → D1 < H1 → H1 < D2 → D2 < H2 → H2 < D3 → D3 < H3 → H3 < D4 → D4 < H4 →
      Fin [.ref H0, .ref H1, .ref H2, .ref H3, .ref H4] ((H4, instObj 53 D4) :: (D4, fwD w x v4 a4 b4 c4 q4 n4) :: (H3, instObj 53 D3) :: (D3, fwD w x v3 a3 b3 c3 q3 n3) :: (H2, instObj 53 D2) :: (D2, fwD w x v2 a2 b2 c2 q2 n2) :: (H1, instObj 53 D1) :: (D1, fwD w x v1 a1 b1 c1 q1 n1) :: (H0, instObj 53 D0) :: (D0, fwD w x v0 a0 b0 c0 q0 n0) :: news)) :
    LCg.CompRest PySem.Challenge.rw_dn0266_04.row.prog w (callerA.deeper (lawEnv4 L fa cd)) base L m (lawEnv4 L fa cd) (compElt4 hands4) (Str.ofString "size") (compScope4 hands4) (cl4 L) s (LCg.SrcAt base l #[v0, v1, v2, v3, v4]) P Fin 5 0 [] news := by
  subst hP
  refine hands_step (v := v0) X' T' K' (fun v' h => (Option.some.inj h).symm) hmem hl dS ?_
  intro H0 D0 q0 a0 b0 c0 n0 l0 g0
  refine hands_step (v := v1) X' T' K' (fun v' h => (Option.some.inj h).symm) (fun p hp => .tail _ (.tail _ (hmem p hp))) (.tail _ (.tail _ hl)) dS ?_
  intro H1 D1 q1 a1 b1 c1 n1 l1 g1
  refine hands_step (v := v2) X' T' K' (fun v' h => (Option.some.inj h).symm) (fun p hp => .tail _ (.tail _ (.tail _ (.tail _ (hmem p hp))))) (.tail _ (.tail _ (.tail _ (.tail _ hl)))) dS ?_
  intro H2 D2 q2 a2 b2 c2 n2 l2 g2
  refine hands_step (v := v3) X' T' K' (fun v' h => (Option.some.inj h).symm) (fun p hp => .tail _ (.tail _ (.tail _ (.tail _ (.tail _ (.tail _ (hmem p hp))))))) (.tail _ (.tail _ (.tail _ (.tail _ (.tail _ (.tail _ hl)))))) dS ?_
  intro H3 D3 q3 a3 b3 c3 n3 l3 g3
  refine hands_step (v := v4) X' T' K' (fun v' h => (Option.some.inj h).symm) (fun p hp => .tail _ (.tail _ (.tail _ (.tail _ (.tail _ (.tail _ (.tail _ (.tail _ (hmem p hp))))))))) (.tail _ (.tail _ (.tail _ (.tail _ (.tail _ (.tail _ (.tail _ (.tail _ hl)))))))) dS ?_
  intro H4 D4 q4 a4 b4 c4 n4 l4 g4
  refine LCg.CompRest.zero ?_
  exact fin H0 D0 q0 a0 b0 c0 n0 H1 D1 q1 a1 b1 c1 n1 H2 D2 q2 a2 b2 c2 n2 H3 D3 q3 a3 b3 c3 n3 H4 D4 q4 a4 b4 c4 n4 l0 g0 (l1 _ (.head _)) g1 (l2 _ (.head _)) g2 (l3 _ (.head _)) g3 (l4 _ (.head _)) g4
end Mine
namespace Mine
open PySem PySem.W PySem.Calls PyProof.Rows
set_option maxRecDepth 100000
set_option maxHeartbeats 1000000
structure Apart6 (a : Lay4) : Prop where
  fx : [a.x, a.dx, a.b, a.S, a.HA, a.c].Nodup
  hh : ∀ i j, i < 5 → j < 5 → i ≠ j → a.H i ≠ a.H j
  dd : ∀ i j, i < 5 → j < 5 → i ≠ j → a.D i ≠ a.D j
  hd : ∀ i j, i < 5 → j < 5 → a.H i ≠ a.D j
  hf : ∀ i, i < 5 → a.H i ∉ [a.x, a.dx, a.b, a.S, a.HA, a.c]
  df : ∀ i, i < 5 → a.D i ∉ [a.x, a.dx, a.b, a.S, a.HA, a.c]
theorem apart_of {a : Lay4} {lx : Nat} (A : Apart6 a) (h6 : ∀ q ∈ [a.x, a.dx, a.b, a.S, a.HA, a.c], q < lx) (hH : ∀ i, i < 5 → a.H i < lx) (hD : ∀ i, i < 5 → a.D i < lx) : Apart4 { a with LX := lx } := by
  have e : ∀ {l : List Nat} {q : Nat}, q ∉ l → q ≠ lx → q ∉ l ++ [lx] := fun h1 h2 h => by
    rcases List.mem_append.mp h with h | h
    · exact h1 h
    · exact h2 (List.mem_singleton.mp h)
  refine ⟨?_, A.hh, A.dd, A.hd, fun i hi => ?_, fun i hi => ?_⟩
  · show ([a.x, a.dx, a.b, a.S, a.HA, a.c] ++ [lx]).Nodup
    rw [List.nodup_append]
    refine ⟨A.fx, by simp, fun p hp q hq => ?_⟩
    rw [List.mem_singleton.mp hq]
    exact Nat.ne_of_lt (h6 p hp)
  · exact e (A.hf i hi) (Nat.ne_of_lt (hH i hi))
  · exact e (A.df i hi) (Nat.ne_of_lt (hD i hi))
def led6 (w : World) (a : Lay4) (arr : Array UInt8) (oS : Obj) (p tp : Nat) (vs : List Value) : List (Addr × Obj) :=
  fix4 w a arr oS p tp vs ++ (List.range 5).flatMap (hand4 w a vs)
theorem loop5 {w : World} {s : Shared} {mg mb : Str → Option Value} {mean : ExcName → Option Value} {loose : List Str} {base : Heap} {L fa tq tp lx : Nat} {cd : Value} {m₀ : Str → Option Value} {arr : Array UInt8} {xs vs : List Value} {ns : List Int} {nX : Nat} {oS : Obj} {a : Lay4} {Q : Flow → Shared → Prop} {E : Value → Shared → Prop} {news rest : List (Addr × Obj)}
    (X' : (Mine.hd.heap_39 w.params).In base) (T' : Top Mine.hd.view_39 loose mean mg mb base) (K' : Below callerA base [] base) (A : Apart6 a) (hc : a.c = L + 1 + 1)
    (F' : Fr base L s.heap m₀) (hm : Names4 arr a.td a.S a.HA 0 tq m₀) (hI : IntsAre xs ns)
    (N' : News base L s.heap news) (hX : (lx, W.listOf xs.toArray nX) ∈ news) (hR : ∀ q ∈ rest, q ∈ news) (hN : ∀ q ∈ led6 w a arr oS 0 tp vs, q ∈ rest) (hlt : ∀ q ∈ rest, q.1 < lx)
    (dS : oS.data = .cell (some (.ref a.x))) (hz : arr.size ≤ 100) (hlen : vs.length = 5) (hok : ∀ v ∈ vs, SzOk v)
    (hQ : ∀ h' tk' m', Fr base L h' m' → Q .next ⟨h', s.gens, s.drawn, tk', s.os⟩) :
    wpAny (model PySem.Challenge.rw_dn0266_04.row.prog w) (callerA.deeper (lawEnv4 L fa cd)) (pyIter (.ref lx)) (fun it s₂ => LoopAtV PySem.Challenge.rw_dn0266_04.row.prog w (callerA.deeper (lawEnv4 L fa cd)) base (lawEnv4 L fa cd) (Str.ofString "x") (forBody4 for4) Q E it s₂) E s := by
  have l6 : ∀ q ∈ led6 w a arr oS 0 tp vs, q.1 < lx := fun q hq => hlt q (hN q hq)
  have lf : ∀ q ∈ fix4 w a arr oS 0 tp vs, q.1 < lx := fun q hq => l6 q (List.mem_append_left _ hq)
  have lh : ∀ q ∈ (List.range 5).flatMap (hand4 w a vs), q.1 < lx := fun q hq => l6 q (List.mem_append_right _ hq)
  have A4 : Apart4 { a with LX := lx } := by
    refine apart_of A ?_ (fun i hi => lh _ (mem_hand.mpr ⟨i, List.mem_range.mpr hi, .inl rfl⟩)) (fun i hi => lh _ (mem_hand.mpr ⟨i, List.mem_range.mpr hi, .inr rfl⟩))
    simp only [fix4, List.mem_cons, List.not_mem_nil, or_false, forall_eq_or_imp, forall_eq] at lf ⊢
    exact lf
  refine loop4 (a := { a with LX := lx }) (xs := xs) (nX := nX) (tp := tp) (vs := vs) (oS := oS) X' T' K' A4 hc F' hm hI N' ?_ dS hz hlen hok hQ
  intro q hq
  rcases List.mem_append.mp (show q ∈ fix4 w a arr oS 0 tp vs ++ ((lx, W.listOf xs.toArray nX) :: (List.range 5).flatMap (hand4 w a vs)) from hq) with hq | hq
  · exact hR q (hN q (List.mem_append_left _ hq))
  · rcases List.mem_cons.mp hq with rfl | hq
    · exact hX
    · exact hR q (hN q (List.mem_append_right _ hq))
end Mine
namespace Mine
open PySem PySem.W PySem.Calls PyProof.Rows
set_option maxRecDepth 100000
set_option maxHeartbeats 1000000
local macro_rules | `(tactic| walk_at "none 0") => `(tactic| fail)
local macro_rules | `(tactic| walk_at "none 1") => `(tactic| fail)
local macro_rules | `(tactic| walk_at "none 2") => `(tactic| fail)
local macro_rules | `(tactic| walk_at "none 3") => `(tactic| fail)
local macro_rules | `(tactic| walk_at "none 4") => `(tactic| fail)
local macro_rules | `(tactic| walk_at "none 5") => `(tactic| fail)
local macro_rules | `(tactic| walk_at "none 6") => `(tactic| fail)
local macro_rules | `(tactic| walk_at "none 7") => `(tactic| fail)
local macro_rules | `(tactic| walk_at "none 8") => `(tactic| fail)
local macro_rules | `(tactic| walk_at "none 9") => `(tactic| fail)
local macro_rules | `(tactic| walk_at "none 10") => `(tactic| fail)
local macro_rules | `(tactic| walk_at "none 11") => `(tactic| fail)
local macro_rules | `(tactic| walk_at "none 12") => `(tactic| fail)
local macro_rules | `(tactic| walk_at "none 13") => `(tactic| fail)
local macro_rules | `(tactic| walk_at "none 14") => `(tactic| fail)
local macro_rules | `(tactic| walk_at "none 15") => `(tactic| fail)
local macro_rules | `(tactic| walk_at "none 16") => `(tactic| fail)
local macro_rules | `(tactic| walk_at "none 17") => `(tactic| fail)
local macro_rules | `(tactic| walk_at "none 18") => `(tactic| fail)
local macro_rules | `(tactic| k_lt $h) => `(tactic| (have kept := $h; replace $h := allLt_of $h; simp only [AllLt, and_true] at $h:ident))
local macro_rules | `(tactic| k_ne) => `(tactic| (refine neN ?_; (try dsimp only); first | exact NeF.l (by with_reducible assumption) | exact NeF.r (by with_reducible assumption) | omega))
local macro_rules | `(tactic| walk_at "call builtin:sum") => `(tactic| (k_here; (with_reducible show wpAny _ _ (call (Value.builtin "sum") [Value.ref _]) _ _ _); k_dflt (refine' Mine.sum_pick ?k0 ?k1 ?k2 ?k3 ?k4 ?_; (case k0 => with_unfolding_all rfl); (case k1 => k_asm); (case k2 => k_asm); (case k3 => k_mem); (case k4 => assumption); k_whole); intro h' tk' t' F' N'))
local macro_rules | `(tactic| walk_at "eval ListComp") => `(tactic| (k_here; k_dflt (refine LCg.ListComp_U (F₀ := by k_asm) (by with_unfolding_all rfl) (by decide) (by rfl) (by decide) (by rfl) ?_)))
theorem for_go {w : World} {s : Shared} {mg mb : Str → Option Value} {mean : ExcName → Option Value} {loose : List Str} {base : Heap} {L fa D tq tp : Nat} {cd : Value} {m : Str → Option Value} {arr : Array UInt8} {ws vs : List Value} {ns : List Int} {oC oS : Obj} {a : Lay4} {rest : List (Addr × Obj)} {Q : Flow → Shared → Prop}
    (X' : (Mine.hd.heap_39 w.params).In base) (T' : Top Mine.hd.view_39 loose mean mg mb base) (K' : Below callerA base [] base) (A6 : Apart6 a) (hc : a.c = L + 1 + 1)
    (F' : Fr base L s.heap m) (hm : Names4 arr a.td a.S a.HA 0 tq m)
    (N' : News base L s.heap ((L + 1, oC) :: (D, W.listOf ws.toArray 0) :: rest)) (hoff : OwnOff rest [L + 1, D]) (hN6 : ∀ q ∈ led6 w a arr oS 0 tp vs, q ∈ rest)
    (dS : oS.data = .cell (some (.ref a.x))) (hz : arr.size ≤ 100) (hlen : vs.length = 5) (hok : ∀ v ∈ vs, SzOk v)
    (dC : oC.data = .cell (some (.ref D))) (hI : IntsAre ws ns) (hlw : ws.length = ns.length) (hl63 : ns.length ≤ 63)
    (hQ : ∀ h' tk' m', Fr base L h' m' → Q .next ⟨h', s.gens, s.drawn, tk', s.os⟩) :
    wpAny (model PySem.Challenge.rw_dn0266_04.row.prog w) (callerA.deeper (lawEnv4 L fa cd)) (exec for4 (lawEnv4 L fa cd)) Q (fun _ _ => False) s := by
  obtain ⟨hh, gs, dr, tk, os⟩ := s
  dsimp only at F' N'
  revert X'; k_fill; intro X'
  with_unfolding_all show wpAny _ _ (exec (Stmt.For (Expr.Name _ _) (Expr.BinOp _ _ _ _) (_ :: _) [] _) _) _ _ _
  have F2 : Fr base (lawEnv4 L fa cd).locals hh m := F'
  with_reducible refine For_invVF F2 ?k1 ?k2 ?_ ?k3 PySem.PassesOwn.never
  case k3 => exact fun _ => rfl
  clear F2
  case k1 => exact rfl
  case k2 => exact rfl
  k_steps
  with_unfolding_all refine' loop5 (rest := rest) ?X ?T ?K A6 hc ?F hm ?I ?N ?mX ?R hN6 ?lt dS hz hlen hok ?_
  case X => k_asm
  case T => k_asm
  case K => k_asm
  case F => k_asm
  case N => k_asm
  case mX => k_mem
  case I => assumption
  case R => (intro p hp; k_ownIn)
  case lt => exact fun p hp => (by assumption : ∀ q ∈ _, q.1 < _) p (by k_ownIn)
  exact hQ
end Mine
namespace Mine
open PySem PySem.W PySem.Calls PyProof.Rows
set_option maxRecDepth 100000
set_option maxHeartbeats 2000000
theorem execsA_append {M : Model} {A : Around} {E : Value → Shared → Prop} {env : Env} {rest : List Stmt} {Q : Flow → Shared → Prop} : ∀ {front : List Stmt} {s : Shared}, wpAny M A (execs front env) (fun f s' => match f with | .next => wpAny M A (execs rest env) Q E s' | f => Q f s') E s → wpAny M A (execs (front ++ rest) env) Q E s
  | front, s, h => fun Γ p hΓ => pt hΓ (h Γ p hΓ)
where pt {M : Model} {A : Around} {E : Value → Shared → Prop} {env : Env} {rest : List Stmt} {Q : Flow → Shared → Prop} {Γ : Ctx} (hΓ : Γ.In A) : ∀ {front : List Stmt} {p : Pos} {s : Shared}, Sem.wp M Γ (execs front env) (fun f _ s' => match f with | .next => wpAny M A (execs rest env) Q E s' | f => Q f s') (fun e _ s' => E e s') p s → Sem.wp M Γ (execs (front ++ rest) env) (fun f _ s' => Q f s') (fun e _ s' => E e s') p s
  | [], p, s, h => (show (match Flow.next with | .next => wpAny M A (execs rest env) Q E s | f => Q f s) from h) Γ p hΓ
  | st :: front, p, s, h => by
    show Sem.wp M Γ (execs (st :: (front ++ rest)) env) _ _ p s
    rw [execs_cons, Sem.wp_bind'] at h ⊢
    refine Sem.wp_mono M Γ _ (fun f p' s' h' => ?_) (fun _ _ _ z => z) p s h
    cases f with
    | next => exact pt hΓ h'
    | _ => exact h'
def Hold (P : Prop) : Prop := P
theorem execsA_stop {M : Model} {A : Around} {E : Value → Shared → Prop} {env : Env} {rest : List Stmt} {Q : Flow → Shared → Prop} {front : List Stmt} {s : Shared} (h : wpAny M A (execs front env) (fun f s' => match f with | .next => Hold (wpAny M A (execs rest env) Q E s') | f => Q f s') E s) : wpAny M A (execs (front ++ rest) env) Q E s := execsA_append h
theorem wpAny_stop {α : Type} {M : Model} {A : Around} {E : Value → Shared → Prop} {t : Sem α} {Q : α → Shared → Prop} {s : Shared} (h : wpAny M A t (fun v s' => Hold (Q v s')) E s) : wpAny M A t Q E s := h
def five (a b c d e : Nat) (k : Nat) : Nat := match k with | 0 => a | 1 => b | 2 => c | 3 => d | 4 => e | _ => 0
theorem five_cases {p : Nat → Prop} (h0 : p 0) (h1 : p 1) (h2 : p 2) (h3 : p 3) (h4 : p 4) : ∀ i, i < 5 → p i
  | 0, _ => h0
  | 1, _ => h1
  | 2, _ => h2
  | 3, _ => h3
  | 4, _ => h4

def lay5 (L x dx b l HA t1 t2 n nHA td : Nat) (H D C U1 U2 U3 NH : Nat → Nat) : Lay4 := { x := x, dx := dx, b := b, S := l, HA := HA, c := L + 1 + 1, LX := 0, t1 := t1, t2 := t2, n := n, ns := 0, nh := nHA, td := td, H := H, D := D, C := C, U1 := U1, U2 := U2, U3 := U3, NH := NH }
theorem apart5 {L x dx b l HA t1 t2 n nHA td H0 H1 H2 H3 H4 D0 D1 D2 D3 D4 : Nat} {C U1 U2 U3 NH : Nat → Nat} (n0 : x ≠ dx) (n1 : x ≠ b) (n2 : x ≠ L + 1 + 1) (n3 : dx ≠ b) (n4 : dx ≠ L + 1 + 1) (n5 : b ≠ L + 1 + 1)
    (l0 : x < l) (l1 : dx < l) (l2 : b < l) (l3 : L + 1 + 1 < l) (k : l < D0) (k0 : D0 < H0) (k1 : H0 < D1) (k2 : D1 < H1) (k3 : H1 < D2) (k4 : D2 < H2) (k5 : H2 < D3) (k6 : D3 < H3) (k7 : H3 < D4) (k8 : D4 < H4)
    (hHA : ∀ q ∈ [x, dx, b, l, L + 1 + 1, H0, H1, H2, H3, H4, D0, D1, D2, D3, D4], q ≠ HA) : Apart6 (lay5 L x dx b l HA t1 t2 n nHA td (five H0 H1 H2 H3 H4) (five D0 D1 D2 D3 D4) C U1 U2 U3 NH) := by
  have e : ∀ q ∈ [x, dx, b, l, L + 1 + 1, H0, H1, H2, H3, H4, D0, D1, D2, D3, D4], q ∉ [HA] := fun q hq h => hHA q hq (List.mem_singleton.mp h)
  have g : ∀ q, q ≠ HA → l < q → q ∉ [x, dx, b, l, HA, L + 1 + 1] := fun q h1 h2 h => by
    simp only [List.mem_cons, List.not_mem_nil, or_false] at h
    rcases h with h | h | h | h | h | h <;> first | exact h1 h | omega
  simp only [List.mem_cons, List.not_mem_nil, or_false, forall_eq_or_imp, forall_eq] at hHA
  obtain ⟨e0, e1, e2, e3, e4, f0, f1, f2, f3, f4, g0, g1, g2, g3, g4⟩ := hHA
  refine ⟨?_, ?_, ?_, ?_, ?_, ?_⟩
  · show [x, dx, b, l, HA, L + 1 + 1].Nodup
    simp only [List.nodup_cons, List.mem_cons, List.not_mem_nil, or_false, not_or, List.nodup_nil, and_true, not_false_eq_true]
    exact ⟨⟨n0, n1, Nat.ne_of_lt l0, e0, n2⟩, ⟨n3, Nat.ne_of_lt l1, e1, n4⟩, ⟨Nat.ne_of_lt l2, e2, n5⟩, ⟨e3, Nat.ne_of_gt l3⟩, Ne.symm e4⟩
  · clear e g e0 e1 e2 e3 e4 f0 f1 f2 f3 f4 g0 g1 g2 g3 g4 n0 n1 n2 n3 n4 n5
    intro i j hi hj hij
    show five H0 H1 H2 H3 H4 i ≠ five H0 H1 H2 H3 H4 j
    revert j
    revert i
    refine five_cases ?_ ?_ ?_ ?_ ?_ <;> (refine five_cases ?_ ?_ ?_ ?_ ?_ <;> (intro hij; first | exact absurd rfl hij | (simp only [five]; omega)))
  · clear e g e0 e1 e2 e3 e4 f0 f1 f2 f3 f4 g0 g1 g2 g3 g4 n0 n1 n2 n3 n4 n5
    intro i j hi hj hij
    show five D0 D1 D2 D3 D4 i ≠ five D0 D1 D2 D3 D4 j
    revert j
    revert i
    refine five_cases ?_ ?_ ?_ ?_ ?_ <;> (refine five_cases ?_ ?_ ?_ ?_ ?_ <;> (intro hij; first | exact absurd rfl hij | (simp only [five]; omega)))
  · clear e g e0 e1 e2 e3 e4 f0 f1 f2 f3 f4 g0 g1 g2 g3 g4 n0 n1 n2 n3 n4 n5
    intro i j hi hj
    show five H0 H1 H2 H3 H4 i ≠ five D0 D1 D2 D3 D4 j
    revert j
    revert i
    refine five_cases ?_ ?_ ?_ ?_ ?_ <;> (refine five_cases ?_ ?_ ?_ ?_ ?_ <;> (simp only [five]; omega))
  · exact five_cases (g H0 f0 (by clear e0 e1 e2 e3 e4 f0 f1 f2 f3 f4 g0 g1 g2 g3 g4 n0 n1 n2 n3 n4 n5; omega)) (g H1 f1 (by clear e0 e1 e2 e3 e4 f0 f1 f2 f3 f4 g0 g1 g2 g3 g4 n0 n1 n2 n3 n4 n5; omega)) (g H2 f2 (by clear e0 e1 e2 e3 e4 f0 f1 f2 f3 f4 g0 g1 g2 g3 g4 n0 n1 n2 n3 n4 n5; omega)) (g H3 f3 (by clear e0 e1 e2 e3 e4 f0 f1 f2 f3 f4 g0 g1 g2 g3 g4 n0 n1 n2 n3 n4 n5; omega)) (g H4 f4 (by clear e0 e1 e2 e3 e4 f0 f1 f2 f3 f4 g0 g1 g2 g3 g4 n0 n1 n2 n3 n4 n5; omega))
  · exact five_cases (g D0 g0 (by clear e0 e1 e2 e3 e4 f0 f1 f2 f3 f4 g0 g1 g2 g3 g4 n0 n1 n2 n3 n4 n5; omega)) (g D1 g1 (by clear e0 e1 e2 e3 e4 f0 f1 f2 f3 f4 g0 g1 g2 g3 g4 n0 n1 n2 n3 n4 n5; omega)) (g D2 g2 (by clear e0 e1 e2 e3 e4 f0 f1 f2 f3 f4 g0 g1 g2 g3 g4 n0 n1 n2 n3 n4 n5; omega)) (g D3 g3 (by clear e0 e1 e2 e3 e4 f0 f1 f2 f3 f4 g0 g1 g2 g3 g4 n0 n1 n2 n3 n4 n5; omega)) (g D4 g4 (by clear e0 e1 e2 e3 e4 f0 f1 f2 f3 f4 g0 g1 g2 g3 g4 n0 n1 n2 n3 n4 n5; omega))
end Mine
namespace Mine
open PySem PySem.W PySem.Calls PyProof.Rows
set_option maxRecDepth 100000
set_option maxHeartbeats 2000000
theorem fin_go {w : World} {s : Shared} {mg mb : Str → Option Value} {mean : ExcName → Option Value} {loose : List Str} {base : Heap} {L fa x dx b t1 t2 n t4 D td l HA H0 D0 q0 a0 b0 c0 n0 H1 D1 q1 a1 b1 c1 n1 H2 D2 q2 a2 b2 c2 n2 H3 D3 q3 a3 b3 c3 n3 H4 D4 q4 a4 b4 c4 n4 : Nat} {cd v0 v1 v2 v3 v4 : Value} {u : Str → Option Value} {arr : Array UInt8} {ws : List Value} {ns : List Int} {oS oC : Obj} {Q : Flow → Shared → Prop}
    (X' : (Mine.hd.heap_39 w.params).In base) (T' : Top Mine.hd.view_39 loose mean mg mb base) (K' : Below callerA base [] base)
    (F' : Fr base L s.heap (fun y => if y = Str.ofString "hands" then some (.ref HA) else if y = Str.ofString "sizes" then some (.ref l) else if y = Str.ofString "data" then some (.bytes arr td) else u y))
    (N' : News base L s.heap ((HA, LCg.lst [.ref H0, .ref H1, .ref H2, .ref H3, .ref H4]) :: (H4, instObj 53 D4) :: (D4, fwD w x v4 a4 b4 c4 q4 n4) :: (H3, instObj 53 D3) :: (D3, fwD w x v3 a3 b3 c3 q3 n3) :: (H2, instObj 53 D2) :: (D2, fwD w x v2 a2 b2 c2 q2 n2) :: (H1, instObj 53 D1) :: (D1, fwD w x v1 a1 b1 c1 q1 n1) :: (H0, instObj 53 D0) :: (D0, fwD w x v0 a0 b0 c0 q0 n0) :: (l, W.listOf #[v0, v1, v2, v3, v4] 0) :: (x, instObj 365 dx) :: (dx, bioDict w b t1 t2 (.int 0 t4) n) :: (b, baObj arr) :: (L + 1 + 1, oS) :: [] ++ [(L + 1, oC), (D, W.listOf ws.toArray 0)]))
    (dS : oS.data = .cell (some (.ref x))) (dC : oC.data = .cell (some (.ref D))) (hI : IntsAre ws ns) (hlw : ws.length = ns.length) (hl63 : ns.length ≤ 63) (hz : arr.size ≤ 100) (hok : ∀ v ∈ [v0, v1, v2, v3, v4], SzOk v)
    (A6 : Apart6 (lay5 L x dx b l HA t1 t2 n 5 td (five H0 H1 H2 H3 H4) (five D0 D1 D2 D3 D4) (five q0 q1 q2 q3 q4) (five a0 a1 a2 a3 a4) (five b0 b1 b2 b3 b4) (five c0 c1 c2 c3 c4) (five n0 n1 n2 n3 n4)))
    (hoff : OwnOff ((HA, LCg.lst [.ref H0, .ref H1, .ref H2, .ref H3, .ref H4]) :: (H4, instObj 53 D4) :: (D4, fwD w x v4 a4 b4 c4 q4 n4) :: (H3, instObj 53 D3) :: (D3, fwD w x v3 a3 b3 c3 q3 n3) :: (H2, instObj 53 D2) :: (D2, fwD w x v2 a2 b2 c2 q2 n2) :: (H1, instObj 53 D1) :: (D1, fwD w x v1 a1 b1 c1 q1 n1) :: (H0, instObj 53 D0) :: (D0, fwD w x v0 a0 b0 c0 q0 n0) :: (l, W.listOf #[v0, v1, v2, v3, v4] 0) :: (x, instObj 365 dx) :: (dx, bioDict w b t1 t2 (.int 0 t4) n) :: (b, baObj arr) :: (L + 1 + 1, oS) :: []) [L + 1, D])
    (hQ : ∀ h' tk' m', Fr base L h' m' → Q (.ret (.bool true)) ⟨h', s.gens, s.drawn, tk', s.os⟩) :
    wpAny (model PySem.Challenge.rw_dn0266_04.row.prog w) (callerA.deeper (lawEnv4 L fa cd)) (execs (lawRest4 9) (lawEnv4 L fa cd)) Q (fun _ _ => False) s := by
  obtain ⟨hh, gs, dr, tk, os⟩ := s
  dsimp only at F' N'
  revert X'; k_fill; intro X'
  with_unfolding_all show wpAny _ _ (execs (_ :: _) _) _ _ _
  refine execsA_stop (front := [_]) ?_
  k_steps
  (show wpAny _ _ (execs (_ :: _) _) _ _ _)
  refine wpAny_execs_cons ?_
  (with_unfolding_all show wpAny _ _ (exec for4 (lawEnv4 L fa cd)) _ _ _)
  with_reducible refine' for_go (tq := tk) (tp := t4) (vs := [v0, v1, v2, v3, v4]) (oS := oS) (oC := oC) (D := D) (ws := ws) (arr := arr) (rest := (HA, LCg.lst [.ref H0, .ref H1, .ref H2, .ref H3, .ref H4]) :: (H4, instObj 53 D4) :: (D4, fwD w x v4 a4 b4 c4 q4 n4) :: (H3, instObj 53 D3) :: (D3, fwD w x v3 a3 b3 c3 q3 n3) :: (H2, instObj 53 D2) :: (D2, fwD w x v2 a2 b2 c2 q2 n2) :: (H1, instObj 53 D1) :: (D1, fwD w x v1 a1 b1 c1 q1 n1) :: (H0, instObj 53 D0) :: (D0, fwD w x v0 a0 b0 c0 q0 n0) :: (l, W.listOf #[v0, v1, v2, v3, v4] 0) :: (x, instObj 365 dx) :: (dx, bioDict w b t1 t2 (.int 0 t4) n) :: (b, baObj arr) :: (L + 1 + 1, oS) :: []) X' T' K' A6 ?hc ?F ?nm ?N hoff ?N6 ?dS hz ?hl hok dC hI hlw hl63 ?_
  case hc => exact rfl
  case F => k_asm
  case dS => exact dS
  case hl => exact rfl
  case nm => (refine ⟨rfl, rfl, rfl, ?_⟩; with_unfolding_all exact rfl)
  case N => exact fun p hp => (by assumption : News _ _ _ _) p (by
    rcases List.mem_cons.mp hp with rfl | hp
    · exact List.mem_append_right _ (.head _)
    rcases List.mem_cons.mp hp with rfl | hp
    · exact List.mem_append_right _ (.tail _ (.head _))
    exact List.mem_append_left _ hp)
  case N6 =>
    intro q hq
    rcases List.mem_append.mp hq with hq | hq
    · simp only [fix4, lay5, List.mem_cons, List.not_mem_nil, or_false] at hq
      simp only [List.mem_cons, List.not_mem_nil, or_false]
      rcases hq with rfl | rfl | rfl | rfl | rfl | rfl
      · simp
      · simp
      · simp
      · simp
      · exact .inl rfl
      · simp
    · obtain ⟨j, hj, hq⟩ := mem_hand.mp hq
      have hj' := List.mem_range.mp hj
      revert hq
      match j, hj' with
      | 0, _ => rintro (rfl | rfl) <;> simp [lay5, five]
      | 1, _ => rintro (rfl | rfl) <;> simp [lay5, five]
      | 2, _ => rintro (rfl | rfl) <;> simp [lay5, five]
      | 3, _ => rintro (rfl | rfl) <;> simp [lay5, five]
      | 4, _ => rintro (rfl | rfl) <;> simp [lay5, five]
  intro h' tk' m' F'
  (show wpAny _ _ (execs (_ :: _) _) _ _ _)
  k_steps
  exact hQ _ _ _ (by assumption)
theorem off_fin {w : World} {L x dx b t1 t2 n t4 D l HA H0 D0 q0 a0 b0 c0 n0 H1 D1 q1 a1 b1 c1 n1 H2 D2 q2 a2 b2 c2 n2 H3 D3 q3 a3 b3 c3 n3 H4 D4 q4 a4 b4 c4 n4 : Nat} {v0 v1 v2 v3 v4 : Value} {arr : Array UInt8} {oS : Obj}
    (e1 : HA ≠ L + 1) (e2 : HA ≠ D) (f1 : x ≠ L + 1) (f2 : x ≠ D) (f3 : dx ≠ L + 1) (f4 : dx ≠ D) (f5 : b ≠ L + 1) (f6 : b ≠ D) (f7 : L + 1 + 1 ≠ D) (l1 : L + 1 < l) (l2 : D < l) (k : l < D0) (k0 : D0 < H0) (k1 : H0 < D1) (k2 : D1 < H1) (k3 : H1 < D2) (k4 : D2 < H2) (k5 : H2 < D3) (k6 : D3 < H3) (k7 : H3 < D4) (k8 : D4 < H4) :
    OwnOff ((HA, LCg.lst [.ref H0, .ref H1, .ref H2, .ref H3, .ref H4]) :: (H4, instObj 53 D4) :: (D4, fwD w x v4 a4 b4 c4 q4 n4) :: (H3, instObj 53 D3) :: (D3, fwD w x v3 a3 b3 c3 q3 n3) :: (H2, instObj 53 D2) :: (D2, fwD w x v2 a2 b2 c2 q2 n2) :: (H1, instObj 53 D1) :: (D1, fwD w x v1 a1 b1 c1 q1 n1) :: (H0, instObj 53 D0) :: (D0, fwD w x v0 a0 b0 c0 q0 n0) :: (l, W.listOf #[v0, v1, v2, v3, v4] 0) :: (x, instObj 365 dx) :: (dx, bioDict w b t1 t2 (.int 0 t4) n) :: (b, baObj arr) :: (L + 1 + 1, oS) :: []) [L + 1, D] := by
  intro p hp adr ha
  simp only [List.mem_cons, List.not_mem_nil, or_false] at hp ha
  rcases hp with rfl | rfl | rfl | rfl | rfl | rfl | rfl | rfl | rfl | rfl | rfl | rfl | rfl | rfl | rfl | rfl <;> rcases ha with rfl | rfl <;> first | exact e1 | exact e2 | exact f1 | exact f2 | exact f3 | exact f4 | exact f5 | exact f6 | exact f7 | exact Nat.ne_of_gt (Nat.lt_succ_self _) | exact Nat.ne_of_gt (by clear e1 e2 f1 f2 f3 f4 f5 f6 f7; (try dsimp only); omega)
end Mine
namespace Mine
open PySem PySem.W PySem.Calls PyProof.Rows
set_option maxRecDepth 100000
set_option maxHeartbeats 2000000
local macro_rules | `(tactic| walk_at "none 0") => `(tactic| fail)
local macro_rules | `(tactic| walk_at "none 1") => `(tactic| fail)
local macro_rules | `(tactic| walk_at "none 2") => `(tactic| fail)
local macro_rules | `(tactic| walk_at "none 3") => `(tactic| fail)
local macro_rules | `(tactic| walk_at "none 4") => `(tactic| fail)
local macro_rules | `(tactic| walk_at "none 5") => `(tactic| fail)
local macro_rules | `(tactic| walk_at "none 6") => `(tactic| fail)
local macro_rules | `(tactic| walk_at "none 7") => `(tactic| fail)
local macro_rules | `(tactic| walk_at "none 8") => `(tactic| fail)
local macro_rules | `(tactic| walk_at "none 9") => `(tactic| fail)
local macro_rules | `(tactic| walk_at "none 10") => `(tactic| fail)
local macro_rules | `(tactic| walk_at "none 11") => `(tactic| fail)
local macro_rules | `(tactic| walk_at "none 12") => `(tactic| fail)
local macro_rules | `(tactic| walk_at "none 13") => `(tactic| fail)
local macro_rules | `(tactic| walk_at "none 14") => `(tactic| fail)
local macro_rules | `(tactic| walk_at "none 15") => `(tactic| fail)
local macro_rules | `(tactic| walk_at "none 16") => `(tactic| fail)
local macro_rules | `(tactic| walk_at "none 17") => `(tactic| fail)
local macro_rules | `(tactic| walk_at "none 18") => `(tactic| fail)
local macro_rules | `(tactic| walk_at "none 19") => `(tactic| fail)
local macro_rules | `(tactic| walk_at "none 20") => `(tactic| fail)
local macro_rules | `(tactic| k_lt $h) => `(tactic| (have kept := $h; replace $h := allLt_of $h; simp only [AllLt, and_true] at $h:ident))
local macro_rules | `(tactic| k_ne) => `(tactic| (refine neN ?_; (try dsimp only); first | exact NeF.l (by with_reducible assumption) | exact NeF.r (by with_reducible assumption) | omega))
local macro_rules | `(tactic| walk_at "call ref") => `(tactic| (k_here; (with_reducible show wpAny _ _ (call (Value.ref 273) _ _) _ _ _); (refine' seek_go ?X ?T ?K ?F ?N ?o ?ne ?p0 ?p1 ?_; (case X => k_asm); (case T => k_asm); (case K => k_asm); (case F => k_asm); (case N => k_asm); (case o => exact $(Lean.mkIdent `hO2) _ _ _ _); (case ne => exact $(Lean.mkIdent `hN2)); (case p0 => decide); (case p1 => decide); k_whole); intro h' tk' t4 t5 news' F' N' hm hr; replace N' := news_two hm hr N'; clear hm hr; (try simp only [List.cons_append, List.nil_append] at N')))
theorem szs5_ok (a b c d : Nat) : ∀ v ∈ [Value.int 1 a, Value.int 3 b, Value.int 0 c, Value.int (-1) d, Value.none], SzOk v := by
  intro v hv
  simp only [List.mem_cons, List.not_mem_nil, or_false] at hv
  rcases hv with rfl | rfl | rfl | rfl | rfl
  all_goals first | exact .inl rfl | exact .inr ⟨_, _, rfl, by decide, by decide⟩
theorem tail_go {w : World} {s : Shared} {mg mb : Str → Option Value} {mean : ExcName → Option Value} {loose : List Str} {base : Heap} {L fa x dx b t1 t2 n t4 D td : Nat} {cd : Value} {u : Str → Option Value} {arr : Array UInt8} {ws : List Value} {ns : List Int} {oS oC : Obj} {Q : Flow → Shared → Prop}
    (X' : (Mine.hd.heap_39 w.params).In base) (T' : Top Mine.hd.view_39 loose mean mg mb base) (K' : Below callerA base [] base)
    (F' : Fr base L s.heap (fun y => if y = Str.ofString "data" then some (.bytes arr td) else u y))
    (N' : News base L s.heap ((x, instObj 365 dx) :: (dx, bioDict w b t1 t2 (.int arr.size t4) n) :: (b, baObj arr) :: (L + 1 + 1, oS) :: (L + 1, oC) :: (D, W.listOf ws.toArray 0) :: []))
    (dS : oS.data = .cell (some (.ref x))) (dC : oC.data = .cell (some (.ref D))) (hI : IntsAre ws ns) (hlw : ws.length = ns.length) (hl63 : ns.length ≤ 63) (hz : arr.size ≤ 100)
    (hO2 : ∀ o1 o2 o3 o4 : Obj, OwnOff ((b, o1) :: (L + 1 + 1, o2) :: (L + 1, o3) :: (D, o4) :: []) [x, dx]) (hN2 : NeAll [x, dx]) (hne : NeAll [x, dx, b, L + 1 + 1, L + 1, D])
    (hQ : ∀ h' tk' m', Fr base L h' m' → Q (.ret (.bool true)) ⟨h', s.gens, s.drawn, tk', s.os⟩) :
    wpAny (model PySem.Challenge.rw_dn0266_04.row.prog w) (callerA.deeper (lawEnv4 L fa cd)) (execs (lawRest4 6) (lawEnv4 L fa cd)) Q (fun _ _ => False) s := by
  simp only [NeAll, NeTo, and_true] at hne
  obtain ⟨⟨n0_1, n0_2, n0_3, n0_4, n0_5⟩, ⟨n1_2, n1_3, n1_4, n1_5⟩, ⟨n2_3, n2_4, n2_5⟩, ⟨n3_4, n3_5⟩, n4_5⟩ := hne
  obtain ⟨hh, gs, dr, tk, os⟩ := s
  dsimp only at F' N'
  revert X'; k_fill; intro X'
  with_unfolding_all show wpAny _ _ (execs (_ :: _) _) _ _ _
  refine execsA_stop (front := [_, _]) ?_
  k_steps
  (show wpAny _ _ (execs (_ :: _) _) _ _ _)
  refine wpAny_execs_cons ?_
  refine LCg.Assign_ListComp_U (F₀ := by k_asm) (by rfl) (by with_unfolding_all rfl) (by rfl) (by decide) (by rfl) (by decide) (by rfl) (by rfl) (by rfl) ?_
  refine wpAny_stop ?_
  k_steps
  (show LCg.CompSrc _ _ _ _ _ _ _ _ _ _ _ _ _ _)
  refine LCg.CompSrc.ledger (by rfl) (by k_asm) (by k_asm) (by k_mem) (by exact Nat.le_of_ble_eq_true rfl) ?_
  intro g'
  (with_unfolding_all show LCg.CompRest _ _ _ _ _ _ _ (compElt4 hands4) _ (compScope4 hands4) (cl4 L) _ _ _ _ 5 0 [] _)
  with_reducible refine' hands_all X' T' K' ?P ?m ?l dS ?_
  case P => exact rfl
  case m => with_unfolding_all k_allIn
  case l => with_unfolding_all k_mem
  intro H0 D0 q0 a0 b0 c0 n0 H1 D1 q1 a1 b1 c1 n1 H2 D2 q2 a2 b2 c2 n2 H3 D3 q3 a3 b3 c3 n3 H4 D4 q4 a4 b4 c4 n4 lt0 k0 k1 k2 k3 k4 k5 k6 k7 k8
  unfold LCg.FinA
  intro HA h' tk' F' N' o1
  (with_unfolding_all show wpAny _ _ (execs (lawRest4 9) (lawEnv4 L fa cd)) _ _ _)
  have kk := allLt_of lt0
  simp only [AllLt, and_true] at kk
  simp only [LCg.Off1, and_true] at o1
  obtain ⟨h4, d4, h3, d3, h2, d2, h1, d1, h0, d0, hl, hx, hdx, hb, hc, hc2, hD⟩ := o1
  with_reducible refine' fin_go X' T' K' ?F ?N dS dC hI hlw hl63 hz ?ok ?A ?off ?_
  case F => exact F'
  case N => exact N'
  case ok => exact szs5_ok _ _ _ _
  case A =>
    refine apart5 n0_1 n0_2 n0_3 n1_2 n1_3 n2_3 ?_ ?_ ?_ ?_ ?_ k0 k1 k2 k3 k4 k5 k6 k7 k8 ?hHA
    case hHA =>
      simp only [List.mem_cons, List.not_mem_nil, or_false, forall_eq_or_imp, forall_eq]
      exact ⟨hx, hdx, hb, hl, hc, h0, h1, h2, h3, h4, d0, d1, d2, d3, d4⟩
    all_goals (clear h4 d4 h3 d3 h2 d2 h1 d1 h0 d0 hl hx hdx hb hc hc2 hD; omega)
  case off =>
    refine off_fin (Ne.symm hc2) (Ne.symm hD) n0_4 n0_5 n1_4 n1_5 n2_4 n2_5 n3_5 ?_ ?_ ?_ k0 k1 k2 k3 k4 k5 k6 k7 k8
    all_goals (clear h4 d4 h3 d3 h2 d2 h1 d1 h0 d0 hl hx hdx hb hc hc2 hD; omega)
  exact hQ
end Mine
namespace Mine
open PySem PySem.W PySem.Calls PyProof.Rows
set_option maxRecDepth 100000
set_option maxHeartbeats 1000000
theorem def04_name : def04.name = Str.ofString "law" := by kernel_rfl
theorem def04_body : def04.body = fnBody4 law4 := by kernel_rfl
theorem def04_scope : def04.scope = fnScope4 law4 := by kernel_rfl
def fnArgs4 : Stmt → Arguments | .FunctionDef _ a _ _ _ _ _ _ _ _ => a | _ => default
theorem def04_params : def04.params = fnArgs4 law4 := by kernel_rfl
theorem bind04 (a : Addr) (pm cd doc : Value) : bindArgs { docDef (Str.ofString "law") (fnArgs4 law4) (fnBody4 law4) (fnScope4 law4) pm cd doc with defaults := .none, kwdefaults := .none } ⟨[.ref a], []⟩ = pure [(Str.ofString "script", .ref a)] := by kernel_rfl
local macro_rules | `(tactic| walk_at "none 0") => `(tactic| fail)
local macro_rules | `(tactic| walk_at "none 1") => `(tactic| fail)
local macro_rules | `(tactic| walk_at "none 2") => `(tactic| fail)
local macro_rules | `(tactic| walk_at "none 3") => `(tactic| fail)
local macro_rules | `(tactic| walk_at "none 4") => `(tactic| fail)
local macro_rules | `(tactic| walk_at "none 5") => `(tactic| fail)
local macro_rules | `(tactic| walk_at "none 6") => `(tactic| fail)
local macro_rules | `(tactic| walk_at "none 7") => `(tactic| fail)
local macro_rules | `(tactic| walk_at "none 8") => `(tactic| fail)
local macro_rules | `(tactic| walk_at "none 9") => `(tactic| fail)
local macro_rules | `(tactic| walk_at "none 10") => `(tactic| fail)
local macro_rules | `(tactic| walk_at "none 11") => `(tactic| fail)
local macro_rules | `(tactic| walk_at "none 12") => `(tactic| fail)
local macro_rules | `(tactic| walk_at "none 13") => `(tactic| fail)
local macro_rules | `(tactic| walk_at "none 14") => `(tactic| fail)
local macro_rules | `(tactic| walk_at "none 15") => `(tactic| fail)
local macro_rules | `(tactic| walk_at "none 16") => `(tactic| fail)
local macro_rules | `(tactic| walk_at "none 17") => `(tactic| fail)
local macro_rules | `(tactic| walk_at "none 18") => `(tactic| fail)
local macro_rules | `(tactic| walk_at "none 19") => `(tactic| fail)
local macro_rules | `(tactic| walk_at "none 20") => `(tactic| fail)
local macro_rules | `(tactic| walk_at "none 21") => `(tactic| fail)
local macro_rules | `(tactic| k_lt $h) => `(tactic| (have kept := $h; replace $h := allLt_of $h; simp only [AllLt, and_true] at $h:ident))
theorem valueAt_lookup {K : Type} [DecidableEq K] {kvs : List (K × Value)} {k : K} {v : Value} (h : kvs.lookup k = some v) : valueAt kvs k = some v := by
  unfold valueAt
  induction kvs with
  | nil => cases h
  | cons a l ih =>
    rw [List.find?_cons]
    by_cases e : a.1 = k
    · simp only [e, decide_true, Option.map_some]
      have : List.lookup k (a :: l) = some a.2 := by obtain ⟨a1, a2⟩ := a; simp only at e; subst e; simp [List.lookup]
      rw [this] at h
      exact h
    · simp only [e, decide_false]
      refine ih ?_
      obtain ⟨a1, a2⟩ := a
      rw [List.lookup_cons] at h
      have : (k == a1) = false := by simp; exact fun q => e q.symm
      rw [this] at h
      exact h
local macro_rules | `(tactic| walk_at "subscriptTail") => `(tactic| (k_here; (with_reducible show wpAny _ _ (subscriptTail _ _ (Value.ref _) (Value.str _ _)) _ _ _); (refine kda_item (knd := PySem.strKind _ _) (by k_asm) (by k_mem) (by k_asm) (strKind_is _ _ _ _) (valueAt_lookup (by assumption)) ?_)))
theorem news_tail {h₀ h : Heap} {L : Addr} {p : Addr × Obj} {l : List (Addr × Obj)} (N : News h₀ L h (p :: l)) : News h₀ L h l := fun q hq => N q (.tail _ hq)
theorem reorder7 {h₀ h : Heap} {L : Addr} {x d b e D c2 c1 : Addr × Obj} (N : News h₀ L h (x :: d :: b :: e :: D :: c2 :: c1 :: [])) : News h₀ L h (x :: d :: b :: c2 :: c1 :: D :: []) := fun q hq => N q (by
  simp only [List.mem_cons, List.not_mem_nil, or_false] at hq ⊢
  rcases hq with h | h | h | h | h | h <;> simp [h])
theorem walk04 : WalkG Mine.hd.view_39 loose04 (XL Mine.hd.view_39 []) hook04.says PySem.Challenge.rw_dn0266_04.row.toRowW def04 [] := by
  intro w s₀ s₁ mg mb G Y fa o pm cd doc dV kV ho hd hcd hD hmg hg args vals as hpre hlay hrd hwl hlo
  have KX := kIn_of Y
  revert KX; k_fill; intro KX
  have X := (Ground.X G).1
  have V := (Ground.X G).2
  refine Ground.open G ?_
  intro T B D TE TW
  (try (refine guard_noD D (by decide +kernel) ?_; clear D))
  obtain ⟨_, _, MM⟩ := bmod_of_top T
  have TA := at_of_top T
  clear hmg
  wrow_args hpre hlay hrd hwl hlo
  rw [def04_name, def04_body, def04_scope, def04_params] at hd
  rw [def04_name] at hcd
  rw [def04_params] at hD
  have he1 := Dflts.none hD rfl
  subst he1
  have he2 := Dflts.noKw hD
  subst he2
  have K0 := below_caller (Top.heap T)
  refine wpG_call ?_
  refine' callG_cells ?c1 ho hd ?c2 hcd ?c3 ?c4 ?c5 ?_ ?c6 ?c7 ?c8
  case c3 => exact BindsTo.of_eq (bind04 _ _ _ _)
  case c1 => decide
  case c2 => exact T.nolimit
  case c4 => with_unfolding_all rfl
  case c5 => decide +kernel
  case c6 => exact rfl
  case c7 => exact rfl
  case c8 => exact rfl
  intro h' tk' cells' F' N' Y'
  k_cells Y'
  (try simp only [List.cons_append, List.nil_append] at N')
  (try dsimp only)
  (try k_fold)
  (with_unfolding_all show wpG _ _ (execs (_ :: _) _) _ _ _)
  refine execsG_append (front := [_, _]) ?_
  k_steps
  (show wpG _ _ (execs (_ :: _) _) _ _ _)
  refine execsG_cons ?_
  refine exprG ?_ ?hi ?hs
  case hi => exact rfl
  case hs => with_unfolding_all rfl
  refine callNameG ?_
  k_steps
  refine callKG (K := Mine.hd.heap_39 w.params) ?hk ?_ ?he ?hp
  case hk => k_is
  case he => exact rfl
  case hp => exact rfl
  k_steps
  refine' setup_go ?sX ?sT ?sK ?sF ?sN ?so ?sl ?sd ?_
  case sX => k_asm
  case sT => k_asm
  case sK => k_asm
  case sF => k_asm
  case sN => k_asm
  case so => exact fun p hp a ha => by rw [List.mem_singleton.mp ha]; exact Nat.ne_of_lt ((by assumption : ∀ q ∈ _, q.1 < _) p hp)
  case sl => assumption
  case sd => assumption
  intro x dx b t1 t2 t3 n o' es h' tk' news' F' N' hm hr hd' hlk hlt hD1 hD2 hD3
  replace N' := news_two hm hr N'
  (try simp only [List.cons_append, List.nil_append] at N')
  clear hm hr
  k_lt hlt
  (show wpG _ _ (execs (_ :: _) _) _ _ _)
  refine execsG_append (front := [_, _]) ?_
  k_steps
  (show wpG _ _ (execs (_ :: _) _) _ _ _)
  refine execsG_cons ?_
  refine exprG ?_ ?hi ?hs
  case hi => exact rfl
  case hs => with_unfolding_all rfl
  refine' callAttrG ?_ ?he
  case he => with_unfolding_all rfl
  k_steps
  refine callKG (K := Mine.hd.heap_39 w.params) ?hk ?_ ?he ?hp
  case hk => k_is
  case he => exact rfl
  case hp => exact rfl
  k_steps
  (try dsimp only [List.cons_append, List.nil_append])
  refine' write_go ?wX ?wT ?wK ?wF ?wN ?wo ?wne ?wz ?wz0 ?_
  case wX => k_asm
  case wT => k_asm
  case wK => k_asm
  case wF => k_asm
  case wN => exact news_tail (by k_asm)
  case wo => (intro p hp a ha; simp only [List.mem_cons, List.not_mem_nil, or_false] at hp ha; rcases hp with rfl | rfl | rfl | rfl <;> rcases ha with rfl | rfl | rfl <;> exact Nat.ne_of_lt (by (try dsimp only); omega))
  case wne => (simp only [NeAll, NeTo, and_true]; exact ⟨⟨Nat.ne_of_gt (by omega), Nat.ne_of_lt (by omega)⟩, Nat.ne_of_lt (by omega)⟩)
  case wz => (rw [byteArr_size, List.length_map, rangeKs_length]; omega)
  case wz0 => (rw [byteArr_size, List.length_map, rangeKs_length]; omega)
  intro h2 tk2 t4 t5 news2 F2 N2 hm2 hr2
  replace N2 := news_two hm2 hr2 N2
  (try simp only [List.cons_append, List.nil_append] at N2)
  clear hm2 hr2
  (show wpG _ _ (execs (_ :: _) _) _ _ _)
  refine wpG_of ?_
  (with_unfolding_all show wpAny _ _ (execs (lawRest4 6) (lawEnv4 _ _ _)) _ _ _)
  refine wpAny_mono (E := fun _ _ => False) ?_ (fun _ _ h => h) (fun _ _ z => z.elim)
  with_reducible refine' tail_go ?X ?T ?K ?F ?N ?dS ?dC ?hI ?hlw ?hl63 ?hz ?hO2 ?hN2 ?hne ?_
  case X => k_asm
  case T => k_asm
  case K => k_asm
  case F => exact F2
  case N => exact reorder7 N2
  case dS => assumption
  case dC => assumption
  case hI => assumption
  case hlw => assumption
  case hl63 => (rw [List.length_take]; omega)
  case hz => (rw [byteArr_size, List.length_map, rangeKs_length]; omega)
  case hO2 => (intro o1 o2 o3 o4 p hp a ha; simp only [List.mem_cons, List.not_mem_nil, or_false] at hp ha; rcases hp with rfl | rfl | rfl | rfl <;> rcases ha with rfl | rfl <;> first | exact Nat.ne_of_lt (by (try dsimp only); omega) | exact Nat.ne_of_gt (by (try dsimp only); omega))
  case hN2 => (simp only [NeAll, NeTo, and_true]; exact Nat.ne_of_gt (by omega))
  case hne => (simp only [NeAll, NeTo, and_true]; exact ⟨⟨Nat.ne_of_gt (by omega), Nat.ne_of_lt (by omega), Nat.ne_of_gt (by omega), Nat.ne_of_gt (by omega), Nat.ne_of_gt (by omega)⟩, ⟨Nat.ne_of_lt (by omega), Nat.ne_of_gt (by omega), Nat.ne_of_gt (by omega), Nat.ne_of_gt (by omega)⟩, ⟨Nat.ne_of_gt (by omega), Nat.ne_of_gt (by omega), Nat.ne_of_gt (by omega)⟩, ⟨Nat.ne_of_gt (by omega), Nat.ne_of_lt (by omega)⟩, Nat.ne_of_lt (by omega)⟩)
  intro h3 tk3 m3 F3
  clear N2 F2
  dsimp only
  first | (refine GoodW.toG ?_; wrow_close) | (k_end; wrow_close) | wrow_close
end Mine
theorem PySem.Challenge.cw_dn0266_04_holds : PySem.Challenge.rw_dn0266_04.Holds :=
  Mine.hdG04 Mine.walk04
