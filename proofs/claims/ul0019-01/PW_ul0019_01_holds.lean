import PyProof.Rows.All
import Wide.All
import OpenK.AllK
import Wide.FinOn
import PyProof.LetGo
import KE.KListMore
import KE.KRevIter
import KE.KSliceW
import KE.KRevSl
import KE.KCat
import KE.LcTurns
import KE.RegLcTurns
import KE.KLcFree
import KE.KDeep
import KE.KEqDeep
import OpenK.KEqL
import KE.KNest
import KE.KNestM
import Lean
import PySem.Challenge.RW_ul0019_01
open PySem PySem.W PySem.Calls PyProof.Rows
set_option Elab.async false
set_option maxRecDepth 100000
set_option linter.unusedVariables false
set_option linter.unusedSectionVars false
set_option compiler.extract_closed false
namespace Mine
-- H0
noncomputable section
noncomputable abbrev pw : Program := PySem.Challenge.pw_ul0019_01
noncomputable def st (i : Nat) : Stmt := (pw.main.body[i]?).getD (.Pass ⟨0, 0, 0, 0⟩)
noncomputable def fnO (s : Stmt) (pm code : Value) : Obj := match s with
  | .FunctionDef n a b _ _ _ sc _ _ _ => { cls := .type "function", data := .func (docDef n a b sc pm code .none) }
  | _ => default
noncomputable def tmO (s : Stmt) : Obj := match s with
  | .FunctionDef n a b _ _ _ sc _ _ _ => { cls := .none, data := .func { name := n, qualname := n, params := a, body := .stmts b, scope := sc, globals := 0, closure := [], defaults := .none, kwdefaults := .none } }
  | _ => default
noncomputable def keyE (P : Params) (n : Str) (t : Tok) (v : Value) : DictEntry := ⟨PyData.keyHash P n, .str n t, v⟩
noncomputable def b1L : List (Int × Value) := [(65024, Value.int 65024 326), (65025, Value.int 65025 327), (65026, Value.int 65026 328),
        (65027, Value.int 65027 329), (65028, Value.int 65028 330), (65029, Value.int 65029 331),
        (6150, Value.int 6150 312), (65030, Value.int 65030 332), (65031, Value.int 65031 333),
        (65032, Value.int 65032 334), (65033, Value.int 65033 335), (6155, Value.int 6155 313),
        (6156, Value.int 6156 314), (6157, Value.int 6157 315), (8203, Value.int 8203 316), (8204, Value.int 8204 317),
        (8205, Value.int 8205 318), (65034, Value.int 65034 336), (65035, Value.int 65035 337),
        (65036, Value.int 65036 338), (65037, Value.int 65037 339), (65038, Value.int 65038 340),
        (65039, Value.int 65039 341), (173, Value.int 173 310), (847, Value.int 847 311), (8288, Value.int 8288 319),
        (65279, Value.int 65279 320)]
noncomputable def setO (P : Params) : Obj := { cls := .type "set", data := .set b1L.toArray 29 { mask := 127, place := #[0, 1, 2, 3, 4, 5, 6, 7, 8, 9, 10, 11, 12, 13, 14, 15, 16, 17, 18, 19, 20, 21, 22, 45, 79, 96, 127], dummies := #[], finger := 0, led := !(P.followText "set-order"), moves := 2, plain := true } }
noncomputable def b3keys : List Int := match st 14 with
  | .Assign _ (.Dict ks _ _) _ => ks.map fun | some (.Constant (.int k) _ _) => k | _ => 0
  | _ => []
noncomputable def b3vals : List Str := match st 14 with
  | .Assign _ (.Dict _ vs _) _ => vs.map fun | .Constant (.str x) _ _ => x | _ => ""
  | _ => []
noncomputable def b3pairs : List (Int × Str) := b3keys.zip b3vals
noncomputable def entG : Nat → List (Int × Str) → List DictEntry
  | _, [] => []
  | t, (k, v) :: r => ⟨k, .int k t, .str v (t + 1)⟩ :: entG (t + 3) r
noncomputable def entS : Nat → List (Int × Str) → List DictEntry
  | _, [] => []
  | t, (k, v) :: r => ⟨k, .int k t, .str v (t + 1)⟩ :: entS (t + 2) r
noncomputable def b3L : List DictEntry := entG 377 (b3pairs.take 646) ++ entS 2315 (b3pairs.drop 646)
noncomputable def dictO (es : List DictEntry) (n : Nat) : Obj := { cls := .type "dict", data := .dict es.toArray n }
noncomputable def subO (j : Nat) : Obj := dictO (entG (377 + 51 * j) ((b3pairs.drop (17 * j)).take 17)) 17
noncomputable def lastO : Obj := dictO (entS 2315 (b3pairs.drop 646)) 4
noncomputable abbrev o11 (P : Params) : Obj := { cls := Value.type "tuple", data := Data.seq #[] }
noncomputable abbrev o13 (P : Params) : Obj := { cls := Value.type "code", data := Data.fields #[Value.str (Str.ofString "<module>") 182, Value.str (Str.ofString "<module>") 183, Value.str (Str.ofString "/claim/cut.py") 184, Value.int 1 0, Value.int 0 0, Value.int 0 0, Value.int 0 0, Value.int 0 0, Value.ref 11, Value.bool false, Value.int 181 0, Value.ref 12, Value.none, Value.none, Value.none, Value.none, Value.int 185 0, Value.int 1 0, Value.str (Str.ofString "/claim/cut.py") 186] }
noncomputable abbrev o14 (P : Params) : Obj := { cls := Value.type "frame", slots := #[some (Value.ref 13), some (Value.ref 3), some (Value.ref 3), none, some (Value.str (Str.ofString "__main__") 164), none, some (Value.ref 0)] }
noncomputable abbrev o15 (P : Params) : Obj := { cls := Value.type "tuple", data := Data.seq #[] }
noncomputable abbrev o16 (P : Params) : Obj := { cls := Value.none, data := Data.fields #[] }
noncomputable abbrev o17 (P : Params) : Obj := { cls := Value.type "tuple", data := Data.seq #[Value.str (Str.ofString "a") 194, Value.str (Str.ofString "b") 195, Value.str (Str.ofString "n") 196, Value.str (Str.ofString "pad") 197, Value.str (Str.ofString "half_n") 198, Value.str (Str.ofString "mask") 199, Value.str (Str.ofString "b1") 200, Value.str (Str.ofString "b2") 201, Value.str (Str.ofString "q1") 202, Value.str (Str.ofString "r") 203, Value.str (Str.ofString "q2") 204] }
noncomputable abbrev o18 (P : Params) : Obj := { cls := Value.type "tuple", data := Data.seq #[] }
noncomputable abbrev o19 (P : Params) : Obj := tmO (st 2)
noncomputable abbrev o20 (P : Params) : Obj := { cls := Value.type "code", data := Data.fields #[Value.str (Str.ofString "_div2n1n") 191, Value.str (Str.ofString "_div2n1n") 192, Value.str (Str.ofString "/claim/cut.py") 193, Value.int 3 0, Value.int 3 0, Value.int 0 0, Value.int 0 0, Value.int 3 0, Value.ref 15, Value.bool true, Value.int 181 0, Value.ref 16, Value.none, Value.ref 17, Value.ref 18, Value.ref 19, Value.int 205 0, Value.int 3 0, Value.str (Str.ofString "/claim/cut.py") 206] }
noncomputable abbrev o21 (P : Params) : Obj := fnO (st 2) (Value.str (Str.ofString "cpy313._pylong") 187) (Value.ref 20)
noncomputable abbrev o22 (P : Params) : Obj := { cls := Value.type "tuple", data := Data.seq #[] }
noncomputable abbrev o23 (P : Params) : Obj := { cls := Value.none, data := Data.fields #[] }
noncomputable abbrev o24 (P : Params) : Obj := { cls := Value.type "tuple", data := Data.seq #[Value.str (Str.ofString "a12") 211, Value.str (Str.ofString "a3") 212, Value.str (Str.ofString "b") 213, Value.str (Str.ofString "b1") 214, Value.str (Str.ofString "b2") 215, Value.str (Str.ofString "n") 216, Value.str (Str.ofString "q") 217, Value.str (Str.ofString "r") 218] }
noncomputable abbrev o25 (P : Params) : Obj := { cls := Value.type "tuple", data := Data.seq #[] }
noncomputable abbrev o26 (P : Params) : Obj := tmO (st 3)
noncomputable abbrev o27 (P : Params) : Obj := { cls := Value.type "code", data := Data.fields #[Value.str (Str.ofString "_div3n2n") 208, Value.str (Str.ofString "_div3n2n") 209, Value.str (Str.ofString "/claim/cut.py") 210, Value.int 19 0, Value.int 6 0, Value.int 0 0, Value.int 0 0, Value.int 3 0, Value.ref 22, Value.bool true, Value.int 181 0, Value.ref 23, Value.none, Value.ref 24, Value.ref 25, Value.ref 26, Value.int 219 0, Value.int 19 0, Value.str (Str.ofString "/claim/cut.py") 220] }
noncomputable abbrev o28 (P : Params) : Obj := fnO (st 3) (Value.str (Str.ofString "cpy313._pylong") 187) (Value.ref 27)
noncomputable abbrev o29 (P : Params) : Obj := { cls := Value.type "tuple", data := Data.seq #[] }
noncomputable abbrev o30 (P : Params) : Obj := { cls := Value.none, data := Data.fields #[] }
noncomputable abbrev o31 (P : Params) : Obj := { cls := Value.type "tuple", data := Data.seq #[Value.str (Str.ofString "a") 225, Value.str (Str.ofString "n") 226] }
noncomputable abbrev o32 (P : Params) : Obj := { cls := Value.type "tuple", data := Data.seq #[Value.str (Str.ofString "n") 227, Value.str (Str.ofString "a_digits") 228, Value.str (Str.ofString "inner") 229] }
noncomputable abbrev o33 (P : Params) : Obj := tmO (st 4)
noncomputable abbrev o34 (P : Params) : Obj := { cls := Value.type "code", data := Data.fields #[Value.str (Str.ofString "_int2digits") 222, Value.str (Str.ofString "_int2digits") 223, Value.str (Str.ofString "/claim/cut.py") 224, Value.int 29 0, Value.int 2 0, Value.int 0 0, Value.int 0 0, Value.int 3 0, Value.ref 29, Value.bool true, Value.int 181 0, Value.ref 30, Value.none, Value.ref 31, Value.ref 32, Value.ref 33, Value.int 230 0, Value.int 29 0, Value.str (Str.ofString "/claim/cut.py") 231] }
noncomputable abbrev o35 (P : Params) : Obj := fnO (st 4) (Value.str (Str.ofString "cpy313._pylong") 187) (Value.ref 34)
noncomputable abbrev o36 (P : Params) : Obj := { cls := Value.type "tuple", data := Data.seq #[] }
noncomputable abbrev o37 (P : Params) : Obj := { cls := Value.none, data := Data.fields #[] }
noncomputable abbrev o38 (P : Params) : Obj := { cls := Value.type "tuple", data := Data.seq #[Value.str (Str.ofString "digits") 236, Value.str (Str.ofString "n") 237] }
noncomputable abbrev o39 (P : Params) : Obj := { cls := Value.type "tuple", data := Data.seq #[Value.str (Str.ofString "digits") 238, Value.str (Str.ofString "n") 239, Value.str (Str.ofString "inner") 240] }
noncomputable abbrev o40 (P : Params) : Obj := tmO (st 5)
noncomputable abbrev o41 (P : Params) : Obj := { cls := Value.type "code", data := Data.fields #[Value.str (Str.ofString "_digits2int") 233, Value.str (Str.ofString "_digits2int") 234, Value.str (Str.ofString "/claim/cut.py") 235, Value.int 45 0, Value.int 2 0, Value.int 0 0, Value.int 0 0, Value.int 3 0, Value.ref 36, Value.bool true, Value.int 181 0, Value.ref 37, Value.none, Value.ref 38, Value.ref 39, Value.ref 40, Value.int 241 0, Value.int 45 0, Value.str (Str.ofString "/claim/cut.py") 242] }
noncomputable abbrev o42 (P : Params) : Obj := fnO (st 5) (Value.str (Str.ofString "cpy313._pylong") 187) (Value.ref 41)
noncomputable abbrev o43 (P : Params) : Obj := { cls := Value.type "tuple", data := Data.seq #[] }
noncomputable abbrev o44 (P : Params) : Obj := { cls := Value.none, data := Data.fields #[] }
noncomputable abbrev o45 (P : Params) : Obj := { cls := Value.type "tuple", data := Data.seq #[Value.str (Str.ofString "a") 247, Value.str (Str.ofString "b") 248, Value.str (Str.ofString "n") 249, Value.str (Str.ofString "a_digits") 250, Value.str (Str.ofString "r") 251, Value.str (Str.ofString "q_digits") 252, Value.str (Str.ofString "a_digit") 253, Value.str (Str.ofString "q_digit") 254, Value.str (Str.ofString "q") 255] }
noncomputable abbrev o46 (P : Params) : Obj := { cls := Value.type "tuple", data := Data.seq #[] }
noncomputable abbrev o47 (P : Params) : Obj := tmO (st 6)
noncomputable abbrev o48 (P : Params) : Obj := { cls := Value.type "code", data := Data.fields #[Value.str (Str.ofString "_divmod_pos") 244, Value.str (Str.ofString "_divmod_pos") 245, Value.str (Str.ofString "/claim/cut.py") 246, Value.int 54 0, Value.int 2 0, Value.int 0 0, Value.int 0 0, Value.int 3 0, Value.ref 43, Value.bool true, Value.int 181 0, Value.ref 44, Value.none, Value.ref 45, Value.ref 46, Value.ref 47, Value.int 256 0, Value.int 54 0, Value.str (Str.ofString "/claim/cut.py") 257] }
noncomputable abbrev o49 (P : Params) : Obj := fnO (st 6) (Value.str (Str.ofString "cpy313._pylong") 187) (Value.ref 48)
noncomputable abbrev o50 (P : Params) : Obj := { cls := Value.type "tuple", data := Data.seq #[Value.type "Exception"] }
noncomputable abbrev o51 (P : Params) : Obj := { cls := Value.type "builtin_function_or_method", data := Data.fields #[Value.builtin "type.__prepare__", Value.type "type"] }
noncomputable abbrev o52 (P : Params) : Obj := { cls := Value.type "dict", data := Data.dict #[{ hash := PyData.keyHash P (Str.ofString "__module__"), key := Value.str (Str.ofString "__module__") 268, val := Value.str (Str.ofString "cpy313.ftplib") 259 }, { hash := PyData.keyHash P (Str.ofString "__qualname__"), key := Value.str (Str.ofString "__qualname__") 270, val := Value.str (Str.ofString "Error") 269 }, { hash := PyData.keyHash P (Str.ofString "__firstlineno__"), key := Value.str (Str.ofString "__firstlineno__") 272, val := Value.int 66 271 }, { hash := PyData.keyHash P (Str.ofString "__static_attributes__"), key := Value.str (Str.ofString "__static_attributes__") 273, val := Value.ref 57 }] 4 }
noncomputable abbrev o53 (P : Params) : Obj := { cls := Value.type "tuple", data := Data.seq #[] }
noncomputable abbrev o54 (P : Params) : Obj := { cls := Value.none, data := Data.fields #[] }
noncomputable abbrev o55 (P : Params) : Obj := { cls := Value.type "code", data := Data.fields #[Value.str (Str.ofString "Error") 263, Value.str (Str.ofString "Error") 264, Value.str (Str.ofString "/claim/cut.py") 265, Value.int 66 0, Value.int 0 0, Value.int 0 0, Value.int 0 0, Value.int 0 0, Value.ref 53, Value.bool false, Value.int 181 0, Value.ref 54, Value.none, Value.none, Value.none, Value.none, Value.int 266 0, Value.int 66 0, Value.str (Str.ofString "/claim/cut.py") 267] }
noncomputable abbrev o56 (P : Params) : Obj := { cls := Value.type "frame", slots := #[some (Value.ref 55), some (Value.ref 3), some (Value.ref 52), none, some (Value.str (Str.ofString "cpy313.ftplib") 259), none, some (Value.ref 0)] }
noncomputable abbrev o57 (P : Params) : Obj := { cls := Value.type "tuple", data := Data.seq #[] }
noncomputable abbrev o58 (P : Params) : Obj := { cls := Value.type "dict", data := Data.dict #[{ hash := PyData.keyHash P (Str.ofString "__module__"), key := Value.str (Str.ofString "__module__") 268, val := Value.str (Str.ofString "cpy313.ftplib") 259 }, { hash := PyData.keyHash P (Str.ofString "__firstlineno__"), key := Value.str (Str.ofString "__firstlineno__") 272, val := Value.int 66 271 }, { hash := PyData.keyHash P (Str.ofString "__static_attributes__"), key := Value.str (Str.ofString "__static_attributes__") 273, val := Value.ref 57 }, { hash := PyData.keyHash P (Str.ofString "__weakref__"), key := Value.str (Str.ofString "__weakref__") 275, val := Value.ref 60 }, { hash := PyData.keyHash P (Str.ofString "__doc__"), key := Value.str (Str.ofString "__doc__") 276, val := Value.none }] 3 }
noncomputable abbrev o59 (P : Params) : Obj := { cls := Value.type "type", data := Data.cls { name := Str.ofString "Error", bases := [Value.type "Exception"], mro := [Value.ref 59, Value.type "Exception", Value.type "BaseException", Value.type "object"], ns := 58, qualname := Str.ofString "Error", subclasses := [Value.ref 72] }, slots := #[some (Value.ref 50), none, some (Value.str (Str.ofString "Error") 261), some (Value.str (Str.ofString "Error") 269), some (Value.builtin "Exception.__new__"), some (Value.bool true)] }
noncomputable abbrev o60 (P : Params) : Obj := { cls := Value.type "getset_descriptor", data := Data.fields #[Value.str (Str.ofString "__weakref__") 274, Value.ref 59, Value.builtin "ExceptionGroup.__weakref__", Value.none] }
noncomputable abbrev o61 (P : Params) : Obj := { cls := Value.type "super", data := Data.fields #[Value.ref 59, Value.ref 59, Value.ref 59] }
noncomputable abbrev o62 (P : Params) : Obj := { cls := Value.type "builtin_function_or_method", data := Data.fields #[Value.builtin "object.__init_subclass__", Value.ref 59] }
noncomputable abbrev o63 (P : Params) : Obj := { cls := Value.type "tuple", data := Data.seq #[Value.ref 59] }
noncomputable abbrev o64 (P : Params) : Obj := { cls := Value.type "builtin_function_or_method", data := Data.fields #[Value.builtin "type.__prepare__", Value.type "type"] }
noncomputable abbrev o65 (P : Params) : Obj := { cls := Value.type "dict", data := Data.dict #[{ hash := PyData.keyHash P (Str.ofString "__module__"), key := Value.str (Str.ofString "__module__") 288, val := Value.str (Str.ofString "cpy313.ftplib") 259 }, { hash := PyData.keyHash P (Str.ofString "__qualname__"), key := Value.str (Str.ofString "__qualname__") 290, val := Value.str (Str.ofString "error_reply") 289 }, { hash := PyData.keyHash P (Str.ofString "__firstlineno__"), key := Value.str (Str.ofString "__firstlineno__") 292, val := Value.int 68 291 }, { hash := PyData.keyHash P (Str.ofString "__static_attributes__"), key := Value.str (Str.ofString "__static_attributes__") 293, val := Value.ref 70 }] 4 }
noncomputable abbrev o66 (P : Params) : Obj := { cls := Value.type "tuple", data := Data.seq #[] }
noncomputable abbrev o67 (P : Params) : Obj := { cls := Value.none, data := Data.fields #[] }
noncomputable abbrev o68 (P : Params) : Obj := { cls := Value.type "code", data := Data.fields #[Value.str (Str.ofString "error_reply") 283, Value.str (Str.ofString "error_reply") 284, Value.str (Str.ofString "/claim/cut.py") 285, Value.int 68 0, Value.int 0 0, Value.int 0 0, Value.int 0 0, Value.int 0 0, Value.ref 66, Value.bool false, Value.int 181 0, Value.ref 67, Value.none, Value.none, Value.none, Value.none, Value.int 286 0, Value.int 68 0, Value.str (Str.ofString "/claim/cut.py") 287] }
noncomputable abbrev o69 (P : Params) : Obj := { cls := Value.type "frame", slots := #[some (Value.ref 68), some (Value.ref 3), some (Value.ref 65), none, some (Value.str (Str.ofString "cpy313.ftplib") 259), none, some (Value.ref 0)] }
noncomputable abbrev o70 (P : Params) : Obj := { cls := Value.type "tuple", data := Data.seq #[] }
noncomputable abbrev o71 (P : Params) : Obj := { cls := Value.type "dict", data := Data.dict #[{ hash := PyData.keyHash P (Str.ofString "__module__"), key := Value.str (Str.ofString "__module__") 288, val := Value.str (Str.ofString "cpy313.ftplib") 259 }, { hash := PyData.keyHash P (Str.ofString "__firstlineno__"), key := Value.str (Str.ofString "__firstlineno__") 292, val := Value.int 68 291 }, { hash := PyData.keyHash P (Str.ofString "__static_attributes__"), key := Value.str (Str.ofString "__static_attributes__") 293, val := Value.ref 70 }, { hash := PyData.keyHash P (Str.ofString "__doc__"), key := Value.str (Str.ofString "__doc__") 294, val := Value.none }] 2 }
noncomputable abbrev o72 (P : Params) : Obj := { cls := Value.type "type", data := Data.cls { name := Str.ofString "error_reply", bases := [Value.ref 59], mro := [Value.ref 72, Value.ref 59, Value.type "Exception", Value.type "BaseException", Value.type "object"], ns := 71, qualname := Str.ofString "error_reply" }, slots := #[some (Value.ref 63), none, some (Value.str (Str.ofString "error_reply") 281), some (Value.str (Str.ofString "error_reply") 289), some (Value.builtin "Exception.__new__"), some (Value.bool true)] }
noncomputable abbrev o73 (P : Params) : Obj := { cls := Value.type "super", data := Data.fields #[Value.ref 72, Value.ref 72, Value.ref 72] }
noncomputable abbrev o74 (P : Params) : Obj := { cls := Value.type "builtin_function_or_method", data := Data.fields #[Value.builtin "object.__init_subclass__", Value.ref 72] }
noncomputable abbrev o75 (P : Params) : Obj := { cls := Value.type "tuple", data := Data.seq #[] }
noncomputable abbrev o76 (P : Params) : Obj := { cls := Value.none, data := Data.fields #[] }
noncomputable abbrev o77 (P : Params) : Obj := { cls := Value.type "tuple", data := Data.seq #[Value.str (Str.ofString "resp") 300, Value.str (Str.ofString "dirname") 301, Value.str (Str.ofString "i") 302, Value.str (Str.ofString "n") 303, Value.str (Str.ofString "c") 304] }
noncomputable abbrev o78 (P : Params) : Obj := { cls := Value.type "tuple", data := Data.seq #[] }
noncomputable abbrev o79 (P : Params) : Obj := tmO (st 10)
noncomputable abbrev o80 (P : Params) : Obj := { cls := Value.type "code", data := Data.fields #[Value.str (Str.ofString "parse257") 297, Value.str (Str.ofString "parse257") 298, Value.str (Str.ofString "/claim/cut.py") 299, Value.int 70 0, Value.int 1 0, Value.int 0 0, Value.int 0 0, Value.int 3 0, Value.ref 75, Value.bool true, Value.int 181 0, Value.ref 76, Value.none, Value.ref 77, Value.ref 78, Value.ref 79, Value.int 305 0, Value.int 70 0, Value.str (Str.ofString "/claim/cut.py") 306] }
noncomputable abbrev o81 (P : Params) : Obj := fnO (st 10) (Value.str (Str.ofString "cpy313.ftplib") 259) (Value.ref 80)
noncomputable abbrev o82 (P : Params) : Obj := { cls := Value.type "list", data := Data.seq #[Value.int 173 310, Value.int 847 311, Value.int 6150 312, Value.int 6155 313, Value.int 6156 314, Value.int 6157 315, Value.int 8203 316, Value.int 8204 317, Value.int 8205 318, Value.int 8288 319, Value.int 65279 320] }
noncomputable abbrev o83 (P : Params) : Obj := { cls := Value.type "range", data := Data.fields #[Value.int 65024 321, Value.int 65040 322, Value.int 1 323] }
noncomputable abbrev o84 (P : Params) : Obj := { cls := Value.type "list", data := Data.seq #[Value.int 65024 326, Value.int 65025 327, Value.int 65026 328, Value.int 65027 329, Value.int 65028 330, Value.int 65029 331, Value.int 65030 332, Value.int 65031 333, Value.int 65032 334, Value.int 65033 335, Value.int 65034 336, Value.int 65035 337, Value.int 65036 338, Value.int 65037 339, Value.int 65038 340, Value.int 65039 341] 18 }
noncomputable abbrev o85 (P : Params) : Obj := { cls := Value.type "range_iterator", data := Data.fields #[Value.int 65040 0, Value.int 0 0, Value.int 1 0] }
noncomputable abbrev o86 (P : Params) : Obj := { cls := Value.type "tuple", data := Data.seq #[] }
noncomputable abbrev o87 (P : Params) : Obj := { cls := Value.type "StopIteration", data := Data.fields #[Value.ref 86, Value.none, Value.none, Value.none, Value.bool false, Value.none] }
noncomputable abbrev o88 (P : Params) : Obj := { cls := Value.type "list", data := Data.seq #[Value.int 173 310, Value.int 847 311, Value.int 6150 312, Value.int 6155 313, Value.int 6156 314, Value.int 6157 315, Value.int 8203 316, Value.int 8204 317, Value.int 8205 318, Value.int 8288 319, Value.int 65279 320, Value.int 65024 326, Value.int 65025 327, Value.int 65026 328, Value.int 65027 329, Value.int 65028 330, Value.int 65029 331, Value.int 65030 332, Value.int 65031 333, Value.int 65032 334, Value.int 65033 335, Value.int 65034 336, Value.int 65035 337, Value.int 65036 338, Value.int 65037 339, Value.int 65038 340, Value.int 65039 341] }
noncomputable abbrev o89 (P : Params) : Obj := setO P
noncomputable abbrev o90 (P : Params) : Obj := { cls := Value.type "list_iterator", data := Data.fields #[Value.none, Value.int 27 0] }
noncomputable abbrev o91 (P : Params) : Obj := { cls := Value.type "tuple", data := Data.seq #[] }
noncomputable abbrev o92 (P : Params) : Obj := { cls := Value.type "StopIteration", data := Data.fields #[Value.ref 91, Value.none, Value.none, Value.none, Value.bool false, Value.none] }
noncomputable abbrev o93 (P : Params) : Obj := { cls := Value.type "tuple", data := Data.seq #[] }
noncomputable abbrev o94 (P : Params) : Obj := { cls := Value.none, data := Data.fields #[] }
noncomputable abbrev o95 (P : Params) : Obj := { cls := Value.type "tuple", data := Data.seq #[Value.str (Str.ofString "code") 373] }
noncomputable abbrev o96 (P : Params) : Obj := { cls := Value.type "tuple", data := Data.seq #[] }
noncomputable abbrev o97 (P : Params) : Obj := tmO (st 13)
noncomputable abbrev o98 (P : Params) : Obj := { cls := Value.type "code", data := Data.fields #[Value.str (Str.ofString "in_table_b1") 370, Value.str (Str.ofString "in_table_b1") 371, Value.str (Str.ofString "/claim/cut.py") 372, Value.int 89 0, Value.int 1 0, Value.int 0 0, Value.int 0 0, Value.int 3 0, Value.ref 93, Value.bool true, Value.int 181 0, Value.ref 94, Value.none, Value.ref 95, Value.ref 96, Value.ref 97, Value.int 374 0, Value.int 89 0, Value.str (Str.ofString "/claim/cut.py") 375] }
noncomputable abbrev o99 (P : Params) : Obj := fnO (st 13) (Value.str (Str.ofString "cpy313.stringprep") 308) (Value.ref 98)
noncomputable abbrev o139 (P : Params) : Obj := { cls := Value.type "tuple", data := Data.seq #[] }
noncomputable abbrev o140 (P : Params) : Obj := { cls := Value.none, data := Data.fields #[] }
noncomputable abbrev o141 (P : Params) : Obj := { cls := Value.type "tuple", data := Data.seq #[Value.str (Str.ofString "code") 2331, Value.str (Str.ofString "r") 2332] }
noncomputable abbrev o142 (P : Params) : Obj := { cls := Value.type "tuple", data := Data.seq #[] }
noncomputable abbrev o143 (P : Params) : Obj := tmO (st 15)
noncomputable abbrev o144 (P : Params) : Obj := { cls := Value.type "code", data := Data.fields #[Value.str (Str.ofString "map_table_b3") 2328, Value.str (Str.ofString "map_table_b3") 2329, Value.str (Str.ofString "/claim/cut.py") 2330, Value.int 92 0, Value.int 1 0, Value.int 0 0, Value.int 0 0, Value.int 3 0, Value.ref 139, Value.bool true, Value.int 181 0, Value.ref 140, Value.none, Value.ref 141, Value.ref 142, Value.ref 143, Value.int 2333 0, Value.int 92 0, Value.str (Str.ofString "/claim/cut.py") 2334] }
noncomputable abbrev o145 (P : Params) : Obj := fnO (st 15) (Value.str (Str.ofString "cpy313.stringprep") 308) (Value.ref 144)
noncomputable abbrev o146 (P : Params) : Obj := { cls := Value.type "tuple", data := Data.seq #[] }
noncomputable abbrev o147 (P : Params) : Obj := { cls := Value.none, data := Data.fields #[] }
noncomputable abbrev o148 (P : Params) : Obj := { cls := Value.type "tuple", data := Data.seq #[Value.str (Str.ofString "pick") 2341, Value.str (Str.ofString "codes") 2342, Value.str (Str.ofString "several") 2343, Value.str (Str.ofString "kind") 2344, Value.str (Str.ofString "which") 2345, Value.str (Str.ofString "place") 2346] }
noncomputable abbrev o149 (P : Params) : Obj := { cls := Value.type "tuple", data := Data.seq #[] }
noncomputable abbrev o150 (P : Params) : Obj := tmO (st 17)
noncomputable abbrev o151 (P : Params) : Obj := { cls := Value.type "code", data := Data.fields #[Value.str (Str.ofString "_law_between") 2338, Value.str (Str.ofString "_law_between") 2339, Value.str (Str.ofString "/claim/cut.py") 2340, Value.int 98 0, Value.int 1 0, Value.int 0 0, Value.int 0 0, Value.int 3 0, Value.ref 146, Value.bool true, Value.int 181 0, Value.ref 147, Value.none, Value.ref 148, Value.ref 149, Value.ref 150, Value.int 2347 0, Value.int 98 0, Value.str (Str.ofString "/claim/cut.py") 2348] }
noncomputable abbrev o152 (P : Params) : Obj := fnO (st 17) (Value.str (Str.ofString "law_ul0019_01") 2336) (Value.ref 151)
noncomputable abbrev o153 (P : Params) : Obj := { cls := Value.type "tuple", data := Data.seq #[] }
noncomputable abbrev o154 (P : Params) : Obj := { cls := Value.none, data := Data.fields #[] }
noncomputable abbrev o155 (P : Params) : Obj := { cls := Value.type "tuple", data := Data.seq #[Value.str (Str.ofString "runs") 2353, Value.str (Str.ofString "signs") 2354, Value.str (Str.ofString "text") 2355, Value.str (Str.ofString "k") 2356] }
noncomputable abbrev o156 (P : Params) : Obj := { cls := Value.type "tuple", data := Data.seq #[] }
noncomputable abbrev o157 (P : Params) : Obj := tmO (st 18)
noncomputable abbrev o158 (P : Params) : Obj := { cls := Value.type "code", data := Data.fields #[Value.str (Str.ofString "_law_text") 2350, Value.str (Str.ofString "_law_text") 2351, Value.str (Str.ofString "/claim/cut.py") 2352, Value.int 112 0, Value.int 2 0, Value.int 0 0, Value.int 0 0, Value.int 3 0, Value.ref 153, Value.bool true, Value.int 181 0, Value.ref 154, Value.none, Value.ref 155, Value.ref 156, Value.ref 157, Value.int 2357 0, Value.int 112 0, Value.str (Str.ofString "/claim/cut.py") 2358] }
noncomputable abbrev o159 (P : Params) : Obj := fnO (st 18) (Value.str (Str.ofString "law_ul0019_01") 2336) (Value.ref 158)
noncomputable abbrev o160 (P : Params) : Obj := { cls := Value.type "tuple", data := Data.seq #[] }
noncomputable abbrev o161 (P : Params) : Obj := { cls := Value.none, data := Data.fields #[] }
noncomputable abbrev o162 (P : Params) : Obj := { cls := Value.type "tuple", data := Data.seq #[Value.str (Str.ofString "text") 2363, Value.str (Str.ofString "readings") 2364, Value.str (Str.ofString "turn") 2365] }
noncomputable abbrev o163 (P : Params) : Obj := { cls := Value.type "tuple", data := Data.seq #[] }
noncomputable abbrev o164 (P : Params) : Obj := tmO (st 19)
noncomputable abbrev o165 (P : Params) : Obj := { cls := Value.type "code", data := Data.fields #[Value.str (Str.ofString "_law_read") 2360, Value.str (Str.ofString "_law_read") 2361, Value.str (Str.ofString "/claim/cut.py") 2362, Value.int 117 0, Value.int 2 0, Value.int 0 0, Value.int 0 0, Value.int 3 0, Value.ref 160, Value.bool true, Value.int 181 0, Value.ref 161, Value.none, Value.ref 162, Value.ref 163, Value.ref 164, Value.int 2366 0, Value.int 117 0, Value.str (Str.ofString "/claim/cut.py") 2367] }
noncomputable abbrev o166 (P : Params) : Obj := fnO (st 19) (Value.str (Str.ofString "law_ul0019_01") 2336) (Value.ref 165)
noncomputable abbrev o167 (P : Params) : Obj := { cls := Value.type "tuple", data := Data.seq #[] }
noncomputable abbrev o168 (P : Params) : Obj := { cls := Value.none, data := Data.fields #[] }
noncomputable abbrev o169 (P : Params) : Obj := { cls := Value.type "tuple", data := Data.seq #[Value.str (Str.ofString "text") 2372, Value.str (Str.ofString "told") 2373, Value.str (Str.ofString "sign") 2374] }
noncomputable abbrev o170 (P : Params) : Obj := { cls := Value.type "tuple", data := Data.seq #[] }
noncomputable abbrev o171 (P : Params) : Obj := tmO (st 20)
noncomputable abbrev o172 (P : Params) : Obj := { cls := Value.type "code", data := Data.fields #[Value.str (Str.ofString "_law_prepared") 2369, Value.str (Str.ofString "_law_prepared") 2370, Value.str (Str.ofString "/claim/cut.py") 2371, Value.int 121 0, Value.int 1 0, Value.int 0 0, Value.int 0 0, Value.int 3 0, Value.ref 167, Value.bool true, Value.int 181 0, Value.ref 168, Value.none, Value.ref 169, Value.ref 170, Value.ref 171, Value.int 2375 0, Value.int 121 0, Value.str (Str.ofString "/claim/cut.py") 2376] }
noncomputable abbrev o173 (P : Params) : Obj := fnO (st 20) (Value.str (Str.ofString "law_ul0019_01") 2336) (Value.ref 172)
noncomputable abbrev o174 (P : Params) : Obj := { cls := Value.type "tuple", data := Data.seq #[] }
noncomputable abbrev o175 (P : Params) : Obj := { cls := Value.none, data := Data.fields #[] }
noncomputable abbrev o176 (P : Params) : Obj := { cls := Value.type "tuple", data := Data.seq #[Value.str (Str.ofString "runs") 2381, Value.str (Str.ofString "power") 2382, Value.str (Str.ofString "kept") 2383, Value.str (Str.ofString "run") 2384] }
noncomputable abbrev o177 (P : Params) : Obj := { cls := Value.type "tuple", data := Data.seq #[] }
noncomputable abbrev o178 (P : Params) : Obj := tmO (st 21)
noncomputable abbrev o179 (P : Params) : Obj := { cls := Value.type "code", data := Data.fields #[Value.str (Str.ofString "_law_halved") 2378, Value.str (Str.ofString "_law_halved") 2379, Value.str (Str.ofString "/claim/cut.py") 2380, Value.int 127 0, Value.int 2 0, Value.int 0 0, Value.int 0 0, Value.int 3 0, Value.ref 174, Value.bool true, Value.int 181 0, Value.ref 175, Value.none, Value.ref 176, Value.ref 177, Value.ref 178, Value.int 2385 0, Value.int 127 0, Value.str (Str.ofString "/claim/cut.py") 2386] }
noncomputable abbrev o180 (P : Params) : Obj := fnO (st 21) (Value.str (Str.ofString "law_ul0019_01") 2336) (Value.ref 179)
noncomputable abbrev o181 (P : Params) : Obj := { cls := Value.type "tuple", data := Data.seq #[] }
noncomputable abbrev o182 (P : Params) : Obj := { cls := Value.none, data := Data.fields #[] }
noncomputable abbrev o183 (P : Params) : Obj := { cls := Value.type "tuple", data := Data.seq #[Value.str (Str.ofString "runs") 2391, Value.str (Str.ofString "folds") 2392, Value.str (Str.ofString "groups") 2393, Value.str (Str.ofString "letters") 2394, Value.str (Str.ofString "k") 2395] }
noncomputable abbrev o184 (P : Params) : Obj := { cls := Value.type "tuple", data := Data.seq #[] }
noncomputable abbrev o185 (P : Params) : Obj := tmO (st 22)
noncomputable abbrev o186 (P : Params) : Obj := { cls := Value.type "code", data := Data.fields #[Value.str (Str.ofString "_law_groups") 2388, Value.str (Str.ofString "_law_groups") 2389, Value.str (Str.ofString "/claim/cut.py") 2390, Value.int 134 0, Value.int 2 0, Value.int 0 0, Value.int 0 0, Value.int 3 0, Value.ref 181, Value.bool true, Value.int 181 0, Value.ref 182, Value.none, Value.ref 183, Value.ref 184, Value.ref 185, Value.int 2396 0, Value.int 134 0, Value.str (Str.ofString "/claim/cut.py") 2397] }
noncomputable abbrev o187 (P : Params) : Obj := fnO (st 22) (Value.str (Str.ofString "law_ul0019_01") 2336) (Value.ref 186)
noncomputable abbrev o188 (P : Params) : Obj := { cls := Value.type "tuple", data := Data.seq #[] }
noncomputable abbrev o189 (P : Params) : Obj := { cls := Value.none, data := Data.fields #[] }
noncomputable abbrev o190 (P : Params) : Obj := { cls := Value.type "tuple", data := Data.seq #[Value.str (Str.ofString "runs") 2402, Value.str (Str.ofString "power") 2403, Value.str (Str.ofString "width") 2404, Value.str (Str.ofString "unit") 2405, Value.str (Str.ofString "laid") 2406, Value.str (Str.ofString "whole") 2407, Value.str (Str.ofString "told") 2408, Value.str (Str.ofString "left") 2409, Value.str (Str.ofString "digits") 2410, Value.str (Str.ofString "kept") 2411, Value.str (Str.ofString "digit") 2412] }
noncomputable abbrev o191 (P : Params) : Obj := { cls := Value.type "tuple", data := Data.seq #[] }
noncomputable abbrev o192 (P : Params) : Obj := tmO (st 23)
noncomputable abbrev o193 (P : Params) : Obj := { cls := Value.type "code", data := Data.fields #[Value.str (Str.ofString "_law_packed") 2399, Value.str (Str.ofString "_law_packed") 2400, Value.str (Str.ofString "/claim/cut.py") 2401, Value.int 144 0, Value.int 5 0, Value.int 0 0, Value.int 0 0, Value.int 3 0, Value.ref 188, Value.bool true, Value.int 181 0, Value.ref 189, Value.none, Value.ref 190, Value.ref 191, Value.ref 192, Value.int 2413 0, Value.int 144 0, Value.str (Str.ofString "/claim/cut.py") 2414] }
noncomputable abbrev o194 (P : Params) : Obj := fnO (st 23) (Value.str (Str.ofString "law_ul0019_01") 2336) (Value.ref 193)
noncomputable abbrev o195 (P : Params) : Obj := { cls := Value.type "tuple", data := Data.seq #[] }
noncomputable abbrev o196 (P : Params) : Obj := { cls := Value.none, data := Data.fields #[] }
noncomputable abbrev o197 (P : Params) : Obj := tmO (st 24)
noncomputable abbrev o198 (P : Params) : Obj := { cls := Value.type "code", data := Data.fields #[Value.str (Str.ofString "_law_rests") 2416, Value.str (Str.ofString "_law_rests") 2417, Value.str (Str.ofString "/claim/cut.py") 2418, Value.int 155 0, Value.int 2 0, Value.int 0 0, Value.int 0 0, Value.int 3 0, Value.ref 195, Value.bool true, Value.int 181 0, Value.ref 196, Value.none, Value.none, Value.none, Value.ref 197, Value.int 2419 0, Value.int 155 0, Value.str (Str.ofString "/claim/cut.py") 2420] }
noncomputable abbrev o199 (P : Params) : Obj := fnO (st 24) (Value.str (Str.ofString "law_ul0019_01") 2336) (Value.ref 198)
noncomputable abbrev o200 (P : Params) : Obj := { cls := Value.type "tuple", data := Data.seq #[] }
noncomputable abbrev o201 (P : Params) : Obj := { cls := Value.none, data := Data.fields #[] }
noncomputable abbrev o202 (P : Params) : Obj := tmO (st 25)
noncomputable abbrev o203 (P : Params) : Obj := { cls := Value.type "code", data := Data.fields #[Value.str (Str.ofString "law") 2422, Value.str (Str.ofString "law") 2423, Value.str (Str.ofString "/claim/cut.py") 2424, Value.int 157 0, Value.int 1 0, Value.int 0 0, Value.int 0 0, Value.int 3 0, Value.ref 200, Value.bool true, Value.int 181 0, Value.ref 201, Value.none, Value.none, Value.none, Value.ref 202, Value.int 2425 0, Value.int 157 0, Value.str (Str.ofString "/claim/cut.py") 2426] }
noncomputable abbrev o204 (P : Params) : Obj := fnO (st 25) (Value.str (Str.ofString "law_ul0019_01") 2336) (Value.ref 203)

noncomputable def mainL (P : Params) : List DictEntry := [keyE P "_DIV_LIMIT" 190 (Value.int 4000 189), keyE P "_div2n1n" 207 (Value.ref 21), keyE P "_div3n2n" 221 (Value.ref 28), keyE P "_int2digits" 232 (Value.ref 35), keyE P "_digits2int" 243 (Value.ref 42), keyE P "_divmod_pos" 258 (Value.ref 49), keyE P "Error" 280 (Value.ref 59), keyE P "error_reply" 296 (Value.ref 72), keyE P "parse257" 307 (Value.ref 81), keyE P "b1_set" 369 (Value.ref 89), keyE P "in_table_b1" 376 (Value.ref 99), keyE P "b3_exceptions" 2327 (Value.ref 100), keyE P "map_table_b3" 2335 (Value.ref 145), keyE P "_law_between" 2349 (Value.ref 152), keyE P "_law_text" 2359 (Value.ref 159), keyE P "_law_read" 2368 (Value.ref 166), keyE P "_law_prepared" 2377 (Value.ref 173), keyE P "_law_halved" 2387 (Value.ref 180), keyE P "_law_groups" 2398 (Value.ref 187), keyE P "_law_packed" 2415 (Value.ref 194), keyE P "_law_rests" 2421 (Value.ref 199), keyE P "law" 2427 (Value.ref 204)]
noncomputable def kidL : List Value := [Value.int 3 0, Value.int 0 0, Value.ref 20, Value.int 19 0, Value.int 0 0, Value.ref 27, Value.int 29 0, Value.int 0 0, Value.ref 34, Value.int 45 0, Value.int 0 0, Value.ref 41, Value.int 54 0, Value.int 0 0, Value.ref 48, Value.int 66 0, Value.int 0 0, Value.ref 55, Value.int 68 0, Value.int 0 0, Value.ref 68, Value.int 70 0, Value.int 0 0, Value.ref 80, Value.int 89 0, Value.int 0 0, Value.ref 98, Value.int 92 0, Value.int 0 0, Value.ref 144, Value.int 98 0, Value.int 0 0, Value.ref 151, Value.int 112 0, Value.int 0 0, Value.ref 158, Value.int 117 0, Value.int 0 0, Value.ref 165, Value.int 121 0, Value.int 0 0, Value.ref 172, Value.int 127 0, Value.int 0 0, Value.ref 179, Value.int 134 0, Value.int 0 0, Value.ref 186, Value.int 144 0, Value.int 0 0, Value.ref 193, Value.int 155 0, Value.int 0 0, Value.ref 198, Value.int 157 0, Value.int 0 0, Value.ref 203]

noncomputable def stat0 (P : Params) (b : Bool) : Obj := cond b { cls := .none, data := .dict #[keyE P "type.__subclasses__.Exception.0" 277 (.int 59 0), keyE P "type.__subclasses__.Exception.n" 278 (.int 1 0)] 2 } (boot_o_2 P)
noncomputable def err0 (b : Bool) : Obj := { cls := .type "type", data := .cls { name := "Error", bases := [.type "Exception"], mro := [.ref 59, .type "Exception", .type "BaseException", .type "object"], ns := 58, qualname := "Error", subclasses := cond b [.ref 72] [] }, slots := #[some (.ref 50), none, some (.str "Error" 261), some (.str "Error" 269), some (.builtin "Exception.__new__"), some (.bool true)] }
noncomputable def mainO (P : Params) (nm : Value) (k : Nat) : Obj := { cls := .type "dict", data := .dict ([keyE P "__name__" 165 nm, keyE P "__doc__" 166 .none, keyE P "__package__" 167 .none, keyE P "__loader__" 168 (.builtin "__main__.__loader__#opaque"), keyE P "__spec__" 169 .none,
  keyE P "__annotations__" 170 (.ref 6), keyE P "__builtins__" 171 (.ref 4), keyE P "__file__" 173 (.str "/claim/cut.py" 172), keyE P "__cached__" 174 .none] ++ (mainL P).take k).toArray (9 + k) }
noncomputable def kidO (k : Nat) : Obj := { cls := .none, data := .fields (kidL.take (3 * k)).toArray }
noncomputable def restL (P : Params) (b : Bool) : List Obj := [o13 P, o14 P, o15 P, o16 P, o17 P, o18 P, o19 P, o20 P, o21 P, o22 P, o23 P, o24 P, o25 P, o26 P, o27 P, o28 P, o29 P, o30 P, o31 P, o32 P, o33 P, o34 P, o35 P, o36 P, o37 P, o38 P, o39 P, o40 P, o41 P, o42 P, o43 P, o44 P, o45 P, o46 P, o47 P, o48 P, o49 P, o50 P, o51 P, o52 P, o53 P, o54 P, o55 P, o56 P, o57 P, o58 P] ++ err0 b :: [o60 P, o61 P, o62 P, o63 P, o64 P, o65 P, o66 P, o67 P, o68 P, o69 P, o70 P, o71 P, o72 P, o73 P, o74 P, o75 P, o76 P, o77 P, o78 P, o79 P, o80 P, o81 P, o82 P, o83 P, o84 P, o85 P, o86 P, o87 P, o88 P, o89 P, o90 P, o91 P, o92 P, o93 P, o94 P, o95 P, o96 P, o97 P, o98 P, o99 P] ++ dictO b3L 650 :: ((List.range 37).map fun j => subO (j + 1)) ++ lastO :: [o139 P, o140 P, o141 P, o142 P, o143 P, o144 P, o145 P, o146 P, o147 P, o148 P, o149 P, o150 P, o151 P, o152 P, o153 P, o154 P, o155 P, o156 P, o157 P, o158 P, o159 P, o160 P, o161 P, o162 P, o163 P, o164 P, o165 P, o166 P, o167 P, o168 P, o169 P, o170 P, o171 P, o172 P, o173 P, o174 P, o175 P, o176 P, o177 P, o178 P, o179 P, o180 P, o181 P, o182 P, o183 P, o184 P, o185 P, o186 P, o187 P, o188 P, o189 P, o190 P, o191 P, o192 P, o193 P, o194 P, o195 P, o196 P, o197 P, o198 P, o199 P, o200 P, o201 P, o202 P, o203 P, o204 P]
noncomputable def heapL (P : Params) (nm : Value) (k j : Nat) (stt b : Bool) : List Obj :=
  [boot_o_0 P, boot_o_1 P, stat0 P stt, mainO P nm k, boot_o_4 P, boot_o_5 P, boot_o_6 P, boot_o_7 P, boot_o_8 P, boot_o_9 P, boot_o_10 P, o11 P, kidO j] ++ restL P b
noncomputable def btL : List Obj → Nat → BT → BT
  | [], _, t => t
  | o :: r, i, t => btL r (i + 1) (t.ins i o)
noncomputable def stT (w : World) (os : OsState) (n toks : Nat) (nm : Value) (k j : Nat) (stt b : Bool) : SharedT :=
  { tree := btL ((heapL w.params nm k j stt b).take n) 0 .nil, n := n, life := {}, gens := #[], drawn := {}, toks := toks, os := os }
noncomputable def env0 : Env := { scope := pw.main.scope, locals := mainNs, globals := mainNs, cells := [], code := .ref 13, frame := some 14 }
noncomputable abbrev code0 : Code := .body (behindTheImports pw) env0
noncomputable def S0 (w : World) (os : OsState) : SharedT := stT w os 15 187 (Value.str (Str.ofString "__main__") 164) 0 0 false false
noncomputable def S1 (w : World) (os : OsState) : SharedT := stT w os 15 189 (Value.str (Str.ofString "cpy313._pylong") 187) 0 0 false false
noncomputable def S2 (w : World) (os : OsState) : SharedT := stT w os 15 191 (Value.str (Str.ofString "cpy313._pylong") 187) 1 0 false false
noncomputable def S3 (w : World) (os : OsState) : SharedT := stT w os 22 208 (Value.str (Str.ofString "cpy313._pylong") 187) 2 1 false false
noncomputable def S4 (w : World) (os : OsState) : SharedT := stT w os 29 222 (Value.str (Str.ofString "cpy313._pylong") 187) 3 2 false false
noncomputable def S5 (w : World) (os : OsState) : SharedT := stT w os 36 233 (Value.str (Str.ofString "cpy313._pylong") 187) 4 3 false false
noncomputable def S6 (w : World) (os : OsState) : SharedT := stT w os 43 244 (Value.str (Str.ofString "cpy313._pylong") 187) 5 4 false false
noncomputable def S7 (w : World) (os : OsState) : SharedT := stT w os 50 259 (Value.str (Str.ofString "cpy313._pylong") 187) 6 5 false false
noncomputable def S8 (w : World) (os : OsState) : SharedT := stT w os 50 261 (Value.str (Str.ofString "cpy313.ftplib") 259) 6 5 false false
noncomputable def S9 (w : World) (os : OsState) : SharedT := stT w os 63 281 (Value.str (Str.ofString "cpy313.ftplib") 259) 7 6 true false
noncomputable def S10 (w : World) (os : OsState) : SharedT := stT w os 75 297 (Value.str (Str.ofString "cpy313.ftplib") 259) 8 7 true true
noncomputable def S11 (w : World) (os : OsState) : SharedT := stT w os 82 308 (Value.str (Str.ofString "cpy313.ftplib") 259) 9 8 true true
noncomputable def S12 (w : World) (os : OsState) : SharedT := stT w os 82 310 (Value.str (Str.ofString "cpy313.stringprep") 308) 9 8 true true
noncomputable def S13 (w : World) (os : OsState) : SharedT := stT w os 93 370 (Value.str (Str.ofString "cpy313.stringprep") 308) 10 8 true true
noncomputable def S14 (w : World) (os : OsState) : SharedT := stT w os 100 377 (Value.str (Str.ofString "cpy313.stringprep") 308) 11 9 true true
noncomputable def S15 (w : World) (os : OsState) : SharedT := stT w os 139 2328 (Value.str (Str.ofString "cpy313.stringprep") 308) 12 9 true true
noncomputable def S16 (w : World) (os : OsState) : SharedT := stT w os 146 2336 (Value.str (Str.ofString "cpy313.stringprep") 308) 13 10 true true
noncomputable def S17 (w : World) (os : OsState) : SharedT := stT w os 146 2338 (Value.str (Str.ofString "law_ul0019_01") 2336) 13 10 true true
noncomputable def S18 (w : World) (os : OsState) : SharedT := stT w os 153 2350 (Value.str (Str.ofString "law_ul0019_01") 2336) 14 11 true true
noncomputable def S19 (w : World) (os : OsState) : SharedT := stT w os 160 2360 (Value.str (Str.ofString "law_ul0019_01") 2336) 15 12 true true
noncomputable def S20 (w : World) (os : OsState) : SharedT := stT w os 167 2369 (Value.str (Str.ofString "law_ul0019_01") 2336) 16 13 true true
noncomputable def S21 (w : World) (os : OsState) : SharedT := stT w os 174 2378 (Value.str (Str.ofString "law_ul0019_01") 2336) 17 14 true true
noncomputable def S22 (w : World) (os : OsState) : SharedT := stT w os 181 2388 (Value.str (Str.ofString "law_ul0019_01") 2336) 18 15 true true
noncomputable def S23 (w : World) (os : OsState) : SharedT := stT w os 188 2399 (Value.str (Str.ofString "law_ul0019_01") 2336) 19 16 true true
noncomputable def S24 (w : World) (os : OsState) : SharedT := stT w os 195 2416 (Value.str (Str.ofString "law_ul0019_01") 2336) 20 17 true true
noncomputable def S25 (w : World) (os : OsState) : SharedT := stT w os 200 2422 (Value.str (Str.ofString "law_ul0019_01") 2336) 21 18 true true
noncomputable def S26 (w : World) (os : OsState) : SharedT := stT w os 205 2428 (Value.str (Str.ofString "law_ul0019_01") 2336) 22 19 true true
end
-- D1
noncomputable section
noncomputable def Go (w : World) (n : Nat) (s : Shared) (t : Thread) (s' : Shared) (t' : Thread) : Prop := segGo treeTable pw w 11 (some (.ref 6)) 1 n s t = some (s', t')
theorem Go.trans {w : World} : ∀ {n m : Nat} {s s' s'' : Shared} {t t' t'' : Thread}, Go w n s t s' t' → Go w m s' t' s'' t'' → Go w (n + m) s t s'' t''
  | 0, m, s, s', s'', t, t', t'', h, k => by
    obtain ⟨rfl, rfl⟩ : s = s' ∧ t = t' := by simpa [Go, segGo] using h
    rw [Nat.zero_add]; exact k
  | n + 1, m, s, s', s'', t, t', t'', h, k => by
    unfold Go at h ⊢
    rw [show n + 1 + m = n + m + 1 by omega]
    unfold segGo at h ⊢
    cases he : endAt 1 t with
    | some f => rw [he] at h; cases h
    | none =>
      rw [he] at h
      cases hk : stepOk 11 (some (.ref 6)) t with
      | false => rw [hk] at h; cases h
      | true =>
        rw [hk] at h
        cases hs : step (denote treeTable) pw w s t with
        | halt o s₂ => rw [hs] at h; cases h
        | go s₂ t₂ => rw [hs] at h; exact Go.trans (w := w) h k
noncomputable abbrev TF : List Frame := [topFrame ⟨0, 0, 0, 0⟩]
/-- the tree m, met at the top's own frame, gives a in n steps, whatever is done with it -/
noncomputable def Ev {α : Type} (w : World) (n : Nat) (m : Sem α) (s : Shared) (p : Pos) (a : α) (s' : Shared) (p' : Pos) : Prop :=
  ∀ (K : α → Sem Fin) (H : Value → Sem Fin) (gd : Bool → Bool) (lv : List Value → List Value), Go w n s ⟨m.wrap K H gd lv, code0, p, TF⟩ s' ⟨K a, code0, p', TF⟩
section
variable {α β : Type} {w : World} {s s' s'' : Shared} {p p' p'' : Pos} {a : α} {b : β} {n k : Nat}
theorem Ev.pure : Ev w 0 (.pure a) s p a s p := fun _ _ _ _ => rfl
theorem Ev.pure' : Ev w 0 (Pure.pure a : Sem α) s p a s p := fun _ _ _ _ => rfl
theorem Ev.bind {m : Sem α} {f : α → Sem β} (x : Ev w n m s p a s' p') (y : Ev w k (f a) s' p' b s'' p'') : Ev w (n + k) (m >>= f) s p b s'' p'' := by
  intro K H gd lv
  have e : (m >>= f).wrap K H gd lv = m.wrap (fun a => (f a).wrap K H gd lv) H gd lv := by
    rw [Sem.bind_eq_wrap', Sem.wrap_wrap]; rfl
  rw [e]
  exact (x _ _ _ _).trans (y K H gd lv)
theorem Ev.keep {m : Sem α} {vs : List Value} (x : Ev w n m s p a s' p') : Ev w n (m.keep vs) s p a s' p' := by
  intro K H gd lv
  rw [Sem.keep_eq_wrap, Sem.wrap_wrap]
  exact x _ _ _ _
theorem Ev.holding {m : Sem α} {vs : List Value} (x : Ev w n m s p a s' p') : Ev w n (holding vs m) s p a s' p' := by
  rw [holding_eq_keep]; exact x.keep
theorem Ev.onRaise {m : Sem α} {h : Value → Sem Unit} (x : Ev w n m s p a s' p') : Ev w n (m.onRaise h) s p a s' p' := by
  intro K H gd lv
  rw [Sem.onRaise_eq_wrap, Sem.wrap_wrap]
  exact x _ _ _ _
theorem Ev.cast {m m' : Sem α} (x : Ev w n m s p a s' p') (e : m' = m) : Ev w n m' s p a s' p' := e ▸ x
theorem Ev.steps {m : Sem α} (x : Ev w n m s p a s' p') (e : n = k) : Ev w k m s p a s' p' := e ▸ x
end
section
variable {w : World} {h : Heap} {g : Array GenState} {d : Drawn} {t : Nat} {os : OsState} {p : Pos}
theorem ev_fresh : Ev w 1 fresh ⟨h, g, d, t, os⟩ p t ⟨h, g, d, t + 1, os⟩ p := fun _ _ _ _ => rfl
theorem ev_mkInt {i : Int} : Ev w 1 (mkInt i) ⟨h, g, d, t, os⟩ p (.int i t) ⟨h, g, d, t + 1, os⟩ p := fun _ _ _ _ => rfl
theorem ev_mkText {x : Str} : Ev w 1 (mkText x) ⟨h, g, d, t, os⟩ p (.str x t) ⟨h, g, d, t + 1, os⟩ p := fun _ _ _ _ => rfl
theorem ev_at {q : Pos} {s : Shared} : Ev w 1 (standAt q) s p () s q := fun _ _ _ _ => rfl
theorem ev_rule {q : String} {s : Shared} : Ev w 1 (rule q) s p () s p := fun _ _ _ _ => rfl
theorem ev_point {s : Shared} : Ev w 1 point s p () s p := fun _ _ _ _ => rfl
theorem ev_loadPart {a : Addr} {q : Option Value} {o : Obj} (ho : h.get? a = some o) : Ev w 1 (loadPart a q) ⟨h, g, d, t, os⟩ p o ⟨h, g, d, t, os⟩ p := by
  intro K H gd lv
  show segGo treeTable pw w 11 (some (.ref 6)) 1 1 _ ⟨.load a q fun x => K x, code0, p, TF⟩ = _
  unfold segGo
  rw [show endAt 1 ⟨.load a q fun x => K x, code0, p, TF⟩ = none from rfl, show stepOk 11 (some (.ref 6)) ⟨.load a q fun x => K x, code0, p, TF⟩ = true from rfl]
  simp only [step, ho]
  rfl
theorem ev_load {a : Addr} {o : Obj} (ho : h.get? a = some o) : Ev w 1 (load a) ⟨h, g, d, t, os⟩ p o ⟨h, g, d, t, os⟩ p := ev_loadPart (q := none) ho
theorem ev_updatePart {a : Addr} {q : Option Value} {o : Obj} {f : Obj → Obj} (ho : h.get? a = some o) (ha : Nat.ble 11 a = true) : Ev w 1 (updatePart a q f) ⟨h, g, d, t, os⟩ p () ⟨h.update a f, g, d, t, os⟩ p := by
  intro K H gd lv
  show segGo treeTable pw w 11 (some (.ref 6)) 1 1 _ ⟨.update a q f fun x => K x, code0, p, TF⟩ = _
  unfold segGo
  rw [show endAt 1 ⟨.update a q f fun x => K x, code0, p, TF⟩ = none from rfl, show stepOk 11 (some (.ref 6)) ⟨.update a q f fun x => K x, code0, p, TF⟩ = true from by
    show (Thread.calm _ && (Nat.ble 11 a || _ || _ || _)) = true
    rw [ha]; rfl]
  simp only [step, ho, Option.isSome_some, if_true]
  rfl
theorem ev_alloc {o : Obj} : Ev w 1 (alloc o) ⟨h, g, d, t, os⟩ p h.objs.size ⟨h.push o, g, d, t, os⟩ p := fun _ _ _ _ => rfl
end
noncomputable def GoHash (n : Nat) (h : Heap) (g : Array GenState) (d : Drawn) (t : Nat) (os : OsState) (p : Pos) (k : Int) (u : Tok) (K : Int → Sem Fin) (H : Value → Sem Fin) (gd : Bool → Bool) (lv : List Value → List Value) (w : World) : Prop :=
    Go w n ⟨h, g, d, t, os⟩ ⟨(pyHash (.int k u)).wrap K H gd lv, code0, p, TF⟩ ⟨h, g, d, t + 1, os⟩ ⟨(pyHashByItsType.reduced (rawHash k)).wrap K H gd lv, code0, p, TF⟩
theorem goHash (h : Heap) (g : Array GenState) (d : Drawn) (t : Nat) (os : OsState) (p : Pos) (k : Int) (u : Tok) (K : Int → Sem Fin) (H : Value → Sem Fin) (gd : Bool → Bool) (lv : List Value → List Value) (w : World) : GoHash 5 h g d t os p k u K H gd lv w :=
  byRow2 "special-get-raises" (P := GoHash 5 h g d t os p k u K H gd lv) (fun w => by unfold GoHash Go; kernel_rfl) (fun w => by unfold GoHash Go; kernel_rfl) w
section
variable {w : World} {h : Heap} {g : Array GenState} {d : Drawn} {t : Nat} {os : OsState} {p : Pos}
theorem rawHash_small {k : Int} (h0 : 0 ≤ k) (h1 : k < 2 ^ 60) : rawHash k = k := by
  unfold rawHash
  have e : ((k.natAbs : Int) % ((2 ^ 61 - 1 : Nat) : Int)) = k := by
    rw [Int.emod_eq_of_lt (by omega) (by omega)]; omega
  have a0 : ¬ k < 0 := by omega
  have a2 : (k == -1) = false := by rw [beq_eq_false_iff_ne]; omega
  simp only [e, if_neg a0, a2, Bool.false_eq_true, if_false]
theorem ev_hash {k : Int} {u : Tok} (h0 : 0 ≤ k) (h1 : k < 2 ^ 60) : Ev w 5 (pyHash (.int k u)) ⟨h, g, d, t, os⟩ p k ⟨h, g, d, t + 1, os⟩ p := by
  intro K H gd lv
  have e : (pyHashByItsType.reduced (rawHash k)) = (pure k : Sem Int) := by
    rw [rawHash_small h0 h1]
    unfold pyHashByItsType.reduced
    have a1 : (decide (-(2 ^ 63 : Int) ≤ k) && decide (k < 2 ^ 63)) = true := by
      rw [decide_eq_true (by omega), decide_eq_true (by omega)]; rfl
    have a2 : (k == -1) = false := by rw [beq_eq_false_iff_ne]; omega
    rw [if_pos a1, a2]; rfl
  have := goHash h g d t os p k u K H gd lv w
  unfold GoHash at this
  rw [e] at this
  exact this
noncomputable def NoHash (es : List DictEntry) (k : Int) : Prop := ∀ e ∈ es, e.hash ≠ k
theorem places_none {es : List DictEntry} {k : Int} (hn : NoHash es k) : placesWithHash es.toArray.size (fun i => es.toArray[i]?.map (·.hash)) k = [] := by
  unfold placesWithHash
  rw [List.filter_eq_nil_iff]
  intro i hi
  rw [List.mem_range] at hi
  have hi' : i < es.length := by simpa using hi
  have : es.toArray[i]? = some es[i] := by simp [hi']
  show ¬(Option.map (fun x => x.hash) es.toArray[i]? == some k) = true
  rw [this]
  simp only [Option.map_some, beq_iff_eq, Option.some.injEq]
  exact hn _ (List.getElem_mem hi')
theorem ev_dictFind {a : Addr} {es : List DictEntry} {n : Nat} {k : Int} {u : Tok} (ho : h.get? a = some (dictO es n)) (hn : NoHash es k) :
    Ev w 1 (dictFind a (.int k u) k) ⟨h, g, d, t, os⟩ p none ⟨h, g, d, t, os⟩ p := by
  unfold dictFind
  refine Ev.holding (Ev.steps (Ev.bind (n := 1) (k := 0) (a := es.toArray) (s' := ⟨h, g, d, t, os⟩) (p' := p) ?_ ?_) rfl)
  · unfold dictEntries
    refine Ev.steps (Ev.bind (ev_loadPart ho) (Ev.cast (m := pure es.toArray) Ev.pure' rfl)) rfl
  · dsimp only
    rw [places_none hn]
    exact Ev.cast (m := pure none) Ev.pure' rfl
theorem dict_pastItsLine {es : List DictEntry} {n : Nat} (hz : es.length ≤ 1000) : (dictO es n).data.pastItsLine = none := by
  show (if es.toArray.size > sizeLine + 1 then some "dict:memory" else none) = none
  rw [if_neg]
  rw [PySem.sizeLine_eq, List.size_toArray]; omega
theorem update_get {a : Addr} {o o' : Obj} {f : Obj → Obj} (ho : h.get? a = some o) (hf : f o = o') (hfree : o'.isFreed = false) : (h.update a f).get? a = some o' := by
  exact Heap.get?_update_self _ ho (by rw [hf]; exact hfree) |>.trans (by rw [hf])
theorem ev_push {a : Addr} {es : List DictEntry} {n : Nat} {e : DictEntry} {q : Option Value} (ha : Nat.ble 11 a = true) (ho : h.get? a = some (dictO es n)) (hz : es.length < 1000) :
    Ev w 3 (updateDictKeys a (·.push e) q) ⟨h, g, d, t, os⟩ p () ⟨h.update a (Obj.mapDictKeys (·.push e)), g, d, t, os⟩ p := by
  unfold updateDictKeys
  refine Ev.steps (Ev.bind (ev_loadPart ho) ?_) (rfl : 1 + 2 = 3)
  show Ev w 2 (updatePart a q (Obj.mapDictKeys (·.push e)) >>= fun _ => lookBehind a q) _ _ _ _ _
  refine Ev.steps (Ev.bind (ev_updatePart ho ha) ?_) (rfl : 1 + 1 = 2)
  unfold lookBehind
  have hm : Obj.mapDictKeys (·.push e) (dictO es n) = dictO (es ++ [e]) (n + 1) := by
    show Obj.mk _ _ (.dict (es.toArray.push e) (n + 1)) _ = _
    rw [List.push_toArray]; rfl
  refine Ev.steps (Ev.bind (ev_loadPart (update_get ho hm rfl)) ?_) (rfl : 1 + 0 = 1)
  rw [dict_pastItsLine (by rw [List.length_append]; simp; omega)]
  exact Ev.cast (m := pure ()) Ev.pure' rfl
end
end
-- D2
noncomputable section
section
variable {α β : Type} {w : World} {s s' s'' : Shared} {p p' p'' : Pos} {n k : Nat}
theorem ev_forIn_nil {f : α → β → Sem (ForInStep β)} {b : β} : Ev w 0 (forIn ([] : List α) b f) s p b s p := by
  rw [List.forIn_nil]; exact Ev.pure'
theorem ev_forIn_cons {f : α → β → Sem (ForInStep β)} {x : α} {l : List α} {b b' r : β} (h1 : Ev w n (f x b) s p (.yield b') s' p') (h2 : Ev w k (forIn l b' f) s' p' r s'' p'') :
    Ev w (n + k) (forIn (x :: l) b f) s p r s'' p'' := by
  rw [List.forIn_cons]
  exact Ev.bind h1 h2
theorem ev_for {f : α → β → Sem (ForInStep β)} {c : Nat} (St : Nat → Shared) (Ac : Nat → β) : ∀ (l : List α) (i₀ : Nat)
    (_ : ∀ i x, l[i]? = some x → Ev w c (f x (Ac (i₀ + i))) (St (i₀ + i)) p (.yield (Ac (i₀ + i + 1))) (St (i₀ + i + 1)) p),
    Ev w (c * l.length) (forIn l (Ac i₀) f) (St i₀) p (Ac (i₀ + l.length)) (St (i₀ + l.length)) p
  | [], i₀, _ => ev_forIn_nil
  | x :: l, i₀, step => by
    have h1 := step 0 x rfl
    have h2 := ev_for (f := f) (c := c) St Ac l (i₀ + 1) (fun i y hy => by
      have := step (i + 1) y hy
      rw [show i₀ + 1 + i = i₀ + (i + 1) by omega]
      exact this)
    have h3 := Ev.steps (ev_forIn_cons h1 h2) (show c + c * l.length = c * (x :: l).length by rw [List.length_cons, Nat.mul_add]; omega)
    rw [show i₀ + (x :: l).length = i₀ + 1 + l.length by rw [List.length_cons]; omega]
    exact h3
end
noncomputable def hp (A l : List Obj) : Heap := ⟨⟨A ++ l⟩, {}⟩
section
variable {A l : List Obj} (hA : A.length = 100)
include hA
theorem hp_size : (hp A l).objs.size = 100 + l.length := by
  show (A ++ l).length = _
  rw [List.length_append, hA]
theorem hp_push {o : Obj} : (hp A l).push o = hp A (l ++ [o]) := by
  show Heap.mk ((A ++ l).toArray.push o) _ = _
  rw [List.push_toArray, List.append_assoc]; rfl
theorem hp_at {i : Nat} : (hp A l).objs[100 + i]? = l[i]? := by
  show (A ++ l).toArray[100 + i]? = _
  rw [List.getElem?_toArray, List.getElem?_append_right (by omega), hA]
  congr 1; omega
theorem hp_get {i : Nat} {es : List DictEntry} {n : Nat} (h : l[i]? = some (dictO es n)) : (hp A l).get? (100 + i) = some (dictO es n) := by
  unfold Heap.get?
  rw [hp_at hA, h]; rfl
theorem hp_update {i : Nat} {o : Obj} {f : Obj → Obj} (h : l[i]? = some o) : (hp A l).update (100 + i) f = hp A (l.set i (f o)) := by
  show Heap.mk ((A ++ l).toArray.modify (100 + i) f) _ = Heap.mk (A ++ l.set i (f o)).toArray _
  congr 1
  have hi : i < l.length := (List.getElem?_eq_some_iff.mp h).1
  have hv : l[i] = o := (List.getElem?_eq_some_iff.mp h).2
  rw [List.modify_toArray]
  congr 1
  apply List.ext_getElem?
  intro j
  rw [List.getElem?_modify]
  by_cases hj : j < 100
  · rw [List.getElem?_append_left (by omega), List.getElem?_append_left (by omega)]
    have : ¬ (100 + i = j) := by omega
    simp [this]
  · rw [List.getElem?_append_right (by omega), List.getElem?_append_right (by omega), hA, List.getElem?_set]
    by_cases e : j = 100 + i
    · subst e
      have : 100 + i - 100 = i := by omega
      simp [this, hi, hv]
    · have h1 : ¬ (100 + i = j) := by omega
      have h2 : ¬ (i = j - 100) := by omega
      simp [h1, h2]
end
theorem push_dictO (es : List DictEntry) (n : Nat) (e : DictEntry) : Obj.mapDictKeys (·.push e) (dictO es n) = dictO (es ++ [e]) (n + 1) := by
  show Obj.mk _ _ (.dict (es.toArray.push e) (n + 1)) _ = _
  rw [List.push_toArray]; rfl
section
variable {w : World} {A l : List Obj} {g : Array GenState} {d : Drawn} {t : Nat} {os : OsState} {p : Pos}
theorem ev_dictPut (hA : A.length = 100) {i : Nat} {es : List DictEntry} {n : Nat} {k : Int} {u : Tok} {v : Value} (ho : l[i]? = some (dictO es n)) (hn : NoHash es k) (hz : es.length < 1000) :
    Ev w 4 (dictPut (100 + i) k (.int k u) v) ⟨hp A l, g, d, t, os⟩ p () ⟨hp A (l.set i (dictO (es ++ [⟨k, .int k u, v⟩]) (n + 1))), g, d, t, os⟩ p := by
  unfold dictPut
  refine Ev.steps (Ev.bind (ev_dictFind (hp_get hA ho) hn) ?_) (rfl : 1 + 3 = 4)
  have := ev_push (w := w) (g := g) (d := d) (t := t) (os := os) (p := p) (q := none) (e := ⟨k, .int k u, v⟩) (Nat.ble_eq.mpr (by omega) : Nat.ble 11 (100 + i) = true) (hp_get hA ho) hz
  rw [hp_update hA ho, push_dictO] at this
  exact this
theorem ev_dictSet (hA : A.length = 100) {i : Nat} {es : List DictEntry} {n : Nat} {k : Int} {u : Tok} {v : Value} (ho : l[i]? = some (dictO es n)) (hn : NoHash es k) (hz : es.length < 1000) (h0 : 0 ≤ k) (h1 : k < 2 ^ 60) :
    Ev w 10 (dictSet (100 + i) (.int k u) v) ⟨hp A l, g, d, t, os⟩ p () ⟨hp A (l.set i (dictO (es ++ [⟨k, .int k u, v⟩]) (n + 1))), g, d, t + 1, os⟩ p := by
  unfold dictSet
  refine Ev.holding (Ev.steps (Ev.bind (ev_hash h0 h1) ?_) (rfl : 5 + 5 = 10))
  unfold dictSetHashed
  refine Ev.holding (Ev.steps (Ev.bind (ev_dictFind (hp_get hA ho) hn) ?_) (rfl : 1 + 4 = 5))
  refine Ev.steps (Ev.bind ev_rule ?_) (rfl : 1 + 3 = 4)
  have := ev_push (w := w) (g := g) (d := d) (t := t + 1) (os := os) (p := p) (q := keyPart (.int k u)) (e := ⟨k, .int k u, v⟩) (Nat.ble_eq.mpr (by omega) : Nat.ble 11 (100 + i) = true) (hp_get hA ho) hz
  rw [hp_update hA ho, push_dictO] at this
  exact this
end
/-- the display's pair for a key and a text, as the evaluator lays them -/
noncomputable def prOf (q : Pos) (x : Int × Str) : Sem Value × Sem Value := (mkInt x.1, mkText x.2 >>= fun v => standAt q >>= fun _ => pure v)
noncomputable def itOf (q : Pos) (x : Int × Str) : Option (Sem Value) × Sem Value := (some (prOf q x).1, (prOf q x).2)
noncomputable abbrev Rising (c : List (Int × Str)) : Prop := c.Pairwise (fun a b => a.1 < b.1)
noncomputable def Small (c : List (Int × Str)) : Prop := ∀ x ∈ c, 0 ≤ x.1 ∧ x.1 < 2 ^ 60
theorem entG_snoc : ∀ (c : List (Int × Str)) (t : Nat) (x : Int × Str), entG t (c ++ [x]) = entG t c ++ [⟨x.1, .int x.1 (t + 3 * c.length), .str x.2 (t + 3 * c.length + 1)⟩]
  | [], t, x => rfl
  | y :: c, t, x => by
    show _ :: entG (t + 3) (c ++ [x]) = _ :: (entG (t + 3) c ++ _)
    rw [entG_snoc c, show t + 3 + 3 * c.length = t + 3 * (y :: c).length by rw [List.length_cons]; omega]
theorem entS_snoc : ∀ (c : List (Int × Str)) (t : Nat) (x : Int × Str), entS t (c ++ [x]) = entS t c ++ [⟨x.1, .int x.1 (t + 2 * c.length), .str x.2 (t + 2 * c.length + 1)⟩]
  | [], t, x => rfl
  | y :: c, t, x => by
    show _ :: entS (t + 2) (c ++ [x]) = _ :: (entS (t + 2) c ++ _)
    rw [entS_snoc c, show t + 2 + 2 * c.length = t + 2 * (y :: c).length by rw [List.length_cons]; omega]
theorem entG_append : ∀ (c e : List (Int × Str)) (t : Nat), entG t (c ++ e) = entG t c ++ entG (t + 3 * c.length) e
  | [], e, t => rfl
  | y :: c, e, t => by
    show _ :: entG (t + 3) (c ++ e) = _ :: (entG (t + 3) c ++ _)
    rw [entG_append c, show t + 3 + 3 * c.length = t + 3 * (y :: c).length by rw [List.length_cons]; omega]
theorem entG_hash : ∀ (c : List (Int × Str)) (t : Nat), (entG t c).map (·.hash) = c.map (·.1)
  | [], _ => rfl
  | y :: c, t => by
    show y.1 :: (entG (t + 3) c).map _ = y.1 :: _
    rw [entG_hash c]
theorem entS_hash : ∀ (c : List (Int × Str)) (t : Nat), (entS t c).map (·.hash) = c.map (·.1)
  | [], _ => rfl
  | y :: c, t => by
    show y.1 :: (entS (t + 2) c).map _ = y.1 :: _
    rw [entS_hash c]
theorem entG_len (c : List (Int × Str)) (t : Nat) : (entG t c).length = c.length := by
  have := congrArg List.length (entG_hash c t); simpa using this
theorem entS_len (c : List (Int × Str)) (t : Nat) : (entS t c).length = c.length := by
  have := congrArg List.length (entS_hash c t); simpa using this
theorem noHash_of {es : List DictEntry} {c : List (Int × Str)} {k : Int} (e : es.map (·.hash) = c.map (·.1)) (h : ∀ x ∈ c, x.1 ≠ k) : NoHash es k := by
  intro y hy
  have : y.hash ∈ es.map (·.hash) := List.mem_map_of_mem hy
  rw [e] at this
  obtain ⟨x, hx, hxe⟩ := List.mem_map.mp this
  rw [← hxe]; exact h x hx
theorem rising_take {c : List (Int × Str)} (r : Rising c) {i : Nat} {x : Int × Str} (hx : c[i]? = some x) : ∀ y ∈ c.take i, y.1 ≠ x.1 := by
  intro y hy
  obtain ⟨j, hj, rfl⟩ := List.getElem_of_mem hy
  have hi : i < c.length := (List.getElem?_eq_some_iff.mp hx).1
  have hv : c[i] = x := (List.getElem?_eq_some_iff.mp hx).2
  have hj' : j < i := by have := hj; rw [List.length_take] at this; omega
  have h1 := List.pairwise_iff_getElem.mp r j i (by omega) hi hj'
  rw [hv] at h1
  rw [List.getElem_take]
  omega
theorem take_succ' {c : List (Int × Str)} {i : Nat} {x : Int × Str} (hx : c[i]? = some x) : c.take (i + 1) = c.take i ++ [x] := by
  rw [List.take_succ, hx]; rfl
theorem take_len {c : List (Int × Str)} {i : Nat} {x : Int × Str} (hx : c[i]? = some x) : (c.take i).length = i := by
  have hi : i < c.length := (List.getElem?_eq_some_iff.mp hx).1
  rw [List.length_take]; omega
section
variable {w : World} {A l : List Obj} {g : Array GenState} {d : Drawn} {t : Nat} {os : OsState} {p : Pos}
theorem ev_subLong (hA : A.length = 100) {c : List (Int × Str)} (r : Rising c) (sm : Small c) (h15 : 15 < c.length) (hz : c.length < 1000) :
    Ev w (2 + 13 * c.length) (subDict (c.map (prOf p))) ⟨hp A l, g, d, t, os⟩ p (100 + l.length) ⟨hp A (l ++ [dictO (entG t c) c.length]), g, d, t + 3 * c.length, os⟩ p := by
  unfold subDict
  refine Ev.steps (Ev.bind (n := 1) (k := 1 + 13 * c.length) (a := 100 + l.length) (s' := ⟨hp A (l ++ [dictO [] 0]), g, d, t, os⟩) (p' := p) ?_ ?_) (by omega)
  · have := ev_alloc (w := w) (h := hp A l) (g := g) (d := d) (t := t) (os := os) (p := p) (o := dictO [] 0)
    rw [hp_size hA, hp_push hA] at this
    exact this
  refine Ev.steps (Ev.bind (n := 1 + 13 * c.length) (k := 0) (a := ()) ?_ Ev.pure') (by omega)
  refine Ev.holding ?_
  rw [if_neg (by rw [List.length_map]; omega)]
  refine Ev.bind ev_rule ?_
  refine Ev.steps (Ev.bind (n := 13 * c.length) (k := 0) (a := PUnit.unit) ?_ Ev.pure') (by omega)
  have F := ev_for (w := w) (p := p) (c := 13) (fun i => ⟨hp A (l ++ [dictO (entG t (c.take i)) i]), g, d, t + 3 * i, os⟩) (fun _ => PUnit.unit) (c.map (prOf p)) 0
    (f := fun x __s => match x with | (k, v) => do { let kv ← k; let vv ← holding [kv] v; holding [kv, vv] (dictSet (100 + l.length) kv vv); pure (ForInStep.yield PUnit.unit) }) ?_
  · rw [List.length_map, Nat.zero_add, List.take_length] at F
    exact F
  intro i x hx
  rw [List.getElem?_map] at hx
  obtain ⟨y, hy, rfl⟩ := Option.map_eq_some_iff.mp hx
  rw [Nat.zero_add, take_succ' hy, entG_snoc, take_len hy]
  show Ev w 13 (mkInt y.1 >>= fun kv => holding [kv] (mkText y.2 >>= fun v => standAt p >>= fun _ => pure v) >>= fun vv => holding [kv, vv] (dictSet (100 + l.length) kv vv) >>= fun _ => pure (ForInStep.yield PUnit.unit)) _ _ _ _ _
  refine Ev.steps (Ev.bind ev_mkInt ?_) (rfl : 1 + 12 = 13)
  refine Ev.steps (Ev.bind (Ev.holding (Ev.bind ev_mkText (Ev.bind ev_at Ev.pure'))) ?_) (rfl : (1 + (1 + 0)) + 10 = 12)
  refine Ev.steps (Ev.bind (Ev.holding (ev_dictSet (es := entG t (c.take i)) (n := i) hA (by simp) (noHash_of (entG_hash _ _) (rising_take r hy)) ?_ (sm y (List.mem_of_getElem? hy)).1 (sm y (List.mem_of_getElem? hy)).2)) ?_) (rfl : 10 + 0 = 10)
  · rw [entG_len, take_len hy]
    have := (List.getElem?_eq_some_iff.mp hy).1
    omega
  · rw [List.set_append_right _ _ (Nat.le_refl _), Nat.sub_self, List.set_cons_zero]
    exact Ev.pure'
end
end
-- D3
noncomputable section
section
variable {w : World} {A l : List Obj} {g : Array GenState} {d : Drawn} {t : Nat} {os : OsState} {p : Pos}
theorem sub_dict_dict : isSubtype (.type "dict") (.type "dict") = pure true := by rw [isSubtype_type]; kernel_rfl
theorem iter_dict : typeLookup (.type "dict") "__iter__" = pure (some (.builtin "dict.__iter__")) := by rw [typeLookup_type, builtinLookup_eq_fast]; kernel_rfl
/-- what a merge adds of the entries of a chunk -/
structure Fits (es sub : List DictEntry) : Prop where
  key : ∀ e ∈ sub, ∃ u, e.key = .int e.hash u
  apart : ∀ i e, sub[i]? = some e → NoHash (es ++ sub.take i) e.hash
theorem ev_merge (hA : A.length = 100) {es sub : List DictEntry} {n m j : Nat} (h0 : l[0]? = some (dictO es n)) (hj : l[j]? = some (dictO sub m)) (hj0 : j ≠ 0) (ft : Fits es sub) (hne : es ≠ []) (hz : es.length + sub.length < 1000) :
    Ev w (5 + 6 * sub.length) (mergeMapping 100 (.ref (100 + j)) false) ⟨hp A l, g, d, t, os⟩ p () ⟨hp A (l.set 0 (dictO (es ++ sub) (n + sub.length))), g, d, t, os⟩ p := by
  have hgj := hp_get hA hj
  unfold mergeMapping
  refine Ev.steps (Ev.bind (n := 1) (k := 4 + 6 * sub.length) (a := true) (s' := ⟨hp A l, g, d, t, os⟩) (p' := p) ?_ ?_) (by omega)
  · unfold isInstance
    refine Ev.steps (Ev.bind (n := 1) (k := 0) (a := Value.type "dict") (s' := ⟨hp A l, g, d, t, os⟩) (p' := p) ?_ ?_) rfl
    · exact Ev.steps (Ev.bind (ev_loadPart hgj) (Ev.cast (m := pure (Value.type "dict")) Ev.pure' rfl)) rfl
    · rw [sub_dict_dict]; exact Ev.pure'
  dsimp only
  rw [if_pos rfl]
  refine Ev.steps (Ev.bind (n := 1) (k := 3 + 6 * sub.length) (a := some (.builtin "dict.__iter__")) (s' := ⟨hp A l, g, d, t, os⟩) (p' := p) ?_ ?_) (by omega)
  · unfold specialOf
    refine Ev.steps (Ev.bind (n := 1) (k := 0) (a := Value.type "dict") (s' := ⟨hp A l, g, d, t, os⟩) (p' := p) ?_ ?_) rfl
    · exact Ev.steps (Ev.bind (ev_loadPart hgj) (Ev.cast (m := pure (Value.type "dict")) Ev.pure' rfl)) rfl
    · rw [iter_dict]; exact Ev.pure'
  refine Ev.steps (Ev.bind (n := 0) (k := 3 + 6 * sub.length) (a := true) Ev.pure' ?_) (by omega)
  try dsimp only
  rw [if_neg (by rw [show ((100 + j == sysModules) = true) ↔ (100 + j = 1) from beq_iff_eq]; omega)]
  refine Ev.steps (Ev.bind (n := 1) (k := 2 + 6 * sub.length) (a := es.toArray) (s' := ⟨hp A l, g, d, t, os⟩) (p' := p) ?_ ?_) (by omega)
  · exact Ev.steps (Ev.bind (ev_loadPart (hp_get hA h0)) (Ev.cast (m := pure es.toArray) Ev.pure' rfl)) rfl
  try dsimp only
  rw [if_neg (by simpa using hne)]
  refine Ev.steps (Ev.bind (n := 1) (k := 1 + 6 * sub.length) (a := sub.toArray) (s' := ⟨hp A l, g, d, t, os⟩) (p' := p) ?_ ?_) (by omega)
  · exact Ev.steps (Ev.bind (ev_loadPart hgj) (Ev.cast (m := pure sub.toArray) Ev.pure' rfl)) rfl
  refine Ev.steps (Ev.bind (n := 1) (k := 6 * sub.length) (a := m) (s' := ⟨hp A l, g, d, t, os⟩) (p' := p) ?_ ?_) (by omega)
  · exact Ev.steps (Ev.bind (ev_loadPart hgj) (Ev.cast (m := pure m) Ev.pure' rfl)) rfl
  refine Ev.steps (Ev.bind (n := 6 * sub.length) (k := 0) (a := PUnit.unit) (s' := ⟨hp A (l.set 0 (dictO (es ++ sub) (n + sub.length))), g, d, t, os⟩) (p' := p) ?_ Ev.pure') (by omega)
  have F := ev_for (w := w) (p := p) (c := 6) (fun i => ⟨hp A (l.set 0 (dictO (es ++ sub.take i) (n + i))), g, d, t, os⟩) (fun _ => PUnit.unit) (List.range sub.toArray.size) 0
    (f := fun i __s => do
              let __do_lift ← dictEntries (100 + j)
              match __do_lift[i]? with
                | some e => do
                  holding [e.key, e.val] (dictPut 100 e.hash e.key e.val)
                  let __do_lift ← dictEpoch (100 + j)
                  if (__do_lift != m) = true then do
                      unsupported "dict.changed-during-merge"
                      pure (ForInStep.yield PUnit.unit)
                    else pure (ForInStep.yield PUnit.unit)
                | x => do
                  unsupported "dict.changed-during-merge"
                  pure (ForInStep.yield PUnit.unit)) ?_
  · rw [List.length_range, List.size_toArray, Nat.zero_add, List.take_length, List.take_zero, List.append_nil, Nat.add_zero] at F
    have e0 : l.set 0 (dictO es n) = l := by
      cases l with
      | nil => rfl
      | cons x r => simp at h0; rw [List.set_cons_zero, h0]
    rw [e0] at F
    exact F
  intro i x hx
  have hi : i < sub.length := by
    have := (List.getElem?_eq_some_iff.mp hx).1; simpa using this
  obtain rfl : i = x := by
    have := (List.getElem?_eq_some_iff.mp hx).2; simpa using this
  rw [Nat.zero_add]
  have hx' : sub[i]? = some sub[i] := by simp [hi]
  have hjs : (l.set 0 (dictO (es ++ sub.take i) (n + i)))[j]? = some (dictO sub m) := by rw [List.getElem?_set_ne (Ne.symm hj0)]; exact hj
  have h0s : (l.set 0 (dictO (es ++ sub.take i) (n + i)))[0]? = some (dictO (es ++ sub.take i) (n + i)) := by
    cases l with
    | nil => simp at h0
    | cons x r => simp
  refine Ev.steps (Ev.bind (n := 1) (k := 5) (a := sub.toArray) (s' := ⟨hp A (l.set 0 (dictO (es ++ sub.take i) (n + i))), g, d, t, os⟩) (p' := p) ?_ ?_) rfl
  · exact Ev.steps (Ev.bind (ev_loadPart (hp_get hA hjs)) (Ev.cast (m := pure sub.toArray) Ev.pure' rfl)) rfl
  have e1 : sub.toArray[i]? = some sub[i] := by simp [hi]
  rw [e1]
  dsimp only
  obtain ⟨u, hu⟩ := ft.key sub[i] (List.getElem_mem hi)
  rw [hu]
  have P := ev_dictPut (w := w) (g := g) (d := d) (t := t) (os := os) (p := p) (v := sub[i].val) (u := u) hA h0s (ft.apart i sub[i] hx') (by rw [List.length_append, List.length_take]; omega)
  rw [List.set_set] at P
  have e2 : sub.take (i + 1) = sub.take i ++ [sub[i]] := by rw [List.take_add_one, hx']; rfl
  have e3 : (⟨sub[i].hash, .int sub[i].hash u, sub[i].val⟩ : DictEntry) = sub[i] := by rw [← hu]
  rw [e3, List.append_assoc, ← e2] at P
  refine Ev.steps (Ev.bind (Ev.holding P) ?_) (rfl : 4 + 1 = 5)
  have hjs' : (l.set 0 (dictO (es ++ sub.take (i + 1)) (n + i + 1)))[j]? = some (dictO sub m) := by rw [List.getElem?_set_ne (Ne.symm hj0)]; exact hj
  refine Ev.steps (Ev.bind (n := 1) (k := 0) (a := m) (s' := ⟨hp A (l.set 0 (dictO (es ++ sub.take (i + 1)) (n + i + 1))), g, d, t, os⟩) (p' := p) ?_ ?_) rfl
  · exact Ev.steps (Ev.bind (ev_loadPart (hp_get hA hjs')) (Ev.cast (m := pure m) Ev.pure' rfl)) rfl
  rw [if_neg (by simp)]
  exact Ev.pure'
theorem ev_pairs : ∀ (c : List (Int × Str)) (t : Nat) (h : Heap), Ev w (3 * c.length) (evalPairs (c.map (prOf p))) ⟨h, g, d, t, os⟩ p ((entS t c).map fun e => (e.key, e.val)) ⟨h, g, d, t + 2 * c.length, os⟩ p
  | [], t, h => by
    show Ev w 0 (evalPairs []) _ _ _ _ _
    unfold evalPairs
    exact Ev.pure'
  | x :: c, t, h => by
    show Ev w _ (evalPairs (prOf p x :: c.map (prOf p))) _ _ _ _ _
    unfold evalPairs
    show Ev w _ (mkInt x.1 >>= fun kv => holding [kv] (mkText x.2 >>= fun v => standAt p >>= fun _ => pure v) >>= fun vv => holding [kv, vv] (evalPairs (c.map (prOf p))) >>= fun r => pure ((kv, vv) :: r)) _ _ _ _ _
    refine Ev.steps (Ev.bind ev_mkInt (Ev.bind (Ev.holding (Ev.bind ev_mkText (Ev.bind ev_at Ev.pure'))) (Ev.bind (Ev.holding (ev_pairs c (t + 2) h)) (n := 3 * c.length) (k := 0) ?_))) (by rw [List.length_cons]; omega)
    rw [show t + 2 + 2 * c.length = t + 2 * (x :: c).length by rw [List.length_cons]; omega]
    exact Ev.pure'
theorem ev_subShort (hA : A.length = 100) {c : List (Int × Str)} (r : Rising c) (sm : Small c) (h15 : c.length ≤ 15) :
    Ev w (1 + 13 * c.length) (subDict (c.map (prOf p))) ⟨hp A l, g, d, t, os⟩ p (100 + l.length) ⟨hp A (l ++ [dictO (entS t c) c.length]), g, d, t + 3 * c.length, os⟩ p := by
  unfold subDict
  refine Ev.steps (Ev.bind (n := 1) (k := 13 * c.length) (a := 100 + l.length) (s' := ⟨hp A (l ++ [dictO [] 0]), g, d, t, os⟩) (p' := p) ?_ ?_) (by omega)
  · have := ev_alloc (w := w) (h := hp A l) (g := g) (d := d) (t := t) (os := os) (p := p) (o := dictO [] 0)
    rw [hp_size hA, hp_push hA] at this
    exact this
  refine Ev.steps (Ev.bind (n := 13 * c.length) (k := 0) (a := ()) ?_ Ev.pure') (by omega)
  refine Ev.holding ?_
  rw [if_pos (by rw [List.length_map]; omega)]
  refine Ev.steps (Ev.bind (ev_pairs c t _) (k := 10 * c.length) ?_) (by omega)
  refine Ev.holding ?_
  refine Ev.steps (Ev.bind (n := 10 * c.length) (k := 0) (a := PUnit.unit) ?_ Ev.pure') (by omega)
  have F := ev_for (w := w) (p := p) (c := 10) (fun i => ⟨hp A (l ++ [dictO (entS t (c.take i)) i]), g, d, t + 2 * c.length + i, os⟩) (fun _ => PUnit.unit) ((entS t c).map fun e => (e.key, e.val)) 0
    (f := fun x __s => match x with | (k, v) => do { dictSet (100 + l.length) k v; pure (ForInStep.yield PUnit.unit) }) ?_
  · rw [List.length_map, Nat.zero_add, entS_len, List.take_length, show t + 2 * c.length + c.length = t + 3 * c.length by omega] at F
    exact F
  intro i x hx
  have hi : i < c.length := by
    have := (List.getElem?_eq_some_iff.mp hx).1
    rw [List.length_map, entS_len] at this; exact this
  have hy : c[i]? = some c[i] := by simp [hi]
  have hent : ((entS t c).map fun e => (e.key, e.val))[i]? = some ((.int c[i].1 (t + 2 * i), .str c[i].2 (t + 2 * i + 1)) : Value × Value) := by
    have e1 : entS t (c.take (i + 1)) ++ entS (t + 2 * (i + 1)) (c.drop (i + 1)) = entS t c := by
      have ap : ∀ (a b : List (Int × Str)) (t : Nat), entS t (a ++ b) = entS t a ++ entS (t + 2 * a.length) b := by
        intro a
        induction a with
        | nil => intro b t; rfl
        | cons y a ih =>
          intro b t
          show _ :: entS (t + 2) (a ++ b) = _ :: (entS (t + 2) a ++ _)
          rw [ih, show t + 2 + 2 * a.length = t + 2 * (y :: a).length by rw [List.length_cons]; omega]
      have := ap (c.take (i + 1)) (c.drop (i + 1)) t
      rw [List.take_append_drop, List.length_take, Nat.min_eq_left (by omega)] at this
      exact this.symm
    rw [← e1, take_succ' hy, entS_snoc, take_len hy, List.map_append, List.map_append, List.append_assoc, List.getElem?_append_right (by rw [List.length_map, entS_len, take_len hy]; exact Nat.le_refl _), List.length_map, entS_len, take_len hy, Nat.sub_self]
    rfl
  obtain rfl := Option.some.inj (hent.symm.trans hx)
  rw [Nat.zero_add, take_succ' hy, entS_snoc, take_len hy]
  dsimp only
  refine Ev.steps (Ev.bind (ev_dictSet (es := entS t (c.take i)) (n := i) hA (by simp) (noHash_of (entS_hash _ _) (rising_take r hy)) ?_ (sm _ (List.mem_of_getElem? hy)).1 (sm _ (List.mem_of_getElem? hy)).2) ?_) (rfl : 10 + 0 = 10)
  · rw [entS_len, take_len hy]; omega
  · rw [List.set_append_right _ _ (Nat.le_refl _), Nat.sub_self, List.set_cons_zero]
    exact Ev.pure'
end
end
-- D4
noncomputable section
noncomputable abbrev DRun := List (Sem Value × Sem Value)
noncomputable def flushD (run : DRun) (main : Option Addr) : Sem (Option Addr) :=
    if run.isEmpty = true then pure main
    else
      match main with
      | none => do
        let __do_lift ← subDict run
        pure (some __do_lift)
      | some d => do
        let sub ← holding [Value.ref d] (subDict run)
        (holding [Value.ref d, Value.ref sub] (mergeMapping d (Value.ref sub) false)).onRaise fun x => do
            let _ ← holding [Value.ref d, x] (runValue (Code.builtin "proto.let_go" { }))
            pure ()
        pure (some d)
theorem disp_form : ∃ F : (Option (Sem Value) × Sem Value) → (Option Addr × DRun) → Sem (ForInStep (Option Addr × DRun)),
    (∀ items, dictDisplay items = (forIn items ((none, []) : Option Addr × DRun) F >>= fun s => flushD s.2 s.1 >>= fun r => match r with | some d => pure (.ref d) | none => newDict)) ∧
    ∀ k v main run, F (some k, v) (main, run) = (if ((run ++ [(k, v)]).length == 17) = true then flushD (run ++ [(k, v)]) main >>= fun m => pure (.yield (m, [])) else pure (.yield (main, run ++ [(k, v)]))) :=
  ⟨_, fun _ => rfl, fun _ _ _ _ => rfl⟩
noncomputable def FD := Classical.choose disp_form
theorem FD_items (items) : dictDisplay items = (forIn items ((none, []) : Option Addr × DRun) FD >>= fun s => flushD s.2 s.1 >>= fun r => match r with | some d => pure (.ref d) | none => newDict) := (Classical.choose_spec disp_form).1 items
theorem FD_some (k v main run) : FD (some k, v) (main, run) = (if ((run ++ [(k, v)]).length == 17) = true then flushD (run ++ [(k, v)]) main >>= fun m => pure (.yield (m, [])) else pure (.yield (main, run ++ [(k, v)]))) := (Classical.choose_spec disp_form).2 k v main run
section
variable {w : World} {A l : List Obj} {g : Array GenState} {d : Drawn} {t : Nat} {os : OsState} {p : Pos} {s s' s'' : Shared} {p' p'' : Pos} {r : Option Addr × DRun} {n k : Nat}
theorem ev_acc : ∀ (c : List (Int × Str)) (run : DRun) (main : Option Addr) (rest : List (Option (Sem Value) × Sem Value)), run.length + c.length < 17 →
    Ev w n (forIn rest (main, run ++ c.map (prOf p)) FD) s p r s' p' → Ev w n (forIn (c.map (itOf p) ++ rest) (main, run) FD) s p r s' p'
  | [], run, main, rest, _, h => by simpa using h
  | x :: c, run, main, rest, hl, h => by
    rw [List.length_cons] at hl
    have h' : Ev w n (forIn (c.map (itOf p) ++ rest) (main, run ++ [prOf p x]) FD) s p r s' p' :=
      ev_acc c _ main rest (by rw [List.length_append]; simp; omega) (by rw [List.append_assoc]; exact h)
    refine Ev.steps (ev_forIn_cons (n := 0) (k := n) ?_ h') (by omega)
    show Ev w 0 (FD (some (prOf p x).1, (prOf p x).2) (main, run)) _ _ _ _ _
    rw [FD_some, if_neg (by rw [List.length_append, beq_iff_eq]; simp; omega)]
    exact Ev.pure'
theorem ev_chunk {c : List (Int × Str)} {main main' : Option Addr} {rest : List (Option (Sem Value) × Sem Value)} (hc : c.length = 17)
    (h1 : Ev w n (flushD (c.map (prOf p)) main) s p main' s' p') (h2 : Ev w k (forIn rest (main', []) FD) s' p' r s'' p'') :
    Ev w (n + k) (forIn (c.map (itOf p) ++ rest) (main, []) FD) s p r s'' p'' := by
  have e : c = c.take 16 ++ [c[16]] := by
    have := List.take_append_drop 16 c
    rw [List.drop_eq_getElem_cons (by omega : 16 < c.length), List.drop_of_length_le (by omega)] at this
    exact this.symm
  have e1 : c.map (itOf p) ++ rest = (c.take 16).map (itOf p) ++ (itOf p c[16] :: rest) := by
    conv => lhs; rw [e]
    rw [List.map_append, List.append_assoc]; rfl
  rw [e1]
  refine ev_acc (c.take 16) [] main _ (by rw [List.length_take]; simp; omega) ?_
  refine ev_forIn_cons (n := n) (k := k) ?_ h2
  show Ev w n (FD (some (prOf p c[16]).1, (prOf p c[16]).2) (main, [] ++ (c.take 16).map (prOf p))) _ _ _ _ _
  have e2 : [] ++ (c.take 16).map (prOf p) ++ [((prOf p c[16]).1, (prOf p c[16]).2)] = c.map (prOf p) := by
    conv => rhs; rw [e]
    rw [List.map_append, List.nil_append]; rfl
  rw [FD_some, e2, if_pos (by rw [List.length_map, hc]; rfl)]
  exact Ev.steps (Ev.bind h1 Ev.pure') (by omega)
theorem ev_flush0 (hA : A.length = 100) {c : List (Int × Str)} (rs : Rising c) (sm : Small c) (hc : c.length = 17) :
    Ev w 223 (flushD (c.map (prOf p)) none) ⟨hp A [], g, d, t, os⟩ p (some 100) ⟨hp A [dictO (entG t c) 17], g, d, t + 51, os⟩ p := by
  unfold flushD
  rw [if_neg (by cases c with | nil => cases hc | cons => simp)]
  have := ev_subLong (w := w) (g := g) (d := d) (t := t) (os := os) (p := p) (l := []) hA rs sm (by omega) (by omega)
  rw [hc] at this
  exact Ev.steps (Ev.bind this Ev.pure') rfl
theorem entG_key : ∀ (c : List (Int × Str)) (t : Nat), ∀ e ∈ entG t c, ∃ u, e.key = .int e.hash u
  | [], _, e, h => nomatch h
  | x :: c, t, e, h => by
    rcases List.mem_cons.mp h with rfl | h
    · exact ⟨_, rfl⟩
    · exact entG_key c _ e h
theorem entS_key : ∀ (c : List (Int × Str)) (t : Nat), ∀ e ∈ entS t c, ∃ u, e.key = .int e.hash u
  | [], _, e, h => nomatch h
  | x :: c, t, e, h => by
    rcases List.mem_cons.mp h with rfl | h
    · exact ⟨_, rfl⟩
    · exact entS_key c _ e h
theorem fits_of {L : List (Int × Str)} (rs : Rising L) {a b : Nat} {es sub : List DictEntry} (h1 : es.map (·.hash) = (L.take a).map (·.1)) (h2 : sub.map (·.hash) = ((L.drop a).take b).map (·.1)) (hk : ∀ e ∈ sub, ∃ u, e.key = .int e.hash u) : Fits es sub := by
  refine ⟨hk, fun i e hi => ?_⟩
  have g1 : (sub.map (·.hash))[i]? = some e.hash := by rw [List.getElem?_map, hi]; rfl
  rw [h2, List.getElem?_map] at g1
  obtain ⟨x, hx, hxe⟩ := Option.map_eq_some_iff.mp g1
  have hib : i < b := by
    have := (List.getElem?_eq_some_iff.mp hx).1
    rw [List.length_take] at this; omega
  rw [List.getElem?_take_of_lt hib, List.getElem?_drop] at hx
  have g2 : (es ++ sub.take i).map (·.hash) = (L.take (a + i)).map (·.1) := by
    rw [List.map_append, h1, show (sub.take i).map (·.hash) = (sub.map (·.hash)).take i from List.map_take .., h2, show (((L.drop a).take b).map (·.1)).take i = (((L.drop a).take b).take i).map (·.1) from (List.map_take ..).symm, List.take_take, Nat.min_eq_left (by omega), ← List.map_append, List.take_add]
  rw [← hxe]
  exact noHash_of g2 (rising_take rs hx)
theorem rising_sub {L : List (Int × Str)} (rs : Rising L) (a b : Nat) : Rising ((L.drop a).take b) := (rs.sublist (List.drop_sublist _ _)).sublist (List.take_sublist _ _)
theorem small_sub {L : List (Int × Str)} (sm : Small L) (a b : Nat) : Small ((L.drop a).take b) := fun x hx => sm x (List.mem_of_mem_drop (List.mem_of_mem_take hx))
theorem ev_flush {L : List (Int × Str)} (hA : A.length = 100) (rs : Rising L) (sm : Small L) {a m : Nat} {c : List (Int × Str)} {subs : List Obj} {es : List DictEntry} (hc : c = (L.drop a).take 17) (hl : c.length = 17) (h1 : es.map (·.hash) = (L.take a).map (·.1)) (hne : es ≠ []) (hz : es.length < 900) :
    Ev w 330 (flushD (c.map (prOf p)) (some 100)) ⟨hp A (dictO es m :: subs), g, d, t, os⟩ p (some 100) ⟨hp A (dictO (es ++ entG t c) (m + 17) :: (subs ++ [dictO (entG t c) 17])), g, d, t + 51, os⟩ p := by
  have rc : Rising c := hc ▸ rising_sub rs a 17
  have sc : Small c := hc ▸ small_sub sm a 17
  have hlen := entG_len c t
  unfold flushD
  rw [if_neg (by cases c with | nil => cases hl | cons => simp)]
  dsimp only
  have S := ev_subLong (w := w) (g := g) (d := d) (t := t) (os := os) (p := p) (l := dictO es m :: subs) hA rc sc (by omega) (by omega)
  rw [hl] at S
  have F : Fits es (entG t c) := fits_of rs (a := a) (b := 17) h1 (by rw [entG_hash, hc]) (entG_key c t)
  have M := ev_merge (w := w) (g := g) (d := d) (t := t + 51) (os := os) (p := p) (l := (dictO es m :: subs) ++ [dictO (entG t c) 17]) (j := (dictO es m :: subs).length) (m := 17) (n := m) hA (by simp) (by simp) (by simp) F hne (by rw [hlen, hl]; omega)
  rw [hlen, hl] at M
  refine Ev.steps (Ev.bind (Ev.holding S) (Ev.bind (Ev.onRaise (Ev.holding M)) ?_)) (rfl : 223 + (107 + 0) = 330)
  exact Ev.pure'
theorem ev_flushLast {L : List (Int × Str)} (hA : A.length = 100) (rs : Rising L) (sm : Small L) {a m : Nat} {c : List (Int × Str)} {subs : List Obj} {es : List DictEntry} (hc : c = L.drop a) (hl : c.length = 4) (h1 : es.map (·.hash) = (L.take a).map (·.1)) (hne : es ≠ []) (hz : es.length < 900) :
    Ev w 82 (flushD (c.map (prOf p)) (some 100)) ⟨hp A (dictO es m :: subs), g, d, t, os⟩ p (some 100) ⟨hp A (dictO (es ++ entS t c) (m + 4) :: (subs ++ [dictO (entS t c) 4])), g, d, t + 12, os⟩ p := by
  have hc' : c = (L.drop a).take 4 := by rw [← hc, List.take_of_length_le (by omega)]
  have rc : Rising c := hc' ▸ rising_sub rs a 4
  have sc : Small c := hc' ▸ small_sub sm a 4
  have hlen := entS_len c t
  unfold flushD
  rw [if_neg (by cases c with | nil => cases hl | cons => simp)]
  dsimp only
  have S := ev_subShort (w := w) (g := g) (d := d) (t := t) (os := os) (p := p) (l := dictO es m :: subs) hA rc sc (by omega)
  rw [hl] at S
  have F : Fits es (entS t c) := fits_of rs (a := a) (b := 4) h1 (by rw [entS_hash, hc']) (entS_key c t)
  have M := ev_merge (w := w) (g := g) (d := d) (t := t + 12) (os := os) (p := p) (l := (dictO es m :: subs) ++ [dictO (entS t c) 4]) (j := (dictO es m :: subs).length) (m := 4) (n := m) hA (by simp) (by simp) (by simp) F hne (by rw [hlen, hl]; omega)
  rw [hlen, hl] at M
  refine Ev.steps (Ev.bind (Ev.holding S) (Ev.bind (Ev.onRaise (Ev.holding M)) ?_)) (rfl : 53 + (29 + 0) = 82)
  exact Ev.pure'
end
theorem b3_len : b3pairs.length = 650 := by decide +kernel
noncomputable def risB : List (Int × Str) → Bool
  | [] => true
  | [_] => true
  | x :: y :: r => decide (x.1 < y.1) && risB (y :: r)
theorem ris_of : ∀ {c : List (Int × Str)}, risB c = true → Rising c
  | [], _ => .nil
  | [x], _ => List.pairwise_singleton _ _
  | x :: y :: r, h => by
    unfold risB at h
    obtain ⟨h1, h2⟩ := Bool.and_eq_true_iff.mp h
    have h1 := of_decide_eq_true h1
    have ih := ris_of h2
    refine List.pairwise_cons.mpr ⟨fun z hz => ?_, ih⟩
    rcases List.mem_cons.mp hz with rfl | hz
    · exact h1
    · have := (List.pairwise_cons.mp ih).1 z hz
      omega
theorem b3_rising : Rising b3pairs := ris_of (by decide +kernel)
theorem b3_small : Small b3pairs := by
  have : (b3pairs.all fun x => decide (0 ≤ x.1) && decide (x.1 < 2 ^ 60)) = true := by decide +kernel
  intro x hx
  have := List.all_eq_true.mp this x hx
  simpa using this
end
-- D5
noncomputable section
noncomputable def stL (j : Nat) : List Obj := dictO (entG 377 (b3pairs.take (17 * j))) (17 * j) :: (List.range (j - 1)).map fun i => subO (i + 1)
section
variable {w : World} {A : List Obj} {g : Array GenState} {d : Drawn} {os : OsState} {p : Pos}
theorem ev_chunks (hA : A.length = 100) : ∀ k, k ≤ 37 → Ev w (330 * k) (forIn ((b3pairs.drop (17 * (38 - k))).map (itOf p)) ((some 100, []) : Option Addr × DRun) FD) ⟨hp A (stL (38 - k)), g, d, 377 + 51 * (38 - k), os⟩ p
    (some 100, (b3pairs.drop 646).map (prOf p)) ⟨hp A (stL 38), g, d, 2315, os⟩ p
  | 0, _ => by
    have h := ev_acc (w := w) (p := p) (n := 0) (b3pairs.drop 646) [] (some 100) [] (s := ⟨hp A (stL 38), g, d, 2315, os⟩) (s' := ⟨hp A (stL 38), g, d, 2315, os⟩) (p' := p) (r := (some 100, [] ++ (b3pairs.drop 646).map (prOf p)))
      (by rw [List.length_drop, b3_len]; decide) ev_forIn_nil
    rw [List.append_nil, List.nil_append] at h
    exact h
  | k + 1, hk => by
    have ih := ev_chunks hA k (by omega)
    obtain ⟨j, hj⟩ : ∃ j, 38 - (k + 1) = j := ⟨_, rfl⟩
    have hj1 : 38 - k = j + 1 := by omega
    rw [hj1] at ih
    rw [hj]
    have hlen : ((b3pairs.drop (17 * j)).take 17).length = 17 := by rw [List.length_take, List.length_drop, b3_len]; omega
    have e : (b3pairs.drop (17 * j)).map (itOf p) = ((b3pairs.drop (17 * j)).take 17).map (itOf p) ++ (b3pairs.drop (17 * (j + 1))).map (itOf p) := by
      rw [← List.map_append, show 17 * (j + 1) = 17 * j + 17 by omega, ← List.drop_drop, List.take_append_drop]
    rw [e]
    have hes : (entG 377 (b3pairs.take (17 * j))).length = 17 * j := by rw [entG_len, List.length_take, b3_len]; omega
    have F := ev_flush (w := w) (g := g) (d := d) (t := 377 + 51 * j) (os := os) (p := p) (a := 17 * j) (m := 17 * j) (subs := (List.range (j - 1)).map fun i => subO (i + 1)) hA b3_rising b3_small rfl hlen (entG_hash (b3pairs.take (17 * j)) 377) (by intro q; rw [q] at hes; simp at hes; omega) (by omega)
    have e2 : dictO (entG 377 (b3pairs.take (17 * j)) ++ entG (377 + 51 * j) ((b3pairs.drop (17 * j)).take 17)) (17 * j + 17) :: ((List.range (j - 1)).map (fun i => subO (i + 1)) ++ [dictO (entG (377 + 51 * j) ((b3pairs.drop (17 * j)).take 17)) 17]) = stL (j + 1) := by
      unfold stL
      have a1 : entG 377 (b3pairs.take (17 * j)) ++ entG (377 + 51 * j) ((b3pairs.drop (17 * j)).take 17) = entG 377 (b3pairs.take (17 * (j + 1))) := by
        have := entG_append (b3pairs.take (17 * j)) ((b3pairs.drop (17 * j)).take 17) 377
        rw [List.length_take, b3_len, Nat.min_eq_left (by omega), show 377 + 3 * (17 * j) = 377 + 51 * j by omega, ← List.take_add] at this
        rw [← this]; rfl
      obtain ⟨i, rfl⟩ : ∃ i, j = i + 1 := ⟨j - 1, by omega⟩
      rw [a1, show i + 1 + 1 - 1 = (i + 1 - 1) + 1 by omega, List.range_succ, List.map_append]
      rfl
    rw [e2] at F
    exact Ev.steps (ev_chunk hlen F ih) (by omega)
theorem ev_display (hA : A.length = 100) : Ev w 12515 (dictDisplay (b3pairs.map (itOf p))) ⟨hp A [], g, d, 377, os⟩ p (.ref 100) ⟨hp A (dictO b3L 650 :: ((List.range 37).map fun j => subO (j + 1)) ++ [lastO]), g, d, 2327, os⟩ p := by
  rw [FD_items]
  have c0 : (b3pairs.take 17).length = 17 := by rw [List.length_take, b3_len]; rfl
  have F0 := ev_flush0 (w := w) (g := g) (d := d) (t := 377) (os := os) (p := p) (c := b3pairs.take 17) hA (by simpa using rising_sub b3_rising 0 17) (by simpa using small_sub b3_small 0 17) c0
  have C := ev_chunk c0 F0 (ev_chunks (w := w) (g := g) (d := d) (os := os) (p := p) hA 37 (by omega))
  rw [← List.map_append, List.take_append_drop] at C
  have hl : (b3pairs.drop 646).length = 4 := by rw [List.length_drop, b3_len]
  have hes : (entG 377 (b3pairs.take 646)).length = 646 := by rw [entG_len, List.length_take, b3_len]; rfl
  have L := ev_flushLast (w := w) (g := g) (d := d) (t := 2315) (os := os) (p := p) (a := 646) (m := 646) (subs := (List.range 37).map fun i => subO (i + 1)) hA b3_rising b3_small rfl hl (entG_hash (b3pairs.take 646) 377) (by intro q; rw [q] at hes; simp at hes) (by omega)
  refine Ev.steps (Ev.bind C (Ev.bind L (k := 0) Ev.pure')) rfl
end
noncomputable def SX (w : World) (os : OsState) : SharedT := stT w os 139 2327 (Value.str (Str.ofString "cpy313.stringprep") 308) 11 9 true true
noncomputable def A14 (w : World) : List Obj := (heapL w.params (Value.str (Str.ofString "cpy313.stringprep") 308) 11 9 true true).take 100
theorem A14_len (w : World) : (A14 w).length = 100 := by rfl
theorem abs14 (w : World) (os : OsState) : (S14 w os).abs = ⟨hp (A14 w) [], #[], {}, 377, os⟩ := by kernel_rfl
theorem absX (w : World) (os : OsState) : (⟨hp (A14 w) (dictO b3L 650 :: ((List.range 37).map fun j => subO (j + 1)) ++ [lastO]), #[], {}, 2327, os⟩ : Shared) = (SX w os).abs := by kernel_rfl
theorem ev_bind14 (w : World) (os : OsState) : Ev w 6 (bindName env0 "b3_exceptions" (.ref 100)) (SX w os).abs ⟨91, 0, 91, 13⟩ () (S15 w os).abs ⟨91, 0, 91, 13⟩ := fun K H gd lv => segGo_of (by kernel_rfl)
end
-- D6
noncomputable section
theorem st14_form : ∃ ks vs pd p0, st 14 = .Assign [.Name "b3_exceptions" ⟨91, 0, 91, 13⟩] (.Dict ks vs pd) p0 ∧
    ((evalEachOpt ks env0).zip ((evalEach vs env0).map fun v => do { let x ← v; standAt pd; pure x })) = b3pairs.map (itOf pd) := ⟨_, _, _, _, rfl, by kernel_rfl⟩
theorem p14 (w : World) (os : OsState) : segRun treeTable pw w 11 (some (.ref 6)) 1 12525 (S14 w os).abs (piecesOf [st 14] env0 code0 ⟨89, 0, 90, 30⟩ [topFrame ⟨0, 0, 0, 0⟩]) = some (.next, (S15 w os).abs, code0, ⟨91, 0, 91, 13⟩) := by
  obtain ⟨ks, vs, pd, p0, e, hit⟩ := st14_form
  have X : Ev w 12524 (execs [st 14] env0) (S14 w os).abs ⟨89, 0, 90, 30⟩ .next (S15 w os).abs ⟨91, 0, 91, 13⟩ := by
    rw [execs_cons, e, exec_Assign_Name env0 _ _ _ _ rfl]
    have D : Ev w 12516 (eval (.Dict ks vs pd) env0) (S14 w os).abs p0 (.ref 100) (SX w os).abs pd := by
      show Ev w 12516 (standAt pd >>= fun _ => dictDisplay ((evalEachOpt ks env0).zip ((evalEach vs env0).map fun v => do { let x ← v; standAt pd; pure x }))) _ _ _ _ _
      rw [hit, abs14, ← absX]
      exact Ev.steps (Ev.bind ev_at (ev_display (A14_len w))) rfl
    refine Ev.steps (Ev.bind (n := 12524) (k := 0) (a := Flow.next) (s' := (S15 w os).abs) (p' := ⟨91, 0, 91, 13⟩) ?_ Ev.pure') rfl
    refine Ev.steps (Ev.bind ev_at (Ev.bind D (Ev.bind ev_at (Ev.bind (ev_bind14 w os) Ev.pure')))) rfl
  have G := X doneF deadEnd id id
  exact seg_go (N := 1) G rfl
end
-- the pieces
theorem p0 (w : World) (os : OsState) : segRun treeTable pw w 11 (some (.ref 6)) 1 10 (S0 w os).abs (piecesOf [st 0] env0 code0 ⟨0, 0, 0, 0⟩ [topFrame ⟨0, 0, 0, 0⟩]) = some (.next, (S1 w os).abs, code0, ⟨1, 0, 1, 8⟩) := segRun_of (by kernel_rfl)
theorem p1 (w : World) (os : OsState) : segRun treeTable pw w 11 (some (.ref 6)) 1 10 (S1 w os).abs (piecesOf [st 1] env0 code0 ⟨1, 0, 1, 8⟩ [topFrame ⟨0, 0, 0, 0⟩]) = some (.next, (S2 w os).abs, code0, ⟨2, 0, 2, 10⟩) := segRun_of (by kernel_rfl)
theorem p2 (w : World) (os : OsState) : segRun treeTable pw w 11 (some (.ref 6)) 1 40 (S2 w os).abs (piecesOf [st 2] env0 code0 ⟨2, 0, 2, 10⟩ [topFrame ⟨0, 0, 0, 0⟩]) = some (.next, (S3 w os).abs, code0, ⟨3, 0, 18, 33⟩) := segRun_of (by kernel_rfl)
theorem p3 (w : World) (os : OsState) : segRun treeTable pw w 11 (some (.ref 6)) 1 37 (S3 w os).abs (piecesOf [st 3] env0 code0 ⟨3, 0, 18, 33⟩ [topFrame ⟨0, 0, 0, 0⟩]) = some (.next, (S4 w os).abs, code0, ⟨19, 0, 28, 17⟩) := segRun_of (by kernel_rfl)
theorem p4 (w : World) (os : OsState) : segRun treeTable pw w 11 (some (.ref 6)) 1 34 (S4 w os).abs (piecesOf [st 4] env0 code0 ⟨19, 0, 28, 17⟩ [topFrame ⟨0, 0, 0, 0⟩]) = some (.next, (S5 w os).abs, code0, ⟨29, 0, 44, 19⟩) := segRun_of (by kernel_rfl)
theorem p5 (w : World) (os : OsState) : segRun treeTable pw w 11 (some (.ref 6)) 1 34 (S5 w os).abs (piecesOf [st 5] env0 code0 ⟨29, 0, 44, 19⟩ [topFrame ⟨0, 0, 0, 0⟩]) = some (.next, (S6 w os).abs, code0, ⟨45, 0, 53, 49⟩) := segRun_of (by kernel_rfl)
theorem p6 (w : World) (os : OsState) : segRun treeTable pw w 11 (some (.ref 6)) 1 38 (S6 w os).abs (piecesOf [st 6] env0 code0 ⟨45, 0, 53, 49⟩ [topFrame ⟨0, 0, 0, 0⟩]) = some (.next, (S7 w os).abs, code0, ⟨54, 0, 64, 17⟩) := segRun_of (by kernel_rfl)
theorem p7 (w : World) (os : OsState) : segRun treeTable pw w 11 (some (.ref 6)) 1 10 (S7 w os).abs (piecesOf [st 7] env0 code0 ⟨54, 0, 64, 17⟩ [topFrame ⟨0, 0, 0, 0⟩]) = some (.next, (S8 w os).abs, code0, ⟨65, 0, 65, 8⟩) := segRun_of (by kernel_rfl)
theorem p8 (w : World) (os : OsState) : segRun treeTable pw w 11 (some (.ref 6)) 1 197 (S8 w os).abs (piecesOf [st 8] env0 code0 ⟨65, 0, 65, 8⟩ [topFrame ⟨0, 0, 0, 0⟩]) = some (.next, (S9 w os).abs, code0, ⟨66, 0, 67, 8⟩) := segRun_of (by rw [show @segRunT = _ from PySem.W.Fast.te10110043849684766642, show @treeTable = _ from PySem.W.Fast.te14364793385576792824]; kernel_rfl)
theorem p9 (w : World) (os : OsState) : segRun treeTable pw w 11 (some (.ref 6)) 1 214 (S9 w os).abs (piecesOf [st 9] env0 code0 ⟨66, 0, 67, 8⟩ [topFrame ⟨0, 0, 0, 0⟩]) = some (.next, (S10 w os).abs, code0, ⟨68, 0, 69, 8⟩) := segRun_of (by rw [show @segRunT = _ from PySem.W.Fast.te10110043849684766642, show @treeTable = _ from PySem.W.Fast.te14364793385576792824]; kernel_rfl)
theorem p10 (w : World) (os : OsState) : segRun treeTable pw w 11 (some (.ref 6)) 1 34 (S10 w os).abs (piecesOf [st 10] env0 code0 ⟨68, 0, 69, 8⟩ [topFrame ⟨0, 0, 0, 0⟩]) = some (.next, (S11 w os).abs, code0, ⟨70, 0, 86, 18⟩) := segRun_of (by kernel_rfl)
theorem p11 (w : World) (os : OsState) : segRun treeTable pw w 11 (some (.ref 6)) 1 10 (S11 w os).abs (piecesOf [st 11] env0 code0 ⟨70, 0, 86, 18⟩ [topFrame ⟨0, 0, 0, 0⟩]) = some (.next, (S12 w os).abs, code0, ⟨87, 0, 87, 8⟩) := segRun_of (by kernel_rfl)
theorem p13 (w : World) (os : OsState) : segRun treeTable pw w 11 (some (.ref 6)) 1 30 (S13 w os).abs (piecesOf [st 13] env0 code0 ⟨88, 0, 88, 6⟩ [topFrame ⟨0, 0, 0, 0⟩]) = some (.next, (S14 w os).abs, code0, ⟨89, 0, 90, 30⟩) := segRun_of (by kernel_rfl)
theorem p15 (w : World) (os : OsState) : segRun treeTable pw w 11 (some (.ref 6)) 1 31 (S15 w os).abs (piecesOf [st 15] env0 code0 ⟨91, 0, 91, 13⟩ [topFrame ⟨0, 0, 0, 0⟩]) = some (.next, (S16 w os).abs, code0, ⟨92, 0, 96, 23⟩) := segRun_of (by kernel_rfl)
theorem p16 (w : World) (os : OsState) : segRun treeTable pw w 11 (some (.ref 6)) 1 10 (S16 w os).abs (piecesOf [st 16] env0 code0 ⟨92, 0, 96, 23⟩ [topFrame ⟨0, 0, 0, 0⟩]) = some (.next, (S17 w os).abs, code0, ⟨97, 0, 97, 8⟩) := segRun_of (by kernel_rfl)
theorem p17 (w : World) (os : OsState) : segRun treeTable pw w 11 (some (.ref 6)) 1 35 (S17 w os).abs (piecesOf [st 17] env0 code0 ⟨97, 0, 97, 8⟩ [topFrame ⟨0, 0, 0, 0⟩]) = some (.next, (S18 w os).abs, code0, ⟨98, 0, 111, 69⟩) := segRun_of (by kernel_rfl)
theorem p18 (w : World) (os : OsState) : segRun treeTable pw w 11 (some (.ref 6)) 1 33 (S18 w os).abs (piecesOf [st 18] env0 code0 ⟨98, 0, 111, 69⟩ [topFrame ⟨0, 0, 0, 0⟩]) = some (.next, (S19 w os).abs, code0, ⟨112, 0, 116, 15⟩) := segRun_of (by kernel_rfl)
theorem p19 (w : World) (os : OsState) : segRun treeTable pw w 11 (some (.ref 6)) 1 32 (S19 w os).abs (piecesOf [st 19] env0 code0 ⟨112, 0, 116, 15⟩ [topFrame ⟨0, 0, 0, 0⟩]) = some (.next, (S20 w os).abs, code0, ⟨117, 0, 120, 15⟩) := segRun_of (by kernel_rfl)
theorem p20 (w : World) (os : OsState) : segRun treeTable pw w 11 (some (.ref 6)) 1 32 (S20 w os).abs (piecesOf [st 20] env0 code0 ⟨117, 0, 120, 15⟩ [topFrame ⟨0, 0, 0, 0⟩]) = some (.next, (S21 w os).abs, code0, ⟨121, 0, 126, 15⟩) := segRun_of (by kernel_rfl)
theorem p21 (w : World) (os : OsState) : segRun treeTable pw w 11 (some (.ref 6)) 1 33 (S21 w os).abs (piecesOf [st 21] env0 code0 ⟨121, 0, 126, 15⟩ [topFrame ⟨0, 0, 0, 0⟩]) = some (.next, (S22 w os).abs, code0, ⟨127, 0, 133, 15⟩) := segRun_of (by kernel_rfl)
theorem p22 (w : World) (os : OsState) : segRun treeTable pw w 11 (some (.ref 6)) 1 34 (S22 w os).abs (piecesOf [st 22] env0 code0 ⟨127, 0, 133, 15⟩ [topFrame ⟨0, 0, 0, 0⟩]) = some (.next, (S23 w os).abs, code0, ⟨134, 0, 143, 28⟩) := segRun_of (by kernel_rfl)
theorem p23 (w : World) (os : OsState) : segRun treeTable pw w 11 (some (.ref 6)) 1 40 (S23 w os).abs (piecesOf [st 23] env0 code0 ⟨134, 0, 143, 28⟩ [topFrame ⟨0, 0, 0, 0⟩]) = some (.next, (S24 w os).abs, code0, ⟨144, 0, 154, 23⟩) := segRun_of (by kernel_rfl)
theorem p24 (w : World) (os : OsState) : segRun treeTable pw w 11 (some (.ref 6)) 1 27 (S24 w os).abs (piecesOf [st 24] env0 code0 ⟨144, 0, 154, 23⟩ [topFrame ⟨0, 0, 0, 0⟩]) = some (.next, (S25 w os).abs, code0, ⟨155, 0, 156, 90⟩) := segRun_of (by kernel_rfl)
theorem p25 (w : World) (os : OsState) : segRun treeTable pw w 11 (some (.ref 6)) 1 27 (S25 w os).abs (piecesOf [st 25] env0 code0 ⟨155, 0, 156, 90⟩ [topFrame ⟨0, 0, 0, 0⟩]) = some (.next, (S26 w os).abs, code0, ⟨157, 0, 190, 69⟩) := segRun_of (by kernel_rfl)
noncomputable def P12 (os : OsState) (w : World) : Prop := segRunT treeTable pw w 11 (some (.ref 6)) 1 999 (S12 w os) (piecesOf [st 12] env0 code0 ⟨87, 0, 87, 8⟩ [topFrame ⟨0, 0, 0, 0⟩]) = some (.next, S13 w os, code0, ⟨88, 0, 88, 6⟩)
theorem p12_false_false (os : OsState) (w : World) : P12 os ((w.withFollow "special-get-raises" false).withFollow "set-order" false) := by
  unfold P12; rw [show @segRunT = _ from PySem.W.Fast.te10110043849684766642, show @treeTable = _ from PySem.W.Fast.te14364793385576792824]; kernel_rfl
theorem p12_false_true (os : OsState) (w : World) : P12 os ((w.withFollow "special-get-raises" true).withFollow "set-order" false) := by
  unfold P12; rw [show @segRunT = _ from PySem.W.Fast.te10110043849684766642, show @treeTable = _ from PySem.W.Fast.te14364793385576792824]; kernel_rfl
theorem p12_true_false (os : OsState) (w : World) : P12 os ((w.withFollow "special-get-raises" false).withFollow "set-order" true) := by
  unfold P12; rw [show @segRunT = _ from PySem.W.Fast.te10110043849684766642, show @treeTable = _ from PySem.W.Fast.te14364793385576792824]; kernel_rfl
theorem p12_true_true (os : OsState) (w : World) : P12 os ((w.withFollow "special-get-raises" true).withFollow "set-order" true) := by
  unfold P12; rw [show @segRunT = _ from PySem.W.Fast.te10110043849684766642, show @treeTable = _ from PySem.W.Fast.te14364793385576792824]; kernel_rfl
theorem p12 (w : World) (os : OsState) : segRun treeTable pw w 11 (some (.ref 6)) 1 999 (S12 w os).abs (piecesOf [st 12] env0 code0 ⟨87, 0, 87, 8⟩ [topFrame ⟨0, 0, 0, 0⟩]) = some (.next, (S13 w os).abs, code0, ⟨88, 0, 88, 6⟩) :=
  segRun_of (byRow2 "set-order" (P := P12 os) (fun w => byRow2 "special-get-raises" (P := fun w => P12 os (w.withFollow "set-order" false)) (p12_false_false os) (p12_false_true os) w)
    (fun w => byRow2 "special-get-raises" (P := fun w => P12 os (w.withFollow "set-order" true)) (p12_true_false os) (p12_true_true os) w) w)
noncomputable section
noncomputable def H1 (P : Params) : Heap := ⟨⟨heapL P (Value.str (Str.ofString "law_ul0019_01") 2336) 22 19 true true⟩, {}⟩
noncomputable def Ha (P : Params) : Heap := ⟨⟨(heapL P (Value.str (Str.ofString "__main__") 164) 0 0 false false).take 15⟩, {}⟩
theorem absEnd (w : World) (os : OsState) : (S26 w os).abs = ⟨H1 w.params, #[], {}, 2428, os⟩ := by kernel_rfl
theorem absStart (w : World) (os : OsState) : (S0 w os).abs = ⟨Ha w.params, #[], {}, 187, os⟩ := by kernel_rfl
theorem hpre (w : World) (os : OsState) : topGo treeTable pw w 11 (some (.ref 6)) 12 ⟨boot_heap w.params, #[], boot_drawn, boot_toks, os⟩ (topStub pw) = some (⟨Ha w.params, #[], {}, 187, os⟩, ⟨denote treeTable code0, code0, ⟨0, 0, 0, 0⟩, [topFrame ⟨0, 0, 0, 0⟩]⟩) := by kernel_rfl
theorem hblock (w : World) (os : OsState) : segRun treeTable pw w 11 (some (.ref 6)) 1 1 ⟨Ha w.params, #[], {}, 187, os⟩ (blockOf (behindTheImports pw) env0 code0 ⟨0, 0, 0, 0⟩ [topFrame ⟨0, 0, 0, 0⟩]) = some (.next, ⟨Ha w.params, #[], {}, 187, os⟩, code0, ⟨0, 0, 0, 0⟩) := by kernel_rfl
theorem hfin (w : World) (os : OsState) : topRun treeTable pw w 11 (some (.ref 6)) 2 ⟨H1 w.params, #[], {}, 2428, os⟩ ⟨doneF .next, code0, ⟨157, 0, 190, 69⟩, [topFrame ⟨0, 0, 0, 0⟩]⟩ = some ⟨H1 w.params, #[], {}, 2428, os⟩ := by kernel_rfl
theorem hopen : opening pw = plainProg pw.main.scope.names := by kernel_rfl
theorem hfence (s : Shared) : fenceModules? pw s = some s := by kernel_rfl
theorem hbody : behindTheImports pw = [st 0] ++ ([st 1] ++ ([st 2] ++ ([st 3] ++ ([st 4] ++ ([st 5] ++ ([st 6] ++ ([st 7] ++ ([st 8] ++ ([st 9] ++ ([st 10] ++ ([st 11] ++ ([st 12] ++ ([st 13] ++ ([st 14] ++ ([st 15] ++ ([st 16] ++ ([st 17] ++ ([st 18] ++ ([st 19] ++ ([st 20] ++ ([st 21] ++ ([st 22] ++ ([st 23] ++ ([st 24] ++ ([st 25] ++ []))))))))))))))))))))))))) := by kernel_rfl
theorem hsize (w : World) : ((boot_heap w.params).isNs mainGlobals && (#[] : Array GenState).size == 0, (boot_heap w.params).objs.size, (boot_heap w.params).nsMap mainGlobals "__annotations__") = (true, 11, some (.ref 6)) := by kernel_rfl
noncomputable def K (P : Params) : Frag := [(2, stat0 P true), (3, mainO P (Value.str (Str.ofString "law_ul0019_01") 2336) 22), (89, setO P), (100, dictO b3L 650), (20, o20 P), (21, o21 P), (27, o27 P), (28, o28 P), (34, o34 P), (35, o35 P), (41, o41 P), (42, o42 P), (48, o48 P), (49, o49 P), (80, o80 P), (81, o81 P), (98, o98 P), (99, o99 P), (144, o144 P), (145, o145 P), (151, o151 P), (152, o152 P), (158, o158 P), (159, o159 P), (165, o165 P), (166, o166 P), (172, o172 P), (173, o173 P), (179, o179 P), (180, o180 P), (186, o186 P), (187, o187 P), (193, o193 P), (194, o194 P), (198, o198 P), (199, o199 P), (203, o203 P), (204, o204 P)]
noncomputable def KA : List Addr := [2, 3, 89, 100, 20, 21, 27, 28, 34, 35, 41, 42, 48, 49, 80, 81, 98, 99, 144, 145, 151, 152, 158, 159, 165, 166, 172, 173, 179, 180, 186, 187, 193, 194, 198, 199, 203, 204]
noncomputable def q : Program := view pw [25]
noncomputable def loose : List Str := ["__name__", "_DIV_LIMIT", "_div2n1n", "_div3n2n", "_int2digits", "_digits2int", "_divmod_pos", "Error", "error_reply", "parse257", "b1_set", "in_table_b1", "b3_exceptions", "map_table_b3", "_law_between", "_law_text", "_law_read", "_law_prepared", "_law_halved", "_law_groups", "_law_packed", "_law_rests"]
theorem KA_eq (P : Params) : KA = (K P).map (·.1) := by rfl
noncomputable def tab0 : Obj := { cls := .none, data := .fields #[] }
noncomputable def KX (P : Params) : Frag := (30, tab0) :: (37, tab0) :: K P
noncomputable def KXA : List Addr := 30 :: 37 :: KA
theorem KXA_eq (P : Params) : KXA = (KX P).map (·.1) := by show 30 :: 37 :: KA = 30 :: 37 :: (K P).map (·.1); rw [KA_eq P]
noncomputable def hook : Hook := kHook KX KXA KXA_eq
noncomputable def Xt (s : Shared) : Bool := xlAt q [] s && recOk (RowW.records (OpenLaw.row PySem.Challenge.rw_ul0019_01).toRowW) s
theorem hstat (w : World) : (fun os : OsState => (staticsOk (importedModules pw.main.body) (boot_heap w.params) (H1 w.params) && namesBound pw (H1 w.params) && gensDone ⟨H1 w.params, #[], {}, 2428, os⟩ && laidKept (boot_heap w.params) (H1 w.params))) = fun _ => true := by kernel_rfl
theorem hobs (w : World) : (fun os : OsState => hook.obs ⟨H1 w.params, #[], {}, 2428, os⟩) = fun _ => hook.val w := by kernel_rfl
theorem hseen (w : World) : (fun os : OsState => openSeen q loose (importedModules pw.main.body) Xt true ⟨H1 w.params, #[], {}, 2428, os⟩) = fun _ => openGood q loose := by kernel_rfl
theorem hrun (w : World) (os : OsState) : topRun treeTable pw w 11 (some (.ref 6)) (12 + (1 + (10 + (10 + (40 + (37 + (34 + (34 + (38 + (10 + (197 + (214 + (34 + (10 + (999 + (30 + (12525 + (31 + (10 + (35 + (33 + (32 + (32 + (33 + (34 + (40 + (27 + (27 + (2))))))))))))))))))))))))))))) ⟨boot_heap w.params, #[], boot_drawn, boot_toks, os⟩ (topStub pw) = some ⟨H1 w.params, #[], {}, 2428, os⟩ := by
  refine go_top (hpre w os) (piece_block (hblock w os) ?_)
  rw [show restOf (behindTheImports pw) env0 code0 ⟨0, 0, 0, 0⟩ [topFrame ⟨0, 0, 0, 0⟩] = _ from congrArg (fun b => restOf b env0 code0 ⟨0, 0, 0, 0⟩ [topFrame ⟨0, 0, 0, 0⟩]) hbody, ← absStart w os]
  have hf := hfin w os
  rw [← absEnd w os] at hf
  have := piece_app (p0 w os) (piece_app (p1 w os) (piece_app (p2 w os) (piece_app (p3 w os) (piece_app (p4 w os) (piece_app (p5 w os) (piece_app (p6 w os) (piece_app (p7 w os) (piece_app (p8 w os) (piece_app (p9 w os) (piece_app (p10 w os) (piece_app (p11 w os) (piece_app (p12 w os) (piece_app (p13 w os) (piece_app (p14 w os) (piece_app (p15 w os) (piece_app (p16 w os) (piece_app (p17 w os) (piece_app (p18 w os) (piece_app (p19 w os) (piece_app (p20 w os) (piece_app (p21 w os) (piece_app (p22 w os) (piece_app (p23 w os) (piece_app (p24 w os) (piece_app (p25 w os) (piece_nil hf))))))))))))))))))))))))))
  rw [this, absEnd w os]
theorem hleft : LeftO pw q loose Xt hook.obs hook.val 20000 true :=
  LeftO.of_pieces (H₀ := boot_heap) (H₁ := H1) (gs₀ := #[]) (gs₁ := #[]) (d₀ := boot_drawn) (d₁ := {}) (k₀ := boot_toks) (k₁ := 2428) (m₀ := 11) (ann := some (.ref 6))
    (boot_open hopen rfl hfence) hsize hrun rfl (fun w => by
      funext os
      exact looks_pair (congrFun (hstat w) os) (looks_pair (congrFun (hseen w) os) (congrFun (hobs w) os)))
noncomputable abbrev rwL : OpenLaw := PySem.Challenge.rw_ul0019_01
theorem said_names : namesResolve rwL.row.prog = true := by rw [show @namesResolve = _ from PySem.W.Fast.te8377067652309620493]; kernel_rfl
theorem said_road : noRoadLSs { strict := !(importedModules rwL.row.prog.main.body).all cThrough.contains, foot := none, bare := (["vars", "dir", "locals"] : List Str).filter (readsOut rwL.row.prog rwL.row.prog.main.body) } rwL.row.prog.main.body = true := by
  rw [show @noRoadLSs = _ from PySem.W.Fast.te8326940854005059898]; kernel_rfl
theorem said_meet : namesMeet rwL.row.prog rwL.row.prog.main.body (fun _ n => attrL n) = true := by
  kernel_rfl
theorem said_foot : noRoadLSs { strict := true, foot := some rwL.bound', writes := rwL.writes, may := rwL.may } rwL.footing = true := by
  rw [show @noRoadLSs = _ from PySem.W.Fast.te8326940854005059898]; kernel_rfl
theorem said : OpenLaw.wellSaid PySem.Challenge.rw_ul0019_01 = true := by
  show OpenLaw.wellSaid rwL = true
  delta OpenLaw.wellSaid
  repeat' (with_reducible refine look_both ?_ ?_)
  case _ => 
    delta OpenRow.wellSaid OpenRow.partSaid looksOpen
    repeat' (with_reducible refine look_both ?_ ?_)
    all_goals (first | with_reducible exact said_names | with_reducible exact said_road | with_reducible exact said_meet | kernel_rfl)
  all_goals (first | with_reducible exact said_foot | kernel_rfl)
theorem head (walk : ∀ d kwd, defOf q "law" = some (d, kwd) → WalkO q loose (XL q []) hook.says (OpenLaw.row PySem.Challenge.rw_ul0019_01).toRowW d kwd fun f vs => PySem.call f vs) : PySem.Challenge.rw_ul0019_01.Holds := by
  refine holds_law said fun said => ?_
  refine holds_open (q := q) (loose := loose) (Xt := Xt) (XP := XL q []) (Yf := hook.obs) (Ya := hook.val) (YP := hook.says) (N := 20000) hleft hook.of hook.keeps (fun s e => xl_of s (Bool.and_eq_true_iff.mp e).1) XL.keeps rfl rfl rfl (fun s e => recFacts_of (Bool.and_eq_true_iff.mp e).2) rfl (by first | assumption | decide +kernel) (by decide +kernel) ⟨rfl, rfl, rfl, rfl, rfl, by decide +kernel⟩ ?hw (walk _ _ rfl)
  case hw => exact ⟨[.list []], by decide +kernel, by decide +kernel⟩
end
noncomputable def Keeps (h h' : Heap) : Prop := ∀ b o, h.get? b = some o → h'.get? b = some o
theorem Keeps.refl (h : Heap) : Keeps h h := fun _ _ e => e
theorem Keeps.trans {a b c : Heap} (x : Keeps a b) (y : Keeps b c) : Keeps a c := fun p o e => y p o (x p o e)
theorem frK {h₀ h h' : Heap} {L : Addr} {m : Str → Option Value} (F : Fr h₀ L h m) (k : Keeps h h') : Fr h₀ L h' m := ⟨F.ns.keeps k, fun b o e => k b o (F.keep b o e), F.above⟩
theorem newsK {h₀ h h' : Heap} {L : Addr} {news : List (Addr × Obj)} (N : News h₀ L h news) (k : Keeps h h') : News h₀ L h' news := fun p hp => ⟨k _ _ (N p hp).1, (N p hp).2⟩

structure Pre (w : World) (A : Around) (d u : Nat) (mg mb : Str → Option Value) (h : Heap) : Prop where
  hh : A.handled = none
  room : A.depth + d < recursionLimit
  units : A.units + u < cLine
  K : (K w.params).In h
  T : TopRead q loose mg mb h
theorem Pre.keeps {w : World} {A : Around} {d u : Nat} {mg mb : Str → Option Value} {h h' : Heap} (P : Pre w A d u mg mb h) (k : Keeps h h') : Pre w A d u mg mb h' := ⟨P.hh, P.room, P.units, P.K.keeps k, P.T.keeps k⟩
theorem Pre.fr {w : World} {A : Around} {d u : Nat} {mg mb : Str → Option Value} {h₀ h : Heap} {L : Addr} {m : Str → Option Value} (P : Pre w A d u mg mb h₀) (F : Fr h₀ L h m) : Pre w A d u mg mb h := P.keeps F.keep
theorem Pre.less {w : World} {A : Around} {d u d' u' : Nat} {mg mb : Str → Option Value} {h : Heap} (P : Pre w A d u mg mb h) (hd : d' ≤ d := by decide) (hu : u' ≤ u := by decide) : Pre w A d' u' mg mb h :=
  ⟨P.hh, Nat.lt_of_le_of_lt (Nat.add_le_add_left hd _) P.room, Nat.lt_of_le_of_lt (Nat.add_le_add_left hu _) P.units, P.K, P.T⟩

theorem enter {w : World} {A : Around} {d u : Nat} {mg mb : Str → Option Value} {s : Shared} {f : Addr} {name : Str} {params : Arguments} {body : List Stmt} {scope : Scope} {pm cd doc oc : Value} {od : Option Addr} {osl : Array (Option Value)}
    {args : List Value} {binds : List (Str × Value)} {Q E : Value → Shared → Prop}
    (P : Pre w A (d + 1) (u + 3) mg mb s.heap)
    (hl : (K w.params).lookup f = some ⟨oc, od, .func (docDef name params body scope pm cd doc), osl⟩)
    (hcd : codeIn (K w.params) cd name = true)
    (hbind : bindArgs (docDef name params body scope pm cd doc) ⟨args, []⟩ = pure binds)
    (hloc : (binds.all fun x => decide (scope.names.lookup x.1 = some .local)) = true)
    (h : ∀ h₁, Fr s.heap s.heap.objs.size h₁ (fun x => binds.reverse.lookup x) → Pre w (A.deeper (envOf name scope s.heap.objs.size f cd)) d u mg mb s.heap →
      wpAny (model pw w) (A.deeper (envOf name scope s.heap.objs.size f cd)) (execs body (envOf name scope s.heap.objs.size f cd))
        (fun fl s' => Q (match fl with | .ret v => v | _ => .none) s') (fun _ _ => False)
        { s with heap := h₁, toks := s.toks + binds.length })
    (hco : scope.isCoroutine = false := by rfl) (hgen : scope.isGenerator = false := by rfl) (hk : scope.kind = .function := by rfl)
    (hcell : ∀ x ∈ scope.names, x.2 ≠ .cell := by decide) :
    wpAny (model pw w) A (call (.ref f) args) Q E s := by
  refine wpAny_call (call_plain_ret (Nat.lt_of_le_of_lt (Nat.le_add_right _ _) P.room) (P.K _ _ hl) rfl P.T.nolimit (codeRec_of P.K hcd) hbind (locs hloc) (fun h₁ F => h h₁ F ?_) hco hgen hk hcell)
  have r := P.room
  have u := P.units
  exact ⟨P.hh, by rw [depth_deeper]; omega, by rw [units_deeper]; omega, P.K, P.T⟩


section
variable {w : World} {A : Around} {E : Value → Shared → Prop} {s : Shared} {h₀ : Heap} {L a : Addr} {m mg mb : Str → Option Value} {cn : Str} {cs : Scope} {ccd : Value} {cl : List (Str × Addr)} {x : Str} {pos : Pos} {v : Value} {Q : Value → Shared → Prop} {M : Model}
noncomputable def nameFree (x : Str) : Bool := !startupNames.contains x && !loose.contains x && !((recsOf q).map (·.name)).contains x && !((litsOf q).map (·.1)).contains x && !((clssOf q loose).map (·.name)).contains x && x != "__name__"
noncomputable def EnvOk (env : Env) (x : Str) : Prop := env.globals = mainGlobals ∧ env.builtins = builtinsNs ∧ env.scope.kind = .function ∧ env.scope.names.lookup x = some .globalImplicit
theorem nm_b {env : Env} (he : EnvOk env x) (F : Fr h₀ L s.heap m) (T : TopRead q loose mg mb h₀) (hf : nameFree x = true) (hv : bootBuiltins x = some v) (hd : (x == ("__debug__" : Str)) = false) (h : Q v s) :
    wpAny M A (eval (.Name x pos) env) Q E s := by
  obtain ⟨e1, e2, hk, hx⟩ := he
  simp only [nameFree, Bool.and_eq_true, Bool.not_eq_true', bne_iff_ne, ne_eq] at hf
  obtain ⟨⟨⟨⟨⟨h1, h2⟩, h3⟩, h4⟩, h5⟩, h6⟩ := hf
  have mem : ∀ {l : List Str}, l.contains x = false → x ∉ l := fun {l} e hm => by
    have := List.contains_iff_mem.mpr hm
    rw [this] at e; cases e
  exact Name_function_global hk hx (loadGlobal_builtin (env := env) (by rw [e1]; exact T.g.keeps F.keep) (T.free x (mem h1) (mem h2) (mem h3) (mem h4) (mem h5)) (by rw [e2]; exact T.b.keeps F.keep) ((T.builtins x h6).trans hv) h) hd
theorem nm_g {env : Env} (he : EnvOk env x) (F : Fr h₀ L s.heap m) (X : (K w.params).In h₀) (T : TopRead q loose mg mb h₀) (e : nsIn (K w.params) mainGlobals x = some (some v)) (hd : (x == ("__debug__" : Str)) = false) (h : Q v s) :
    wpAny M A (eval (.Name x pos) env) Q E s := by
  obtain ⟨e1, e2, hk, hx⟩ := he
  exact Name_function_global hk hx (loadGlobal_global (env := env) (by rw [e1]; exact T.g.keeps F.keep) (mg_of X T.g e) h) hd
theorem n_ord {env : Env} (he : EnvOk env (Str.ofString "ord")) (F : Fr h₀ L s.heap m) (T : TopRead q loose mg mb h₀) (h : Q (.builtin "ord") s) : wpAny M A (eval (.Name (Str.ofString "ord") pos) env) Q E s := nm_b he F T (by decide +kernel) PyProof.Rows.Boot.«ord» (by decide +kernel) h
theorem n_len {env : Env} (he : EnvOk env (Str.ofString "len")) (F : Fr h₀ L s.heap m) (T : TopRead q loose mg mb h₀) (h : Q (.builtin "len") s) : wpAny M A (eval (.Name (Str.ofString "len") pos) env) Q E s := nm_b he F T (by decide +kernel) PyProof.Rows.Boot.«len» (by decide +kernel) h
theorem n_range {env : Env} (he : EnvOk env (Str.ofString "range")) (F : Fr h₀ L s.heap m) (T : TopRead q loose mg mb h₀) (h : Q (.type "range") s) : wpAny M A (eval (.Name (Str.ofString "range") pos) env) Q E s := nm_b he F T (by decide +kernel) PyProof.Rows.Boot.«range» (by decide +kernel) h
theorem n_divmod {env : Env} (he : EnvOk env (Str.ofString "divmod")) (F : Fr h₀ L s.heap m) (T : TopRead q loose mg mb h₀) (h : Q (.builtin "divmod") s) : wpAny M A (eval (.Name (Str.ofString "divmod") pos) env) Q E s := nm_b he F T (by decide +kernel) PyProof.Rows.Boot.«divmod» (by decide +kernel) h
theorem n_reversed {env : Env} (he : EnvOk env (Str.ofString "reversed")) (F : Fr h₀ L s.heap m) (T : TopRead q loose mg mb h₀) (h : Q (.type "reversed") s) : wpAny M A (eval (.Name (Str.ofString "reversed") pos) env) Q E s := nm_b he F T (by decide +kernel) PyProof.Rows.Boot.«reversed» (by decide +kernel) h
theorem n_chr {env : Env} (he : EnvOk env (Str.ofString "chr")) (F : Fr h₀ L s.heap m) (T : TopRead q loose mg mb h₀) (h : Q (.builtin "chr") s) : wpAny M A (eval (.Name (Str.ofString "chr") pos) env) Q E s := nm_b he F T (by decide +kernel) PyProof.Rows.Boot.«chr» (by decide +kernel) h
theorem n_sum {env : Env} (he : EnvOk env (Str.ofString "sum")) (F : Fr h₀ L s.heap m) (T : TopRead q loose mg mb h₀) (h : Q (.builtin "sum") s) : wpAny M A (eval (.Name (Str.ofString "sum") pos) env) Q E s := nm_b he F T (by decide +kernel) PyProof.Rows.Boot.«sum» (by decide +kernel) h
theorem n_DIV_LIMIT {env : Env} (he : EnvOk env (Str.ofString "_DIV_LIMIT")) (F : Fr h₀ L s.heap m) (X : (K w.params).In h₀) (T : TopRead q loose mg mb h₀) (h : Q (.int 4000 189) s) : wpAny M A (eval (.Name (Str.ofString "_DIV_LIMIT") pos) env) Q E s := nm_g he F X T (by kernel_rfl) (by decide +kernel) h
theorem n_div2n1n {env : Env} (he : EnvOk env (Str.ofString "_div2n1n")) (F : Fr h₀ L s.heap m) (X : (K w.params).In h₀) (T : TopRead q loose mg mb h₀) (h : Q (.ref 21) s) : wpAny M A (eval (.Name (Str.ofString "_div2n1n") pos) env) Q E s := nm_g he F X T (by kernel_rfl) (by decide +kernel) h
theorem n_div3n2n {env : Env} (he : EnvOk env (Str.ofString "_div3n2n")) (F : Fr h₀ L s.heap m) (X : (K w.params).In h₀) (T : TopRead q loose mg mb h₀) (h : Q (.ref 28) s) : wpAny M A (eval (.Name (Str.ofString "_div3n2n") pos) env) Q E s := nm_g he F X T (by kernel_rfl) (by decide +kernel) h
theorem n_int2digits {env : Env} (he : EnvOk env (Str.ofString "_int2digits")) (F : Fr h₀ L s.heap m) (X : (K w.params).In h₀) (T : TopRead q loose mg mb h₀) (h : Q (.ref 35) s) : wpAny M A (eval (.Name (Str.ofString "_int2digits") pos) env) Q E s := nm_g he F X T (by kernel_rfl) (by decide +kernel) h
theorem n_digits2int {env : Env} (he : EnvOk env (Str.ofString "_digits2int")) (F : Fr h₀ L s.heap m) (X : (K w.params).In h₀) (T : TopRead q loose mg mb h₀) (h : Q (.ref 42) s) : wpAny M A (eval (.Name (Str.ofString "_digits2int") pos) env) Q E s := nm_g he F X T (by kernel_rfl) (by decide +kernel) h
theorem n_divmod_pos {env : Env} (he : EnvOk env (Str.ofString "_divmod_pos")) (F : Fr h₀ L s.heap m) (X : (K w.params).In h₀) (T : TopRead q loose mg mb h₀) (h : Q (.ref 49) s) : wpAny M A (eval (.Name (Str.ofString "_divmod_pos") pos) env) Q E s := nm_g he F X T (by kernel_rfl) (by decide +kernel) h
theorem n_parse257 {env : Env} (he : EnvOk env (Str.ofString "parse257")) (F : Fr h₀ L s.heap m) (X : (K w.params).In h₀) (T : TopRead q loose mg mb h₀) (h : Q (.ref 81) s) : wpAny M A (eval (.Name (Str.ofString "parse257") pos) env) Q E s := nm_g he F X T (by kernel_rfl) (by decide +kernel) h
theorem n_b1_set {env : Env} (he : EnvOk env (Str.ofString "b1_set")) (F : Fr h₀ L s.heap m) (X : (K w.params).In h₀) (T : TopRead q loose mg mb h₀) (h : Q (.ref 89) s) : wpAny M A (eval (.Name (Str.ofString "b1_set") pos) env) Q E s := nm_g he F X T (by kernel_rfl) (by decide +kernel) h
theorem n_in_table_b1 {env : Env} (he : EnvOk env (Str.ofString "in_table_b1")) (F : Fr h₀ L s.heap m) (X : (K w.params).In h₀) (T : TopRead q loose mg mb h₀) (h : Q (.ref 99) s) : wpAny M A (eval (.Name (Str.ofString "in_table_b1") pos) env) Q E s := nm_g he F X T (by kernel_rfl) (by decide +kernel) h
theorem n_b3_exceptions {env : Env} (he : EnvOk env (Str.ofString "b3_exceptions")) (F : Fr h₀ L s.heap m) (X : (K w.params).In h₀) (T : TopRead q loose mg mb h₀) (h : Q (.ref 100) s) : wpAny M A (eval (.Name (Str.ofString "b3_exceptions") pos) env) Q E s := nm_g he F X T (by kernel_rfl) (by decide +kernel) h
theorem n_map_table_b3 {env : Env} (he : EnvOk env (Str.ofString "map_table_b3")) (F : Fr h₀ L s.heap m) (X : (K w.params).In h₀) (T : TopRead q loose mg mb h₀) (h : Q (.ref 145) s) : wpAny M A (eval (.Name (Str.ofString "map_table_b3") pos) env) Q E s := nm_g he F X T (by kernel_rfl) (by decide +kernel) h
theorem n_law_between {env : Env} (he : EnvOk env (Str.ofString "_law_between")) (F : Fr h₀ L s.heap m) (X : (K w.params).In h₀) (T : TopRead q loose mg mb h₀) (h : Q (.ref 152) s) : wpAny M A (eval (.Name (Str.ofString "_law_between") pos) env) Q E s := nm_g he F X T (by kernel_rfl) (by decide +kernel) h
theorem n_law_text {env : Env} (he : EnvOk env (Str.ofString "_law_text")) (F : Fr h₀ L s.heap m) (X : (K w.params).In h₀) (T : TopRead q loose mg mb h₀) (h : Q (.ref 159) s) : wpAny M A (eval (.Name (Str.ofString "_law_text") pos) env) Q E s := nm_g he F X T (by kernel_rfl) (by decide +kernel) h
theorem n_law_read {env : Env} (he : EnvOk env (Str.ofString "_law_read")) (F : Fr h₀ L s.heap m) (X : (K w.params).In h₀) (T : TopRead q loose mg mb h₀) (h : Q (.ref 166) s) : wpAny M A (eval (.Name (Str.ofString "_law_read") pos) env) Q E s := nm_g he F X T (by kernel_rfl) (by decide +kernel) h
theorem n_law_prepared {env : Env} (he : EnvOk env (Str.ofString "_law_prepared")) (F : Fr h₀ L s.heap m) (X : (K w.params).In h₀) (T : TopRead q loose mg mb h₀) (h : Q (.ref 173) s) : wpAny M A (eval (.Name (Str.ofString "_law_prepared") pos) env) Q E s := nm_g he F X T (by kernel_rfl) (by decide +kernel) h
theorem n_law_halved {env : Env} (he : EnvOk env (Str.ofString "_law_halved")) (F : Fr h₀ L s.heap m) (X : (K w.params).In h₀) (T : TopRead q loose mg mb h₀) (h : Q (.ref 180) s) : wpAny M A (eval (.Name (Str.ofString "_law_halved") pos) env) Q E s := nm_g he F X T (by kernel_rfl) (by decide +kernel) h
theorem n_law_groups {env : Env} (he : EnvOk env (Str.ofString "_law_groups")) (F : Fr h₀ L s.heap m) (X : (K w.params).In h₀) (T : TopRead q loose mg mb h₀) (h : Q (.ref 187) s) : wpAny M A (eval (.Name (Str.ofString "_law_groups") pos) env) Q E s := nm_g he F X T (by kernel_rfl) (by decide +kernel) h
theorem n_law_packed {env : Env} (he : EnvOk env (Str.ofString "_law_packed")) (F : Fr h₀ L s.heap m) (X : (K w.params).In h₀) (T : TopRead q loose mg mb h₀) (h : Q (.ref 194) s) : wpAny M A (eval (.Name (Str.ofString "_law_packed") pos) env) Q E s := nm_g he F X T (by kernel_rfl) (by decide +kernel) h
theorem n_law_rests {env : Env} (he : EnvOk env (Str.ofString "_law_rests")) (F : Fr h₀ L s.heap m) (X : (K w.params).In h₀) (T : TopRead q loose mg mb h₀) (h : Q (.ref 199) s) : wpAny M A (eval (.Name (Str.ofString "_law_rests") pos) env) Q E s := nm_g he F X T (by kernel_rfl) (by decide +kernel) h
end
noncomputable def HasInt (m : Str → Option Value) (x : Str) (z : Int) : Prop := ∃ t, m x = some (.int z t)
noncomputable def HasStr (m : Str → Option Value) (x : Str) (z : Str) : Prop := ∃ t, m x = some (.str z t)
theorem hasInt {m : Str → Option Value} {x : Str} {z z' : Int} {t : Tok} (h : m x = some (.int z t)) (e : z = z') : HasInt m x z' := ⟨t, e ▸ h⟩
theorem hasStr {m : Str → Option Value} {x : Str} {z z' : Str} {t : Tok} (h : m x = some (.str z t)) (e : z = z') : HasStr m x z' := ⟨t, e ▸ h⟩
theorem look_hit {a : Str} {v : Value} {r : Option Value} : (if a = a then some v else r) = some v := if_pos rfl
theorem look_skip {a b : Str} {v : Value} {u r : Option Value} (h : (a == b) = false) (e : r = some v) : (if a = b then u else r) = some v := by
  rw [if_neg (beq_eq_false_iff_ne.mp h)]; exact e
section
variable {prog : Program} {w : World} {A : Around} {E : Value → Shared → Prop} {s : Shared} {env : Env} {h₀ : Heap} {x : Str} {body : List Stmt} {Q : Flow → Shared → Prop}
theorem loop_grow {I : Addr} {fp wr : List Addr} {n : Nat} {P : Nat → Value → Prop} {St : Nat → Heap → Prop} {m₀ : Str → Option Value} {news : List (Addr × Obj)} (J : Nat → (Str → Option Value) → List (Addr × Obj) → Prop)
    (W : Walks prog w A I fp wr n P St) (hex : ∀ i h, St i h → ∀ b ∈ fp, ∃ o, h.get? b = some o) (hLf : env.locals ∉ fp) (hwr : ∀ b ∈ wr, h₀.get? b = none) (hfp : ∀ q ∈ news, q.1 ∉ fp) (hst : St 0 s.heap) (F : Fr h₀ env.locals s.heap m₀) (N : News h₀ env.locals s.heap news) (hj : J 0 m₀ news)
    (turn : ∀ i v m₁ news₁ h tk own, i < n → P i v → OwnOff own (news₁.map (·.1)) → J i m₁ news₁ → Fr h₀ env.locals h (fun y => if y = x then some v else m₁ y) → News h₀ env.locals h (news₁ ++ own) →
      wpAny (model prog w) A (execs body env) (InvPostG h₀ env.locals (J (i + 1)) own { s with heap := h, toks := tk } Q) E { s with heap := h, toks := tk })
    (done : ∀ m₁ news₁ h tk, J n m₁ news₁ → Fr h₀ env.locals h m₁ → News h₀ env.locals h news₁ → Q .next { s with heap := h, toks := tk }) :
    LoopAtV prog w A h₀ env x body Q E (.ref I) s := by
  let J' : Nat → (Str → Option Value) → List (Addr × Obj) → Prop := fun i m₁ news₁ => (∀ q ∈ news₁, q.1 ∉ fp) ∧ J i m₁ news₁
  refine ⟨I, fp, wr, n, P, St, m₀, news, J', rfl, W, hLf, hwr, fun p hp hq => hfp p hp (W.sub _ hq), hst, F, N, ⟨hfp, hj⟩, ?_, ?_⟩
  · rintro i v m₁ news₁ s₁ own ⟨hh', tk', rfl⟩ hin hP ⟨hadr, hJ⟩ hoff hown hget hfpo hst' F₁ N₁
    have hsep : OwnOff own (news₁.map (·.1)) := by
      intro p hp b hb e
      obtain ⟨q, hq, rfl⟩ := List.mem_map.mp hb
      exact hadr q hq (e ▸ hown p hp)
    have N₂ : News h₀ env.locals hh' (news₁ ++ own) := fun p hp => N₁ p ((List.mem_append.mp hp).elim (fun h => List.mem_append.mpr (.inr h)) fun h => List.mem_append.mpr (.inl h))
    refine wpAny_mono (turn i v m₁ news₁ hh' tk' own hin hP hsep hJ F₁ N₂) (fun f s₂ p => ?_) fun _ _ e => e
    have fin : InvEndG h₀ env.locals (J (i + 1)) own { s with heap := hh', toks := tk' } s₂ → LoopStepU h₀ env.locals wr own (J' (i + 1)) { s with heap := hh', toks := tk' } .next s₂ := by
      rintro ⟨h', tk, m', news', nx, e, F', N', hn, ho, ha, hm⟩
      have hall : ∀ p ∈ nx, p.1 ∉ fp := by
        intro p hp hb
        cases e0 : h₀.get? p.1 with
        | some o => have := (N' p (hn p hp)).2.2; rw [e0] at this; cases this
        | none =>
          obtain ⟨o, ho'⟩ := hex _ _ hst' _ hb
          exact ha _ (hfpo _ hb e0 o ho') _ (List.mem_map.mpr ⟨p, hp, rfl⟩) rfl
      exact ⟨rfl, h', tk, m', nx, e, F', fun p hp => N' p ((List.mem_append.mp hp).elim (ho p) (hn p)), fun p hp hq => hall p hp (W.sub _ hq), hall, hm⟩
    cases f with
    | ret v => exact .ret p
    | brk => exact .brk p
    | next => exact .next (fin p)
    | cont => exact .cont (fin p)
  · rintro h' tk m' news' F' N' _ ⟨_, hJ⟩
    exact done m' news' h' tk hJ F' N'

theorem range_loop {r : Addr} {a₀ b₀ : Int} {t₀ u₀ v₀ : Tok} {n : Nat} {m₀ : Str → Option Value} {news : List (Addr × Obj)}
    (J : Nat → (Str → Option Value) → List (Addr × Obj) → Prop)
    (hh : A.handled = none) (hr : IsRange s.heap r a₀ b₀ 1 t₀ u₀ v₀) (hsmall : Builtin.Range.small a₀ b₀ 1 = true) (hn : Builtin.Range.rangeSize a₀ b₀ 1 = (n : Int)) (F : Fr h₀ env.locals s.heap m₀) (N : News h₀ env.locals s.heap news) (hj : J 0 m₀ news)
    (turn : ∀ i t m₁ news₁ h tk own, i < n → OwnOff own (news₁.map (·.1)) → J i m₁ news₁ → Fr h₀ env.locals h (fun y => if y = x then some (.int (a₀ + (i : Int)) t) else m₁ y) → News h₀ env.locals h (news₁ ++ own) →
      wpAny (model prog w) A (execs body env) (InvPostG h₀ env.locals (J (i + 1)) own { s with heap := h, toks := tk } Q) E { s with heap := h, toks := tk })
    (done : ∀ m₁ news₁ h tk, J n m₁ news₁ → Fr h₀ env.locals h m₁ → News h₀ env.locals h news₁ → Q .next { s with heap := h, toks := tk }) :
    wpAny (model prog w) A (pyIter (.ref r)) (fun it s₂ => LoopAtV prog w A h₀ env x body Q E it s₂) E s := by
  refine wpAny_pyIter_range hr hsmall ?_
  refine loop_grow J (Walks.range hh s.heap.objs.size a₀ 1 n) ?_ ?_ ?_ ?_ (by show IsRangeIter _ _ _ _ _; rw [hn]; simpa using Heap.get?_push_size _ rfl) (F.push _) (fun p hp => ⟨Heap.get?_push_of_some _ (N p hp).1, (N p hp).2⟩) hj ?_ done
  · intro i h hst b hb
    rw [List.mem_singleton.mp hb]; exact ⟨_, hst⟩
  · intro hm
    exact absurd F.ns.lt ((List.mem_singleton.mp hm) ▸ Nat.lt_irrefl _)
  · intro b hb
    rw [List.mem_singleton.mp hb]
    exact next_is_new F
  · intro p hp hI
    exact absurd (Heap.lt_size (N p hp).1) ((List.mem_singleton.mp hI) ▸ Nat.lt_irrefl _)
  · rintro i v m₁ news₁ h tk own hi ⟨t, rfl⟩ ho hJ F' N'
    rw [Int.mul_one] at F'
    exact turn i t m₁ news₁ h tk own hi ho hJ F' N'

theorem list_loop {l : Addr} {vs : List Value} {m₀ : Str → Option Value} {news : List (Addr × Obj)} (J : Nat → (Str → Option Value) → List (Addr × Obj) → Prop)
    (hh : A.handled = none) (hls : s.heap.IsList l vs.toArray) (hlL : l ≠ env.locals) (hnl : ∀ q ∈ news, q.1 ≠ l) (F : Fr h₀ env.locals s.heap m₀) (N : News h₀ env.locals s.heap news) (hj : J 0 m₀ news)
    (turn : ∀ i v m₁ news₁ h tk own, vs[i]? = some v → OwnOff own (news₁.map (·.1)) → J i m₁ news₁ → Fr h₀ env.locals h (fun y => if y = x then some v else m₁ y) → News h₀ env.locals h (news₁ ++ own) →
      wpAny (model prog w) A (execs body env) (InvPostG h₀ env.locals (J (i + 1)) own { s with heap := h, toks := tk } Q) E { s with heap := h, toks := tk })
    (done : ∀ m₁ news₁ h tk, J vs.length m₁ news₁ → Fr h₀ env.locals h m₁ → News h₀ env.locals h news₁ → Q .next { s with heap := h, toks := tk }) :
    wpAny (model prog w) A (pyIter (.ref l)) (fun it s₂ => LoopAtV prog w A h₀ env x body Q E it s₂) E s := by
  obtain ⟨ol, hol, _⟩ := id hls
  have hne : l ≠ s.heap.objs.size := Nat.ne_of_lt (Heap.lt_size hol)
  refine wpAny_pyIter_list hls ?_
  have W := Walks.list (prog := prog) (w := w) hh s.heap.objs.size l hne vs.toArray
  rw [List.size_toArray] at W
  refine loop_grow J W ?_ ?_ ?_ ?_ ⟨⟨_, Heap.get?_push_size _ rfl, rfl, rfl⟩, hls.at fun o e => Heap.get?_push_of_some _ e⟩ (F.push _) (fun p hp => ⟨Heap.get?_push_of_some _ (N p hp).1, (N p hp).2⟩) hj ?_ done
  · rintro i h ⟨⟨o, h1, _⟩, ⟨o', h2, _⟩⟩ b hb
    rcases List.mem_cons.mp hb with e | hb
    · exact ⟨o, e ▸ h1⟩
    · exact ⟨o', (List.mem_singleton.mp hb) ▸ h2⟩
  · intro hm
    rcases List.mem_cons.mp hm with e | hm
    · exact absurd F.ns.lt (e ▸ Nat.lt_irrefl _)
    · exact hlL (List.mem_singleton.mp hm).symm
  · intro b hb
    rw [List.mem_singleton.mp hb]
    exact next_is_new F
  · intro p hp hI
    rcases List.mem_cons.mp hI with e | hI
    · exact absurd (Heap.lt_size (N p hp).1) (e ▸ Nat.lt_irrefl _)
    · exact hnl p hp (List.mem_singleton.mp hI)
  · rintro i v m₁ news₁ h tk own hi hP ho hJ F' N'
    exact turn i v m₁ news₁ h tk own (by simpa using hP) ho hJ F' N'

theorem str_loop {y : Str} {t : Tok} {m₀ : Str → Option Value} {news : List (Addr × Obj)} (J : Nat → (Str → Option Value) → List (Addr × Obj) → Prop)
    (hh : A.handled = none) (F : Fr h₀ env.locals s.heap m₀) (N : News h₀ env.locals s.heap news) (hj : J 0 m₀ news)
    (turn : ∀ i c u m₁ news₁ h tk own, y.cps[i]? = some c → OwnOff own (news₁.map (·.1)) → J i m₁ news₁ → Fr h₀ env.locals h (fun z => if z = x then some (.str ⟨#[c]⟩ u) else m₁ z) → News h₀ env.locals h (news₁ ++ own) →
      wpAny (model prog w) A (execs body env) (InvPostG h₀ env.locals (J (i + 1)) own { s with heap := h, toks := tk } Q) E { s with heap := h, toks := tk })
    (done : ∀ m₁ news₁ h tk, J y.cps.size m₁ news₁ → Fr h₀ env.locals h m₁ → News h₀ env.locals h news₁ → Q .next { s with heap := h, toks := tk }) :
    wpAny (model prog w) A (pyIter (.str y t)) (fun it s₂ => LoopAtV prog w A h₀ env x body Q E it s₂) E s := by
  cases ha : y.cps.all (· < 128)
  · refine wpAny_pyIter_wide ha ?_
    refine loop_grow J (Walks.strWide hh s.heap.objs.size y t) ?_ ?_ ?_ ?_ ⟨_, Heap.get?_push_size _ rfl, rfl, rfl⟩ (F.push _) (fun p hp => ⟨Heap.get?_push_of_some _ (N p hp).1, (N p hp).2⟩) hj ?_ done
    · rintro i h ⟨o, e, _⟩ b hb
      rw [List.mem_singleton.mp hb]; exact ⟨o, e⟩
    · intro hm
      exact absurd F.ns.lt ((List.mem_singleton.mp hm) ▸ Nat.lt_irrefl _)
    · intro b hb
      rw [List.mem_singleton.mp hb]
      exact next_is_new F
    · intro p hp hI
      exact absurd (Heap.lt_size (N p hp).1) ((List.mem_singleton.mp hI) ▸ Nat.lt_irrefl _)
    · rintro i v m₁ news₁ h tk own hi ⟨c, u, hc, rfl⟩ ho hJ F' N'
      exact turn i c u m₁ news₁ h tk own hc ho hJ F' N'
  · refine wpAny_pyIter_ascii ha ?_
    refine loop_grow J (Walks.strAscii hh s.heap.objs.size y t) ?_ ?_ ?_ ?_ ⟨_, Heap.get?_push_size _ rfl, rfl, rfl⟩ (F.push _) (fun p hp => ⟨Heap.get?_push_of_some _ (N p hp).1, (N p hp).2⟩) hj ?_ done
    · rintro i h ⟨o, e, _⟩ b hb
      rw [List.mem_singleton.mp hb]; exact ⟨o, e⟩
    · intro hm
      exact absurd F.ns.lt ((List.mem_singleton.mp hm) ▸ Nat.lt_irrefl _)
    · intro b hb
      rw [List.mem_singleton.mp hb]
      exact next_is_new F
    · intro p hp hI
      exact absurd (Heap.lt_size (N p hp).1) ((List.mem_singleton.mp hI) ▸ Nat.lt_irrefl _)
    · rintro i v m₁ news₁ h tk own hi ⟨c, u, hc, rfl⟩ ho hJ F' N'
      exact turn i c u m₁ news₁ h tk own hc ho hJ F' N'
end
section
variable {prog : Program} {w : World} {A : Around} {E : Value → Shared → Prop} {s : Shared}
theorem item_of {value slice : PySem.Expr} {l : Addr} {vs : List Value} {k : Int} {u : Tok} {v : Value} {Q : Value → Shared → Prop}
    (hl : s.heap.IsList l vs.toArray) (h0 : 0 ≤ k) (hhi : k < 2 ^ 63) (hx : vs[k.toNat]? = some v) (h : Q v s)
    (hs : subscripted slice false (.ref l) (.int k u) = operate [.ref l, .int k u] (getItem (.ref l) (.int k u)) := by with_unfolding_all rfl) :
    wpAny (model prog w) A (subscriptTail value slice (.ref l) (.int k u)) Q E s :=
  tail_any hl.typeIs slot_list_getitem.lookup (wpAny_getItem_list hl h0 hhi (by simpa using hx) h) hs
theorem upList {h h' : Heap} {a : Addr} {vs : Array Value} (hl : h.IsList a vs) (k : Keeps h h') : h'.IsList a vs := by
  obtain ⟨o, e, r⟩ := hl; exact ⟨o, k _ _ e, r⟩
theorem InvEnd.close {h₀ h' : Heap} {L : Addr} {J : (Str → Option Value) → List (Addr × Obj) → Prop} {m' : Str → Option Value} {own nx : List (Addr × Obj)} {s₁ : Shared} {tk : Nat} (F : Fr h₀ L h' m') (N : News h₀ L h' (nx ++ own))
    (ho : OwnOff own (nx.map (·.1))) (hj : J m' nx) : InvEndG h₀ L J own s₁ { s₁ with heap := h', toks := tk } :=
  InvEndG.intro F N hj ho (fun p hp => List.mem_append.mpr (.inl hp)) fun p hp => List.mem_append.mpr (.inr hp)
end
noncomputable def bl (a : Nat) : Nat := Builtin.Int.intBits (a : Int)
theorem bl_le {a k : Nat} : bl a ≤ k ↔ a < 2 ^ k := by
  unfold bl Builtin.Int.intBits
  rcases Nat.eq_zero_or_pos a with h | h
  · subst h; simp; exact Nat.pow_pos (by decide)
  · rw [if_neg (by simp; omega)]
    rw [Int.natAbs_natCast, Nat.succ_le_iff, Nat.log2_lt (by omega)]
theorem bl_lt (a : Nat) : a < 2 ^ bl a := bl_le.mp (Nat.le_refl _)
theorem noPylong_nat {a : Int} {b : Nat} (hb : b < 2 ^ 9000) : Builtin.divisionGoesByPylong a (b : Int) = false := by
  refine PyProof.noPylong_of_log2 ?_
  rw [Int.natAbs_natCast]
  rcases Nat.eq_zero_or_pos b with h | h
  · subst h; decide
  · exact (Nat.log2_lt (by omega)).mpr hb
theorem fdiv_nat (a b : Nat) : (a : Int).fdiv (b : Int) = ((a / b : Nat) : Int) := by
  rw [Int.fdiv_eq_ediv_of_nonneg _ (by omega)]; exact (Int.natCast_ediv a b).symm
theorem fmod_nat (a b : Nat) : (a : Int).fmod (b : Int) = ((a % b : Nat) : Int) := by
  rw [Int.fmod_eq_emod_of_nonneg _ (by omega)]; exact (Int.natCast_emod a b).symm
theorem two_nat (n : Nat) : (2 : Int) ^ ((n : Int)).toNat = ((2 ^ n : Nat) : Int) := by rw [Int.toNat_natCast]; push_cast; rfl
theorem shr_nat (a n : Nat) : (a : Int).fdiv (2 ^ ((n : Int)).toNat) = ((a / 2 ^ n : Nat) : Int) := by
  rw [two_nat, fdiv_nat]
theorem mulOk_nat {a b : Nat} (h : bl a + bl b ≤ 2 ^ 27) : IntMulOk (a : Int) (b : Int) := by
  unfold IntMulOk
  have e1 : Builtin.Int.intBits (a : Int) = bl a := rfl
  have e2 : Builtin.Int.intBits (b : Int) = bl b := rfl
  rw [e1, e2]
  have : Builtin.Int.intTooBig ((bl a + bl b : Nat) : Int) = false := by
    unfold Builtin.Int.intTooBig
    rw [decide_eq_false_iff_not]
    show ¬ ((bl a + bl b : Nat) : Int) > ((2 ^ 27 : Nat) : Int)
    omega
  intro h
  simp only [Bool.and_eq_true] at h
  have h2 := h.2
  rw [show ((bl a : Int) + (bl b : Int)) = ((bl a + bl b : Nat) : Int) by omega] at h2
  rw [this] at h2; cases h2
theorem and_hi_lo {a b n : Nat} (hb : b < 2 ^ n) : (a * 2 ^ n) &&& b = 0 := by
  apply Nat.eq_of_testBit_eq
  intro i
  rw [Nat.testBit_and, Nat.zero_testBit, Nat.mul_comm, Nat.testBit_two_pow_mul]
  by_cases h : n ≤ i
  · have : b.testBit i = false := Nat.testBit_lt_two_pow (Nat.lt_of_lt_of_le hb (Nat.pow_le_pow_right (by decide) h))
    rw [this]; simp
  · simp [h]
theorem and_hi_self (x n : Nat) : x &&& (x / 2 ^ n * 2 ^ n) = x / 2 ^ n * 2 ^ n := by
  apply Nat.eq_of_testBit_eq
  intro i
  rw [Nat.testBit_and, Nat.mul_comm, Nat.testBit_two_pow_mul]
  by_cases h : n ≤ i
  · rw [Nat.testBit_div_two_pow, show i - n + n = i by omega]; simp [h]
  · simp [h]
section
variable {prog : Program} {w : World} {A : Around} {E : Value → Shared → Prop} {s : Shared} {a b n : Nat} {t u : Tok} {Q : Value → Shared → Prop}
theorem nlsh (hsz : bl a + n ≤ 2 ^ 27) (h : Q (.int ((a * 2 ^ n : Nat) : Int) s.toks) { s with toks := s.toks + 1 }) : wpAny (model prog w) A (binaryOp .LShift (.int (a : Int) t) (.int (n : Int) u)) Q E s := by
  refine lshift_int (by omega) (by show ((bl a : Nat) : Int) + n ≤ 2 ^ 27; omega) ?_
  rw [two_nat, ← Int.natCast_mul]; exact h
theorem nilsh (hsz : bl a + n ≤ 2 ^ 27) (h : Q (.int ((a * 2 ^ n : Nat) : Int) s.toks) { s with toks := s.toks + 1 }) : wpAny (model prog w) A (inplaceOp .LShift (.int (a : Int) t) (.int (n : Int) u)) Q E s := by
  refine ilshift_int (by omega) (by show ((bl a : Nat) : Int) + n ≤ 2 ^ 27; omega) ?_
  rw [two_nat, ← Int.natCast_mul]; exact h
theorem nrsh (h : Q (.int ((a / 2 ^ n : Nat) : Int) s.toks) { s with toks := s.toks + 1 }) : wpAny (model prog w) A (binaryOp .RShift (.int (a : Int) t) (.int (n : Int) u)) Q E s := by
  refine rshift_int (by omega) ?_
  rw [shr_nat]; exact h
theorem nirsh (h : Q (.int ((a / 2 ^ n : Nat) : Int) s.toks) { s with toks := s.toks + 1 }) : wpAny (model prog w) A (inplaceOp .RShift (.int (a : Int) t) (.int (n : Int) u)) Q E s := by
  refine irshift_int (by omega) ?_
  rw [shr_nat]; exact h
theorem nand (h : Q (.int ((a &&& b : Nat) : Int) s.toks) { s with toks := s.toks + 1 }) : wpAny (model prog w) A (binaryOp .BitAnd (.int (a : Int) t) (.int (b : Int) u)) Q E s := by
  refine and_int ?_
  rw [bitAnd_pp (by omega) (by omega), Int.toNat_natCast, Int.toNat_natCast]; exact h
theorem nmul (hm : bl a + bl b ≤ 2 ^ 27) (h : Q (.int ((a * b : Nat) : Int) s.toks) { s with toks := s.toks + 1 }) : wpAny (model prog w) A (binaryOp .Mult (.int (a : Int) t) (.int (b : Int) u)) Q E s := by
  refine PyProof.Rows.mul_int ?_ (mulOk_nat hm)
  rw [← Int.natCast_mul]; exact h
theorem nor_lo (hb : b < 2 ^ n) (h : Q (.int ((a * 2 ^ n + b : Nat) : Int) s.toks) { s with toks := s.toks + 1 }) : wpAny (model prog w) A (binaryOp .BitOr (.int ((a * 2 ^ n : Nat) : Int) t) (.int (b : Int) u)) Q E s := by
  refine or_int ?_
  rw [bitOr_and, bitAnd_pp (by omega) (by omega), Int.toNat_natCast, Int.toNat_natCast, and_hi_lo hb]
  have e : ((a * 2 ^ n : Nat) : Int) + (b : Int) - ((0 : Nat) : Int) = ((a * 2 ^ n + b : Nat) : Int) := by omega
  rw [e]; exact h
theorem nxor_hi (h : Q (.int ((a % 2 ^ n : Nat) : Int) s.toks) { s with toks := s.toks + 1 }) : wpAny (model prog w) A (binaryOp .BitXor (.int (a : Int) t) (.int ((a / 2 ^ n * 2 ^ n : Nat) : Int) u)) Q E s := by
  refine xor_int ?_
  rw [PyProof.Rows.bitXor_and, bitAnd_pp (by omega) (by omega), Int.toNat_natCast, Int.toNat_natCast, and_hi_self]
  have e : (a : Int) + ((a / 2 ^ n * 2 ^ n : Nat) : Int) - 2 * ((a / 2 ^ n * 2 ^ n : Nat) : Int) = ((a % 2 ^ n : Nat) : Int) := by
    have := Nat.div_add_mod a (2 ^ n)
    rw [Nat.mul_comm] at this
    omega
  rw [e]; exact h
theorem nand_mask (h : Q (.int ((a % 2 ^ n : Nat) : Int) s.toks) { s with toks := s.toks + 1 }) : wpAny (model prog w) A (binaryOp .BitAnd (.int (a : Int) t) (.int ((2 ^ n - 1 : Nat) : Int) u)) Q E s := by
  refine nand ?_
  rw [Nat.and_two_pow_sub_one_eq_mod]; exact h
theorem nilsh1 (hsz : bl a ≤ 20000) (h : Q (.int ((a * 2 ^ 1 : Nat) : Int) s.toks) { s with toks := s.toks + 1 }) : wpAny (model prog w) A (inplaceOp .LShift (.int (a : Int) t) (.int 1 u)) Q E s :=
  nilsh (n := 1) (by omega) h
theorem nirsh1 (h : Q (.int ((a / 2 : Nat) : Int) s.toks) { s with toks := s.toks + 1 }) : wpAny (model prog w) A (inplaceOp .RShift (.int (a : Int) t) (.int 1 u)) Q E s :=
  nirsh (n := 1) h
theorem nrsh1 (h : Q (.int ((a / 2 : Nat) : Int) s.toks) { s with toks := s.toks + 1 }) : wpAny (model prog w) A (binaryOp .RShift (.int (a : Int) t) (.int 1 u)) Q E s :=
  nrsh (n := 1) h
theorem nlsh_one (hsz : n ≤ 20000) (h : Q (.int ((2 ^ n : Nat) : Int) s.toks) { s with toks := s.toks + 1 }) : wpAny (model prog w) A (binaryOp .LShift (.int 1 t) (.int (n : Int) u)) Q E s := by
  refine nlsh (a := 1) (n := n) (by have : bl 1 = 1 := by decide
                                    omega) ?_
  rw [Nat.one_mul]; exact h
theorem nand_mask' (h : Q (.int ((a % 2 ^ n : Nat) : Int) s.toks) { s with toks := s.toks + 1 }) : wpAny (model prog w) A (binaryOp .BitAnd (.int (a : Int) t) (.int (((2 ^ n : Nat) : Int) - 1) u)) Q E s := by
  have e : ((2 ^ n : Nat) : Int) - 1 = ((2 ^ n - 1 : Nat) : Int) := by have : 0 < 2 ^ n := Nat.pow_pos (by decide); omega
  rw [e]; exact nand_mask h
end
section
local macro_rules | `(tactic| walk_at "eval Name") => `(tactic| first
  | ((first | (with_reducible refine' n_ord ?he ?hF ?hT ?_) | (with_reducible refine' n_len ?he ?hF ?hT ?_) | (with_reducible refine' n_range ?he ?hF ?hT ?_) | (with_reducible refine' n_divmod ?he ?hF ?hT ?_) | (with_reducible refine' n_reversed ?he ?hF ?hT ?_) | (with_reducible refine' n_chr ?he ?hF ?hT ?_) | (with_reducible refine' n_sum ?he ?hF ?hT ?_)); (case he => with_unfolding_all exact ⟨rfl, rfl, rfl, by kernel_rfl⟩); (case hF => assumption); (case hT => assumption))
  | ((first | (with_reducible refine' n_DIV_LIMIT ?he ?hF ?hX ?hT ?_) | (with_reducible refine' n_div2n1n ?he ?hF ?hX ?hT ?_) | (with_reducible refine' n_div3n2n ?he ?hF ?hX ?hT ?_) | (with_reducible refine' n_int2digits ?he ?hF ?hX ?hT ?_) | (with_reducible refine' n_digits2int ?he ?hF ?hX ?hT ?_) | (with_reducible refine' n_divmod_pos ?he ?hF ?hX ?hT ?_) | (with_reducible refine' n_parse257 ?he ?hF ?hX ?hT ?_) | (with_reducible refine' n_b1_set ?he ?hF ?hX ?hT ?_) | (with_reducible refine' n_in_table_b1 ?he ?hF ?hX ?hT ?_) | (with_reducible refine' n_b3_exceptions ?he ?hF ?hX ?hT ?_) | (with_reducible refine' n_map_table_b3 ?he ?hF ?hX ?hT ?_) | (with_reducible refine' n_law_between ?he ?hF ?hX ?hT ?_) | (with_reducible refine' n_law_text ?he ?hF ?hX ?hT ?_) | (with_reducible refine' n_law_read ?he ?hF ?hX ?hT ?_) | (with_reducible refine' n_law_prepared ?he ?hF ?hX ?hT ?_) | (with_reducible refine' n_law_halved ?he ?hF ?hX ?hT ?_) | (with_reducible refine' n_law_groups ?he ?hF ?hX ?hT ?_) | (with_reducible refine' n_law_packed ?he ?hF ?hX ?hT ?_) | (with_reducible refine' n_law_rests ?he ?hF ?hX ?hT ?_)); (case he => with_unfolding_all exact ⟨rfl, rfl, rfl, by kernel_rfl⟩); (case hF => assumption); (case hX => assumption); (case hT => assumption)))
local macro_rules | `(tactic| walk_at "look") => `(tactic| first
  | (with_reducible exact look_hit)
  | ((with_reducible refine' look_skip ?lh ?le); (case lh => decide +kernel); (case le => walk_at "look"))
  | (with_reducible assumption)
  | exact rfl)
local macro_rules | `(tactic| walk_at "eval Name") => `(tactic| ((with_unfolding_all refine' ld ?hF ?hv ?_ ?hk ?hl ?hd); (case hk => with_unfolding_all exact rfl); (case hl => kernel_rfl); (case hd => decide +kernel); (case hF => with_reducible assumption); (case hv => walk_at "look")))
local macro_rules | `(tactic| walk_at "binaryOp Add str str") => `(tactic| ((with_reducible refine SBL.add (hsz := ?hsz) ?_); (case hsz => with_reducible assumption); intro _ _ _))
local macro_rules | `(tactic| walk_at "go") => `(tactic| (repeat ((first | (with_reducible show wpAny _ _ _ _ _ _) | (with_reducible show _ ∧ wpAny _ _ _ _ _ _)); walk1)))

local macro_rules | `(tactic| walk_at "toadd") => `(tactic| (repeat ((fail_if_success (with_reducible show wpAny _ _ (binaryOp Operator.Add (Value.str _ _) (Value.str _ _)) _ _ _)); (first | (with_reducible show wpAny _ _ _ _ _ _) | (with_reducible show _ ∧ wpAny _ _ _ _ _ _)); walk1)))
local macro_rules | `(tactic| walk_at "toite") => `(tactic| (repeat ((fail_if_success (with_reducible show wpAny _ _ (ite _ _ _) _ _ _)); (first | (with_reducible show wpAny _ _ _ _ _ _) | (with_reducible show _ ∧ wpAny _ _ _ _ _ _)); walk1)))
local macro_rules | `(tactic| walk_at "tocall") => `(tactic| (repeat ((fail_if_success (with_reducible show wpAny _ _ (call (Value.ref _) _) _ _ _)); (first | (with_reducible show wpAny _ _ _ _ _ _) | (with_reducible show _ ∧ wpAny _ _ _ _ _ _)); walk1)))
local macro_rules | `(tactic| walk_at "binaryOp LShift int int") => `(tactic| first | ((with_reducible refine nlsh_one ?hs ?_); (case hs => with_reducible assumption)) | ((with_reducible refine nlsh ?hs ?_); (case hs => with_reducible assumption)))
local macro_rules | `(tactic| walk_at "inplaceOp LShift int int") => `(tactic| first | ((with_reducible refine nilsh1 ?hs ?_); (case hs => with_reducible assumption)) | ((with_reducible refine nilsh ?hs ?_); (case hs => with_reducible assumption)))
local macro_rules | `(tactic| walk_at "binaryOp RShift int int") => `(tactic| first | (with_reducible refine nrsh1 ?_) | (with_reducible refine nrsh ?_))
local macro_rules | `(tactic| walk_at "inplaceOp RShift int int") => `(tactic| first | (with_reducible refine nirsh1 ?_) | (with_reducible refine nirsh ?_))
local macro_rules | `(tactic| walk_at "binaryOp Mult int int") => `(tactic| ((with_reducible refine nmul ?hs ?_); (case hs => with_reducible assumption)))
local macro_rules | `(tactic| walk_at "assign Tuple") => `(tactic| ((with_reducible show wpAny _ _ (assign (Expr.Tuple _ _ _) _ (Value.ref _)) _ _ _); (refine' unpackN_ ?k1 ?k2 ?k3 ?k4 ?k5 ?k6 ?_); (case k1 => with_reducible assumption); (case k2 => with_reducible assumption); (case k3 => first | with_reducible assumption | exact News.isTup (by with_reducible assumption) (by k_mem)); (case k4 => assumption); (case k5 => exact rfl); (case k6 => exact rfl); intro _ _ _))
local macro_rules | `(tactic| walk_at "unpackItems ref") => `(tactic| ((refine' unpackItemsN_ ?k1 ?k2 ?k3 ?k4 ?k5 ?_); (case k1 => with_reducible assumption); (case k2 => with_reducible assumption); (case k3 => first | with_reducible assumption | exact News.isTup (by with_reducible assumption) (by k_mem)); (case k4 => assumption); (case k5 => exact rfl); intro _ _ _))
local macro_rules | `(tactic| walk_at "loadName") => `(tactic| ((with_unfolding_all refine' ldn ?hF ?hv ?_ ?hk ?hl); (case hk => exact rfl); (case hl => kernel_rfl); (case hF => with_reducible assumption); (case hv => walk_at "look")))
local macro_rules | `(tactic| walk_at "binaryOp BitAnd int int") => `(tactic| (with_reducible refine nand_mask' ?_))
section
local macro_rules | `(tactic| walk_at "callWith ref") => `(tactic| ((with_reducible refine' callWith_K ?k1 ?k2 ?_ ?he ?hp); (case k1 => assumption); (case k2 => kernel_rfl); (case he => with_unfolding_all exact rfl); (case hp => with_unfolding_all exact rfl)))
local macro_rules | `(tactic| walk_at "And") => `(tactic| ((with_reducible show Frag.In _ _ ∧ wpAny _ _ _ _ _ _); (refine ⟨Frag.In.keeps (by with_reducible assumption) (Fr.keep (by with_reducible assumption)), ?_⟩); (try dsimp only [List.nil_append])))
noncomputable def isB1 (c : Nat) : Bool := b1L.any fun e => e.1 == (c : Int)
theorem b1_shape : ∀ e ∈ b1L, (∃ t, e.2 = .int e.1 t) ∧ hashInt e.1 = e.1 := by
  unfold b1L
  simp only [List.forall_mem_cons, List.not_mem_nil, false_implies, implies_true, and_true]
  refine ⟨?_, ?_, ?_, ?_, ?_, ?_, ?_, ?_, ?_, ?_, ?_, ?_, ?_, ?_, ?_, ?_, ?_, ?_, ?_, ?_, ?_, ?_, ?_, ?_, ?_, ?_, ?_⟩ <;> exact ⟨⟨_, rfl⟩, by decide +kernel⟩
theorem setOf_b1 {w : World} {h : Heap} (X : (K w.params).In h) : h.SetOf (intKind pw w) 89 (fun k => b1L.any fun e => e.1 == k) 27 := by
  refine ⟨setO w.params, b1L.toArray, 29, _, X _ _ rfl, ⟨rfl, rfl, rfl⟩, rfl, ?_, ?_, (by show 27 < 4096; decide), ?_, rfl⟩
  · intro e he
    obtain ⟨⟨t, ht⟩, hh⟩ := b1_shape e (by simpa using he)
    refine ⟨⟨e.1, by rw [ht]; exact intKind_is pw w e.1 t, hh.symm⟩, by rw [ht]; rfl⟩
  · intro k
    show (b1L.any fun e => e.1 == k) = true ↔ ∃ e ∈ b1L, (intKind pw w).is k e.2 = true
    rw [List.any_eq_true]
    constructor
    · rintro ⟨e, he, hk⟩
      obtain ⟨⟨t, ht⟩, _⟩ := b1_shape e he
      exact ⟨e, he, by rw [ht, beq_iff_eq.mp hk]; exact intKind_is pw w k t⟩
    · rintro ⟨e, he, hk⟩
      obtain ⟨⟨t, ht⟩, _⟩ := b1_shape e he
      refine ⟨e, he, ?_⟩
      rw [ht] at hk
      exact hk
  · exact rfl

set_option maxHeartbeats 2000000 in
theorem s_in_table_b1 {w : World} {A : Around} {mg mb : Str → Option Value} {s : Shared} {c : Nat} {t : Tok} {Q E : Value → Shared → Prop}
    (P : Pre w A 2 100 mg mb s.heap)
    (h : ∀ h' tk', Keeps s.heap h' → Q (.bool (isB1 c)) { s with heap := h', toks := tk' }) :
    wpAny (model pw w) A (call (.ref 99) [.str ⟨#[c]⟩ t]) Q E s := by
  refine enter (binds := [("code", .str ⟨#[c]⟩ t)]) P rfl rfl rfl rfl ?_
  intro h₁ F P'
  have X := P'.K
  have T := P'.T
  iterate 11 walk1
  exact wpAny_inSet_of (intKind_is pw w _ _) rfl (setOf_b1 (X.keeps F.keep)) (h _ _ F.keep)

noncomputable def b3get (c : Nat) : Option Str := (b3pairs.find? fun x => x.1 == (c : Int)).map (·.2)
noncomputable def SV (a : Option Value) (b : Option Str) : Prop := match b with
  | none => a = none
  | some y => ∃ t, a = some (.str y t)
theorem find_entG (k : Int) : ∀ (c : List (Int × Str)) (t : Nat), SV (((entG t c).find? fun e : DictEntry => Value.isInt k e.key).map fun e : DictEntry => e.val) ((c.find? fun x => x.1 == k).map (·.2))
  | [], t => rfl
  | x :: c, t => by
    show SV (((⟨x.1, .int x.1 t, .str x.2 (t + 1)⟩ :: entG (t + 3) c).find? fun e : DictEntry => Value.isInt k e.key).map fun e : DictEntry => e.val) _
    rw [List.find?_cons, List.find?_cons]
    show SV (Option.map (fun e : DictEntry => e.val) (match x.1 == k with | true => _ | false => _)) (Option.map (fun y : Int × Str => y.2) (match x.1 == k with | true => _ | false => _))
    cases x.1 == k with
    | true => exact ⟨_, rfl⟩
    | false => exact find_entG k c _
theorem find_entS (k : Int) : ∀ (c : List (Int × Str)) (t : Nat), SV (((entS t c).find? fun e : DictEntry => Value.isInt k e.key).map fun e : DictEntry => e.val) ((c.find? fun x => x.1 == k).map (·.2))
  | [], t => rfl
  | x :: c, t => by
    show SV (((⟨x.1, .int x.1 t, .str x.2 (t + 1)⟩ :: entS (t + 2) c).find? fun e : DictEntry => Value.isInt k e.key).map fun e : DictEntry => e.val) _
    rw [List.find?_cons, List.find?_cons]
    show SV (Option.map (fun e : DictEntry => e.val) (match x.1 == k with | true => _ | false => _)) (Option.map (fun y : Int × Str => y.2) (match x.1 == k with | true => _ | false => _))
    cases x.1 == k with
    | true => exact ⟨_, rfl⟩
    | false => exact find_entS k c _
theorem find_b3 (k : Int) : SV ((b3L.find? fun e : DictEntry => Value.isInt k e.key).map fun e : DictEntry => e.val) ((b3pairs.find? fun x => x.1 == k).map (·.2)) := by
  have e : b3pairs = b3pairs.take 646 ++ b3pairs.drop 646 := (List.take_append_drop ..).symm
  unfold b3L
  conv => rhs; rw [e]
  rw [List.find?_append, List.find?_append]
  have h1 := find_entG k (b3pairs.take 646) 377
  have h2 := find_entS k (b3pairs.drop 646) 2315
  revert h1 h2
  cases (b3pairs.take 646).find? fun x => x.1 == k with
  | none =>
    intro h1 h2
    have h1 : Option.map (fun e : DictEntry => e.val) ((entG 377 (b3pairs.take 646)).find? fun e : DictEntry => Value.isInt k e.key) = none := h1
    rw [Option.map_eq_none_iff.mp h1]
    exact h2
  | some x =>
    rintro ⟨t, h1⟩ _
    obtain ⟨e, he, hv⟩ := Option.map_eq_some_iff.mp h1
    rw [he]
    exact ⟨t, congrArg some hv⟩
theorem hashInt_small {k : Int} (h0 : 0 ≤ k) (h1 : k < 2 ^ 60) : hashInt k = k := by
  unfold hashInt
  rw [rawHash_small h0 h1, if_neg]
  rw [beq_iff_eq]; omega
theorem b3L_shape : ∀ e ∈ b3L, (∃ u, e.key = .int e.hash u) ∧ hashInt e.hash = e.hash := by
  intro e he
  have hs : ∀ e ∈ b3L, e.hash ∈ b3pairs.map (·.1) := by
    intro e he
    have : e.hash ∈ b3L.map (·.hash) := List.mem_map_of_mem he
    unfold b3L at this
    rw [List.map_append, entG_hash, entS_hash, ← List.map_append, List.take_append_drop] at this
    exact this
  refine ⟨?_, ?_⟩
  · unfold b3L at he
    rcases List.mem_append.mp he with he | he
    · exact entG_key _ _ e he
    · exact entS_key _ _ e he
  · obtain ⟨x, hx, hxe⟩ := List.mem_map.mp (hs e he)
    have := b3_small x hx
    rw [← hxe]; exact hashInt_small this.1 this.2
theorem mapOf_b3 {w : World} {h : Heap} (X : (K w.params).In h) : h.MapOf (intKind pw w) 100 (fun k => (b3L.find? fun e : DictEntry => Value.isInt k e.key).map fun e : DictEntry => e.val) := by
  refine ⟨dictO b3L 650, b3L.toArray, 650, X _ _ rfl, ⟨rfl, rfl, rfl⟩, rfl, ?_, ?_⟩
  · intro e he
    obtain ⟨⟨u, hu⟩, hh⟩ := b3L_shape e (by simpa using he)
    exact ⟨e.hash, by rw [hu]; exact intKind_is pw w _ _, hh.symm⟩
  · intro k
    unfold findBy
    rw [List.find?_toArray]; rfl
noncomputable def lowC (c : Nat) : Nat := if 65 ≤ c ∧ c ≤ 90 then c + 32 else c
theorem lower_some : ∀ c ∈ 34 :: List.range' 65 26, Txt.lower ⟨#[c]⟩ = ⟨#[lowC c]⟩ ∧ Builtin.Str.tooLong (Txt.lower ⟨#[c]⟩).length = false := by decide +kernel
/-- what map_table_b3 tells of a sign -/
noncomputable def fold3 (c : Nat) : Str := (b3get c).getD ⟨#[lowC c]⟩
set_option maxHeartbeats 2000000 in
theorem s_map_table_b3 {w : World} {A : Around} {mg mb : Str → Option Value} {s : Shared} {c : Nat} {t : Tok} {Q E : Value → Shared → Prop}
    (P : Pre w A 2 100 mg mb s.heap) (hc : (b3get c).isSome = true ∨ c ∈ 34 :: List.range' 65 26)
    (h : ∀ h' tk' u, Keeps s.heap h' → Q (.str (fold3 c) u) { s with heap := h', toks := tk' }) :
    wpAny (model pw w) A (call (.ref 145) [.str ⟨#[c]⟩ t]) Q E s := by
  refine enter (binds := [("code", .str ⟨#[c]⟩ t)]) P rfl rfl rfl rfl ?_
  intro h₁ F P'
  have X := P'.K
  have T := P'.T
  have M := mapOf_b3 (w := w) (X.keeps F.keep)
  iterate 4 walk1
  refine getMethod_builtin M.typeIs PySem.F.plainAttrs_dict PySem.F.slot_dict_get PySem.F.type_dict_get M.noDict ?_
  dsimp only
  iterate 10 walk1
  refine call_meetsIn PySem.F.slot_dict_get M.typeIs PySem.F.entry_dict_get (PySem.F.args_dict_get_2 _ _) (meets_dict_get (intKind pw w) 100 (intKind_is pw w _ _) rfl) ⟨_, M, ?_⟩
  have hv := find_b3 (c : Int)
  show wpAny _ _ (storeName _ _ ((Option.map (fun e : DictEntry => e.val) (b3L.find? fun e : DictEntry => Value.isInt (c : Int) e.key)).getD .none)) _ _ _
  cases hb : b3get c with
  | some y =>
    rw [show (b3pairs.find? fun x => x.1 == (c : Int)).map (·.2) = b3get c from rfl, hb] at hv
    obtain ⟨u, hv⟩ := hv
    rw [hv]
    dsimp only [Option.getD]
    iterate 13 walk1
    rename Fr _ _ _ _ => F'
    have e : fold3 c = y := by unfold fold3; rw [hb]; rfl
    rw [← e]
    exact h _ _ _ F'.keep
  | none =>
    rw [show (b3pairs.find? fun x => x.1 == (c : Int)).map (·.2) = b3get c from rfl, hb] at hv
    have hv : Option.map (fun e : DictEntry => e.val) (b3L.find? fun e : DictEntry => Value.isInt (c : Int) e.key) = none := hv
    rw [hv]
    dsimp only [Option.getD]
    iterate 17 walk1
    rename Fr _ _ _ _ => F'
    have hm : c ∈ 34 :: List.range' 65 26 := hc.resolve_left (by rw [hb]; decide)
    obtain ⟨e1, e2⟩ := lower_some c hm
    have e : fold3 c = ⟨#[lowC c]⟩ := by unfold fold3; rw [hb]; rfl
    refine SC.lower e2 ?_
    rw [e1, ← e]
    exact h _ _ _ F'.keep
/-- one reading of what stands behind the mark: doubled marks become one, a single one ends it -/
noncomputable def readL : List Nat → List Nat
  | [] => []
  | c :: r => if c = 34 then (match r with
      | [] => []
      | d :: r' => if d = 34 then 34 :: readL r' else []) else c :: readL r
noncomputable def fiveQ : List Nat := [50, 53, 55, 32, 34]
theorem readL_nil : readL [] = [] := by unfold readL; rfl
theorem readL_other {c : Nat} (h : c ≠ 34) (r : List Nat) : readL (c :: r) = c :: readL r := by
  conv => lhs; unfold readL
  rw [if_neg h]
theorem readL_one : readL [34] = [] := by unfold readL; rfl
theorem readL_two (r : List Nat) : readL (34 :: 34 :: r) = 34 :: readL r := by
  conv => lhs; unfold readL
  rfl
theorem readL_stop {d : Nat} (h : d ≠ 34) (r : List Nat) : readL (34 :: d :: r) = [] := by
  conv => lhs; unfold readL
  rw [if_pos rfl]
  show (if d = 34 then _ else []) = []
  rw [if_neg h]
theorem item_at {l : List Nat} {k : Nat} {d : Nat} (h : l[k]? = some d) : Txt.item ⟨l.toArray⟩ (k : Int) = ⟨#[d]⟩ := by
  have hk : k < l.length := (List.getElem?_eq_some_iff.mp h).1
  unfold Txt.item Txt.charAt
  have e : seqIndex? (k : Int) (Str.length ⟨l.toArray⟩) = some k := by
    show seqIndex? (k : Int) l.toArray.size = some k
    unfold seqIndex?
    rw [List.size_toArray]
    have h1 : ¬ ((k : Int) < 0) := by omega
    have h2 : 0 ≤ (k : Int) ∧ (k : Int) < l.length := by omega
    simp [h1, h2, hk]
  rw [e]
  show (⟨#[((l.toArray[k]?)).getD 0]⟩ : Str) = _
  rw [List.getElem?_toArray, h]; rfl
theorem slice_pre {l : List Nat} {i j : Nat} (h : i ≤ j ∧ j ≤ l.length) : Txt.slice ⟨l.toArray⟩ (some (i : Int)) (some (j : Int)) = ⟨((l.drop i).take (j - i)).toArray⟩ := by
  have := slice_closes (x := ⟨l.toArray⟩) (i := (i : Int)) (j := (j : Int)) ⟨by omega, by omega, by show (j : Int) ≤ l.toArray.toList.length; rw [List.toList_toArray]; omega⟩
  rw [beq_iff_eq] at this
  rw [this]
  show (⟨((l.toArray.toList.drop _).take _).toArray⟩ : Str) = _
  rw [List.toList_toArray, Int.toNat_natCast, show ((j : Int) - (i : Int)).toNat = j - i by omega]
theorem slice_to {l : List Nat} {j : Nat} (h : j ≤ l.length) : Txt.slice ⟨l.toArray⟩ none (some (j : Int)) = ⟨(l.take j).toArray⟩ := by
  have := slice_closes_to (x := ⟨l.toArray⟩) (j := (j : Int)) ⟨by omega, by show (j : Int) ≤ l.toArray.toList.length; rw [List.toList_toArray]; omega⟩
  rw [beq_iff_eq] at this
  rw [this]
  show (⟨((l.toArray.toList.drop _).take _).toArray⟩ : Str) = _
  rw [List.toList_toArray, show ((j : Int) - 0).toNat = j by omega]; rfl
theorem strB {l : List Nat} {c : Nat} : (⟨l.toArray⟩ : Str) ++ (⟨#[c]⟩ : Str) = ⟨(l ++ [c]).toArray⟩ := by
  show (⟨l.toArray ++ #[c]⟩ : Str) = _
  rw [show #[c] = [c].toArray from rfl, List.append_toArray]
theorem eq34 (d : Nat) : ((⟨#[d]⟩ : Str) == (Str.ofString "\"")) = decide (d = 34) := by
  rw [show Str.ofString "\"" = ⟨#[34]⟩ from by decide]
  rw [Bool.eq_iff_iff, beq_iff_eq, decide_eq_true_eq]
  constructor
  · intro h; injection h with h; have := congrArg Array.toList h; simpa using this
  · rintro rfl; rfl
set_option maxHeartbeats 4000000 in
theorem s_parse257 {w : World} {A : Around} {mg mb : Str → Option Value} {s : Shared} {x : List Nat} {y : Str} {t : Tok} {Q E : Value → Shared → Prop}
    (P : Pre w A 2 100 mg mb s.heap) (hx : x.length ≤ 1000000) (hy : y = ⟨(fiveQ ++ x).toArray⟩)
    (h : ∀ h' tk' u, Keeps s.heap h' → Q (.str ⟨(readL x).toArray⟩ u) { s with heap := h', toks := tk' }) :
    wpAny (model pw w) A (call (.ref 81) [.str y t]) Q E s := by
  refine enter (binds := [("resp", .str y t)]) P rfl rfl rfl rfl ?_
  intro h₁ F P'
  have X := P'.K
  have T := P'.T
  have N : News s.heap s.heap.objs.size h₁ [] := News.nil
  have hl : y.length = x.length + 5 := by rw [hy]; show (fiveQ ++ x).toArray.size = _; rw [List.size_toArray, List.length_append]; show 5 + _ = _; omega
  have hz : y.length ≤ sizeLine := by rw [PySem.sizeLine_eq]; omega
  have hl' : 5 ≤ (fiveQ ++ x).length := by rw [List.length_append]; show 5 ≤ 5 + _; omega
  have e1 : Txt.slice y none (some 3) = Str.ofString "257" := by
    rw [hy]; exact (slice_to (l := fiveQ ++ x) (j := 3) (by omega)).trans (by rw [show Str.ofString "257" = ⟨#[50, 53, 55]⟩ from by decide]; rfl)
  have e2 : Txt.slice y (some 3) (some 5) = Str.ofString " \"" := by
    rw [hy]; exact (slice_pre (l := fiveQ ++ x) (i := 3) (j := 5) (by omega)).trans (by rw [show Str.ofString " \"" = ⟨#[32, 34]⟩ from by decide]; rfl)
  have hit : ∀ (k d : Nat), x[k]? = some d → Txt.item y (5 + (k : Int)) = ⟨#[d]⟩ := by
    intro k d hd
    have := item_at (l := fiveQ ++ x) (k := 5 + k) (d := d) (by rw [List.getElem?_append_right (by show 5 ≤ _; omega)]; show x[5 + k - 5]? = _; rw [show 5 + k - 5 = k by omega]; exact hd)
    rw [hy]
    rw [show (5 : Int) + (k : Int) = ((5 + k : Nat) : Int) by omega]
    exact this
  iterate 11 walk1
  rw [e1]
  iterate 18 walk1
  rw [e2]
  repeat ((fail_if_success (with_reducible show wpAny _ _ (exec (Stmt.While _ _ _ _) _) _ _ _)); walk1)
  rename Fr _ _ _ _ => F1
  rename News _ _ _ _ => N1
  refine While_inv2 (fun k m news => ∃ (i : Nat) (acc : List Nat), m "resp" = some (.str y t) ∧ HasInt m "i" ((5 : Int) + i) ∧ HasInt m "n" ((y.length : Nat) : Int) ∧ HasStr m "dirname" ⟨acc.toArray⟩ ∧ i ≤ x.length ∧ k = x.length - i ∧ acc ++ readL (x.drop i) = readL x ∧ acc.length ≤ i ∧ news = [])
    F1 N1 ⟨0, [], rfl, ⟨_, rfl⟩, ⟨_, rfl⟩, ⟨_, rfl⟩, Nat.zero_le _, rfl, rfl, Nat.le_refl _, rfl⟩ ?_
  rintro n m₁ news₁ h₂ tk₂ F2 N2 ⟨i, acc, m1, ⟨t1, m2⟩, ⟨t3, m3⟩, ⟨t2, m4⟩, hi, hn, hacc, hal, rfl⟩
  walk_at "go"
  by_cases hlt : i < x.length
  · rw [if_pos (by rw [decide_eq_true_eq]; omega)]
    have b1 : (0 : Int) ≤ 5 + i := by omega
    have b2 : (5 : Int) + i < y.length := by omega
    obtain ⟨d, hd⟩ : ∃ d, x[i]? = some d := ⟨x[i], by simp [hlt]⟩
    have hdrop : x.drop i = d :: x.drop (i + 1) := by
      rw [List.drop_eq_getElem_cons hlt]
      congr 1
      exact (List.getElem?_eq_some_iff.mp hd).2
    have hsz : (⟨acc.toArray⟩ : Str).length ≤ 1000000 := by show acc.toArray.size ≤ _; rw [List.size_toArray]; omega
    have hadd : (⟨acc.toArray⟩ : Str).length + (⟨#[d]⟩ : Str).length ≤ sizeLine := by rw [PySem.sizeLine_eq, show (⟨#[d]⟩ : Str).length = 1 from rfl]; omega
    repeat ((fail_if_success (with_reducible show wpAny _ _ (exec (Stmt.If _ _ _ _) _) _ _ _)); walk1)
    rename Fr _ _ _ _ => Fc
    rw [hit i d hd] at Fc
    walk_at "go"
    rw [eq34]
    by_cases h34 : d = 34
    · subst h34
      rw [if_pos (by decide)]
      walk_at "go"
      by_cases hlt2 : i + 1 < x.length
      · rw [if_neg (by rw [decide_eq_true_eq]; omega)]
        have b3 : (0 : Int) ≤ 5 + i + 1 := by omega
        have b4 : (5 : Int) + i + 1 < y.length := by omega
        obtain ⟨d2, hd2⟩ : ∃ d, x[i + 1]? = some d := ⟨x[i + 1], by simp [hlt2]⟩
        have hdrop2 : x.drop (i + 1) = d2 :: x.drop (i + 2) := by
          rw [List.drop_eq_getElem_cons hlt2]
          congr 1
          exact (List.getElem?_eq_some_iff.mp hd2).2
        walk_at "go"
        rw [show (5 : Int) + i + 1 = 5 + ((i + 1 : Nat) : Int) by omega, hit (i + 1) d2 hd2, bne, eq34]
        by_cases h2 : d2 = 34
        · subst h2
          rw [if_neg (by decide)]
          walk_at "go"
          rw [if_neg (by decide)]
          walk_at "go"
          rename Fr _ _ _ _ => F3
          rename News _ _ _ _ => N3
          refine ⟨_, _, _, _, x.length - (i + 2), rfl, F3, N3, by omega, i + 2, acc ++ [34], m1, hasInt rfl (by omega), ⟨t3, m3⟩, hasStr rfl strB, by omega, rfl, ?_, ?_, rfl⟩
          · rw [hdrop, hdrop2, readL_two] at hacc
            rw [List.append_assoc]; exact hacc
          · rw [List.length_append]; simp; omega
        · rw [if_pos (by simp [h2]), if_pos rfl]
          have e : acc = readL x := by rw [hdrop, hdrop2, readL_stop h2, List.append_nil] at hacc; exact hacc
          walk_at "go"
          show wpAny _ _ (execs [Stmt.Return _ _] _) _ _ _
          walk_at "go"
          rename Fr _ _ _ _ => F3
          show Q (.str ⟨acc.toArray⟩ _) _
          rw [e]
          exact h _ _ _ F3.keep
      · rw [if_pos (by rw [decide_eq_true_eq]; omega), if_pos rfl]
        have e : acc = readL x := by
          rw [hdrop, List.drop_of_length_le (by omega), readL_one, List.append_nil] at hacc; exact hacc
        walk_at "go"
        show wpAny _ _ (execs [Stmt.Return _ _] _) _ _ _
        walk_at "go"
        rename Fr _ _ _ _ => F3
        show Q (.str ⟨acc.toArray⟩ _) _
        rw [e]
        exact h _ _ _ F3.keep
    · rw [if_neg (by rw [decide_eq_true_eq]; exact h34)]
      walk_at "go"
      rename Fr _ _ _ _ => F3
      rename News _ _ _ _ => N3
      refine ⟨_, _, _, _, x.length - (i + 1), rfl, F3, N3, by omega, i + 1, acc ++ [d], m1, hasInt rfl (by omega), ⟨t3, m3⟩, hasStr rfl strB, by omega, rfl, ?_, ?_, rfl⟩
      · rw [hdrop, readL_other h34] at hacc
        rw [List.append_assoc]; exact hacc
      · rw [List.length_append]; simp; omega
  · rw [if_neg (by rw [decide_eq_true_eq]; omega)]
    obtain rfl : i = x.length := by omega
    rw [List.drop_length, readL_nil, List.append_nil] at hacc
    walk_at "go"
    rename Fr _ _ _ _ => F3
    show Q (.str ⟨acc.toArray⟩ _) _
    rw [hacc]
    exact h _ _ _ F3.keep
noncomputable def marks (n : Int) : List Nat := List.replicate n.toNat 34
noncomputable def joinT (xs : List (List Nat)) (ns : List Int) : List (List Nat) := List.zipWith (fun x n => x ++ marks n) xs ns
noncomputable def textOf (ns : List Int) (xs : List (List Nat)) : List Nat := match ns with
  | [] => []
  | n :: ns => marks n ++ (joinT xs ns).flatten
theorem reps_flat (n : Nat) : ∀ a : Array Nat, (List.replicate n #[34]).foldl (· ++ ·) a = a ++ (List.replicate n 34).toArray := by
  induction n with
  | zero => intro a; simp
  | succ n ih => intro a; rw [List.replicate_succ, List.foldl_cons, ih, List.replicate_succ]; apply Array.ext'; simp
theorem quote_eq : Str.ofString "\"" = ⟨#[34]⟩ := by decide
theorem mul_marks {n : Int} (h0 : 0 ≤ n) : Txt.mul (Str.ofString "\"") n = ⟨(marks n).toArray⟩ := by
  rw [quote_eq]
  unfold Txt.mul marks
  by_cases h1 : n < 1
  · rw [if_pos h1]
    obtain rfl : n = 0 := by omega
    rfl
  · rw [if_neg h1]
    by_cases h2 : n = 1
    · subst h2; rfl
    · rw [if_neg]
      · rw [reps_flat]; simp
      · have : (⟨#[34]⟩ : Str).length = 1 := rfl
        rw [this]; simp [h2]
theorem mul_marks_ok {n : Int} (h0 : 0 ≤ n) (h1 : n ≤ 1000) : MulOk (Str.ofString "\"") n := by
  rw [quote_eq]
  have hl : (⟨#[34]⟩ : Str).length = 1 := rfl
  refine ⟨?_, ?_, ?_⟩
  · rw [Bool.or_eq_false_iff, decide_eq_false_iff_not, decide_eq_false_iff_not]; omega
  · intro h2 _
    rw [hl]
    have : (1 : Int) ≤ (2 ^ 63 - 1) / n := by
      rw [Int.le_ediv_iff_mul_le (by omega)]; omega
    omega
  · intro h2 _
    rw [hl]
    unfold Builtin.Str.tooLong
    simp [PySem.sizeLine_eq]; omega
theorem strApp {l r : List Nat} : (⟨l.toArray⟩ : Str) ++ (⟨r.toArray⟩ : Str) = ⟨(l ++ r).toArray⟩ := by
  show (⟨l.toArray ++ r.toArray⟩ : Str) = _
  rw [List.append_toArray]
theorem strLen {l : List Nat} : (⟨l.toArray⟩ : Str).length = l.length := by show l.toArray.size = _; exact List.size_toArray
noncomputable def TextsAre (vs : List Value) (xs : List (List Nat)) : Prop := StrsAre vs (xs.map fun x => ⟨x.toArray⟩)
theorem StrsAre.at' : ∀ {vs : List Value} {ss : List Str} (h : StrsAre vs ss) (i : Nat) (s : Str), ss[i]? = some s → ∃ t, vs[i]? = some (.str s t)
  | _, _, .cons y t h, 0, s, e => by simp at e; subst e; exact ⟨t, rfl⟩
  | _, _, .cons y t h, i + 1, s, e => by simpa using StrsAre.at' h i s (by simpa using e)
theorem TextsAre.at {vs : List Value} {xs : List (List Nat)} (h : TextsAre vs xs) {i : Nat} {x : List Nat} (e : xs[i]? = some x) : ∃ t, vs[i]? = some (.str ⟨x.toArray⟩ t) :=
  StrsAre.at' h i _ (by rw [List.getElem?_map, e]; rfl)
theorem StrsAre.len : ∀ {vs : List Value} {ss : List Str} (h : StrsAre vs ss), vs.length = ss.length
  | _, _, .nil => rfl
  | _, _, .cons _ _ h => by simp [StrsAre.len h]
theorem TextsAre.len {vs : List Value} {xs : List (List Nat)} (h : TextsAre vs xs) : vs.length = xs.length := by
  have := StrsAre.len h; simpa using this
set_option maxHeartbeats 4000000 in
theorem s_law_text {w : World} {A : Around} {mg mb : Str → Option Value} {s : Shared} {a b : Addr} {vs ws : List Value} {n : Int} {ns : List Int} {xs : List (List Nat)} {Q E : Value → Shared → Prop}
    (P : Pre w A 2 100 mg mb s.heap) (hl : s.heap.IsList a vs.toArray) (hi : IntsAre vs (n :: ns)) (hl2 : s.heap.IsList b ws.toArray) (hs : TextsAre ws xs)
    (hn : ∀ n' ∈ n :: ns, 0 ≤ n' ∧ n' ≤ 1000) (hx : ∀ x ∈ xs, x.length ≤ 1000) (hlen : ns.length ≤ xs.length) (hsz : ns.length ≤ 100)
    (h : ∀ h' tk' u, Keeps s.heap h' → Q (.str ⟨(textOf (n :: ns) xs).toArray⟩ u) { s with heap := h', toks := tk' }) :
    wpAny (model pw w) A (call (.ref 159) [.ref a, .ref b]) Q E s := by
  refine enter (binds := [("runs", .ref a), ("signs", .ref b)]) P rfl rfl rfl rfl ?_
  intro h₁ F P'
  have X := P'.K
  have T := P'.T
  have hh := P'.hh
  have N : News s.heap s.heap.objs.size h₁ [] := News.nil
  have b0 := hn n (.head _)
  have hok := mul_marks_ok b0.1 b0.2
  have em : Txt.mul (Str.ofString "\"") ((n :: ns).getD (Int.toNat 0) 0) = ⟨(marks n).toArray⟩ := mul_marks b0.1
  walk_at "go"
  rename Fr _ _ _ _ => F1
  rw [em] at F1
  rename IsRange _ _ _ _ _ _ _ _ => hr
  rename News _ _ _ _ => N1
  have hbuild : ∀ i, i < ns.length → ∀ x n', xs[i]? = some x → ns[i]? = some n' → ((joinT xs ns).take (i + 1)).flatten = ((joinT xs ns).take i).flatten ++ (x ++ marks n') := by
    intro i hi' x n' e1 e2
    rw [List.take_add_one, List.flatten_append]
    congr 1
    have : (joinT xs ns)[i]? = some (x ++ marks n') := by rw [joinT, List.getElem?_zipWith, e1, e2]
    rw [this]; simp
  have hshort : ∀ i, i ≤ ns.length → (((joinT xs ns).take i).flatten).length ≤ i * 2000 := by
    intro i
    induction i with
    | zero => intro _; simp
    | succ i ih =>
      intro hi'
      have e1 : xs[i]? = some (xs[i]'(by omega)) := List.getElem?_eq_getElem (by omega)
      have e2 : ns[i]? = some (ns[i]'(by omega)) := List.getElem?_eq_getElem (by omega)
      rw [hbuild i (by omega) _ _ e1 e2, List.length_append, List.length_append]
      have h1 := hx _ (List.mem_of_getElem? e1)
      have h2 := (hn _ (List.mem_cons_of_mem _ (List.mem_of_getElem? e2))).2
      have h3 : (marks (ns[i]'(by omega))).length ≤ 1000 := by unfold marks; rw [List.length_replicate]; omega
      have := ih (by omega)
      omega
  have hm0 : (marks n).length ≤ 1000 := by unfold marks; rw [List.length_replicate]; omega
  refine range_loop (n := ns.length) (fun i m nx => m "runs" = some (.ref a) ∧ m "signs" = some (.ref b) ∧ HasStr m "text" ⟨(marks n ++ ((joinT xs ns).take i).flatten).toArray⟩ ∧ nx = []) hh hr ?_ ?_ F1 N1 ⟨rfl, rfl, hasStr rfl (by simp), rfl⟩ ?_ ?_
  · exact small_one (by omega) (by omega) (by omega) (by omega)
  · rw [rangeSize_nat]; omega
  · rintro i t m₁ news₁ h tk own hin ho ⟨m1, m2, ⟨t1, m3⟩, rfl⟩ F N
    replace F : Fr s.heap s.heap.objs.size h _ := F
    replace N : News s.heap s.heap.objs.size h _ := N
    have e1 : xs[i]? = some (xs[i]'(by omega)) := List.getElem?_eq_getElem (by omega)
    have e2 : ns[i]? = some (ns[i]'(by omega)) := List.getElem?_eq_getElem (by omega)
    generalize xs[i]'(by omega) = x at e1
    generalize ns[i]'(by omega) = n' at e2
    have hi2 := hi
    have es : (xs.map fun x => (⟨x.toArray⟩ : Str)).getD (1 + (i : Int) - 1).toNat Str.empty = ⟨x.toArray⟩ := by
      rw [show (1 + (i : Int) - 1).toNat = i by omega, List.getD_eq_getElem?_getD, List.getElem?_map, e1]; rfl
    have en : (n :: ns).getD (1 + (i : Int)).toNat 0 = n' := by
      rw [show (1 + (i : Int)).toNat = i + 1 by omega, List.getD_eq_getElem?_getD, List.getElem?_cons_succ, e2]; rfl
    have c1 := hx _ (List.mem_of_getElem? e1)
    have c2 := hn _ (List.mem_cons_of_mem _ (List.mem_of_getElem? e2))
    have c3 := hshort i (by omega)
    have c4 : (marks n').length ≤ 1000 := by unfold marks; rw [List.length_replicate]; omega
    have c5 : i ≤ 100 := by omega
    have hok' := mul_marks_ok c2.1 c2.2
    have hadd1 : (⟨(marks n ++ ((joinT xs ns).take i).flatten).toArray⟩ : Str).length + (⟨x.toArray⟩ : Str).length ≤ sizeLine := by rw [strLen, strLen, List.length_append, PySem.sizeLine_eq]; omega
    have hadd2 : (⟨(marks n ++ ((joinT xs ns).take i).flatten ++ x).toArray⟩ : Str).length + (⟨(marks n').toArray⟩ : Str).length ≤ sizeLine := by rw [strLen, strLen, List.length_append, List.length_append, PySem.sizeLine_eq]; omega
    walk_at "toadd"
    rw [es]
    walk1
    rw [strApp]
    repeat ((fail_if_success (with_reducible show wpAny _ _ (binaryOp Operator.Mult _ _) _ _ _)); walk1)
    rw [en]
    walk1
    rw [mul_marks c2.1]
    walk1
    rw [strApp]
    walk_at "go"
    rename Fr _ _ _ _ => F3
    rename News _ _ _ _ => N3
    refine InvEnd.close (nx := []) F3 N3 ho ⟨m1, m2, hasStr rfl ?_, rfl⟩
    rw [hbuild i hin _ _ e1 e2]; simp
  · rintro m₁ news₁ h₂ tk₂ ⟨m1, m2, ⟨t1, m3⟩, rfl⟩ F2 N2
    replace F2 : Fr s.heap s.heap.objs.size h₂ _ := F2
    replace N2 : News s.heap s.heap.objs.size h₂ _ := N2
    walk_at "go"
    rename Fr _ _ _ _ => F3
    have e : textOf (n :: ns) xs = marks n ++ ((joinT xs ns).take ns.length).flatten := by
      unfold textOf
      rw [List.take_of_length_le (by unfold joinT; rw [List.length_zipWith]; omega)]
    rw [e] at h
    show Q (.str ⟨(marks n ++ ((joinT xs ns).take ns.length).flatten).toArray⟩ _) _
    exact h _ _ _ F3.keep
noncomputable def readN : Nat → List Nat → List Nat
  | 0, x => x
  | k + 1, x => readL (readN k x)
theorem readL_len (x : List Nat) : (readL x).length ≤ x.length := by
  suffices h : ∀ k (x : List Nat), x.length ≤ k → (readL x).length ≤ x.length from h _ x (Nat.le_refl _)
  intro k
  induction k with
  | zero => intro x hx; obtain rfl : x = [] := List.length_eq_zero_iff.mp (by omega); rw [readL_nil]; exact Nat.le_refl _
  | succ k ih =>
    intro x hx
    match x with
    | [] => rw [readL_nil]; exact Nat.le_refl _
    | c :: r =>
      by_cases hc : c = 34
      · subst hc
        match r with
        | [] => rw [readL_one]; simp
        | d :: r' =>
          by_cases hd : d = 34
          · subst hd
            rw [readL_two]
            have := ih r' (by simp at hx; omega)
            simp only [List.length_cons]; omega
          · rw [readL_stop hd]; simp
      · rw [readL_other hc]
        have := ih r (by simp at hx; omega)
        simp only [List.length_cons]; omega
theorem readN_len (k : Nat) (x : List Nat) : (readN k x).length ≤ x.length := by
  induction k with
  | zero => exact Nat.le_refl _
  | succ k ih => exact Nat.le_trans (readL_len _) ih
set_option maxHeartbeats 4000000 in
theorem s_law_read {w : World} {A : Around} {mg mb : Str → Option Value} {s : Shared} {x : List Nat} {t t' : Tok} {k : Nat} {Q E : Value → Shared → Prop}
    (P : Pre w A 4 120 mg mb s.heap) (hx : x.length ≤ 100000) (hk : k ≤ 100)
    (h : ∀ h' tk' u, Keeps s.heap h' → Q (.str ⟨(readN k x).toArray⟩ u) { s with heap := h', toks := tk' }) :
    wpAny (model pw w) A (call (.ref 166) [.str ⟨x.toArray⟩ t, .int k t']) Q E s := by
  refine enter (binds := [("text", .str ⟨x.toArray⟩ t), ("readings", .int k t')]) P rfl rfl rfl rfl ?_
  intro h₁ F P'
  have X := P'.K
  have T := P'.T
  have hh := P'.hh
  have N : News s.heap s.heap.objs.size h₁ [] := News.nil
  have hk2 : (k : Int) < 2 ^ 63 := by omega
  walk_at "go"
  rename Fr _ _ _ _ => F1
  rename IsRange _ _ _ _ _ _ _ _ => hr
  rename News _ _ _ _ => N1
  refine range_loop (n := k) (fun i m nx => HasStr m "text" ⟨(readN i x).toArray⟩ ∧ nx = []) hh hr ?_ ?_ F1 N1 ⟨⟨_, rfl⟩, rfl⟩ ?_ ?_
  · exact small_one (by omega) (by omega) (by omega) (by omega)
  · rw [rangeSize_nat]; omega
  · rintro i t m₁ news₁ h tk own hin ho ⟨⟨t1, m1⟩, rfl⟩ F N
    replace F : Fr s.heap s.heap.objs.size h _ := F
    replace N : News s.heap s.heap.objs.size h _ := N
    have c1 := readN_len i x
    have eq5 : Str.ofString "257 \"" = ⟨fiveQ.toArray⟩ := by decide
    have hadd : (Str.ofString "257 \"").length + (⟨(readN i x).toArray⟩ : Str).length ≤ sizeLine := by rw [eq5, strLen, strLen, PySem.sizeLine_eq]; show 5 + _ ≤ _; omega
    walk_at "toadd"
    walk1
    walk_at "tocall"
    rename Fr _ _ _ _ => F2
    rename News _ _ _ _ => N2
    refine s_parse257 (x := readN i x) ((P'.fr F2).less) (by omega) (by rw [eq5, strApp]) ?_
    intro h' tk' u kp
    have F3 := frK F2 kp
    have N3 := newsK N2 kp
    clear F2 N2
    walk_at "go"
    rename Fr _ _ _ _ => F4
    rename News _ _ _ _ => N4
    exact InvEnd.close (nx := []) F4 N4 ho ⟨hasStr rfl rfl, rfl⟩
  · rintro m₁ news₁ h₂ tk₂ ⟨⟨t1, m1⟩, rfl⟩ F2 N2
    replace F2 : Fr s.heap s.heap.objs.size h₂ _ := F2
    replace N2 : News s.heap s.heap.objs.size h₂ _ := N2
    walk_at "go"
    rename Fr _ _ _ _ => F3
    exact h _ _ _ F3.keep
noncomputable def prepL (x : List Nat) : List Nat := x.flatMap fun c => if isB1 c = true then [] else (fold3 c).cps.toList
noncomputable def Good (c : Nat) : Prop := isB1 c = true ∨ (((b3get c).isSome = true ∨ c ∈ 34 :: List.range' 65 26) ∧ (fold3 c).cps.size ≤ 10)
theorem prepL_snoc (x : List Nat) (c : Nat) : prepL (x ++ [c]) = prepL x ++ (if isB1 c = true then [] else (fold3 c).cps.toList) := by simp [prepL]
theorem prepL_len (x : List Nat) (hg : ∀ c ∈ x, Good c) : (prepL x).length ≤ 10 * x.length := by
  induction x with
  | nil => simp [prepL]
  | cons c r ih =>
    have h1 : prepL (c :: r) = (if isB1 c = true then [] else (fold3 c).cps.toList) ++ prepL r := rfl
    rw [h1, List.length_append, List.length_cons]
    have h2 := ih fun d hd => hg d (.tail _ hd)
    have h3 : (if isB1 c = true then [] else (fold3 c).cps.toList).length ≤ 10 := by
      split
      · simp
      · rename_i h
        rcases hg c (.head _) with h' | h'
        · exact absurd h' h
        · simpa using h'.2
    omega
set_option maxHeartbeats 4000000 in
theorem s_law_prepared {w : World} {A : Around} {mg mb : Str → Option Value} {s : Shared} {x : List Nat} {t : Tok} {Q E : Value → Shared → Prop}
    (P : Pre w A 4 120 mg mb s.heap) (hx : x.length ≤ 10000) (hg : ∀ c ∈ x, Good c)
    (h : ∀ h' tk' u, Keeps s.heap h' → Q (.str ⟨(prepL x).toArray⟩ u) { s with heap := h', toks := tk' }) :
    wpAny (model pw w) A (call (.ref 173) [.str ⟨x.toArray⟩ t]) Q E s := by
  refine enter (binds := [("text", .str ⟨x.toArray⟩ t)]) P rfl rfl rfl rfl ?_
  intro h₁ F P'
  have X := P'.K
  have T := P'.T
  have hh := P'.hh
  have N : News s.heap s.heap.objs.size h₁ [] := News.nil
  repeat ((fail_if_success (with_reducible show wpAny _ _ (exec (Stmt.For _ _ _ _ _) _) _ _ _)); walk1)
  rename Fr _ _ _ _ => F1
  rename News _ _ _ _ => N1
  refine For_invVF F1 rfl rfl ?_
  walk1
  refine str_loop (fun i m nx => HasStr m "told" ⟨(prepL (x.take i)).toArray⟩ ∧ nx = []) hh F1 N1 ⟨⟨_, rfl⟩, rfl⟩ ?_ ?_
  · rintro i c u m₁ news₁ h tk own hc ho ⟨⟨t1, m1⟩, rfl⟩ F N
    replace F : Fr s.heap s.heap.objs.size h _ := F
    replace N : News s.heap s.heap.objs.size h _ := N
    have hc' : x[i]? = some c := by simpa using hc
    have hgc := hg c (List.mem_of_getElem? hc')
    have hb := prepL_snoc (x.take i) c
    rw [← show x.take (i + 1) = x.take i ++ [c] by rw [List.take_add_one, hc']; rfl] at hb
    have hlen := prepL_len (x.take i) fun d hd => hg d (List.mem_of_mem_take hd)
    rw [List.length_take] at hlen
    walk_at "tocall"
    rename Fr _ _ _ _ => F2
    rename News _ _ _ _ => N2
    refine s_in_table_b1 ((P'.fr F2).less) ?_
    intro h' tk' kp
    have F3 := frK F2 kp
    have N3 := newsK N2 kp
    clear F2 N2 kp
    walk_at "toite"
    by_cases hB : isB1 c = true
    · rw [if_neg (by rw [hB]; decide)]
      rw [if_pos hB, List.append_nil] at hb
      walk_at "go"
      rename Fr _ _ _ _ => F4
      rename News _ _ _ _ => N4
      exact InvEnd.close (nx := []) F4 N4 ho ⟨hasStr (by walk_at "look") (by rw [hb]), rfl⟩
    · rw [if_pos (by simpa using hB)]
      rw [if_neg hB] at hb
      have hgc' := hgc.resolve_left hB
      walk_at "tocall"
      rename Fr _ _ _ _ => F2
      rename News _ _ _ _ => N2
      refine s_map_table_b3 ((P'.fr F2).less) hgc'.1 ?_
      intro h' tk' u' kp
      have F4 := frK F2 kp
      have N4 := newsK N2 kp
      clear F2 N2 kp
      have hadd : (⟨(prepL (x.take i)).toArray⟩ : Str).length + (fold3 c).length ≤ sizeLine := by
        rw [strLen, PySem.sizeLine_eq]
        have : (fold3 c).length ≤ 10 := hgc'.2
        omega
      walk_at "go"
      rename Fr _ _ _ _ => F5
      rename News _ _ _ _ => N5
      refine InvEnd.close (nx := []) F5 N5 ho ⟨hasStr rfl ?_, rfl⟩
      rw [hb]
      show (⟨(prepL (x.take i)).toArray ++ (fold3 c).cps⟩ : Str) = _
      congr 1
      apply Array.ext'; simp
  · rintro m₁ news₁ h₂ tk₂ ⟨⟨t1, m1⟩, rfl⟩ F2 N2
    replace F2 : Fr s.heap s.heap.objs.size h₂ _ := F2
    replace N2 : News s.heap s.heap.objs.size h₂ _ := N2
    have e : x.take (x.toArray).size = x := by rw [List.size_toArray, List.take_length]
    rw [show (⟨x.toArray⟩ : Str).cps = x.toArray from rfl, e] at m1
    walk_at "go"
    rename Fr _ _ _ _ => F3
    exact h _ _ _ F3.keep
noncomputable def halved (p : Int) : List Int → List Int
  | [] => []
  | r :: rs => r / p :: (if 0 < r % p then [] else halved p rs)
/-- the runs before place i leave nothing -/
theorem halved_step (p : Int) : ∀ (ns : List Int) (i : Nat), (∀ n ∈ ns.take i, n % p = 0) → i ≤ ns.length → halved p ns = (ns.take i).map (· / p) ++ halved p (ns.drop i)
  | _, 0, _, _ => rfl
  | [], i + 1, _, h => by simp at h
  | n :: ns, i + 1, hz, h => by
    have h1 := hz n (.head _)
    have h2 := halved_step p ns i (fun m hm => hz m (.tail _ hm)) (by simpa using h)
    show n / p :: (if 0 < n % p then [] else halved p ns) = _
    rw [if_neg (by omega), h2]; rfl
set_option maxHeartbeats 4000000 in
theorem s_law_halved {w : World} {A : Around} {mg mb : Str → Option Value} {s : Shared} {a : Addr} {vs : List Value} {ns : List Int} {p : Int} {t : Tok} {Q E : Value → Shared → Prop}
    (P : Pre w A 2 100 mg mb s.heap) (hl : s.heap.IsList a vs.toArray) (hi : IntsAre vs ns) (hp : 0 < p) (hp2 : p < 1000) (hn : ∀ n ∈ ns, 0 ≤ n ∧ n < 2 ^ 40) (hsz : ns.length ≤ 100)
    (h : ∀ h' tk' d vs' k, Keeps s.heap h' → s.heap.get? d = none → h'.get? d = some (listOf vs'.toArray k) → IntsAre vs' (halved p ns) → Q (.ref d) { s with heap := h', toks := tk' }) :
    wpAny (model pw w) A (call (.ref 180) [.ref a, .int p t]) Q E s := by
  refine enter (binds := [("runs", .ref a), ("power", .int p t)]) P rfl rfl rfl rfl ?_
  intro h₁ F P'
  have X := P'.K
  have T := P'.T
  have hh := P'.hh
  have N : News s.heap s.heap.objs.size h₁ [] := News.nil
  repeat ((fail_if_success (with_reducible show wpAny _ _ (exec (Stmt.For _ _ _ _ _) _) _ _ _)); walk1)
  rename Fr _ _ _ _ => F1
  rename News _ _ _ _ => N1
  refine For_invVF F1 rfl rfl ?_
  walk1
  rename_i l' h2 l1 h3
  have hal : a < s.heap.objs.size := by obtain ⟨o, e, _⟩ := hl; exact Heap.lt_size e
  refine list_loop (vs := vs) (fun i m nx => m "power" = some (.int p t) ∧ m "kept" = some (.ref l') ∧ (∀ n ∈ ns.take i, n % p = 0) ∧ ∃ vs' k, nx = [(l', listOf vs'.toArray k)] ∧ IntsAre vs' ((ns.take i).map (· / p))) hh (upList hl F1.keep) (Nat.ne_of_lt hal) ?_ F1 N1 ⟨rfl, rfl, (by simp), [], 0, rfl, .nil⟩ ?_ ?_
  · intro q hq e
    have h1 := (N1 q hq).2.2
    obtain ⟨o, e2, _⟩ := hl
    rw [e, e2] at h1; cases h1
  · rintro i v m₁ news₁ g tk own hv ho ⟨m1, m2, hz, vs', k, rfl, hi'⟩ F N
    replace F : Fr s.heap s.heap.objs.size g _ := F
    replace N : News s.heap s.heap.objs.size g ((l', listOf vs'.toArray k) :: own) := N
    obtain ⟨n, t', rfl, hn'⟩ := hi.at i v hv
    have hbn := hn n (List.mem_of_getElem? hn')
    have htk : ns.take (i + 1) = ns.take i ++ [n] := by rw [List.take_add_one, hn']; rfl
    have hlen : vs'.length = (ns.take i).length := by rw [hi'.length, List.length_map]
    have hp0 : p ≠ 0 := by omega
    repeat ((fail_if_success (with_reducible show wpAny _ _ (call (Value.builtin "list.append") _) _ _ _)); walk1)
    rename Fr _ _ _ _ => F2
    rename News _ _ _ _ => N2
    refine append_K F2 N2 (Upd.head (fun q hq => ho q hq _ (.head _))) ?_ (hsz := by rw [List.size_toArray, hlen, List.length_take, PySem.sizeLine_eq]; omega)
    intro h4 F4 N4
    rw [List.push_toArray] at N4
    clear F2 N2
    rw [Int.fdiv_eq_ediv_of_nonneg _ (by omega)] at N4
    have hx4 : ∃ tv, News s.heap s.heap.objs.size h4 ((l', listOf (vs' ++ [Value.int (n / p) tv]).toArray (k + 1)) :: own) := ⟨_, N4⟩
    clear N4
    obtain ⟨tv, N4⟩ := hx4
    have hiN : ∀ tk, IntsAre (vs' ++ [.int (n / p) tk]) ((ns.take (i + 1)).map (· / p)) := by
      intro tk
      rw [htk, List.map_append]
      exact hi'.append (.cons _ _ .nil)
    walk_at "toite"
    rw [Int.fmod_eq_emod_of_nonneg _ (by omega)]
    by_cases hm : 0 < n % p
    · rw [if_pos (by rw [decide_eq_true_eq]; exact hm)]
      walk_at "go"
      show wpAny _ _ (execs [Stmt.Return _ _] _) _ _ _
      walk_at "go"
      rename Fr _ _ _ _ => F5
      refine h _ _ l' _ _ F5.keep (N4 _ (.head _)).2.2 ((N4 _ (.head _)).1) ?_
      have e : halved p ns = (ns.take (i + 1)).map (· / p) := by
        rw [halved_step p ns i hz (by have := (List.getElem?_eq_some_iff.mp hn').1; omega)]
        have hd : ns.drop i = n :: ns.drop (i + 1) := by
          rw [List.drop_eq_getElem_cons (List.getElem?_eq_some_iff.mp hn').1]
          congr 1
          exact (List.getElem?_eq_some_iff.mp hn').2
        rw [hd, htk, List.map_append]
        show _ ++ (n / p :: (if 0 < n % p then [] else _)) = _
        rw [if_pos hm]; rfl
      rw [e]
      exact hiN _
    · rw [if_neg (by rw [decide_eq_true_eq]; exact hm)]
      have hm0 : n % p = 0 := by have := Int.emod_nonneg n hp0; omega
      walk_at "go"
      rename Fr _ _ _ _ => F5
      refine InvEnd.close (nx := [(l', listOf (vs' ++ [Value.int (n / p) tv]).toArray (k + 1))]) F5 N4 ho ⟨m1, m2, ?_, _, _, rfl, hiN _⟩
      intro n' hn2
      rw [htk] at hn2
      rcases List.mem_append.mp hn2 with h1 | h1
      · exact hz n' h1
      · rw [List.mem_singleton.mp h1]; exact hm0
  · rintro m₁ news₁ h₂ tk₂ ⟨m1, m2, hz, vs', k, rfl, hi'⟩ F2 N2
    replace F2 : Fr s.heap s.heap.objs.size h₂ _ := F2
    replace N2 : News s.heap s.heap.objs.size h₂ _ := N2
    rw [hi.length, List.take_length] at hz hi'
    have e : halved p ns = ns.map (· / p) := by
      have := halved_step p ns ns.length (by rw [List.take_length]; exact hz) (Nat.le_refl _)
      rw [List.take_length, List.drop_length] at this
      rw [this]; simp [halved]
    walk_at "go"
    rename Fr _ _ _ _ => F3
    exact h _ _ l' vs' k F3.keep (N2 _ (.head _)).2.2 (N2 _ (.head _)).1 (e ▸ hi')
noncomputable def codesL : List Nat := [173, 847, 6150, 6155, 6156, 6157, 8203, 8204, 8205, 8288, 65279]
noncomputable def severalL : List (List Nat) := [[102, 102], [102, 105], [102, 108], [102, 102, 105], [102, 102, 108], [115, 116], [115, 116], [115, 115]]
noncomputable def signOf (p : Nat) : Nat :=
  if p % 6 < 3 then (if p / 6 % 27 < 11 then codesL.getD (p / 6 % 27) 0 else 65013 + p / 6 % 27)
  else if p % 6 = 3 then 65 + p / 6 % 26
  else if p % 6 = 4 then 119808 + p / 6 % 26
  else if p / 6 % 8 < 7 then 64256 + p / 6 % 8 else 223
noncomputable def foldOf (p : Nat) : List Nat :=
  if p % 6 < 3 then []
  else if p % 6 = 3 then [97 + p / 6 % 26]
  else if p % 6 = 4 then [97 + p / 6 % 26]
  else severalL.getD (p / 6 % 8) []
section
variable {prog : Program} {w : World} {A : Around} {E : Value → Shared → Prop} {s : Shared} {h₀ : Heap} {L : Addr} {news : List (Addr × Obj)}
theorem item_codes {value slice : PySem.Expr} {l : Addr} {pl : Nat} {u t0 t1 t2 t3 t4 t5 t6 t7 t8 t9 t10 : Tok} {Q : Value → Shared → Prop} (N : News h₀ L s.heap news)
    (hm : (l, listOf #[.int 173 t0, .int 847 t1, .int 6150 t2, .int 6155 t3, .int 6156 t4, .int 6157 t5, .int 8203 t6, .int 8204 t7, .int 8205 t8, .int 8288 t9, .int 65279 t10] 0) ∈ news) (hp : pl < 11) (h : ∀ t', Q (.int (codesL.getD pl 0 : Nat) t') s)
    (hs : subscripted slice false (.ref l) (.int pl u) = operate [.ref l, .int pl u] (getItem (.ref l) (.int pl u)) := by with_unfolding_all rfl) :
    wpAny (model prog w) A (subscriptTail value slice (.ref l) (.int pl u)) Q E s := by
  have hx : ∃ t', ([.int 173 t0, .int 847 t1, .int 6150 t2, .int 6155 t3, .int 6156 t4, .int 6157 t5, .int 8203 t6, .int 8204 t7, .int 8205 t8, .int 8288 t9, .int 65279 t10] : List Value)[(pl : Int).toNat]? = some (.int (codesL.getD pl 0 : Nat) t') := by
    rw [Int.toNat_natCast]
    match pl, hp with
    | 0, _ => exact ⟨_, rfl⟩
    | 1, _ => exact ⟨_, rfl⟩
    | 2, _ => exact ⟨_, rfl⟩
    | 3, _ => exact ⟨_, rfl⟩
    | 4, _ => exact ⟨_, rfl⟩
    | 5, _ => exact ⟨_, rfl⟩
    | 6, _ => exact ⟨_, rfl⟩
    | 7, _ => exact ⟨_, rfl⟩
    | 8, _ => exact ⟨_, rfl⟩
    | 9, _ => exact ⟨_, rfl⟩
    | 10, _ => exact ⟨_, rfl⟩
  obtain ⟨t', hx⟩ := hx
  exact item_of (vs := [.int 173 t0, .int 847 t1, .int 6150 t2, .int 6155 t3, .int 6156 t4, .int 6157 t5, .int 8203 t6, .int 8204 t7, .int 8205 t8, .int 8288 t9, .int 65279 t10]) ⟨_, (N _ hm).1, rfl, 0, rfl⟩ (by omega) (by omega) hx (h t') hs
theorem item_several {value slice : PySem.Expr} {l : Addr} {pl : Nat} {u t0 t1 t2 t3 t4 t5 t6 t7 : Tok} {Q : Value → Shared → Prop} (N : News h₀ L s.heap news)
    (hm : (l, listOf #[.str (Str.ofString "ff") t0, .str (Str.ofString "fi") t1, .str (Str.ofString "fl") t2, .str (Str.ofString "ffi") t3, .str (Str.ofString "ffl") t4, .str (Str.ofString "st") t5, .str (Str.ofString "st") t6, .str (Str.ofString "ss") t7] 0) ∈ news) (hp : pl < 8) (h : ∀ t', Q (.str ⟨(severalL.getD pl []).toArray⟩ t') s)
    (hs : subscripted slice false (.ref l) (.int pl u) = operate [.ref l, .int pl u] (getItem (.ref l) (.int pl u)) := by with_unfolding_all rfl) :
    wpAny (model prog w) A (subscriptTail value slice (.ref l) (.int pl u)) Q E s := by
  have hx : ∃ t', ([.str (Str.ofString "ff") t0, .str (Str.ofString "fi") t1, .str (Str.ofString "fl") t2, .str (Str.ofString "ffi") t3, .str (Str.ofString "ffl") t4, .str (Str.ofString "st") t5, .str (Str.ofString "st") t6, .str (Str.ofString "ss") t7] : List Value)[(pl : Int).toNat]? = some (.str ⟨(severalL.getD pl []).toArray⟩ t') := by
    rw [Int.toNat_natCast]
    match pl, hp with
    | 0, _ => exact ⟨_, by rw [show Str.ofString "ff" = ⟨(severalL.getD 0 []).toArray⟩ from by decide]; rfl⟩
    | 1, _ => exact ⟨_, by rw [show Str.ofString "fi" = ⟨(severalL.getD 1 []).toArray⟩ from by decide]; rfl⟩
    | 2, _ => exact ⟨_, by rw [show Str.ofString "fl" = ⟨(severalL.getD 2 []).toArray⟩ from by decide]; rfl⟩
    | 3, _ => exact ⟨_, by rw [show Str.ofString "ffi" = ⟨(severalL.getD 3 []).toArray⟩ from by decide]; rfl⟩
    | 4, _ => exact ⟨_, by rw [show Str.ofString "ffl" = ⟨(severalL.getD 4 []).toArray⟩ from by decide]; rfl⟩
    | 5, _ => exact ⟨_, by rw [show Str.ofString "st" = ⟨(severalL.getD 5 []).toArray⟩ from by decide]; rfl⟩
    | 6, _ => exact ⟨_, by rw [show Str.ofString "st" = ⟨(severalL.getD 6 []).toArray⟩ from by decide]; rfl⟩
    | 7, _ => exact ⟨_, by rw [show Str.ofString "ss" = ⟨(severalL.getD 7 []).toArray⟩ from by decide]; rfl⟩
  obtain ⟨t', hx⟩ := hx
  exact item_of (vs := [.str (Str.ofString "ff") t0, .str (Str.ofString "fi") t1, .str (Str.ofString "fl") t2, .str (Str.ofString "ffi") t3, .str (Str.ofString "ffl") t4, .str (Str.ofString "st") t5, .str (Str.ofString "st") t6, .str (Str.ofString "ss") t7]) ⟨_, (N _ hm).1, rfl, 0, rfl⟩ (by omega) (by omega) hx (h t') hs
end
theorem codes_small : ∀ pl < 11, codesL.getD pl 0 ≤ 70000 := by decide
set_option maxHeartbeats 4000000 in
theorem s_law_between {w : World} {A : Around} {mg mb : Str → Option Value} {s : Shared} {p : Nat} {t : Tok} {Q E : Value → Shared → Prop}
    (P : Pre w A 2 100 mg mb s.heap) (hp : p ≤ 1000000)
    (h : ∀ h' tk' d u u', Keeps s.heap h' → s.heap.get? d = none → IsTup h' d #[.str ⟨#[signOf p]⟩ u, .str ⟨(foldOf p).toArray⟩ u'] → Q (.ref d) { s with heap := h', toks := tk' }) :
    wpAny (model pw w) A (call (.ref 152) [.int p t]) Q E s := by
  refine enter (binds := [("pick", .int p t)]) P rfl rfl rfl rfl ?_
  intro h₁ F P'
  have X := P'.K
  have T := P'.T
  have hh := P'.hh
  have N : News s.heap s.heap.objs.size h₁ [] := News.nil
  walk_at "toite"
  rename Fr _ _ _ _ => F1
  rename News _ _ _ _ => N1
  have e1 : (p : Int).fmod 6 = ((p % 6 : Nat) : Int) := by rw [Int.fmod_eq_emod_of_nonneg _ (by omega)]; omega
  have e2 : (p : Int).fdiv 6 = ((p / 6 : Nat) : Int) := by rw [Int.fdiv_eq_ediv_of_nonneg _ (by omega)]; omega
  rw [e1] at F1 ⊢
  rw [e2] at F1
  have h6 : p % 6 < 6 := Nat.mod_lt _ (by decide)
  have hw : p / 6 ≤ 1000000 := by omega
  unfold signOf foldOf at h
  generalize p % 6 = k at *
  generalize p / 6 = wh at *
  by_cases k1 : k < 3
  · rw [if_pos (by rw [decide_eq_true_eq]; omega)]
    rw [if_pos k1, if_pos k1] at h
    walk_at "toite"
    have e3 : (wh : Int).fmod 27 = ((wh % 27 : Nat) : Int) := by rw [Int.fmod_eq_emod_of_nonneg _ (by omega)]; omega
    have h27 : wh % 27 < 27 := Nat.mod_lt _ (by decide)
    rename Fr _ _ _ _ => F2
    rename News _ _ _ _ => N2
    rw [e3] at F2 ⊢
    generalize wh % 27 = pl at *
    by_cases k2 : pl < 11
    · rw [if_pos (by rw [decide_eq_true_eq]; omega)]
      rw [if_pos k2] at h
      repeat ((fail_if_success (with_reducible show wpAny _ _ (subscriptTail _ _ _ _) _ _ _)); walk1)
      rename Fr _ _ _ _ => F3
      rename News _ _ _ _ => N3
      refine item_codes N3 (.tail _ (.head _)) k2 ?_
      intro t'
      have hc : (decide (((codesL.getD pl 0 : Nat) : Int) < 0) || decide (((codesL.getD pl 0 : Nat) : Int) > 0x10FFFF)) = false := by
        have := codes_small pl k2
        rw [Bool.or_eq_false_iff, decide_eq_false_iff_not, decide_eq_false_iff_not]; omega
      walk_at "go"
      rename Fr _ _ _ _ => F9
      rename News _ _ _ _ => N9
      rw [Int.toNat_natCast, show Str.ofString "" = ⟨([] : List Nat).toArray⟩ from by decide] at N9
      exact h _ _ _ _ _ F9.keep (N9 _ (.head _)).2.2 (N9.isTup (.head _))
    · rw [if_neg (by rw [decide_eq_true_eq]; omega)]
      rw [if_neg k2] at h
      walk_at "go"
      rename Fr _ _ _ _ => F9
      rename News _ _ _ _ => N9
      rw [show (65013 + (pl : Int)).toNat = 65013 + pl by omega, show Str.ofString "" = ⟨([] : List Nat).toArray⟩ from by decide] at N9
      exact h _ _ _ _ _ F9.keep (N9 _ (.head _)).2.2 (N9.isTup (.head _))
  · rw [if_neg (by rw [decide_eq_true_eq]; omega)]
    rw [if_neg k1, if_neg k1] at h
    walk_at "toite"
    have e26 : (wh : Int).fmod 26 = ((wh % 26 : Nat) : Int) := by rw [Int.fmod_eq_emod_of_nonneg _ (by omega)]; omega
    have e8 : (wh : Int).fmod 8 = ((wh % 8 : Nat) : Int) := by rw [Int.fmod_eq_emod_of_nonneg _ (by omega)]; omega
    have h26 : wh % 26 < 26 := Nat.mod_lt _ (by decide)
    have h8 : wh % 8 < 8 := Nat.mod_lt _ (by decide)
    by_cases k3 : k = 3
    · rw [if_pos (by simp [k3])]
      rw [if_pos k3, if_pos k3] at h
      walk_at "go"
      rename Fr _ _ _ _ => F9
      rename News _ _ _ _ => N9
      rw [e26, show (65 + ((wh % 26 : Nat) : Int)).toNat = 65 + wh % 26 by omega, show (97 + ((wh % 26 : Nat) : Int)).toNat = 97 + wh % 26 by omega] at N9
      exact h _ _ _ _ _ F9.keep (N9 _ (.head _)).2.2 (N9.isTup (.head _))
    · rw [if_neg (by simp; omega)]
      rw [if_neg k3, if_neg k3] at h
      walk_at "toite"
      by_cases k4 : k = 4
      · rw [if_pos (by simp [k4])]
        rw [if_pos k4, if_pos k4] at h
        walk_at "go"
        rename Fr _ _ _ _ => F9
        rename News _ _ _ _ => N9
        rw [e26, show (119808 + ((wh % 26 : Nat) : Int)).toNat = 119808 + wh % 26 by omega, show (97 + ((wh % 26 : Nat) : Int)).toNat = 97 + wh % 26 by omega] at N9
        exact h _ _ _ _ _ F9.keep (N9 _ (.head _)).2.2 (N9.isTup (.head _))
      · rw [if_neg (by simp; omega)]
        rw [if_neg k4, if_neg k4] at h
        walk_at "toite"
        rename Fr _ _ _ _ => F2
        rename News _ _ _ _ => N2
        rw [e8] at F2 ⊢
        generalize wh % 8 = pl at *
        by_cases k5 : pl < 7
        · rw [if_pos (by rw [decide_eq_true_eq]; omega)]
          rw [if_pos k5] at h
          repeat ((fail_if_success (with_reducible show wpAny _ _ (subscriptTail _ _ _ _) _ _ _)); walk1)
          rename Fr _ _ _ _ => F3
          rename News _ _ _ _ => N3
          refine item_several N3 (.head _) h8 ?_
          intro t'
          walk_at "go"
          rename Fr _ _ _ _ => F9
          rename News _ _ _ _ => N9
          rw [show (64256 + (pl : Int)).toNat = 64256 + pl by omega] at N9
          exact h _ _ _ _ _ F9.keep (N9 _ (.head _)).2.2 (N9.isTup (.head _))
        · rw [if_neg (by rw [decide_eq_true_eq]; omega)]
          rw [if_neg k5] at h
          repeat ((fail_if_success (with_reducible show wpAny _ _ (subscriptTail _ _ _ _) _ _ _)); walk1)
          rename Fr _ _ _ _ => F3
          rename News _ _ _ _ => N3
          refine item_several N3 (.head _) h8 ?_
          intro t'
          walk_at "go"
          rename Fr _ _ _ _ => F9
          rename News _ _ _ _ => N9
          exact h _ _ _ _ _ F9.keep (N9 _ (.head _)).2.2 (N9.isTup (.head _))
set_option maxHeartbeats 4000000 in
theorem s_div_base {w : World} {A : Around} {mg mb : Str → Option Value} {s : Shared} {a b n : Nat} {t t' t'' : Tok} {Q E : Value → Shared → Prop}
    (P : Pre w A 1 20 mg mb s.heap) (hb : 0 < b) (hb2 : b < 2 ^ 9000) (hlim : a < 2 ^ (n + 4000))
    (h : ∀ h' tk' d u u', Keeps s.heap h' → s.heap.get? d = none → IsTup h' d #[.int ((a / b : Nat) : Int) u, .int ((a % b : Nat) : Int) u'] → Q (.ref d) { s with heap := h', toks := tk' }) :
    wpAny (model pw w) A (call (.ref 21) [.int a t, .int b t', .int n t'']) Q E s := by
  refine enter (binds := [("a", .int a t), ("b", .int b t'), ("n", .int n t'')]) P rfl rfl rfl rfl ?_
  intro h₁ F P'
  have X := P'.K
  have T := P'.T
  have hh := P'.hh
  have N : News s.heap s.heap.objs.size h₁ [] := News.nil
  have hbl := bl_le.mpr hlim
  have hb0 : (b : Int) ≠ 0 := by omega
  walk_at "toite"
  rw [if_pos (by rw [decide_eq_true_eq]; show ((bl a : Nat) : Int) - n ≤ 4000; omega)]
  walk_at "go"
  have hpy : Builtin.divisionGoesByPylong (a : Int) (b : Int) = false := noPylong_nat hb2
  rename Fr _ _ _ _ => F1
  rename News _ _ _ _ => N1
  refine divmod_N F1 N1 hb0 ?_ (Or.inl hpy)
  intro h' F' N'
  rw [fdiv_nat, fmod_nat] at N'
  exact h _ _ _ _ _ F'.keep (N' _ (.head _)).2.2 (N'.isTup (.head _))
set_option maxHeartbeats 4000000 in
theorem s_div3n2n {w : World} {A : Around} {mg mb : Str → Option Value} {s : Shared} {a12 a3 B b1 b2 n : Nat} {t1 t2 t3 t4 t5 t6 : Tok} {Q E : Value → Shared → Prop}
    (P : Pre w A 3 60 mg mb s.heap) (hn : n ≤ 4000) (h1 : 0 < b1) (h1' : b1 < 2 ^ n) (h2 : b2 < 2 ^ n) (h3 : a3 < 2 ^ n) (ha : a12 < b1 * 2 ^ n + b2) (hBe : B = b1 * 2 ^ n + b2)
    (h : ∀ h' tk' d u u', Keeps s.heap h' → s.heap.get? d = none →
      IsTup h' d #[.int (((a12 * 2 ^ n + a3) / B : Nat) : Int) u, .int (((a12 * 2 ^ n + a3) % B : Nat) : Int) u'] → Q (.ref d) { s with heap := h', toks := tk' }) :
    wpAny (model pw w) A (call (.ref 28) [.int a12 t1, .int a3 t2, .int B t3, .int b1 t4, .int b2 t5, .int n t6]) Q E s := by
  subst hBe
  refine enter (binds := [("a12", .int a12 t1), ("a3", .int a3 t2), ("b", .int ((b1 * 2 ^ n + b2 : Nat) : Int) t3), ("b1", .int b1 t4), ("b2", .int b2 t5), ("n", .int n t6)]) P rfl rfl rfl rfl ?_
  intro h₁ F P'
  have X := P'.K
  have T := P'.T
  have hh := P'.hh
  have N : News s.heap s.heap.objs.size h₁ [] := News.nil
  have hs1 : bl b1 + n ≤ 2 ^ 27 := by have := bl_le.mpr h1'; omega
  have hpos : 0 < 2 ^ n := Nat.pow_pos (by decide)
  repeat ((fail_if_success (with_reducible show wpAny _ _ (exec (Stmt.If _ _ _ _) _) _ _ _)); walk1)
  refine wpAny_mono (?_ : wpAny _ _ _ (fun f s' => ∃ h' tk' m news, ∃ q r : Nat, f = .next ∧ s' = { s with heap := h', toks := tk' } ∧ Fr s.heap s.heap.objs.size h' m ∧ News s.heap s.heap.objs.size h' news ∧
    HasInt m "q" q ∧ HasInt m "r" r ∧ HasInt m "a3" a3 ∧ HasInt m "b" ((b1 * 2 ^ n + b2 : Nat) : Int) ∧ HasInt m "b2" b2 ∧ HasInt m "n" n ∧ a12 = q * b1 + r ∧ q < 2 ^ n ∧ (r < b1 ∨ q = 2 ^ n - 1)) _ _) ?_ (fun _ _ e => e)
  · walk_at "toite"
    by_cases hc : a12 / 2 ^ n = b1
    · rw [if_pos (by rw [hc]; simp)]
      walk_at "go"
      have hge : b1 * 2 ^ n ≤ a12 := by rw [← hc]; exact Nat.div_mul_le_self _ _
      have e1 : (1 : Int) * 2 ^ ((n : Int)).toNat - 1 = ((2 ^ n - 1 : Nat) : Int) := by rw [two_nat]; omega
      have e2 : (a12 : Int) - ((b1 * 2 ^ n : Nat) : Int) + (b1 : Int) = ((a12 - b1 * 2 ^ n + b1 : Nat) : Int) := by omega
      rename Fr _ _ _ _ => F3
      rename News _ _ _ _ => N3
      refine ⟨_, _, _, _, 2 ^ n - 1, a12 - b1 * 2 ^ n + b1, rfl, rfl, F3, N3, hasInt rfl e1, hasInt rfl e2, ⟨_, rfl⟩, ⟨_, rfl⟩, ⟨_, rfl⟩, ⟨_, rfl⟩, ?_, by omega, .inr rfl⟩
      have : (2 ^ n - 1) * b1 = 2 ^ n * b1 - b1 := by rw [Nat.sub_mul, Nat.one_mul]
      have h5 : b1 ≤ 2 ^ n * b1 := Nat.le_mul_of_pos_left _ hpos
      rw [Nat.mul_comm b1] at hge ⊢
      omega
    · rw [if_neg (by rw [beq_iff_eq]; omega)]
      have hlt : a12 < b1 * 2 ^ n := by
        have h5 : a12 / 2 ^ n ≤ b1 := by
          have : a12 < (b1 + 1) * 2 ^ n := by rw [Nat.add_mul, Nat.one_mul]; omega
          have := Nat.div_lt_of_lt_mul (m := a12) (n := 2 ^ n) (k := b1 + 1) (by rw [Nat.mul_comm]; exact this)
          omega
        exact (Nat.div_lt_iff_lt_mul hpos).mp (by omega)
      walk_at "tocall"
      rename Fr _ _ _ _ => F2
      rename News _ _ _ _ => N2
      refine s_div_base ((P'.fr F2).less) h1 (Nat.lt_of_lt_of_le h1' (Nat.pow_le_pow_right (by decide) (by omega))) ?_ ?_
      · have : b1 * 2 ^ n < 2 ^ n * 2 ^ n := Nat.mul_lt_mul_of_pos_right h1' hpos
        rw [← Nat.pow_add] at this
        exact Nat.lt_of_lt_of_le (by omega) (Nat.pow_le_pow_right (by decide) (show n + n ≤ n + 4000 by omega))
      intro h' tk' d u u' kp hfr htup
      have F3 := frK F2 kp
      have N3 := newsK N2 kp
      clear F2 N2
      walk_at "go"
      rename Fr _ _ _ _ => F4
      rename News _ _ _ _ => N4
      have hq : a12 / b1 < 2 ^ n := (Nat.div_lt_iff_lt_mul h1).mpr (by rw [Nat.mul_comm]; exact hlt)
      exact ⟨_, _, _, _, a12 / b1, a12 % b1, rfl, rfl, F4, N4, ⟨_, rfl⟩, ⟨_, rfl⟩, ⟨_, rfl⟩, ⟨_, rfl⟩, ⟨_, rfl⟩, ⟨_, rfl⟩, by rw [Nat.mul_comm]; exact (Nat.div_add_mod a12 b1).symm, hq, .inl (Nat.mod_lt _ h1)⟩
  · rintro f s' ⟨h', tk', m, news, q, r, rfl, rfl, F, N, ⟨u1, m1⟩, ⟨u2, m2⟩, ⟨u3, m3⟩, ⟨u4, m4⟩, ⟨u5, m5⟩, ⟨u6, m6⟩, e1, e2, e3⟩
    show wpAny _ _ (execs _ _) _ _ _
    have hr : r < 2 ^ (2 * n + 1) := by
      have h5 : r ≤ a12 := by rw [e1]; exact Nat.le_add_left _ _
      have h6 : b1 * 2 ^ n < 2 ^ n * 2 ^ n := Nat.mul_lt_mul_of_pos_right h1' hpos
      rw [← Nat.pow_add] at h6
      have h7 : 2 ^ n ≤ 2 ^ (n + n) := Nat.pow_le_pow_right (by decide) (by omega)
      rw [show 2 * n + 1 = (n + n) + 1 by omega, Nat.pow_succ]
      omega
    have hs2 : bl r + n ≤ 2 ^ 27 := by have := bl_le.mpr hr; omega
    have hs3 : bl q + bl b2 ≤ 2 ^ 27 := by have := bl_le.mpr h2; have := bl_le.mpr e2; omega
    repeat ((fail_if_success (with_reducible show wpAny _ _ (binaryOp Operator.BitOr _ _) _ _ _)); walk1)
    refine nor_lo h3 ?_
    repeat ((fail_if_success (with_reducible show wpAny _ _ (exec (Stmt.While _ _ _ _) _) _ _ _)); walk1)
    rename Fr _ _ _ _ => F1
    rename News _ _ _ _ => N1
    have hB : (0 : Int) < ((b1 * 2 ^ n + b2 : Nat) : Int) := by have := Nat.mul_pos h1 hpos; omega
    have hAV : ((q : Nat) : Int) * ((b1 * 2 ^ n + b2 : Nat) : Int) + (((r * 2 ^ n + a3 : Nat) : Int) - ((q * b2 : Nat) : Int)) = ((a12 * 2 ^ n + a3 : Nat) : Int) := by
      have h5 : q * (b1 * 2 ^ n + b2) = q * b1 * 2 ^ n + q * b2 := by rw [Nat.mul_add, Nat.mul_assoc]
      have h6 : a12 * 2 ^ n = q * b1 * 2 ^ n + r * 2 ^ n := by rw [e1, Nat.add_mul]
      rw [← Int.natCast_mul, h5, h6]; omega
    have hyB : (((r * 2 ^ n + a3 : Nat) : Int) - ((q * b2 : Nat) : Int)) < ((b1 * 2 ^ n + b2 : Nat) : Int) := by
      rcases e3 with e3 | e3
      · have : (r + 1) * 2 ^ n ≤ b1 * 2 ^ n := Nat.mul_le_mul_right _ e3
        rw [Nat.add_mul, Nat.one_mul] at this
        omega
      · have h5 : (a12 + 1) * 2 ^ n ≤ (b1 * 2 ^ n + b2) * 2 ^ n := Nat.mul_le_mul_right _ ha
        rw [Nat.add_mul, Nat.one_mul] at h5
        have h6 : q * (b1 * 2 ^ n + b2) + (b1 * 2 ^ n + b2) = (b1 * 2 ^ n + b2) * 2 ^ n := by
          rw [show q * (b1 * 2 ^ n + b2) + (b1 * 2 ^ n + b2) = (q + 1) * (b1 * 2 ^ n + b2) by rw [Nat.add_mul, Nat.one_mul], Nat.mul_comm, e3, Nat.sub_add_cancel hpos]
        rw [← Int.natCast_mul] at hAV
        omega
    refine While_inv2 (fun k m nx => ∃ z y : Int, HasInt m "b" ((b1 * 2 ^ n + b2 : Nat) : Int) ∧ HasInt m "q" z ∧ HasInt m "r" y ∧ z * ((b1 * 2 ^ n + b2 : Nat) : Int) + y = ((a12 * 2 ^ n + a3 : Nat) : Int) ∧ y < ((b1 * 2 ^ n + b2 : Nat) : Int) ∧ k = (-y).toNat)
      F1 N1 ⟨_, _, ⟨_, m4⟩, ⟨_, m1⟩, ⟨_, rfl⟩, hAV, hyB, rfl⟩ ?_
    rintro k m' news' g tk3 F2 N2 ⟨z, y, ⟨v1, j1⟩, ⟨v2, j2⟩, ⟨v3, j3⟩, hz, hy, rfl⟩
    walk_at "toite"
    by_cases hy0 : y < 0
    · rw [if_pos (by rw [decide_eq_true_eq]; exact hy0)]
      walk_at "go"
      rename Fr _ _ _ _ => F3
      rename News _ _ _ _ => N3
      refine ⟨_, _, _, _, (-(y + ((b1 * 2 ^ n + b2 : Nat) : Int))).toNat, rfl, F3, N3, by omega, z - 1, y + ((b1 * 2 ^ n + b2 : Nat) : Int), ⟨_, j1⟩, ⟨_, rfl⟩, ⟨_, rfl⟩, ?_, by omega, rfl⟩
      rw [Int.sub_mul, Int.one_mul]; omega
    · rw [if_neg (by rw [decide_eq_true_eq]; exact hy0)]
      have hu := (Int.ediv_emod_unique hB (a := ((a12 * 2 ^ n + a3 : Nat) : Int)) (r := y) (q := z)).mpr ⟨by rw [Int.mul_comm]; omega, by omega, hy⟩
      rw [← Int.natCast_ediv, ← Int.natCast_emod] at hu
      walk_at "go"
      rename Fr _ _ _ _ => F3
      rename News _ _ _ _ => N3
      rw [← hu.1, ← hu.2] at N3
      exact h _ _ _ _ _ F3.keep (N3 _ (.head _)).2.2 (N3.isTup (.head _))
section
theorem and_one (n : Nat) : Builtin.bitAnd (n : Int) 1 = ((n % 2 : Nat) : Int) := by
  rw [bitAnd_pp (by omega) (by omega), Int.toNat_natCast]
  rw [show ((1 : Int)).toNat = 2 ^ 1 - 1 from rfl, Nat.and_two_pow_sub_one_eq_mod]
theorem bz {A B h : Nat} (hB1 : 2 ^ (2 * h) ≤ 2 * B) (hB2 : B < 2 ^ (2 * h)) (h1 : 0 < h) (hA : A < 2 ^ (2 * h) * B) :
    0 < B / 2 ^ h ∧ B / 2 ^ h < 2 ^ h ∧ B % 2 ^ h < 2 ^ h ∧ B = B / 2 ^ h * 2 ^ h + B % 2 ^ h ∧ A / 2 ^ (2 * h) < B ∧
    A / 2 ^ (2 * h) * 2 ^ h + A / 2 ^ h % 2 ^ h = A / 2 ^ h ∧ A / 2 ^ h % B < B ∧ (A / 2 ^ h % B * 2 ^ h + A % 2 ^ h) / B < 2 ^ h ∧
    A / 2 ^ h / B * 2 ^ h + (A / 2 ^ h % B * 2 ^ h + A % 2 ^ h) / B = A / B ∧ (A / 2 ^ h % B * 2 ^ h + A % 2 ^ h) % B = A % B := by
  have hp : 0 < 2 ^ h := Nat.pow_pos (by decide)
  have e2 : 2 ^ (2 * h) = 2 ^ h * 2 ^ h := by rw [← Nat.pow_add]; congr 1; omega
  have hB0 : 0 < B := by have : 0 < 2 ^ (2 * h) := Nat.pow_pos (by decide); omega
  rw [e2] at hB1 hB2 hA ⊢
  have h2 : 2 ≤ 2 ^ h := by
    have : 2 ^ 1 ≤ 2 ^ h := Nat.pow_le_pow_right (by decide) h1
    simpa using this
  have hge : 2 ^ h ≤ B := by
    have : 2 * 2 ^ h ≤ 2 ^ h * 2 ^ h := Nat.mul_le_mul_right _ h2
    omega
  have hdm : B = B / 2 ^ h * 2 ^ h + B % 2 ^ h := by rw [Nat.mul_comm]; exact (Nat.div_add_mod B (2 ^ h)).symm
  have hAd : A = A / 2 ^ h * 2 ^ h + A % 2 ^ h := by rw [Nat.mul_comm]; exact (Nat.div_add_mod A (2 ^ h)).symm
  have hAq : A / 2 ^ h = B * (A / 2 ^ h / B) + A / 2 ^ h % B := (Nat.div_add_mod _ _).symm
  have hlow : A % 2 ^ h < 2 ^ h := Nat.mod_lt _ hp
  have hrB : A / 2 ^ h % B < B := Nat.mod_lt _ hB0
  have hfull : A = (A / 2 ^ h / B * 2 ^ h) * B + (A / 2 ^ h % B * 2 ^ h + A % 2 ^ h) := by
    have : A / 2 ^ h * 2 ^ h = (A / 2 ^ h / B * 2 ^ h) * B + A / 2 ^ h % B * 2 ^ h := by
      have h5 : A / 2 ^ h * 2 ^ h = (B * (A / 2 ^ h / B) + A / 2 ^ h % B) * 2 ^ h := by rw [← hAq]
      rw [h5, Nat.add_mul, Nat.mul_comm B, Nat.mul_right_comm]
    omega
  refine ⟨Nat.div_pos hge hp, Nat.div_lt_of_lt_mul hB2, Nat.mod_lt _ hp, hdm, Nat.div_lt_of_lt_mul hA, ?_, hrB, ?_, ?_, ?_⟩
  · rw [← Nat.div_div_eq_div_mul, Nat.mul_comm]; exact Nat.div_add_mod _ _
  · refine (Nat.div_lt_iff_lt_mul hB0).mpr ?_
    have : (A / 2 ^ h % B + 1) * 2 ^ h ≤ B * 2 ^ h := Nat.mul_le_mul_right _ hrB
    rw [Nat.add_mul, Nat.one_mul] at this
    rw [Nat.mul_comm (2 ^ h)]; omega
  · conv => rhs; rw [hfull]
    rw [Nat.mul_comm (A / 2 ^ h / B * 2 ^ h) B, Nat.mul_add_div hB0]
  · conv => rhs; rw [hfull]
    rw [Nat.mul_comm (A / 2 ^ h / B * 2 ^ h) B, Nat.mul_add_mod]
theorem nrsh1' {prog : Program} {w : World} {A : Around} {E : Value → Shared → Prop} {s : Shared} {a : Nat} {t u : Tok} {Q : Value → Shared → Prop}
    (h : Q (.int (a : Int) s.toks) { s with toks := s.toks + 1 }) : wpAny (model prog w) A (binaryOp .RShift (.int ((2 * a : Nat) : Int) t) (.int 1 u)) Q E s := by
  refine nrsh1 ?_
  rw [show 2 * a / 2 = a by omega]; exact h
local macro_rules | `(tactic| walk_at "binaryOp RShift int int") => `(tactic| first | (with_reducible refine nrsh1' ?_) | (with_reducible refine nrsh1 ?_) | (with_reducible refine nrsh ?_))
set_option maxHeartbeats 4000000 in
theorem s_div2n1n {w : World} {A : Around} {mg mb : Str → Option Value} {s : Shared} {a b n : Nat} {t t' t'' : Tok} {Q E : Value → Shared → Prop}
    (P : Pre w A 5 100 mg mb s.heap) (hn : n ≤ 7990) (hn1 : 0 < n) (hb : 2 ^ n ≤ 2 * b) (hb2 : b < 2 ^ n) (ha : a < 2 ^ n * b)
    (h : ∀ h' tk' d u u', Keeps s.heap h' → s.heap.get? d = none → IsTup h' d #[.int ((a / b : Nat) : Int) u, .int ((a % b : Nat) : Int) u'] → Q (.ref d) { s with heap := h', toks := tk' }) :
    wpAny (model pw w) A (call (.ref 21) [.int a t, .int b t', .int n t'']) Q E s := by
  have hpn : 0 < 2 ^ n := Nat.pow_pos (by decide)
  have hb0 : 0 < b := by omega
  by_cases hlim : bl a ≤ n + 4000
  · exact s_div_base P.less hb0 (Nat.lt_of_lt_of_le hb2 (Nat.pow_le_pow_right (by decide) (by omega))) (bl_le.mp hlim) h
  refine enter (binds := [("a", .int a t), ("b", .int b t'), ("n", .int n t'')]) P rfl rfl rfl rfl ?_
  intro h₁ F P'
  have X := P'.K
  have T := P'.T
  have hh := P'.hh
  have N : News s.heap s.heap.objs.size h₁ [] := News.nil
  have hbla : bl a ≤ 2 * n := bl_le.mpr (by
    have : 2 ^ n * b < 2 ^ n * 2 ^ n := Nat.mul_lt_mul_of_pos_left hb2 hpn
    rw [← Nat.pow_add] at this
    rw [show 2 * n = n + n by omega]; omega)
  have hblb : bl b ≤ n := bl_le.mpr hb2
  walk_at "toite"
  rw [if_neg (by rw [decide_eq_true_eq]; show ¬ (((bl a : Nat) : Int) - n ≤ 4000); omega)]
  repeat ((fail_if_success (with_reducible show wpAny _ _ (exec (Stmt.If _ _ _ _) _) _ _ _)); walk1)
  refine wpAny_mono (?_ : wpAny _ _ _ (fun f s' => ∃ h' tk' m news, ∃ pd hf : Nat, f = .next ∧ s' = { s with heap := h', toks := tk' } ∧ Fr s.heap s.heap.objs.size h' m ∧ News s.heap s.heap.objs.size h' news ∧
    HasInt m "a" ((a * 2 ^ pd : Nat) : Int) ∧ HasInt m "b" ((b * 2 ^ pd : Nat) : Int) ∧ HasInt m "n" ((2 * hf : Nat) : Int) ∧ HasInt m "pad" (pd : Int) ∧ pd ≤ 1 ∧ n + pd = 2 * hf) _ _) ?_ (fun _ _ e => e)
  · walk_at "toite"
    rw [and_one]
    by_cases hp : n % 2 = 1
    · rw [if_pos (by rw [hp]; decide)]
      have hk1 : bl a ≤ 20000 := by omega
      have hk2 : bl b ≤ 20000 := by omega
      walk_at "go"
      rename Fr _ _ _ _ => F3
      rename News _ _ _ _ => N3
      exact ⟨_, _, _, _, 1, (n + 1) / 2, rfl, rfl, F3, N3, ⟨_, rfl⟩, ⟨_, rfl⟩, hasInt rfl (by omega), hasInt rfl (by rw [and_one, hp]), by omega, by omega⟩
    · rw [if_neg (by rw [show n % 2 = 0 by omega]; decide)]
      walk_at "go"
      rename Fr _ _ _ _ => F3
      rename News _ _ _ _ => N3
      exact ⟨_, _, _, _, 0, n / 2, rfl, rfl, F3, N3, hasInt rfl (by simp), hasInt rfl (by simp), hasInt rfl (by omega), hasInt rfl (by rw [and_one, show n % 2 = 0 by omega]), by omega, by omega⟩
  · rintro f s' ⟨h', tk', m, news, pd, hf, rfl, rfl, F, N, ⟨u1, m1⟩, ⟨u2, m2⟩, ⟨u3, m3⟩, ⟨u4, m4⟩, hpd, hnf⟩
    show wpAny _ _ (execs _ _) _ _ _
    have hk1 : hf ≤ 20000 := by omega
    have hpow : 2 ^ (2 * hf) = 2 ^ n * 2 ^ pd := by rw [← hnf, Nat.pow_add]
    have hpp : 0 < 2 ^ pd := Nat.pow_pos (by decide)
    have hB1 : 2 ^ (2 * hf) ≤ 2 * (b * 2 ^ pd) := by rw [hpow, ← Nat.mul_assoc]; exact Nat.mul_le_mul_right _ hb
    have hB2 : b * 2 ^ pd < 2 ^ (2 * hf) := by rw [hpow]; exact Nat.mul_lt_mul_of_pos_right hb2 hpp
    have hA : a * 2 ^ pd < 2 ^ (2 * hf) * (b * 2 ^ pd) := by
      rw [hpow]
      have h5 : a * 2 ^ pd < 2 ^ n * b * 2 ^ pd := Nat.mul_lt_mul_of_pos_right ha hpp
      have h6 : 2 ^ n * b * 2 ^ pd ≤ 2 ^ n * 2 ^ pd * (b * 2 ^ pd) := by
        rw [Nat.mul_right_comm, ← Nat.mul_assoc (2 ^ n * 2 ^ pd)]
        exact Nat.le_mul_of_pos_right _ hpp
      omega
    obtain ⟨z1, z2, z3, z4, z5, z6, z7, z8, z9, z10⟩ := bz hB1 hB2 (by omega) hA
    have hfin : a * 2 ^ pd / (b * 2 ^ pd) = a / b ∧ a * 2 ^ pd % (b * 2 ^ pd) / 2 ^ pd = a % b := by
      rw [Nat.mul_div_mul_right _ _ hpp, Nat.mul_mod_mul_right, Nat.mul_div_cancel _ hpp]
      exact ⟨rfl, rfl⟩
    have hq1 : bl (a * 2 ^ pd / 2 ^ hf / (b * 2 ^ pd)) + hf ≤ 2 ^ 27 := by
      have h5 : a * 2 ^ pd / 2 ^ hf / (b * 2 ^ pd) ≤ a * 2 ^ pd := Nat.le_trans (Nat.div_le_self _ _) (Nat.div_le_self _ _)
      have h6 : a * 2 ^ pd < 2 ^ (2 * n + pd) := by rw [Nat.pow_add]; exact Nat.mul_lt_mul_of_pos_right (bl_le.mp hbla) hpp
      have := bl_le.mpr (Nat.lt_of_le_of_lt h5 h6)
      omega
    generalize a * 2 ^ pd = A' at *
    generalize b * 2 ^ pd = B' at *
    walk_at "tocall"
    rename Fr _ _ _ _ => F2
    rename News _ _ _ _ => N2
    refine s_div3n2n ((P'.fr F2).less) (by omega) z1 z2 z3 (Nat.mod_lt _ (Nat.pow_pos (by decide))) (by rw [← z4]; exact z5) z4 ?_
    rw [z6]
    intro h' tk' d u u' kp hfr htup
    have F3 := frK F2 kp
    have N3 := newsK N2 kp
    clear F2 N2
    walk_at "tocall"
    rename Fr _ _ _ _ => F4
    rename News _ _ _ _ => N4
    refine s_div3n2n ((P'.fr F4).less) (by omega) z1 z2 z3 (Nat.mod_lt _ (Nat.pow_pos (by decide))) (by rw [← z4]; exact z7) z4 ?_
    intro h5 tk5 d5 u5 u5' kp5 hfr5 htup5
    have F5 := frK F4 kp5
    have N5 := newsK N4 kp5
    clear F4 N4 htup
    walk_at "toite"
    by_cases hp : pd = 1
    · subst hp
      rw [if_pos (by decide)]
      repeat ((fail_if_success (with_reducible show wpAny _ _ (binaryOp Operator.BitOr _ _) _ _ _)); walk1)
      refine nor_lo z8 ?_
      walk_at "go"
      rename Fr _ _ _ _ => F6
      rename News _ _ _ _ => N6
      rw [z9, z10, hfin.1] at N6
      have e1 : A' % B' / 2 = a % b := hfin.2
      rw [e1] at N6
      exact h _ _ _ _ _ F6.keep (N6 _ (.head _)).2.2 (N6.isTup (.head _))
    · obtain rfl : pd = 0 := by omega
      rw [if_neg (by decide)]
      repeat ((fail_if_success (with_reducible show wpAny _ _ (binaryOp Operator.BitOr _ _) _ _ _)); walk1)
      refine nor_lo z8 ?_
      walk_at "go"
      rename Fr _ _ _ _ => F6
      rename News _ _ _ _ => N6
      rw [z9, z10, hfin.1] at N6
      have e1 : A' % B' = a % b := by rw [← hfin.2]; simp
      rw [e1] at N6
      exact h _ _ _ _ _ F6.keep (N6 _ (.head _)).2.2 (N6.isTup (.head _))
end
end
noncomputable def innerAt (i : Nat) : Stmt := match st i with
  | .FunctionDef _ _ b _ _ _ _ _ _ _ => (b.find? fun x => match x with | .FunctionDef .. => true | _ => false).getD (.Pass ⟨0, 0, 0, 0⟩)
  | s => s
theorem enter_clo {w : World} {A : Around} {d u : Nat} {mg mb : Str → Option Value} {h₀ : Heap} {s : Shared} {f : Addr} {name qual : Str} {params : Arguments} {body : List Stmt} {scope : Scope} {cl : List (Str × Addr)} {doc pm cdv ctv oc : Value} {od : Option Addr} {osl : Array (Option Value)}
    {args : List Value} {binds : List (Str × Value)} {Q E : Value → Shared → Prop}
    (P : Pre w A (d + 1) (u + 3) mg mb h₀) (hk : s.heap.NoLimit)
    (ho : s.heap.get? f = some ⟨oc, od, .func (fnX name qual params body scope cl .none .none doc pm none cdv ctv), osl⟩)
    (hcd : s.heap.CodeRec cdv qual)
    (hbind : bindArgs (fnX name qual params body scope cl .none .none doc pm none cdv ctv) ⟨args, []⟩ = pure binds)
    (hloc : (binds.all fun x => decide (scope.names.lookup x.1 = some .local)) = true)
    (h : ∀ h₁, Fr s.heap s.heap.objs.size h₁ (fun x => binds.reverse.lookup x) → Pre w (A.deeper (envX qual scope s.heap.objs.size f cdv cl)) d u mg mb h₀ →
      wpAny (model pw w) (A.deeper (envX qual scope s.heap.objs.size f cdv cl)) (execs body (envX qual scope s.heap.objs.size f cdv cl))
        (fun fl s' => Q (match fl with | .ret v => v | _ => .none) s') (fun _ _ => False)
        { s with heap := h₁, toks := s.toks + binds.length })
    (hco : scope.isCoroutine = false := by rfl) (hgen : scope.isGenerator = false := by rfl) (hkd : scope.kind = .function := by rfl)
    (hcell : ∀ x ∈ scope.names, x.2 ≠ .cell := by decide) :
    wpAny (model pw w) A (call (.ref f) args) Q E s := by
  refine wpAny_call ?_
  refine codeAny_call_def (fd := fnX name qual params body scope cl .none .none doc pm none cdv ctv) (body := body) (binds := binds) (Nat.lt_of_le_of_lt (Nat.le_add_right _ _) P.room) ho rfl hk hcd rfl (BindsTo.of_eq hbind) hcell (locs hloc) (fun h₁ hns hk₁ => ?_) hco hgen hkd
  have r := P.room
  have uu := P.units
  refine wpAny_mono (h h₁ ⟨hns, hk₁, Nat.le_refl _⟩ ⟨P.hh, by rw [depth_deeper]; omega, by rw [units_deeper]; omega, P.K, P.T⟩) (fun fl s' hq => ?_) (fun _ _ e => e.elim)
  exact hq
section
variable {prog : Program} {M : Model} {w : World} {A : Around} {E : Value → Shared → Prop} {s : Shared} {h₀ : Heap} {L a : Addr} {m : Str → Option Value} {cn : Str} {cs : Scope} {ccd : Value} {cl : List (Str × Addr)} {x : Str} {pos : Pos} {v : Value} {c : Addr} {Q : Value → Shared → Prop}
theorem cl_local (F : Fr h₀ L s.heap m) (hv : m x = some v) (h : Q v s)
    (hk : cs.kind = .function) (hx : (envX cn cs L a ccd cl).kindOf x = some .local) (hd : (x == ("__debug__" : Str)) = false) :
    wpAny M A (eval (.Name x pos) (envX cn cs L a ccd cl)) Q E s := nameX_L F hv h hk hx hd
theorem cl_free (F : Fr h₀ L s.heap m) (hc : cl.lookup x = some c) (hv : h₀.IsCell c (some v)) (h : Q v s)
    (hk : cs.kind = .function) (hx : (envX cn cs L a ccd cl).kindOf x = some .free) (hb : (x == ("__debug__" : Str)) = false) (hn : (x == ("__classdict__" : Str)) = false) :
    wpAny M A (eval (.Name x pos) (envX cn cs L a ccd cl)) Q E s := by
  obtain ⟨o, e, r⟩ := hv
  exact wpAny_Name (wpAny_loadName_free hk hx hc ⟨o, F.keep _ _ e, r⟩ h hn) hb
variable {p r n : Nat} {t u : Tok}
theorem nadd (h : Q (.int ((p + r : Nat) : Int) s.toks) { s with toks := s.toks + 1 }) : wpAny (model prog w) A (binaryOp .Add (.int (p : Int) t) (.int (r : Int) u)) Q E s := by
  refine add_int ?_
  rw [← Int.natCast_add]; exact h
theorem nsub (hle : r ≤ p) (h : Q (.int ((p - r : Nat) : Int) s.toks) { s with toks := s.toks + 1 }) : wpAny (model prog w) A (binaryOp .Sub (.int (p : Int) t) (.int (r : Int) u)) Q E s := by
  refine sub_int ?_
  rw [← Int.natCast_sub hle]; exact h
end
theorem FnAt.ok {h₀ h : Heap} {L q : Addr} {m : Str → Option Value} {oc : Value} {od : Option Addr} {fd : FuncData} {sl : Array (Option Value)} (F : Fr h₀ L h m) (e : h₀.get? q = some ⟨oc, od, .func fd, sl⟩) : FnAt q h := ⟨oc, od, fd, sl, F.keep _ _ e⟩
theorem cellK {h h' : Heap} {c : Addr} {v : Option Value} (x : h.IsCell c v) (k : Keeps h h') : h'.IsCell c v := by obtain ⟨o, e, r⟩ := x; exact ⟨o, k _ _ e, r⟩
theorem codeRecK {h h' : Heap} {cv : Value} {q : Str} (x : h.CodeRec cv q) (k : Keeps h h') : h'.CodeRec cv q := by
  obtain ⟨c, o, vs, t, e1, e2, r⟩ := x; exact ⟨c, o, vs, t, e1, k _ _ e2, r⟩
noncomputable def valD (B : Nat) : List Nat → Nat
  | [] => 0
  | d :: r => d + B * valD B r
theorem valD_append (B : Nat) : ∀ a b : List Nat, valD B (a ++ b) = valD B a + B ^ a.length * valD B b
  | [], b => by simp [valD]
  | d :: a, b => by
    rw [List.cons_append]
    show d + B * valD B (a ++ b) = d + B * valD B a + B ^ (a.length + 1) * valD B b
    rw [valD_append B a b, Nat.mul_add, Nat.pow_succ, Nat.mul_comm (B ^ a.length) B, Nat.mul_assoc, Nat.add_assoc]
theorem valD_lt (B : Nat) (hB : 0 < B) : ∀ a : List Nat, (∀ d ∈ a, d < B) → valD B a < B ^ a.length
  | [], _ => by simp [valD]
  | d :: a, h => by
    have h1 := valD_lt B hB a fun e he => h e (.tail _ he)
    have h2 := h d (.head _)
    show d + B * valD B a < B ^ (a.length + 1)
    rw [Nat.pow_succ]
    have h3 : (valD B a + 1) * B ≤ B ^ a.length * B := Nat.mul_le_mul_right _ h1
    rw [Nat.add_mul, Nat.one_mul, Nat.mul_comm] at h3
    omega
section
local macro_rules | `(tactic| walk_at "eval Name") => `(tactic| ((with_reducible show wpAny _ _ (eval (Expr.Name _ _) (envX _ _ _ _ _ _)) _ _ _); first
  | ((refine' cl_local ?hF ?hv ?_ ?hk ?hx ?hd); (case hk => exact rfl); (case hx => kernel_rfl); (case hd => decide +kernel); (case hF => with_reducible assumption); (case hv => walk_at "look"))
  | ((refine' cl_free ?hF ?hc ?hv ?_ ?hk ?hx ?hb ?hn); (case hk => exact rfl); (case hx => kernel_rfl); (case hb => decide +kernel); (case hn => decide +kernel); (case hF => with_reducible assumption); (case hc => (with_reducible assumption)); (case hv => with_reducible assumption))))
local macro_rules | `(tactic| walk_at "binaryOp Add int int") => `(tactic| (with_reducible refine nadd ?_))
local macro_rules | `(tactic| walk_at "binaryOp Sub int int") => `(tactic| ((with_reducible refine nsub ?hle ?_); (case hle => with_reducible assumption)))
local macro_rules | `(tactic| walk_at "callWith ref") => `(tactic| ((with_reducible refine' callWith_F ?k1 ?_ ?he ?hp); (case k1 => exact FnAt.ok (by with_reducible assumption) (by with_reducible assumption)); (case he => exact rfl); (case hp => exact rfl)))
local macro_rules | `(tactic| walk_at "And") => `(tactic| ((with_reducible show FnAt _ _ ∧ wpAny _ _ _ _ _ _); (refine ⟨FnAt.ok (by with_reducible assumption) (by with_reducible assumption), ?_⟩); (try dsimp only [List.nil_append])))
local macro_rules | `(tactic| walk_at "storeName") => `(tactic| ((with_reducible refine' storeX_L ?hF ?hN ?_ ?hk ?hx); (case hF => with_reducible assumption); (case hN => with_reducible assumption); (case hk => exact rfl); (case hx => kernel_rfl); intro _ _ _))
local macro_rules | `(tactic| walk_at "binaryOp BitXor int int") => `(tactic| (with_reducible refine nxor_hi ?_))
set_option maxHeartbeats 4000000 in
theorem s_d2i {w : World} {mg mb : Str → Option Value} {name : Str} {params : Arguments} {body : List Stmt} {scope : Scope} {pos : Pos} (hst : innerAt 5 = .FunctionDef name params body [] none [] scope none name pos) {qual : Str} {cl : List (Str × Addr)} {doc pm cdv ctv oc : Value} {od : Option Addr} {osl : Array (Option Value)} {f c1 c2 c3 D : Addr}
    {vs : List Value} {ns : List Nat} {n : Nat} {tn : Tok} (hc1 : cl.lookup (Str.ofString "digits") = some c1) (hc2 : cl.lookup (Str.ofString "inner") = some c2) (hc3 : cl.lookup (Str.ofString "n") = some c3) (hi : IntsAre vs (ns.map fun (k : Nat) => (k : Int))) (hnd : ∀ k ∈ ns, k < 2 ^ n) (hn : n ≤ 8000) (hlen : ns.length ≤ 100) :
    ∀ (k : Nat) (A : Around) (s : Shared) (L R : Nat) (t t' : Tok) (h₀ : Heap) (Q E : Value → Shared → Prop), Pre w A (k + 1) (3 * k + 10) mg mb h₀ → s.heap.NoLimit →
      s.heap.get? f = some ⟨oc, od, .func (fnX name qual params body scope cl .none .none doc pm none cdv ctv), osl⟩ → s.heap.CodeRec cdv qual →
      s.heap.IsCell c1 (some (.ref D)) → s.heap.IsCell c2 (some (.ref f)) → s.heap.IsCell c3 (some (.int n tn)) → s.heap.IsList D vs.toArray → L < R → R ≤ ns.length → R - L ≤ 2 ^ k →
      (∀ h' tk' u, Keeps s.heap h' → Q (.int ((valD (2 ^ n) ((ns.drop L).take (R - L)) : Nat) : Int) u) { s with heap := h', toks := tk' }) →
      wpAny (model pw w) A (call (.ref f) [.int L t, .int R t']) Q E s := by
  have e : Stmt.FunctionDef _ _ _ _ _ _ _ _ _ _ = Stmt.FunctionDef name params body [] none [] scope none name pos := hst
  injection e with e1 e2 e3 e4 e5 e6 e7 e8 e9 e10
  subst e1 e2 e3 e7
  intro k
  induction k using Nat.strongRecOn with
  | ind k ih =>
    intro A s L R t t' h₀ Q E P hlim ho hcd hv1 hv2 hv3 hl hLR hR hk h
    refine enter_clo (d := k) (u := 3 * k + 7) (binds := [("L", .int L t), ("R", .int R t')]) P hlim ho hcd rfl rfl ?_
    intro h₁ F P'
    have X := P'.K
    have T := P'.T
    have hh := P'.hh
    have N : News s.heap s.heap.objs.size h₁ [] := News.nil
    walk_at "toite"
    by_cases hb : L + 1 = R
    · rw [if_pos (by rw [beq_iff_eq]; omega)]
      repeat ((fail_if_success (with_reducible show wpAny _ _ (subscriptTail _ _ _ _) _ _ _)); walk1)
      have e1 : ns[L]? = some (ns[L]'(by omega)) := List.getElem?_eq_getElem (by omega)
      generalize ns[L]'(by omega) = dg at e1
      obtain ⟨tt, e2⟩ := hi.get L (dg : Int) (by rw [List.getElem?_map, e1]; rfl)
      refine item_of (upList hl F.keep) (by omega) (by omega) (by rw [Int.toNat_natCast]; exact e2) ?_
      have ev : valD (2 ^ n) ((ns.drop L).take (R - L)) = dg := by
        rw [show R - L = 1 by omega, List.drop_eq_getElem_cons (by omega)]
        have : ns[L] = dg := (List.getElem?_eq_some_iff.mp e1).2
        rw [this]; simp [valD]
      rw [ev] at h
      exact h _ _ _ F.keep
    · rw [if_neg (by rw [beq_iff_eq]; omega)]
      obtain ⟨k', rfl⟩ : ∃ k', k = k' + 1 := ⟨k - 1, by
        rcases Nat.eq_zero_or_pos k with hk0 | hk0
        · subst hk0; rw [Nat.pow_zero] at hk; omega
        · omega⟩
      rw [Nat.pow_succ] at hk
      have hmL : L ≤ (L + R) / 2 := by omega
      have hmul : bl ((L + R) / 2 - L) + bl n ≤ 2 ^ 27 := by
        have h5 : (L + R) / 2 - L < 2 ^ 100 := by have : (100 : Nat) < 2 ^ 100 := by decide
                                                  omega
        have h6 : n < 2 ^ 100 := by have : (8000 : Nat) < 2 ^ 100 := by decide
                                    omega
        have := bl_le.mpr h5
        have := bl_le.mpr h6
        omega
      walk_at "tocall"
      rename Fr _ _ _ _ => F1
      rename News _ _ _ _ => N1
      refine ih k' (by omega) _ _ _ _ _ _ _ _ _ (P'.less (by omega) (by omega)) ?a1 ?a2 ?a3 ?a4 ?a5 ?a6 ?a7 ?a8 ?a9 ?a10 ?_
      case a1 => exact hlim.keeps F1.keep
      case a2 => exact F1.keep _ _ ho
      case a3 => exact codeRecK hcd F1.keep
      case a4 => exact cellK hv1 F1.keep
      case a5 => exact cellK hv2 F1.keep
      case a6 => exact cellK hv3 F1.keep
      case a7 => exact upList hl F1.keep
      case a8 => omega
      case a9 => omega
      case a10 => omega
      intro h' tk' u kp
      have F2 := frK F1 kp
      have N2 := newsK N1 kp
      clear F1 N1
      have hsh : bl (valD (2 ^ n) ((ns.drop ((L + R) / 2)).take (R - (L + R) / 2))) + ((L + R) / 2 - L) * n ≤ 2 ^ 27 := by
        have h5 := valD_lt (2 ^ n) (Nat.pow_pos (by decide)) ((ns.drop ((L + R) / 2)).take (R - (L + R) / 2)) (fun d hd => hnd d (List.mem_of_mem_drop (List.mem_of_mem_take hd)))
        rw [← Nat.pow_mul] at h5
        have h6 := bl_le.mpr h5
        have h7 : ((ns.drop ((L + R) / 2)).take (R - (L + R) / 2)).length ≤ 100 := by rw [List.length_take, List.length_drop]; omega
        have h8 : n * ((ns.drop ((L + R) / 2)).take (R - (L + R) / 2)).length ≤ 8000 * 100 := Nat.mul_le_mul hn h7
        have h9 : ((L + R) / 2 - L) * n ≤ 100 * 8000 := Nat.mul_le_mul (by omega) hn
        omega
      walk_at "tocall"
      rename Fr _ _ _ _ => F1
      rename News _ _ _ _ => N1
      refine ih k' (by omega) _ _ _ _ _ _ _ _ _ (P'.less (by omega) (by omega)) ?a1 ?a2 ?a3 ?a4 ?a5 ?a6 ?a7 ?a8 ?a9 ?a10 ?_
      case a1 => exact hlim.keeps F1.keep
      case a2 => exact F1.keep _ _ ho
      case a3 => exact codeRecK hcd F1.keep
      case a4 => exact cellK hv1 F1.keep
      case a5 => exact cellK hv2 F1.keep
      case a6 => exact cellK hv3 F1.keep
      case a7 => exact upList hl F1.keep
      case a8 => omega
      case a9 => omega
      case a10 => omega
      intro h3 tk3 u3 kp3
      have F3 := frK F1 kp3
      have N3 := newsK N1 kp3
      clear F1 N1
      walk_at "go"
      have ev : valD (2 ^ n) ((ns.drop ((L + R) / 2)).take (R - (L + R) / 2)) * 2 ^ (((L + R) / 2 - L) * n) + valD (2 ^ n) ((ns.drop L).take ((L + R) / 2 - L)) = valD (2 ^ n) ((ns.drop L).take (R - L)) := by
        have h5 : (ns.drop L).take (R - L) = (ns.drop L).take ((L + R) / 2 - L) ++ (ns.drop ((L + R) / 2)).take (R - (L + R) / 2) := by
          rw [show R - L = ((L + R) / 2 - L) + (R - (L + R) / 2) by omega, List.take_add, List.drop_drop, show L + ((L + R) / 2 - L) = (L + R) / 2 by omega]
        have h6 : ((ns.drop L).take ((L + R) / 2 - L)).length = (L + R) / 2 - L := by rw [List.length_take, List.length_drop]; omega
        rw [h5, valD_append, h6, ← Nat.pow_mul, Nat.mul_comm n, Nat.mul_comm (valD _ _), Nat.add_comm]
      rw [ev]
      exact h _ _ _ F3.keep
noncomputable def digs (n : Nat) : Nat → Nat → List Nat
  | 0, _ => []
  | c + 1, x => x % 2 ^ n :: digs n c (x / 2 ^ n)
theorem digs_len (n : Nat) : ∀ c x, (digs n c x).length = c
  | 0, _ => rfl
  | c + 1, x => by show (digs n c _).length + 1 = _; rw [digs_len n c]
theorem digs_append (n : Nat) : ∀ a b x, digs n (a + b) x = digs n a (x % 2 ^ (a * n)) ++ digs n b (x / 2 ^ (a * n))
  | 0, b, x => by simp [digs]
  | a + 1, b, x => by
    rw [Nat.add_right_comm]
    show x % 2 ^ n :: digs n (a + b) (x / 2 ^ n) = x % 2 ^ ((a + 1) * n) % 2 ^ n :: digs n a (x % 2 ^ ((a + 1) * n) / 2 ^ n) ++ _
    have e : (a + 1) * n = n + a * n := by rw [Nat.add_mul, Nat.one_mul, Nat.add_comm]
    rw [e, Nat.pow_add, Nat.mod_mul_right_mod, digs_append n a b, Nat.div_div_eq_div_mul, Nat.mod_mul_right_div_self]
    rfl
noncomputable def setR (ns : List Nat) (L : Nat) (ds : List Nat) : List Nat := ns.take L ++ ds ++ ns.drop (L + ds.length)
theorem setR_len {ns : List Nat} {L : Nat} {ds : List Nat} (h : L + ds.length ≤ ns.length) : (setR ns L ds).length = ns.length := by
  unfold setR; rw [List.length_append, List.length_append, List.length_take, List.length_drop]; omega
theorem setR_setR {ns : List Nat} {L : Nat} {d1 d2 : List Nat} (h : L + d1.length + d2.length ≤ ns.length) : setR (setR ns L d1) (L + d1.length) d2 = setR ns L (d1 ++ d2) := by
  unfold setR
  have h1 : (ns.take L ++ d1).length = L + d1.length := by rw [List.length_append, List.length_take]; omega
  rw [List.take_append_of_le_length (by rw [h1]; exact Nat.le_refl _), ← h1, List.take_length, List.drop_append, List.drop_of_length_le (l := ns.take L ++ d1) (by omega), h1]
  simp only [List.nil_append, List.length_append, List.append_assoc, List.drop_drop]
  congr 4
  omega
theorem setR_digs {ns : List Nat} {L M R n x : Nat} (h1 : L ≤ M) (h2 : M ≤ R) (h3 : R ≤ ns.length) :
    setR (setR ns L (digs n (M - L) (x % 2 ^ ((M - L) * n)))) M (digs n (R - M) (x / 2 ^ ((M - L) * n))) = setR ns L (digs n (R - L) x) := by
  have e := setR_setR (ns := ns) (L := L) (d1 := digs n (M - L) (x % 2 ^ ((M - L) * n))) (d2 := digs n (R - M) (x / 2 ^ ((M - L) * n))) (by rw [digs_len, digs_len]; omega)
  rw [digs_len, show L + (M - L) = M by omega] at e
  rw [e, show R - L = (M - L) + (R - M) by omega, digs_append]
theorem intsSet : ∀ {vs : List Value} {ns : List Int}, IntsAre vs ns → ∀ (i : Nat) (z : Int) (t : Tok), IntsAre (vs.set i (.int z t)) (ns.set i z)
  | _, _, .nil, i, z, t => by simpa using IntsAre.nil
  | _, _, .cons n u h, 0, z, t => .cons z t h
  | _, _, .cons n u h, i + 1, z, t => .cons n u (intsSet h i z t)
theorem frD {h₀ h h' : Heap} {L D : Addr} {m : Str → Option Value} (F : Fr h₀ L h m) (hL : L ≠ D) (hn : h₀.get? D = none) (k : ∀ b o, b ≠ D → h.get? b = some o → h'.get? b = some o) : Fr h₀ L h' m :=
  ⟨F.ns.at' fun o e => k L o hL e, fun b o e => k b o (by rintro rfl; rw [hn] at e; cases e) (F.keep b o e), F.above⟩
set_option maxHeartbeats 4000000 in
theorem s_i2d {w : World} {mg mb : Str → Option Value} {name : Str} {params : Arguments} {body : List Stmt} {scope : Scope} {pos : Pos} (hst : innerAt 4 = .FunctionDef name params body [] none [] scope none name pos) {qual : Str} {cl : List (Str × Addr)} {doc pm cdv ctv oc : Value} {od : Option Addr} {osl : Array (Option Value)} {f c1 c2 c3 D : Addr}
    {n : Nat} {tn : Tok} (hc1 : cl.lookup (Str.ofString "a_digits") = some c1) (hc2 : cl.lookup (Str.ofString "inner") = some c2) (hc3 : cl.lookup (Str.ofString "n") = some c3) (hn : n ≤ 8000) :
    ∀ (k : Nat) (A : Around) (s : Shared) (x L R : Nat) (t t' t'' : Tok) (vs : List Value) (ns : List Nat) (h₀ : Heap) (Q E : Value → Shared → Prop), Pre w A (k + 1) (3 * k + 10) mg mb h₀ → s.heap.NoLimit →
      s.heap.get? f = some ⟨oc, od, .func (fnX name qual params body scope cl .none .none doc pm none cdv ctv), osl⟩ → s.heap.CodeRec cdv qual →
      s.heap.IsCell c1 (some (.ref D)) → s.heap.IsCell c2 (some (.ref f)) → s.heap.IsCell c3 (some (.int n tn)) → s.heap.IsList D vs.toArray → IntsAre vs (ns.map fun (k : Nat) => (k : Int)) → ns.length ≤ 100 → L < R → R ≤ ns.length → R - L ≤ 2 ^ k → x < 2 ^ ((R - L) * n) →
      (∀ h' tk' vs', (∀ b o, b ≠ D → s.heap.get? b = some o → h'.get? b = some o) → h'.IsList D vs'.toArray → IntsAre vs' ((setR ns L (digs n (R - L) x)).map fun (k : Nat) => (k : Int)) → Q .none { s with heap := h', toks := tk' }) →
      wpAny (model pw w) A (call (.ref f) [.int x t, .int L t', .int R t'']) Q E s := by
  have e : Stmt.FunctionDef _ _ _ _ _ _ _ _ _ _ = Stmt.FunctionDef name params body [] none [] scope none name pos := hst
  injection e with e1 e2 e3 e4 e5 e6 e7 e8 e9 e10
  subst e1 e2 e3 e7
  intro k
  induction k using Nat.strongRecOn with
  | ind k ih =>
    intro A s x L R t t' t'' vs ns h₀ Q E P hlim ho hcd hv1 hv2 hv3 hl hi hlen hLR hR hk hx h
    refine enter_clo (d := k) (u := 3 * k + 7) (binds := [("x", .int x t), ("L", .int L t'), ("R", .int R t'')]) P hlim ho hcd rfl rfl ?_
    intro h₁ F0 P'
    obtain ⟨oD, hD, hDc, nD, hDd⟩ := id hl
    have hDo : ∀ b o, s.heap.get? b = some o → o.data ≠ oD.data → b ≠ D := fun b o e hne q => by subst q; rw [hD] at e; exact hne (by rw [Option.some.inj e])
    have hhid : ∀ b o, b ≠ D → s.heap.get? b = some o → (hideAll s.heap [D]).get? b = some o := fun b o hb e => hideAll_get _ e (by simpa using hb)
    have F : Fr (hideAll s.heap [D]) s.heap.objs.size h₁ _ := ⟨F0.ns, fun b o e => F0.keep b o (of_hideAll _ e), Nat.le_of_eq (hideAll_size _ _)⟩
    have N : News (hideAll s.heap [D]) s.heap.objs.size h₁ [(D, oD)] := by
      intro p hp
      rw [List.mem_singleton.mp hp]
      exact ⟨F0.keep _ _ hD, Nat.ne_of_lt (Heap.lt_size hD), hideAll_none _ (by simp)⟩
    have gf := hhid _ _ (hDo _ _ ho (by rw [hDd]; intro q; cases q)) ho
    have gc1 : (hideAll s.heap [D]).IsCell c1 (some (.ref D)) := by obtain ⟨o, e, hd⟩ := hv1; exact ⟨o, hhid _ _ (hDo _ _ e (by rw [hd, hDd]; intro q; cases q)) e, hd⟩
    have gc2 : (hideAll s.heap [D]).IsCell c2 (some (.ref f)) := by obtain ⟨o, e, hd⟩ := hv2; exact ⟨o, hhid _ _ (hDo _ _ e (by rw [hd, hDd]; intro q; cases q)) e, hd⟩
    have gc3 : (hideAll s.heap [D]).IsCell c3 (some (.int n tn)) := by obtain ⟨o, e, hd⟩ := hv3; exact ⟨o, hhid _ _ (hDo _ _ e (by rw [hd, hDd]; intro q; cases q)) e, hd⟩
    have gcd : (hideAll s.heap [D]).CodeRec cdv qual := by obtain ⟨c, o, us, tt, e1, e2, e3, e4⟩ := hcd; exact ⟨c, o, us, tt, e1, hhid _ _ (hDo _ _ e2 (by rw [e3, hDd]; intro q; cases q)) e2, e3, e4⟩
    have hh := P'.hh
    have glim : (hideAll s.heap [D]).NoLimit := by obtain ⟨mc, ⟨o, es, ep, e, hd, r⟩, q⟩ := hlim; exact ⟨mc, ⟨o, es, ep, hhid _ _ (hDo _ _ e (by rw [hd, hDd]; intro q; cases q)) e, hd, r⟩, q⟩
    walk_at "toite"
    by_cases hb : L + 1 = R
    · rw [if_pos (by rw [beq_iff_eq]; omega)]
      repeat ((fail_if_success (with_reducible show wpAny _ _ (setItem _ _ _) _ _ _)); walk1)
      have hlv : vs.length = ns.length := by rw [hi.length, List.length_map]
      refine wpAny_setItem_list (upList hl (fun b o e => ?_)) (by omega) (by omega) (by rw [List.size_toArray]; omega) ?_
      · exact F0.keep b o e
      intro h' hl' hs'
      have F' := F.change hs' (N _ (.head _)).2.1 (hideAll_none _ (by simp))
      have N' : News (hideAll s.heap [D]) s.heap.objs.size h' [] := News.nil
      walk_at "go"
      rw [Int.toNat_natCast, List.setIfInBounds_toArray] at hl'
      show Q .none _
      refine h _ _ _ (fun b o hb e => F'.keep b o (hhid b o hb e)) hl' ?_
      have ex : setR ns L (digs n (R - L) x) = ns.set L x := by
        rw [show R - L = 1 by omega]
        rw [show R - L = 1 by omega, Nat.one_mul] at hx
        show setR ns L [x % 2 ^ n] = _
        rw [Nat.mod_eq_of_lt hx, List.set_eq_take_append_cons_drop, if_pos (by omega)]
        unfold setR
        simp
      rw [ex, List.map_set]
      exact intsSet hi L _ _
    · rw [if_neg (by rw [beq_iff_eq]; omega)]
      obtain ⟨k', rfl⟩ : ∃ k', k = k' + 1 := ⟨k - 1, by
        rcases Nat.eq_zero_or_pos k with hk0 | hk0
        · subst hk0; rw [Nat.pow_zero] at hk; omega
        · omega⟩
      rw [Nat.pow_succ] at hk
      have hmL : L ≤ (L + R) / 2 := by omega
      have hmul : bl ((L + R) / 2 - L) + bl n ≤ 2 ^ 27 := by
        have h5 : (L + R) / 2 - L < 2 ^ 100 := by have : (100 : Nat) < 2 ^ 100 := by decide
                                                  omega
        have h6 : n < 2 ^ 100 := by have : (8000 : Nat) < 2 ^ 100 := by decide
                                    omega
        have := bl_le.mpr h5
        have := bl_le.mpr h6
        omega
      have hR' : (R - L) * n = ((L + R) / 2 - L) * n + (R - (L + R) / 2) * n := by rw [← Nat.add_mul]; congr 1; omega
      have hxu : x / 2 ^ (((L + R) / 2 - L) * n) < 2 ^ ((R - (L + R) / 2) * n) := by
        refine Nat.div_lt_of_lt_mul ?_
        rw [← Nat.pow_add, ← hR']; exact hx
      have hsh : bl (x / 2 ^ (((L + R) / 2 - L) * n)) + ((L + R) / 2 - L) * n ≤ 2 ^ 27 := by
        have := bl_le.mpr hxu
        have h9 : ((L + R) / 2 - L) * n ≤ 100 * 8000 := Nat.mul_le_mul (by omega) hn
        have h10 : (R - (L + R) / 2) * n ≤ 100 * 8000 := Nat.mul_le_mul (by omega) hn
        omega
      walk_at "tocall"
      rename Fr _ _ _ _ => F1
      rename News _ _ _ _ => N1
      have hLD : s.heap.objs.size ≠ D := (N1 _ (.head _)).2.1.symm
      refine ih k' (by omega) _ _ _ _ _ _ _ _ vs ns _ _ _ (P'.less (by omega) (by omega)) ?a1 ?a2 ?a3 ?a4 ?a5 ?a6 ?a7 ?a8 ?a9 ?b1 ?b2 ?b3 ?b4 ?_
      case a1 => exact glim.keeps F1.keep
      case a2 => exact F1.keep _ _ gf
      case a3 => exact codeRecK gcd F1.keep
      case a4 => exact cellK gc1 F1.keep
      case a5 => exact cellK gc2 F1.keep
      case a6 => exact cellK gc3 F1.keep
      case a7 => exact ⟨oD, (N1 _ (.head _)).1, hDc, nD, hDd⟩
      case a8 => exact hi
      case a9 => exact hlen
      case b1 => omega
      case b2 => omega
      case b3 => omega
      case b4 => exact Nat.mod_lt _ (Nat.pow_pos (by decide))
      intro h' tk' vs' kp hl' hi'
      have F2 := frD F1 hLD (hideAll_none _ (by simp)) kp
      obtain ⟨o2, hD2, hDc2, nD2, hDd2⟩ := hl'
      have N2 : News (hideAll s.heap [D]) s.heap.objs.size h' [(D, o2)] := by
        intro p hp
        rw [List.mem_singleton.mp hp]
        exact ⟨hD2, hLD.symm, hideAll_none _ (by simp)⟩
      clear F1 N1
      have hd1 : (digs n ((L + R) / 2 - L) (x % 2 ^ (((L + R) / 2 - L) * n))).length = (L + R) / 2 - L := digs_len _ _ _
      have hl1 : (setR ns L (digs n ((L + R) / 2 - L) (x % 2 ^ (((L + R) / 2 - L) * n)))).length = ns.length := setR_len (by rw [hd1]; omega)
      walk_at "tocall"
      rename Fr _ _ _ _ => F1
      rename News _ _ _ _ => N1
      refine ih k' (by omega) _ _ _ _ _ _ _ _ vs' (setR ns L (digs n ((L + R) / 2 - L) (x % 2 ^ (((L + R) / 2 - L) * n)))) _ _ _ (P'.less (by omega) (by omega)) ?a1 ?a2 ?a3 ?a4 ?a5 ?a6 ?a7 ?a8 ?a9 ?b1 ?b2 ?b3 ?b4 ?_
      case a1 => exact glim.keeps F1.keep
      case a2 => exact F1.keep _ _ gf
      case a3 => exact codeRecK gcd F1.keep
      case a4 => exact cellK gc1 F1.keep
      case a5 => exact cellK gc2 F1.keep
      case a6 => exact cellK gc3 F1.keep
      case a7 => exact ⟨o2, (N1 _ (.head _)).1, hDc2, nD2, hDd2⟩
      case a8 => exact hi'
      case a9 => rw [hl1]; exact hlen
      case b1 => omega
      case b2 => rw [hl1]; exact hR
      case b3 => omega
      case b4 => exact hxu
      intro h3 tk3 vs3 kp3 hl3 hi3
      have F3 := frD F1 hLD (hideAll_none _ (by simp)) kp3
      have N3 : News (hideAll s.heap [D]) s.heap.objs.size h3 [] := News.nil
      clear F1 N1
      walk_at "go"
      show Q .none _
      refine h _ _ _ (fun b o hb e => F3.keep b o (hhid b o hb e)) hl3 ?_
      have e3 := setR_digs (ns := ns) (n := n) (x := x) (L := L) (M := (L + R) / 2) (R := R) (by omega) (by omega) hR
      rw [← e3]
      exact hi3
theorem enter_cells {w : World} {A : Around} {d u : Nat} {mg mb : Str → Option Value} {s : Shared} {f : Addr} {name : Str} {params : Arguments} {body : List Stmt} {scope : Scope} {pm cd doc oc : Value} {od : Option Addr} {osl : Array (Option Value)}
    {args : List Value} {binds : List (Str × Value)} {Q E : Value → Shared → Prop}
    (P : Pre w A (d + 1) (u + 3) mg mb s.heap)
    (hl : (K w.params).lookup f = some ⟨oc, od, .func (docDef name params body scope pm cd doc), osl⟩)
    (hcd : codeIn (K w.params) cd name = true)
    (hbind : bindArgs (docDef name params body scope pm cd doc) ⟨args, []⟩ = pure binds)
    (hkind : ∀ n, ∀ x ∈ binds, scope.names.lookup x.1 = some .local ∨ (scope.names.lookup x.1 = some .cell ∧ ((cellsFrom n scope.names []).lookup x.1).isSome = true))
    (hnd : ((cellsFrom 0 scope.names []).map (·.1)).Nodup)
    (h : ∀ h₁ tk cells, Fr s.heap s.heap.objs.size h₁ (bindL (envOfC name scope s.heap.objs.size f cd).kindOf binds fun _ => none) → News s.heap s.heap.objs.size h₁ cells →
      CellsAre (bindC (envOfC name scope s.heap.objs.size f cd).kindOf binds fun _ => none) (cellsFrom (s.heap.objs.size + 1) scope.names []) cells →
      Pre w (A.deeper (envOfC name scope s.heap.objs.size f cd)) d u mg mb s.heap →
      wpAny (model pw w) (A.deeper (envOfC name scope s.heap.objs.size f cd)) (execs body (envOfC name scope s.heap.objs.size f cd))
        (fun fl s' => Q (match fl with | .ret v => v | _ => .none) s') (fun _ _ => False)
        { s with heap := h₁, toks := tk })
    (hco : scope.isCoroutine = false := by rfl) (hgen : scope.isGenerator = false := by rfl) (hk : scope.kind = .function := by rfl) :
    wpAny (model pw w) A (call (.ref f) args) Q E s := by
  refine wpAny_call ?_
  have r := P.room
  have uu := P.units
  refine codeAny_call_function (fd := docDef name params body scope pm cd doc) (body := body) (Nat.lt_of_le_of_lt (Nat.le_add_right _ _) P.room) (P.K _ _ hl) rfl hco hgen rfl (codeRec_of P.K hcd) (BindsTo.of_eq hbind _ _ _ _ ?_)
  refine wpAny_newFunctionEnv_cells hk (hkind _) fun env' he s' x => ?_
  subst he
  refine ⟨P.T.nolimit.keeps x.toInCall.keep, codeAny_func ?_⟩
  obtain ⟨h₁, tk, rfl, _⟩ := x.done
  have hk₁ := x.toInCall.keep
  obtain ⟨cells, NC, Y⟩ := Cl.news (h₀ := s.heap) (Nat.le_refl _) fun n c hm => ⟨x.cell n c (lookup_of_mem_nodup (cellsFrom_names scope.names 0 (s.heap.objs.size + 1) [] [] rfl ▸ hnd) hm), x.above n c hm⟩
  refine wpAny_mono (h h₁ tk cells ⟨x.toInCall.ns, hk₁, Nat.le_refl _⟩ NC Y ⟨P.hh, by rw [depth_deeper]; omega, by rw [units_deeper]; omega, P.K, P.T⟩) (fun fl s' hq => ?_) (fun _ _ e => e.elim)
  exact hq
/-- a code's table: bare, or with the one inner code in it -/
noncomputable def TabOk (T : Addr) (pos : Pos) (qual : Str) (h : Heap) : Prop :=
  h.get? T = some (tabObj #[]) ∨ ∃ c', h.get? T = some (tabObj #[rawInt pos.line, rawInt pos.col, .ref c']) ∧ h.CodeRec (.ref c') qual
theorem TabOk.keep {T : Addr} {pos : Pos} {qual : Str} {h h' : Heap} (x : TabOk T pos qual h) (k : Keeps h h') : TabOk T pos qual h' := by
  rcases x with x | ⟨c', x, y⟩
  · exact .inl (k _ _ x)
  · exact .inr ⟨c', k _ _ x, codeRecK y k⟩
noncomputable def posOf (i : Nat) : Pos := match innerAt i with
  | .FunctionDef _ _ _ _ _ _ _ _ _ p => p
  | _ => ⟨0, 0, 0, 0⟩
section
variable {M : Model} {A : Around} {E : Value → Shared → Prop} {s : Shared} {h₀ : Heap} {L a c P : Addr} {m mg mb : Str → Option Value} {cn : Str} {cs : Scope} {ccd : Value} {cl : List (Str × Addr)} {news : List (Addr × Obj)} {g : Obj → List (Addr × Obj)}
  {p : Program} {loose : List Str} {mean : ExcName → Option Value} {name qual : Str} {params : Arguments} {body : List Stmt} {scope : Scope} {pos : Pos} {firstLine : Nat} {clos : List (Str × Addr)}
/-- where the inner code's object stands: new in the ledger, or in the base -/
noncomputable def CodeAt (h₀ : Heap) (xs : List (Addr × Obj)) (c' : Addr) (qual : Str) : Prop :=
  (∃ oc vs t, (c', oc) ∈ xs ∧ oc.data = .fields vs ∧ vs[1]? = some (.str qual t)) ∨ h₀.CodeRec (.ref c') qual
theorem CodeAt.rec {h₀ h : Heap} {L : Addr} {m : Str → Option Value} {xs news : List (Addr × Obj)} {c' : Addr} {qual : Str} (x : CodeAt h₀ xs c' qual) (F : Fr h₀ L h m) (N : News h₀ L h news) (hx : ∀ p ∈ xs, p ∈ news) : h.CodeRec (.ref c') qual := by
  rcases x with ⟨oc, vs, t, hm, hd, hv⟩ | x
  · exact codeRec_news N (hx _ hm) hd hv
  · exact codeRecK x F.keep
noncomputable def TabIs (T : Obj) (pos : Pos) (c' : Addr) : Prop := T = tabObj #[rawInt pos.line, rawInt pos.col, .ref c']
/-- making the inner function, whichever way the table stands -/
theorem nest_any {Q : Value → Shared → Prop} {pT : Obj} {rest : List (Addr × Obj)} (F : Fr h₀ L s.heap m) (N : News h₀ L s.heap ((P, pT) :: rest)) (T : Top p loose mean mg mb h₀) (C : CodeHd h₀ c P) (hcd : ccd = .ref c)
    (hap : ∀ q ∈ rest, q.1 ≠ P) (hT : pT = tabObj #[] ∨ ∃ c', pT = tabObj #[rawInt pos.line, rawInt pos.col, .ref c'] ∧ h₀.CodeRec (.ref c') qual)
    (hcl : closureFor scope (envX cn cs L a ccd cl) = pure clos)
    (h : ∀ f c' ctv doc h' tk xs, Fr h₀ L h' m → News h₀ L h' ((f, fnMade name qual params body scope clos doc ((mg "__name__").getD .none) c' ctv) :: (P, tabObj #[rawInt pos.line, rawInt pos.col, .ref c']) :: (rest ++ xs)) → CodeAt h₀ xs c' qual →
      (∀ q ∈ rest, q.1 ≠ f) → P ≠ f → (∀ q ∈ rest, ∀ x ∈ xs, x.1 ≠ q.1) → Q (.ref f) { s with heap := h', toks := tk }) :
    wpAny M A (makeFunction name qual params (.stmts body) scope (envX cn cs L a ccd cl) [] [] [] pos firstLine) Q E s := by
  have hP := (N _ (.head _)).1
  rcases hT with rfl | ⟨c0, rfl, hr⟩
  · refine nest_K F N T C hcd (ps := #[]) (g := fun o => (P, o) :: rest) (UpdF.head hap) trivial rfl hcl ?_
    intro f c' oc vs t ctv doc h' tk F' N' hd hv hlt hcf
    refine h f c' ctv doc h' tk [(c', oc)] F' (fun q hq => N' q ?_) (.inl ⟨oc, vs, t, .head _, hd, hv⟩) ?_ ?_ ?_
    · rcases List.mem_cons.mp hq with e | hq
      · exact e ▸ .head _
      · rcases List.mem_cons.mp hq with e | hq
        · exact e ▸ .tail _ (.tail _ (.head _))
        · rcases List.mem_append.mp hq with hq | hq
          · exact .tail _ (.tail _ (.tail _ hq))
          · rw [List.mem_singleton.mp hq]; exact .tail _ (.head _)
    · intro q hq; exact Nat.ne_of_lt (Nat.lt_trans (hlt q (.tail _ hq)) hcf)
    · exact Nat.ne_of_lt (Nat.lt_trans (hlt _ (.head _)) hcf)
    · intro q hq x hx
      rw [List.mem_singleton.mp hx]
      exact Nat.ne_of_gt (hlt q (.tail _ hq))
  · refine nestHit_K F N T C hcd (ps := #[rawInt pos.line, rawInt pos.col, .ref c0]) (.head _) (by simp [TriplesOk, rawInt]) (c' := c0) (by simp [codeAmong, rawInt]) hcl ?_
    intro f ctv doc h' tk F' N' hlt
    refine h f c0 ctv doc h' tk [] F' (by rw [List.append_nil]; exact N') (.inr hr) ?_ ?_ ?_
    · intro q hq; exact Nat.ne_of_lt (hlt q (.tail _ hq))
    · exact Nat.ne_of_lt (hlt _ (.head _))
    · intro q hq x hx; cases hx
end
section
local macro_rules | `(tactic| walk_at "eval Name") => `(tactic| ((with_reducible show wpAny _ _ (eval (Expr.Name _ _) (envX _ _ _ _ _ _)) _ _ _); (refine' nameX_C ?hN ?hc ?hm ?hd ?_ ?hk ?hx ?hb); (case hk => exact rfl); (case hx => kernel_rfl); (case hb => decide +kernel); (case hN => with_reducible assumption); (case hc => with_reducible assumption); (case hm => k_mem); (case hd => with_reducible assumption)))
local macro_rules | `(tactic| walk_at "callWith ref") => `(tactic| ((with_reducible refine' callWith_F ?k1 ?_ ?he ?hp); (case k1 => exact FnAt.of (by with_reducible assumption) (by k_mem)); (case he => exact rfl); (case hp => exact rfl)))
local macro_rules | `(tactic| walk_at "And") => `(tactic| ((with_reducible show FnAt _ _ ∧ wpAny _ _ _ _ _ _); (refine ⟨FnAt.of (by with_reducible assumption) (by k_mem), ?_⟩); (try dsimp only [List.nil_append])))
noncomputable def qD2I : Str := Str.ofString "_digits2int" ++ ".<locals>." ++ Str.ofString "inner"
theorem envOfC_eq (n : Str) (sc : Scope) (L a : Addr) (cd : Value) : envOfC n sc L a cd = envX n sc L a cd (cellsFrom (L + 1) sc.names []) := rfl
set_option maxHeartbeats 4000000 in
theorem s_digits2int {w : World} {A : Around} {mg mb : Str → Option Value} {g₀ : Heap} {lo : List Str} {mean : ExcName → Option Value} {s : Shared} {a : Addr} {vs : List Value} {ns : List Nat} {n : Nat} {t : Tok} {Q E : Value → Shared → Prop}
    (P : Pre w A 12 100 mg mb g₀) (TP : Top topProg lo mean mg mb g₀) (kg : Keeps g₀ s.heap) (h37 : g₀.get? 37 = none) (hT : TabOk 37 (posOf 5) qD2I s.heap)
    (hl : s.heap.IsList a vs.toArray) (hi : IntsAre vs (ns.map fun (k : Nat) => (k : Int))) (hnd : ∀ k ∈ ns, k < 2 ^ n) (hn : n ≤ 8000) (hlen : ns.length ≤ 64)
    (h : ∀ h' tk' u, (∀ b o, b ≠ 37 → s.heap.get? b = some o → h'.get? b = some o) → TabOk 37 (posOf 5) qD2I h' → Q (.int ((valD (2 ^ n) ns : Nat) : Int) u) { s with heap := h', toks := tk' }) :
    wpAny (model pw w) A (call (.ref 42) [.ref a, .int n t]) Q E s := by
  refine enter_cells (binds := [("digits", .ref a), ("n", .int n t)]) (P.keeps kg) rfl rfl rfl ?hkind ?hnd ?_
  case hkind =>
    intro n x hx
    rcases List.mem_cons.mp hx with rfl | hx
    · exact .inr ⟨by kernel_rfl, by kernel_rfl⟩
    · rw [List.mem_singleton.mp hx]; exact .inr ⟨by kernel_rfl, by kernel_rfl⟩
  case hnd => decide +kernel
  intro h₁ tk cells F0 N0 Y P'
  obtain ⟨pT, hpT, hpT2⟩ : ∃ pT, s.heap.get? 37 = some pT ∧ (pT = tabObj #[] ∨ ∃ c', pT = tabObj #[rawInt (posOf 5).line, rawInt (posOf 5).col, .ref c'] ∧ s.heap.CodeRec (.ref c') qD2I) := by
    rcases hT with x | ⟨c', x, y⟩
    · exact ⟨_, x, .inl rfl⟩
    · exact ⟨_, x, .inr ⟨c', rfl, y⟩⟩
  obtain ⟨o1, o2, o3, rfl, hd1, hd2, hd3⟩ := Y.three
  replace hd1 : o1.data = .cell none := hd1
  replace hd2 : o2.data = .cell (some (.int n t)) := hd2
  replace hd3 : o3.data = .cell (some (.ref a)) := hd3
  clear Y
  have hkeep : Keeps g₀ (hideAll s.heap [37]) := fun b o e => hideAll_get _ (kg b o e) (by intro q; rw [List.mem_singleton.mp q, h37] at e; cases e)
  have F : Fr (hideAll s.heap [37]) s.heap.objs.size h₁ _ := ⟨F0.ns, fun b o e => F0.keep b o (of_hideAll _ e), Nat.le_of_eq (hideAll_size _ _)⟩
  have N : News (hideAll s.heap [37]) s.heap.objs.size h₁ ((37, pT) :: [(s.heap.objs.size + 1 + 1 + 1, o1), (s.heap.objs.size + 1 + 1, o2), (s.heap.objs.size + 1, o3)]) := by
    intro p hp
    rcases List.mem_cons.mp hp with rfl | hp
    · exact ⟨F0.keep _ _ hpT, Nat.ne_of_lt (Heap.lt_size hpT), hideAll_none _ (by simp)⟩
    · exact ⟨(N0 p hp).1, (N0 p hp).2.1, by
        cases q : (hideAll s.heap [37]).get? p.1 with
        | none => rfl
        | some o => have := of_hideAll _ q; rw [(N0 p hp).2.2] at this; cases this⟩
  have h37L : 37 < s.heap.objs.size := Heap.lt_size hpT
  have X : (K w.params).In (hideAll s.heap [37]) := P.K.keeps hkeep
  have T : TopRead q loose mg mb (hideAll s.heap [37]) := P.T.keeps hkeep
  have TP' := TP.keeps hkeep
  have hh := P'.hh
  have C : CodeHd (hideAll s.heap [37]) 41 37 := ⟨_, _, _, _, _, _, _, _, _, X 41 _ rfl, rfl, rfl, rfl, rfl, rfl, rfl, rfl, rfl, by decide⟩
  have hap : ∀ q ∈ [(s.heap.objs.size + 1 + 1 + 1, o1), (s.heap.objs.size + 1 + 1, o2), (s.heap.objs.size + 1, o3)], q.1 ≠ 37 := by
    intro q hq
    simp only [List.mem_cons, List.not_mem_nil, or_false] at hq
    rcases hq with rfl | rfl | rfl <;> (show (_ : Nat) ≠ 37; omega)
  have hT2 : pT = tabObj #[] ∨ ∃ c', pT = tabObj #[rawInt (posOf 5).line, rawInt (posOf 5).col, .ref c'] ∧ (hideAll s.heap [37]).CodeRec (.ref c') qD2I := by
    rcases hpT2 with x | ⟨c', x, c, o, us, tt, e1, e2, e3, e4⟩
    · exact .inl x
    · refine .inr ⟨c', x, c, o, us, tt, e1, hideAll_get _ e2 ?_, e3, e4⟩
      intro q
      rw [List.mem_singleton.mp q, hpT, x] at e2
      cases e2; cases e3; cases e4
  clear F0 N0
  walk1
  refine nestDef_K rfl rfl rfl ?_
  refine nest_any (qual := qD2I) (pos := posOf 5) F N TP' C rfl hap hT2 rfl ?_
  intro f c' ctv doc h2 tk2 xs F1 N1 hcr hfr hPf hxs
  clear F N
  rw [envOfC_eq] at P' hh ⊢
  have q1 : ∀ L : Nat, (cellsFrom (L + 1) [(Str.ofString "digits", NameKind.cell), (Str.ofString "n", NameKind.cell), (Str.ofString "inner", NameKind.cell), (Str.ofString "len", NameKind.globalImplicit)] []).lookup (Str.ofString "digits") = some (L + 1) := fun L => by kernel_rfl
  have q2 : ∀ L : Nat, (cellsFrom (L + 1) [(Str.ofString "digits", NameKind.cell), (Str.ofString "n", NameKind.cell), (Str.ofString "inner", NameKind.cell), (Str.ofString "len", NameKind.globalImplicit)] []).lookup (Str.ofString "n") = some (L + 1 + 1) := fun L => by kernel_rfl
  have q3 : ∀ L : Nat, (cellsFrom (L + 1) [(Str.ofString "digits", NameKind.cell), (Str.ofString "n", NameKind.cell), (Str.ofString "inner", NameKind.cell), (Str.ofString "len", NameKind.globalImplicit)] []).lookup (Str.ofString "inner") = some (L + 1 + 1 + 1) := fun L => by kernel_rfl
  replace q1 := q1 s.heap.objs.size
  replace q2 := q2 s.heap.objs.size
  replace q3 := q3 s.heap.objs.size
  dsimp only at q1 q2 q3 P' hh ⊢
  generalize cellsFrom (s.heap.objs.size + 1) [(Str.ofString "digits", NameKind.cell), (Str.ofString "n", NameKind.cell), (Str.ofString "inner", NameKind.cell), (Str.ofString "len", NameKind.globalImplicit)] [] = clx at q1 q2 q3 P' hh ⊢
  have u1 : f ≠ s.heap.objs.size + 1 + 1 + 1 := fun e => hfr _ (.head _) e.symm
  refine storeX_C (c := s.heap.objs.size + 1 + 1 + 1) F1 N1 q3 (UpdF.tail u1 (UpdF.tail (hap _ (.head _)).symm (UpdF.head ?u3))) hd1 ?_
  case u3 =>
    intro q hq
    rcases List.mem_cons.mp hq with rfl | hq
    · show (_ : Nat) ≠ _; omega
    · rcases List.mem_cons.mp hq with rfl | hq
      · show (_ : Nat) ≠ _; omega
      · exact hxs _ (.head _) q hq
  intro h3 o1' F N hd1'
  have gl : (hideAll s.heap [37]).IsList a vs.toArray := by
    obtain ⟨o, e, hc, r⟩ := hl
    refine ⟨o, hideAll_get _ e ?_, hc, r⟩
    intro q
    rw [List.mem_singleton.mp q, hpT] at e
    cases e
    rcases hpT2 with rfl | ⟨c', rfl, _⟩ <;> cases hc
  have hcr3 : h3.CodeRec (.ref c') qD2I := hcr.rec F N (fun p hp => .tail _ (.tail _ (.tail _ (.tail _ (.tail _ hp)))))
  have hT4 : TabOk 37 (posOf 5) qD2I h3 := .inr ⟨c', (N _ (.tail _ (.head _))).1, hcr3⟩
  have hvl : vs.length = ns.length := by rw [hi.length, List.length_map]
  repeat ((fail_if_success (with_reducible show wpAny _ _ (truthy _) _ _ _)); walk1)
  refine wpAny_truthy_list (upList gl F.keep) (by rw [List.size_toArray]; omega) ?_
  by_cases hns : ns = []
  · subst hns
    obtain rfl : vs = [] := List.length_eq_zero_iff.mp (by simpa using hvl)
    rw [if_neg (by simp)]
    walk_at "go"
    show Q (.int 0 _) _
    exact h _ _ _ (fun b o hb e => F.keep b o (hideAll_get _ e (by simpa using hb))) hT4
  · have hne : vs ≠ [] := by rintro rfl; exact hns (List.length_eq_zero_iff.mp (by simpa using hvl.symm))
    rw [if_pos (by simp [hne])]
    repeat ((fail_if_success (with_reducible show FnAt _ _ ∧ _)); walk1)
    refine ⟨FnAt.of N (.head _), ?_⟩
    rename Fr _ _ _ _ => F5
    rename News _ _ _ _ => N5
    rw [List.length_map]
    have hpos : 0 < ns.length := List.length_pos_iff.mpr hns
    have hfn := (N5 _ (.head _)).1
    refine s_d2i rfl (cl := _) (c1 := s.heap.objs.size + 1) (c2 := s.heap.objs.size + 1 + 1 + 1) (c3 := s.heap.objs.size + 1 + 1) (D := a) (vs := vs) (ns := ns) (n := n) (tn := t) ?l1 ?l2 ?l3 hi hnd hn (by omega) 7 _ _ 0 ns.length _ _ _ _ _ (P'.less (by decide) (by decide)) (T.nolimit.keeps F5.keep) hfn ?a1 ?a2 ?a3 ?a4 (upList gl F5.keep) hpos (Nat.le_refl _) (by omega) ?_
    case l1 => kernel_rfl
    case l2 => kernel_rfl
    case l3 => kernel_rfl
    case a1 => exact hcr.rec F5 N5 (fun p hp => .tail _ (.tail _ (.tail _ (.tail _ (.tail _ hp)))))
    case a2 => exact ⟨_, (N5 _ (.tail _ (.tail _ (.tail _ (.tail _ (.head _)))))).1, hd3⟩
    case a3 => exact ⟨_, (N5 _ (.tail _ (.tail _ (.head _)))).1, hd1'⟩
    case a4 => exact ⟨_, (N5 _ (.tail _ (.tail _ (.tail _ (.head _))))).1, hd2⟩
    intro h6 tk6 u6 kp
    rw [Nat.sub_zero, List.drop_zero, List.take_length]
    exact h _ _ _ (fun b o hb e => kp b o (F5.keep b o (hideAll_get _ e (by simpa using hb)))) (.inr ⟨c', kp _ _ (N5 _ (.tail _ (.head _))).1, codeRecK (hcr.rec F5 N5 (fun p hp => .tail _ (.tail _ (.tail _ (.tail _ (.tail _ hp)))))) kp⟩)
noncomputable def qI2D : Str := Str.ofString "_int2digits" ++ ".<locals>." ++ Str.ofString "inner"
theorem mul_list_new {prog : Program} {w : World} {A : Around} {E : Value → Shared → Prop} {s : Shared} {h₀ : Heap} {L : Addr} {m : Str → Option Value} {news : List (Addr × Obj)} {l : Addr} {vs : List Value} {ns : List Int} {x : Int} {u : Tok} {Q : Value → Shared → Prop}
    (F : Fr h₀ L s.heap m) (N : News h₀ L s.heap news) (hl : s.heap.IsList l vs.toArray) (hc : IntsAre vs ns) (hlo : -(2 ^ 63 : Int) ≤ x) (hhi : x < 2 ^ 63) (hsz : vs.length * x.toNat ≤ 2 ^ 24)
    (h : ∀ D h' oD kD, Fr h₀ L h' m → News h₀ L h' ((D, oD) :: news) → oD.cls = .type "list" → oD.data = .seq (List.replicate x.toNat vs).flatten.toArray kD → (∀ p ∈ news, p.1 < D) → Q (.ref D) { s with heap := h' }) :
    wpAny (model prog w) A (binaryOp .Mult (.ref l) (.int x u)) Q E s := by
  refine mul_list_is F N hl hc.carried hlo hhi hsz fun h' F' N' hfr hl' _ => ?_
  obtain ⟨oD, eD, cD, nD, dD⟩ := hl'
  refine h _ h' oD nD F' (fun p hp => ?_) cD dD fun p hp => Heap.lt_size (N p hp).1
  rcases List.mem_cons.mp hp with rfl | hp
  · exact ⟨eD, Nat.ne_of_gt F.ns.lt, hfr⟩
  · exact N' p hp
theorem zeros_are (t : Tok) : ∀ k : Nat, IntsAre (List.replicate k [Value.int 0 t]).flatten ((List.replicate k 0).map fun (k : Nat) => (k : Int))
  | 0 => .nil
  | k + 1 => .cons 0 t (zeros_are t k)
set_option maxHeartbeats 4000000 in
theorem s_int2digits {w : World} {A : Around} {mg mb : Str → Option Value} {g₀ : Heap} {lo : List Str} {mean : ExcName → Option Value} {s : Shared} {a n : Nat} {t t' : Tok} {Q E : Value → Shared → Prop}
    (P : Pre w A 12 100 mg mb g₀) (TP : Top topProg lo mean mg mb g₀) (kg : Keeps g₀ s.heap) (h30 : g₀.get? 30 = none) (hT : TabOk 30 (posOf 4) qI2D s.heap)
    (hn : n ≤ 8000) (hn0 : 0 < n) (ha : a < 2 ^ (64 * n))
    (h : ∀ h' tk' D vs', (∀ b o, b ≠ 30 → s.heap.get? b = some o → h'.get? b = some o) → TabOk 30 (posOf 4) qI2D h' → s.heap.get? D = none → h'.IsList D vs'.toArray →
      IntsAre vs' ((digs n ((bl a + n - 1) / n) a).map fun (k : Nat) => (k : Int)) → Q (.ref D) { s with heap := h', toks := tk' }) :
    wpAny (model pw w) A (call (.ref 35) [.int a t, .int n t']) Q E s := by
  refine enter_cells (binds := [("a", .int a t), ("n", .int n t')]) (P.keeps kg) rfl rfl rfl ?hkind ?hnd ?_
  case hkind =>
    intro n x hx
    rcases List.mem_cons.mp hx with rfl | hx
    · exact .inl (by kernel_rfl)
    · rw [List.mem_singleton.mp hx]; exact .inr ⟨by kernel_rfl, by kernel_rfl⟩
  case hnd => decide +kernel
  intro h₁ tk cells F0 N0 Y P'
  obtain ⟨pT, hpT, hpT2⟩ : ∃ pT, s.heap.get? 30 = some pT ∧ (pT = tabObj #[] ∨ ∃ c', pT = tabObj #[rawInt (posOf 4).line, rawInt (posOf 4).col, .ref c'] ∧ s.heap.CodeRec (.ref c') qI2D) := by
    rcases hT with x | ⟨c', x, y⟩
    · exact ⟨_, x, .inl rfl⟩
    · exact ⟨_, x, .inr ⟨c', rfl, y⟩⟩
  obtain ⟨o1, o2, o3, rfl, hd1, hd2, hd3⟩ := Y.three
  replace hd1 : o1.data = .cell none := hd1
  replace hd2 : o2.data = .cell none := hd2
  replace hd3 : o3.data = .cell (some (.int n t')) := hd3
  clear Y
  have hkeep : Keeps g₀ (hideAll s.heap [30]) := fun b o e => hideAll_get _ (kg b o e) (by intro q; rw [List.mem_singleton.mp q, h30] at e; cases e)
  have F : Fr (hideAll s.heap [30]) s.heap.objs.size h₁ (fun y => if y = Str.ofString "a" then some (.int a t) else none) := ⟨F0.ns, fun b o e => F0.keep b o (of_hideAll _ e), Nat.le_of_eq (hideAll_size _ _)⟩
  have N : News (hideAll s.heap [30]) s.heap.objs.size h₁ ((30, pT) :: [(s.heap.objs.size + 1 + 1 + 1, o1), (s.heap.objs.size + 1 + 1, o2), (s.heap.objs.size + 1, o3)]) := by
    intro p hp
    rcases List.mem_cons.mp hp with rfl | hp
    · exact ⟨F0.keep _ _ hpT, Nat.ne_of_lt (Heap.lt_size hpT), hideAll_none _ (by simp)⟩
    · exact ⟨(N0 p hp).1, (N0 p hp).2.1, by
        cases q : (hideAll s.heap [30]).get? p.1 with
        | none => rfl
        | some o => have := of_hideAll _ q; rw [(N0 p hp).2.2] at this; cases this⟩
  have h30L : 30 < s.heap.objs.size := Heap.lt_size hpT
  have X : (K w.params).In (hideAll s.heap [30]) := P.K.keeps hkeep
  have T : TopRead q loose mg mb (hideAll s.heap [30]) := P.T.keeps hkeep
  have TP' := TP.keeps hkeep
  have hh := P'.hh
  have C : CodeHd (hideAll s.heap [30]) 34 30 := ⟨_, _, _, _, _, _, _, _, _, X 34 _ rfl, rfl, rfl, rfl, rfl, rfl, rfl, rfl, rfl, by decide⟩
  have hT2 : pT = tabObj #[] ∨ ∃ c', pT = tabObj #[rawInt (posOf 4).line, rawInt (posOf 4).col, .ref c'] ∧ (hideAll s.heap [30]).CodeRec (.ref c') qI2D := by
    rcases hpT2 with x | ⟨c', x, c, o, us, tt, e1, e2, e3, e4⟩
    · exact .inl x
    · refine .inr ⟨c', x, c, o, us, tt, e1, hideAll_get _ e2 ?_, e3, e4⟩
      intro q
      rw [List.mem_singleton.mp q, hpT, x] at e2
      cases e2; cases e3; cases e4
  clear F0 N0
  rw [envOfC_eq] at P' hh ⊢
  have q1 : ∀ L : Nat, (cellsFrom (L + 1) [(Str.ofString "a", NameKind.local), (Str.ofString "n", NameKind.cell), (Str.ofString "a_digits", NameKind.cell), (Str.ofString "inner", NameKind.cell), (Str.ofString "len", NameKind.globalImplicit)] []).lookup (Str.ofString "a_digits") = some (L + 1 + 1) := fun L => by kernel_rfl
  have q2 : ∀ L : Nat, (cellsFrom (L + 1) [(Str.ofString "a", NameKind.local), (Str.ofString "n", NameKind.cell), (Str.ofString "a_digits", NameKind.cell), (Str.ofString "inner", NameKind.cell), (Str.ofString "len", NameKind.globalImplicit)] []).lookup (Str.ofString "n") = some (L + 1) := fun L => by kernel_rfl
  have q3 : ∀ L : Nat, (cellsFrom (L + 1) [(Str.ofString "a", NameKind.local), (Str.ofString "n", NameKind.cell), (Str.ofString "a_digits", NameKind.cell), (Str.ofString "inner", NameKind.cell), (Str.ofString "len", NameKind.globalImplicit)] []).lookup (Str.ofString "inner") = some (L + 1 + 1 + 1) := fun L => by kernel_rfl
  replace q1 := q1 s.heap.objs.size
  replace q2 := q2 s.heap.objs.size
  replace q3 := q3 s.heap.objs.size
  dsimp only at q1 q2 q3 P' hh ⊢
  obtain ⟨clx, hclx⟩ : ∃ clx, cellsFrom (s.heap.objs.size + 1) [(Str.ofString "a", NameKind.local), (Str.ofString "n", NameKind.cell), (Str.ofString "a_digits", NameKind.cell), (Str.ofString "inner", NameKind.cell), (Str.ofString "len", NameKind.globalImplicit)] [] = clx := ⟨_, rfl⟩
  rw [hclx] at q1 q2 q3 P' hh ⊢
  have hkk : ((((Builtin.Int.intBits (a : Int) : Nat) : Int) + (n : Int) - 1).fdiv (n : Int)) = (((bl a + n - 1) / n : Nat) : Int) := by
    show ((((bl a : Nat) : Int) + (n : Int) - 1).fdiv (n : Int)) = _
    rw [show ((bl a : Nat) : Int) + (n : Int) - 1 = ((bl a + n - 1 : Nat) : Int) by omega, fdiv_nat]
  have hbl : bl a ≤ 64 * n := bl_le.mpr ha
  have hk64 : (bl a + n - 1) / n ≤ 64 := by
    have : (bl a + n - 1) / n < 65 := (Nat.div_lt_iff_lt_mul hn0).mpr (by omega)
    omega
  repeat ((fail_if_success (with_reducible show wpAny _ _ (binaryOp Operator.Mult _ _) _ _ _)); walk1)
  rename Fr _ _ _ _ => F2
  rename News _ _ _ _ => N2
  rw [show (((Builtin.Int.intBits (a : Int) + n : Nat) : Int) - 1).fdiv (n : Int) = (((bl a + n - 1) / n : Nat) : Int) from by
    rw [← hkk, Int.natCast_add]]
  obtain ⟨k, hkd⟩ : ∃ k, (bl a + n - 1) / n = k := ⟨_, rfl⟩
  rw [hkd] at h hk64 ⊢
  have hpn := (N2 _ (.head _)).1
  refine mul_list_new (vs := [_]) F2 N2 ⟨_, hpn, rfl, 0, rfl⟩ (IntsAre.cons 0 _ .nil) ?b1 ?b2 ?b3 ?_
  case b1 => omega
  case b2 => omega
  case b3 => rw [Int.toNat_natCast]; show 1 * _ ≤ _; omega
  intro D h3 oD kD F3 N3 cD dD hlt
  rw [Int.toNat_natCast] at dD
  have N4 : News (hideAll s.heap [30]) s.heap.objs.size h3 [(30, pT), (s.heap.objs.size + 1 + 1 + 1, o1), (s.heap.objs.size + 1 + 1, o2), (s.heap.objs.size + 1, o3), (D, oD)] := by
    intro p hp
    refine N3 p ?_
    simp only [List.mem_cons, List.not_mem_nil, or_false] at hp ⊢
    rcases hp with rfl | rfl | rfl | rfl | rfl <;> simp
  have d1 : s.heap.objs.size + 1 + 1 + 1 < D := hlt _ (.tail _ (.tail _ (.head _)))
  clear N3 F2 N2
  refine storeX_C (c := s.heap.objs.size + 1 + 1) F3 N4 q1 (UpdF.tail ?u1 (UpdF.tail ?u2 (UpdF.head ?u3))) hd2 ?_
  case u1 => show (_ : Nat) ≠ _; omega
  case u2 => show (_ : Nat) ≠ _; omega
  case u3 =>
    intro q hq
    rcases List.mem_cons.mp hq with rfl | hq
    · show (_ : Nat) ≠ _; omega
    · rw [List.mem_singleton.mp hq]; show (_ : Nat) ≠ _; omega
  intro h5 o2' F5 N5 hd2'
  clear F3 N4
  repeat ((fail_if_success (with_reducible show wpAny _ _ (exec (Stmt.FunctionDef _ _ _ _ _ _ _ _ _ _) _) _ _ _)); walk1)
  refine nestDef_K rfl rfl rfl ?_
  have hap : ∀ q ∈ [(s.heap.objs.size + 1 + 1 + 1, o1), (s.heap.objs.size + 1 + 1, o2'), (s.heap.objs.size + 1, o3), (D, oD)], q.1 ≠ 30 := by
    intro q hq
    simp only [List.mem_cons, List.not_mem_nil, or_false] at hq
    rcases hq with rfl | rfl | rfl | rfl <;> (show (_ : Nat) ≠ 30; omega)
  refine nest_any (qual := qI2D) (pos := posOf 4) F5 N5 TP' C rfl hap hT2 (by rw [← hclx]; rfl) ?_
  intro f c' ctv doc h6 tk6 xs F6 N6 hcr hfr hPf hxs
  clear F5 N5
  have v1 : f ≠ s.heap.objs.size + 1 + 1 + 1 := fun e => hfr _ (.head _) e.symm
  refine storeX_C (c := s.heap.objs.size + 1 + 1 + 1) F6 N6 q3 (UpdF.tail v1 (UpdF.tail (hap _ (.head _)).symm (UpdF.head ?u3))) hd1 ?_
  case u3 =>
    intro q hq
    rcases List.mem_cons.mp hq with rfl | hq
    · show (_ : Nat) ≠ _; omega
    · rcases List.mem_cons.mp hq with rfl | hq
      · show (_ : Nat) ≠ _; omega
      · rcases List.mem_cons.mp hq with rfl | hq
        · exact Nat.ne_of_gt d1
        · exact hxs _ (.head _) q hq
  intro h7 o1' F7 N7 hd1'
  have hcr7 : h7.CodeRec (.ref c') qI2D := hcr.rec F7 N7 (fun p hp => .tail _ (.tail _ (.tail _ (.tail _ (.tail _ (.tail _ hp))))))
  have hT7 : TabOk 30 (posOf 4) qI2D h7 := .inr ⟨c', (N7 _ (.tail _ (.head _))).1, hcr7⟩
  clear F6 N6
  walk_at "toite"
  by_cases ha0 : a = 0
  · subst ha0
    rw [if_neg (by simp)]
    have hk0 : k = 0 := by rw [← hkd, show bl 0 = 0 from rfl]; exact Nat.div_eq_of_lt (by omega)
    subst hk0
    walk_at "go"
    show Q (.ref D) _
    exact h _ _ D _ (fun b o hb e => F7.keep b o (hideAll_get _ e (by simpa using hb))) hT7 (Heap.get?_none_of_le (by omega)) ⟨oD, (N7 _ (.tail _ (.tail _ (.tail _ (.tail _ (.tail _ (.head _))))))).1, cD, kD, dD⟩ .nil
  · rw [if_pos (by simp [ha0])]
    walk_at "go"
    rename Fr _ _ _ _ => F8
    rename News _ _ _ _ => N8
    have hlD := (N8 _ (.tail _ (.tail _ (.tail _ (.tail _ (.tail _ (.head _))))))).1
    have hvl : ∀ tk : Tok, ((List.replicate k [Value.int 0 tk]).flatten.toArray).size = k := fun tk => by simp
    refine len_list ⟨oD, hlD, cD, kD, dD⟩ (by rw [hvl]; omega) ?_
    rw [hvl]
    repeat ((fail_if_success (with_reducible show FnAt _ _ ∧ _)); walk1)
    refine ⟨FnAt.of N8 (.head _), ?_⟩
    have hkpos : 0 < k := by
      rw [← hkd]
      have : 0 < bl a := by
        rcases Nat.eq_zero_or_pos (bl a) with e | e
        · exact absurd (bl_le.mp (Nat.le_of_eq e)) (by simp; omega)
        · exact e
      exact Nat.div_pos (by omega) hn0
    have hak : a < 2 ^ (k * n) := by
      refine bl_le.mp ?_
      have := Nat.lt_div_mul_add hn0 (a := bl a + n - 1)
      rw [hkd] at this
      omega
    refine s_i2d rfl (cl := _) (c1 := s.heap.objs.size + 1 + 1) (c2 := s.heap.objs.size + 1 + 1 + 1) (c3 := s.heap.objs.size + 1) (D := D) (n := n) (tn := t') ?l1 ?l2 ?l3 hn 7 _ _ a 0 k _ _ _ (List.replicate k [Value.int 0 _]).flatten (List.replicate k 0) _ _ _ (P'.less (by decide) (by decide)) (T.nolimit.keeps F8.keep) (N8 _ (.head _)).1 ?a1 ?a2 ?a3 ?a4 ⟨oD, hlD, cD, kD, dD⟩ ?a5 ?a6 hkpos ?a7 ?a8 ?a9 ?_
    case l1 => kernel_rfl
    case l2 => kernel_rfl
    case l3 => kernel_rfl
    case a1 => exact hcr.rec F8 N8 (fun p hp => .tail _ (.tail _ (.tail _ (.tail _ (.tail _ (.tail _ hp))))))
    case a2 => exact ⟨_, (N8 _ (.tail _ (.tail _ (.tail _ (.head _))))).1, hd2'⟩
    case a3 => exact ⟨_, (N8 _ (.tail _ (.tail _ (.head _)))).1, hd1'⟩
    case a4 => exact ⟨_, (N8 _ (.tail _ (.tail _ (.tail _ (.tail _ (.head _)))))).1, hd3⟩
    case a5 => exact zeros_are _ _
    case a6 => rw [List.length_replicate]; omega
    case a7 => rw [List.length_replicate]; exact Nat.le_refl _
    case a8 => omega
    case a9 => exact hak
    intro h9 tk9 vs9 kp hl9 hi9
    have hDs : D ≠ s.heap.objs.size := by show (_ : Nat) ≠ _; omega
    have F9 := frD F8 hDs.symm (N8 _ (.tail _ (.tail _ (.tail _ (.tail _ (.tail _ (.head _))))))).2.2 kp
    have N9 : News (hideAll s.heap [30]) s.heap.objs.size h9 ((s.heap.objs.size + 1 + 1, o2') :: (30, tabObj #[rawInt (posOf 4).line, rawInt (posOf 4).col, .ref c']) :: xs) := by
      intro p hp
      rcases List.mem_cons.mp hp with rfl | hp
      · have z := N8 (s.heap.objs.size + 1 + 1, o2') (.tail _ (.tail _ (.tail _ (.head _))))
        exact ⟨kp _ _ (show (_ : Nat) ≠ _ by omega) z.1, z.2⟩
      rcases List.mem_cons.mp hp with rfl | hp
      · have z := N8 (30, tabObj #[rawInt (posOf 4).line, rawInt (posOf 4).col, .ref c']) (.tail _ (.head _))
        exact ⟨kp _ _ (show (30 : Nat) ≠ _ by omega) z.1, z.2⟩
      · have z := N8 p (.tail _ (.tail _ (.tail _ (.tail _ (.tail _ (.tail _ hp))))))
        exact ⟨kp _ _ (hxs _ (.tail _ (.tail _ (.tail _ (.head _)))) p hp) z.1, z.2⟩
    walk_at "go"
    show Q (.ref D) _
    have es : setR (List.replicate k 0) 0 (digs n (k - 0) a) = digs n k a := by
      unfold setR
      rw [List.take_zero, Nat.sub_zero, List.nil_append, Nat.zero_add, digs_len, List.drop_of_length_le (by rw [List.length_replicate]; exact Nat.le_refl _), List.append_nil]
    rw [es] at hi9
    refine h _ _ D vs9 (fun b o hb e => F9.keep b o (hideAll_get _ e (by simpa using hb))) (.inr ⟨c', (N9 _ (.tail _ (.head _))).1, hcr.rec F9 N9 (fun p hp => .tail _ (.tail _ hp))⟩) (Heap.get?_none_of_le (by show (_ : Nat) ≤ _; omega)) hl9 hi9
end
end
noncomputable def Tabs (h : Heap) : Prop := TabOk 30 (posOf 4) qI2D h ∧ TabOk 37 (posOf 5) qD2I h
noncomputable def KeepsT (h h' : Heap) : Prop := ∀ b o, b ≠ 30 → b ≠ 37 → h.get? b = some o → h'.get? b = some o
theorem KeepsT.refl (h : Heap) : KeepsT h h := fun _ _ _ _ e => e
theorem KeepsT.trans {a b c : Heap} (x : KeepsT a b) (y : KeepsT b c) : KeepsT a c := fun p o h1 h2 e => y p o h1 h2 (x p o h1 h2 e)
theorem KeepsT.of {a b : Heap} (x : Keeps a b) : KeepsT a b := fun p o _ _ e => x p o e
theorem KeepsT.but30 {a b : Heap} (x : ∀ p o, p ≠ 30 → a.get? p = some o → b.get? p = some o) : KeepsT a b := fun p o h1 _ e => x p o h1 e
theorem KeepsT.but37 {a b : Heap} (x : ∀ p o, p ≠ 37 → a.get? p = some o → b.get? p = some o) : KeepsT a b := fun p o _ h2 e => x p o h2 e
theorem Tabs.keep {h h' : Heap} (x : Tabs h) (k : Keeps h h') : Tabs h' := ⟨x.1.keep k, x.2.keep k⟩
/-- a table is no code -/
theorem TabOk.but {T U : Addr} {pos pos' : Pos} {qual qual' : Str} {h h' : Heap} (x : TabOk T pos qual h) (y : TabOk U pos' qual' h) (hne : T ≠ U) (k : ∀ b o, b ≠ U → h.get? b = some o → h'.get? b = some o) : TabOk T pos qual h' := by
  rcases x with x | ⟨c', x, c, o, us, tt, e1, e2, e3, e4⟩
  · exact .inl (k _ _ hne x)
  · refine .inr ⟨c', k _ _ hne x, c, o, us, tt, e1, k _ _ ?_ e2, e3, e4⟩
    rintro rfl
    rcases y with y | ⟨c2, y, _⟩ <;>
    · rw [y] at e2
      cases e2; cases e3; cases e4
theorem Tabs.after30 {h h' : Heap} (x : Tabs h) (k : ∀ b o, b ≠ 30 → h.get? b = some o → h'.get? b = some o) (y : TabOk 30 (posOf 4) qI2D h') : Tabs h' := ⟨y, x.2.but x.1 (by decide) k⟩
theorem Tabs.after37 {h h' : Heap} (x : Tabs h) (k : ∀ b o, b ≠ 37 → h.get? b = some o → h'.get? b = some o) (y : TabOk 37 (posOf 5) qD2I h') : Tabs h' := ⟨x.1.but x.2 (by decide) k, y⟩
/-- what a table hangs on, as a ledger -/
structure TL (H : Heap) (xs : List (Addr × Obj)) : Prop where
  ok : ∀ h, Keeps H h → (∀ p ∈ xs, h.get? p.1 = some p.2) → Tabs h
  flds : ∀ p ∈ xs, ∃ vs, p.2.data = .fields vs
theorem tabOk_led {T : Addr} {pos : Pos} {qual : Str} {h : Heap} (x : TabOk T pos qual h) :
    ∃ xs : List (Addr × Obj), (∀ p ∈ xs, h.get? p.1 = some p.2 ∧ ∃ vs, p.2.data = .fields vs) ∧ ∀ h', (∀ p ∈ xs, h'.get? p.1 = some p.2) → TabOk T pos qual h' := by
  rcases x with x | ⟨c', x, c, o, us, tt, e1, e2, e3, e4⟩
  · exact ⟨[(T, tabObj #[])], fun p hp => by rw [List.mem_singleton.mp hp]; exact ⟨x, _, rfl⟩, fun h' hh => .inl (hh _ (.head _))⟩
  · refine ⟨[(T, _), (c, o)], fun p hp => ?_, fun h' hh => .inr ⟨c', hh _ (.head _), c, o, us, tt, e1, hh _ (.tail _ (.head _)), e3, e4⟩⟩
    rcases List.mem_cons.mp hp with rfl | hp
    · exact ⟨x, _, rfl⟩
    · rw [List.mem_singleton.mp hp]; exact ⟨e2, _, e3⟩
theorem Tabs.led {H h : Heap} {L : Addr} {m : Str → Option Value} (x : Tabs h) (F : Fr H L h m) : ∃ xs, TL H xs ∧ News H L h xs := by
  obtain ⟨x1, a1, b1⟩ := tabOk_led x.1
  obtain ⟨x2, a2, b2⟩ := tabOk_led x.2
  have all : ∀ p ∈ x1 ++ x2, h.get? p.1 = some p.2 ∧ ∃ vs, p.2.data = .fields vs := fun p hp => (List.mem_append.mp hp).elim (a1 p) (a2 p)
  refine ⟨(x1 ++ x2).filter fun p => (H.get? p.1).isNone, ⟨fun h' k hx => ?_, fun p hp => (all p (List.mem_filter.mp hp).1).2⟩, ?_⟩
  · have hall : ∀ p ∈ x1 ++ x2, h'.get? p.1 = some p.2 := by
      intro p hp
      cases q : H.get? p.1 with
      | some o =>
        have e1 := F.keep _ _ q
        rw [(all p hp).1] at e1
        cases e1
        exact k _ _ q
      | none => exact hx p (List.mem_filter.mpr ⟨hp, by rw [q]; rfl⟩)
    exact ⟨b1 _ fun p hp => hall p (List.mem_append.mpr (.inl hp)), b2 _ fun p hp => hall p (List.mem_append.mpr (.inr hp))⟩
  · intro p hp
    obtain ⟨hp, hn⟩ := List.mem_filter.mp hp
    obtain ⟨e, vs, ev⟩ := all p hp
    refine ⟨e, ?_, by simpa using hn⟩
    intro eL
    obtain ⟨o, es, ep, ho, hd, _⟩ := F.ns
    rw [← eL, e] at ho
    cases ho
    rw [ev] at hd; cases hd
theorem TL.tabs {H h : Heap} {L : Addr} {m : Str → Option Value} {xs news : List (Addr × Obj)} (x : TL H xs) (F : Fr H L h m) (N : News H L h news) (hs : ∀ p ∈ xs, p ∈ news) : Tabs h := x.ok h F.keep fun p hp => (N p (hs p hp)).1
/-- the ground of a call that may fill the two tables -/
noncomputable def hid (h : Heap) : Heap := hideAll h [30, 37]
theorem hid_get {h : Heap} {b : Addr} {o : Obj} (e : h.get? b = some o) (h1 : b ≠ 30) (h2 : b ≠ 37) : (hid h).get? b = some o := hideAll_get _ e (by simp [h1, h2])
theorem of_hid {h : Heap} {b : Addr} {o : Obj} (e : (hid h).get? b = some o) : h.get? b = some o := of_hideAll _ e
theorem hid30 (h : Heap) : (hid h).get? 30 = none := hideAll_none _ (by simp)
theorem hid37 (h : Heap) : (hid h).get? 37 = none := hideAll_none _ (by simp)
theorem hid_none {h : Heap} {b : Addr} (e : h.get? b = none) : (hid h).get? b = none := by
  cases q : (hid h).get? b with
  | none => rfl
  | some o => rw [of_hid q] at e; cases e
theorem hid_keep {h h' : Heap} (k : Keeps (hid h) h') : KeepsT h h' := fun b o h1 h2 e => k b o (hid_get e h1 h2)
theorem Fr.hid {h₀ h : Heap} {L : Addr} {m : Str → Option Value} (F : Fr h₀ L h m) : Fr (hid h₀) L h m := ⟨F.ns, fun b o e => F.keep b o (of_hid e), by show (hideAll h₀ [30, 37]).objs.size ≤ L; rw [hideAll_size]; exact F.above⟩
theorem keepsHid {g₀ h : Heap} (k : Keeps g₀ h) (h30 : g₀.get? 30 = none) (h37 : g₀.get? 37 = none) : Keeps g₀ (hid h) := fun b o e =>
  hid_get (k b o e) (by rintro rfl; rw [h30] at e; cases e) (by rintro rfl; rw [h37] at e; cases e)
theorem frT {H h h' : Heap} {L : Addr} {m : Str → Option Value} (F : Fr H L h m) (k : KeepsT h h') (h1 : H.get? 30 = none) (h2 : H.get? 37 = none) (hL : 100 < L) : Fr H L h' m := by
  have l1 : L ≠ 30 := Nat.ne_of_gt (Nat.lt_trans (by decide) hL)
  have l2 : L ≠ 37 := Nat.ne_of_gt (Nat.lt_trans (by decide) hL)
  refine ⟨F.ns.at' fun o e => k L o l1 l2 e, fun b o e => k b o ?_ ?_ (F.keep b o e), F.above⟩
  · rintro rfl; rw [h1] at e; cases e
  · rintro rfl; rw [h2] at e; cases e
theorem newsT {H h h' : Heap} {L : Addr} {news : List (Addr × Obj)} (N : News H L h news) (k : KeepsT h h') (hn : ∀ p ∈ news, p.1 ≠ 30 ∧ p.1 ≠ 37) : News H L h' news := fun p hp => ⟨k _ _ (hn p hp).1 (hn p hp).2 (N p hp).1, (N p hp).2⟩
theorem newsApp {H h : Heap} {L : Addr} {a b : List (Addr × Obj)} (x : News H L h a) (y : News H L h b) : News H L h (a ++ b) := fun p hp => (List.mem_append.mp hp).elim (x p) (y p)
theorem newsCons {H h : Heap} {L a : Addr} {o : Obj} {b : List (Addr × Obj)} (e : h.get? a = some o) (hL : a ≠ L) (hn : H.get? a = none) (y : News H L h b) : News H L h ((a, o) :: b) := fun p hp => by
  rcases List.mem_cons.mp hp with rfl | hp
  · exact ⟨e, hL, hn⟩
  · exact y p hp
theorem newsSub {H h : Heap} {L : Addr} {a b : List (Addr × Obj)} (x : News H L h a) (hs : ∀ p ∈ b, p ∈ a) : News H L h b := fun p hp => x p (hs p hp)
/-- a new object of a call is new to the ground -/
theorem newIn {H h : Heap} {L d : Addr} {m : Str → Option Value} (F : Fr H L h m) (e : h.get? d = none) : d ≠ L ∧ H.get? d = none := by
  refine ⟨?_, ?_⟩
  · rintro rfl
    obtain ⟨o, es, ep, ho, _⟩ := F.ns
    rw [e] at ho; cases ho
  · cases q : H.get? d with
    | none => rfl
    | some o => rw [F.keep _ _ q] at e; cases e
theorem listNe {h : Heap} {a : Addr} {vs : Array Value} (x : h.IsList a vs) {p : Addr × Obj} (e : h.get? p.1 = some p.2) (hf : ∃ vs, p.2.data = .fields vs) : p.1 ≠ a := by
  rintro rfl
  obtain ⟨o, e2, _, n, hd⟩ := x
  rw [e] at e2; cases e2
  obtain ⟨us, hu⟩ := hf
  rw [hu] at hd; cases hd
theorem KeepsT.list {h h' : Heap} {a : Addr} {vs : Array Value} (k : KeepsT h h') (T : Tabs h) (x : h.IsList a vs) : h'.IsList a vs := by
  obtain ⟨o, e, c, n, hd⟩ := x
  refine ⟨o, k _ _ ?_ ?_ e, c, n, hd⟩
  · rintro rfl
    rcases T.1 with y | ⟨c2, y, _⟩ <;>
    · rw [y] at e; cases e; cases hd
  · rintro rfl
    rcases T.2 with y | ⟨c2, y, _⟩ <;>
    · rw [y] at e; cases e; cases hd
theorem allLtMem {d : Nat} {l : List (Addr × Obj)} (h : AllLt d l) : ∀ p ∈ l, p.1 < d := by
  induction l with
  | nil => intro p hp; cases hp
  | cons q r ih =>
    intro p hp
    rcases List.mem_cons.mp hp with rfl | hp
    · exact h.1
    · exact ih h.2 p hp
theorem tail_temp {prog : Program} {w : World} {A : Around} {E : Value → Shared → Prop} {s : Shared} {value slice : PySem.Expr} {o i : Value} {Q : Value → Shared → Prop} (h : wpAny (model prog w) A (subscriptTail (.Name (Str.ofString "x") ⟨0, 0, 0, 0⟩) slice o i) Q E s) :
    wpAny (model prog w) A (subscriptTail value slice o i) Q E s := by
  have e : ∀ v : PySem.Expr, subscriptTail v slice o i = (getitemInPython o >>= fun b => subscripted slice b o i) >>= fun r => letTemporaryGo v o r >>= fun _ => pure r := fun v => by
    unfold subscriptTail; rw [bind_assoc]
  rw [e] at h ⊢
  have e2 : (fun r : Value => letTemporaryGo (.Name (Str.ofString "x") ⟨0, 0, 0, 0⟩) o r >>= fun _ => (pure r : Sem Value)) = pure := funext fun r => rfl
  rw [e2, bind_pure] at h
  exact wpAny_bind (wpAny_mono h (fun r s' hr => wpAny_bind (wpAny_letTemporaryGo (wpAny_pure hr))) fun _ _ e => e)
theorem hidList {h : Heap} {a : Addr} {vs : Array Value} (T : Tabs h) (x : h.IsList a vs) : (hid h).IsList a vs := by
  obtain ⟨o, e, c, n, hd⟩ := x
  refine ⟨o, hid_get e ?_ ?_, c, n, hd⟩
  · rintro rfl
    rcases T.1 with y | ⟨c2, y, _⟩ <;>
    · rw [y] at e; cases e; cases hd
  · rintro rfl
    rcases T.2 with y | ⟨c2, y, _⟩ <;>
    · rw [y] at e; cases e; cases hd
section
local macro_rules | `(tactic| walk_at "callWith ref") => `(tactic| ((with_reducible refine' callWith_K ?k1 ?k2 ?_ ?he ?hp); (case k1 => assumption); (case k2 => kernel_rfl); (case he => with_unfolding_all exact rfl); (case hp => with_unfolding_all exact rfl)))
local macro_rules | `(tactic| walk_at "And") => `(tactic| ((with_reducible show Frag.In _ _ ∧ wpAny _ _ _ _ _ _); (refine ⟨Frag.In.keeps (by with_reducible assumption) (Fr.keep (by with_reducible assumption)), ?_⟩); (try dsimp only [List.nil_append])))
section
variable {prog : Program} {w : World} {A : Around} {E : Value → Shared → Prop} {s : Shared} {env : Env} {h₀ : Heap} {x : Str} {body : List Stmt} {Q : Flow → Shared → Prop}
theorem rev_loop {I l : Addr} {vs : List Value} {m₀ : Str → Option Value} {news : List (Addr × Obj)} (J : Nat → (Str → Option Value) → List (Addr × Obj) → Prop)
    (hh : A.handled = none) (hit : s.heap.IsRevIter I l ((vs.length : Int) - 1)) (hls : s.heap.IsList l vs.toArray) (hlL : l ≠ env.locals) (hIL : I ≠ env.locals) (hI0 : h₀.get? I = none) (hne : l ≠ I)
    (hnI : ∀ q ∈ news, q.1 ≠ I ∧ q.1 ≠ l) (F : Fr h₀ env.locals s.heap m₀) (N : News h₀ env.locals s.heap news) (hj : J 0 m₀ news)
    (turn : ∀ i v m₁ news₁ h tk own, i < vs.length → vs.reverse[i]? = some v → OwnOff own (news₁.map (·.1)) → J i m₁ news₁ → Fr h₀ env.locals h (fun y => if y = x then some v else m₁ y) → News h₀ env.locals h (news₁ ++ own) →
      wpAny (model prog w) A (execs body env) (InvPostG h₀ env.locals (J (i + 1)) own { s with heap := h, toks := tk } Q) E { s with heap := h, toks := tk })
    (done : ∀ m₁ news₁ h tk, J vs.length m₁ news₁ → Fr h₀ env.locals h m₁ → News h₀ env.locals h news₁ → Q .next { s with heap := h, toks := tk }) :
    wpAny (model prog w) A (pyIter (.ref I)) (fun it s₂ => LoopAtV prog w A h₀ env x body Q E it s₂) E s := by
  refine wpAny_pyIter_revIter hit ?_
  have W := Walks.listRev (prog := prog) (w := w) hh I l hne vs.toArray
  rw [List.size_toArray] at W
  refine loop_grow J W ?_ ?_ ?_ ?_ ⟨Nat.zero_le _, by simpa using hit, hls⟩ F N hj ?_ done
  · rintro i h ⟨_, ⟨o, h1, _⟩, ⟨o', h2, _⟩⟩ b hb
    rcases List.mem_cons.mp hb with e | hb
    · exact ⟨o, e ▸ h1⟩
    · exact ⟨o', (List.mem_singleton.mp hb) ▸ h2⟩
  · intro hm
    rcases List.mem_cons.mp hm with e | hm
    · exact hIL e.symm
    · exact hlL (List.mem_singleton.mp hm).symm
  · intro b hb
    rw [List.mem_singleton.mp hb]
    exact hI0
  · intro p hp hI
    rcases List.mem_cons.mp hI with e | hI
    · exact (hnI p hp).1 e
    · exact (hnI p hp).2 (List.mem_singleton.mp hI)
  · rintro i v m₁ news₁ h tk own hi hP ho hJ F' N'
    refine turn i v m₁ news₁ h tk own hi ?_ ho hJ F' N'
    rw [List.getElem?_reverse hi]
    simpa using hP
end
theorem valD_digs (n : Nat) : ∀ k x, x < 2 ^ (k * n) → valD (2 ^ n) (digs n k x) = x
  | 0, x, h => by simp at h; subst h; rfl
  | k + 1, x, h => by
    show x % 2 ^ n + 2 ^ n * valD (2 ^ n) (digs n k (x / 2 ^ n)) = x
    rw [valD_digs n k (x / 2 ^ n) (by
      refine Nat.div_lt_of_lt_mul ?_
      rw [← Nat.pow_add]; rw [Nat.add_mul, Nat.one_mul, Nat.add_comm] at h; exact h)]
    exact Nat.mod_add_div x (2 ^ n)
theorem digs_lt (n : Nat) : ∀ k x, ∀ d ∈ digs n k x, d < 2 ^ n
  | k + 1, x, d, h => by
    rcases List.mem_cons.mp h with rfl | h
    · exact Nat.mod_lt _ (Nat.pow_pos (by decide))
    · exact digs_lt n k _ d h
theorem hid_new {h h' : Heap} {d : Addr} {o : Obj} {its : Array Value} {n : Nat} (T : Tabs h') (e : (hid h).get? d = none) (ho : h'.get? d = some o) (hd : o.data = .seq its n) : h.get? d = none := by
  cases q : h.get? d with
  | none => rfl
  | some o' =>
    have h1 : d ≠ 30 := by
      rintro rfl
      rcases T.1 with y | ⟨c2, y, _⟩ <;>
      · rw [y] at ho; cases ho; cases hd
    have h2 : d ≠ 37 := by
      rintro rfl
      rcases T.2 with y | ⟨c2, y, _⟩ <;>
      · rw [y] at ho; cases ho; cases hd
    rw [hid_get q h1 h2] at e; cases e
/-- one turn of the long division -/
theorem div_turn {B b T r d : Nat} (hb : 0 < b) (hbB : b ≤ B) (hd : d < B) (hr : r = T % b) : (r * B + d) / b < B ∧ (d + B * T) / b = (r * B + d) / b + B * (T / b) ∧ (d + B * T) % b = (r * B + d) % b := by
  have e : d + B * T = b * (B * (T / b)) + (r * B + d) := by
    have h1 : b * (T / b) + T % b = T := Nat.div_add_mod T b
    have h2 : B * T = B * (b * (T / b)) + B * r := by rw [← Nat.mul_add, hr, h1]
    rw [h2, Nat.mul_comm r B, Nat.mul_left_comm B b]; omega
  have hrb : r < b := hr ▸ Nat.mod_lt _ hb
  refine ⟨?_, ?_, ?_⟩
  · refine (Nat.div_lt_iff_lt_mul hb).mpr ?_
    have : (r + 1) * B ≤ b * B := Nat.mul_le_mul_right _ hrb
    rw [Nat.add_mul, Nat.one_mul] at this
    rw [Nat.mul_comm B b]; omega
  · rw [e, Nat.mul_add_div hb, Nat.add_comm]
  · rw [e, Nat.mul_add_mod]
set_option maxHeartbeats 4000000 in
theorem s_divmod_pos {w : World} {A : Around} {mg mb : Str → Option Value} {g₀ : Heap} {lo : List Str} {mean : ExcName → Option Value} {s : Shared} {a b : Nat} {t t' : Tok} {Q E : Value → Shared → Prop}
    (P : Pre w A 14 130 mg mb g₀) (TP : Top topProg lo mean mg mb g₀) (kg : Keeps g₀ s.heap) (h30 : g₀.get? 30 = none) (h37 : g₀.get? 37 = none) (hT : Tabs s.heap)
    (hb0 : 0 < b) (hb : b < 2 ^ 7990) (ha : a < 2 ^ (64 * bl b))
    (h : ∀ h' tk' d u u', KeepsT s.heap h' → Tabs h' → s.heap.get? d = none → IsTup h' d #[.int ((a / b : Nat) : Int) u, .int ((a % b : Nat) : Int) u'] → Q (.ref d) { s with heap := h', toks := tk' }) :
    wpAny (model pw w) A (call (.ref 49) [.int a t, .int b t']) Q E s := by
  have hbig : 100 < s.heap.objs.size := Nat.lt_trans (by decide) (Heap.lt_size ((P.K.keeps kg) 204 _ rfl))
  refine enter (binds := [("a", .int a t), ("b", .int b t')]) (P.keeps kg) rfl rfl rfl rfl ?_
  intro h₁ F0 P0
  have kh : Keeps g₀ (hid s.heap) := keepsHid kg h30 h37
  have P' : Pre w _ 13 127 mg mb (hid s.heap) := ⟨P0.hh, P0.room, P0.units, P.K.keeps kh, P.T.keeps kh⟩
  have TP' := TP.keeps kh
  have X := P'.K
  have T := P'.T
  have hh := P'.hh
  have F := Fr.hid F0
  obtain ⟨xs0, TL0, N⟩ := (hT.keep F0.keep).led F
  clear F0 P0
  walk_at "tocall"
  rename Fr _ _ _ _ => F2
  rename News _ _ _ _ => N2
  obtain ⟨n, hn⟩ : ∃ n, bl b = n := ⟨_, rfl⟩
  rw [show Builtin.Int.intBits (b : Int) = n from hn] at F2 ⊢
  rw [hn] at ha
  have hnb : b < 2 ^ n := bl_le.mp (Nat.le_of_eq hn)
  have hn7 : n ≤ 7990 := hn ▸ bl_le.mpr hb
  have hnpos : 0 < n := by
    rcases Nat.eq_zero_or_pos n with e | e
    · subst e; simp at hnb; omega
    · exact e
  have hnb2 : 2 ^ n ≤ 2 * b := by
    refine Nat.le_of_not_lt fun hc => ?_
    have h1 : b < 2 ^ (n - 1) := by
      have : 2 ^ n = 2 * 2 ^ (n - 1) := by rw [← Nat.pow_succ']; congr 1; omega
      omega
    have := bl_le.mpr h1
    omega
  have Tb2 := TL0.tabs F2 N2 (fun p hp => hp)
  refine s_int2digits (P'.less (by decide) (by decide)) TP' F2.keep (hid30 _) Tb2.1 (by omega) hnpos ha ?_
  intro h3 tk3 D vs kp hT3 hDn hl hi
  have Tb3 := Tb2.after30 kp hT3
  have F3 := frT F2 (KeepsT.but30 kp) (hid30 _) (hid37 _) hbig
  obtain ⟨xs, TLx, Nx⟩ := Tb3.led F3
  obtain ⟨oD, eD, cD, nD, dD⟩ := id hl
  have N3 := newsCons eD (newIn F2 hDn).1 (newIn F2 hDn).2 Nx
  clear F2 N2 Tb2 TL0
  obtain ⟨k, hk⟩ : ∃ k, (bl a + n - 1) / n = k := ⟨_, rfl⟩
  rw [hk] at hi
  have hbla : bl a ≤ 64 * n := bl_le.mpr ha
  have hk64 : k ≤ 64 := by
    have : (bl a + n - 1) / n < 65 := (Nat.div_lt_iff_lt_mul hnpos).mpr (by omega)
    omega
  have hak : a < 2 ^ (k * n) := by
    refine bl_le.mp ?_
    have := Nat.lt_div_mul_add hnpos (a := bl a + n - 1)
    rw [hk] at this
    omega
  have hval := valD_digs n k a hak
  have hdlt := digs_lt n k a
  have hdlen := digs_len n k a
  generalize digs n k a = ds at hi hval hdlt hdlen
  have hvl : vs.length = k := by rw [hi.length, List.length_map, hdlen]
  repeat ((fail_if_success (with_reducible show wpAny _ _ (exec (Stmt.For _ _ _ _ _) _) _ _ _)); walk1)
  rename Fr _ _ _ _ => F4
  rename News _ _ _ _ => N4
  rename_i l' _ l1 _
  refine For_invVF F4 rfl rfl ?_
  repeat ((fail_if_success (with_reducible show wpAny _ _ (call (Value.type _) _) _ _ _)); walk1)
  refine krv_reversed F4 N4 ⟨oD, (N4 _ (.tail _ (.head _))).1, cD, nD, dD⟩ ?_
  intro I h5 F5 N5 hlt5
  have hDL : D ≠ s.heap.objs.size := (N5 _ (.tail _ (.tail _ (.head _)))).2.1
  have hlD : h5.IsList D vs.toArray := ⟨oD, (N5 _ (.tail _ (.tail _ (.head _)))).1, cD, nD, dD⟩
  have hxl : ∀ p ∈ xs, p.1 ≠ l' := fun p hp => Nat.ne_of_lt (allLtMem l1.2 p hp)
  refine rev_loop (I := I) (l := D) (vs := vs) (fun i m nx => HasInt m "n" n ∧ HasInt m "b" b ∧ m "q_digits" = some (.ref l') ∧ HasInt m "r" ((valD (2 ^ n) ((ds.reverse.take i).reverse) % b : Nat) : Int) ∧
      ∃ vs' qs k, nx = (l', listOf vs'.toArray k) :: xs ∧ IntsAre vs' (qs.map fun (k : Nat) => (k : Int)) ∧ qs.length = i ∧ (∀ q ∈ qs, q < 2 ^ n) ∧ valD (2 ^ n) qs.reverse = valD (2 ^ n) ((ds.reverse.take i).reverse) / b)
    hh ⟨_, (N5 _ (.head _)).1, rfl, rfl⟩ hlD hDL (N5 _ (.head _)).2.1 (N5 _ (.head _)).2.2 (Nat.ne_of_lt (hlt5 _ (.tail _ (.head _)))) ?_ F5 (newsSub N5 (b := (l', listOf #[] 0) :: xs) ?_) ⟨⟨_, rfl⟩, ⟨_, rfl⟩, rfl, hasInt (z := 0) rfl (by simp [valD]), [], [], 0, rfl, .nil, rfl, ?_, ?_⟩ ?_ ?_
  · intro q hq
    refine ⟨Nat.ne_of_lt (hlt5 q ?_), ?_⟩
    · rcases List.mem_cons.mp hq with rfl | hq
      · exact .head _
      · exact .tail _ (.tail _ hq)
    · rcases List.mem_cons.mp hq with rfl | hq
      · exact Nat.ne_of_gt l1.1
      · exact listNe hlD (N5 _ (.tail _ (.tail _ (.tail _ hq)))).1 (TLx.flds q hq)
  · intro p hp
    rcases List.mem_cons.mp hp with rfl | hp
    · exact .tail _ (.head _)
    · exact .tail _ (.tail _ (.tail _ hp))
  · intro q hq; cases hq
  · simp [valD]
  · rintro i v m₁ news₁ g tk own hin hv ho ⟨⟨u1, m1⟩, ⟨u2, m2⟩, m3, ⟨u4, m4⟩, vs', qs, kq, rfl, hiq, hql, hqlt, hqv⟩ F N
    replace F : Fr (hid s.heap) s.heap.objs.size g _ := F
    replace N : News (hid s.heap) s.heap.objs.size g ((l', listOf vs'.toArray kq) :: (xs ++ own)) := N
    obtain ⟨d', td, rfl, hd'⟩ := hi.reverse.at i v hv
    obtain ⟨d, hd, rfl⟩ : ∃ d, ds.reverse[i]? = some d ∧ (d : Int) = d' := by
      rw [← List.map_reverse, List.getElem?_map] at hd'
      cases q : ds.reverse[i]? with
      | none => rw [q] at hd'; cases hd'
      | some d => rw [q] at hd'; exact ⟨d, rfl, by simpa using hd'⟩
    have hdB : d < 2 ^ n := hdlt d (List.mem_reverse.mp (List.mem_of_getElem? hd))
    have htk : (ds.reverse.take (i + 1)).reverse = d :: (ds.reverse.take i).reverse := by
      rw [List.take_add_one, hd, List.reverse_append]; rfl
    obtain ⟨Tv, hTv⟩ : ∃ Tv, valD (2 ^ n) (ds.reverse.take i).reverse = Tv := ⟨_, rfl⟩
    rw [hTv] at m4 hqv
    have hT1 : valD (2 ^ n) (ds.reverse.take (i + 1)).reverse = d + 2 ^ n * Tv := by rw [htk, ← hTv]; rfl
    rw [hT1]
    obtain ⟨r, hr⟩ : ∃ r, Tv % b = r := ⟨_, rfl⟩
    rw [hr] at m4
    obtain ⟨z1, z2, z3⟩ := div_turn (B := 2 ^ n) hb0 (Nat.le_of_lt hnb) hdB hr.symm
    have hrb : r < b := hr ▸ Nat.mod_lt _ hb0
    have hsh : bl r + n ≤ 2 ^ 27 := by have := bl_le.mpr (Nat.lt_trans hrb hnb); omega
    have hal : r * 2 ^ n + d < 2 ^ n * b := by
      have : (r + 1) * 2 ^ n ≤ b * 2 ^ n := Nat.mul_le_mul_right _ hrb
      rw [Nat.add_mul, Nat.one_mul] at this
      rw [Nat.mul_comm (2 ^ n) b]; omega
    repeat ((fail_if_success (with_reducible show wpAny _ _ (binaryOp Operator.Add _ _) _ _ _)); walk1)
    refine nadd ?_
    walk_at "tocall"
    rename Fr _ _ _ _ => F6
    rename News _ _ _ _ => N6
    refine s_div2n1n ((P'.fr F6).less (by decide) (by decide)) hn7 hnpos hnb2 hnb hal ?_
    intro h' tk' dd u u' kp' hfr htup
    have F7 := frK F6 kp'
    have N7 := newsK N6 kp'
    clear F6 N6
    rw [← z3] at htup
    repeat ((fail_if_success (with_reducible show wpAny _ _ (call (Value.builtin "list.append") _) _ _ _)); walk1)
    rename Fr _ _ _ _ => F8
    rename News _ _ _ _ => N8
    refine append_K F8 N8 (Upd.head fun q hq => ?_) ?_ (hsz := by
      rw [List.size_toArray, hiq.length, List.length_map, hql, PySem.sizeLine_eq]; omega)
    · rcases List.mem_append.mp hq with hq | hq
      · exact hxl q hq
      · exact ho q hq _ (.head _)
    intro h9 F9 N9
    rw [List.push_toArray] at N9
    walk_at "go"
    rename Fr _ _ _ _ => F10
    refine InvEnd.close (nx := (l', listOf (vs' ++ [Value.int ((r * 2 ^ n + d) / b : Nat) u]).toArray (kq + 1)) :: xs) F10 N9 ho ⟨⟨_, m1⟩, ⟨_, m2⟩, m3, ⟨_, rfl⟩, _, qs ++ [(r * 2 ^ n + d) / b], _, rfl, ?_, ?_, ?_, ?_⟩
    · rw [List.map_append]; exact hiq.append (.cons _ _ .nil)
    · rw [List.length_append, hql]; rfl
    · intro q hq
      rcases List.mem_append.mp hq with hq | hq
      · exact hqlt q hq
      · rw [List.mem_singleton.mp hq]; exact z1
    · rw [List.reverse_append, z2]
      show _ + 2 ^ n * valD (2 ^ n) qs.reverse = _
      rw [hqv]
  · rintro m₁ news₁ h₂ tk₂ ⟨⟨u1, m1⟩, ⟨u2, m2⟩, m3, ⟨u4, m4⟩, vs', qs, kq, rfl, hiq, hql, hqlt, hqv⟩ F N
    replace F : Fr (hid s.heap) s.heap.objs.size h₂ _ := F
    replace N : News (hid s.heap) s.heap.objs.size h₂ _ := N
    have etk : (ds.reverse.take vs.length).reverse = ds := by
      rw [hvl, ← hdlen, ← List.length_reverse, List.take_length, List.reverse_reverse]
    rw [etk, hval] at m4 hqv
    repeat ((fail_if_success (with_reducible show wpAny _ _ (call (Value.builtin "list.reverse") _) _ _ _)); walk1)
    rename Fr _ _ _ _ => F6
    rename News _ _ _ _ => N6
    have hqs64 : qs.length ≤ 64 := by omega
    refine kl_reverse (l := vs'.reverse) F6 N6 (by simp) (Upd.head hxl) (by simp; rw [hiq.length, List.length_map, PySem.sizeLine_eq]; omega) ?_
    intro h7 F7 N7
    walk_at "tocall"
    rename Fr _ _ _ _ => F8
    rename News _ _ _ _ => N8
    have Tb8 := TLx.tabs F8 N8 (fun p hp => .tail _ hp)
    refine s_digits2int (vs := vs'.reverse) (ns := qs.reverse) (n := n) (P'.less (by decide) (by decide)) TP' F8.keep (hid37 _) Tb8.2 ⟨_, (N8 _ (.head _)).1, rfl, _, rfl⟩ (by rw [List.map_reverse]; exact hiq.reverse) (fun q hq => hqlt q (List.mem_reverse.mp hq)) (by omega) (by rw [List.length_reverse]; omega) ?_
    intro h9 tk9 u9 kp9 hT9
    have Tb9 := Tb8.after37 kp9 hT9
    have F9 := frT F8 (KeepsT.but37 kp9) (hid30 _) (hid37 _) hbig
    obtain ⟨xs9, TL9, N9⟩ := Tb9.led F9
    rw [hqv]
    clear F8 N8
    walk_at "go"
    rename Fr _ _ _ _ => Fe
    rename News _ _ _ _ => Ne
    have Te := TL9.tabs Fe Ne (fun p hp => .tail _ hp)
    exact h _ _ _ _ _ (hid_keep Fe.keep) Te (hid_new Te (Ne _ (.head _)).2.2 (Ne _ (.head _)).1 rfl) (Ne.isTup (.head _))
noncomputable def keepF (p B : Nat) : List Nat → List Nat
  | [] => []
  | d :: r => if B ≤ d * p then [] else d :: keepF p B r
noncomputable def packF (p B : Nat) : List Nat → List Nat
  | [] => []
  | d :: r => d :: keepF p B r
theorem keepF_all (p B : Nat) : ∀ l : List Nat, (∀ d ∈ l, d * p < B) → keepF p B l = l
  | [], _ => rfl
  | d :: r, h => by
    show (if B ≤ d * p then [] else d :: keepF p B r) = _
    rw [if_neg (Nat.not_le.mpr (h d (.head _))), keepF_all p B r fun e he => h e (.tail _ he)]
theorem keepF_stop (p B : Nat) : ∀ (l : List Nat) (i d : Nat), (∀ d ∈ l.take i, d * p < B) → l[i]? = some d → B ≤ d * p → keepF p B l = l.take i
  | e :: r, 0, d, _, h, hd => by
    obtain rfl : e = d := by simpa using h
    show (if B ≤ e * p then [] else e :: keepF p B r) = _
    rw [if_pos hd]; rfl
  | e :: r, i + 1, d, hz, h, hd => by
    show (if B ≤ e * p then [] else e :: keepF p B r) = _
    rw [if_neg (Nat.not_le.mpr (hz e (.head _))), keepF_stop p B r i d (fun x hx => hz x (.tail _ hx)) (by simpa using h) hd]; rfl
theorem digs_zero (n : Nat) : ∀ k, digs n k 0 = List.replicate k 0
  | 0 => rfl
  | k + 1 => by show 0 % 2 ^ n :: digs n k (0 / 2 ^ n) = _; rw [Nat.zero_mod, Nat.zero_div, digs_zero n k]; rfl
theorem digs_pad {n k l x : Nat} (hx : x < 2 ^ (k * n)) (hkl : k ≤ l) : digs n l x = digs n k x ++ List.replicate (l - k) 0 := by
  have e := digs_append n k (l - k) x
  rw [show k + (l - k) = l by omega, Nat.mod_eq_of_lt hx, Nat.div_eq_of_lt hx, digs_zero] at e
  exact e
theorem pack_math {V u l p : Nat} (hl : l < u) (hp : 0 < p) : (V * u + l) / (p * u) = V / p ∧ (V * u + l) % (p * u) = V % p * u + l := by
  have hu : 0 < u := by omega
  have e1 : (V * u + l) / u = V := by rw [Nat.mul_comm, Nat.mul_add_div hu, Nat.div_eq_of_lt hl, Nat.add_zero]
  have e2 : (V * u + l) % u = l := by rw [Nat.mul_comm, Nat.mul_add_mod, Nat.mod_eq_of_lt hl]
  refine ⟨?_, ?_⟩
  · rw [Nat.mul_comm p u, ← Nat.div_div_eq_div_mul, e1]
  · rw [Nat.mul_comm p u, Nat.mod_mul, e1, e2, Nat.mul_comm u, Nat.add_comm]
set_option maxHeartbeats 4000000 in
theorem s_law_packed {w : World} {A : Around} {mg mb : Str → Option Value} {g₀ : Heap} {lo : List Str} {mean : ExcName → Option Value} {s : Shared} {a : Addr} {vs : List Value} {rs : List Nat} {p wd un ld : Nat} {t1 t2 t3 t4 : Tok} {Q E : Value → Shared → Prop}
    (P : Pre w A 16 160 mg mb g₀) (TP : Top topProg lo mean mg mb g₀) (kg : Keeps g₀ s.heap) (h30 : g₀.get? 30 = none) (h37 : g₀.get? 37 = none) (hT : Tabs s.heap)
    (hl : s.heap.IsList a vs.toArray) (hi : IntsAre vs (rs.map fun (k : Nat) => (k : Int))) (hr : ∀ r ∈ rs, r < 2 ^ wd) (hlen : 0 < rs.length ∧ rs.length ≤ 8) (hwd : 9 ≤ wd ∧ wd ≤ 1000) (hp : 0 < p ∧ p ≤ 8) (hld : ld < un) (hun : un < 2 ^ 5100) (hun2 : 2 ^ (5 * wd) ≤ un)
    (h : ∀ h' tk' d D ws k u, KeepsT s.heap h' → Tabs h' → s.heap.get? d = none → s.heap.get? D = none → h'.get? D = some (listOf ws.toArray k) → IsTup h' d #[.ref D, .int ((valD (2 ^ wd) rs.reverse % p * un + ld : Nat) : Int) u] →
      IntsAre ws ((packF p (2 ^ wd) (digs wd rs.length (valD (2 ^ wd) rs.reverse / p)).reverse).map fun (k : Nat) => (k : Int)) → Q (.ref d) { s with heap := h', toks := tk' }) :
    wpAny (model pw w) A (call (.ref 194) [.ref a, .int p t1, .int wd t2, .int un t3, .int ld t4]) Q E s := by
  have hbig : 100 < s.heap.objs.size := Nat.lt_trans (by decide) (Heap.lt_size ((P.K.keeps kg) 204 _ rfl))
  refine enter (binds := [("runs", .ref a), ("power", .int p t1), ("width", .int wd t2), ("unit", .int un t3), ("laid", .int ld t4)]) (P.keeps kg) rfl rfl rfl rfl ?_
  intro h₁ F0 P0
  have kh : Keeps g₀ (hid s.heap) := keepsHid kg h30 h37
  have P' : Pre w _ 15 157 mg mb (hid s.heap) := ⟨P0.hh, P0.room, P0.units, P.K.keeps kh, P.T.keeps kh⟩
  have TP' := TP.keeps kh
  have X := P'.K
  have T := P'.T
  have hh := P'.hh
  have F := Fr.hid F0
  have gl := hidList hT hl
  obtain ⟨xs0, TL0, N⟩ := (hT.keep F0.keep).led F
  clear F0 P0
  repeat ((fail_if_success (with_reducible show wpAny _ _ (subscriptTail _ _ _ _) _ _ _)); walk1)
  have hsl : rs.length = vs.length := by rw [hi.length, List.length_map]
  refine krv_lit (its := vs.toArray) (zs := vs.reverse) F N (upList gl F.keep) (IsPart.int _ _) (by simp) ?_ (by with_unfolding_all rfl) (by intro _; with_unfolding_all rfl) (by rw [List.size_toArray, PySem.sizeLine_eq]; omega)
  intro D1 h1 F1 N1 l1
  clear F N
  walk_at "tocall"
  rename Fr _ _ _ _ => F2
  rename News _ _ _ _ => N2
  have Tb2 := TL0.tabs F2 N2 (fun p hp => .tail _ hp)
  refine s_digits2int (vs := vs.reverse) (ns := rs.reverse) (n := wd) (P'.less (by decide) (by decide)) TP' F2.keep (hid37 _) Tb2.2 ⟨_, (N2 _ (.head _)).1, rfl, _, rfl⟩ (by rw [List.map_reverse]; exact hi.reverse) (fun q hq => hr q (List.mem_reverse.mp hq)) (by omega) (by rw [List.length_reverse]; omega) ?_
  intro h3 tk3 u3 kp3 hT3
  have Tb3 := Tb2.after37 kp3 hT3
  have F3 := frT F2 (KeepsT.but37 kp3) (hid30 _) (hid37 _) hbig
  obtain ⟨xs3, TL3, N3⟩ := Tb3.led F3
  clear F2 N2 TL0 Tb2
  have hVlt : valD (2 ^ wd) rs.reverse < 2 ^ (wd * rs.length) := by
    have := valD_lt (2 ^ wd) (Nat.pow_pos (by decide)) rs.reverse (fun q hq => hr q (List.mem_reverse.mp hq))
    rwa [List.length_reverse, ← Nat.pow_mul] at this
  obtain ⟨V, hV⟩ : ∃ V, valD (2 ^ wd) rs.reverse = V := ⟨_, rfl⟩
  rw [hV] at h hVlt
  rw [hV]
  have hm1 : bl V + bl un ≤ 2 ^ 27 := by
    have h1 := bl_le.mpr hVlt
    have h2 := bl_le.mpr hun
    have h3 : wd * rs.length ≤ 1000 * 8 := Nat.mul_le_mul hwd.2 hlen.2
    omega
  repeat ((fail_if_success (with_reducible show wpAny _ _ (binaryOp Operator.Add _ _) _ _ _)); walk1)
  refine nadd ?_
  have hm2 : bl p + bl un ≤ 2 ^ 27 := by
    have h1 : bl p ≤ 4 := bl_le.mpr (by omega)
    have h2 := bl_le.mpr hun
    omega
  walk_at "tocall"
  rename Fr _ _ _ _ => F4
  rename News _ _ _ _ => N4
  have Tb4 := TL3.tabs F4 N4 (fun p hp => hp)
  obtain ⟨e1, e2⟩ := pack_math (V := V) hld hp.1
  have hpun : 2 ^ (5 * wd) ≤ p * un := Nat.le_trans hun2 (Nat.le_mul_of_pos_left _ hp.1)
  have hpun2 : p * un < 2 ^ 5110 := by
    have h1 : p * un ≤ 8 * un := Nat.mul_le_mul_right _ hp.2
    have h2 : 8 * un < 8 * 2 ^ 5100 := Nat.mul_lt_mul_of_pos_left hun (by decide)
    exact Nat.lt_of_lt_of_le (Nat.lt_of_le_of_lt h1 h2) (by rw [show 8 = 2 ^ 3 from rfl, ← Nat.pow_add]; exact Nat.pow_le_pow_right (by decide) (by decide))
  refine s_divmod_pos (P'.less (by decide) (by decide)) TP' F4.keep (hid30 _) (hid37 _) Tb4 (Nat.lt_of_lt_of_le (Nat.pow_pos (by decide)) hpun) (Nat.lt_of_lt_of_le hpun2 (Nat.pow_le_pow_right (by decide) (by decide))) ?_ ?_
  · have h1 : 5 * wd < bl (p * un) := by
      refine Nat.lt_of_not_le fun hc => ?_
      have := bl_le.mp hc
      omega
    have h2 : V * un + ld < 2 ^ (wd * rs.length) * un := by
      have : (V + 1) * un ≤ 2 ^ (wd * rs.length) * un := Nat.mul_le_mul_right _ hVlt
      rw [Nat.add_mul, Nat.one_mul] at this
      omega
    have h3 : un ≤ p * un := Nat.le_mul_of_pos_left _ hp.1
    have h4 := bl_lt (p * un)
    have h5 : wd * rs.length ≤ wd * 8 := Nat.mul_le_mul_left _ hlen.2
    refine Nat.lt_of_lt_of_le h2 ?_
    refine Nat.le_trans (Nat.mul_le_mul_left _ (Nat.le_of_lt (Nat.lt_of_le_of_lt h3 h4))) ?_
    rw [← Nat.pow_add]
    exact Nat.pow_le_pow_right (by decide) (by omega)
  intro h5 tk5 d5 u5 u5' kp5 Tb5 hd5 htup5
  rw [e1, e2] at htup5
  have F5 := frT F4 kp5 (hid30 _) (hid37 _) hbig
  obtain ⟨xs5, TL5, Nx5⟩ := Tb5.led F5
  obtain ⟨od5, ed5, cd5, nd5, dd5⟩ := htup5
  have N5 := newsCons ed5 (newIn F4 hd5).1 (newIn F4 hd5).2 Nx5
  have htup5 : IsTup h5 d5 _ := ⟨od5, ed5, cd5, nd5, dd5⟩
  clear F4 N4 TL3 Tb4
  walk_at "tocall"
  rename Fr _ _ _ _ => F6
  rename News _ _ _ _ => N6
  have Tb6 := TL5.tabs F6 N6 (fun p hp => .tail _ hp)
  have hVp : V / p < 2 ^ (rs.length * wd) := by
    rw [Nat.mul_comm]; exact Nat.lt_of_le_of_lt (Nat.div_le_self _ _) hVlt
  refine s_int2digits (P'.less (by decide) (by decide)) TP' F6.keep (hid30 _) Tb6.1 (by omega) (by omega) (Nat.lt_of_lt_of_le hVp (Nat.pow_le_pow_right (by decide) (Nat.mul_le_mul_right _ (by omega)))) ?_
  intro h7 tk7 D7 ws7 kp7 hT7 hD7 hl7 hi7
  have Tb7 := Tb6.after30 kp7 hT7
  have F7 := frT F6 (KeepsT.but30 kp7) (hid30 _) (hid37 _) hbig
  obtain ⟨xs7, TL7, Nx7⟩ := Tb7.led F7
  obtain ⟨oD7, eD7, cD7, nD7, dD7⟩ := id hl7
  have N7 := newsCons eD7 (newIn F6 hD7).1 (newIn F6 hD7).2 Nx7
  clear F6 N6 TL5 Tb6
  obtain ⟨k, hk⟩ : ∃ k, (bl (V / p) + wd - 1) / wd = k := ⟨_, rfl⟩
  rw [hk] at hi7
  have hblV : bl (V / p) ≤ rs.length * wd := bl_le.mpr hVp
  have hkl : k ≤ rs.length := by
    have : (bl (V / p) + wd - 1) / wd < rs.length + 1 := (Nat.div_lt_iff_lt_mul (by omega)).mpr (by rw [Nat.add_mul]; omega)
    omega
  have hak : V / p < 2 ^ (k * wd) := by
    refine bl_le.mp ?_
    have := Nat.lt_div_mul_add (a := bl (V / p) + wd - 1) (b := wd) (by omega)
    rw [hk] at this
    omega
  rw [digs_pad hak hkl] at h
  have hdl := digs_len wd k (V / p)
  have hdb := digs_lt wd k (V / p)
  generalize digs wd k (V / p) = ds at hi7 h hdl hdb
  have hwl : ws7.length = k := by rw [hi7.length, List.length_map, hdl]
  repeat ((fail_if_success (with_reducible show wpAny _ _ (call (Value.builtin "len") _) _ _ _)); walk1)
  rename Fr _ _ _ _ => F8
  rename News _ _ _ _ => N8
  refine len_list (upList gl F8.keep) (by rw [List.size_toArray]; omega) ?_
  repeat ((fail_if_success (with_reducible show wpAny _ _ (call (Value.builtin "len") _) _ _ _)); walk1)
  refine len_list ⟨oD7, (N8 _ (.tail _ (.head _))).1, cD7, nD7, dD7⟩ (by rw [List.size_toArray]; omega) ?_
  repeat ((fail_if_success (with_reducible show wpAny _ _ (binaryOp Operator.Mult _ _) _ _ _)); walk1)
  have e8 : ((vs.toArray.size : Nat) : Int) - ((ws7.toArray.size : Nat) : Int) = ((rs.length - k : Nat) : Int) := by
    rw [List.size_toArray, List.size_toArray]; omega
  rw [e8]
  refine mul_list_new (vs := [_]) F8 N8 ⟨_, (N8 _ (.head _)).1, rfl, 0, rfl⟩ (IntsAre.cons 0 _ .nil) ?b1 ?b2 ?b3 ?_
  case b1 => omega
  case b2 => omega
  case b3 => rw [Int.toNat_natCast]; show 1 * _ ≤ _; omega
  intro D9 h9 oD9 kD9 F9 N9 cD9 dD9 hlt9
  rw [Int.toNat_natCast] at dD9
  have N9 := newsSub N9 (b := (D9, oD9) :: (D7, oD7) :: xs7) (fun p hp => by
    rcases List.mem_cons.mp hp with rfl | hp
    · exact .head _
    · exact .tail _ (.tail _ hp))
  clear F8 N8
  refine kmk_add_lit F9 N9 ⟨oD7, (N9 _ (.tail _ (.head _))).1, cD7, nD7, dD7⟩ ⟨oD9, (N9 _ (.head _)).1, cD9, kD9, dD9⟩ rfl ?_ (by simp; rw [PySem.sizeLine_eq]; omega)
  intro D10 h10 F10 N10 l10
  rw [show ∀ t : Tok, (ws7.toArray.toList ++ (List.replicate (rs.length - k) [Value.int 0 t]).flatten.toArray.toList) = ws7 ++ (List.replicate (rs.length - k) [Value.int 0 t]).flatten from fun t => by simp] at N10
  have hi10 : ∀ t : Tok, IntsAre (ws7 ++ (List.replicate (rs.length - k) [Value.int 0 t]).flatten) ((ds ++ List.replicate (rs.length - k) 0).map fun (k : Nat) => (k : Int)) := fun t => by
    rw [List.map_append]; exact hi7.append (zeros_are t _)
  have hfl : (ds ++ List.replicate (rs.length - k) 0).length = rs.length := by rw [List.length_append, hdl, List.length_replicate]; omega
  have hx10 : ∃ ys, News (hid s.heap) s.heap.objs.size h10 ((D10, listOf ys.toArray 0) :: xs7) ∧ IntsAre ys ((ds ++ List.replicate (rs.length - k) 0).map fun (k : Nat) => (k : Int)) :=
    ⟨_, newsSub N10 (fun p hp => by
      rcases List.mem_cons.mp hp with rfl | hp
      · exact .head _
      · exact .tail _ (.tail _ (.tail _ hp))), hi10 _⟩
  clear N10 N9 F9
  obtain ⟨ys, N10, hiy⟩ := hx10
  dsimp only at F10 ⊢
  have hgb : ∀ d ∈ (ds ++ List.replicate (rs.length - k) 0).reverse, d < 2 ^ wd := fun d hd => by
    rcases List.mem_append.mp (List.mem_reverse.mp hd) with hd | hd
    · exact hdb d hd
    · rw [(List.mem_replicate.mp hd).2]; exact Nat.pow_pos (by decide)
  generalize ds ++ List.replicate (rs.length - k) 0 = gs at hiy h hfl hgb
  have hyl : ys.length = rs.length := by rw [hiy.length, List.length_map, hfl]
  repeat ((fail_if_success (with_reducible show wpAny _ _ (subscriptTail _ _ _ _) _ _ _)); walk1)
  refine tail_temp ?_
  refine krv_lit (its := ys.toArray) (zs := ys.reverse) F10 N10 ⟨_, (N10 _ (.head _)).1, rfl, _, rfl⟩ (IsPart.int _ _) (by simp) ?_ (by with_unfolding_all rfl) (by intro _; with_unfolding_all rfl) (by rw [List.size_toArray, PySem.sizeLine_eq]; omega)
  intro D11 h11 F11 N11 l11
  have N11 := newsSub N11 (b := (D11, listOf ys.reverse.toArray 0) :: xs7) (fun p hp => by
    rcases List.mem_cons.mp hp with rfl | hp
    · exact .head _
    · exact .tail _ (.tail _ hp))
  clear N10 F10
  have hir := hiy.reverse
  rw [← List.map_reverse] at hir
  have hgl : gs.reverse.length = rs.length := by rw [List.length_reverse, hfl]
  have hyl' : ys.reverse.length = rs.length := by rw [List.length_reverse, hyl]
  generalize ys.reverse = zs at hir N11 hyl'
  generalize gs.reverse = fs at hir h hgl hgb
  obtain ⟨f0, fr, rfl⟩ : ∃ f0 fr, fs = f0 :: fr := by
    cases fs with
    | nil => simp at hgl; omega
    | cons f0 fr => exact ⟨_, _, rfl⟩
  rw [List.map_cons] at hir
  cases hir with
  | cons _ t0 hir =>
  rename_i zr
  repeat ((fail_if_success (with_reducible show wpAny _ _ (subscriptTail _ _ _ _) _ _ _)); walk1)
  rename Fr _ _ _ _ => F12
  rename News _ _ _ _ => N12
  refine item_of ⟨_, (N12 _ (.head _)).1, rfl, _, rfl⟩ (Int.le_refl _) (by decide) (by rfl) ?_
  repeat ((fail_if_success (with_reducible show wpAny _ _ (exec (Stmt.For _ _ _ _ _) _) _ _ _)); walk1)
  rename Fr _ _ _ _ => F13
  rename News _ _ _ _ => N13
  refine For_invVF F13 rfl rfl ?_
  repeat ((fail_if_success (with_reducible show wpAny _ _ (subscriptTail _ _ _ _) _ _ _)); walk1)
  have hzl : zr.length + 1 = rs.length := hyl'
  refine kms_slice_lit (its := (Value.int (↑f0) t0 :: zr).toArray) (zs := zr) F13 N13 ⟨_, (N13 _ (.tail _ (.head _))).1, rfl, _, rfl⟩ (IsPart.int _ _) IsPart.none ?_ ?_ (by with_unfolding_all rfl) (by intro _; with_unfolding_all rfl) (by rw [List.size_toArray, PySem.sizeLine_eq, List.length_cons]; omega)
  · show kms_pick (Value.int (↑f0) t0 :: zr) (some 1) none = zr
    unfold kms_pick kms_lo kms_hi
    simp
  intro D14 h14 F14 N14 l14
  rename_i l' _ l1 _
  have N14 := newsSub N14 (b := (D14, listOf zr.toArray 0) :: (l', listOf #[Value.int (↑f0) t0] 0) :: xs7) (fun p hp => by
    rcases List.mem_cons.mp hp with rfl | hp
    · exact .head _
    · rcases List.mem_cons.mp hp with rfl | hp
      · exact .tail _ (.head _)
      · exact .tail _ (.tail _ (.tail _ hp)))
  have hDl : D14 ≠ l' := Nat.ne_of_gt (l14 _ (.head _))
  have hxl : ∀ q ∈ xs7, q.1 ≠ l' := fun q hq => Nat.ne_of_lt (allLtMem l1.2 q hq)
  have hDx : ∀ q ∈ xs7, q.1 ≠ D14 := fun q hq => Nat.ne_of_lt (l14 q (.tail _ (.tail _ hq)))
  have hzfl : zr.length = fr.length := by rw [hir.length, List.length_map]
  refine list_loop (vs := zr) (fun i m nx => HasInt m "power" p ∧ HasInt m "width" wd ∧ HasInt m "left" ((V % p * un + ld : Nat) : Int) ∧ m "kept" = some (.ref l') ∧ (∀ d ∈ fr.take i, d * p < 2 ^ wd) ∧
      ∃ vs' k, nx = (l', listOf vs'.toArray k) :: xs7 ∧ IntsAre vs' ((f0 :: fr.take i).map fun (k : Nat) => (k : Int))) hh ⟨_, (N14 _ (.head _)).1, rfl, _, rfl⟩ (N14 _ (.head _)).2.1 ?_ F14 (newsSub N14 fun p hp => .tail _ hp) ⟨⟨_, rfl⟩, ⟨_, rfl⟩, ⟨_, rfl⟩, rfl, by simp, [Value.int (↑f0) t0], 0, rfl, .cons _ _ .nil⟩ ?_ ?_
  · intro q hq
    rcases List.mem_cons.mp hq with rfl | hq
    · exact Ne.symm hDl
    · exact hDx q hq
  · rintro i v m₁ news₁ g tk own hv ho ⟨⟨u1, m1⟩, ⟨u2, m2⟩, ⟨u3, m3⟩, m4, hz, vs', kq, rfl, hiq⟩ F N
    replace F : Fr (hid s.heap) s.heap.objs.size g _ := F
    replace N : News (hid s.heap) s.heap.objs.size g ((l', listOf vs'.toArray kq) :: (xs7 ++ own)) := N
    obtain ⟨d', td, rfl, hd'⟩ := hir.at i v hv
    obtain ⟨d, hd, rfl⟩ : ∃ d, fr[i]? = some d ∧ (d : Int) = d' := by
      rw [List.getElem?_map] at hd'
      cases q : fr[i]? with
      | none => rw [q] at hd'; cases hd'
      | some d => rw [q] at hd'; exact ⟨d, rfl, by simpa using hd'⟩
    have hdB := hgb d (.tail _ (List.mem_of_getElem? hd))
    have hm3 : bl d + bl p ≤ 2 ^ 27 := by
      have h1 := bl_le.mpr hdB
      have h2 : bl p ≤ 4 := bl_le.mpr (by omega)
      omega
    have htk : fr.take (i + 1) = fr.take i ++ [d] := by rw [List.take_add_one, hd]; rfl
    have hiN : ∀ t, IntsAre (vs' ++ [.int d t]) ((f0 :: fr.take (i + 1)).map fun (k : Nat) => (k : Int)) := fun t => by
      rw [htk, ← List.cons_append, List.map_append]; exact hiq.append (.cons _ _ .nil)
    have hlv : vs'.length ≤ 10 := by
      rw [hiq.length, List.length_map, List.length_cons, List.length_take]; omega
    repeat ((fail_if_success (with_reducible show wpAny _ _ (binaryOp Operator.Pow _ _) _ _ _)); walk1)
    refine pow_int_small (by omega) (by omega) (by decide) ?_
    rw [two_nat]
    walk_at "toite"
    by_cases hc : 2 ^ wd ≤ d * p
    · rw [if_pos (by rw [decide_eq_true_eq]; omega)]
      walk_at "go"
      show wpAny _ _ (execs [Stmt.Return _ _] _) _ _ _
      walk_at "go"
      rename Fr _ _ _ _ => Fe
      rename News _ _ _ _ => Ne
      have Te := TL7.tabs Fe Ne (fun p hp => .tail _ (.tail _ (List.mem_append.mpr (.inl hp))))
      refine h _ _ _ l' vs' kq _ (hid_keep Fe.keep) Te (hid_new Te (Ne _ (.head _)).2.2 (Ne _ (.head _)).1 rfl) (hid_new Te (Ne _ (.tail _ (.head _))).2.2 (Ne _ (.tail _ (.head _))).1 rfl) (Ne _ (.tail _ (.head _))).1 (Ne.isTup (.head _)) ?_
      show IntsAre vs' ((f0 :: keepF p (2 ^ wd) fr).map _)
      rw [keepF_stop p (2 ^ wd) fr i d hz hd hc]
      exact hiq
    · rw [if_neg (by rw [decide_eq_true_eq]; omega)]
      repeat ((fail_if_success (with_reducible show wpAny _ _ (call (Value.builtin "list.append") _) _ _ _)); walk1)
      rename Fr _ _ _ _ => F8
      rename News _ _ _ _ => N8
      refine append_K F8 N8 (Upd.head fun q hq => ?_) ?_ (hsz := by rw [List.size_toArray, PySem.sizeLine_eq]; omega)
      · rcases List.mem_append.mp hq with hq | hq
        · exact hxl q hq
        · exact ho q hq _ (.head _)
      intro h9 F9 N9
      rw [List.push_toArray] at N9
      walk_at "go"
      rename Fr _ _ _ _ => F10
      refine InvEnd.close (nx := (l', listOf (vs' ++ [Value.int d td]).toArray (kq + 1)) :: xs7) F10 N9 ho ⟨⟨_, m1⟩, ⟨_, m2⟩, ⟨_, m3⟩, m4, ?_, _, _, rfl, hiN _⟩
      intro e he
      rw [htk] at he
      rcases List.mem_append.mp he with he | he
      · exact hz e he
      · rw [List.mem_singleton.mp he]; omega
  · rintro m₁ news₁ h₂ tk₂ ⟨⟨u1, m1⟩, ⟨u2, m2⟩, ⟨u3, m3⟩, m4, hz, vs', kq, rfl, hiq⟩ F N
    replace F : Fr (hid s.heap) s.heap.objs.size h₂ _ := F
    replace N : News (hid s.heap) s.heap.objs.size h₂ _ := N
    rw [hzfl, List.take_length] at hz hiq
    walk_at "go"
    rename Fr _ _ _ _ => Fe
    rename News _ _ _ _ => Ne
    have Te := TL7.tabs Fe Ne (fun p hp => .tail _ (.tail _ hp))
    refine h _ _ _ l' vs' kq _ (hid_keep Fe.keep) Te (hid_new Te (Ne _ (.head _)).2.2 (Ne _ (.head _)).1 rfl) (hid_new Te (Ne _ (.tail _ (.head _))).2.2 (Ne _ (.tail _ (.head _))).1 rfl) (Ne _ (.tail _ (.head _))).1 (Ne.isTup (.head _)) ?_
    show IntsAre vs' ((f0 :: keepF p (2 ^ wd) fr).map _)
    rw [keepF_all p (2 ^ wd) fr hz]
    exact hiq
section
variable {prog : Program} {w : World} {A : Around} {s : Shared} {h₀ : Heap} {L : Addr} {m : Str → Option Value} {env : Env}
theorem compRest_inv {elt : PySem.Expr} {x : Str} {scope : Scope} {cl : List (Str × Addr)} {S : List (Addr × Obj) → Prop} {P : Nat → Value → Prop} {Fin : List Value → List (Addr × Obj) → Prop} {n : Nat} (J : Nat → List Value → List (Addr × Obj) → Prop)
    (step : ∀ i ys news v I oI C oC D m₂ h tk (E' : Value → Shared → Prop), i < n → P i v → J i ys news → LCg.NsObj oC m₂ → m₂ x = some v → Fr h₀ L h m → News h₀ L h ((I, oI) :: (C, oC) :: (D, LCg.lst ys) :: news) → LCg.Off3 I C D news → ((@Ne Nat I C) ∧ (@Ne Nat I D) ∧ (@Ne Nat C D)) →
      wpAny (model prog w) A (eval elt (compEnvC scope cl C env)) (LCg.CompEnd h₀ L m { s with heap := h, toks := tk } I oI C oC D (LCg.lst ys) S (fun y news' => J (i + 1) (ys ++ [y]) news')) E' { s with heap := h, toks := tk })
    (fin : ∀ ys news, J n ys news → Fin ys news) :
    ∀ k i ys news, i + k = n → J i ys news → LCg.CompRest prog w A h₀ L m env elt x scope cl s S P Fin k i ys news := by
  intro k
  induction k with
  | zero => intro i ys news e j; obtain rfl : i = n := by omega
            exact LCg.CompRest.zero (fin _ _ j)
  | succ k ih =>
    intro i ys news e j
    refine LCg.CompRest.succ ?_
    intro v I oI C oC D m₂ h tk E' hP hC hx F N off ne
    refine wpAny_mono (step i ys news v I oI C oC D m₂ h tk E' (by omega) hP j hC hx F N off ne) (fun y s₂ hy => ?_) fun _ _ e => e
    obtain ⟨h', tk', news', e', F', N', off', hS, r⟩ := hy
    exact ⟨h', tk', news', e', F', N', off', hS, ih (i + 1) (ys ++ [y]) news' (by omega) r⟩
end
/-- lists of lists of ints -/
noncomputable def GroupsAre (h : Heap) (vs : List Value) (gs : List (List Nat)) : Prop :=
  vs.length = gs.length ∧ ∀ (i : Nat) g, gs[i]? = some g → ∃ a us, vs[i]? = some (.ref a) ∧ h.IsList a us.toArray ∧ IntsAre us (g.map fun (k : Nat) => (k : Int))
theorem GroupsAre.keep {h h' : Heap} {vs : List Value} {gs : List (List Nat)} (x : GroupsAre h vs gs) (k : ∀ a us, h.IsList a us → h'.IsList a us) : GroupsAre h' vs gs :=
  ⟨x.1, fun i g e => by
    obtain ⟨a, us, e1, e2, e3⟩ := x.2 i g e
    exact ⟨a, us, e1, k _ _ e2, e3⟩⟩
theorem TabOk.butA {T : Addr} {pos : Pos} {qual : Str} {h h' : Heap} {a : Addr} {o : Obj} (x : TabOk T pos qual h) (hne : a ≠ T) (k : ∀ b o, b ≠ a → h.get? b = some o → h'.get? b = some o) (ho : h.get? a = some o) (hd : ∀ vs q t, o.data = .fields vs → vs[1]? = some (.str q t) → False) : TabOk T pos qual h' := by
  rcases x with x | ⟨c', x, c, o2, us, tt, e1, e2, e3, e4⟩
  · exact .inl (k _ _ hne.symm x)
  · refine .inr ⟨c', k _ _ hne.symm x, c, o2, us, tt, e1, k _ _ ?_ e2, e3, e4⟩
    rintro rfl
    rw [ho] at e2; cases e2
    exact hd _ _ _ e3 e4
theorem Tabs.butA {h h' : Heap} {a : Addr} {o : Obj} (x : Tabs h) (hb : 100 < a) (k : ∀ b o, b ≠ a → h.get? b = some o → h'.get? b = some o) (ho : h.get? a = some o) (hd : ∀ vs q t, o.data = .fields vs → vs[1]? = some (.str q t) → False) : Tabs h' :=
  ⟨x.1.butA (Nat.ne_of_gt (Nat.lt_trans (by decide) hb)) k ho hd, x.2.butA (Nat.ne_of_gt (Nat.lt_trans (by decide) hb)) k ho hd⟩
theorem bigNe {a : Nat} (h : 100 < a) : a ≠ 30 ∧ a ≠ 37 := ⟨by omega, by omega⟩
theorem KeepsT.at {h h' : Heap} {a : Addr} (k : KeepsT h h') (hb : 100 < a) : ∀ o, h.get? a = some o → h'.get? a = some o := fun o e => k a o (bigNe hb).1 (bigNe hb).2 e
section
variable {prog : Program} {w : World} {A : Around} {E : Value → Shared → Prop} {s : Shared} {env : Env}
/-- a comprehension over a list, whose element may fill the two tables -/
theorem listComp_T {elt iter : PySem.Expr} {x : Str} {px : Pos} {scope : Scope} {cl : List (Str × Addr)} {pos : Pos} {Q : Value → Shared → Prop} {ax : Addr} {its : Array Value} (G : Nat → List Value → Prop)
    (hh : A.handled = none) (hclos : closureFor scope env = pure cl) (hcell : ∀ y ∈ scope.names, y.2 ≠ .cell) (hkind : scope.kind = .function)
    (hnames : ∀ y ∈ scope.names, y.2 = .local → scope.names.lookup y.1 = some .local) (hx : scope.names.lookup x = some .local)
    (hbig : 100 < s.heap.objs.size) (T : Tabs s.heap) (hl : s.heap.IsList ax its) (hsz : its.size ≤ sizeLine) (h0 : G 0 [])
    (hlen : ∀ i ys, G i ys → ys.length = i)
    (hiter : ∀ Q' : Value → Shared → Prop, Q' (.ref ax) s → wpAny (model prog w) A (eval iter env) Q' E s)
    (step : ∀ i v ys C h tk m₂ E', its[i]? = some v → G i ys → Tabs h → KeepsT s.heap h → h.Ns C m₂ → m₂ x = some v →
      wpAny (model prog w) A (eval elt (compEnvC scope cl C env)) (fun y s' => ∃ h' tk', s' = { s with heap := h', toks := tk' } ∧ KeepsT h h' ∧ Tabs h' ∧ G (i + 1) (ys ++ [y])) E' { s with heap := h, toks := tk })
    (fin : ∀ D h tk ys, G its.size ys → Tabs h → KeepsT s.heap h → s.heap.get? D = none → h.IsList D ys.toArray → Q (.ref D) { s with heap := h, toks := tk })
    (hs : ∀ x, foldedSetIterable iter env x = pure x := by intro _; rfl) :
    wpAny (model prog w) A (eval (.ListComp elt [⟨.Name x px, iter, [], 0⟩] scope pos) env) Q E s := by
  rw [eval_ListComp]
  refine wpAny_comprehension_free (use := none) rfl hs hclos hkind hnames (hiter _ (wpAny_pyIter_list hl (wpAny_newObj_type (hd := by size_fits) (wpAny_newFunctionEnv hcell (by intro y hy; simp at hy) (fun h₁ hns₁ hsb₁ => ?_) hkind))))
  dsimp only at hns₁ hsb₁ ⊢
  have hax : ax < s.heap.objs.size := by obtain ⟨ol, hol, _⟩ := id hl; exact Heap.lt_size hol
  generalize hH1 : s.heap.push { cls := .type "list_iterator", data := .fields #[.ref ax, .int 0 0] } = H1 at hns₁ hsb₁ ⊢
  have hD : H1.objs.size = s.heap.objs.size + 1 := by rw [← hH1, Heap.size_push]
  generalize hH2 : H1.push { cls := .type "list", dict := none, data := .seq ([] : List Value).toArray } = H2 at hns₁ hsb₁ ⊢
  have hC : H2.objs.size = s.heap.objs.size + 2 := by rw [← hH2, Heap.size_push, hD]
  have hDI : H1.objs.size ≠ s.heap.objs.size := by rw [hD]; exact Nat.succ_ne_self _
  have hDC : H1.objs.size ≠ H2.objs.size := by rw [hD, hC]; exact Nat.ne_of_lt (Nat.lt_succ_self _)
  have hIC : s.heap.objs.size ≠ H2.objs.size := by rw [hC]; exact Nat.ne_of_lt (Nat.lt_succ_of_lt (Nat.lt_succ_self _))
  have bI : 100 < s.heap.objs.size := hbig
  have bD : 100 < H1.objs.size := by rw [hD]; exact Nat.lt_succ_of_lt hbig
  have bC : 100 < H2.objs.size := by rw [hC]; exact Nat.lt_succ_of_lt (Nat.lt_succ_of_lt hbig)
  have below : ∀ b, b < s.heap.objs.size → b ≠ H2.objs.size ∧ b ≠ s.heap.objs.size ∧ b ≠ H1.objs.size := fun b hb =>
    ⟨by rw [hC]; exact Nat.ne_of_lt (Nat.lt_succ_of_lt (Nat.lt_succ_of_lt hb)), Nat.ne_of_lt hb, by rw [hD]; exact Nat.ne_of_lt (Nat.lt_succ_of_lt hb)⟩
  have old : ∀ b o, s.heap.get? b = some o → h₁.get? b = some o := fun b o e =>
    hsb₁.extBut b o (below b (Heap.lt_size e)).1 (Heap.get?_push_of_some _ (hH2 ▸ Heap.get?_push_of_some _ (hH1 ▸ Heap.get?_push_of_some _ e)))
  have hit : h₁.IsListIter s.heap.objs.size ax 0 :=
    ⟨_, hsb₁.extBut _ _ hIC (Heap.get?_push_of_some _ (hH2 ▸ Heap.get?_push_of_some _ (hH1 ▸ Heap.get?_push_size _ rfl))), rfl, rfl⟩
  have hacc : h₁.IsList H1.objs.size #[] := ⟨_, hsb₁.extBut _ _ hDC (Heap.get?_push_of_some _ (hH2 ▸ Heap.get?_push_size _ rfl)), rfl, _, rfl⟩
  have hl₁ : h₁.IsList ax its := hl.at fun o e => old _ _ e
  have fresh : ∀ a, s.heap.objs.size ≤ a → s.heap.get? a = none := fun a ha => by
    cases e : s.heap.get? a with
    | none => rfl
    | some o' => exact absurd (Heap.lt_size e) (Nat.not_lt.mpr ha)
  have ax30 : ax ≠ 30 ∧ ax ≠ 37 := by
    obtain ⟨o, e, c, n, hd⟩ := id hl
    constructor
    · rintro rfl
      rcases T.1 with y | ⟨c2, y, _⟩ <;>
      · rw [y] at e; cases e; cases hd
    · rintro rfl
      rcases T.2 with y | ⟨c2, y, _⟩ <;>
      · rw [y] at e; cases e; cases hd
  have iterNo : ∀ (o : Obj) (z : Value), o.data = .fields #[.ref ax, z] → (∀ q t, z ≠ .str q t) → ∀ vs q t, o.data = .fields vs → vs[1]? = some (.str q t) → False := by
    intro o z e hz vs q t e2 e3
    rw [e] at e2; cases e2
    simp at e3
    exact hz _ _ e3
  have loop : ∀ s₂ : Shared, s₂ = { s with heap := h₁, toks := s.toks + ([] : List (Str × Value)).length } →
      codeAny (model prog w) A (.compLoop (.ListComp elt [⟨.Name x px, iter, [], 0⟩] scope pos) 0 (.ref s.heap.objs.size) (.ref H1.objs.size) (compEnvC scope cl H2.objs.size env))
        (compPost (model prog w) A E none Q (.ref H1.objs.size) H2.objs.size) s₂ := by
    rintro s₂ rfl
    refine codeAny_compLoop_tests
      (fun k s' => ∃ h' tk m' ys i, s' = { s with heap := h', toks := tk } ∧ h'.IsListIter s.heap.objs.size ax i ∧ h'.IsList ax its ∧ h'.IsList H1.objs.size (List.toArray ys) ∧ h'.Ns H2.objs.size m' ∧ Tabs h' ∧ KeepsT s.heap h' ∧ G i ys ∧ i ≤ its.size ∧ k = its.size + 1 - i)
      ?_ (its.size + 1) ⟨h₁, _, _, [], 0, rfl, hit, hl₁, hacc, hns₁, T.keep old, KeepsT.of old, h0, Nat.zero_le _, rfl⟩
    rintro k s' ⟨h', tk, m', ys, i, rfl, hit', hl', hacc', hn', T', kt', g', hi, rfl⟩
    cases hv : its[i]? with
    | none =>
      have hge : its.size ≤ i := by simpa using hv
      obtain rfl : i = its.size := Nat.le_antisymm hi hge
      refine wpAny_pyNext_list_end hh hit' hl' hv fun h₂ he₂ => ?_
      have T₂ : Tabs h₂ := by
        obtain ⟨o, eo, _, ed⟩ := hit'
        exact T'.butA bI (fun b o hb e => he₂ b o hb e) eo (iterNo o _ ed (by intro q t e; cases e))
      refine ⟨m', hn'.extBut he₂ (Ne.symm hIC), fun h₃ hs₃ => ?_⟩
      have hn₂ := hn'.extBut he₂ (Ne.symm hIC)
      refine fin _ h₃ tk ys g' ?_ ?_ (fresh _ (by rw [hD]; exact Nat.le_succ _)) ((hacc'.extBut he₂ hDI).extBut hs₃.extBut hDC)
      · obtain ⟨o, es, ep, eo, ed, _⟩ := hn₂
        exact T₂.butA bC (fun b o hb e => hs₃.extBut b o hb e) eo (by intro vs q t e; rw [ed] at e; cases e)
      · intro b o h1 h2 e
        have z := kt' b o h1 h2 e
        have q := below b (Heap.lt_size e)
        exact hs₃.extBut b o q.1 (he₂ b o q.2.1 z)
    | some v =>
      have hlt : i < its.size := (Array.getElem?_eq_some_iff.mp hv).1
      refine wpAny_pyNext_list_item hit' hl' hv fun h₂ hit₂ hs₂ => ?_
      have T₂ : Tabs h₂ := by
        obtain ⟨o, eo, _, ed⟩ := hit'
        exact T'.butA bI (fun b o hb e => hs₂.extBut b o hb e) eo (iterNo o _ ed (by intro q t e; cases e))
      have hn₂ := hn'.sameBut hs₂ (Ne.symm hIC)
      refine wpAny_assign_Name (wpAny_storeName_local (lookup_relabel_local hx) hn₂ (fun h₃ hn₃ hs₃ => ?_) (by simp [compEnvC, relabel, hkind]))
      refine wpAny_tests_nil ?_
      simp only [if_true]
      have T₃ : Tabs h₃ := by
        obtain ⟨o, es, ep, eo, ed, _⟩ := hn₂
        exact T₂.butA bC (fun b o hb e => hs₃.extBut b o hb e) eo (by intro vs q t e; rw [ed] at e; cases e)
      have kt₃ : KeepsT s.heap h₃ := fun b o h1 h2 e => by
        have q := below b (Heap.lt_size e)
        exact hs₃.extBut b o q.1 (hs₂.extBut b o q.2.1 (kt' b o h1 h2 e))
      have hit₃ : h₃.IsListIter s.heap.objs.size ax (i + 1) := hit₂.extBut hs₃.extBut hIC
      have hl₃ : h₃.IsList ax its := (hl'.extBut hs₂.extBut (below ax hax).2.1).extBut hs₃.extBut (below ax hax).1
      have hacc₃ : h₃.IsList H1.objs.size (List.toArray ys) := (hacc'.extBut hs₂.extBut hDI).extBut hs₃.extBut hDC
      refine wpAny_mono (step i v ys _ h₃ _ _ _ hv g' T₃ kt₃ hn₃ (by simp)) (fun y s₄ h₄ => ?_) fun _ _ e => e
      obtain ⟨h₄, tk₄, rfl, k₄, T₄, g₄⟩ := h₄
      have hacc₄ : h₄.IsList H1.objs.size (List.toArray ys) := hacc₃.at (k₄.at bD)
      have hit₄ : h₄.IsListIter s.heap.objs.size ax (i + 1) := hit₃.at (k₄.at bI)
      have hl₄ : h₄.IsList ax its := hl₃.at fun o e => k₄ _ _ ax30.1 ax30.2 e
      have hn₄ := hn₃.at' (k₄.at bC)
      have hys := hlen _ _ g'
      refine wpAny_list_append (hsz := by rw [List.size_toArray, hys]; exact Nat.le_trans hi hsz) hacc₄ fun h₅ hl₅ hs₅ => ?_
      rw [List.push_toArray] at hl₅
      have T₅ : Tabs h₅ := by
        obtain ⟨o, eo, _, n, ed⟩ := hacc₄
        exact T₄.butA bD (fun b o hb e => hs₅.extBut b o hb e) eo (by intro vs q t e; rw [ed] at e; cases e)
      refine ⟨its.size + 1 - (i + 1), by omega, h₅, tk₄, _, ys ++ [y], i + 1, rfl, hit₄.extBut hs₅.extBut (Ne.symm hDI), hl₄.extBut hs₅.extBut (below ax hax).2.2, hl₅, hn₄.sameBut hs₅ (Ne.symm hDC), T₅, ?_, g₄, hlt, rfl⟩
      intro b o h1 h2 e
      exact hs₅.extBut b o (below b (Heap.lt_size e)).2.2 (k₄ b o h1 h2 (kt₃ b o h1 h2 e))
  exact codeAny_compStart_list (loop _ rfl) (wpAny_pyIter_listiter hit (loop _ rfl))
end
section
section
variable {M : Model} {A : Around} {E : Value → Shared → Prop} {s : Shared} {C c : Addr} {m₂ : Str → Option Value} {scope : Scope} {cl : List (Str × Addr)} {env : Env} {x : Str} {pos : Pos} {v : Value} {o : Obj} {Q : Value → Shared → Prop}
theorem cv_own (hC : s.heap.Ns C m₂) (hx : m₂ x = some v) (h : Q v s) (hk : (compEnvC scope cl C env).scope.kind = .function) (hl : (compEnvC scope cl C env).kindOf x = some .local) (hd : (x == ("__debug__" : Str)) = false) :
    wpAny M A (eval (.Name x pos) (compEnvC scope cl C env)) Q E s := ldVarK hC hx h hk hl hd
theorem cv_cell (hc : cl.lookup x = some c) (hm : s.heap.get? c = some o) (hd : o.data = .cell (some v)) (h : Q v s)
    (hk : (compEnvC scope cl C env).scope.kind = .function) (hx : (compEnvC scope cl C env).kindOf x = some .cell) (hb : (x == ("__debug__" : Str)) = false) :
    wpAny M A (eval (.Name x pos) (compEnvC scope cl C env)) Q E s := wpAny_Name (wpAny_loadName_cell hk hx hc ⟨o, hm, hd⟩ h) hb
end
local macro_rules | `(tactic| walk_at "eval Name") => `(tactic| ((with_reducible show wpAny _ _ (eval (Expr.Name _ _) (envX _ _ _ _ _ _)) _ _ _); first
  | ((refine' cl_local ?hF ?hv ?_ ?hk ?hx ?hd); (case hk => with_unfolding_all exact rfl); (case hx => kernel_rfl); (case hd => decide +kernel); (case hF => with_reducible assumption); (case hv => walk_at "look"))
  | ((refine' cl_free ?hF ?hc ?hv ?_ ?hk ?hx ?hb ?hn); (case hk => with_unfolding_all exact rfl); (case hx => kernel_rfl); (case hb => decide +kernel); (case hn => decide +kernel); (case hF => with_reducible assumption); (case hc => (with_reducible assumption)); (case hv => with_reducible assumption))))
local macro_rules | `(tactic| walk_at "eval Name") => `(tactic| ((with_reducible show wpAny _ _ (eval (Expr.Name _ _) (compEnvC _ _ _ _)) _ _ _); first
  | ((refine' cv_own ?hC ?hx ?_ ?hk ?hl ?hd); (case hC => with_reducible assumption); (case hx => with_reducible assumption); (case hk => with_unfolding_all exact rfl); (case hl => kernel_rfl); (case hd => decide +kernel))
  | ((refine' cv_cell ?hc ?hm ?hd ?_ ?hk ?hx ?hb); (case hc => with_reducible assumption); (case hm => with_reducible assumption); (case hd => with_reducible assumption); (case hk => with_unfolding_all exact rfl); (case hx => kernel_rfl); (case hb => decide +kernel))))
set_option maxHeartbeats 4000000 in
theorem s_law_rests {w : World} {A : Around} {mg mb : Str → Option Value} {g₀ : Heap} {lo : List Str} {mean : ExcName → Option Value} {s : Shared} {a : Addr} {vs : List Value} {gs : List (List Nat)} {wd : Nat} {t1 : Tok} {Q E : Value → Shared → Prop}
    (P : Pre w A 16 160 mg mb g₀) (TP : Top topProg lo mean mg mb g₀) (kg : Keeps g₀ s.heap) (h30 : g₀.get? 30 = none) (h37 : g₀.get? 37 = none) (hT : Tabs s.heap)
    (hl : s.heap.IsList a vs.toArray) (hi : GroupsAre s.heap vs gs) (hr : ∀ g ∈ gs, g.length ≤ 8 ∧ ∀ r ∈ g, r < 2 ^ wd) (hlen : gs.length ≤ 8) (hwd : 9 ≤ wd ∧ wd ≤ 1000)
    (h : ∀ h' tk' D ws, KeepsT s.heap h' → Tabs h' → s.heap.get? D = none → h'.IsList D ws.toArray →
      IntsAre ws ((gs.map fun g => valD (2 ^ wd) g % (2 ^ wd - 1)).map fun (k : Nat) => (k : Int)) → Q (.ref D) { s with heap := h', toks := tk' }) :
    wpAny (model pw w) A (call (.ref 199) [.ref a, .int wd t1]) Q E s := by
  have hbig : 100 < s.heap.objs.size := Nat.lt_trans (by decide) (Heap.lt_size ((P.K.keeps kg) 204 _ rfl))
  refine enter_cells (binds := [("groups", .ref a), ("width", .int wd t1)]) (P.keeps kg) rfl rfl rfl ?hkind ?hnd ?_
  case hkind =>
    intro n x hx
    rcases List.mem_cons.mp hx with rfl | hx
    · exact .inl (by kernel_rfl)
    · rw [List.mem_singleton.mp hx]; exact .inr ⟨by kernel_rfl, by kernel_rfl⟩
  case hnd => decide +kernel
  intro h₁ tk cells F0 N0 Y P0
  have kh : Keeps g₀ (hid s.heap) := keepsHid kg h30 h37
  have P' : Pre w _ 15 157 mg mb (hid s.heap) := ⟨P0.hh, P0.room, P0.units, P.K.keeps kh, P.T.keeps kh⟩
  have TP' := TP.keeps kh
  have X := P'.K
  have T := P'.T
  have hh := P'.hh
  obtain ⟨o1, rfl, hd1⟩ := Y.one
  replace hd1 : o1.data = .cell (some (.int wd t1)) := hd1
  clear Y
  have F : Fr (hid s.heap) s.heap.objs.size h₁ (fun y => if y = Str.ofString "groups" then some (.ref a) else none) := Fr.hid F0
  have gl := hidList hT hl
  have hi' := hi.keep fun a us x => hidList hT x
  obtain ⟨xs0, TL0, Nx⟩ := (hT.keep F0.keep).led F
  have N := newsCons (N0 _ (.head _)).1 (N0 _ (.head _)).2.1 (hid_none (N0 _ (.head _)).2.2) Nx
  clear F0 N0 P0 Nx
  rw [envOfC_eq] at P' hh ⊢
  have ec : ∀ L : Nat, cellsFrom (L + 1) [(Str.ofString "groups", NameKind.local), (Str.ofString "width", NameKind.cell)] [] = [(Str.ofString "width", L + 1)] := fun L => by kernel_rfl
  dsimp only at P' hh N ⊢
  rw [ec] at P' hh ⊢
  repeat ((fail_if_success (with_reducible show wpAny _ _ (eval (Expr.ListComp _ _ _ _) _) _ _ _)); walk1)
  have hvl : vs.length = gs.length := hi'.1
  have T0 : Tabs h₁ := TL0.tabs F N (fun p hp => .tail _ hp)
  have hs1 : s.heap.objs.size + 1 < h₁.objs.size := Heap.lt_size (N _ (.head _)).1
  have hwd1 : 0 < 2 ^ wd := Nat.pow_pos (by decide)
  have h29 : 2 ^ 9 ≤ 2 ^ wd := Nat.pow_le_pow_right (by decide) hwd.1
  have e29 : 2 ^ 9 = 512 := rfl
  have hblw : bl (2 ^ wd - 1) = wd := by
    refine Nat.le_antisymm (bl_le.mpr (by omega)) (Nat.le_of_not_lt fun hc => ?_)
    have h1 := bl_le.mp (Nat.le_sub_one_of_lt hc)
    have h2 : 2 ^ wd = 2 * 2 ^ (wd - 1) := by rw [← Nat.pow_succ']; congr 1; omega
    have h3 : 2 ≤ 2 ^ (wd - 1) := by
      have := Nat.pow_le_pow_right (n := 2) (by decide) (show 1 ≤ wd - 1 by omega)
      simpa using this
    omega
  refine listComp_T (cl := [(Str.ofString "width", s.heap.objs.size + 1)]) (ax := a) (its := vs.toArray) (fun i ys => IntsAre ys (((gs.take i).map fun g => valD (2 ^ wd) g % (2 ^ wd - 1)).map fun (k : Nat) => (k : Int)) ∧ i ≤ gs.length)
    hh (by with_unfolding_all rfl) (by decide) (by rfl) (by decide) (by rfl) (Nat.lt_trans hbig (Nat.lt_of_succ_lt hs1)) T0 (upList gl F.keep) (by rw [List.size_toArray, PySem.sizeLine_eq]; omega) ⟨.nil, Nat.zero_le _⟩ ?_ ?_ ?_ ?_
  · rintro i ys ⟨hys, hi⟩
    rw [hys.length, List.length_map, List.length_map, List.length_take]; omega
  · intro Q' hq
    walk1
    exact hq
  · rintro i v ys C h2 tk2 m₂ E' hv ⟨hys, hig⟩ T2 kt2 hC hx
    have hv' : vs[i]? = some v := by simpa using hv
    have hin' : i < gs.length := by have := (List.getElem?_eq_some_iff.mp hv').1; omega
    obtain ⟨g, hg⟩ : ∃ g, gs[i]? = some g := ⟨_, List.getElem?_eq_getElem hin'⟩
    obtain ⟨b, us, e1, e2, e3⟩ := hi'.2 i g hg
    rw [hv'] at e1
    obtain rfl := Option.some.inj e1
    obtain ⟨hg8, hgr⟩ := hr g (List.mem_of_getElem? hg)
    have hwc : List.lookup (Str.ofString "width") [(Str.ofString "width", s.heap.objs.size + 1)] = some (s.heap.objs.size + 1) := by kernel_rfl
    replace F := frT F kt2 (hid30 _) (hid37 _) hbig
    have hw1 : h2.get? (s.heap.objs.size + 1) = some o1 := kt2.at (Nat.lt_succ_of_lt hbig) _ (N _ (.head _)).1
    obtain ⟨oC, eC, hoC⟩ := LCg.ns_obj hC
    have hCL : True := trivial
    walk_at "tocall"
    have hl3 : h2.IsList b us.toArray := upList e2 F.keep
    refine s_digits2int (vs := us) (ns := g) (n := wd) (P'.less (by decide) (by decide)) TP' F.keep (hid37 _) T2.2 hl3 e3 hgr (by omega) (by omega) ?_
    intro h3 tk3 u3 kp3 hT3
    have T3 := T2.after37 kp3 hT3
    have F3 := frT F (KeepsT.but37 kp3) (hid30 _) (hid37 _) hbig
    have hw3 : h3.get? (s.heap.objs.size + 1) = some o1 := (KeepsT.but37 kp3).at (Nat.lt_succ_of_lt hbig) _ hw1
    clear F hw1 hC
    repeat ((fail_if_success (with_reducible show wpAny _ _ (binaryOp Operator.Pow _ _) _ _ _)); walk1)
    refine pow_int_small (by omega) (by omega) (by decide) ?_
    rw [two_nat]
    repeat ((fail_if_success (with_reducible show wpAny _ _ (binaryOp Operator.Sub _ _) _ _ _)); walk1)
    refine nsub (r := 1) hwd1 ?_
    walk_at "tocall"
    refine s_divmod_pos (P'.less (by decide) (by decide)) TP' F3.keep (hid30 _) (hid37 _) T3 (by omega) (Nat.lt_of_lt_of_le (Nat.sub_lt hwd1 (by decide)) (Nat.pow_le_pow_right (by decide) (by omega))) ?_ ?_
    · rw [hblw]
      have h1 := valD_lt (2 ^ wd) hwd1 g hgr
      rw [← Nat.pow_mul] at h1
      exact Nat.lt_of_lt_of_le h1 (Nat.pow_le_pow_right (by decide) (by rw [Nat.mul_comm 64]; exact Nat.mul_le_mul_left _ (by omega)))
    intro h4 tk4 d4 u4 u4' kp4 T4 hd4 htup
    repeat ((fail_if_success (with_reducible show wpAny _ _ (subscriptTail _ _ _ _) _ _ _)); walk1)
    refine tail_temp ?_
    refine item_tuple htup (by decide) (by decide) (j := 1) (by rfl) (by rfl) ?_
    refine ⟨h4, _, rfl, (KeepsT.but37 kp3).trans kp4, T4, ?_, by omega⟩
    rw [List.take_add_one, hg, Option.toList_some, List.map_append, List.map_append]
    exact hys.append (.cons _ _ .nil)
  · rintro D h2 tk2 ys ⟨hys, _⟩ T2 kt2 hDn hDl
    rw [List.size_toArray, hvl, List.take_length] at hys
    refine h h2 tk2 D ys (fun b o h1 h2 e => kt2 b o h1 h2 (F.keep b o (hid_get e h1 h2))) T2 ?_ hDl hys
    cases q : s.heap.get? D with
    | none => rfl
    | some o' =>
      exfalso
      obtain ⟨o, e, c, n, hd⟩ := hDl
      have n1 : D ≠ 30 := by
        rintro rfl
        rcases T2.1 with y | ⟨c2, y, _⟩ <;>
        · rw [y] at e; cases e; cases hd
      have n2 : D ≠ 37 := by
        rintro rfl
        rcases T2.2 with y | ⟨c2, y, _⟩ <;>
        · rw [y] at e; cases e; cases hd
      have := F.keep _ _ (hid_get q n1 n2)
      rw [hDn] at this; cases this
end
theorem strs_append : ∀ {vs ws : List Value} {xs ys : List Str}, StrsAre vs xs → StrsAre ws ys → StrsAre (vs ++ ws) (xs ++ ys)
  | _, _, _, _, .nil, h => h
  | _, _, _, _, .cons x t r, h => .cons x t (strs_append r h)
noncomputable def refsOf (older : List (Addr × Obj)) (gl : Addr) : List Value := (older.map fun (p : Addr × Obj) => Value.ref p.1) ++ [Value.ref gl]
theorem refs_len (older : List (Addr × Obj)) (gl : Addr) : (refsOf older gl).length = older.length + 1 := by simp [refsOf]
theorem refs_last (older : List (Addr × Obj)) (gl : Addr) : (refsOf older gl)[older.length]? = some (.ref gl) := by
  unfold refsOf
  rw [List.getElem?_append_right (by rw [List.length_map]; exact Nat.le_refl _), List.length_map, Nat.sub_self]; rfl
theorem refs_snoc (older : List (Addr × Obj)) (gl g2 : Addr) (o : Obj) : refsOf older gl ++ [.ref g2] = refsOf (older ++ [(gl, o)]) g2 := by simp [refsOf]
/-- groups so far, the group at hand, letters so far -/
noncomputable def gstep (st : List (List Nat) × List Nat × List (List Nat)) (fr : List Nat × Nat) : List (List Nat) × List Nat × List (List Nat) :=
  if fr.1 = [] then (st.1, st.2.1 ++ [fr.2], st.2.2) else (st.1 ++ [st.2.1], [fr.2], st.2.2 ++ [fr.1])
noncomputable def groupsG (r0 : Nat) (rest : List Nat) (fs : List (List Nat)) : List (List Nat) × List Nat × List (List Nat) := (fs.zip rest).foldl gstep ([], [r0], [])
/-- the ledger of the groups that are shut -/
noncomputable def OldAre (older : List (Addr × Obj)) (gs : List (List Nat)) : Prop :=
  older.length = gs.length ∧ ∀ (i : Nat) g, gs[i]? = some g → ∃ a us k, older[i]? = some (a, listOf (List.toArray us) k) ∧ IntsAre us (g.map fun (k : Nat) => (k : Int))
theorem OldAre.snoc {older : List (Addr × Obj)} {gs : List (List Nat)} {a : Addr} {us : List Value} {k : Nat} {g : List Nat} (x : OldAre older gs) (hi : IntsAre us (g.map fun (k : Nat) => (k : Int))) : OldAre (older ++ [(a, listOf us.toArray k)]) (gs ++ [g]) := by
  refine ⟨by rw [List.length_append, List.length_append, x.1]; rfl, fun i g' e => ?_⟩
  by_cases h : i < gs.length
  · rw [List.getElem?_append_left h] at e
    obtain ⟨a', us', k', e1, e2⟩ := x.2 i g' e
    exact ⟨a', us', k', by rw [List.getElem?_append_left (by rw [x.1]; exact h)]; exact e1, e2⟩
  · rw [List.getElem?_append_right (by omega)] at e
    have hlt := (List.getElem?_eq_some_iff.mp e).1
    have h0 : i - gs.length = 0 := by simp at hlt; omega
    rw [h0] at e
    obtain rfl : g = g' := by simpa using e
    exact ⟨a, us, k, by rw [List.getElem?_append_right (by rw [x.1]; omega), x.1, h0]; rfl, hi⟩
theorem groups_of {h₀ h : Heap} {L : Addr} {older all : List (Addr × Obj)} {gs : List (List Nat)} {gl : Addr} {us : List Value} {k : Nat} {g : List Nat} (N : News h₀ L h all) (x : OldAre older gs) (hi : IntsAre us (g.map fun (k : Nat) => (k : Int)))
    (hs : ∀ p ∈ older, p ∈ all) (hm : (gl, listOf us.toArray k) ∈ all) : GroupsAre h (refsOf older gl) (gs ++ [g]) := by
  have y := x.snoc (a := gl) (k := k) hi
  have e0 : refsOf older gl = (older ++ [(gl, listOf us.toArray k)]).map fun p => Value.ref p.1 := by simp [refsOf]
  refine ⟨by rw [e0, List.length_map]; exact y.1, fun i g' e => ?_⟩
  obtain ⟨a', us', k', e1, e2⟩ := y.2 i g' e
  refine ⟨a', us', by rw [e0, List.getElem?_map, e1]; rfl, ⟨_, (N (a', listOf us'.toArray k') ?_).1, rfl, _, rfl⟩, e2⟩
  rcases List.mem_append.mp (List.mem_of_getElem? e1) with hm' | hm'
  · exact hs _ hm'
  · rw [List.mem_singleton.mp hm']; exact hm
set_option maxHeartbeats 4000000 in
theorem s_law_groups {w : World} {A : Around} {mg mb : Str → Option Value} {s : Shared} {a b : Addr} {vs ws : List Value} {r0 : Nat} {rest : List Nat} {fs : List (List Nat)} {Q E : Value → Shared → Prop}
    (P : Pre w A 2 100 mg mb s.heap) (hl : s.heap.IsList a vs.toArray) (hi : IntsAre vs ((r0 :: rest).map fun (k : Nat) => (k : Int))) (hl2 : s.heap.IsList b ws.toArray) (hs : TextsAre ws fs)
    (hlen : rest.length ≤ fs.length) (hsz : rest.length ≤ 20)
    (h : ∀ h' tk' d G Le vg wl, Keeps s.heap h' → IsTup h' d #[.ref G, .ref Le] → h'.IsList G (List.toArray vg) → GroupsAre h' vg ((groupsG r0 rest fs).1 ++ [(groupsG r0 rest fs).2.1]) → h'.IsList Le (List.toArray wl) → TextsAre wl (groupsG r0 rest fs).2.2 →
      Q (.ref d) { s with heap := h', toks := tk' }) :
    wpAny (model pw w) A (call (.ref 187) [.ref a, .ref b]) Q E s := by
  refine enter (binds := [("runs", .ref a), ("folds", .ref b)]) P rfl rfl rfl rfl ?_
  intro h₁ F P'
  have X := P'.K
  have T := P'.T
  have hh := P'.hh
  have N : News s.heap s.heap.objs.size h₁ [] := News.nil
  rw [List.map_cons] at hi
  have hvl : vs.length = rest.length + 1 := by rw [hi.length, List.length_cons, List.length_map]
  obtain ⟨t0, zr, rfl, hir⟩ : ∃ t0 zr, vs = .int r0 t0 :: zr ∧ IntsAre zr (rest.map fun (k : Nat) => (k : Int)) := by
    cases hi with
    | cons _ t0 hir => exact ⟨t0, _, rfl, hir⟩
  repeat ((fail_if_success (with_reducible show wpAny _ _ (subscriptTail _ _ _ _) _ _ _)); walk1)
  rename Fr _ _ _ _ => F1
  rename News _ _ _ _ => N1
  refine item_of (upList hl F1.keep) (Int.le_refl _) (by decide) (by rfl) ?_
  repeat ((fail_if_success (with_reducible show wpAny _ _ (exec (Stmt.For _ _ _ _ _) _) _ _ _)); walk1)
  rename Fr _ _ _ _ => F2
  rename News _ _ _ _ => N2
  rename_i gl _ _ G _ lG _ _ Le _ lL _
  refine For_invVF F2 rfl rfl ?_
  repeat ((fail_if_success (with_reducible show wpAny _ _ (call (Value.builtin "len") _) _ _ _)); walk1)
  refine len_list (upList hl F2.keep) (by rw [List.size_toArray]; omega) ?_
  repeat ((fail_if_success (with_reducible show wpAny _ _ (pyIter _) _ _ _)); walk1)
  rename IsRange _ _ _ _ _ _ _ _ => hr
  rename Fr _ _ _ _ => F3
  rename News _ _ _ _ => N3
  have hL1 : Le ≠ G := Nat.ne_of_gt lL.1
  have hL2 : Le ≠ gl := Nat.ne_of_gt lL.2
  have hG1 : G ≠ gl := Nat.ne_of_gt lG
  have hL1' : Le ≠ G := hL1
  have lnn : List.length ((r0 : Int) :: rest.map fun (k : Nat) => (k : Int)) = rest.length + 1 := by rw [List.length_cons, List.length_map]
  have lz : (Value.int r0 t0 :: zr).length = rest.length + 1 := hvl
  refine range_loop (n := rest.length) (fun i m nx => m "runs" = some (.ref a) ∧ m "folds" = some (.ref b) ∧ m "groups" = some (.ref G) ∧ m "letters" = some (.ref Le) ∧
      ∃ gl older wl us k1 k2 k3, nx = (Le, listOf (List.toArray wl) k1) :: (G, listOf (refsOf older gl).toArray k2) :: (gl, listOf (List.toArray us) k3) :: older ∧
        OldAre older (((fs.zip rest).take i).foldl gstep ([], [r0], [])).1 ∧ IntsAre us ((((fs.zip rest).take i).foldl gstep ([], [r0], [])).2.1.map fun (k : Nat) => (k : Int)) ∧ TextsAre wl (((fs.zip rest).take i).foldl gstep ([], [r0], [])).2.2 ∧
        Le ≠ gl ∧ G ≠ gl ∧ (∀ p ∈ older, p.1 ≠ Le ∧ p.1 ≠ G ∧ p.1 ≠ gl) ∧ older.length ≤ i ∧ us.length ≤ i + 1 ∧ wl.length ≤ i) hh hr ?_ ?_ F3 N3 ⟨rfl, rfl, rfl, rfl, gl, [], [], [_], 0, 0, 0, rfl, ⟨rfl, by simp⟩, .cons _ _ .nil, .nil, hL2, hG1, by simp, Nat.zero_le _, Nat.le_refl _, Nat.zero_le _⟩ ?_ ?_
  · rw [lnn]; exact small_one (by omega) (by omega) (by omega) (by omega)
  · rw [lnn, rangeSize_nat]; omega
  · rintro i t m₁ news₁ g tk own hin ho ⟨m1, m2, m3, m4, gl, older, wl, us, k1, k2, k3, rfl, hold, hus, hwl, n1, n2, n3, b1, b2, b3⟩ F N
    replace F : Fr s.heap s.heap.objs.size g _ := F
    replace N : News s.heap s.heap.objs.size g ((Le, listOf (List.toArray wl) k1) :: (G, listOf (refsOf older gl).toArray k2) :: (gl, listOf (List.toArray us) k3) :: (older ++ own)) := N
    have e1 : fs[i]? = some (fs[i]'(by omega)) := List.getElem?_eq_getElem (by omega)
    have e2 : rest[i]? = some (rest[i]'(by omega)) := List.getElem?_eq_getElem (by omega)
    generalize fs[i]'(by omega) = f at e1
    generalize rest[i]'(by omega) = r at e2
    have e3 : (fs.zip rest)[i]? = some (f, r) := by rw [List.getElem?_zip_eq_some]; exact ⟨e1, e2⟩
    have htk : ((fs.zip rest).take (i + 1)).foldl gstep ([], [r0], []) = gstep (((fs.zip rest).take i).foldl gstep ([], [r0], [])) (f, r) := by
      rw [List.take_add_one, e3, List.foldl_append]; rfl
    rw [htk]
    generalize ((fs.zip rest).take i).foldl gstep ([], [r0], []) = st at hold hus hwl ⊢
    obtain ⟨tf, hwf⟩ := hs.at e1
    obtain ⟨tr, hzr⟩ : ∃ t, zr[i]? = some (.int r t) := by
      have hz : i < zr.length := by rw [hir.length, List.length_map]; exact hin
      obtain ⟨n', t', e4, e5⟩ := hir.at i _ (List.getElem?_eq_getElem hz)
      rw [List.getElem?_map, e2] at e5
      obtain rfl : (r : Int) = n' := by simpa using e5
      exact ⟨t', by rw [List.getElem?_eq_getElem hz, e4]⟩
    repeat ((fail_if_success (with_reducible show wpAny _ _ (subscriptTail _ _ _ _) _ _ _)); walk1)
    rename Fr _ _ _ _ => F4
    rename News _ _ _ _ => N4
    refine item_of (upList hl2 F4.keep) (by omega) (by omega) (by rw [show (1 + (i : Int) - 1).toNat = i by omega]; exact hwf) ?_
    walk_at "toite"
    have hfe : ((⟨f.toArray⟩ : Str) == Str.ofString "") = decide (f = []) := by
      by_cases hf : f = []
      · subst hf; decide
      · rw [decide_eq_false hf, beq_eq_false_iff_ne]
        intro e
        have e' := congrArg (fun s : Str => s.cps.toList) e
        simp only [List.toList_toArray] at e'
        exact hf e'
    rw [hfe]
    have hj : seqIndex? (-1) (refsOf older gl).length = some older.length := by
      rw [refs_len]
      unfold seqIndex?
      simp
      omega
    have hxz : (Value.int r0 t0 :: zr)[(1 + (i : Int)).toNat]? = some (.int r tr) := by
      rw [show (1 + (i : Int)).toNat = i + 1 by omega]; simpa using hzr
    by_cases hf : f = []
    · rw [if_pos (by simpa using hf)]
      have hst : gstep st (f, r) = (st.1, st.2.1 ++ [r], st.2.2) := by unfold gstep; rw [if_pos hf]
      rw [hst]
      repeat ((fail_if_success (with_reducible show wpAny _ _ (subscriptTail _ _ _ _) _ _ _)); walk1)
      have hlG := (N4 (G, listOf (refsOf older gl).toArray k2) (.tail _ (.head _))).1
      refine kde_neg (vs := refsOf older gl) ⟨_, hlG, rfl, k2, rfl⟩ (by decide) (by decide) hj (refs_last _ _) ?_
      repeat ((fail_if_success (with_reducible show wpAny _ _ (subscriptTail _ _ _ _) _ _ _)); walk1)
      refine item_of (upList hl F4.keep) (by omega) (by omega) hxz ?_
      repeat ((fail_if_success (with_reducible show wpAny _ _ (call (Value.builtin "list.append") _) _ _ _)); walk1)
      refine append_K F4 N4 (Upd.tail n1 (Upd.tail n2 (Upd.head fun q hq => ?_))) ?_ (hsz := by rw [List.size_toArray, PySem.sizeLine_eq]; omega)
      · rcases List.mem_append.mp hq with hq | hq
        · exact (n3 q hq).2.2
        · exact ho q hq _ (.tail _ (.tail _ (.head _)))
      intro h5 F5 N5
      rw [List.push_toArray] at N5
      clear N4 F4
      walk_at "go"
      rename Fr _ _ _ _ => F6
      refine InvEnd.close (nx := (Le, listOf (List.toArray wl) k1) :: (G, listOf (refsOf older gl).toArray k2) :: (gl, listOf (us ++ [Value.int r tr]).toArray (k3 + 1)) :: older) F6 N5 ?_ ⟨m1, m2, m3, m4, gl, older, wl, us ++ [Value.int r tr], k1, k2, k3 + 1, rfl, hold, ?_, hwl, n1, n2, n3, by omega, ?_, by omega⟩
      · exact ho
      · rw [List.map_append]; exact hus.append (.cons _ _ .nil)
      · rw [List.length_append]; show us.length + 1 ≤ _; omega
    · rw [if_neg (by simpa using hf)]
      have hst : gstep st (f, r) = (st.1 ++ [st.2.1], [r], st.2.2 ++ [f]) := by unfold gstep; rw [if_neg hf]
      rw [hst]
      repeat ((fail_if_success (with_reducible show wpAny _ _ (subscriptTail _ _ _ _) _ _ _)); walk1)
      refine item_of (upList hl2 F4.keep) (by omega) (by omega) (by rw [show (1 + (i : Int) - 1).toNat = i by omega]; exact hwf) ?_
      repeat ((fail_if_success (with_reducible show wpAny _ _ (call (Value.builtin "list.append") _) _ _ _)); walk1)
      refine append_K F4 N4 (Upd.head fun q hq => ?_) ?_ (hsz := by rw [List.size_toArray, PySem.sizeLine_eq]; omega)
      · rcases List.mem_cons.mp hq with rfl | hq
        · exact hL1.symm
        rcases List.mem_cons.mp hq with rfl | hq
        · exact n1.symm
        rcases List.mem_append.mp hq with hq | hq
        · exact (n3 q hq).1
        · exact ho q hq _ (.head _)
      intro h5 F5 N5
      rw [List.push_toArray] at N5
      clear N4 F4
      repeat ((fail_if_success (with_reducible show wpAny _ _ (subscriptTail _ _ _ _) _ _ _)); walk1)
      refine item_of (upList hl F5.keep) (by omega) (by omega) hxz ?_
      repeat ((fail_if_success (with_reducible show wpAny _ _ (call (Value.builtin "list.append") _) _ _ _)); walk1)
      rename Fr _ _ _ _ => F6
      rename News _ _ _ _ => N6
      rename_i gn _ ln
      refine append_K F6 N6 (Upd.tail (Nat.ne_of_gt ln.2.1) (Upd.tail hL1' (Upd.head fun q hq => ?_))) ?_ (hsz := by rw [List.size_toArray, refs_len, PySem.sizeLine_eq]; omega)
      · rcases List.mem_cons.mp hq with rfl | hq
        · exact n2.symm
        rcases List.mem_append.mp hq with hq | hq
        · exact (n3 q hq).2.1
        · exact ho q hq _ (.tail _ (.head _))
      intro h7 F7 N7
      rw [List.push_toArray, refs_snoc older gl gn (listOf (List.toArray us) k3)] at N7
      clear N6 F6
      walk_at "go"
      rename Fr _ _ _ _ => F8
      have hgn : ∀ p ∈ older ++ own, p.1 < gn := allLtMem ln.2.2.2
      refine InvEnd.close (nx := (Le, listOf (wl ++ [Value.str ⟨f.toArray⟩ tf]).toArray (k1 + 1)) :: (G, listOf (refsOf (older ++ [(gl, listOf (List.toArray us) k3)]) gn).toArray (k2 + 1)) :: (gn, listOf [Value.int r tr].toArray 0) :: (older ++ [(gl, listOf (List.toArray us) k3)]))
        F8 (newsSub N7 ?_) ?_ ⟨m1, m2, m3, m4, gn, older ++ [(gl, listOf (List.toArray us) k3)], wl ++ [Value.str ⟨f.toArray⟩ tf], [Value.int r tr], k1 + 1, k2 + 1, 0, rfl, hold.snoc hus, .cons _ _ .nil, ?_, Nat.ne_of_lt ln.1, Nat.ne_of_lt ln.2.1, ?_, ?_, by simp, ?_⟩
      · intro p hp
        simp only [List.mem_cons, List.mem_append, List.cons_append, List.append_assoc, List.nil_append] at hp ⊢
        rcases hp with rfl | rfl | rfl | hp | rfl | hp <;> simp_all
      · intro p hp b hb
        simp only [List.map_cons, List.map_append, List.map_nil, List.mem_cons, List.mem_append, List.not_mem_nil, or_false] at hb
        rcases hb with rfl | rfl | rfl | hb | rfl
        · exact ho p hp _ (.head _)
        · exact ho p hp _ (.tail _ (.head _))
        · exact Nat.ne_of_lt (hgn p (List.mem_append.mpr (.inr hp)))
        · exact ho p hp _ (.tail _ (.tail _ (.tail _ hb)))
        · exact ho p hp _ (.tail _ (.tail _ (.head _)))
      · show StrsAre _ (List.map _ (_ ++ _))
        rw [List.map_append]
        exact strs_append hwl (.cons _ _ .nil)
      · intro p hp
        rcases List.mem_append.mp hp with hp | hp
        · exact ⟨(n3 p hp).1, (n3 p hp).2.1, Nat.ne_of_lt (hgn p (List.mem_append.mpr (.inl hp)))⟩
        · rw [List.mem_singleton.mp hp]
          exact ⟨n1.symm, n2.symm, Nat.ne_of_lt ln.2.2.1⟩
      · rw [List.length_append]; show older.length + 1 ≤ _; omega
      · rw [List.length_append]; show wl.length + 1 ≤ _; omega
  · rintro m₁ news₁ h₂ tk₂ ⟨m1, m2, m3, m4, gl, older, wl, us, k1, k2, k3, rfl, hold, hus, hwl, n1, n2, n3, b1, b2, b3⟩ F2 N2
    replace F2 : Fr s.heap s.heap.objs.size h₂ _ := F2
    replace N2 : News s.heap s.heap.objs.size h₂ _ := N2
    have et : (fs.zip rest).take rest.length = fs.zip rest := List.take_of_length_le (by rw [List.length_zip]; omega)
    rw [et] at hold hus hwl
    change OldAre older (groupsG r0 rest fs).1 at hold
    change IntsAre us ((groupsG r0 rest fs).2.1.map _) at hus
    change TextsAre wl (groupsG r0 rest fs).2.2 at hwl
    walk_at "go"
    rename Fr _ _ _ _ => F3
    rename News _ _ _ _ => N3
    refine h _ _ _ G Le _ wl F3.keep (N3.isTup (.head _)) ⟨_, (N3 _ (.tail _ (.tail _ (.head _)))).1, rfl, _, rfl⟩ (groups_of N3 hold hus (fun p hp => .tail _ (.tail _ (.tail _ (.tail _ hp)))) (.tail _ (.tail _ (.tail _ (.head _))))) ⟨_, (N3 _ (.tail _ (.head _))).1, rfl, _, rfl⟩ hwl
noncomputable def NoDict (o : Obj) : Prop := ∀ es ep, o.data ≠ .dict es ep
/-- a fact that hangs on finitely many objects -/
noncomputable def Sup (Φ : Heap → Prop) (h : Heap) : Prop := ∃ xs : List (Addr × Obj), (∀ p ∈ xs, h.get? p.1 = some p.2 ∧ NoDict p.2) ∧ ∀ h', (∀ p ∈ xs, h'.get? p.1 = some p.2) → Φ h'
theorem Sup.and {Φ Ψ : Heap → Prop} {h : Heap} (x : Sup Φ h) (y : Sup Ψ h) : Sup (fun h => Φ h ∧ Ψ h) h := by
  obtain ⟨xs, a1, b1⟩ := x
  obtain ⟨ys, a2, b2⟩ := y
  exact ⟨xs ++ ys, fun p hp => (List.mem_append.mp hp).elim (a1 p) (a2 p), fun h' k => ⟨b1 h' fun p hp => k p (List.mem_append.mpr (.inl hp)), b2 h' fun p hp => k p (List.mem_append.mpr (.inr hp))⟩⟩
theorem Sup.list {h : Heap} {a : Addr} {vs : Array Value} (x : h.IsList a vs) : Sup (fun h => h.IsList a vs) h := by
  obtain ⟨o, e, c, n, hd⟩ := x
  exact ⟨[(a, o)], fun p hp => by rw [List.mem_singleton.mp hp]; exact ⟨e, fun es ep q => by rw [hd] at q; cases q⟩, fun h' k => ⟨o, k _ (.head _), c, n, hd⟩⟩
theorem Sup.tup {h : Heap} {a : Addr} {vs : Array Value} (x : IsTup h a vs) : Sup (fun h => IsTup h a vs) h := by
  obtain ⟨o, e, c, n, hd⟩ := x
  exact ⟨[(a, o)], fun p hp => by rw [List.mem_singleton.mp hp]; exact ⟨e, fun es ep q => by rw [hd] at q; cases q⟩, fun h' k => ⟨o, k _ (.head _), c, n, hd⟩⟩
theorem Sup.tabs {h : Heap} (x : Tabs h) : Sup Tabs h := by
  obtain ⟨x1, a1, b1⟩ := tabOk_led x.1
  obtain ⟨x2, a2, b2⟩ := tabOk_led x.2
  refine ⟨x1 ++ x2, fun p hp => ?_, fun h' k => ⟨b1 h' fun p hp => k p (List.mem_append.mpr (.inl hp)), b2 h' fun p hp => k p (List.mem_append.mpr (.inr hp))⟩⟩
  obtain ⟨e, vs, hd⟩ := (List.mem_append.mp hp).elim (a1 p) (a2 p)
  exact ⟨e, fun es ep q => by rw [hd] at q; cases q⟩
theorem Sup.all {α : Type} {Φ : α → Heap → Prop} {h : Heap} (l : List α) (hl : ∀ x ∈ l, Sup (Φ x) h) : Sup (fun h => ∀ x ∈ l, Φ x h) h := by
  induction l with
  | nil => exact ⟨[], ⟨fun p hp => (nomatch hp), fun h' k x hx => (nomatch hx)⟩⟩
  | cons a l ih =>
    obtain ⟨xs, a1, b1⟩ := (hl a (.head _)).and (ih fun x hx => hl x (.tail _ hx))
    exact ⟨xs, a1, fun h' k x hx => by
      obtain ⟨y1, y2⟩ := b1 h' k
      rcases List.mem_cons.mp hx with rfl | hx
      · exact y1
      · exact y2 x hx⟩
theorem Sup.mono {Φ Ψ : Heap → Prop} {h : Heap} (x : Sup Φ h) (f : ∀ h, Φ h → Ψ h) : Sup Ψ h := by
  obtain ⟨xs, a1, b1⟩ := x
  exact ⟨xs, a1, fun h' k => f _ (b1 h' k)⟩
theorem Sup.groups {h : Heap} {vs : List Value} {gs : List (List Nat)} (x : GroupsAre h vs gs) : Sup (fun h => GroupsAre h vs gs) h := by
  have y : Sup (fun h => ∀ i ∈ List.range gs.length, ∀ g, gs[i]? = some g → ∃ a us, vs[i]? = some (.ref a) ∧ h.IsList a (List.toArray us) ∧ IntsAre us (g.map fun (k : Nat) => (k : Int))) h := by
    refine Sup.all _ fun i hi => ?_
    have hi' : i < gs.length := List.mem_range.mp hi
    obtain ⟨a, us, e1, e2, e3⟩ := x.2 i _ (List.getElem?_eq_getElem hi')
    refine (Sup.list e2).mono fun h' e2' g e => ?_
    rw [List.getElem?_eq_getElem hi'] at e
    cases e
    exact ⟨a, us, e1, e2', e3⟩
  exact y.mono fun h' k => ⟨x.1, fun i g e => k i (List.mem_range.mpr (List.getElem?_eq_some_iff.mp e).1) g e⟩
/-- lists of pairs of a sign and what it is folded to -/
noncomputable def PairsAre (h : Heap) (vs : List Value) (ps : List Nat) : Prop :=
  vs.length = ps.length ∧ ∀ (i : Nat) p, ps[i]? = some p → ∃ d u u', vs[i]? = some (.ref d) ∧ IsTup h d #[.str ⟨#[signOf p]⟩ u, .str ⟨(foldOf p).toArray⟩ u']
theorem Sup.pairs {h : Heap} {vs : List Value} {ps : List Nat} (x : PairsAre h vs ps) : Sup (fun h => PairsAre h vs ps) h := by
  have y : Sup (fun h => ∀ i ∈ List.range ps.length, ∀ p, ps[i]? = some p → ∃ d u u', vs[i]? = some (.ref d) ∧ IsTup h d #[.str ⟨#[signOf p]⟩ u, .str ⟨(foldOf p).toArray⟩ u']) h := by
    refine Sup.all _ fun i hi => ?_
    have hi' : i < ps.length := List.mem_range.mp hi
    obtain ⟨d, u, u', e1, e2⟩ := x.2 i _ (List.getElem?_eq_getElem hi')
    refine (Sup.tup e2).mono fun h' e2' p e => ?_
    rw [List.getElem?_eq_getElem hi'] at e
    cases e
    exact ⟨d, u, u', e1, e2'⟩
  exact y.mono fun h' k => ⟨x.1, fun i p e => k i (List.mem_range.mpr (List.getElem?_eq_some_iff.mp e).1) p e⟩
noncomputable def Led (H : Heap) (Φ : Heap → Prop) (xs : List (Addr × Obj)) : Prop := ∀ h, Keeps H h → (∀ p ∈ xs, h.get? p.1 = some p.2) → Φ h
theorem Led.at {H h : Heap} {Φ : Heap → Prop} {L : Addr} {m : Str → Option Value} {xs news : List (Addr × Obj)} (x : Led H Φ xs) (F : Fr H L h m) (N : News H L h news) (hs : ∀ p ∈ xs, p ∈ news) : Φ h := x h F.keep fun p hp => (N p (hs p hp)).1
theorem Sup.led {H h : Heap} {Φ : Heap → Prop} {L : Addr} {m : Str → Option Value} (x : Sup Φ h) (F : Fr H L h m) : ∃ xs, Led H Φ xs ∧ News H L h xs := by
  obtain ⟨ys, a, b⟩ := x
  refine ⟨ys.filter fun p => (H.get? p.1).isNone, fun h' k hx => b h' fun p hp => ?_, fun p hp => ?_⟩
  · cases q : H.get? p.1 with
    | some o =>
      have e1 := F.keep _ _ q
      rw [(a p hp).1] at e1
      cases e1
      exact k _ _ q
    | none => exact hx p (List.mem_filter.mpr ⟨hp, by rw [q]; rfl⟩)
  · obtain ⟨hp, hn⟩ := List.mem_filter.mp hp
    obtain ⟨e, nd⟩ := a p hp
    refine ⟨e, ?_, by simpa using hn⟩
    intro eL
    obtain ⟨o, es, ep, ho, hd, _⟩ := F.ns
    rw [← eL, e] at ho
    cases ho
    exact nd _ _ hd
theorem KeepsT.tup {h h' : Heap} {a : Addr} {vs : Array Value} (k : KeepsT h h') (T : Tabs h) (x : IsTup h a vs) : IsTup h' a vs := by
  obtain ⟨o, e, c, n, hd⟩ := x
  refine ⟨o, k _ _ ?_ ?_ e, c, n, hd⟩
  · rintro rfl
    rcases T.1 with y | ⟨c2, y, _⟩ <;>
    · rw [y] at e; cases e; cases hd
  · rintro rfl
    rcases T.2 with y | ⟨c2, y, _⟩ <;>
    · rw [y] at e; cases e; cases hd
theorem KeepsT.pairs {h h' : Heap} {vs : List Value} {ps : List Nat} (k : KeepsT h h') (T : Tabs h) (x : PairsAre h vs ps) : PairsAre h' vs ps :=
  ⟨x.1, fun i p e => by
    obtain ⟨d, u, u', e1, e2⟩ := x.2 i p e
    exact ⟨d, u, u', e1, k.tup T e2⟩⟩
theorem KeepsT.groups {h h' : Heap} {vs : List Value} {gs : List (List Nat)} (k : KeepsT h h') (T : Tabs h) (x : GroupsAre h vs gs) : GroupsAre h' vs gs := x.keep fun a us y => k.list T y
theorem upTup {h h' : Heap} {a : Addr} {vs : Array Value} (hl : IsTup h a vs) (k : Keeps h h') : IsTup h' a vs := by
  obtain ⟨o, e, r⟩ := hl; exact ⟨o, k _ _ e, r⟩
theorem upPairs {h h' : Heap} {vs : List Value} {ps : List Nat} (x : PairsAre h vs ps) (k : Keeps h h') : PairsAre h' vs ps :=
  ⟨x.1, fun i p e => by
    obtain ⟨d, u, u', e1, e2⟩ := x.2 i p e
    exact ⟨d, u, u', e1, upTup e2 k⟩⟩
theorem upGroups {h h' : Heap} {vs : List Value} {gs : List (List Nat)} (x : GroupsAre h vs gs) (k : Keeps h h') : GroupsAre h' vs gs := x.keep fun a us y => upList y k
noncomputable def lawBody : List Stmt := match st 25 with
  | .FunctionDef _ _ b _ _ _ _ _ _ _ => b
  | _ => []
noncomputable def lawScope : Scope := match st 25 with
  | .FunctionDef _ _ _ _ _ _ sc _ _ _ => sc
  | _ => { kind := .function, names := [], isGenerator := false, isCoroutine := false }
noncomputable abbrev lawEnv (L : Addr) : Env := envOf (Str.ofString "law") lawScope L 204 (.ref 203)
structure Ctx (w : World) (A : Around) (mg mb : Str → Option Value) (H : Heap) (L : Addr) : Prop where
  P : Pre w A 18 200 mg mb H
  TP : ∃ lo mean, Top topProg lo mean mg mb H
  h30 : H.get? 30 = none
  h37 : H.get? 37 = none
  big : 100 < L
section
variable {prog : Program} {M : Model} {w : World} {A : Around} {E : Value → Shared → Prop} {s : Shared} {H : Heap} {L : Addr} {m : Str → Option Value}
theorem gv_own {env : Env} {C : Addr} {x : Str} {pos : Pos} {v : Value} {m₂ : Str → Option Value} {scope : Scope} {Q : Value → Shared → Prop} (hC : s.heap.Ns C m₂) (hx : m₂ x = some v) (h : Q v s) (hk : (compEnv scope C env).scope.kind = .function) (hl : (compEnv scope C env).kindOf x = some .local) (hd : (x == ("__debug__" : Str)) = false) :
    wpAny M A (eval (.Name x pos) (compEnv scope C env)) Q E s := wpAny_Name (wpAny_loadName_local hk hl hC hx h) hd
theorem asg_comp {elt iter : PySem.Expr} {x y : Str} {px py : Pos} {scope : Scope} {pos spos : Pos} {Q : Flow → Shared → Prop} (Fv : Value → Value → Prop)
    (hh : A.handled = none) (hsw : swapsWith (.ListComp elt [⟨.Name x px, iter, [], 0⟩] scope pos) (some (.Name y py)) spos.line (lawEnv L) = pure true)
    (hfree : ∀ z ∈ scope.names, z.2 ≠ .free) (hcell : ∀ z ∈ scope.names, z.2 ≠ .cell) (hkind : scope.kind = .function)
    (hnames : ∀ z ∈ scope.names, z.2 = .local → scope.names.lookup z.1 = some .local) (hx : scope.names.lookup x = some .local) (hy : (lawEnv L).kindOf y = some .local)
    (hp : ((lawEnv L).scope.kind == .class || ((lawEnv L).scope.kind == .module && (lawEnv L).locals != (lawEnv L).globals)) = false)
    (h : wpAny (model prog w) A (eval iter (lawEnv L)) (fun xv s₁ => ∃ ax items m, xv = .ref ax ∧ s₁.heap.IsList ax (List.toArray items) ∧ items.length ≤ sizeLine ∧ Fr H L s₁.heap m ∧
      (∀ C v s₂ m₂ E', v ∈ items → s₂.heap.Ns C m₂ → m₂ x = some v → Keeps s₁.heap s₂.heap → wpAny (model prog w) A (eval elt (compEnv scope C (lawEnv L))) (fun y s₃ => Fv v y ∧ PySem.Keeps s₂ s₃) E' s₂) ∧
      (∀ D h' tk ys, Fr H L h' (fun z => if z = y then some (.ref D) else m z) → (∀ b o, b ≠ L → s₁.heap.get? b = some o → h'.get? b = some o) → s₁.heap.get? D = none → h'.IsList D (List.toArray ys) → Paired Fv items ys →
        Q .next { s₁ with heap := h', toks := tk })) E s)
    (hs : ∀ x, foldedSetIterable iter (lawEnv L) x = pure x := by intro _; rfl) :
    wpAny (model prog w) A (exec (.Assign [.Name y py] (.ListComp elt [⟨.Name x px, iter, [], 0⟩] scope pos) spos) (lawEnv L)) Q E s := by
  refine wpAny_Assign_ListComp_map (fun _ => true) Fv hsw hh hfree hcell hkind hnames hx hy hp (wpAny_mono h (fun xv s₁ h₁ => ?_) fun _ _ e => e) hs
  obtain ⟨ax, items, m, rfl, hl, hsz, F, helt, hQ⟩ := h₁
  refine ⟨ax, items.toArray, m, rfl, hl, by rw [List.size_toArray]; exact hsz, F.ns, ?_, ?_, ?_⟩
  · intro C v s₂ m₂ E' hv hn hm hk
    exact wpAny_tests_nil ⟨rfl, s₂.heap, s₂.toks, rfl, fun _ _ e => e⟩
  · intro C v s₂ m₂ E' hv _ hn hm hk
    exact helt C v s₂ m₂ E' (by simpa using hv) hn hm hk
  · intro D h' tk ys hD hlD hP hn' hk
    have e : List.filter (fun _ : Value => true) items = items := List.filter_eq_self.mpr fun _ _ => rfl
    rw [show items.toArray.toList = items from rfl, e] at hP
    refine hQ D h' tk ys.toList ⟨hn', fun b o e => hk b o ?_ (F.keep b o e), F.above⟩ hk hD (by simpa using hlD) hP
    exact Nat.ne_of_lt (Nat.lt_of_lt_of_le (Heap.lt_size e) F.above)
theorem ev_comp {elt iter : PySem.Expr} {x : Str} {px : Pos} {scope : Scope} {pos : Pos} {Q : Value → Shared → Prop} (Fv : Value → Value → Prop)
    (hh : A.handled = none) (hfree : ∀ z ∈ scope.names, z.2 ≠ .free) (hcell : ∀ z ∈ scope.names, z.2 ≠ .cell) (hkind : scope.kind = .function)
    (hnames : ∀ z ∈ scope.names, z.2 = .local → scope.names.lookup z.1 = some .local) (hx : scope.names.lookup x = some .local)
    (h : wpAny (model prog w) A (eval iter (lawEnv L)) (fun xv s₁ => ∃ ax items, xv = .ref ax ∧ s₁.heap.IsList ax (List.toArray items) ∧ items.length ≤ sizeLine ∧
      (∀ C v s₂ m₂ E', v ∈ items → s₂.heap.Ns C m₂ → m₂ x = some v → Keeps s₁.heap s₂.heap → wpAny (model prog w) A (eval elt (compEnv scope C (lawEnv L))) (fun y s₃ => Fv v y ∧ PySem.Keeps s₂ s₃) E' s₂) ∧
      (∀ D h' tk ys, Keeps s₁.heap h' → s₁.heap.get? D = none → h'.IsList D (List.toArray ys) → Paired Fv items ys → Q (.ref D) { s₁ with heap := h', toks := tk })) E s)
    (hs : ∀ x, foldedSetIterable iter (lawEnv L) x = pure x := by intro _; rfl) :
    wpAny (model prog w) A (eval (.ListComp elt [⟨.Name x px, iter, [], 0⟩] scope pos) (lawEnv L)) Q E s := by
  refine wpAny_ListComp_map (fun _ => true) Fv hh hfree hcell hkind hnames hx (wpAny_mono h (fun xv s₁ h₁ => ?_) fun _ _ e => e) hs
  obtain ⟨ax, items, rfl, hl, hsz, helt, hQ⟩ := h₁
  refine ⟨ax, items.toArray, rfl, hl, by rw [List.size_toArray]; exact hsz, ?_, ?_, ?_⟩
  · intro C v s₂ m₂ E' hv hn hm hk
    exact wpAny_tests_nil ⟨rfl, s₂.heap, s₂.toks, rfl, fun _ _ e => e⟩
  · intro C v s₂ m₂ E' hv _ hn hm hk
    exact helt C v s₂ m₂ E' (by simpa using hv) hn hm hk
  · intro D h' tk ys hD hlD hP hk
    have e : List.filter (fun _ : Value => true) items = items := List.filter_eq_self.mpr fun _ _ => rfl
    rw [show items.toArray.toList = items from rfl, e] at hP
    exact hQ D h' tk ys.toList hk hD (by simpa using hlD) hP
theorem sum_keep {l : Addr} {vs : List Value} {ns : List Int} {Q : Value → Shared → Prop} (hh : A.handled = none) (hl : s.heap.IsList l vs.toArray) (hi : IntsAre vs ns)
    (h : ∀ h' tk t', Keeps s.heap h' → Q (.int ns.sum t') { s with heap := h', toks := tk }) :
    wpAny (model prog w) A (call (.builtin "sum") [.ref l]) Q E s := by
  obtain ⟨xs, hx⟩ := hi.allInts.items
  have hn : numsOf vs.toArray.toList = ns := by rw [show vs.toArray.toList = vs from rfl, hi.numsOf]
  rw [hx] at hl hn
  rw [nums_intItems] at hn
  refine sum_intListG hh hl fun h' tk t' hk => ?_
  have := h h' tk t' hk
  rw [preSum_eq, List.take_of_length_le (by simp), hn]
  exact this
end
theorem paired_get {α β : Type} {F : α → β → Prop} : ∀ {l₁ : List α} {l₂ : List β}, Paired F l₁ l₂ → ∀ (i : Nat) a, l₁[i]? = some a → ∃ b, l₂[i]? = some b ∧ F a b
  | _, _, .cons h t, 0, a, e => by simp at e; subst e; exact ⟨_, rfl, h⟩
  | _, _, .cons h t, i + 1, a, e => by simpa using paired_get t i a (by simpa using e)
/-- a map of ints, told element by element -/
theorem paired_ints {f : Int → Int} : ∀ {vs ys : List Value} {ns : List Int}, IntsAre vs ns → Paired (fun v y => ∀ n t, v = .int n t → ∃ t', y = .int (f n) t') vs ys → IntsAre ys (ns.map f)
  | _, _, _, .nil, .nil => .nil
  | _, _, _, .cons n t hi, .cons h r => by
    obtain ⟨t', rfl⟩ := h n t rfl
    exact .cons _ _ (paired_ints hi r)
theorem frNe {H h h' : Heap} {L : Addr} {news : List (Addr × Obj)} (N : News H L h news) (k : ∀ b o, b ≠ L → h.get? b = some o → h'.get? b = some o) : News H L h' news := fun p hp => ⟨k _ _ (N p hp).2.1 (N p hp).1, (N p hp).2⟩
theorem texts_of {h : Heap} {bs ys : List Value} {ps : List Nat} {f : Nat → List Nat} (x : PairsAre h bs ps) (hP : Paired (fun v y => ∀ d p u u', v = .ref d → IsTup h d #[.str ⟨#[signOf p]⟩ u, .str ⟨(foldOf p).toArray⟩ u'] → ∃ t, y = .str ⟨(f p).toArray⟩ t) bs ys) : TextsAre ys (ps.map f) := by
  have hl := hP.length
  suffices hh : ∀ (n : Nat) (ys : List Value) (ps : List Nat), ys.length = n → ps.length = n → (∀ (i : Nat) p, ps[i]? = some p → ∃ t, ys[i]? = some (.str ⟨(f p).toArray⟩ t)) → TextsAre ys (ps.map f) from
    hh bs.length ys ps hl.symm x.1.symm fun i p e => by
      obtain ⟨d, u, u', e1, e2⟩ := x.2 i p e
      obtain ⟨y, ey, hy⟩ := paired_get hP i _ e1
      obtain ⟨t, rfl⟩ := hy d p u u' rfl e2
      exact ⟨t, ey⟩
  intro n
  induction n with
  | zero =>
    intro ys ps h1 h2 _
    obtain rfl := List.length_eq_zero_iff.mp h1
    obtain rfl := List.length_eq_zero_iff.mp h2
    exact .nil
  | succ n ih =>
    intro ys ps h1 h2 hi
    obtain ⟨y, ys, rfl⟩ : ∃ y r, ys = y :: r := by
      cases ys with
      | nil => simp at h1
      | cons y r => exact ⟨y, r, rfl⟩
    obtain ⟨p, ps, rfl⟩ : ∃ y r, ps = y :: r := by
      cases ps with
      | nil => simp at h2
      | cons y r => exact ⟨y, r, rfl⟩
    obtain ⟨t, e⟩ := hi 0 p rfl
    obtain rfl : y = _ := by simpa using e
    exact .cons _ t (ih ys ps (by simpa using h1) (by simpa using h2) fun i p e => by simpa using hi (i + 1) p (by simpa using e))
/-- the lists of the law that stay -/
structure Lists (h : Heap) (r b f : Addr) (rs' bs fs' : List Value) (ps : List Nat) : Prop where
  tabs : Tabs h
  lr : h.IsList r rs'.toArray
  lb : h.IsList b bs.toArray
  lp : PairsAre h bs ps
  lf : h.IsList f fs'.toArray
theorem Lists.sup {h : Heap} {r b f : Addr} {rs' bs fs' : List Value} {ps : List Nat} (x : Lists h r b f rs' bs fs' ps) : Sup (fun h => Lists h r b f rs' bs fs' ps) h :=
  ((Sup.tabs x.tabs).and ((Sup.list x.lr).and ((Sup.list x.lb).and ((Sup.pairs x.lp).and (Sup.list x.lf))))).mono fun h y => ⟨y.1, y.2.1, y.2.2.1, y.2.2.2.1, y.2.2.2.2⟩
theorem Lists.keepT {h h' : Heap} {r b f : Addr} {rs' bs fs' : List Value} {ps : List Nat} (x : Lists h r b f rs' bs fs' ps) (k : KeepsT h h') (T : Tabs h') : Lists h' r b f rs' bs fs' ps :=
  ⟨T, k.list x.tabs x.lr, k.list x.tabs x.lb, k.pairs x.tabs x.lp, k.list x.tabs x.lf⟩
/-- the names of the law that stay -/
structure Names (m : Str → Option Value) (r b f : Addr) (ld rd pn wd un : Nat) : Prop where
  nr : m "runs" = some (.ref r)
  nb : m "between" = some (.ref b)
  nf : m "folds" = some (.ref f)
  nl : HasInt m "laid" ld
  nd : HasInt m "readings" rd
  np : HasInt m "power" pn
  nw : HasInt m "width" wd
  nu : HasInt m "unit" un
noncomputable def fixed : List Str := ["runs", "between", "folds", "laid", "readings", "power", "width", "unit"]
theorem Names.set {m : Str → Option Value} {r b f : Addr} {ld rd pn wd un : Nat} (x : Names m r b f ld rd pn wd un) (y : Str) (v : Value) (hy : ∀ z ∈ fixed, (z == y) = false) : Names (fun z => if z = y then some v else m z) r b f ld rd pn wd un := by
  have ne : ∀ z ∈ fixed, (fun z => if z = y then some v else m z) z = m z := fun z hz => if_neg (beq_eq_false_iff_ne.mp (hy z hz))
  have hi : ∀ (z : Str) (k : Int), z ∈ fixed → HasInt m z k → HasInt (fun z => if z = y then some v else m z) z k := fun z k hz ⟨t, e⟩ => ⟨t, (ne z hz).trans e⟩
  exact ⟨(ne _ (by simp [fixed])).trans x.nr, (ne _ (by simp [fixed])).trans x.nb, (ne _ (by simp [fixed])).trans x.nf, hi _ _ (by simp [fixed]) x.nl, hi _ _ (by simp [fixed]) x.nd, hi _ _ (by simp [fixed]) x.np, hi _ _ (by simp [fixed]) x.nw, hi _ _ (by simp [fixed]) x.nu⟩
section
variable {prog : Program} {w : World} {A : Around} {E : Value → Shared → Prop} {s : Shared} {L : Addr} {Q : Value → Shared → Prop}
/-- the texts of the pairs, one place of each -/
theorem sameSign {x y : Str} {u v : Tok} (e : some (Value.str x u) = some (.str y v)) (w : Tok) : Value.str x w = .str y w := by cases e; rfl
theorem pair_elt {k : Int} {f : Nat → List Nat} {bs : List Value} {ps : List Nat} {h0 h1 : Heap} {v : Value} {s₂ : Shared} (hk01 : (k = 0 ∧ f = fun p => [signOf p]) ∨ (k = 1 ∧ f = foldOf)) (hp : PairsAre h0 bs ps) (hp1 : PairsAre h1 bs ps) (hv : v ∈ bs) (hk : Keeps h1 s₂.heap) :
    ∃ d, v = .ref d ∧ ∀ (value slice : PySem.Expr) (u : Tok) (E' : Value → Shared → Prop) (hs : subscripted slice false (.ref d) (.int k u) = operate [.ref d, .int k u] (getItem (.ref d) (.int k u))) (hg : ∀ r, letTemporaryGo value (.ref d) r = pure ()) (s₃ : Shared), s₃.heap = s₂.heap → (∃ tk, s₃ = { s₂ with toks := tk }) →
      wpAny (model prog w) A (subscriptTail value slice (.ref d) (.int k u)) (fun y s₃ => (∀ d p u u', v = .ref d → IsTup h0 d #[.str ⟨#[signOf p]⟩ u, .str ⟨(foldOf p).toArray⟩ u'] → ∃ t, y = .str ⟨(f p).toArray⟩ t) ∧ PySem.Keeps s₂ s₃) E' s₃ := by
  obtain ⟨i, hv⟩ := List.getElem?_of_mem hv
  have hi : i < ps.length := by rw [← hp.1]; exact (List.getElem?_eq_some_iff.mp hv).1
  obtain ⟨d, u1, u2, e1, e2⟩ := hp.2 i _ (List.getElem?_eq_getElem hi)
  rw [hv] at e1
  obtain rfl := Option.some.inj e1
  obtain ⟨d', w1, w2, e1', e2'⟩ := hp1.2 i _ (List.getElem?_eq_getElem hi)
  rw [hv] at e1'
  obtain rfl : d = d' := by cases e1'; rfl
  refine ⟨d, rfl, ?_⟩
  intro value slice u E' hs hg s₃ es ⟨tk, e3⟩
  have same : ∀ (d' : Addr) (p : Nat) (v v' : Tok), Value.ref d = .ref d' → IsTup h0 d' #[.str ⟨#[signOf p]⟩ v, .str ⟨(foldOf p).toArray⟩ v'] →
      some (Value.str ⟨#[signOf ps[i]]⟩ u1) = some (.str ⟨#[signOf p]⟩ v) ∧ some (Value.str ⟨(foldOf ps[i]).toArray⟩ u2) = some (.str ⟨(foldOf p).toArray⟩ v') := by
    intro d' p v v' e e3
    cases e
    obtain ⟨o, eo, co, no, do'⟩ := e2
    obtain ⟨o2, eo2, _, n2, d2⟩ := e3
    rw [eo] at eo2
    cases eo2
    rw [do'] at d2
    exact ⟨congrArg (fun z : Data => match z with | .seq a _ => a[0]? | _ => none) d2, congrArg (fun z : Data => match z with | .seq a _ => a[1]? | _ => none) d2⟩
  rcases hk01 with ⟨rfl, rfl⟩ | ⟨rfl, rfl⟩
  · refine item_tuple (by rw [es]; exact upTup e2' hk) (by decide) (by decide) (j := 0) (by rfl) (by rfl) ?_ hs hg
    exact ⟨fun d' p v v' e e3 => ⟨w1, sameSign (same d' p v v' e e3).1 w1⟩, s₂.heap, tk, by rw [e3], fun _ _ e => e⟩
  · refine item_tuple (by rw [es]; exact upTup e2' hk) (by decide) (by decide) (j := 1) (by rfl) (by rfl) ?_ hs hg
    exact ⟨fun d' p v v' e e3 => ⟨w2, sameSign (same d' p v v' e e3).2 w2⟩, s₂.heap, tk, by rw [e3], fun _ _ e => e⟩
end
noncomputable def runsI (rs : List Nat) : List Int := rs.map fun (k : Nat) => (k : Int)
noncomputable def halvedN (p : Nat) : List Nat → List Nat
  | [] => []
  | r :: rs => r / p :: (if r % p = 0 then halvedN p rs else [])
theorem halved_nat (p : Nat) : ∀ rs : List Nat, halved (p : Int) (runsI rs) = runsI (halvedN p rs)
  | [] => rfl
  | r :: rs => by
    show (r : Int) / (p : Int) :: (if 0 < (r : Int) % (p : Int) then [] else halved (p : Int) (runsI rs)) = runsI (r / p :: (if r % p = 0 then halvedN p rs else []))
    rw [halved_nat p rs, ← Int.natCast_ediv, ← Int.natCast_emod]
    by_cases h : r % p = 0
    · rw [if_neg (by rw [h]; simp), if_pos h]; rfl
    · rw [if_pos (by omega), if_neg h]; rfl
theorem halvedN_len (p : Nat) : ∀ rs : List Nat, (halvedN p rs).length ≤ rs.length
  | [] => Nat.le_refl _
  | r :: rs => by
    show (r / p :: (if r % p = 0 then halvedN p rs else [])).length ≤ _
    rw [List.length_cons, List.length_cons]
    have := halvedN_len p rs
    split
    · omega
    · simp
theorem halvedN_le (p : Nat) (B : Nat) : ∀ rs : List Nat, (∀ r ∈ rs, r ≤ B) → ∀ r ∈ halvedN p rs, r ≤ B
  | r :: rs, h, x, hx => by
    rcases List.mem_cons.mp hx with rfl | hx
    · exact Nat.le_trans (Nat.div_le_self _ _) (h r (.head _))
    · split at hx
      · exact halvedN_le p B rs (fun y hy => h y (.tail _ hy)) x hx
      · cases hx
/-- groups and letters, joined -/
noncomputable def groupsOf (rs : List Nat) (fs : List (List Nat)) : List (List Nat) := match rs with
  | [] => []
  | r :: rs => (groupsG r rs fs).1 ++ [(groupsG r rs fs).2.1]
noncomputable def lettersOf (rs : List Nat) (fs : List (List Nat)) : List (List Nat) := match rs with
  | [] => []
  | r :: rs => (groupsG r rs fs).2.2
/-- the lists that change -/
structure Lists2 (h : Heap) (G Le : Addr) (vg wl : List Value) (gs ls : List (List Nat)) : Prop where
  lg : h.IsList G vg.toArray
  ga : GroupsAre h vg gs
  ll : h.IsList Le wl.toArray
  lt : TextsAre wl ls
theorem Lists2.sup {h : Heap} {G Le : Addr} {vg wl : List Value} {gs ls : List (List Nat)} (x : Lists2 h G Le vg wl gs ls) : Sup (fun h => Lists2 h G Le vg wl gs ls) h :=
  ((Sup.list x.lg).and ((Sup.groups x.ga).and (Sup.list x.ll))).mono fun h y => ⟨y.1, y.2.1, y.2.2, x.lt⟩
theorem Lists2.keepT {h h' : Heap} {G Le : Addr} {vg wl : List Value} {gs ls : List (List Nat)} (x : Lists2 h G Le vg wl gs ls) (T : Tabs h) (k : KeepsT h h') : Lists2 h' G Le vg wl gs ls :=
  ⟨k.list T x.lg, k.groups T x.ga, k.list T x.ll, x.lt⟩
theorem sum_runsI (ns : List Nat) : (runsI ns).sum = ((ns.sum : Nat) : Int) := by
  induction ns with
  | nil => rfl
  | cons a r ih => show ((a : Int) :: runsI r).sum = _; rw [List.sum_cons, ih, List.sum_cons, Int.natCast_add]
theorem sums_of {h : Heap} {vs ys : List Value} {gs : List (List Nat)} (x : GroupsAre h vs gs) (hP : Paired (fun v y => ∀ a us ns, v = .ref a → h.IsList a (List.toArray us) → IntsAre us (runsI ns) → ∃ t, y = .int ((ns.sum : Nat) : Int) t) vs ys) : IntsAre ys (runsI (gs.map List.sum)) := by
  have hl := hP.length
  suffices hh : ∀ (n : Nat) (ys : List Value) (gs : List (List Nat)), ys.length = n → gs.length = n → (∀ (i : Nat) g, gs[i]? = some g → ∃ t, ys[i]? = some (.int ((g.sum : Nat) : Int) t)) → IntsAre ys (runsI (gs.map List.sum)) from
    hh vs.length ys gs hl.symm x.1.symm fun i g e => by
      obtain ⟨a, us, e1, e2, e3⟩ := x.2 i g e
      obtain ⟨y, ey, hy⟩ := paired_get hP i _ e1
      obtain ⟨t, rfl⟩ := hy a us g rfl e2 e3
      exact ⟨t, ey⟩
  intro n
  induction n with
  | zero =>
    intro ys gs h1 h2 _
    obtain rfl := List.length_eq_zero_iff.mp h1
    obtain rfl := List.length_eq_zero_iff.mp h2
    exact .nil
  | succ n ih =>
    intro ys gs h1 h2 hi
    obtain ⟨y, ys, rfl⟩ : ∃ y r, ys = y :: r := by
      cases ys with
      | nil => simp at h1
      | cons y r => exact ⟨y, r, rfl⟩
    obtain ⟨g, gs, rfl⟩ : ∃ y r, gs = y :: r := by
      cases gs with
      | nil => simp at h2
      | cons y r => exact ⟨y, r, rfl⟩
    obtain ⟨t, e⟩ := hi 0 g rfl
    obtain rfl : y = _ := by simpa using e
    exact .cons _ t (ih ys gs (by simpa using h1) (by simpa using h2) fun i g e => by simpa using hi (i + 1) g (by simpa using e))
theorem sameList {h : Heap} {a : Addr} {us vs : List Value} (x : h.IsList a us.toArray) (y : h.IsList a vs.toArray) : us = vs := by
  obtain ⟨o, eo, _, n, d⟩ := x
  obtain ⟨o2, eo2, _, n2, d2⟩ := y
  rw [eo] at eo2; cases eo2
  rw [d] at d2; cases d2; rfl
theorem sameIntsI : ∀ {vs : List Value} {a b : List Int}, IntsAre vs a → IntsAre vs b → a = b
  | _, _, _, .nil, h2 => by cases h2; rfl
  | _, _, _, .cons x t h, h2 => by
    cases h2 with
    | cons _ _ h2 => rw [sameIntsI h h2]
theorem sameInts {vs : List Value} {a b : List Nat} (x : IntsAre vs (runsI a)) (y : IntsAre vs (runsI b)) : a = b := by
  have e := sameIntsI x y
  have e2 := congrArg (List.map Int.toNat) e
  unfold runsI at e2
  rw [List.map_map, List.map_map] at e2
  have id' : ∀ l : List Nat, l.map (Int.toNat ∘ fun (k : Nat) => (k : Int)) = l := fun l => by
    rw [show (Int.toNat ∘ fun (k : Nat) => (k : Int)) = id from funext fun k => rfl, List.map_id]
  rwa [id', id'] at e2
section
local macro_rules | `(tactic| walk_at "eval Name") => `(tactic| ((with_reducible show wpAny _ _ (eval (Expr.Name _ _) (compEnv _ _ _)) _ _ _); (refine' gv_own ?hC ?hx ?_ ?hk ?hl ?hd); (case hC => with_reducible assumption); (case hx => with_reducible assumption); (case hk => with_unfolding_all exact rfl); (case hl => kernel_rfl); (case hd => decide +kernel)))
local macro_rules | `(tactic| walk_at "eval Name") => `(tactic| ((with_reducible show wpAny _ _ (eval (Expr.Name _ _) (compEnvC _ _ _ _)) _ _ _); (refine' cv_own ?hC ?hx ?_ ?hk ?hl ?hd); (case hC => with_reducible assumption); (case hx => with_reducible assumption); (case hk => with_unfolding_all exact rfl); (case hl => kernel_rfl); (case hd => decide +kernel)))
noncomputable def givenOf (ns : List Int) : List Nat := ((ns.take 7).map fun x => (x % 10 ^ 6).toNat) ++ ([13, 599, 1779, 377, 5] : List Nat).drop (ns.take 7).length
set_option maxHeartbeats 4000000 in
theorem law_a {w : World} {A : Around} {mg mb : Str → Option Value} {H : Heap} {L : Addr} (C : Ctx w A mg mb H L) {m : Str → Option Value} {h : Heap} {s : Shared} {tk : Nat} {a : Addr} {vs : List Value} {ns : List Int} {Q : Flow → Shared → Prop} {E : Value → Shared → Prop}
    (F : Fr H L h m) (T : Tabs h) (hl : h.IsList a vs.toArray) (hi : IntsAre vs ns) (hlen : ns.length ≤ 63) (ms : m "script" = some (.ref a))
    (next : ∀ h' tk' m' g us, Fr H L h' m' → Tabs h' → h'.IsList g (List.toArray us) → IntsAre us ((givenOf ns).map fun (k : Nat) => (k : Int)) → m' "given" = some (.ref g) →
      wpAny (model pw w) A (execs (lawBody.drop 2) (lawEnv L)) Q E { s with heap := h', toks := tk' }) :
    wpAny (model pw w) A (execs lawBody (lawEnv L)) Q E { s with heap := h, toks := tk } := by
  have X := C.P.K
  have TR := C.P.T
  have hh := C.P.hh
  obtain ⟨xs, LD, N⟩ := ((Sup.tabs T).and (Sup.list hl)).led F
  show wpAny _ _ (execs (_ :: _) _) _ _ _
  repeat ((fail_if_success (with_reducible show wpAny _ _ (exec (Stmt.Assign _ _ _) _) _ _ _)); walk1)
  refine asg_comp (H := H) (fun v y => ∀ n t, v = .int n t → ∃ t', y = .int (n % 10 ^ 6) t') hh (by with_unfolding_all rfl) (by decide) (by decide) (by rfl) (by decide) (by rfl) (by kernel_rfl) (by with_unfolding_all rfl) ?_
  repeat ((fail_if_success (with_reducible show wpAny _ _ (subscriptTail _ _ _ _) _ _ _)); walk1)
  have hvl : vs.length ≤ 63 := by rw [hi.length]; exact hlen
  refine kms_slice_lit (its := vs.toArray) (zs := vs.take 7) F N hl IsPart.none (IsPart.int _ _) ?_ ?_ (by with_unfolding_all rfl) (by intro _; with_unfolding_all rfl) (by rw [List.size_toArray, PySem.sizeLine_eq]; omega)
  · show kms_pick vs none (some 7) = vs.take 7
    unfold kms_pick kms_lo kms_hi
    simp
  intro D1 h1 F1 N1 l1
  clear F N
  refine ⟨D1, vs.take 7, m, rfl, ⟨_, (N1 _ (.head _)).1, rfl, _, rfl⟩, by rw [List.length_take, PySem.sizeLine_eq]; omega, F1, ?_, ?_⟩
  · rintro C v s₂ m₂ E' hv hC hx hk
    obtain ⟨i, hv⟩ := List.getElem?_of_mem hv
    obtain ⟨n, t, rfl, hn⟩ := (hi.take 7).at i v hv
    walk_at "go"
    refine ⟨?_, s₂.heap, _, rfl, fun _ _ e => e⟩
    intro n' t' e
    cases e
    exact ⟨_, congrArg (fun z => Value.int z _) (show n.fmod (10 ^ 6) = n % 10 ^ 6 from Int.fmod_eq_emod_of_nonneg _ (by decide))⟩
  intro D2 h2 tk2 ys F2 k2 hD2 hl2 hP
  have hiy := paired_ints (hi.take 7) hP
  have N2 := frNe N1 k2
  obtain ⟨T2, hl2'⟩ := LD.at F2 N2 (fun p hp => .tail _ hp)
  obtain ⟨xs3, LD3, N3⟩ := ((Sup.tabs T2).and (Sup.list hl2)).led F2
  clear F1 N1 N2 LD
  show wpAny _ _ (execs _ _) _ _ _
  have hgl : ys.length = (ns.take 7).length := by rw [hiy.length, List.length_map]
  have hg7 : (ns.take 7).length ≤ 7 := by rw [List.length_take]; omega
  repeat ((fail_if_success (with_reducible show wpAny _ _ (call (Value.builtin "len") _) _ _ _)); walk1)
  rename Fr _ _ _ _ => F4
  rename News _ _ _ _ => N4
  rename_i l' _ lt
  refine len_list (LD3.at F4 N4 (fun p hp => .tail _ hp)).2 (by rw [List.size_toArray]; omega) ?_
  repeat ((fail_if_success (with_reducible show wpAny _ _ (subscriptTail _ _ _ _) _ _ _)); walk1)
  have hx4 : ∃ ws, (∃ h0, h0 = News H L _ ((l', listOf (List.toArray ws) 0) :: xs3) ∧ h0) ∧ IntsAre ws ((([13, 599, 1779, 377, 5] : List Nat).map fun (k : Nat) => (k : Int))) :=
    ⟨[_, _, _, _, _], ⟨_, rfl, N4⟩, .cons 13 _ (.cons 599 _ (.cons 1779 _ (.cons 377 _ (.cons 5 _ .nil))))⟩
  obtain ⟨ws, ⟨_, rfl, N4⟩, hiw⟩ := hx4
  have hwl : ws.length = 5 := hiw.length
  refine tail_temp ?_
  refine kms_slice_lit (its := ws.toArray) (zs := ws.drop ys.length) F4 N4 ⟨_, (N4 _ (.head _)).1, rfl, _, rfl⟩ (IsPart.int _ _) IsPart.none ?_ ?_ (by with_unfolding_all rfl) (by intro _; with_unfolding_all rfl) (by rw [List.size_toArray, hwl]; exact Nat.le_of_ble_eq_true rfl)
  · rw [List.size_toArray]
    show kms_pick ws (some (ys.length : Int)) none = _
    unfold kms_pick kms_lo kms_hi
    dsimp only
    rw [if_neg (by omega), Int.toNat_natCast, List.take_of_length_le (by rw [List.length_drop]; omega)]
    by_cases hc : ys.length ≤ 5
    · rw [Nat.min_eq_left (by omega)]
    · rw [Nat.min_eq_right (by omega), List.drop_of_length_le (by omega), List.drop_of_length_le (by omega)]
  intro D5 h5 F5 N5 l5
  have N5 := newsSub N5 (b := (D5, listOf (ws.drop ys.length).toArray 0) :: xs3) (fun p hp => by
    rcases List.mem_cons.mp hp with rfl | hp
    · exact .head _
    · exact .tail _ (.tail _ hp))
  have hiz := hiw.drop ys.length
  clear N4 F4
  have φ5 := LD3.at F5 N5 (fun p hp => .tail _ hp)
  refine kmk_add_ints F5 N5 φ5.2 ⟨_, (N5 _ (.head _)).1, rfl, _, rfl⟩ hiy hiz ?_ ?_
  · intro D6 us h6 F6 N6 l6 hiu
    walk1
    rename Fr _ _ _ _ => F7
    rename News _ _ _ _ => N7
    have φ7 := LD3.at F7 N7 (fun p hp => .tail _ (.tail _ hp))
    refine next _ _ _ D6 us F7 φ7.1 ⟨_, (N7 _ (.head _)).1, rfl, _, rfl⟩ ?_ rfl
    have e : ((givenOf ns).map fun (k : Nat) => (k : Int)) = (ns.take 7).map (fun n => n % 10 ^ 6) ++ (([13, 599, 1779, 377, 5] : List Nat).map fun (k : Nat) => (k : Int)).drop ys.length := by
      unfold givenOf
      rw [List.map_append, List.map_drop, hgl, List.map_map]
      congr 1
      refine List.map_congr_left fun n _ => ?_
      show ((n % 10 ^ 6).toNat : Int) = n % 10 ^ 6
      exact Int.toNat_of_nonneg (Int.emod_nonneg _ (by decide))
    rw [e]; exact hiu
  · rw [List.length_map, List.length_drop, PySem.sizeLine_eq, List.length_map]
    show (ns.take 7).length + (5 - _) ≤ _
    omega
theorem five_ok (k : Nat) : bl 5 + bl (9 + k % 992) ≤ 2 ^ 27 := by
  have h0 : k % 992 < 992 := Nat.mod_lt _ (by decide)
  have h1 : bl (9 + k % 992) ≤ 10 := bl_le.mpr (by omega)
  have h2 : bl 5 ≤ 3 := bl_le.mpr (by decide)
  omega
set_option maxHeartbeats 4000000 in
theorem law_b {w : World} {A : Around} {mg mb : Str → Option Value} {H : Heap} {L : Addr} (C : Ctx w A mg mb H L) {m : Str → Option Value} {h : Heap} {s : Shared} {tk : Nat} {g : Addr} {us : List Value} {gs : List Nat} {Q : Flow → Shared → Prop} {E : Value → Shared → Prop}
    (F : Fr H L h m) (T : Tabs h) (hl : h.IsList g us.toArray) (hi : IntsAre us (gs.map fun (k : Nat) => (k : Int))) (hlen : gs.length ≤ 10) (hv : ∀ v ∈ gs, v < 10 ^ 6) (ms : m "given" = some (.ref g))
    (next : ∀ h' tk' m', Fr H L h' m' → Tabs h' → h'.IsList g (List.toArray us) → m' "given" = some (.ref g) → HasInt m' "laid" (gs.sum : Nat) → HasInt m' "readings" ((1 + gs.sum % 3 : Nat) : Int) → HasInt m' "power" ((2 ^ (1 + gs.sum % 3) : Nat) : Int) →
      HasInt m' "width" ((9 + gs.sum % 992 : Nat) : Int) → HasInt m' "unit" ((2 ^ (5 * (9 + gs.sum % 992)) + gs.sum : Nat) : Int) →
      wpAny (model pw w) A (execs (lawBody.drop 7) (lawEnv L)) Q E { s with heap := h', toks := tk' }) :
    wpAny (model pw w) A (execs (lawBody.drop 2) (lawEnv L)) Q E { s with heap := h, toks := tk } := by
  have X := C.P.K
  have TR := C.P.T
  have hh := C.P.hh
  obtain ⟨xs, LD, N⟩ := ((Sup.tabs T).and (Sup.list hl)).led F
  show wpAny _ _ (execs (_ :: _) _) _ _ _
  have hsum : (gs.map fun (k : Nat) => (k : Int)).sum = ((gs.sum : Nat) : Int) := by
    clear hi hlen hv next
    induction gs with
    | nil => rfl
    | cons a r ih => rw [List.map_cons, List.sum_cons, ih, List.sum_cons, Int.natCast_add]
  repeat ((fail_if_success (with_reducible show wpAny _ _ (call (Value.builtin "sum") _) _ _ _)); walk1)
  refine sum_keep hh hl hi ?_
  rw [hsum]
  intro h1 tk1 t1 k1
  have F1 := frK F k1
  have N1 := newsK N k1
  clear F N
  generalize gs.sum = ld at *
  have e3 : (ld : Int).fmod 3 = ((ld % 3 : Nat) : Int) := fmod_nat ld 3
  have e9 : (ld : Int).fmod 992 = ((ld % 992 : Nat) : Int) := fmod_nat ld 992
  repeat ((fail_if_success (with_reducible show wpAny _ _ (binaryOp Operator.Add _ _) _ _ _)); walk1)
  rw [e3]
  refine nadd (p := 1) ?_
  repeat ((fail_if_success (with_reducible show wpAny _ _ (binaryOp Operator.Pow _ _) _ _ _)); walk1)
  refine pow_int_small (by omega) (by omega) (by decide) ?_
  rw [two_nat]
  repeat ((fail_if_success (with_reducible show wpAny _ _ (binaryOp Operator.Add _ _) _ _ _)); walk1)
  rw [e9]
  refine nadd (p := 9) ?_
  repeat ((fail_if_success (with_reducible show wpAny _ _ (binaryOp Operator.Mult _ _) _ _ _)); walk1)
  refine nmul (a := 5) (five_ok _) ?_
  repeat ((fail_if_success (with_reducible show wpAny _ _ (binaryOp Operator.Pow _ _) _ _ _)); walk1)
  refine pow_int_small (by omega) (by omega) (by decide) ?_
  rw [two_nat]
  repeat ((fail_if_success (with_reducible show wpAny _ _ (binaryOp Operator.Add _ _) _ _ _)); walk1)
  refine nadd ?_
  walk1
  rename Fr _ _ _ _ => F7
  rename News _ _ _ _ => N7
  have φ := LD.at F7 N7 (fun p hp => hp)
  refine next _ _ _ F7 φ.1 φ.2 ?_ ?_ ?_ ?_ ?_ ?_
  · walk_at "look"
  · exact ⟨_, by walk_at "look"⟩
  · exact ⟨_, by walk_at "look"⟩
  · exact ⟨_, by walk_at "look"⟩
  · exact ⟨_, by walk_at "look"⟩
  · exact ⟨_, by walk_at "look"⟩
noncomputable def runOf (v : Nat) : Nat := v % 4 * 2 ^ (v / 4 % 4)
theorem run_ok (v : Nat) : bl (v % 4) + bl (2 ^ (v / 4 % 4)) ≤ 2 ^ 27 := by
  have h0 : v % 4 < 4 := Nat.mod_lt _ (by decide)
  have h1 : v / 4 % 4 < 4 := Nat.mod_lt _ (by decide)
  have h2 : bl (v % 4) ≤ 2 := bl_le.mpr (by omega)
  have h3 : bl (2 ^ (v / 4 % 4)) ≤ 4 := bl_le.mpr (Nat.pow_lt_pow_right (by decide) h1)
  omega
set_option maxHeartbeats 4000000 in
theorem law_c {w : World} {A : Around} {mg mb : Str → Option Value} {H : Heap} {L : Addr} (C : Ctx w A mg mb H L) {m : Str → Option Value} {h : Heap} {s : Shared} {tk : Nat} {g : Addr} {us : List Value} {gs : List Nat} {Q : Flow → Shared → Prop} {E : Value → Shared → Prop}
    (F : Fr H L h m) (T : Tabs h) (hl : h.IsList g us.toArray) (hi : IntsAre us (gs.map fun (k : Nat) => (k : Int))) (hlen : gs.length ≤ 10) (ms : m "given" = some (.ref g))
    (next : ∀ h' tk' r rs', Fr H L h' (fun z => if z = Str.ofString "runs" then some (.ref r) else m z) → Tabs h' → h'.IsList g (List.toArray us) → h'.IsList r (List.toArray rs') → IntsAre rs' ((gs.map runOf).map fun (k : Nat) => (k : Int)) →
      wpAny (model pw w) A (execs (lawBody.drop 8) (lawEnv L)) Q E { s with heap := h', toks := tk' }) :
    wpAny (model pw w) A (execs (lawBody.drop 7) (lawEnv L)) Q E { s with heap := h, toks := tk } := by
  have X := C.P.K
  have TR := C.P.T
  have hh := C.P.hh
  obtain ⟨xs, LD, N⟩ := ((Sup.tabs T).and (Sup.list hl)).led F
  show wpAny _ _ (execs (_ :: _) _) _ _ _
  have hul : us.length = gs.length := by rw [hi.length, List.length_map]
  repeat ((fail_if_success (with_reducible show wpAny _ _ (exec (Stmt.Assign _ _ _) _) _ _ _)); walk1)
  refine asg_comp (H := H) (fun v y => ∀ n t, v = .int n t → ∃ t', y = .int ((runOf n.toNat : Nat) : Int) t') hh (by with_unfolding_all rfl) (by decide) (by decide) (by rfl) (by decide) (by rfl) (by kernel_rfl) (by with_unfolding_all rfl) ?_
  walk1
  refine ⟨g, us, m, rfl, hl, by rw [hul, PySem.sizeLine_eq]; omega, F, ?_, ?_⟩
  · rintro C v s₂ m₂ E' hv hC hx hk
    obtain ⟨i, hv⟩ := List.getElem?_of_mem hv
    obtain ⟨n, t, rfl, hn⟩ := hi.at i v hv
    obtain ⟨k, hkk, rfl⟩ : ∃ k, gs[i]? = some k ∧ (k : Int) = n := by
      rw [List.getElem?_map] at hn
      cases q : gs[i]? with
      | none => rw [q] at hn; cases hn
      | some k => rw [q] at hn; exact ⟨k, rfl, by simpa using hn⟩
    have e1 : (k : Int).fmod 4 = ((k % 4 : Nat) : Int) := fmod_nat k 4
    have e2 : (k : Int).fdiv 4 = ((k / 4 : Nat) : Int) := fdiv_nat k 4
    have e3 : ((k / 4 : Nat) : Int).fmod 4 = ((k / 4 % 4 : Nat) : Int) := fmod_nat (k / 4) 4
    repeat ((fail_if_success (with_reducible show wpAny _ _ (binaryOp Operator.Pow _ _) _ _ _)); walk1)
    rw [e1, e2, e3]
    refine pow_int_small (by omega) (by omega) (by decide) ?_
    rw [two_nat]
    refine nmul (run_ok k) ?_
    refine ⟨?_, s₂.heap, _, rfl, fun _ _ e => e⟩
    intro n' t' e
    cases e
    exact ⟨_, by rw [Int.toNat_natCast]; rfl⟩
  intro D2 h2 tk2 ys F2 k2 hD2 hl2 hP
  have hiy := paired_ints (f := fun n => ((runOf n.toNat : Nat) : Int)) hi hP
  have N2 := frNe N k2
  have φ := LD.at F2 N2 (fun p hp => hp)
  show wpAny _ _ (execs _ _) _ _ _
  refine next _ _ D2 ys F2 φ.1 φ.2 hl2 ?_
  rw [List.map_map] at hiy ⊢
  have e : gs.map ((fun n => ((runOf (Int.toNat n) : Nat) : Int)) ∘ fun (k : Nat) => (k : Int)) = gs.map ((fun (k : Nat) => (k : Int)) ∘ runOf) := List.map_congr_left fun k _ => rfl
  rw [← e]; exact hiy
theorem PairsAre.snoc {h : Heap} {ys : List Value} {ps : List Nat} {d : Addr} {p : Nat} {u u' : Tok} (x : PairsAre h ys ps) (ht : IsTup h d #[.str ⟨#[signOf p]⟩ u, .str ⟨(foldOf p).toArray⟩ u']) : PairsAre h (ys ++ [.ref d]) (ps ++ [p]) := by
  refine ⟨by rw [List.length_append, List.length_append, x.1]; rfl, fun i p' e => ?_⟩
  by_cases hlt : i < ps.length
  · rw [List.getElem?_append_left hlt] at e
    obtain ⟨d', v, v', e1, e2⟩ := x.2 i p' e
    exact ⟨d', v, v', by rw [List.getElem?_append_left (by rw [x.1]; exact hlt)]; exact e1, e2⟩
  · rw [List.getElem?_append_right (by omega)] at e
    have hlt2 := (List.getElem?_eq_some_iff.mp e).1
    have h0 : i - ps.length = 0 := by simp at hlt2; omega
    rw [h0] at e
    obtain rfl : p = p' := by simpa using e
    exact ⟨d, u, u', by rw [List.getElem?_append_right (by rw [x.1]; omega), x.1, h0]; rfl, ht⟩
set_option maxHeartbeats 4000000 in
theorem law_d {w : World} {A : Around} {mg mb : Str → Option Value} {H : Heap} {L : Addr} (C : Ctx w A mg mb H L) {m : Str → Option Value} {h : Heap} {s : Shared} {tk : Nat} {g r : Addr} {us rs' : List Value} {gs : List Nat} {Q : Flow → Shared → Prop} {E : Value → Shared → Prop}
    (F : Fr H L h m) (T : Tabs h) (hl : h.IsList g us.toArray) (hl2 : h.IsList r rs'.toArray) (hi : IntsAre us (gs.map fun (k : Nat) => (k : Int))) (hlen : 0 < gs.length ∧ gs.length ≤ 10) (hv : ∀ v ∈ gs, v < 1000000) (ms : m "given" = some (.ref g))
    (next : ∀ h' tk' b bs, Fr H L h' (fun z => if z = Str.ofString "between" then some (.ref b) else m z) → Tabs h' → h'.IsList r (List.toArray rs') → h'.IsList b (List.toArray bs) → PairsAre h' bs (gs.dropLast.map (· / 16)) →
      wpAny (model pw w) A (execs (lawBody.drop 9) (lawEnv L)) Q E { s with heap := h', toks := tk' }) :
    wpAny (model pw w) A (execs (lawBody.drop 8) (lawEnv L)) Q E { s with heap := h, toks := tk } := by
  have X := C.P.K
  have TR := C.P.T
  have hh := C.P.hh
  obtain ⟨xs, LD, N⟩ := ((Sup.tabs T).and ((Sup.list hl).and (Sup.list hl2))).led F
  show wpAny _ _ (execs (_ :: _) _) _ _ _
  have hul : us.length = gs.length := by rw [hi.length, List.length_map]
  repeat ((fail_if_success (with_reducible show wpAny _ _ (exec (Stmt.Assign _ _ _) _) _ _ _)); walk1)
  refine LCg.Assign_ListComp_U (cl := []) F (by rfl) (by with_unfolding_all rfl) (by with_unfolding_all rfl) (by decide) (by rfl) (by decide) (by rfl) (by kernel_rfl) (by with_unfolding_all rfl) ?_
  repeat ((fail_if_success (with_reducible show wpAny _ _ (subscriptTail _ _ _ _) _ _ _)); walk1)
  refine kms_slice_lit (its := us.toArray) (zs := us.take (us.length - 1)) F N hl IsPart.none (IsPart.int _ _) ?_ ?_ (by with_unfolding_all rfl) (by intro _; with_unfolding_all rfl) (by rw [List.size_toArray, PySem.sizeLine_eq]; omega)
  · show kms_pick us none (some (-1)) = _
    unfold kms_pick kms_lo kms_hi
    simp
  intro D1 h1 F1 N1 l1
  clear F N
  refine' LCg.CompSrc.ledger (its := (us.take (us.length - 1)).toArray) (k := 0) ?ch ?cF ?cN ?cm ?cs ?_
  case ch => exact hh
  case cF => exact F1
  case cN => exact N1
  case cm => exact .head _
  case cs => rw [List.size_toArray, List.length_take, PySem.sizeLine_eq]; omega
  intro g'
  have hil := hi.take (us.length - 1)
  rw [← List.map_take] at hil
  have hdl : gs.take (us.length - 1) = gs.dropLast := by rw [List.dropLast_eq_take, hul]
  rw [hdl] at hil
  refine compRest_inv (fun i ys nx => (D1, listOf (us.take (us.length - 1)).toArray 0) ∈ nx ∧ Led H (fun h => (Tabs h ∧ h.IsList g us.toArray ∧ h.IsList r rs'.toArray) ∧ PairsAre h ys ((gs.dropLast.map (· / 16)).take i)) nx) ?_ ?_ _ 0 [] _ (by rw [Nat.zero_add]) ⟨.head _, fun h' k hx => ⟨LD h' k fun p hp => hx p (.tail _ hp), rfl, fun i p e => by simp at e⟩⟩
  · rintro i ys nx v I oI Cc oC D m₂ h2 tk2 E' hin hv' ⟨hm1, LD2⟩ hC hx F2 N2 off ne
    obtain ⟨n, t, rfl, hn⟩ := hil.at i v (by simpa using hv')
    obtain ⟨k, hkk, rfl⟩ : ∃ k, gs.dropLast[i]? = some k ∧ (k : Int) = n := by
      rw [List.getElem?_map] at hn
      cases q : gs.dropLast[i]? with
      | none => rw [q] at hn; cases hn
      | some k => rw [q] at hn; exact ⟨k, rfl, by simpa using hn⟩
    have hk6 := hv k (List.mem_of_mem_take (by rw [hdl]; exact List.mem_of_getElem? hkk))
    have e2 : (k : Int).fdiv 16 = ((k / 16 : Nat) : Int) := fdiv_nat k 16
    have hCn : h2.Ns Cc m₂ := hC.ns (N2 _ (.tail _ (.head _))).1
    walk_at "tocall"
    rw [e2]
    refine s_law_between ((C.P.fr F2).less) (by omega) ?_
    intro h3 tk3 d u u' k3 hd3 htup
    have F3 := frK F2 k3
    have N3 := newsK N2 k3
    obtain ⟨od, ed, cd, nd, dd⟩ := id htup
    have dn := newIn F2 hd3
    have dne : ∀ p ∈ (I, oI) :: (Cc, oC) :: (D, LCg.lst ys) :: nx, p.1 ≠ d := by
      intro p hp e
      have := (N2 p hp).1
      rw [e, hd3] at this; cases this
    refine LCg.CompEnd.intro F3 (newsCons ed dn.1 dn.2 N3) ((d, od) :: nx) ?_ ?_ ?_ ⟨.tail _ hm1, ?_⟩
    · intro p hp
      rcases List.mem_cons.mp hp with rfl | hp
      · exact .tail _ (.head _)
      rcases List.mem_cons.mp hp with rfl | hp
      · exact .tail _ (.tail _ (.head _))
      rcases List.mem_cons.mp hp with rfl | hp
      · exact .tail _ (.tail _ (.tail _ (.head _)))
      rcases List.mem_cons.mp hp with rfl | hp
      · exact .head _
      · exact .tail _ (.tail _ (.tail _ (.tail _ hp)))
    · exact ⟨⟨(dne _ (.head _)).symm, (dne _ (.tail _ (.head _))).symm, (dne _ (.tail _ (.tail _ (.head _)))).symm⟩, off⟩
    · exact .inr ⟨_, .tail _ hm1, rfl, _, rfl⟩
    · intro h4 k4 hx4
      have φ := LD2 h4 k4 fun p hp => hx4 p (.tail _ hp)
      refine ⟨φ.1, ?_⟩
      have e : (gs.dropLast.map (· / 16)).take (i + 1) = (gs.dropLast.map (· / 16)).take i ++ [k / 16] := by
        rw [List.take_add_one, List.getElem?_map, hkk]; rfl
      rw [e]
      exact φ.2.snoc ⟨od, hx4 _ (.head _), cd, nd, dd⟩
  · rintro ys nx ⟨hm1, LD2⟩ D h2 tk2 Fe Ne o1'
    have φ := LD2.at Fe Ne (fun p hp => .tail _ hp)
    have el : (gs.dropLast.map (· / 16)).take ((us.take (us.length - 1)).toArray.size) = gs.dropLast.map (· / 16) :=
      List.take_of_length_le (by rw [List.length_map, List.size_toArray, ← hdl, List.length_take, List.length_take, hul]; exact Nat.le_refl _)
    rw [el] at φ
    show wpAny _ _ (execs _ _) _ _ _
    exact next _ _ D ys Fe φ.1.1 φ.1.2.2 ⟨_, (Ne _ (.head _)).1, rfl, _, rfl⟩ φ.2
set_option maxHeartbeats 4000000 in
theorem law_e {w : World} {A : Around} {mg mb : Str → Option Value} {H : Heap} {L : Addr} (C : Ctx w A mg mb H L) {m : Str → Option Value} {h : Heap} {s : Shared} {tk : Nat} {b r : Addr} {bs rs' : List Value} {ps : List Nat} {Q : Flow → Shared → Prop} {E : Value → Shared → Prop}
    (F : Fr H L h m) (T : Tabs h) (hl2 : h.IsList r rs'.toArray) (hb : h.IsList b bs.toArray) (hp : PairsAre h bs ps) (hlen : ps.length ≤ 10) (mb' : m "between" = some (.ref b))
    (next : ∀ h' tk' f fs', Fr H L h' (fun z => if z = Str.ofString "folds" then some (.ref f) else m z) → Tabs h' → h'.IsList r (List.toArray rs') → h'.IsList b bs.toArray → PairsAre h' bs ps → h'.IsList f (List.toArray fs') → TextsAre fs' (ps.map foldOf) →
      wpAny (model pw w) A (execs (lawBody.drop 10) (lawEnv L)) Q E { s with heap := h', toks := tk' }) :
    wpAny (model pw w) A (execs (lawBody.drop 9) (lawEnv L)) Q E { s with heap := h, toks := tk } := by
  have X := C.P.K
  have TR := C.P.T
  have hh := C.P.hh
  obtain ⟨xs, LD, N⟩ := ((Sup.tabs T).and ((Sup.list hl2).and ((Sup.list hb).and (Sup.pairs hp)))).led F
  show wpAny _ _ (execs (_ :: _) _) _ _ _
  repeat ((fail_if_success (with_reducible show wpAny _ _ (exec (Stmt.Assign _ _ _) _) _ _ _)); walk1)
  refine asg_comp (H := H) (fun v y => ∀ d p u u', v = .ref d → IsTup h d #[.str ⟨#[signOf p]⟩ u, .str ⟨(foldOf p).toArray⟩ u'] → ∃ t, y = .str ⟨(foldOf p).toArray⟩ t) hh (by with_unfolding_all rfl) (by decide) (by decide) (by rfl) (by decide) (by rfl) (by kernel_rfl) (by with_unfolding_all rfl) ?_
  walk1
  refine ⟨b, bs, m, rfl, hb, by rw [hp.1, PySem.sizeLine_eq]; omega, F, ?_, ?_⟩
  · rintro C v s₂ m₂ E' hv hC hx hk
    obtain ⟨i, hv⟩ := List.getElem?_of_mem hv
    have hi : i < ps.length := by rw [← hp.1]; exact (List.getElem?_eq_some_iff.mp hv).1
    obtain ⟨d, u, u', e1, e2⟩ := hp.2 i _ (List.getElem?_eq_getElem hi)
    rw [hv] at e1
    obtain rfl := Option.some.inj e1
    repeat ((fail_if_success (with_reducible show wpAny _ _ (subscriptTail _ _ _ _) _ _ _)); walk1)
    refine item_tuple (upTup e2 hk) (by decide) (by decide) (j := 1) (by rfl) (by rfl) ?_
    refine ⟨?_, s₂.heap, _, rfl, fun _ _ e => e⟩
    intro d' p v v' e e3
    cases e
    obtain ⟨o, eo, co, no, do'⟩ := e2
    obtain ⟨o2, eo2, _, n2, d2⟩ := e3
    rw [eo] at eo2
    cases eo2
    rw [do'] at d2
    have e5 := congrArg (fun z : Data => match z with | .seq a _ => a[1]? | _ => none) d2
    exact ⟨v', Option.some.inj e5⟩
  intro D2 h2 tk2 ys F2 k2 hD2 hl3 hP
  have N2 := frNe N k2
  have φ := LD.at F2 N2 (fun p hp => hp)
  show wpAny _ _ (execs _ _) _ _ _
  exact next _ _ D2 ys F2 φ.1 φ.2.1 φ.2.2.1 φ.2.2.2 hl3 (texts_of hp hP)
set_option maxHeartbeats 4000000 in
theorem law_f {w : World} {A : Around} {mg mb : Str → Option Value} {H : Heap} {L : Addr} (C : Ctx w A mg mb H L) {m : Str → Option Value} {h : Heap} {s : Shared} {tk : Nat} {r b f : Addr} {rs' bs fs' : List Value} {ps : List Nat} {r0 : Nat} {rs : List Nat} {ld rd pn wd un : Nat} {Q : Flow → Shared → Prop} {E : Value → Shared → Prop}
    (F : Fr H L h m) (Z : Lists h r b f rs' bs fs' ps) (M : Names m r b f ld rd pn wd un) (hi : IntsAre rs' (runsI (r0 :: rs))) (hlen : rs.length = ps.length ∧ rs.length ≤ 8) (hr : ∀ v ∈ r0 :: rs, v ≤ 100)
    (next : ∀ h' tk' t, Fr H L h' (fun z => if z = Str.ofString "text" then some (.str ⟨(textOf (runsI (r0 :: rs)) (ps.map fun p => [signOf p])).toArray⟩ t) else m z) → Lists h' r b f rs' bs fs' ps →
      wpAny (model pw w) A (execs (lawBody.drop 11) (lawEnv L)) Q E { s with heap := h', toks := tk' }) :
    wpAny (model pw w) A (execs (lawBody.drop 10) (lawEnv L)) Q E { s with heap := h, toks := tk } := by
  have X := C.P.K
  have TR := C.P.T
  have hh := C.P.hh
  have mr := M.nr
  have mb' := M.nb
  obtain ⟨xs, LD, N⟩ := Z.sup.led F
  show wpAny _ _ (execs (_ :: _) _) _ _ _
  repeat ((fail_if_success (with_reducible show wpAny _ _ (eval (Expr.ListComp _ _ _ _) _) _ _ _)); walk1)
  refine ev_comp (fun v y => ∀ d p u u', v = .ref d → IsTup h d #[.str ⟨#[signOf p]⟩ u, .str ⟨(foldOf p).toArray⟩ u'] → ∃ t, y = .str ⟨[signOf p].toArray⟩ t) hh (by decide) (by decide) (by rfl) (by decide) (by rfl) ?_
  walk1
  refine ⟨b, bs, rfl, Z.lb, by rw [Z.lp.1, PySem.sizeLine_eq]; omega, ?_, ?_⟩
  · rintro C v s₂ m₂ E' hv hC hx hk
    obtain ⟨d, rfl, hw⟩ := pair_elt (prog := pw) (w := w) (A := A) (k := 0) (.inl ⟨rfl, rfl⟩) Z.lp Z.lp hv hk
    repeat ((fail_if_success (with_reducible show wpAny _ _ (subscriptTail _ _ _ _) _ _ _)); walk1)
    exact hw _ _ _ _ (by with_unfolding_all rfl) (by intro _; with_unfolding_all rfl) _ rfl ⟨_, rfl⟩
  intro D h2 tk2 ys k2 hD hlD hP
  have hT := texts_of (f := fun p => [signOf p]) Z.lp hP
  have F2 := frK F k2
  have N2 := newsK N k2
  clear F N
  walk_at "tocall"
  have Z2 := LD.at F2 N2 (fun p hp => hp)
  have hps : rs.length ≤ ps.length := Nat.le_of_eq hlen.1
  refine s_law_text (vs := rs') (ws := ys) (n := (r0 : Int)) (ns := runsI rs) (xs := ps.map fun p => [signOf p]) ((C.P.fr F2).less) Z2.lr hi hlD hT ?_ ?_ ?_ ?_ ?_
  · intro n' hn'
    obtain ⟨v, hv, rfl⟩ := List.mem_map.mp (show n' ∈ runsI (r0 :: rs) from hn')
    have := hr v hv
    omega
  · intro x hx
    obtain ⟨p, _, rfl⟩ := List.mem_map.mp hx
    exact Nat.le_of_ble_eq_true rfl
  · unfold runsI; rw [List.length_map, List.length_map]; exact hps
  · unfold runsI; rw [List.length_map]; omega
  intro h3 tk3 t3 k3
  have F3 := frK F2 k3
  have N3 := newsK N2 k3
  clear F2 N2
  walk1
  rename Fr _ _ _ _ => F4
  rename News _ _ _ _ => N4
  exact next _ _ _ F4 (LD.at F4 N4 (fun p hp => hp))
theorem readL_mem : ∀ (n : Nat) (x : List Nat), x.length ≤ n → ∀ c ∈ readL x, c ∈ x := by
  intro n
  induction n with
  | zero => intro x hx c hc; obtain rfl := List.length_eq_zero_iff.mp (Nat.le_zero.mp hx); rw [readL_nil] at hc; exact hc
  | succ n ih =>
    intro x hx c hc
    match x, hx, hc with
    | [], _, hc => rw [readL_nil] at hc; exact hc
    | a :: r, hx, hc =>
      by_cases ha : a = 34
      · subst ha
        match r, hx, hc with
        | [], _, hc => rw [readL_one] at hc; cases hc
        | b :: r', hx, hc =>
          by_cases hb : b = 34
          · subst hb
            rw [readL_two] at hc
            rcases List.mem_cons.mp hc with rfl | hc
            · exact .head _
            · exact .tail _ (.tail _ (ih r' (by simp at hx; omega) c hc))
          · rw [readL_stop hb] at hc; cases hc
      · rw [readL_other ha] at hc
        rcases List.mem_cons.mp hc with rfl | hc
        · exact .head _
        · exact .tail _ (ih r (by simp at hx; omega) c hc)
theorem readN_mem (k : Nat) (x : List Nat) : ∀ c ∈ readN k x, c ∈ x := by
  induction k with
  | zero => exact fun c hc => hc
  | succ k ih => exact fun c hc => ih c (readL_mem _ _ (Nat.le_refl _) c hc)
set_option maxHeartbeats 4000000 in
theorem law_g {w : World} {A : Around} {mg mb : Str → Option Value} {H : Heap} {L : Addr} (C : Ctx w A mg mb H L) {m : Str → Option Value} {h : Heap} {s : Shared} {tk : Nat} {r b f : Addr} {rs' bs fs' : List Value} {ps : List Nat} {x : List Nat} {ld rd pn wd un : Nat} {Q : Flow → Shared → Prop} {E : Value → Shared → Prop}
    (F : Fr H L h m) (Z : Lists h r b f rs' bs fs' ps) (M : Names m r b f ld rd pn wd un) (mx : HasStr m "text" ⟨x.toArray⟩) (hx : x.length ≤ 5000) (hg : ∀ c ∈ x, Good c) (hrd : rd ≤ 10)
    (next : ∀ h' tk' m', Fr H L h' m' → Lists h' r b f rs' bs fs' ps → Names m' r b f ld rd pn wd un → HasStr m' "behind" ⟨(prepL (readN rd x)).toArray⟩ → HasStr m' "ahead" ⟨(readN rd (prepL x)).toArray⟩ →
      wpAny (model pw w) A (execs (lawBody.drop 13) (lawEnv L)) Q E { s with heap := h', toks := tk' }) :
    wpAny (model pw w) A (execs (lawBody.drop 11) (lawEnv L)) Q E { s with heap := h, toks := tk } := by
  have X := C.P.K
  have TR := C.P.T
  have hh := C.P.hh
  obtain ⟨tx, mx⟩ := mx
  obtain ⟨td, md⟩ := M.nd
  obtain ⟨xs, LD, N⟩ := Z.sup.led F
  have hp := prepL_len x hg
  show wpAny _ _ (execs (_ :: _) _) _ _ _
  walk_at "tocall"
  refine s_law_read ((C.P.fr F).less) (by omega) (by omega) ?_
  intro h1 tk1 t1 k1
  have F1 := frK F k1
  have N1 := newsK N k1
  clear F N
  walk_at "tocall"
  refine s_law_prepared ((C.P.fr F1).less) (Nat.le_trans (readN_len rd x) (by omega)) (fun c hc => hg c (readN_mem rd x c hc)) ?_
  intro h2 tk2 t2 k2
  have F2 := frK F1 k2
  have N2 := newsK N1 k2
  clear F1 N1
  walk_at "tocall"
  rename Fr _ _ _ _ => F3
  rename News _ _ _ _ => N3
  refine s_law_prepared ((C.P.fr F3).less) (by omega) hg ?_
  intro h4 tk4 t4 k4
  have F4 := frK F3 k4
  have N4 := newsK N3 k4
  clear F3 N3
  walk_at "tocall"
  refine s_law_read ((C.P.fr F4).less) (by omega) (by omega) ?_
  intro h5 tk5 t5 k5
  have F5 := frK F4 k5
  have N5 := newsK N4 k5
  clear F4 N4
  walk1
  rename Fr _ _ _ _ => F6
  rename News _ _ _ _ => N6
  refine next _ _ _ F6 (LD.at F6 N6 (fun p hp => hp)) ((M.set _ _ (by decide)).set _ _ (by decide)) ⟨_, by walk_at "look"⟩ ⟨_, by walk_at "look"⟩
set_option maxHeartbeats 4000000 in
theorem law_h {w : World} {A : Around} {mg mb : Str → Option Value} {H : Heap} {L : Addr} (C : Ctx w A mg mb H L) {m : Str → Option Value} {h : Heap} {s : Shared} {tk : Nat} {r b f : Addr} {rs' bs fs' : List Value} {ps : List Nat} {bx ax : Str} {r0 : Nat} {rs : List Nat} {ld rd pn wd un : Nat} {Q : Flow → Shared → Prop} {E : Value → Shared → Prop}
    (F : Fr H L h m) (Z : Lists h r b f rs' bs fs' ps) (M : Names m r b f ld rd pn wd un) (m1 : HasStr m "behind" bx) (m2 : HasStr m "ahead" ax) (hi : IntsAre rs' (runsI (r0 :: rs))) (hf : TextsAre fs' (ps.map foldOf)) (hlen : rs.length = ps.length ∧ rs.length ≤ 8) (hr : ∀ v ∈ r0 :: rs, v ≤ 100) (hpn : 0 < pn ∧ pn < 1000)
    (next : ∀ h' tk' m' kd kv G Le vg wl, Fr H L h' m' → Lists h' r b f rs' bs fs' ps → Names m' r b f ld rd pn wd un → HasStr m' "behind" bx → HasStr m' "ahead" ax → m' "kept" = some (.ref kd) → h'.IsList kd (List.toArray kv) → IntsAre kv (runsI (halvedN pn (r0 :: rs))) →
      m' "groups" = some (.ref G) → m' "letters" = some (.ref Le) → Lists2 h' G Le vg wl (groupsOf (halvedN pn (r0 :: rs)) (ps.map foldOf)) (lettersOf (halvedN pn (r0 :: rs)) (ps.map foldOf)) →
      wpAny (model pw w) A (execs (lawBody.drop 15) (lawEnv L)) Q E { s with heap := h', toks := tk' }) :
    wpAny (model pw w) A (execs (lawBody.drop 13) (lawEnv L)) Q E { s with heap := h, toks := tk } := by
  have X := C.P.K
  have TR := C.P.T
  have hh := C.P.hh
  have mr := M.nr
  obtain ⟨tp, mp⟩ := M.np
  have mf := M.nf
  obtain ⟨t1, m1⟩ := m1
  obtain ⟨t2, m2⟩ := m2
  obtain ⟨xs, LD, N⟩ := Z.sup.led F
  show wpAny _ _ (execs (_ :: _) _) _ _ _
  walk_at "tocall"
  refine s_law_halved (p := (pn : Int)) ((C.P.fr F).less) Z.lr hi (by omega) (by omega) ?_ ?_ ?_
  · intro n' hn'
    obtain ⟨v, hv, rfl⟩ := List.mem_map.mp (show n' ∈ runsI (r0 :: rs) from hn')
    have := hr v hv
    omega
  · unfold runsI; rw [List.length_map, List.length_cons]; omega
  intro h1 tk1 kd kv kk k1 hd1 ek hik
  rw [halved_nat] at hik
  have F1 := frK F k1
  have N1 := newsCons ek (newIn F hd1).1 (newIn F hd1).2 (newsK N k1)
  clear F N
  obtain ⟨q0, qs, hq⟩ : ∃ q0 qs, halvedN pn (r0 :: rs) = q0 :: qs := ⟨_, _, rfl⟩
  have hql : qs.length ≤ rs.length := by
    have := halvedN_len pn (r0 :: rs)
    rw [hq] at this
    simpa using this
  rw [hq] at hik next
  walk_at "tocall"
  rename Fr _ _ _ _ => F2
  rename News _ _ _ _ => N2
  have Z2 := LD.at F2 N2 (fun p hp => .tail _ hp)
  refine s_law_groups (r0 := q0) (rest := qs) (fs := ps.map foldOf) ((C.P.fr F2).less) ⟨_, (N2 _ (.head _)).1, rfl, _, rfl⟩ hik Z2.lf hf (by rw [List.length_map]; omega) (by omega) ?_
  intro h3 tk3 d G Le vg wl k3 htup hG hga hLe hlt
  have F3 := frK F2 k3
  have N3 := newsK N2 k3
  clear F2 N2
  have Y : Lists2 h3 G Le vg wl (groupsOf (q0 :: qs) (ps.map foldOf)) (lettersOf (q0 :: qs) (ps.map foldOf)) := ⟨hG, hga, hLe, hlt⟩
  have K3 : h3.IsList kd kv.toArray := ⟨_, (N3 _ (.head _)).1, rfl, _, rfl⟩
  obtain ⟨xs4, LD4, N4⟩ := ((LD.at F3 N3 (fun p hp => .tail _ hp)).sup.and ((Sup.list K3).and Y.sup)).led F3
  clear N3 LD
  repeat ((fail_if_success (with_reducible show wpAny _ _ (execs _ _) _ _ _)); walk1)
  rename Fr _ _ _ _ => F5
  rename News _ _ _ _ => N5
  have φ := LD4.at F5 N5 (fun p hp => hp)
  refine next _ _ _ kd kv G Le vg wl F5 φ.1 (((M.set _ _ (by decide)).set _ _ (by decide)).set _ _ (by decide)) ⟨_, by walk_at "look"⟩ ⟨_, by walk_at "look"⟩ (by walk_at "look") φ.2.1 hik (by walk_at "look") (by walk_at "look") φ.2.2
set_option maxHeartbeats 4000000 in
theorem law_i {w : World} {A : Around} {mg mb : Str → Option Value} {H : Heap} {L : Addr} (C : Ctx w A mg mb H L) {m : Str → Option Value} {h : Heap} {s : Shared} {tk : Nat} {bx : List Nat} {Φ : Heap → Prop} {G Le : Addr} {vg wl : List Value} {g0 : List Nat} {gr ls : List (List Nat)} {Q : Flow → Shared → Prop} {E : Value → Shared → Prop}
    (F : Fr H L h m) (S : Sup Φ h) (Y : Lists2 h G Le vg wl (g0 :: gr) ls) (m1 : HasStr m "behind" ⟨bx.toArray⟩) (m3 : m "groups" = some (.ref G)) (m4 : m "letters" = some (.ref Le))
    (hn : ∀ g ∈ g0 :: gr, g.sum ≤ 1000) (hx : ∀ x ∈ ls, x.length ≤ 1000) (hlen : gr.length ≤ ls.length) (hsz : gr.length ≤ 100) (heq : bx = textOf (runsI ((g0 :: gr).map List.sum)) ls)
    (next : ∀ h' tk', Fr H L h' m → Φ h' → Lists2 h' G Le vg wl (g0 :: gr) ls → wpAny (model pw w) A (execs (lawBody.drop 16) (lawEnv L)) Q E { s with heap := h', toks := tk' }) :
    wpAny (model pw w) A (execs (lawBody.drop 15) (lawEnv L)) Q E { s with heap := h, toks := tk } := by
  have X := C.P.K
  have TR := C.P.T
  have hh := C.P.hh
  obtain ⟨t1, m1⟩ := m1
  obtain ⟨xs, LD, N⟩ := (S.and Y.sup).led F
  show wpAny _ _ (execs (_ :: _) _) _ _ _
  repeat ((fail_if_success (with_reducible show wpAny _ _ (eval (Expr.ListComp _ _ _ _) _) _ _ _)); walk1)
  have hgl : vg.length ≤ 101 := by rw [Y.ga.1, List.length_cons]; omega
  refine ev_comp (fun v y => ∀ a us ns, v = .ref a → h.IsList a (List.toArray us) → IntsAre us (runsI ns) → ∃ t, y = .int ((ns.sum : Nat) : Int) t) hh (by decide) (by decide) (by rfl) (by decide) (by rfl) ?_
  walk1
  refine ⟨G, vg, rfl, Y.lg, by rw [PySem.sizeLine_eq]; omega, ?_, ?_⟩
  · rintro C v s₂ m₂ E' hv hC hx' hk
    obtain ⟨i, hv⟩ := List.getElem?_of_mem hv
    have hi : i < (g0 :: gr).length := by rw [← Y.ga.1]; exact (List.getElem?_eq_some_iff.mp hv).1
    obtain ⟨a, us, e1, e2, e3⟩ := Y.ga.2 i _ (List.getElem?_eq_getElem hi)
    rw [hv] at e1
    obtain rfl := Option.some.inj e1
    have Fs := frK F hk
    repeat ((fail_if_success (with_reducible show wpAny _ _ (call (Value.builtin "sum") _) _ _ _)); walk1)
    refine sum_keep hh (upList e2 hk) e3 ?_
    intro h4 tk4 t4 k4
    refine ⟨?_, h4, tk4, rfl, k4⟩
    intro a' us' ns' ea el ei
    cases ea
    obtain rfl := sameList e2 el
    have en := sameInts e3 ei
    exact ⟨t4, congrArg (fun z => Value.int z t4) (by rw [← en]; exact sum_runsI _)⟩
  intro D h2 tk2 ys k2 hD hlD hP
  have hT := sums_of Y.ga hP
  have F2 := frK F k2
  have N2 := newsK N k2
  clear F N
  walk_at "tocall"
  have φ2 := LD.at F2 N2 (fun p hp => hp)
  refine s_law_text (vs := ys) (ws := wl) (n := ((g0.sum : Nat) : Int)) (ns := runsI (gr.map List.sum)) (xs := ls) ((C.P.fr F2).less) hlD hT φ2.2.ll φ2.2.lt ?_ hx ?_ ?_ ?_
  · intro n' hn'
    obtain ⟨v, hv, rfl⟩ := List.mem_map.mp (show n' ∈ runsI ((g0 :: gr).map List.sum) from hn')
    obtain ⟨g, hg, rfl⟩ := List.mem_map.mp hv
    have := hn g hg
    omega
  · unfold runsI; rw [List.length_map, List.length_map]; exact hlen
  · unfold runsI; rw [List.length_map, List.length_map]; exact hsz
  intro h3 tk3 t3 k3
  have F3 := frK F2 k3
  have N3 := newsK N2 k3
  clear F2 N2
  walk_at "toite"
  have e : (⟨bx.toArray⟩ : Str) = ⟨(textOf (((g0.sum : Nat) : Int) :: runsI (gr.map List.sum)) ls).toArray⟩ := by rw [heq]; rfl
  rw [if_neg (by rw [e]; simp)]
  walk1
  have φ3 := LD.at F3 N3 (fun p hp => hp)
  exact next _ _ F3 φ3.1 φ3.2
section
variable {prog : Program} {w : World} {A : Around} {E : Value → Shared → Prop} {s : Shared} {Q : Value → Shared → Prop}
theorem pair_reads {h : Heap} {d D : Addr} {ws : List Value} {ns : List Int} {z : Int} {t : Tok} (hd : IsTup h d #[.ref D, .int z t]) (hD : h.IsList D ws.toArray) (hi : IntsAre ws ns) : ∃ as, Reads h (.ref d) (.tuple [.list (ns.map PyData.int), .int z]) as := by
  obtain ⟨o, e, c, n, dd⟩ := hd
  exact ⟨_, reads_tuple_at e c dd (ReadsAll.cons (reads_of_ints hD hi) (ReadsAll.cons (Reads.int _ _) ReadsAll.nil))⟩
theorem pair_shaped (ns : List Int) (z : Int) : SeqAt.shaped (.tuple [.list (ns.map PyData.int), .int z]) = true := by
  simp [SeqAt.shaped, PyData.canLay0, PyData.canLayAll0, PyData.depth, PyData.depthAll, ke_canLayAll0, ke_depthAll]
theorem ne_pair {d D d' D' : Addr} {ws ws' : List Value} {ns : List Int} {z : Int} {t t' : Tok} (hd : IsTup s.heap d #[.ref D, .int z t]) (hD : s.heap.IsList D ws.toArray) (hi : IntsAre ws ns) (hd' : IsTup s.heap d' #[.ref D', .int z t']) (hD' : s.heap.IsList D' ws'.toArray) (hi' : IntsAre ws' ns) (hu : A.units + 64 < cLine)
    (h : Q (.bool false) s) : wpAny (model prog w) A (compareOp .NotEq (.ref d) (.ref d')) Q E s := by
  obtain ⟨as, ra⟩ := pair_reads hd hD hi
  obtain ⟨bs, rb⟩ := pair_reads hd' hD' hi'
  refine ne_dataH ra rb (pair_shaped _ _) (pair_shaped _ _) hu ?_
  have e : PyData.eqv (.tuple [.list (ns.map PyData.int), .int z]) (.tuple [.list (ns.map PyData.int), .int z]) = true := by
    simp [PyData.eqv, PyData.eqvAll, ked_eqvAll]
  rw [e]; exact h
end
set_option maxHeartbeats 4000000 in
theorem law_j {w : World} {A : Around} {mg mb : Str → Option Value} {H : Heap} {L : Addr} (C : Ctx w A mg mb H L) {m : Str → Option Value} {h : Heap} {s : Shared} {tk : Nat} {r b f : Addr} {rs' bs fs' : List Value} {ps : List Nat} {kd : Addr} {kv : List Value} {ks : List Nat} {G Le : Addr} {vg wl : List Value} {gs ls : List (List Nat)} {rs : List Nat} {rl : Nat} {ld rd pn wd un : Nat} {Q : Flow → Shared → Prop} {E : Value → Shared → Prop}
    (F : Fr H L h m) (Z : Lists h r b f rs' bs fs' ps) (M : Names m r b f ld rd pn wd un) (mk : m "kept" = some (.ref kd)) (hk : h.IsList kd kv.toArray) (hik : IntsAre kv (runsI ks)) (Y : Lists2 h G Le vg wl gs ls)
    (hi : IntsAre rs' (runsI rs)) (hlast : rs.getLast? = some rl) (hlen : 0 < rs.length ∧ rs.length ≤ 8) (hr : ∀ v ∈ rs, v < 2 ^ wd) (hwd : 9 ≤ wd ∧ wd ≤ 1000) (hpn : 0 < pn ∧ pn ≤ 8) (hld : ld < un) (hun : un < 2 ^ 5100) (hun2 : 2 ^ (5 * wd) ≤ un)
    (e1 : valD (2 ^ wd) rs.reverse % pn = rl % pn) (e2 : packF pn (2 ^ wd) (digs wd rs.length (valD (2 ^ wd) rs.reverse / pn)).reverse = ks)
    (next : ∀ h' tk', Fr H L h' m → Lists h' r b f rs' bs fs' ps → h'.IsList kd (List.toArray kv) → Lists2 h' G Le vg wl gs ls → wpAny (model pw w) A (execs (lawBody.drop 17) (lawEnv L)) Q E { s with heap := h', toks := tk' }) :
    wpAny (model pw w) A (execs (lawBody.drop 16) (lawEnv L)) Q E { s with heap := h, toks := tk } := by
  have X := C.P.K
  have TR := C.P.T
  have hh := C.P.hh
  have mr := M.nr
  obtain ⟨tp, mp⟩ := M.np
  obtain ⟨tw, mw⟩ := M.nw
  obtain ⟨tu, mu⟩ := M.nu
  obtain ⟨tl, ml⟩ := M.nl
  obtain ⟨lo, mean, TP⟩ := C.TP
  obtain ⟨xs, LD, N⟩ := (Z.sup.and ((Sup.list hk).and Y.sup)).led F
  show wpAny _ _ (execs (_ :: _) _) _ _ _
  walk_at "tocall"
  refine s_law_packed (rs := rs) (C.P.less (by decide) (by decide)) TP F.keep C.h30 C.h37 Z.tabs Z.lr hi hr hlen hwd hpn hld hun hun2 ?_
  intro h1 tk1 d D ws k1 u1 kt T1 hd hD eD htup hiw
  rw [e2] at hiw
  rw [e1] at htup
  have F1 := frT F kt C.h30 C.h37 C.big
  have Z1 := Z.keepT kt T1
  have hk1 := kt.list Z.tabs hk
  have Y1 := Y.keepT Z.tabs kt
  have hD1 : h1.IsList D ws.toArray := ⟨_, eD, rfl, _, rfl⟩
  clear LD N F
  obtain ⟨xs2, LD2, N2⟩ := ((Z1.sup.and ((Sup.list hk1).and Y1.sup)).and ((Sup.list hD1).and (Sup.tup htup))).led F1
  have hrl : rs'.length = rs.length := by rw [hi.length]; unfold runsI; rw [List.length_map]
  repeat ((fail_if_success (with_reducible show wpAny _ _ (subscriptTail _ _ _ _) _ _ _)); walk1)
  obtain ⟨tr, hlv⟩ : ∃ t, rs'[rs.length - 1]? = some (.int rl t) := by
    obtain ⟨n', t', e4, e5⟩ := hi.at (rs.length - 1) _ (List.getElem?_eq_getElem (by omega))
    unfold runsI at e5
    rw [List.getElem?_map, ← List.getLast?_eq_getElem?, hlast] at e5
    obtain rfl : (rl : Int) = n' := by simpa using e5
    exact ⟨t', by rw [List.getElem?_eq_getElem (by omega), e4]⟩
  have hj : seqIndex? (-1) rs'.length = some (rs.length - 1) := by
    rw [hrl]
    unfold seqIndex?
    simp
    omega
  refine kde_neg (vs := rs') Z1.lr (by decide) (by decide) hj hlv ?_
  have er : (rl : Int).fmod (pn : Int) = ((rl % pn : Nat) : Int) := fmod_nat rl pn
  have hpn0 : (pn : Int) ≠ 0 := by omega
  have hmm : bl (rl % pn) + bl un ≤ 2 ^ 27 := by
    have h1 : rl % pn < pn := Nat.mod_lt _ hpn.1
    have h2 : bl (rl % pn) ≤ 4 := bl_le.mpr (by omega)
    have h3 := bl_le.mpr hun
    omega
  repeat ((fail_if_success (with_reducible show wpAny _ _ (binaryOp Operator.Mult _ _) _ _ _)); walk1)
  rw [er]
  refine nmul hmm ?_
  repeat ((fail_if_success (with_reducible show wpAny _ _ (binaryOp Operator.Add _ _) _ _ _)); walk1)
  refine nadd ?_
  repeat ((fail_if_success (with_reducible show wpAny _ _ (compareOp CmpOp.NotEq _ _) _ _ _)); walk1)
  rename Fr _ _ _ _ => F3
  rename News _ _ _ _ => N3
  have φ := LD2.at F3 N3 (fun p hp => .tail _ hp)
  refine ne_pair φ.2.2 φ.2.1 hiw (N3.isTup (.head _)) φ.1.2.1 hik (Nat.lt_of_le_of_lt (Nat.add_le_add_left (by decide) _) C.P.units) ?_
  repeat ((fail_if_success (with_reducible show wpAny _ _ (execs _ _) _ _ _)); (first | rw [if_neg (by decide)] | walk1))
  refine wpAny_pure ?_
  exact next _ _ F3 φ.1.1 φ.1.2.1 φ.1.2.2
set_option maxHeartbeats 4000000 in
theorem law_k {w : World} {A : Around} {mg mb : Str → Option Value} {H : Heap} {L : Addr} (C : Ctx w A mg mb H L) {m : Str → Option Value} {h : Heap} {s : Shared} {tk : Nat} {r b f : Addr} {rs' bs fs' : List Value} {ps : List Nat} {bx : List Nat} {G Le : Addr} {vg wl : List Value} {g0 : List Nat} {gr ls : List (List Nat)} {ld rd pn wd un : Nat} {Q : Flow → Shared → Prop} {E : Value → Shared → Prop}
    (F : Fr H L h m) (Z : Lists h r b f rs' bs fs' ps) (M : Names m r b f ld rd pn wd un) (Y : Lists2 h G Le vg wl (g0 :: gr) ls) (m1 : HasStr m "behind" ⟨bx.toArray⟩) (m3 : m "groups" = some (.ref G)) (m4 : m "letters" = some (.ref Le))
    (hn : ∀ g ∈ g0 :: gr, g.sum ≤ 1000) (hx : ∀ x ∈ ls, x.length ≤ 1000) (hlen : gr.length ≤ ls.length) (hsz : gr.length ≤ 7) (hgr : ∀ g ∈ g0 :: gr, g.length ≤ 8 ∧ ∀ r ∈ g, r < 2 ^ wd) (hwd : 9 ≤ wd ∧ wd ≤ 1000)
    (e3 : ∀ g ∈ g0 :: gr, valD (2 ^ wd) g % (2 ^ wd - 1) = g.sum) (heq : bx = textOf (runsI ((g0 :: gr).map List.sum)) ls)
    (next : ∀ h' tk', Fr H L h' m → Lists h' r b f rs' bs fs' ps → wpAny (model pw w) A (execs (lawBody.drop 18) (lawEnv L)) Q E { s with heap := h', toks := tk' }) :
    wpAny (model pw w) A (execs (lawBody.drop 17) (lawEnv L)) Q E { s with heap := h, toks := tk } := by
  have X := C.P.K
  have TR := C.P.T
  have hh := C.P.hh
  obtain ⟨tw, mw⟩ := M.nw
  obtain ⟨t1, m1⟩ := m1
  obtain ⟨lo, mean, TP⟩ := C.TP
  obtain ⟨xs, LD, N⟩ := (Z.sup.and Y.sup).led F
  show wpAny _ _ (execs (_ :: _) _) _ _ _
  walk_at "tocall"
  refine s_law_rests (gs := g0 :: gr) (C.P.less (by decide) (by decide)) TP F.keep C.h30 C.h37 Z.tabs Y.lg Y.ga hgr (by rw [List.length_cons]; omega) hwd ?_
  intro h1 tk1 D ws kt T1 hD hDl hiw
  have e4 : (g0 :: gr).map (fun g => valD (2 ^ wd) g % (2 ^ wd - 1)) = (g0 :: gr).map List.sum := List.map_congr_left fun g hg => e3 g hg
  rw [e4] at hiw
  have F1 := frT F kt C.h30 C.h37 C.big
  have Z1 := Z.keepT kt T1
  have Y1 := Y.keepT Z.tabs kt
  clear LD N F
  obtain ⟨xs2, LD2, N2⟩ := ((Z1.sup.and Y1.sup).and (Sup.list hDl)).led F1
  walk_at "tocall"
  refine s_law_text (vs := ws) (ws := wl) (n := ((g0.sum : Nat) : Int)) (ns := runsI (gr.map List.sum)) (xs := ls) ((C.P.fr F1).less) hDl hiw Y1.ll Y1.lt ?_ hx ?_ ?_ ?_
  · intro n' hn'
    obtain ⟨v, hv, rfl⟩ := List.mem_map.mp (show n' ∈ runsI ((g0 :: gr).map List.sum) from hn')
    obtain ⟨g, hg, rfl⟩ := List.mem_map.mp hv
    have := hn g hg
    omega
  · unfold runsI; rw [List.length_map, List.length_map]; exact hlen
  · unfold runsI; rw [List.length_map, List.length_map]; omega
  intro h3 tk3 t3 k3
  have F3 := frK F1 k3
  have N3 := newsK N2 k3
  clear F1 N2
  walk_at "toite"
  have e : (⟨bx.toArray⟩ : Str) = ⟨(textOf (((g0.sum : Nat) : Int) :: runsI (gr.map List.sum)) ls).toArray⟩ := by rw [heq]; rfl
  rw [if_neg (by rw [e]; simp)]
  refine wpAny_execs_nil ?_
  have φ3 := LD2.at F3 N3 (fun p hp => hp)
  exact next _ _ F3 φ3.1.1
set_option maxHeartbeats 4000000 in
theorem law_l {w : World} {A : Around} {mg mb : Str → Option Value} {H : Heap} {L : Addr} (C : Ctx w A mg mb H L) {m : Str → Option Value} {h : Heap} {s : Shared} {tk : Nat} {r b f : Addr} {rs' bs fs' : List Value} {ps : List Nat} {bx : Str} {ax : List Nat} {r0 : Nat} {rs : List Nat} {g0 : List Nat} {gr ls : List (List Nat)} {ld rd pn wd un : Nat} {Q : Flow → Shared → Prop} {E : Value → Shared → Prop}
    (F : Fr H L h m) (Z : Lists h r b f rs' bs fs' ps) (M : Names m r b f ld rd pn wd un) (m1 : HasStr m "behind" bx) (m2 : HasStr m "ahead" ⟨ax.toArray⟩) (hi : IntsAre rs' (runsI (r0 :: rs))) (hf : TextsAre fs' (ps.map foldOf)) (hlen : rs.length = ps.length ∧ rs.length ≤ 8) (hpn : 0 < pn ∧ pn < 1000)
    (eg : groupsOf (r0 :: rs) (ps.map foldOf) = g0 :: gr) (el : lettersOf (r0 :: rs) (ps.map foldOf) = ls)
    (hn : ∀ g ∈ g0 :: gr, g.sum ≤ 1000) (hx : ∀ x ∈ ls, x.length ≤ 1000) (hgl : gr.length ≤ ls.length) (hsz : gr.length ≤ 7)
    (heq : ax = textOf (runsI (halvedN pn ((g0 :: gr).map List.sum))) ls)
    (next : ∀ h' tk' m' G Le vg wl sd sv, Fr H L h' m' → Lists h' r b f rs' bs fs' ps → Names m' r b f ld rd pn wd un → HasStr m' "behind" bx → HasStr m' "ahead" ⟨ax.toArray⟩ →
      m' "groups" = some (.ref G) → m' "letters" = some (.ref Le) → Lists2 h' G Le vg wl (g0 :: gr) ls → m' "sums" = some (.ref sd) → h'.IsList sd (List.toArray sv) → IntsAre sv (runsI ((g0 :: gr).map List.sum)) →
      wpAny (model pw w) A (execs (lawBody.drop 21) (lawEnv L)) Q E { s with heap := h', toks := tk' }) :
    wpAny (model pw w) A (execs (lawBody.drop 18) (lawEnv L)) Q E { s with heap := h, toks := tk } := by
  have X := C.P.K
  have TR := C.P.T
  have hh := C.P.hh
  have mr := M.nr
  obtain ⟨tp, mp⟩ := M.np
  have mf := M.nf
  obtain ⟨t1, m1⟩ := m1
  obtain ⟨t2, m2⟩ := m2
  obtain ⟨xs, LD, N⟩ := Z.sup.led F
  show wpAny _ _ (execs (_ :: _) _) _ _ _
  walk_at "tocall"
  refine s_law_groups (r0 := r0) (rest := rs) (fs := ps.map foldOf) ((C.P.fr F).less) Z.lr hi Z.lf hf (by rw [List.length_map]; omega) (by omega) ?_
  intro h3 tk3 d G Le vg wl k3 htup hG hga hLe hlt
  have F3 := frK F k3
  have N3 := newsK N k3
  clear F N
  have Y : Lists2 h3 G Le vg wl (g0 :: gr) ls := by rw [← eg, ← el]; exact ⟨hG, hga, hLe, hlt⟩
  obtain ⟨xs4, LD4, N4⟩ := ((LD.at F3 N3 (fun p hp => hp)).sup.and Y.sup).led F3
  clear N3 LD
  have hvl : vg.length ≤ 8 := by rw [Y.ga.1, List.length_cons]; omega
  repeat ((fail_if_success (with_reducible show wpAny _ _ (execs _ _) _ _ _)); walk1)
  rename Fr _ _ _ _ => F5
  rename News _ _ _ _ => N5
  have φ5 := LD4.at F5 N5 (fun p hp => hp)
  rename_i h5
  repeat ((fail_if_success (with_reducible show wpAny _ _ (exec (Stmt.Assign _ _ _) _) _ _ _)); walk1)
  refine asg_comp (H := H) (fun v y => ∀ a us ns, v = .ref a → h5.IsList a (List.toArray us) → IntsAre us (runsI ns) → ∃ t, y = .int ((ns.sum : Nat) : Int) t) hh (by with_unfolding_all rfl) (by decide) (by decide) (by rfl) (by decide) (by rfl) (by kernel_rfl) (by with_unfolding_all rfl) ?_
  walk1
  refine ⟨G, vg, _, rfl, φ5.2.lg, by rw [PySem.sizeLine_eq]; omega, F5, ?_, ?_⟩
  · rintro C v s₂ m₂ E' hv hC hx' hk
    obtain ⟨i, hv⟩ := List.getElem?_of_mem hv
    have hi : i < (g0 :: gr).length := by rw [← Y.ga.1]; exact (List.getElem?_eq_some_iff.mp hv).1
    obtain ⟨a, us, e1, e2, e3⟩ := φ5.2.ga.2 i _ (List.getElem?_eq_getElem hi)
    rw [hv] at e1
    obtain rfl := Option.some.inj e1
    have Fs := frK F5 hk
    repeat ((fail_if_success (with_reducible show wpAny _ _ (call (Value.builtin "sum") _) _ _ _)); walk1)
    refine sum_keep hh (upList e2 hk) e3 ?_
    intro h4 tk4 t4 k4
    refine ⟨?_, h4, tk4, rfl, k4⟩
    intro a' us' ns' ea el ei
    cases ea
    obtain rfl := sameList e2 el
    have en := sameInts e3 ei
    exact ⟨t4, congrArg (fun z => Value.int z t4) (by rw [← en]; exact sum_runsI _)⟩
  intro D6 h6 tk6 ys F6 k6 hD6 hl6 hP
  have hsv := sums_of φ5.2.ga hP
  have N6 := frNe N5 k6
  have φ6 := LD4.at F6 N6 (fun p hp => hp)
  obtain ⟨xs7, LD7, N7⟩ := ((φ6.1.sup.and φ6.2.sup).and (Sup.list hl6)).led F6
  clear N6 N5 F5 LD4
  show wpAny _ _ (execs _ _) _ _ _
  walk_at "tocall"
  obtain ⟨q0, qs, hq⟩ : ∃ q0 qs, halvedN pn ((g0 :: gr).map List.sum) = q0 :: qs := ⟨_, _, rfl⟩
  have hql : qs.length ≤ gr.length := by
    have := halvedN_len pn ((g0 :: gr).map List.sum)
    rw [hq, List.length_map] at this
    simpa using this
  have hqle := halvedN_le pn 1000 ((g0 :: gr).map List.sum) (fun x hx => by
    obtain ⟨g, hg, rfl⟩ := List.mem_map.mp hx
    exact hn g hg)
  rw [hq] at hqle
  refine s_law_halved (p := (pn : Int)) ((C.P.fr F6).less) hl6 hsv (by omega) (by omega) ?_ ?_ ?_
  · intro n' hn'
    obtain ⟨v, hv, rfl⟩ := List.mem_map.mp hn'
    obtain ⟨g, hg, rfl⟩ := List.mem_map.mp hv
    have := hn g hg
    omega
  · unfold runsI; rw [List.length_map, List.length_map, List.length_cons]; omega
  intro h8 tk8 kd kv kk k8 hd8 ek hik
  rw [halved_nat, hq] at hik
  have F8 := frK F6 k8
  have N8 := newsCons ek (newIn F6 hd8).1 (newIn F6 hd8).2 (newsK N7 k8)
  clear F6 N7
  walk_at "tocall"
  have φ8 := LD7.at F8 N8 (fun p hp => .tail _ hp)
  refine s_law_text (vs := kv) (ws := wl) (n := (q0 : Int)) (ns := runsI qs) (xs := ls) ((C.P.fr F8).less) ⟨_, (N8 _ (.head _)).1, rfl, _, rfl⟩ hik φ8.1.2.ll φ8.1.2.lt ?_ hx ?_ ?_ ?_
  · intro n' hn'
    obtain ⟨v, hv, rfl⟩ := List.mem_map.mp (show n' ∈ runsI (q0 :: qs) from hn')
    have := hqle v hv
    omega
  · unfold runsI; rw [List.length_map]; omega
  · unfold runsI; rw [List.length_map]; omega
  intro h9 tk9 t9 k9
  have F9 := frK F8 k9
  have N9 := newsK N8 k9
  clear F8 N8
  walk_at "toite"
  have e : (⟨ax.toArray⟩ : Str) = ⟨(textOf ((q0 : Int) :: runsI qs) ls).toArray⟩ := by rw [heq, hq]; rfl
  rw [if_neg (by rw [e]; simp)]
  refine wpAny_execs_nil ?_
  have φ9 := LD7.at F9 N9 (fun p hp => .tail _ hp)
  refine next _ _ _ G Le vg wl D6 ys F9 φ9.1.1 (((M.set _ _ (by decide)).set _ _ (by decide)).set _ _ (by decide)) ⟨_, by walk_at "look"⟩ ⟨_, by walk_at "look"⟩ (by walk_at "look") (by walk_at "look") φ9.1.2 (by walk_at "look") φ9.2 hsv
set_option maxHeartbeats 4000000 in
theorem law_m {w : World} {A : Around} {mg mb : Str → Option Value} {H : Heap} {L : Addr} (C : Ctx w A mg mb H L) {m : Str → Option Value} {h : Heap} {s : Shared} {tk : Nat} {r b f : Addr} {rs' bs fs' : List Value} {ps : List Nat} {bx : Str} {ax : List Nat} {G Le sd : Addr} {vg wl sv : List Value} {gs ls : List (List Nat)} {ss : List Nat} {sl q0 : Nat} {qs : List Nat} {ld rd pn wd un : Nat} {Q : Flow → Shared → Prop} {E : Value → Shared → Prop}
    (F : Fr H L h m) (Z : Lists h r b f rs' bs fs' ps) (M : Names m r b f ld rd pn wd un) (m1 : HasStr m "behind" bx) (m2 : HasStr m "ahead" ⟨ax.toArray⟩) (m3 : m "groups" = some (.ref G)) (m4 : m "letters" = some (.ref Le)) (Y : Lists2 h G Le vg wl gs ls)
    (m5 : m "sums" = some (.ref sd)) (hs : h.IsList sd sv.toArray) (his : IntsAre sv (runsI ss)) (ess : gs.map List.sum = ss) (hlast : ss.getLast? = some sl)
    (hpn : 0 < pn ∧ pn ≤ 8) (hwd : 9 ≤ wd ∧ wd ≤ 1000) (hld : ld < un) (hun : un < 2 ^ 5100) (hun2 : 2 ^ (5 * wd) ≤ un)
    (hgr : ∀ g ∈ gs, g.length ≤ 8 ∧ ∀ r ∈ g, r < 2 ^ wd) (hglen : 0 < gs.length ∧ gs.length ≤ 8) (hss : ∀ x ∈ ss, x < 2 ^ wd) (e3 : ∀ g ∈ gs, valD (2 ^ wd) g % (2 ^ wd - 1) = g.sum)
    (e1 : valD (2 ^ wd) ss.reverse % pn = sl % pn) (e2 : packF pn (2 ^ wd) (digs wd ss.length (valD (2 ^ wd) ss.reverse / pn)).reverse = q0 :: qs)
    (hq : ∀ x ∈ q0 :: qs, x ≤ 1000) (hx : ∀ x ∈ ls, x.length ≤ 1000) (hql : qs.length ≤ ls.length) (hqs : qs.length ≤ 8) (heq : ax = textOf (runsI (q0 :: qs)) ls)
    (next : ∀ h' tk' m', Fr H L h' m' → Lists h' r b f rs' bs fs' ps → Names m' r b f ld rd pn wd un → HasStr m' "behind" bx → HasStr m' "ahead" ⟨ax.toArray⟩ → wpAny (model pw w) A (execs (lawBody.drop 23) (lawEnv L)) Q E { s with heap := h', toks := tk' }) :
    wpAny (model pw w) A (execs (lawBody.drop 21) (lawEnv L)) Q E { s with heap := h, toks := tk } := by
  have X := C.P.K
  have TR := C.P.T
  have hh := C.P.hh
  obtain ⟨tp, mp⟩ := M.np
  obtain ⟨tw, mw⟩ := M.nw
  obtain ⟨tu, mu⟩ := M.nu
  obtain ⟨tl, ml⟩ := M.nl
  obtain ⟨t1, m1⟩ := m1
  obtain ⟨t2, m2⟩ := m2
  obtain ⟨lo, mean, TP⟩ := C.TP
  have hsl : ss.length = gs.length := by rw [← ess, List.length_map]
  obtain ⟨xs, LD, N⟩ := (Z.sup.and (Y.sup.and (Sup.list hs))).led F
  show wpAny _ _ (execs (_ :: _) _) _ _ _
  walk_at "tocall"
  refine s_law_rests (gs := gs) (C.P.less (by decide) (by decide)) TP F.keep C.h30 C.h37 Z.tabs Y.lg Y.ga hgr hglen.2 hwd ?_
  intro h1 tk1 D ws kt T1 hD hDl hiw
  have e4 : gs.map (fun g => valD (2 ^ wd) g % (2 ^ wd - 1)) = ss := by rw [← ess]; exact List.map_congr_left fun g hg => e3 g hg
  rw [e4] at hiw
  have F1 := frT F kt C.h30 C.h37 C.big
  have Z1 := Z.keepT kt T1
  have Y1 := Y.keepT Z.tabs kt
  have hs1 := kt.list Z.tabs hs
  clear LD N F
  obtain ⟨xs2, LD2, N2⟩ := (Z1.sup.and (Y1.sup.and (Sup.list hs1))).led F1
  walk_at "tocall"
  refine s_law_packed (rs := ss) (C.P.less (by decide) (by decide)) TP F1.keep C.h30 C.h37 Z1.tabs hDl hiw hss (by omega) hwd hpn hld hun hun2 ?_
  intro h3 tk3 d D3 ws3 k3 u3 kt3 T3 hd hD3 eD htup hiw3
  rw [e2] at hiw3
  rw [e1] at htup
  have F3 := frT F1 kt3 C.h30 C.h37 C.big
  have Z3 := Z1.keepT kt3 T3
  have Y3 := Y1.keepT Z1.tabs kt3
  have hs3 := kt3.list Z1.tabs hs1
  have hD3l : h3.IsList D3 ws3.toArray := ⟨_, eD, rfl, _, rfl⟩
  clear LD2 N2 F1
  obtain ⟨xs4, LD4, N4⟩ := ((Z3.sup.and (Y3.sup.and (Sup.list hs3))).and (Sup.list hD3l)).led F3
  repeat ((fail_if_success (with_reducible show wpAny _ _ (execs _ _) _ _ _)); walk1)
  rename Fr _ _ _ _ => F5
  rename News _ _ _ _ => N5
  have φ5 := LD4.at F5 N5 (fun p hp => hp)
  have hsvl : sv.length = ss.length := by rw [his.length]; unfold runsI; rw [List.length_map]
  repeat ((fail_if_success (with_reducible show wpAny _ _ (subscriptTail _ _ _ _) _ _ _)); walk1)
  obtain ⟨tr, hlv⟩ : ∃ t, sv[ss.length - 1]? = some (.int sl t) := by
    obtain ⟨n', t', e4, e5⟩ := his.at (ss.length - 1) _ (List.getElem?_eq_getElem (by omega))
    unfold runsI at e5
    rw [List.getElem?_map, ← List.getLast?_eq_getElem?, hlast] at e5
    obtain rfl : (sl : Int) = n' := by simpa using e5
    exact ⟨t', by rw [List.getElem?_eq_getElem (by omega), e4]⟩
  have hj : seqIndex? (-1) sv.length = some (ss.length - 1) := by
    rw [hsvl]
    unfold seqIndex?
    simp
    omega
  refine kde_neg (vs := sv) φ5.1.2.2 (by decide) (by decide) hj hlv ?_
  have er : (sl : Int).fmod (pn : Int) = ((sl % pn : Nat) : Int) := fmod_nat sl pn
  have hpn0 : (pn : Int) ≠ 0 := by omega
  have hmm : bl (sl % pn) + bl un ≤ 2 ^ 27 := by
    have h1 : sl % pn < pn := Nat.mod_lt _ hpn.1
    have h2 : bl (sl % pn) ≤ 4 := bl_le.mpr (by omega)
    have h3 := bl_le.mpr hun
    omega
  repeat ((fail_if_success (with_reducible show wpAny _ _ (binaryOp Operator.Mult _ _) _ _ _)); walk1)
  rw [er]
  refine nmul hmm ?_
  repeat ((fail_if_success (with_reducible show wpAny _ _ (binaryOp Operator.Add _ _) _ _ _)); walk1)
  refine nadd ?_
  walk_at "toite"
  rw [if_neg (by simp)]
  walk_at "tocall"
  refine s_law_text (vs := ws3) (ws := wl) (n := (q0 : Int)) (ns := runsI qs) (xs := ls) ((C.P.fr F5).less) φ5.2 hiw3 φ5.1.2.1.ll φ5.1.2.1.lt ?_ hx ?_ ?_ ?_
  · intro n' hn'
    obtain ⟨v, hv, rfl⟩ := List.mem_map.mp (show n' ∈ runsI (q0 :: qs) from hn')
    have := hq v hv
    omega
  · unfold runsI; rw [List.length_map]; exact hql
  · unfold runsI; rw [List.length_map]; omega
  intro h9 tk9 t9 k9
  have F9 := frK F5 k9
  have N9 := newsK N5 k9
  clear F5 N5
  walk_at "toite"
  have e : (⟨ax.toArray⟩ : Str) = ⟨(textOf ((q0 : Int) :: runsI qs) ls).toArray⟩ := by rw [heq]; rfl
  rw [if_neg (by rw [e]; simp)]
  repeat ((fail_if_success (with_reducible show wpAny _ _ (execs _ _) _ _ _)); (first | rw [if_neg (by decide)] | walk1))
  refine wpAny_execs_nil ?_
  have φ9 := LD4.at F9 N9 (fun p hp => hp)
  refine next _ _ _ F9 φ9.1.1 ((M.set _ _ (by decide)).set _ _ (by decide)) ⟨_, by walk_at "look"⟩ ⟨_, by walk_at "look"⟩
set_option maxHeartbeats 4000000 in
theorem law_n {w : World} {A : Around} {mg mb : Str → Option Value} {H : Heap} {L : Addr} (C : Ctx w A mg mb H L) {m : Str → Option Value} {h : Heap} {s : Shared} {tk : Nat} {r b f : Addr} {rs' bs fs' : List Value} {ps : List Nat} {bx ax : Str} {rs : List Nat} {ld rd pn wd un : Nat} {Q : Flow → Shared → Prop}
    (F : Fr H L h m) (Z : Lists h r b f rs' bs fs' ps) (M : Names m r b f ld rd pn wd un) (m1 : HasStr m "behind" bx) (m2 : HasStr m "ahead" ax) (hi : IntsAre rs' (runsI rs)) (hf : TextsAre fs' (ps.map foldOf)) (hlen : rs.length = ps.length + 1 ∧ ps.length ≤ 8) (hpn : 0 < pn)
    (next : ∀ h' tk' m' (k : Nat), k ≤ ps.length → (∀ i v, i < k → rs[i]? = some v → v % pn = 0) → (k = ps.length ∨ ∃ v, rs[k]? = some v ∧ v % pn ≠ 0) → Fr H L h' m' → Lists h' r b f rs' bs fs' ps → Names m' r b f ld rd pn wd un → HasStr m' "behind" bx → HasStr m' "ahead" ax → HasInt m' "k" k →
      wpAny (model pw w) A (execs (lawBody.drop 25) (lawEnv L)) Q (fun _ _ => False) { s with heap := h', toks := tk' }) :
    wpAny (model pw w) A (execs (lawBody.drop 23) (lawEnv L)) Q (fun _ _ => False) { s with heap := h, toks := tk } := by
  have X := C.P.K
  have TR := C.P.T
  have hh := C.P.hh
  obtain ⟨xs, LD, N⟩ := Z.sup.led F
  have hfl : fs'.length = ps.length := by rw [hf.len, List.length_map]
  have hrl : rs'.length = rs.length := by rw [hi.length]; unfold runsI; rw [List.length_map]
  have hpn0 : (pn : Int) ≠ 0 := by omega
  show wpAny _ _ (execs (_ :: _) _) _ _ _
  repeat ((fail_if_success (with_reducible show wpAny _ _ (exec (Stmt.While _ _ _ _) _) _ _ _)); walk1)
  rename Fr _ _ _ _ => F1
  rename News _ _ _ _ => N1
  refine While_inv2 (fun n m nx => nx = xs ∧ Names m r b f ld rd pn wd un ∧ HasStr m "behind" bx ∧ HasStr m "ahead" ax ∧ ∃ k : Nat, HasInt m "k" k ∧ k ≤ ps.length ∧ (∀ i v, i < k → rs[i]? = some v → v % pn = 0) ∧ n = ps.length - k) F1 N1 ⟨rfl, M.set _ _ (by decide), ?_, ?_, 0, hasInt (z := 0) rfl rfl, Nat.zero_le _, (fun i v hi => absurd hi (Nat.not_lt_zero _)), rfl⟩ ?_
  · obtain ⟨t, e⟩ := m1
    exact ⟨t, by walk_at "look"⟩
  · obtain ⟨t, e⟩ := m2
    exact ⟨t, by walk_at "look"⟩
  rintro n m' _ g tk3 F2 N2 ⟨rfl, M', b1, b2, k, ⟨tk', mk⟩, hk, hz, rfl⟩
  have mf := M'.nf
  have mr := M'.nr
  obtain ⟨tp, mp⟩ := M'.np
  have Z2 := LD.at F2 N2 (fun p hp => hp)
  repeat ((fail_if_success (with_reducible show wpAny _ _ (call (Value.builtin "len") _) _ _ _)); walk1)
  refine len_list Z2.lf (by rw [List.size_toArray]; omega) ?_
  rw [List.size_toArray, hfl]
  walk_at "toite"
  by_cases hkl : k < ps.length
  · rw [if_pos (by rw [decide_eq_true_eq]; omega)]
    obtain ⟨v, hv⟩ : ∃ v, rs[k]? = some v := ⟨_, List.getElem?_eq_getElem (by omega)⟩
    obtain ⟨tv, hlv⟩ : ∃ t, rs'[k]? = some (.int v t) := by
      obtain ⟨n', t', e4, e5⟩ := hi.at k _ (List.getElem?_eq_getElem (by omega))
      unfold runsI at e5
      rw [List.getElem?_map, hv] at e5
      obtain rfl : (v : Int) = n' := by simpa using e5
      exact ⟨t', by rw [List.getElem?_eq_getElem (by omega), e4]⟩
    have er : (v : Int).fmod (pn : Int) = ((v % pn : Nat) : Int) := fmod_nat v pn
    repeat ((fail_if_success (with_reducible show wpAny _ _ (subscriptTail _ _ _ _) _ _ _)); walk1)
    refine item_of (vs := rs') Z2.lr (by omega) (by omega) (by rw [Int.toNat_natCast]; exact hlv) ?_
    walk_at "toite"
    rw [er]
    by_cases hv0 : v % pn = 0
    · rw [if_pos (by rw [hv0]; decide)]
      repeat ((fail_if_success (with_reducible show wpAny _ _ (execs _ _) _ _ _)); (first | rw [if_pos (by decide)] | walk1))
      repeat ((fail_if_success (with_reducible show wpAny _ _ (binaryOp Operator.Add _ _) _ _ _)); walk1)
      refine nadd (r := 1) ?_
      walk_at "go"
      rename Fr _ _ _ _ => F3
      rename News _ _ _ _ => N3
      refine ⟨_, _, _, _, ps.length - (k + 1), rfl, F3, N3, by omega, rfl, M'.set _ _ (by decide), ?_, ?_, k + 1, ⟨_, rfl⟩, by omega, ?_, rfl⟩
      · obtain ⟨t, e⟩ := b1
        exact ⟨t, by walk_at "look"⟩
      · obtain ⟨t, e⟩ := b2
        exact ⟨t, by walk_at "look"⟩
      · intro i v' hi' hv'
        rcases Nat.lt_succ_iff_lt_or_eq.mp hi' with h1 | rfl
        · exact hz i v' h1 hv'
        · rw [hv] at hv'
          cases hv'
          exact hv0
    · rw [if_neg (by rw [beq_iff_eq]; omega)]
      rw [if_neg (by decide)]
      show wpAny _ _ (execs _ _) _ _ _
      exact next _ _ _ k hk hz (.inr ⟨v, hv, hv0⟩) F2 Z2 M' b1 b2 ⟨_, mk⟩
  · rw [if_neg (by rw [decide_eq_true_eq]; omega)]
    rw [if_neg (by decide)]
    show wpAny _ _ (execs _ _) _ _ _
    exact next _ _ _ k hk hz (.inl (by omega)) F2 Z2 M' b1 b2 ⟨_, mk⟩
theorem pick_from (vs : List Value) (k : Nat) : kms_pick vs (some (k : Int)) none = vs.drop k := by
  unfold kms_pick kms_lo kms_hi
  dsimp only
  rw [if_neg (by omega), Int.toNat_natCast, List.take_of_length_le (by rw [List.length_drop]; exact Nat.le_refl _)]
  by_cases h : k ≤ vs.length
  · rw [Nat.min_eq_left h]
  · rw [Nat.min_eq_right (by omega), List.drop_of_length_le (Nat.le_refl _), List.drop_of_length_le (by omega)]
theorem joinT_mem (c : Nat) : ∀ (xs : List (List Nat)) (ns : List Int), c ∈ (joinT xs ns).flatten → c = 34 ∨ ∃ x ∈ xs, c ∈ x
  | [], _, h => by simp [joinT] at h
  | _ :: _, [], h => by simp [joinT] at h
  | x :: xs, n :: ns, h => by
    have e : joinT (x :: xs) (n :: ns) = (x ++ marks n) :: joinT xs ns := rfl
    rw [e, List.flatten_cons, List.append_assoc] at h
    rcases List.mem_append.mp h with h | h
    · exact .inr ⟨x, .head _, h⟩
    rcases List.mem_append.mp h with h | h
    · exact .inl (List.mem_replicate.mp h).2
    · rcases joinT_mem c xs ns h with h | ⟨y, hy, h⟩
      · exact .inl h
      · exact .inr ⟨y, .tail _ hy, h⟩
theorem textOf_mem {c : Nat} {ns : List Int} {xs : List (List Nat)} (h : c ∈ textOf ns xs) : c = 34 ∨ ∃ x ∈ xs, c ∈ x := by
  cases ns with
  | nil => cases h
  | cons n ns =>
    rcases List.mem_append.mp (show c ∈ marks n ++ (joinT xs ns).flatten from h) with h | h
    · exact .inl (List.mem_replicate.mp h).2
    · exact joinT_mem c xs ns h
theorem joinT_len (B : Nat) : ∀ (xs : List (List Nat)) (ns : List Nat), (∀ n ∈ ns, n ≤ B) → (∀ x ∈ xs, x.length ≤ 1) → ((joinT xs (runsI ns)).flatten).length ≤ ns.length * (B + 1)
  | [], _, _, _ => by simp [joinT]
  | _ :: _, [], _, _ => by simp [joinT, runsI]
  | x :: xs, n :: ns, hn, hx => by
    have e : joinT (x :: xs) (runsI (n :: ns)) = (x ++ marks n) :: joinT xs (runsI ns) := rfl
    have h1 := hn n (.head _)
    have h2 := hx x (.head _)
    have h3 := joinT_len B xs ns (fun m hm => hn m (.tail _ hm)) fun y hy => hx y (.tail _ hy)
    rw [e, List.flatten_cons, List.length_append, List.length_append, List.length_cons, Nat.add_mul]
    have h4 : (marks (n : Int)).length = n := by unfold marks; rw [List.length_replicate, Int.toNat_natCast]
    omega
theorem textOf_len {B : Nat} {ns : List Nat} {xs : List (List Nat)} (hn : ∀ n ∈ ns, n ≤ B) (hx : ∀ x ∈ xs, x.length ≤ 1) : (textOf (runsI ns) xs).length ≤ ns.length * (B + 1) := by
  cases ns with
  | nil => exact Nat.zero_le _
  | cons n ns =>
    show (marks (n : Int) ++ (joinT xs (runsI ns)).flatten).length ≤ _
    have h1 := hn n (.head _)
    have h3 := joinT_len B xs ns (fun m hm => hn m (.tail _ hm)) hx
    have h4 : (marks (n : Int)).length = n := by unfold marks; rw [List.length_replicate, Int.toNat_natCast]
    rw [List.length_append, List.length_cons, Nat.add_mul]
    omega
theorem good34 : Good 34 := .inr ⟨.inr (.head _), by decide +kernel⟩
theorem PairsAre.drop {h : Heap} {bs : List Value} {ps : List Nat} (x : PairsAre h bs ps) (k : Nat) : PairsAre h (bs.drop k) (ps.drop k) :=
  ⟨by rw [List.length_drop, List.length_drop, x.1], fun i p e => by
    rw [List.getElem?_drop] at e
    obtain ⟨d, u, u', e1, e2⟩ := x.2 _ p e
    exact ⟨d, u, u', by rw [List.getElem?_drop]; exact e1, e2⟩⟩
noncomputable def lostL (rs ps : List Nat) (pn k v : Nat) : List Nat := textOf (runsI (v % pn :: rs.drop (k + 1))) ((ps.drop k).map fun p => [signOf p])
set_option maxHeartbeats 4000000 in
theorem law_o {w : World} {A : Around} {mg mb : Str → Option Value} {H : Heap} {L : Addr} (C : Ctx w A mg mb H L) {m : Str → Option Value} {h : Heap} {s : Shared} {tk : Nat} {r b f : Addr} {rs' bs fs' : List Value} {ps : List Nat} {bx ax : List Nat} {rs : List Nat} {k v : Nat} {ld rd pn wd un : Nat} {Q : Flow → Shared → Prop} {E : Value → Shared → Prop}
    (F : Fr H L h m) (Z : Lists h r b f rs' bs fs' ps) (M : Names m r b f ld rd pn wd un) (m1 : HasStr m "behind" ⟨bx.toArray⟩) (m2 : HasStr m "ahead" ⟨ax.toArray⟩) (mk : HasInt m "k" k) (hi : IntsAre rs' (runsI rs)) (hlen : rs.length = ps.length + 1 ∧ ps.length ≤ 8) (hpn : 0 < pn) (hk : k ≤ ps.length) (hv : rs[k]? = some v)
    (hr : ∀ x ∈ rs, x ≤ 100) (hg : ∀ p ∈ ps, Good (signOf p)) (hrd : rd ≤ 10) (hbl : bx.length ≤ 50000) (heq : ax = bx ++ readN rd (prepL (lostL rs ps pn k v)))
    (next : ∀ h' tk', Keeps H h' → Tabs h' → Q (.ret (.bool true)) { s with heap := h', toks := tk' }) :
    wpAny (model pw w) A (execs (lawBody.drop 25) (lawEnv L)) Q E { s with heap := h, toks := tk } := by
  have X := C.P.K
  have TR := C.P.T
  have hh := C.P.hh
  have mr := M.nr
  have mb' := M.nb
  obtain ⟨tp, mp⟩ := M.np
  obtain ⟨td, md⟩ := M.nd
  obtain ⟨t1, m1⟩ := m1
  obtain ⟨t2, m2⟩ := m2
  obtain ⟨t3, mk⟩ := mk
  obtain ⟨xs, LD, N⟩ := Z.sup.led F
  have hrl : rs'.length = rs.length := by rw [hi.length]; unfold runsI; rw [List.length_map]
  have hpn0 : (pn : Int) ≠ 0 := by omega
  obtain ⟨tv, hlv⟩ : ∃ t, rs'[k]? = some (.int v t) := by
    obtain ⟨n', t', e4, e5⟩ := hi.at k _ (List.getElem?_eq_getElem (by omega))
    unfold runsI at e5
    rw [List.getElem?_map, hv] at e5
    obtain rfl : (v : Int) = n' := by simpa using e5
    exact ⟨t', by rw [List.getElem?_eq_getElem (by omega), e4]⟩
  have er : (v : Int).fmod (pn : Int) = ((v % pn : Nat) : Int) := fmod_nat v pn
  show wpAny _ _ (execs (_ :: _) _) _ _ _
  repeat ((fail_if_success (with_reducible show wpAny _ _ (subscriptTail _ _ _ _) _ _ _)); walk1)
  refine item_of (vs := rs') Z.lr (by omega) (by omega) (by rw [Int.toNat_natCast]; exact hlv) ?_
  repeat ((fail_if_success (with_reducible show wpAny _ _ (newList _) _ _ _)); walk1)
  rw [er]
  walk1
  rename Fr _ _ _ _ => F1
  rename News _ _ _ _ => N1
  rename_i l' _ _
  repeat ((fail_if_success (with_reducible show wpAny _ _ (binaryOp Operator.Add _ _) _ _ _)); walk1)
  refine nadd (r := 1) ?_
  repeat ((fail_if_success (with_reducible show wpAny _ _ (subscriptTail _ _ _ _) _ _ _)); walk1)
  have Z1 := LD.at F1 N1 (fun p hp => .tail _ hp)
  refine kms_slice_lit (its := rs'.toArray) (zs := rs'.drop (k + 1)) F1 N1 Z1.lr (IsPart.int _ _) IsPart.none ?_ ?_ (by with_unfolding_all rfl) (by intro _; with_unfolding_all rfl) (by rw [List.size_toArray, PySem.sizeLine_eq]; omega)
  · show kms_pick rs' (some ((k + 1 : Nat) : Int)) none = _
    exact pick_from rs' (k + 1)
  intro D2 h2 F2 N2 l2
  have hid := hi.drop (k + 1)
  have hid' : IntsAre (rs'.drop (k + 1)) (runsI (rs.drop (k + 1))) := by unfold runsI at hid ⊢; rw [List.map_drop]; exact hid
  refine kmk_add_ints (ns := [((v % pn : Nat) : Int)]) F2 N2 ⟨_, (N2 _ (.tail _ (.head _))).1, rfl, _, rfl⟩ ⟨_, (N2 _ (.head _)).1, rfl, _, rfl⟩ (.cons _ _ .nil) hid' ?_ (by unfold runsI; rw [List.length_map, List.length_drop, PySem.sizeLine_eq]; show 1 + _ ≤ _; omega)
  intro D3 us h3 F3 N3 l3 hiu
  have hiu : IntsAre us (runsI (v % pn :: rs.drop (k + 1))) := hiu
  have N3 := newsSub N3 (b := (D3, listOf us.toArray 0) :: xs) (fun p hp => by
    rcases List.mem_cons.mp hp with rfl | hp
    · exact .head _
    · exact .tail _ (.tail _ (.tail _ hp)))
  clear F1 N1 F2 N2
  repeat ((fail_if_success (with_reducible show wpAny _ _ (eval (Expr.ListComp _ _ _ _) _) _ _ _)); walk1)
  have Z3 := LD.at F3 N3 (fun p hp => .tail _ hp)
  refine ev_comp (fun v y => ∀ d p u u', v = .ref d → IsTup h3 d #[.str ⟨#[signOf p]⟩ u, .str ⟨(foldOf p).toArray⟩ u'] → ∃ t, y = .str ⟨[signOf p].toArray⟩ t) hh (by decide) (by decide) (by rfl) (by decide) (by rfl) ?_
  repeat ((fail_if_success (with_reducible show wpAny _ _ (subscriptTail _ _ _ _) _ _ _)); walk1)
  refine kms_slice_lit (its := bs.toArray) (zs := bs.drop k) F3 N3 Z3.lb (IsPart.int _ _) IsPart.none ?_ ?_ (by with_unfolding_all rfl) (by intro _; with_unfolding_all rfl) (by rw [List.size_toArray, Z3.lp.1, PySem.sizeLine_eq]; omega)
  · exact pick_from bs k
  intro D4 h4 F4 N4 l4
  have Z4 := LD.at F4 N4 (fun p hp => .tail _ (.tail _ hp))
  refine ⟨D4, bs.drop k, rfl, ⟨_, (N4 _ (.head _)).1, rfl, _, rfl⟩, by rw [List.length_drop, Z3.lp.1, PySem.sizeLine_eq]; omega, ?_, ?_⟩
  · rintro C v s₂ m₂ E' hv hC hx hk
    obtain ⟨d, rfl, hw⟩ := pair_elt (prog := pw) (w := w) (A := A) (k := 0) (.inl ⟨rfl, rfl⟩) (Z3.lp.drop k) (Z4.lp.drop k) hv hk
    repeat ((fail_if_success (with_reducible show wpAny _ _ (subscriptTail _ _ _ _) _ _ _)); walk1)
    exact hw _ _ _ _ (by with_unfolding_all rfl) (by intro _; with_unfolding_all rfl) _ rfl ⟨_, rfl⟩
  intro D5 h5 tk5 ys k5 hD5 hlD hP
  have hT := texts_of (f := fun p => [signOf p]) (Z3.lp.drop k) hP
  have F5 := frK F4 k5
  have N5 := newsK N4 k5
  clear F4 N4 F3 N3
  have hrd' : ∀ x ∈ v % pn :: rs.drop (k + 1), x ≤ 100 := by
    intro x hx
    rcases List.mem_cons.mp hx with rfl | hx
    · exact Nat.le_trans (Nat.mod_le _ _) (hr v (List.mem_of_getElem? hv))
    · exact hr x (List.mem_of_mem_drop hx)
  have hxs : ∀ x ∈ (ps.drop k).map fun p => [signOf p], x.length ≤ 1 := by
    intro x hx
    obtain ⟨p, _, rfl⟩ := List.mem_map.mp hx
    exact Nat.le_refl _
  walk_at "tocall"
  refine s_law_text (vs := us) (ws := ys) (n := ((v % pn : Nat) : Int)) (ns := runsI (rs.drop (k + 1))) (xs := (ps.drop k).map fun p => [signOf p]) ((C.P.fr F5).less) ⟨_, (N5 _ (.tail _ (.head _))).1, rfl, _, rfl⟩ hiu hlD hT ?_ (fun x hx => Nat.le_trans (hxs x hx) (by decide)) ?_ ?_ ?_
  · intro n' hn'
    obtain ⟨x, hx, rfl⟩ := List.mem_map.mp (show n' ∈ runsI (v % pn :: rs.drop (k + 1)) from hn')
    have := hrd' x hx
    omega
  · unfold runsI; rw [List.length_map, List.length_map, List.length_drop, List.length_drop]; omega
  · unfold runsI; rw [List.length_map, List.length_drop]; omega
  rw [show textOf (((v % pn : Nat) : Int) :: runsI (rs.drop (k + 1))) ((ps.drop k).map fun p => [signOf p]) = lostL rs ps pn k v from rfl]
  have hyl : (lostL rs ps pn k v).length ≤ 2000 := by
    have h1 := textOf_len (B := 100) hrd' hxs
    have h2 : (v % pn :: rs.drop (k + 1)).length ≤ 10 := by rw [List.length_cons, List.length_drop]; omega
    have h3 : (v % pn :: rs.drop (k + 1)).length * (100 + 1) ≤ 10 * (100 + 1) := Nat.mul_le_mul_right _ h2
    exact Nat.le_trans h1 (Nat.le_trans h3 (by decide))
  have hyg : ∀ c ∈ lostL rs ps pn k v, Good c := by
    intro c hc
    rcases textOf_mem hc with rfl | ⟨x, hx, hc⟩
    · exact good34
    · obtain ⟨p, hp, rfl⟩ := List.mem_map.mp hx
      rw [List.mem_singleton.mp hc]
      exact hg p (List.mem_of_mem_drop hp)
  generalize lostL rs ps pn k v = y at hyl hyg heq
  intro h6 tk6 t6 k6
  have F6 := frK F5 k6
  have N6 := newsK N5 k6
  clear F5 N5
  walk_at "tocall"
  rename Fr _ _ _ _ => F7
  rename News _ _ _ _ => N7
  refine s_law_prepared ((C.P.fr F7).less) (by omega) hyg ?_
  intro h8 tk8 t8 k8
  have F8 := frK F7 k8
  have N8 := newsK N7 k8
  clear F7 N7
  have hpl := prepL_len y hyg
  have hrl2 := readN_len rd (prepL y)
  walk_at "tocall"
  refine s_law_read ((C.P.fr F8).less) (by omega) (by omega) ?_
  intro h9 tk9 t9 k9
  have F9 := frK F8 k9
  have N9 := newsK N8 k9
  clear F8 N8
  have hadd : (⟨bx.toArray⟩ : Str).length + (⟨(readN rd (prepL y)).toArray⟩ : Str).length ≤ sizeLine := by
    rw [strLen, strLen, PySem.sizeLine_eq]; omega
  walk_at "go"
  have Z9 := LD.at F9 N9 (fun p hp => .tail _ (.tail _ hp))
  rw [strApp, ← heq, beq_self_eq_true]
  exact next _ _ F9.keep Z9.tabs
end
end
end
noncomputable abbrev rep (n : Nat) : List Nat := List.replicate n 34
noncomputable def TN : List Nat → List (List Nat) → List Nat
  | [], _ => []
  | [r], _ => rep r
  | r :: _ :: _, [] => rep r
  | r :: r' :: rs, s :: S => rep r ++ s ++ TN (r' :: rs) S
theorem marks_nat (n : Nat) : marks (n : Int) = rep n := by unfold marks; rw [Int.toNat_natCast]
theorem textOf_TN : ∀ (R : List Nat) (S : List (List Nat)), textOf (runsI R) S = TN R S
  | [], _ => rfl
  | [r], S => by
    show marks (r : Int) ++ (joinT S (runsI [])).flatten = rep r
    rw [marks_nat]
    cases S <;> simp [joinT, runsI]
  | r :: r' :: rs, [] => by
    show marks (r : Int) ++ (joinT [] (runsI (r' :: rs))).flatten = rep r
    rw [marks_nat]; simp [joinT]
  | r :: r' :: rs, s :: S => by
    show marks (r : Int) ++ (joinT (s :: S) ((r' : Int) :: runsI rs)).flatten = rep r ++ s ++ TN (r' :: rs) S
    rw [← textOf_TN (r' :: rs) S, marks_nat]
    show rep r ++ ((s ++ marks (r' : Int)) :: joinT S (runsI rs)).flatten = rep r ++ s ++ (marks (r' : Int) ++ (joinT S (runsI rs)).flatten)
    simp [List.append_assoc]
/-- letters hold no mark and are no empty text -/
noncomputable def NoQ (S : List (List Nat)) : Prop := ∀ s ∈ S, s ≠ [] ∧ ∀ c ∈ s, c ≠ 34
theorem readL_rep (q : Nat) (y : List Nat) : readL (rep (2 * q) ++ y) = rep q ++ readL y := by
  induction q with
  | zero => rfl
  | succ q ih =>
    have e : rep (2 * (q + 1)) = 34 :: 34 :: rep (2 * q) := by
      show List.replicate (2 * q + 1 + 1) 34 = _
      rw [List.replicate_succ, List.replicate_succ]
    rw [e, List.cons_append, List.cons_append, readL_two, ih]
    rfl
theorem readL_other_app : ∀ (s y : List Nat), (∀ c ∈ s, c ≠ 34) → readL (s ++ y) = s ++ readL y
  | [], _, _ => rfl
  | c :: s, y, h => by rw [List.cons_append, readL_other (h c (.head _)), readL_other_app s y fun d hd => h d (.tail _ hd)]; rfl
theorem rep_odd (r : Nat) (h : r % 2 = 1) : rep r = rep (2 * (r / 2)) ++ [34] := by
  have e : r = 2 * (r / 2) + 1 := by omega
  conv => lhs; rw [e]
  exact List.replicate_succ'
theorem rep_even (r : Nat) (h : r % 2 = 0) : rep r = rep (2 * (r / 2)) := by
  have e : r = 2 * (r / 2) := by omega
  conv => lhs; rw [e]
theorem halvedN_cons (p r : Nat) (rs : List Nat) : halvedN p (r :: rs) = r / p :: (if r % p = 0 then halvedN p rs else []) := rfl
theorem readL_TN : ∀ (R : List Nat) (S : List (List Nat)), NoQ S → R.length ≤ S.length + 1 → readL (TN R S) = TN (halvedN 2 R) S
  | [], S, _, _ => readL_nil
  | [r], S, _, _ => by
    have e : TN (halvedN 2 [r]) S = rep (r / 2) := by
      rw [halvedN_cons]
      have : (if r % 2 = 0 then halvedN 2 [] else []) = ([] : List Nat) := by split <;> rfl
      rw [this]; rfl
    rw [e]
    show readL (rep r) = _
    by_cases h : r % 2 = 0
    · rw [rep_even r h, ← List.append_nil (rep (2 * (r / 2))), readL_rep, readL_nil, List.append_nil]
    · rw [rep_odd r (by omega), readL_rep, readL_one, List.append_nil]
  | r :: r' :: rs, [], _, h => by simp at h
  | r :: r' :: rs, s :: S, hS, h => by
    obtain ⟨hs0, hs1⟩ := hS s (.head _)
    show readL (rep r ++ s ++ TN (r' :: rs) S) = _
    rw [List.append_assoc, halvedN_cons]
    by_cases h0 : r % 2 = 0
    · rw [if_pos h0, rep_even r h0, readL_rep, readL_other_app s _ hs1, readL_TN (r' :: rs) S (fun x hx => hS x (.tail _ hx)) (by simpa using h), halvedN_cons]
      show _ = rep (r / 2) ++ s ++ _
      rw [List.append_assoc]
    · rw [if_neg h0, rep_odd r (by omega), List.append_assoc, readL_rep]
      obtain ⟨c, s', rfl⟩ : ∃ c s', s = c :: s' := by
        cases s with
        | nil => exact absurd rfl hs0
        | cons c s' => exact ⟨c, s', rfl⟩
      show rep (r / 2) ++ readL (34 :: c :: (s' ++ TN (r' :: rs) S)) = _
      rw [readL_stop (hs1 c (.head _)), List.append_nil]
      rfl
theorem halvedN_two (p : Nat) (hp : 0 < p) : ∀ R : List Nat, halvedN 2 (halvedN p R) = halvedN (p * 2) R
  | [] => rfl
  | r :: rs => by
    rw [halvedN_cons, halvedN_cons, halvedN_cons, Nat.div_div_eq_div_mul]
    have e : r % (p * 2) = r % p + p * (r / p % 2) := Nat.mod_mul
    by_cases h1 : r % p = 0
    · by_cases h2 : r / p % 2 = 0
      · rw [if_pos h1, if_pos h2, if_pos (by rw [e, h1, h2]; simp), halvedN_two p hp rs]
      · rw [if_neg h2, if_neg]
        rw [e, h1]
        have : r / p % 2 = 1 := by omega
        rw [this]; omega
    · have h3 : ¬ r % (p * 2) = 0 := by rw [e]; omega
      rw [if_neg h1, if_neg h3]
      congr 1
      split <;> rfl
theorem readN_TN (S : List (List Nat)) (hS : NoQ S) (R : List Nat) (hl : R.length ≤ S.length + 1) : ∀ k, readN k (TN R S) = TN (halvedN (2 ^ k) R) S
  | 0 => by
    have : ∀ R : List Nat, halvedN (2 ^ 0) R = R := by
      intro R
      induction R with
      | nil => rfl
      | cons r rs ih => rw [halvedN_cons, ih, Nat.pow_zero, Nat.mod_one, Nat.div_one, if_pos rfl]
    rw [this]; rfl
  | k + 1 => by
    show readL (readN k (TN R S)) = _
    rw [readN_TN S hS R hl k, readL_TN _ S hS (Nat.le_trans (halvedN_len _ _) hl), halvedN_two _ (Nat.pow_pos (by decide)), Nat.pow_succ]
/-- reading takes even runs whole -/
theorem readL_even : ∀ (R : List Nat) (S : List (List Nat)) (y : List Nat), NoQ S → R.length = S.length + 1 → readL (TN (R.map (2 * ·)) S ++ y) = TN R S ++ readL y
  | [], S, y, _, h => by simp at h
  | [r], S, y, _, h => by
    show readL (rep (2 * r) ++ y) = rep r ++ readL y
    exact readL_rep r y
  | r :: r' :: rs, [], y, _, h => by simp at h
  | r :: r' :: rs, s :: S, y, hS, h => by
    show readL (rep (2 * r) ++ s ++ TN ((r' :: rs).map (2 * ·)) S ++ y) = rep r ++ s ++ TN (r' :: rs) S ++ readL y
    rw [List.append_assoc, List.append_assoc, readL_rep, readL_other_app s _ (hS s (.head _)).2, readL_even (r' :: rs) S y (fun x hx => hS x (.tail _ hx)) (by simpa using h)]
    simp [List.append_assoc]
theorem readN_even (S : List (List Nat)) (y : List Nat) (hS : NoQ S) : ∀ (k : Nat) (R : List Nat), R.length = S.length + 1 → readN k (TN (R.map (2 ^ k * ·)) S ++ y) = TN R S ++ readN k y
  | 0, R, h => by
    have : R.map (2 ^ 0 * ·) = R := by simp
    rw [this]; rfl
  | k + 1, R, h => by
    show readL (readN k _) = _
    have e : R.map (2 ^ (k + 1) * ·) = (R.map (2 * ·)).map (2 ^ k * ·) := by
      rw [List.map_map]
      refine List.map_congr_left fun r _ => ?_
      show 2 ^ (k + 1) * r = 2 ^ k * (2 * r)
      rw [Nat.pow_succ, Nat.mul_assoc]
    rw [e, readN_even S y hS k (R.map (2 * ·)) (by rw [List.length_map]; exact h), readL_even R S _ hS h]
    rfl
theorem rep_add (a b : Nat) : rep (a + b) = rep a ++ rep b := by
  unfold rep; rw [List.replicate_append_replicate]
theorem TN_cons (r r' : Nat) (rs : List Nat) (s : List Nat) (S : List (List Nat)) : TN (r :: r' :: rs) (s :: S) = rep r ++ s ++ TN (r' :: rs) S := rfl
theorem TN_cons' (r : Nat) (R : List Nat) (s : List Nat) (S : List (List Nat)) (h : R ≠ []) : TN (r :: R) (s :: S) = rep r ++ s ++ TN R S := by
  cases R with
  | nil => exact absurd rfl h
  | cons r' rs => rfl
theorem TN_add : ∀ (A : List Nat) (S : List (List Nat)) (a b : Nat), A.length = S.length → TN (A ++ [a + b]) S = TN (A ++ [a]) S ++ rep b
  | [], S, a, b, _ => rep_add a b
  | r :: A, [], a, b, h => by simp at h
  | r :: A, s :: S, a, b, h => by
    rw [List.cons_append, List.cons_append, TN_cons' _ _ _ _ (by simp), TN_cons' _ _ _ _ (by simp), TN_add A S a b (by simpa using h), List.append_assoc, List.append_assoc, List.append_assoc]
theorem TN_snoc : ∀ (A : List Nat) (S : List (List Nat)) (a b : Nat) (s : List Nat), A.length = S.length → TN (A ++ [a] ++ [b]) (S ++ [s]) = TN (A ++ [a]) S ++ s ++ rep b
  | [], [], a, b, s, _ => rfl
  | [], _ :: _, a, b, s, h => by simp at h
  | r :: A, [], a, b, s, h => by simp at h
  | r :: A, t :: S, a, b, s, h => by
    rw [List.cons_append, List.cons_append, List.cons_append, TN_cons' _ _ _ _ (by simp), TN_cons' _ _ _ _ (by simp), TN_snoc A S a b s (by simpa using h)]
    simp [List.append_assoc]
theorem TN_split : ∀ (A : List Nat) (S1 S2 : List (List Nat)) (a b : Nat) (R : List Nat), A.length = S1.length → TN (A ++ (a + b) :: R) (S1 ++ S2) = TN (A ++ [a]) S1 ++ TN (b :: R) S2
  | [], [], S2, a, b, R, _ => by
    show TN ((a + b) :: R) S2 = rep a ++ TN (b :: R) S2
    cases R with
    | nil => show rep (a + b) = rep a ++ rep b; exact rep_add a b
    | cons r R => cases S2 with
      | nil => show rep (a + b) = rep a ++ rep b; exact rep_add a b
      | cons s S => rw [TN_cons, TN_cons, rep_add]; simp only [List.append_assoc]
  | [], _ :: _, S2, a, b, R, h => by simp at h
  | r :: A, [], S2, a, b, R, h => by simp at h
  | r :: A, t :: S, S2, a, b, R, h => by
    rw [List.cons_append, List.cons_append, List.cons_append, TN_cons' _ _ _ _ (by simp), TN_cons' _ _ _ _ (by simp), TN_split A S S2 a b R (by simpa using h)]
    simp [List.append_assoc]
/-- what a state of the groups tells -/
noncomputable def TG (st : List (List Nat) × List Nat × List (List Nat)) : List Nat := TN ((st.1 ++ [st.2.1]).map List.sum) st.2.2
theorem gstep_TG (st : List (List Nat) × List Nat × List (List Nat)) (f : List Nat) (r : Nat) (h : st.1.length = st.2.2.length) : TG (gstep st (f, r)) = TG st ++ f ++ rep r ∧ (gstep st (f, r)).1.length = (gstep st (f, r)).2.2.length := by
  obtain ⟨o, l, ls⟩ := st
  unfold gstep
  by_cases hf : f = []
  · subst hf
    rw [if_pos rfl]
    refine ⟨?_, h⟩
    unfold TG
    rw [List.map_append, List.map_append, List.append_nil]
    show TN (o.map List.sum ++ [(l ++ [r]).sum]) ls = _
    rw [List.sum_append]
    show TN (o.map List.sum ++ [l.sum + (r + 0)]) ls = TN (o.map List.sum ++ [l.sum]) ls ++ rep r
    rw [Nat.add_zero]
    exact TN_add _ _ _ _ (by rw [List.length_map]; exact h)
  · rw [if_neg hf]
    refine ⟨?_, by rw [List.length_append, List.length_append]; exact congrArg (· + 1) h⟩
    unfold TG
    show TN (((o ++ [l]) ++ [[r]]).map List.sum) (ls ++ [f]) = _
    rw [List.map_append, List.map_append]
    show TN (o.map List.sum ++ [l.sum] ++ [r + 0]) (ls ++ [f]) = TN (o.map List.sum ++ [l.sum]) ls ++ f ++ rep r
    rw [Nat.add_zero, TN_snoc _ _ _ _ _ (by rw [List.length_map]; exact h)]
theorem groups_TG : ∀ (z : List (List Nat × Nat)) (st : List (List Nat) × List Nat × List (List Nat)), st.1.length = st.2.2.length →
    TG (z.foldl gstep st) = TG st ++ (z.map fun x => x.1 ++ rep x.2).flatten ∧ (z.foldl gstep st).1.length = (z.foldl gstep st).2.2.length
  | [], st, h => ⟨by simp, h⟩
  | (f, r) :: z, st, h => by
    obtain ⟨h1, h2⟩ := gstep_TG st f r h
    obtain ⟨h3, h4⟩ := groups_TG z _ h2
    refine ⟨?_, h4⟩
    rw [List.foldl_cons, h3, h1]
    simp [List.append_assoc]
theorem TN_flat : ∀ (R : List Nat) (S : List (List Nat)) (r : Nat), TN (r :: R) S = rep r ++ ((S.zip R).map fun x => x.1 ++ rep x.2).flatten
  | [], S, r => by cases S <;> simp [TN]
  | r' :: R, [], r => by simp [TN]
  | r' :: R, s :: S, r => by
    rw [TN_cons, TN_flat R S r']
    simp [List.append_assoc]
theorem groupsOf_TN (R : List Nat) (fs : List (List Nat)) (hR : R ≠ []) : TN ((groupsOf R fs).map List.sum) (lettersOf R fs) = TN R fs ∧ (groupsOf R fs).length = (lettersOf R fs).length + 1 := by
  cases R with
  | nil => exact absurd rfl hR
  | cons r R =>
    obtain ⟨h1, h2⟩ := groups_TG (fs.zip R) ([], [r], []) rfl
    refine ⟨?_, by show ((groupsG r R fs).1 ++ [(groupsG r R fs).2.1]).length = _; rw [List.length_append]; exact congrArg (· + 1) h2⟩
    rw [TN_flat]
    show TG ((fs.zip R).foldl gstep ([], [r], [])) = _
    rw [h1]
    rfl
theorem prepL_app (x y : List Nat) : prepL (x ++ y) = prepL x ++ prepL y := by simp [prepL]
theorem prepL_rep (n : Nat) : prepL (rep n) = rep n := by
  have h34 : prepL [34] = [34] := by decide +kernel
  induction n with
  | zero => rfl
  | succ n ih =>
    show prepL (34 :: rep n) = 34 :: rep n
    rw [show (34 :: rep n) = [34] ++ rep n from rfl, prepL_app, h34, ih]
noncomputable def FoldOk (ps : List Nat) : Prop := ∀ p ∈ ps, prepL [signOf p] = foldOf p
theorem prepL_TN : ∀ (R : List Nat) (ps : List Nat), FoldOk ps → prepL (TN R (ps.map fun p => [signOf p])) = TN R (ps.map foldOf)
  | [], ps, _ => rfl
  | [r], ps, _ => by
    show prepL (TN [r] _) = _
    have e : ∀ S, TN [r] S = rep r := fun S => by cases S <;> rfl
    rw [e, e]; exact prepL_rep r
  | r :: r' :: R, [], _ => prepL_rep r
  | r :: r' :: R, p :: ps, h => by
    rw [List.map_cons, List.map_cons, TN_cons, TN_cons, prepL_app, prepL_app, prepL_rep, h p (.head _), prepL_TN (r' :: R) ps fun q hq => h q (.tail _ hq)]
/-- the groups hold the runs -/
theorem groups_flat : ∀ (z : List (List Nat × Nat)) (st : List (List Nat) × List Nat × List (List Nat)), (∀ s ∈ st.2.2, s ≠ []) →
    (z.foldl gstep st).1.flatten ++ (z.foldl gstep st).2.1 = st.1.flatten ++ st.2.1 ++ z.map (·.2) ∧ (∀ s ∈ (z.foldl gstep st).2.2, s ≠ []) ∧ (∀ s ∈ (z.foldl gstep st).2.2, s ∈ st.2.2 ∨ s ∈ z.map (·.1))
  | [], st, h => ⟨by simp, h, fun s hs => .inl hs⟩
  | (f, r) :: z, (o, l, ls), h => by
    rw [List.foldl_cons]
    by_cases hf : f = []
    · rw [show gstep (o, l, ls) (f, r) = (o, l ++ [r], ls) by unfold gstep; rw [if_pos hf]]
      obtain ⟨h1, h2, h3⟩ := groups_flat z (o, l ++ [r], ls) h
      refine ⟨by rw [h1]; simp [List.append_assoc], h2, fun s hs => ?_⟩
      rcases h3 s hs with h4 | h4
      · exact .inl h4
      · exact .inr (.tail _ h4)
    · rw [show gstep (o, l, ls) (f, r) = (o ++ [l], [r], ls ++ [f]) by unfold gstep; rw [if_neg hf]]
      obtain ⟨h1, h2, h3⟩ := groups_flat z (o ++ [l], [r], ls ++ [f]) (fun s hs => by
        rcases List.mem_append.mp hs with hs | hs
        · exact h s hs
        · rw [List.mem_singleton.mp hs]; exact hf)
      refine ⟨by rw [h1]; simp [List.append_assoc], h2, fun s hs => ?_⟩
      rcases h3 s hs with h4 | h4
      · rcases List.mem_append.mp h4 with h4 | h4
        · exact .inl h4
        · rw [List.mem_singleton.mp h4]; exact .inr (.head _)
      · exact .inr (.tail _ h4)
theorem mem_zip_fst {z : List (List Nat)} : ∀ {R : List Nat} {s : List Nat}, s ∈ (z.zip R).map (·.1) → s ∈ z := by
  intro R s h
  obtain ⟨⟨a, b⟩, hx, rfl⟩ := List.mem_map.mp h
  exact (List.of_mem_zip hx).1
theorem zip_snd : ∀ (z : List (List Nat)) (R : List Nat), R.length ≤ z.length → (z.zip R).map (·.2) = R
  | _, [], _ => by simp
  | [], _ :: _, h => by simp at h
  | a :: z, r :: R, h => by simp [zip_snd z R (by simpa using h)]
theorem groupsOf_flat (R : List Nat) (fs : List (List Nat)) (h : R.length ≤ fs.length + 1) : (groupsOf R fs).flatten = R ∧ (∀ s ∈ lettersOf R fs, s ≠ [] ∧ s ∈ fs) := by
  cases R with
  | nil => exact ⟨rfl, fun s hs => by cases hs⟩
  | cons r R =>
    obtain ⟨h1, h2, h3⟩ := groups_flat (fs.zip R) ([], [r], []) (fun s hs => by cases hs)
    refine ⟨?_, fun s hs => ⟨h2 s hs, ?_⟩⟩
    · show ((groupsG r R fs).1 ++ [(groupsG r R fs).2.1]).flatten = _
      rw [List.flatten_append]
      show _ ++ ((groupsG r R fs).2.1 ++ []) = _
      rw [List.append_nil]
      show ((fs.zip R).foldl gstep ([], [r], [])).1.flatten ++ ((fs.zip R).foldl gstep ([], [r], [])).2.1 = _
      rw [h1, zip_snd fs R (by simpa using h)]
      rfl
    · rcases h3 s hs with h4 | h4
      · cases h4
      · exact mem_zip_fst h4
theorem mem_flat_len {gs : List (List Nat)} {g : List Nat} (h : g ∈ gs) : g.length ≤ gs.flatten.length ∧ g.sum ≤ gs.flatten.sum ∧ ∀ x ∈ g, x ∈ gs.flatten := by
  induction gs with
  | nil => cases h
  | cons a gs ih =>
    rw [List.flatten_cons, List.length_append, List.sum_append]
    rcases List.mem_cons.mp h with rfl | h
    · exact ⟨by omega, by omega, fun x hx => List.mem_append.mpr (.inl hx)⟩
    · obtain ⟨h1, h2, h3⟩ := ih h
      exact ⟨by omega, by omega, fun x hx => List.mem_append.mpr (.inr (h3 x hx))⟩
/-- the packed number, the first run highest -/
noncomputable def hv (B : Nat) : List Nat → Nat := fun R => valD B R.reverse
theorem hv_snoc (B : Nat) (A : List Nat) (r : Nat) : hv B (A ++ [r]) = r + B * hv B A := by
  unfold hv; rw [List.reverse_append]; rfl
noncomputable def dl (p B' : Nat) : Nat → List Nat → List Nat
  | _, [] => []
  | c, r :: rs => (r / p + B' * c) :: dl p B' (r % p) rs
noncomputable def lc (p : Nat) : Nat → List Nat → Nat
  | c, [] => c
  | _, r :: rs => lc p (r % p) rs
theorem dl_snoc (p B' : Nat) : ∀ (A : List Nat) (c r : Nat), dl p B' c (A ++ [r]) = dl p B' c A ++ [r / p + B' * lc p c A]
  | [], c, r => rfl
  | a :: A, c, r => by
    show (a / p + B' * c) :: dl p B' (a % p) (A ++ [r]) = _
    rw [dl_snoc p B' A (a % p) r]; rfl
theorem lc_snoc (p : Nat) : ∀ (A : List Nat) (c r : Nat), lc p c (A ++ [r]) = r % p
  | [], c, r => rfl
  | a :: A, c, r => lc_snoc p A (a % p) r
theorem hv_mod (p B' : Nat) (hp : 0 < p) : ∀ (n : Nat) (R : List Nat), R.length = n → hv (p * B') R % p = lc p 0 R
  | 0, R, h => by obtain rfl := List.length_eq_zero_iff.mp h; exact Nat.zero_mod p
  | n + 1, R, h => by
    obtain ⟨A, r, rfl⟩ : ∃ A r, R = A ++ [r] := by
      have hne : R ≠ [] := by intro e; rw [e] at h; simp at h
      exact ⟨R.dropLast, R.getLast hne, (List.dropLast_concat_getLast hne).symm⟩
    rw [hv_snoc, lc_snoc, Nat.mul_assoc, Nat.add_mul_mod_self_left]
theorem lc_lt (p : Nat) (hp : 0 < p) : ∀ (R : List Nat), lc p 0 R < p := by
  have : ∀ (R : List Nat) (c : Nat), c < p → lc p c R < p := by
    intro R
    induction R with
    | nil => exact fun c h => h
    | cons r R ih => exact fun c h => ih _ (Nat.mod_lt _ hp)
  exact fun R => this R 0 hp
theorem digs_dl (p B' wd : Nat) (hp : 0 < p) (hB' : 0 < B') (hB : 2 ^ wd = p * B') : ∀ (n : Nat) (R : List Nat), R.length = n → (∀ r ∈ R, r < 2 ^ wd) → (digs wd n (hv (2 ^ wd) R / p)).reverse = dl p B' 0 R
  | 0, R, h, _ => by obtain rfl := List.length_eq_zero_iff.mp h; rfl
  | n + 1, R, h, hr => by
    obtain ⟨A, r, rfl⟩ : ∃ A r, R = A ++ [r] := by
      have hne : R ≠ [] := by intro e; rw [e] at h; simp at h
      exact ⟨R.dropLast, R.getLast hne, (List.dropLast_concat_getLast hne).symm⟩
    have hA : A.length = n := by simpa using h
    have ih := digs_dl p B' wd hp hB' hB n A hA fun x hx => hr x (List.mem_append.mpr (.inl hx))
    have hrB : r < 2 ^ wd := hr r (List.mem_append.mpr (.inr (.head _)))
    have hm := hv_mod p B' hp n A hA
    rw [← hB] at hm
    have hq : hv (2 ^ wd) A = p * (hv (2 ^ wd) A / p) + lc p 0 A := by rw [← hm]; exact (Nat.div_add_mod _ _).symm
    generalize hv (2 ^ wd) A / p = q at hq ih
    have hc := lc_lt p hp A
    have e1 : hv (2 ^ wd) (A ++ [r]) = p * (B' * lc p 0 A + (p * B') * q) + r := by
      rw [hv_snoc, hq, hB, Nat.mul_add, Nat.mul_add]
      have a1 : p * B' * (p * q) = p * (p * B' * q) := by rw [Nat.mul_left_comm]
      have a2 : p * B' * lc p 0 A = p * (B' * lc p 0 A) := Nat.mul_assoc _ _ _
      omega
    have e2 : hv (2 ^ wd) (A ++ [r]) / p = (r / p + B' * lc p 0 A) + 2 ^ wd * q := by
      rw [e1, Nat.mul_add_div hp, hB]; omega
    have h1 : r / p < B' := Nat.div_lt_of_lt_mul (by rw [← hB]; exact hrB)
    have hlt : r / p + B' * lc p 0 A < 2 ^ wd := by
      have h2 : B' * (lc p 0 A + 1) ≤ B' * p := Nat.mul_le_mul_left _ hc
      rw [Nat.mul_add, Nat.mul_one] at h2
      rw [hB, Nat.mul_comm p B']; omega
    rw [e2]
    show ((r / p + B' * lc p 0 A + 2 ^ wd * q) % 2 ^ wd :: digs wd n ((r / p + B' * lc p 0 A + 2 ^ wd * q) / 2 ^ wd)).reverse = _
    rw [Nat.add_mul_mod_self_left, Nat.mod_eq_of_lt hlt, Nat.add_mul_div_left _ _ (Nat.pow_pos (by decide)), Nat.div_eq_of_lt hlt, Nat.zero_add, List.reverse_cons, ih, dl_snoc]
theorem keepF_dl (p B' : Nat) (hp : 0 < p) (hB' : 0 < B') : ∀ (R : List Nat) (c : Nat), (∀ r ∈ R, r < p * B') → keepF p (p * B') (dl p B' c R) = if c = 0 then halvedN p R else []
  | [], c, _ => by show [] = _; split <;> rfl
  | r :: R, c, h => by
    show (if p * B' ≤ (r / p + B' * c) * p then [] else (r / p + B' * c) :: keepF p (p * B') (dl p B' (r % p) R)) = _
    by_cases hc : c = 0
    · subst hc
      have h1 := h r (.head _)
      have h2 : r / p * p ≤ r := Nat.div_mul_le_self r p
      rw [Nat.mul_zero, Nat.add_zero, if_neg (by omega), if_pos rfl, keepF_dl p B' hp hB' R (r % p) (fun x hx => h x (.tail _ hx))]
      rfl
    · rw [if_neg hc, if_pos]
      have h1 : B' * 1 ≤ B' * c := Nat.mul_le_mul_left _ (by omega)
      rw [Nat.mul_one] at h1
      have h2 : B' * p ≤ (r / p + B' * c) * p := Nat.mul_le_mul_right _ (Nat.le_trans h1 (Nat.le_add_left _ _))
      rw [Nat.mul_comm p B']; exact h2
theorem packF_halved {p wd : Nat} {R : List Nat} (hp : ∃ k, p = 2 ^ k ∧ k ≤ wd) (hr : ∀ r ∈ R, r < 2 ^ wd) :
    packF p (2 ^ wd) (digs wd R.length (valD (2 ^ wd) R.reverse / p)).reverse = halvedN p R := by
  obtain ⟨k, rfl, hk⟩ := hp
  have hpp : 0 < 2 ^ k := Nat.pow_pos (by decide)
  have hB : 2 ^ wd = 2 ^ k * 2 ^ (wd - k) := by rw [← Nat.pow_add]; congr 1; omega
  have hB' : 0 < 2 ^ (wd - k) := Nat.pow_pos (by decide)
  have e := digs_dl (2 ^ k) (2 ^ (wd - k)) wd hpp hB' hB R.length R rfl hr
  rw [show valD (2 ^ wd) R.reverse = hv (2 ^ wd) R from rfl, e]
  cases R with
  | nil => rfl
  | cons r R =>
    show (r / 2 ^ k + 2 ^ (wd - k) * 0) :: keepF (2 ^ k) (2 ^ wd) (dl (2 ^ k) (2 ^ (wd - k)) (r % 2 ^ k) R) = _
    rw [hB, keepF_dl _ _ hpp hB' R (r % 2 ^ k) (fun x hx => by rw [← hB]; exact hr x (.tail _ hx)), Nat.mul_zero, Nat.add_zero]
    rfl
theorem pack_mod {p wd : Nat} {R : List Nat} {l : Nat} (hp : ∃ k, p = 2 ^ k ∧ k ≤ wd) (hl : R.getLast? = some l) : valD (2 ^ wd) R.reverse % p = l % p := by
  obtain ⟨k, rfl, hk⟩ := hp
  have hpp : 0 < 2 ^ k := Nat.pow_pos (by decide)
  have hB : 2 ^ wd = 2 ^ k * 2 ^ (wd - k) := by rw [← Nat.pow_add]; congr 1; omega
  have e := hv_mod (2 ^ k) (2 ^ (wd - k)) hpp R.length R rfl
  rw [← hB] at e
  rw [show valD (2 ^ wd) R.reverse = hv (2 ^ wd) R from rfl, e]
  have hne : R ≠ [] := by intro q; rw [q] at hl; cases hl
  have : R = R.dropLast ++ [l] := by
    rw [List.getLast?_eq_some_getLast hne] at hl
    cases hl
    exact (List.dropLast_concat_getLast hne).symm
  rw [this, lc_snoc]
theorem rest_sum {B : Nat} {g : List Nat} (h : g.sum < B - 1) : valD B g % (B - 1) = g.sum := by
  obtain ⟨M, rfl⟩ : ∃ M, B = M + 1 := ⟨B - 1, by omega⟩
  rw [Nat.add_sub_cancel] at h ⊢
  have e : ∀ g : List Nat, valD (M + 1) g % M = g.sum % M := by
    intro g
    induction g with
    | nil => rfl
    | cons d g ih =>
      show (d + (M + 1) * valD (M + 1) g) % M = (d :: g).sum % M
      rw [List.sum_cons, Nat.add_mul, Nat.one_mul, Nat.add_comm (M * _), ← Nat.add_assoc, Nat.add_mul_mod_self_left, Nat.add_mod, ih, ← Nat.add_mod]
  rw [e, Nat.mod_eq_of_lt h]
noncomputable def chk (c : Nat) (f : List Nat) : Bool := (isB1 c || (((b3get c).isSome || (34 :: List.range' 65 26).contains c) && decide ((fold3 c).cps.size ≤ 10))) && decide (prepL [c] = f) && c != 34 && f.all (· != 34)
theorem chk_codes : (List.range 27).all (fun pl => chk (if pl < 11 then codesL.getD pl 0 else 65013 + pl) []) = true := by decide +kernel
theorem chk_great : (List.range 26).all (fun q => chk (65 + q) [97 + q]) = true := by decide +kernel
theorem chk_bold : (List.range 26).all (fun q => chk (119808 + q) [97 + q]) = true := by decide +kernel
theorem chk_several : (List.range 8).all (fun q => chk (if q < 7 then 64256 + q else 223) (severalL.getD q [])) = true := by decide +kernel
theorem chk_sign (p : Nat) : chk (signOf p) (foldOf p) = true := by
  unfold signOf foldOf
  have h6 : p % 6 < 6 := Nat.mod_lt _ (by decide)
  have a1 := List.all_eq_true.mp chk_codes (p / 6 % 27) (List.mem_range.mpr (Nat.mod_lt _ (by decide)))
  have a2 := List.all_eq_true.mp chk_great (p / 6 % 26) (List.mem_range.mpr (Nat.mod_lt _ (by decide)))
  have a3 := List.all_eq_true.mp chk_bold (p / 6 % 26) (List.mem_range.mpr (Nat.mod_lt _ (by decide)))
  have a4 := List.all_eq_true.mp chk_several (p / 6 % 8) (List.mem_range.mpr (Nat.mod_lt _ (by decide)))
  by_cases h1 : p % 6 < 3
  · rw [if_pos h1, if_pos h1]; exact a1
  · rw [if_neg h1, if_neg h1]
    by_cases h2 : p % 6 = 3
    · rw [if_pos h2, if_pos h2]; exact a2
    · rw [if_neg h2, if_neg h2]
      by_cases h3 : p % 6 = 4
      · rw [if_pos h3, if_pos h3]; exact a3
      · rw [if_neg h3, if_neg h3]; exact a4
theorem sign_ok (p : Nat) : Good (signOf p) ∧ prepL [signOf p] = foldOf p ∧ signOf p ≠ 34 ∧ ∀ c ∈ foldOf p, c ≠ 34 := by
  have h := chk_sign p
  unfold chk at h
  simp only [Bool.and_eq_true, Bool.or_eq_true, decide_eq_true_eq, bne_iff_ne, ne_eq, List.contains_iff_mem] at h
  obtain ⟨⟨⟨h1, h2⟩, h3⟩, h4⟩ := h
  refine ⟨h1, h2, h3, fun c hc => ?_⟩
  have := List.all_eq_true.mp h4 c hc
  simpa using this
theorem noq_sign (ps : List Nat) : NoQ (ps.map fun p => [signOf p]) := by
  intro s hs
  obtain ⟨p, _, rfl⟩ := List.mem_map.mp hs
  exact ⟨by simp, fun c hc => by rw [List.mem_singleton.mp hc]; exact (sign_ok p).2.2.1⟩
theorem noq_letters (R ps : List Nat) (h : R.length ≤ ps.length + 1) : NoQ (lettersOf R (ps.map foldOf)) := by
  intro s hs
  obtain ⟨h1, h2⟩ := (groupsOf_flat R (ps.map foldOf) (by rw [List.length_map]; exact h)).2 s hs
  obtain ⟨p, _, rfl⟩ := List.mem_map.mp h2
  exact ⟨h1, (sign_ok p).2.2.2⟩
theorem foldOk (ps : List Nat) : FoldOk ps := fun p _ => (sign_ok p).2.1
theorem fold_len (p : Nat) : (foldOf p).length ≤ 10 := by
  rw [← (sign_ok p).2.1]
  have := prepL_len [signOf p] (fun c hc => by rw [List.mem_singleton.mp hc]; exact (sign_ok p).1)
  simpa using this
/-- what is told: the groups' sums -/
noncomputable def sumsOf (R : List Nat) (ps : List Nat) : List Nat := (groupsOf R (ps.map foldOf)).map List.sum
theorem told_of (R ps : List Nat) (hR : R ≠ []) : prepL (TN R (ps.map fun p => [signOf p])) = TN (sumsOf R ps) (lettersOf R (ps.map foldOf)) := by
  rw [prepL_TN R ps (foldOk ps)]
  exact (groupsOf_TN R (ps.map foldOf) hR).1.symm
theorem behind_eq (R ps : List Nat) (k : Nat) (hR : R ≠ []) (h : R.length ≤ ps.length + 1) :
    prepL (readN k (TN R (ps.map fun p => [signOf p]))) = TN (sumsOf (halvedN (2 ^ k) R) ps) (lettersOf (halvedN (2 ^ k) R) (ps.map foldOf)) := by
  rw [readN_TN _ (noq_sign ps) R (by rw [List.length_map]; exact h) k, told_of]
  cases R with
  | nil => exact absurd rfl hR
  | cons r R => rw [halvedN_cons]; simp
theorem ahead_eq (R ps : List Nat) (k : Nat) (hR : R ≠ []) (h : R.length ≤ ps.length + 1) :
    readN k (prepL (TN R (ps.map fun p => [signOf p]))) = TN (halvedN (2 ^ k) (sumsOf R ps)) (lettersOf R (ps.map foldOf)) := by
  rw [told_of R ps hR]
  refine readN_TN _ (noq_letters R ps h) _ ?_ k
  unfold sumsOf
  rw [List.length_map, (groupsOf_TN R (ps.map foldOf) hR).2]
  exact Nat.le_refl _
theorem gstep_map (p : Nat) (z : List (List Nat × Nat)) : ∀ (o : List (List Nat)) (l : List Nat) (ls : List (List Nat)),
    (z.map fun x => (x.1, p * x.2)).foldl gstep (o.map fun g => g.map (p * ·), l.map (p * ·), ls) = ((z.foldl gstep (o, l, ls)).1.map (fun g => g.map (p * ·)), (z.foldl gstep (o, l, ls)).2.1.map (p * ·), (z.foldl gstep (o, l, ls)).2.2) := by
  induction z with
  | nil => intro o l ls; rfl
  | cons x z ih =>
    intro o l ls
    obtain ⟨f, r⟩ := x
    rw [List.map_cons, List.foldl_cons, List.foldl_cons]
    by_cases hf : f = []
    · rw [show gstep (o, l, ls) (f, r) = (o, l ++ [r], ls) by unfold gstep; rw [if_pos hf], ← ih]
      congr 1
      unfold gstep
      rw [if_pos hf, List.map_append]; rfl
    · rw [show gstep (o, l, ls) (f, r) = (o ++ [l], [r], ls ++ [f]) by unfold gstep; rw [if_neg hf], ← ih]
      congr 1
      unfold gstep
      rw [if_neg hf, List.map_append]; rfl
theorem groups_scale (p : Nat) (R : List Nat) (fs : List (List Nat)) : groupsOf (R.map (p * ·)) fs = (groupsOf R fs).map (fun g => g.map (p * ·)) ∧ lettersOf (R.map (p * ·)) fs = lettersOf R fs := by
  cases R with
  | nil => exact ⟨rfl, rfl⟩
  | cons r R =>
    have hz : fs.zip (R.map (p * ·)) = (fs.zip R).map fun x => (x.1, p * x.2) := by
      rw [List.zip_map_right]; rfl
    have e := gstep_map p (fs.zip R) [] [r] []
    rw [← hz] at e
    have e' : groupsG (p * r) (R.map (p * ·)) fs = _ := e
    constructor
    · show (groupsG (p * r) (R.map (p * ·)) fs).1 ++ [(groupsG (p * r) (R.map (p * ·)) fs).2.1] = ((groupsG r R fs).1 ++ [(groupsG r R fs).2.1]).map _
      rw [e', List.map_append]; rfl
    · show (groupsG (p * r) (R.map (p * ·)) fs).2.2 = _
      rw [e']; rfl
theorem sum_scale (p : Nat) (g : List Nat) : (g.map (p * ·)).sum = p * g.sum := by
  induction g with
  | nil => simp
  | cons a g ih => rw [List.map_cons, List.sum_cons, List.sum_cons, ih, Nat.mul_add]
theorem zip_take_le : ∀ (fs : List (List Nat)) (R : List Nat) (k : Nat), R.length ≤ k → (fs.take k).zip R = fs.zip R
  | [], R, k, _ => by simp
  | _ :: _, [], k, _ => by simp
  | f :: fs, r :: R, 0, h => by simp at h
  | f :: fs, r :: R, k + 1, h => by rw [List.take_succ_cons, List.zip_cons_cons, List.zip_cons_cons, zip_take_le fs R k (by simpa using h)]
theorem groups_take (R : List Nat) (fs : List (List Nat)) (k : Nat) (h : R.length ≤ k + 1) : groupsOf R (fs.take k) = groupsOf R fs ∧ lettersOf R (fs.take k) = lettersOf R fs := by
  cases R with
  | nil => exact ⟨rfl, rfl⟩
  | cons r R =>
    have hz : (fs.take k).zip R = fs.zip R := zip_take_le fs R k (by simpa using h)
    have e : groupsG r R (fs.take k) = groupsG r R fs := by unfold groupsG; rw [hz]
    exact ⟨by show _ ++ _ = _ ++ _; rw [e], by show (groupsG r R (fs.take k)).2.2 = _; rw [e]; rfl⟩
theorem halved_split (p : Nat) (hp : 0 < p) : ∀ (A : List Nat) (v : Nat) (R : List Nat), (∀ a ∈ A, a % p = 0) → (R = [] ∨ v % p ≠ 0) → halvedN p (A ++ v :: R) = A.map (· / p) ++ [v / p]
  | [], v, R, _, h => by
    show v / p :: (if v % p = 0 then halvedN p R else []) = _
    rcases h with rfl | h
    · split <;> rfl
    · rw [if_neg h]; rfl
  | a :: A, v, R, hA, h => by
    show a / p :: (if a % p = 0 then halvedN p (A ++ v :: R) else []) = _
    rw [if_pos (hA a (.head _)), halved_split p hp A v R (fun x hx => hA x (.tail _ hx)) h]; rfl
theorem last_eq (R ps : List Nat) (rd k v : Nat) (hl : R.length = ps.length + 1) (hk : k ≤ ps.length) (hv : R[k]? = some v) (hz : ∀ i x, i < k → R[i]? = some x → x % 2 ^ rd = 0) (hend : k = ps.length ∨ v % 2 ^ rd ≠ 0) :
    readN rd (prepL (TN R (ps.map fun p => [signOf p]))) = prepL (readN rd (TN R (ps.map fun p => [signOf p]))) ++ readN rd (prepL (lostL R ps (2 ^ rd) k v)) := by
  have hpp : 0 < 2 ^ rd := Nat.pow_pos (by decide)
  have hlt : k < R.length := by omega
  have hR : R = R.take k ++ v :: R.drop (k + 1) := by
    have e : R.drop k = v :: R.drop (k + 1) := by
      rw [List.drop_eq_getElem_cons hlt]
      congr 1
      rw [List.getElem?_eq_getElem hlt] at hv
      exact Option.some.inj hv
    rw [← e, List.take_append_drop]
  have hA : ∀ a ∈ R.take k, a % 2 ^ rd = 0 := by
    intro a ha
    obtain ⟨i, hi⟩ := List.getElem?_of_mem ha
    have hik : i < k := by
      have := (List.getElem?_eq_some_iff.mp hi).1
      rw [List.length_take] at this; omega
    rw [List.getElem?_take_of_lt hik] at hi
    exact hz i a hik hi
  have hAl : (R.take k).length = (ps.take k).length := by rw [List.length_take, List.length_take]; omega
  have hend' : R.drop (k + 1) = [] ∨ v % 2 ^ rd ≠ 0 := hend.imp (fun e => List.drop_of_length_le (by omega)) id
  have hlost : lostL R ps (2 ^ rd) k v = TN (v % 2 ^ rd :: R.drop (k + 1)) ((ps.drop k).map fun p => [signOf p]) := by unfold lostL; rw [textOf_TN]
  rw [hlost]
  have hps : (ps.map fun p => [signOf p]) = ((ps.take k).map fun p => [signOf p]) ++ ((ps.drop k).map fun p => [signOf p]) := by rw [← List.map_append, List.take_append_drop]
  -- the kept runs
  have hkept : halvedN (2 ^ rd) R = (R.take k).map (· / 2 ^ rd) ++ [v / 2 ^ rd] := by
    conv => lhs; rw [hR]
    exact halved_split _ hpp _ _ _ hA hend'
  have hscale : R.take k ++ [2 ^ rd * (v / 2 ^ rd)] = (halvedN (2 ^ rd) R).map (2 ^ rd * ·) := by
    rw [hkept, List.map_append, List.map_map]
    congr 1
    refine (List.map_id' _).symm.trans (List.map_congr_left fun a ha => ?_)
    show a = 2 ^ rd * (a / 2 ^ rd)
    have := Nat.div_add_mod a (2 ^ rd)
    rw [hA a ha] at this
    omega
  have hX : TN R (ps.map fun p => [signOf p]) = TN ((halvedN (2 ^ rd) R).map (2 ^ rd * ·)) ((ps.take k).map fun p => [signOf p]) ++ TN (v % 2 ^ rd :: R.drop (k + 1)) ((ps.drop k).map fun p => [signOf p]) := by
    conv => lhs; rw [hR, hps, ← Nat.div_add_mod v (2 ^ rd)]
    rw [TN_split _ _ _ _ _ _ (by rw [List.length_map]; exact hAl), hscale]
  have hkl : (halvedN (2 ^ rd) R).length = k + 1 := by rw [hkept, List.length_append, List.length_map, List.length_take]; show min k R.length + 1 = k + 1; omega
  have hkne : halvedN (2 ^ rd) R ≠ [] := by intro e; rw [e] at hkl; cases hkl
  have htl : (ps.take k).length = k := by rw [List.length_take]; omega
  rw [behind_eq R ps rd (by intro e; rw [e] at hlt; cases hlt) (by omega)]
  conv => lhs; rw [hX]
  rw [prepL_app, told_of _ (ps.take k) (by simpa using hkne)]
  unfold sumsOf
  rw [(groups_scale _ _ _).1, (groups_scale _ _ _).2, List.map_map]
  have hs : (List.sum ∘ fun g : List Nat => g.map (2 ^ rd * ·)) = (2 ^ rd * ·) ∘ List.sum := funext fun g => sum_scale _ g
  rw [hs, ← List.map_map]
  have hg := groups_take (halvedN (2 ^ rd) R) (ps.map foldOf) k (by omega)
  rw [← List.map_take] at hg
  rw [hg.1, hg.2, readN_even _ _ (noq_letters _ ps (by omega)) rd]
  rw [List.length_map, (groupsOf_TN (halvedN (2 ^ rd) R) (ps.map foldOf) hkne).2]
theorem given_ok (ns : List Int) : 5 ≤ (givenOf ns).length ∧ (givenOf ns).length ≤ 7 ∧ ∀ v ∈ givenOf ns, v < 1000000 := by
  have hl : (givenOf ns).length = (ns.take 7).length + (5 - (ns.take 7).length) := by
    unfold givenOf
    rw [List.length_append, List.length_map, List.length_drop]
    rfl
  have h7 : (ns.take 7).length ≤ 7 := by rw [List.length_take]; omega
  refine ⟨by omega, by omega, fun v hv => ?_⟩
  unfold givenOf at hv
  rcases List.mem_append.mp hv with h | h
  · obtain ⟨x, _, rfl⟩ := List.mem_map.mp h
    have h1 : x % 10 ^ 6 = x % 1000000 := rfl
    rw [h1]
    omega
  · have hd : ∀ v ∈ ([13, 599, 1779, 377, 5] : List Nat), v < 1000000 := by decide
    exact hd v (List.mem_of_mem_drop h)
theorem runOf_le (v : Nat) : runOf v ≤ 24 := by
  have h0 : v % 4 < 4 := Nat.mod_lt _ (by decide)
  have h1 : v / 4 % 4 < 4 := Nat.mod_lt _ (by decide)
  have h2 : 2 ^ (v / 4 % 4) ≤ 2 ^ 3 := Nat.pow_le_pow_right (by decide) (by omega)
  exact Nat.mul_le_mul (show v % 4 ≤ 3 by omega) h2
theorem sum_le (B : Nat) : ∀ (l : List Nat), (∀ v ∈ l, v ≤ B) → l.sum ≤ l.length * B
  | [], _ => Nat.zero_le _
  | a :: r, h => by
    have h1 := h a (.head _)
    have h2 := sum_le B r fun v hm => h v (.tail _ hm)
    rw [List.sum_cons, List.length_cons, Nat.add_mul, Nat.one_mul]; omega
theorem letters_len : ∀ (z : List (List Nat × Nat)) (st : List (List Nat) × List Nat × List (List Nat)), (z.foldl gstep st).2.2.length ≤ st.2.2.length + z.length
  | [], st => Nat.le_refl _
  | (f, r) :: z, (o, l, ls) => by
    have h := letters_len z (gstep (o, l, ls) (f, r))
    have h2 : (gstep (o, l, ls) (f, r)).2.2.length ≤ ls.length + 1 := by
      unfold gstep
      by_cases hf : f = []
      · rw [if_pos hf]; exact Nat.le_succ _
      · rw [if_neg hf]; show (ls ++ [f]).length ≤ _; rw [List.length_append]; exact Nat.le_refl _
    rw [List.foldl_cons, List.length_cons]
    show _ ≤ ls.length + _
    omega
/-- what the groups of few small runs are like -/
theorem groups_small (Y ps : List Nat) (hY : Y ≠ []) (hl : Y.length ≤ ps.length + 1) (h8 : Y.length ≤ 8) (hb : ∀ y ∈ Y, y ≤ 24) :
    ∃ g0 gr, groupsOf Y (ps.map foldOf) = g0 :: gr ∧ gr.length = (lettersOf Y (ps.map foldOf)).length ∧ gr.length ≤ 7 ∧ (∀ g ∈ g0 :: gr, g.sum ≤ 192 ∧ g.length ≤ 8 ∧ ∀ x ∈ g, x ≤ 24) ∧ ∀ x ∈ lettersOf Y (ps.map foldOf), x.length ≤ 1000 := by
  obtain ⟨h1, h2⟩ := groupsOf_TN Y (ps.map foldOf) hY
  obtain ⟨h3, h4⟩ := groupsOf_flat Y (ps.map foldOf) (by rw [List.length_map]; exact hl)
  have hll : (lettersOf Y (ps.map foldOf)).length ≤ 7 := by
    cases Y with
    | nil => exact absurd rfl hY
    | cons y Y =>
      have h5 := letters_len ((ps.map foldOf).zip Y) ([], [y], [])
      have h6 : ((ps.map foldOf).zip Y).length ≤ Y.length := by rw [List.length_zip]; omega
      have h7 : Y.length ≤ 7 := by simpa using h8
      show ((ps.map foldOf).zip Y |>.foldl gstep ([], [y], [])).2.2.length ≤ 7
      have h9 : ([] : List (List Nat)).length = 0 := rfl
      simp only [List.length_nil] at h5
      omega
  have hsum : Y.sum ≤ 192 := Nat.le_trans (sum_le 24 Y hb) (by have := Nat.mul_le_mul_right 24 h8; omega)
  have hall : ∀ g ∈ groupsOf Y (ps.map foldOf), g.sum ≤ 192 ∧ g.length ≤ 8 ∧ ∀ x ∈ g, x ≤ 24 := by
    intro g hg
    obtain ⟨a1, a2, a3⟩ := mem_flat_len hg
    rw [h3] at a1 a2 a3
    exact ⟨by omega, by omega, fun x hx => hb x (a3 x hx)⟩
  cases e : groupsOf Y (ps.map foldOf) with
  | nil => rw [e] at h2; simp at h2
  | cons g0 gr =>
    rw [e] at h2 hall
    refine ⟨g0, gr, rfl, by simpa using h2, by simp at h2; omega, hall, fun x hx => ?_⟩
    obtain ⟨p, _, rfl⟩ := List.mem_map.mp (h4 x hx).2
    exact Nat.le_trans (fold_len p) (by decide)
theorem names0 {m : Str → Option Value} {b f : Addr} {g r : Addr} {ld rd pn wd un : Nat} (ml : HasInt m "laid" ld) (md : HasInt m "readings" rd) (mp : HasInt m "power" pn) (mw : HasInt m "width" wd) (mu : HasInt m "unit" un) :
    Names (fun z => if z = Str.ofString "folds" then some (.ref f) else if z = Str.ofString "between" then some (.ref b) else if z = Str.ofString "runs" then some (.ref r) else m z) r b f ld rd pn wd un := by
  have ne : ∀ z : Str, (z == Str.ofString "folds") = false → (z == Str.ofString "between") = false → (z == Str.ofString "runs") = false →
      (fun z => if z = Str.ofString "folds" then some (Value.ref f) else if z = Str.ofString "between" then some (.ref b) else if z = Str.ofString "runs" then some (.ref r) else m z) z = m z := fun z h1 h2 h3 => by
    show (if z = Str.ofString "folds" then _ else _) = _
    rw [if_neg (beq_eq_false_iff_ne.mp h1), if_neg (beq_eq_false_iff_ne.mp h2), if_neg (beq_eq_false_iff_ne.mp h3)]
  obtain ⟨t1, ml⟩ := ml
  obtain ⟨t2, md⟩ := md
  obtain ⟨t3, mp⟩ := mp
  obtain ⟨t4, mw⟩ := mw
  obtain ⟨t5, mu⟩ := mu
  refine ⟨?_, ?_, if_pos rfl, ⟨t1, ?_⟩, ⟨t2, ?_⟩, ⟨t3, ?_⟩, ⟨t4, ?_⟩, ⟨t5, ?_⟩⟩
  · show (if _ then _ else if _ then _ else if _ then _ else _) = _
    rw [if_neg (by decide), if_neg (by decide), if_pos rfl]
  · show (if _ then _ else if _ then _ else _) = _
    rw [if_neg (by decide), if_pos rfl]
  · exact (ne _ (by decide) (by decide) (by decide)).trans ml
  · exact (ne _ (by decide) (by decide) (by decide)).trans md
  · exact (ne _ (by decide) (by decide) (by decide)).trans mp
  · exact (ne _ (by decide) (by decide) (by decide)).trans mw
  · exact (ne _ (by decide) (by decide) (by decide)).trans mu
set_option maxHeartbeats 2000000 in
theorem law_body {w : World} {A : Around} {mg mb : Str → Option Value} {H : Heap} {L : Addr} (C : Ctx w A mg mb H L) {m : Str → Option Value} {h : Heap} {s : Shared} {tk : Nat} {a : Addr} {vs : List Value} {ns : List Int} {Q : Flow → Shared → Prop}
    (F : Fr H L h m) (T : Tabs h) (hl : h.IsList a vs.toArray) (hi : IntsAre vs ns) (hlen : ns.length ≤ 63) (ms : m "script" = some (.ref a))
    (next : ∀ h' tk', Keeps H h' → Tabs h' → Q (.ret (.bool true)) { s with heap := h', toks := tk' }) :
    wpAny (model pw w) A (execs lawBody (lawEnv L)) Q (fun _ _ => False) { s with heap := h, toks := tk } := by
  refine law_a C F T hl hi hlen ms ?_
  intro h1 tk1 m1 g us F1 T1 hg1 hiu mg1
  obtain ⟨hg5, hg7, hgv⟩ := given_ok ns
  generalize givenOf ns = gs at hiu hg5 hg7 hgv
  refine law_b C F1 T1 hg1 hiu (by omega) (fun v hv => hgv v hv) mg1 ?_
  intro h2 tk2 m2 F2 T2 hg2 mg2 ml md mp mw mu
  refine law_c C F2 T2 hg2 hiu (by omega) mg2 ?_
  intro h3 tk3 r rs' F3 T3 hg3 hr3 hir
  refine law_d C F3 T3 hg3 hr3 hiu (by omega) hgv (look_skip (by decide) mg2) ?_
  intro h4 tk4 b bs F4 T4 hr4 hb4 hp4
  have hpl : (gs.dropLast.map (· / 16)).length + 1 = gs.length := by rw [List.length_map, List.length_dropLast]; omega
  refine law_e C F4 T4 hr4 hb4 hp4 (by omega) look_hit ?_
  intro h5 tk5 f fs' F5 T5 hr5 hb5 hp5 hf5 hft
  -- the data
  have hsum : gs.sum < 2 ^ 23 := by
    have h1 := sum_le 1000000 gs fun v hv => Nat.le_of_lt (hgv v hv)
    have h2 : gs.length * 1000000 ≤ 7 * 1000000 := Nat.mul_le_mul_right _ hg7
    have h3 : 7 * 1000000 < 2 ^ 23 := by decide
    omega
  have hrd : 1 + gs.sum % 3 ≤ 3 := by omega
  have hwd : 9 ≤ 9 + gs.sum % 992 ∧ 9 + gs.sum % 992 ≤ 1000 := by omega
  have M5 := names0 (b := b) (f := f) (g := g) (r := r) ml md mp mw mu
  have Z5 : Lists h5 r b f rs' bs fs' (gs.dropLast.map (· / 16)) := ⟨T5, hr5, hb5, hp5, hf5⟩
  generalize gs.sum = ld at M5 hsum hrd hwd
  generalize 1 + ld % 3 = rd at M5 hrd
  generalize 9 + ld % 992 = wd at M5 hwd
  have hld : ld < 2 ^ (5 * wd) + ld := Nat.lt_add_of_pos_left (Nat.pow_pos (by decide))
  have hun2 : 2 ^ (5 * wd) ≤ 2 ^ (5 * wd) + ld := Nat.le_add_right _ _
  have hun : 2 ^ (5 * wd) + ld < 2 ^ 5100 := by
    have h1 : 2 ^ (5 * wd) ≤ 2 ^ 5000 := Nat.pow_le_pow_right (by decide) (by omega)
    have h2 : (2 : Nat) ^ 23 ≤ 2 ^ 5000 := Nat.pow_le_pow_right (by decide) (by decide)
    have h3 : (2 : Nat) ^ 5001 = 2 ^ 5000 + 2 ^ 5000 := by rw [Nat.pow_succ, Nat.mul_two]
    have h4 : (2 : Nat) ^ 5001 ≤ 2 ^ 5100 := Nat.pow_le_pow_right (by decide) (by decide)
    have h5 : 2 ^ (5 * wd) + ld < 2 ^ 5000 + 2 ^ 5000 := Nat.add_lt_add_of_le_of_lt h1 (Nat.lt_of_lt_of_le hsum h2)
    rw [← h3] at h5
    exact Nat.lt_of_lt_of_le h5 h4
  generalize 2 ^ (5 * wd) + ld = un at M5 hld hun2 hun
  have hpn8 : 0 < 2 ^ rd ∧ 2 ^ rd ≤ 8 := ⟨Nat.pow_pos (by decide), Nat.le_trans (Nat.pow_le_pow_right (by decide) hrd) (by decide)⟩
  have hpk : ∃ k, 2 ^ rd = 2 ^ k ∧ k ≤ wd := ⟨rd, rfl, by omega⟩
  have hB9 : 512 ≤ 2 ^ wd := Nat.le_trans (by decide : 512 ≤ 2 ^ 9) (Nat.pow_le_pow_right (by decide) hwd.1)
  have hRl : (gs.map runOf).length = (gs.dropLast.map (· / 16)).length + 1 := by rw [List.length_map, hpl]
  have hR24 : ∀ x ∈ gs.map runOf, x ≤ 24 := by
    intro x hx
    obtain ⟨v, _, rfl⟩ := List.mem_map.mp hx
    exact runOf_le v
  have hp8 : (gs.dropLast.map (· / 16)).length ≤ 7 := by omega
  generalize gs.map runOf = R at hir hRl hR24
  generalize gs.dropLast.map (· / 16) = ps at hp5 hpl Z5 hRl hft hp8
  clear hg1 hg2 hg3 hiu mg1 mg2 hgv ml md mp mw mu F1 F2 F3 F4 hp4 F T hl
  have hir : IntsAre rs' (runsI R) := hir
  have hRne : R ≠ [] := by intro e; rw [e] at hRl; simp at hRl
  obtain ⟨rl, hlast⟩ : ∃ l, R.getLast? = some l := ⟨_, List.getLast?_eq_some_getLast hRne⟩
  have hRr : ∃ r0 rs, R = r0 :: rs := by
    cases R with
    | nil => exact absurd rfl hRne
    | cons r0 rs => exact ⟨r0, rs, rfl⟩
  obtain ⟨r0, rs, hRe⟩ := hRr
  have hrsl : rs.length = ps.length := by rw [hRe] at hRl; simpa using hRl
  -- plain facts
  have hb1 := behind_eq R ps rd hRne (by omega)
  have ha1 := ahead_eq R ps rd hRne (by omega)
  have hXl : (TN R (ps.map fun p => [signOf p])).length ≤ 5000 := by
    rw [← textOf_TN]
    have h1 := textOf_len (B := 24) hR24 (xs := ps.map fun p => [signOf p]) (fun x hx => by
      obtain ⟨p, _, rfl⟩ := List.mem_map.mp hx
      exact Nat.le_refl _)
    have h2 : R.length * (24 + 1) ≤ 8 * 25 := Nat.mul_le_mul_right _ (by omega)
    omega
  have hXg : ∀ c ∈ TN R (ps.map fun p => [signOf p]), Good c := by
    intro c hc
    rw [← textOf_TN] at hc
    rcases textOf_mem hc with rfl | ⟨x, hx, hc⟩
    · exact good34
    · obtain ⟨p, _, rfl⟩ := List.mem_map.mp hx
      rw [List.mem_singleton.mp hc]
      exact (sign_ok p).1
  have hbl : (prepL (readN rd (TN R (ps.map fun p => [signOf p])))).length ≤ 50000 := by
    have h1 := prepL_len (readN rd (TN R (ps.map fun p => [signOf p]))) (fun c hc => hXg c (readN_mem _ _ c hc))
    have h2 := readN_len rd (TN R (ps.map fun p => [signOf p]))
    omega
  have hK24 := halvedN_le (2 ^ rd) 24 R hR24
  have hKl := halvedN_len (2 ^ rd) R
  have hKne : halvedN (2 ^ rd) R ≠ [] := by rw [hRe, halvedN_cons]; simp
  obtain ⟨k0, kr, hk0, hkr, hkr7, hkall, hkx⟩ := groups_small (halvedN (2 ^ rd) R) ps hKne (by omega) (by omega) hK24
  obtain ⟨g0, gr, hg0, hgr, hgr7, hgall, hgx⟩ := groups_small R ps hRne (by omega) (by omega) hR24
  have small : ∀ x : Nat, x ≤ 192 → x < 2 ^ wd - 1 := fun x hx => by omega
  -- the text
  rw [hRe] at hir
  refine law_f C F5 Z5 M5 hir ⟨hrsl, by omega⟩ (fun v hv => Nat.le_trans (hR24 v (by rw [hRe]; exact hv)) (by decide)) ?_
  intro h6 tk6 t6 F6 Z6
  rw [← hRe, textOf_TN] at F6
  have M6 := M5.set (Str.ofString "text") (.str ⟨(TN R (ps.map fun p => [signOf p])).toArray⟩ t6) (by decide)
  refine law_g C F6 Z6 M6 ⟨t6, look_hit⟩ hXl hXg (by omega) ?_
  intro h7 tk7 m7 F7 Z7 M7 mb7 ma7
  rw [hb1] at mb7
  rw [ha1] at ma7
  refine law_h C F7 Z7 M7 mb7 ma7 hir hft ⟨hrsl, by omega⟩ (fun v hv => Nat.le_trans (hR24 v (by rw [hRe]; exact hv)) (by decide)) ⟨hpn8.1, by omega⟩ ?_
  intro h8 tk8 m8 kd kv G Le vg wl F8 Z8 M8 mb8 ma8 mk8 hk8 hik8 mG8 mL8 Y8
  rw [← hRe] at hik8 Y8
  rw [hk0] at Y8
  have eb : TN (sumsOf (halvedN (2 ^ rd) R) ps) (lettersOf (halvedN (2 ^ rd) R) (ps.map foldOf)) = textOf (runsI ((k0 :: kr).map List.sum)) (lettersOf (halvedN (2 ^ rd) R) (ps.map foldOf)) := by
    rw [textOf_TN]; unfold sumsOf; rw [hk0]
  refine law_i (Φ := fun h => Lists h r b f rs' bs fs' ps ∧ h.IsList kd kv.toArray) C F8 (Z8.sup.and (Sup.list hk8)) Y8 mb8 mG8 mL8 (fun g hg => Nat.le_trans (hkall g hg).1 (by decide)) hkx (Nat.le_of_eq hkr) (by omega) eb ?_
  rintro h9 tk9 F9 ⟨Z9, hk9⟩ Y9
  refine law_j C F9 Z9 M8 mk8 hk9 hik8 Y9 (rs := R) (by rw [hRe]; exact hir) hlast ⟨by omega, by omega⟩ (fun v hv => by have := hR24 v hv; omega) hwd hpn8 hld hun hun2 (pack_mod hpk hlast) (packF_halved hpk fun x hx => by have := hR24 x hx; omega) ?_
  intro h10 tk10 F10 Z10 _ Y10
  refine law_k C F10 Z10 M8 Y10 mb8 mG8 mL8 (fun g hg => Nat.le_trans (hkall g hg).1 (by decide)) hkx (Nat.le_of_eq hkr) hkr7 (fun g hg => ⟨(hkall g hg).2.1, fun x hx => by have := (hkall g hg).2.2 x hx; omega⟩) hwd (fun g hg => rest_sum (small _ (hkall g hg).1)) eb ?_
  intro h11 tk11 F11 Z11
  have ea : TN (halvedN (2 ^ rd) (sumsOf R ps)) (lettersOf R (ps.map foldOf)) = textOf (runsI (halvedN (2 ^ rd) ((g0 :: gr).map List.sum))) (lettersOf R (ps.map foldOf)) := by
    rw [textOf_TN]; unfold sumsOf; rw [hg0]
  refine law_l C F11 Z11 M8 mb8 ma8 hir hft ⟨hrsl, by omega⟩ ⟨hpn8.1, by omega⟩ (by rw [← hRe]; exact hg0) (by rw [← hRe]) (fun g hg => Nat.le_trans (hgall g hg).1 (by decide)) hgx (Nat.le_of_eq hgr) hgr7 ea ?_
  intro h12 tk12 m12 G2 Le2 vg2 wl2 sd sv F12 Z12 M12 mb12 ma12 mG12 mL12 Y12 ms12 hs12 his12
  have hss192 : ∀ x ∈ (g0 :: gr).map List.sum, x ≤ 192 := by
    intro x hx
    obtain ⟨g, hg, rfl⟩ := List.mem_map.mp hx
    exact (hgall g hg).1
  have hssne : (g0 :: gr).map List.sum ≠ [] := by simp
  obtain ⟨sl, hsl⟩ : ∃ l, ((g0 :: gr).map List.sum).getLast? = some l := ⟨_, List.getLast?_eq_some_getLast hssne⟩
  obtain ⟨q0, qs, hq⟩ : ∃ q0 qs, halvedN (2 ^ rd) ((g0 :: gr).map List.sum) = q0 :: qs := ⟨_, _, rfl⟩
  have hql : qs.length ≤ gr.length := by
    have := halvedN_len (2 ^ rd) ((g0 :: gr).map List.sum)
    rw [hq, List.length_map] at this
    simpa using this
  have hqle := halvedN_le (2 ^ rd) 192 _ hss192
  rw [hq] at hqle
  have hss : ∀ x ∈ (g0 :: gr).map List.sum, x < 2 ^ wd := fun x hx => by have := hss192 x hx; omega
  refine law_m C F12 Z12 M12 mb12 ma12 mG12 mL12 Y12 ms12 hs12 his12 rfl hsl hpn8 hwd hld hun hun2 (fun g hg => ⟨(hgall g hg).2.1, fun x hx => by have := (hgall g hg).2.2 x hx; omega⟩) ⟨by simp, by rw [List.length_cons]; omega⟩ hss (fun g hg => rest_sum (small _ (hgall g hg).1))
    (pack_mod hpk hsl) ((packF_halved hpk hss).trans hq) (fun x hx => Nat.le_trans (hqle x hx) (by decide)) hgx (by omega) (by omega) (by rw [ea, hq]) ?_
  intro h13 tk13 m13 F13 Z13 M13 mb13 ma13
  refine law_n C F13 Z13 M13 mb13 ma13 (rs := R) (by rw [hRe]; exact hir) hft ⟨hRl, by omega⟩ hpn8.1 ?_
  intro h14 tk14 m14 k hk hz hend F14 Z14 M14 mb14 ma14 mk14
  obtain ⟨v, hv⟩ : ∃ v, R[k]? = some v := ⟨_, List.getElem?_eq_getElem (by omega)⟩
  have hend' : k = ps.length ∨ v % 2 ^ rd ≠ 0 := by
    rcases hend with h | ⟨v', h1, h2⟩
    · exact .inl h
    · rw [hv] at h1; cases h1; exact .inr h2
  have hfin := last_eq R ps rd k v hRl hk hv hz hend'
  rw [ha1, hb1] at hfin
  rw [hb1] at hbl
  exact law_o C F14 Z14 M14 mb14 ma14 mk14 (rs := R) (by rw [hRe]; exact hir) ⟨hRl, by omega⟩ hpn8.1 hk hv (fun x hx => Nat.le_trans (hR24 x hx) (by decide)) (fun p _ => (sign_ok p).1) (by omega) hbl hfin next
noncomputable def lawDef : DefRec := match st 25 with
  | .FunctionDef n p b _ _ _ sc _ _ pos => ⟨n, p, b, sc, pos⟩
  | _ => ⟨"", default, [], lawScope, default⟩
theorem looseW_eq : looseW q loose = loose := by decide +kernel
theorem lawDef_of {d : DefRec} {kwd : List (Str × PySem.Expr)} (e : defOf q "law" = some (d, kwd)) : d = lawDef ∧ kwd = [] := by
  have e2 : defOf q "law" = some (lawDef, []) := by rfl
  rw [e2] at e
  cases e
  exact ⟨rfl, rfl⟩
theorem walkO : WalkO q loose (XL q []) hook.says (OpenLaw.row PySem.Challenge.rw_ul0019_01).toRowW lawDef [] fun f vs => PySem.call f vs := by
  intro w s₀ s₁ mg mb G Y fa o pm cd doc dV kV ho hd hcd hD hmg hg args vals as hpre hlay hrd hwl hlo
  have KX0 : (KX w.params).In s₁.heap := kIn_of Y
  have X0 : (K w.params).In s₁.heap := by
    intro a o e
    refine KX0 a o ?_
    by_cases h1 : a = 30
    · subst h1; cases (show (K w.params).lookup 30 = none from by kernel_rfl).symm.trans e
    by_cases h2 : a = 37
    · subst h2; cases (show (K w.params).lookup 37 = none from by kernel_rfl).symm.trans e
    show List.lookup a ((30, _) :: (37, _) :: K w.params) = _
    rw [List.lookup_cons, beq_eq_false_iff_ne.mpr h1, List.lookup_cons, beq_eq_false_iff_ne.mpr h2]
    exact e
  refine Ground.open G ?_
  intro T B D TE TW
  have hT9 : TabsAt [(34, 30), (41, 37)] s₁.heap := by
    refine List.forall_mem_cons.mpr ⟨⟨codeHd_of_K (c := 34) (P := 30) X0 (by kernel_rfl), KX0 30 tab0 rfl⟩, List.forall_mem_cons.mpr ⟨⟨codeHd_of_K (c := 41) (P := 37) X0 (by kernel_rfl), KX0 37 tab0 rfl⟩, fun _ h => nomatch h⟩⟩
  have he : mg (Str.ofString "law") = some (.ref 204) := mg_of X0 T.g (by kernel_rfl)
  have he2 : fa = 204 := by
    have : mg (Str.ofString "law") = some (.ref fa) := hmg
    rw [he] at this
    cases this; rfl
  subst he2
  have ho2 : s₁.heap.get? 204 = some (o204 w.params) := X0 _ _ (by kernel_rfl)
  rw [ho2] at ho
  cases ho
  have hcd2 : cd = .ref 203 := by
    have h1 : some (match (o204 w.params).data with | .func fd => fd.code | _ => .none) = some cd := congrArg (fun d : Data => some (match d with | .func fd => fd.code | _ => .none)) hd
    exact (Option.some.inj h1).symm
  subst hcd2
  clear hmg he KX0
  wrow_args hpre hlay hrd hwl hlo
  rename IntsAre _ _ => hI
  rename Heap.IsList _ _ _ => hL
  rename ¬ _ => h63
  rename_i ns _ _ _ _ _ _ _ sa vs _ _ _ _ _ _
  have hlen : ns.length ≤ 63 := by omega
  have he := Dflts.none hD rfl
  subst he
  have he := Dflts.noKw hD
  subst he
  refine enter_call ?_
  refine kn_post hT9 (fun _ _ => rfl) ?_
  refine call_plain_ret (name := lawDef.name) (params := lawDef.params) (body := lawDef.body) (scope := lawDef.scope) (binds := [(Str.ofString "script", .ref sa)]) (by decide +kernel) ho2 hd (Top.nolimit T) hcd rfl (locs rfl) (fun h₁ F => ?_)
  have F' := ghost_fr hT9 F
  have X' : (K w.params).In (ghostOf s₁.heap [(34, 30), (41, 37)]) := ghost_K hT9 X0 (by kernel_rfl)
  have T' := ghost_top hT9 T
  have T30 := (hT9 (34, 30) (.head _)).2
  have T37 := (hT9 (41, 37) (.tail _ (.head _))).2
  have TR : TopRead q loose mg mb (ghostOf s₁.heap [(34, 30), (41, 37)]) := by
    have TT := T
    rw [looseW_eq] at TT
    exact ⟨T'.g, T'.b, T'.nolimit, TT.builtins, TT.free⟩
  have C : Ctx w (callerA.deeper (lawEnv s₁.heap.objs.size)) mg mb (ghostOf s₁.heap [(34, 30), (41, 37)]) s₁.heap.objs.size :=
    ⟨⟨rfl, by rw [depth_deeper]; decide +kernel, by rw [units_deeper]; decide +kernel, X', TR⟩, ⟨_, _, T'⟩, hideAll_none _ (.head _), hideAll_none _ (.tail _ (.head _)),
      Nat.lt_trans (by decide) (Heap.lt_size ho2)⟩
  refine law_body (a := sa) C F' (T := ⟨.inl (F.keep _ _ T30), .inl (F.keep _ _ T37)⟩) (hl := ?_) hI hlen ?_ ?_
  · obtain ⟨o, e, r⟩ := hL
    exact ⟨o, F.keep _ _ e, r⟩
  · rfl
  · intro h' tk' k' T2
    refine ⟨⟨.inl ⟨_, _, _, rfl, fun _ => rfl, .bool true, ?_, fun _ => ⟨List.nodup_nil, fun _ h => nomatch h⟩⟩, fun b o e => k' b o e, rfl, hg⟩, ?_⟩
    · exact postW_of (by wrow_shape) (by wtm_val) rfl
    · refine ⟨?_, ?_, trivial⟩
      · rcases T2.1 with h | ⟨c, h, _⟩ <;> exact ⟨_, h⟩
      · rcases T2.2 with h | ⟨c, h, _⟩ <;> exact ⟨_, h⟩
theorem holds : PySem.Challenge.rw_ul0019_01.Holds := head fun d kwd e => by
  obtain ⟨rfl, rfl⟩ := lawDef_of e
  exact walkO
end Mine
set_option maxRecDepth 100000 in
theorem PySem.Challenge.cw_ul0019_01_holds : PySem.Challenge.rw_ul0019_01.Holds :=
  Mine.holds
