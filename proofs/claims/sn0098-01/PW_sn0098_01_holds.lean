import PyProof.Rows.All
import Wide.All
import OpenK.AllK
import Wide.FinOn
import KE.BitLaws
import Lean
import PySem.Challenge.RW_sn0098_01
set_option Elab.async false
set_option compiler.extract_closed false
set_option maxRecDepth 100000
set_option maxHeartbeats 0
set_option rowWalk.seconds 0
set_option linter.all false
open PySem PySem.W PyProof.Rows PySem.Spec
namespace Mine
def qv : Program := view PySem.Challenge.pw_sn0098_01 [0,1,4,5,6,7,8,9,10,11,12,17,19,20,21,23,24,25,26,27,28,29,30,31,32,33]
abbrev lse : List Str := [Str.ofString "compute_powers", Str.ofString "insort_right", Str.ofString "bisect_right", Str.ofString "_name_disallowed_re", Str.ofString "_value_disallowed_re"]
noncomputable def hd.heap_39 : Params → Frag := fun P =>
  (fun z0 z1 z2 a46 b46 c46 n3 d3 e3 f3 g3 i3 p3 a53 b53 c53 n4 d4 e4 f4 g4 i4 p4 a60 b60 c60 n5 d5 e5 f5 g5 i5 p5 z6 a67 b67 c67 n7 d7 e7 f7 g7 i7 p7 z8 a81 b81 c81 n9 d9 e9 f9 g9 i9 p9 a88 b88 c88 n10 d10 e10 f10 g10 i10 p10 a95 b95 c95 n11 d11 e11 f11 g11 i11 p11 a102 b102 c102 n12 d12 e12 f12 g12 i12 p12 z13 a111 b111 c111 n14 d14 e14 f14 g14 i14 p14 a120 b120 c120 n15 d15 e15 f15 g15 i15 p15 z16 a134 b134 c134 n134_ d134_ e134_ f134_ g134_ i134_ p134_ a141 b141 c141 n141_ d141_ e141_ f141_ g141_ i141_ p141_ a148 b148 c148 n148_ d148_ e148_ f148_ g148_ i148_ p148_ a155 b155 c155 n155_ d155_ e155_ f155_ g155_ i155_ p155_ t17 q17_0 q17_1 q17_2 q17_3 q17_4 q17_5 q17_6 q17_7 q17_8 q17_9 z18 z19 z20 a187 b187 c187 n187_ d187_ e187_ f187_ g187_ i187_ p187_ a194 b194 c194 n194_ d194_ e194_ f194_ g194_ i194_ p194_ z21_2 z21_3 a213 b213 c213 n213_ d213_ e213_ f213_ g213_ i213_ p213_ z21_5 z21_6 z21_7 z21_8 z21_9 a252 b252 c252 n252_ d252_ e252_ f252_ g252_ i252_ p252_ a259 b259 c259 n259_ d259_ e259_ f259_ g259_ i259_ p259_ t21 q21_0 q21_1 q21_2 q21_3 q21_4 q21_5 q21_6 q21_7 q21_8 q21_9 z22 a306 b306 c306 n23 d23 e23 f23 g23 i23 p23 a311 b311 c311 n24 d24 e24 f24 g24 i24 p24 a318 b318 c318 n25 d25 e25 f25 g25 i25 p25 a325 b325 c325 n26 d26 e26 f26 g26 i26 p26 a332 b332 c332 n27 d27 e27 f27 g27 i27 p27 a337 b337 c337 n28 d28 e28 f28 g28 i28 p28 a342 b342 c342 n29 d29 e29 f29 g29 i29 p29 a347 b347 c347 n30 d30 e30 f30 g30 i30 p30 a354 b354 c354 n31 d31 e31 f31 g31 i31 p31 a361 b361 c361 n32 d32 e32 f32 g32 i32 p32 a368 b368 c368 n33 d33 e33 f33 g33 i33 p33 tz (_ : PySem.Challenge.pw_sn0098_01.main.body = z0 :: z1 :: z2 :: (.FunctionDef n3 a46 b46 d3 e3 f3 c46 g3 i3 p3) :: (.FunctionDef n4 a53 b53 d4 e4 f4 c53 g4 i4 p4) :: (.FunctionDef n5 a60 b60 d5 e5 f5 c60 g5 i5 p5) :: z6 :: (.FunctionDef n7 a67 b67 d7 e7 f7 c67 g7 i7 p7) :: z8 :: (.FunctionDef n9 a81 b81 d9 e9 f9 c81 g9 i9 p9) :: (.FunctionDef n10 a88 b88 d10 e10 f10 c88 g10 i10 p10) :: (.FunctionDef n11 a95 b95 d11 e11 f11 c95 g11 i11 p11) :: (.FunctionDef n12 a102 b102 d12 e12 f12 c102 g12 i12 p12) :: z13 :: (.FunctionDef n14 a111 b111 d14 e14 f14 c111 g14 i14 p14) :: (.FunctionDef n15 a120 b120 d15 e15 f15 c120 g15 i15 p15) :: z16 :: (.ClassDef q17_0 q17_1 q17_2 (.FunctionDef n134_ a134 b134 d134_ e134_ f134_ c134 g134_ i134_ p134_ :: .FunctionDef n141_ a141 b141 d141_ e141_ f141_ c141 g141_ i141_ p141_ :: .FunctionDef n148_ a148 b148 d148_ e148_ f148_ c148 g148_ i148_ p148_ :: .FunctionDef n155_ a155 b155 d155_ e155_ f155_ c155 g155_ i155_ p155_ :: t17) q17_3 q17_4 q17_5 q17_6 q17_7 q17_8 q17_9) :: z18 :: z19 :: z20 :: (.ClassDef q21_0 q21_1 q21_2 (.FunctionDef n187_ a187 b187 d187_ e187_ f187_ c187 g187_ i187_ p187_ :: .FunctionDef n194_ a194 b194 d194_ e194_ f194_ c194 g194_ i194_ p194_ :: z21_2 :: z21_3 :: .FunctionDef n213_ a213 b213 d213_ e213_ f213_ c213 g213_ i213_ p213_ :: z21_5 :: z21_6 :: z21_7 :: z21_8 :: z21_9 :: .FunctionDef n252_ a252 b252 d252_ e252_ f252_ c252 g252_ i252_ p252_ :: .FunctionDef n259_ a259 b259 d259_ e259_ f259_ c259 g259_ i259_ p259_ :: t21) q21_3 q21_4 q21_5 q21_6 q21_7 q21_8 q21_9) :: z22 :: (.FunctionDef n23 a306 b306 d23 e23 f23 c306 g23 i23 p23) :: (.FunctionDef n24 a311 b311 d24 e24 f24 c311 g24 i24 p24) :: (.FunctionDef n25 a318 b318 d25 e25 f25 c318 g25 i25 p25) :: (.FunctionDef n26 a325 b325 d26 e26 f26 c325 g26 i26 p26) :: (.FunctionDef n27 a332 b332 d27 e27 f27 c332 g27 i27 p27) :: (.FunctionDef n28 a337 b337 d28 e28 f28 c337 g28 i28 p28) :: (.FunctionDef n29 a342 b342 d29 e29 f29 c342 g29 i29 p29) :: (.FunctionDef n30 a347 b347 d30 e30 f30 c347 g30 i30 p30) :: (.FunctionDef n31 a354 b354 d31 e31 f31 c354 g31 i31 p31) :: (.FunctionDef n32 a361 b361 d32 e32 f32 c361 g32 i32 p32) :: (.FunctionDef n33 a368 b368 d33 e33 f33 c368 g33 i33 p33) :: tz) => (
    (nat_lit 3, { cls := Value.type "dict", data := Data.dict #[{ hash := PyData.keyHash P (Str.ofString "__name__"), key := Value.str (Str.ofString "__name__") 165, val := Value.str (Str.ofString "law_sn0098_01") 716 }, { hash := PyData.keyHash P (Str.ofString "__doc__"), key := Value.str (Str.ofString "__doc__") 166, val := Value.none }, { hash := PyData.keyHash P (Str.ofString "__package__"), key := Value.str (Str.ofString "__package__") 167, val := Value.none }, { hash := PyData.keyHash P (Str.ofString "__loader__"), key := Value.str (Str.ofString "__loader__") 168, val := Value.builtin "__main__.__loader__#opaque" }, { hash := PyData.keyHash P (Str.ofString "__spec__"), key := Value.str (Str.ofString "__spec__") 169, val := Value.none }, { hash := PyData.keyHash P (Str.ofString "__annotations__"), key := Value.str (Str.ofString "__annotations__") 170, val := Value.ref 6 }, { hash := PyData.keyHash P (Str.ofString "__builtins__"), key := Value.str (Str.ofString "__builtins__") 171, val := Value.ref 4 }, { hash := PyData.keyHash P (Str.ofString "__file__"), key := Value.str (Str.ofString "__file__") 173, val := Value.str (Str.ofString "/claim/cut.py") 172 }, { hash := PyData.keyHash P (Str.ofString "__cached__"), key := Value.str (Str.ofString "__cached__") 174, val := Value.none }, { hash := PyData.keyHash P (Str.ofString "_sre"), key := Value.str (Str.ofString "_sre") 275, val := Value.ref 12 }, { hash := PyData.keyHash P (Str.ofString "_wall"), key := Value.str (Str.ofString "_wall") 288, val := Value.ref 38 }, { hash := PyData.keyHash P (Str.ofString "compute_powers"), key := Value.str (Str.ofString "compute_powers") 310, val := Value.ref 46 }, { hash := PyData.keyHash P (Str.ofString "_str_to_int_inner"), key := Value.str (Str.ofString "_str_to_int_inner") 321, val := Value.ref 53 }, { hash := PyData.keyHash P (Str.ofString "int_from_string"), key := Value.str (Str.ofString "int_from_string") 328, val := Value.ref 60 }, { hash := PyData.keyHash P (Str.ofString "_DIV_LIMIT"), key := Value.str (Str.ofString "_DIV_LIMIT") 330, val := Value.int 4000 329 }, { hash := PyData.keyHash P (Str.ofString "_div2n1n"), key := Value.str (Str.ofString "_div2n1n") 347, val := Value.ref 67 }, { hash := PyData.keyHash P (Str.ofString "_div3n2n"), key := Value.str (Str.ofString "_div3n2n") 361, val := Value.ref 74 }, { hash := PyData.keyHash P (Str.ofString "_int2digits"), key := Value.str (Str.ofString "_int2digits") 372, val := Value.ref 81 }, { hash := PyData.keyHash P (Str.ofString "_digits2int"), key := Value.str (Str.ofString "_digits2int") 383, val := Value.ref 88 }, { hash := PyData.keyHash P (Str.ofString "_divmod_pos"), key := Value.str (Str.ofString "_divmod_pos") 398, val := Value.ref 95 }, { hash := PyData.keyHash P (Str.ofString "int_divmod"), key := Value.str (Str.ofString "int_divmod") 408, val := Value.ref 102 }, { hash := PyData.keyHash P (Str.ofString "insort_right"), key := Value.str (Str.ofString "insort_right") 423, val := Value.ref 111 }, { hash := PyData.keyHash P (Str.ofString "bisect_right"), key := Value.str (Str.ofString "bisect_right") 437, val := Value.ref 120 }, { hash := PyData.keyHash P (Str.ofString "_netrclex"), key := Value.str (Str.ofString "_netrclex") 497, val := Value.ref 158 }, { hash := PyData.keyHash P (Str.ofString "_name_disallowed_re"), key := Value.str (Str.ofString "_name_disallowed_re") 525, val := Value.ref 167 }, { hash := PyData.keyHash P (Str.ofString "_value_disallowed_re"), key := Value.str (Str.ofString "_value_disallowed_re") 559, val := Value.ref 172 }, { hash := PyData.keyHash P (Str.ofString "Headers"), key := Value.str (Str.ofString "Headers") 715, val := Value.ref 295 }, { hash := PyData.keyHash P (Str.ofString "_law_machine"), key := Value.str (Str.ofString "_law_machine") 728, val := Value.ref 306 }, { hash := PyData.keyHash P (Str.ofString "_law_cells"), key := Value.str (Str.ofString "_law_cells") 734, val := Value.ref 311 }, { hash := PyData.keyHash P (Str.ofString "_law_coins"), key := Value.str (Str.ofString "_law_coins") 743, val := Value.ref 318 }, { hash := PyData.keyHash P (Str.ofString "_law_text"), key := Value.str (Str.ofString "_law_text") 756, val := Value.ref 325 }, { hash := PyData.keyHash P (Str.ofString "_law_told"), key := Value.str (Str.ofString "_law_told") 768, val := Value.ref 332 }, { hash := PyData.keyHash P (Str.ofString "_law_pieces"), key := Value.str (Str.ofString "_law_pieces") 774, val := Value.ref 337 }, { hash := PyData.keyHash P (Str.ofString "_law_doubts"), key := Value.str (Str.ofString "_law_doubts") 780, val := Value.ref 342 }, { hash := PyData.keyHash P (Str.ofString "_law_least"), key := Value.str (Str.ofString "_law_least") 786, val := Value.ref 347 }, { hash := PyData.keyHash P (Str.ofString "_law_one_sum_decides"), key := Value.str (Str.ofString "_law_one_sum_decides") 799, val := Value.ref 354 }, { hash := PyData.keyHash P (Str.ofString "_law_ill"), key := Value.str (Str.ofString "_law_ill") 812, val := Value.ref 361 }, { hash := PyData.keyHash P (Str.ofString "law"), key := Value.str (Str.ofString "law") 826, val := Value.ref 368 }] 38 }) ::
    (nat_lit 39, { cls := Value.type "tuple", data := Data.seq #[Value.bool false] }) ::
    (nat_lit 45, { cls := Value.type "code", data := Data.fields #[Value.str (Str.ofString "compute_powers") 291, Value.str (Str.ofString "compute_powers") 292, Value.str (Str.ofString "/claim/cut.py") 293, Value.int 6 0, Value.int 4 0, Value.int 0 0, Value.int 0 0, Value.int 3 0, Value.ref 40, Value.bool true, Value.int 276 0, Value.ref 41, Value.none, Value.ref 42, Value.ref 43, Value.ref 44, Value.int 308 0, Value.int 6 0, Value.str (Str.ofString "/claim/cut.py") 309] }) ::
    (nat_lit 46, { cls := .type "function", data := .func { name := Str.ofString "compute_powers", qualname := Str.ofString "compute_powers", params := a46, body := .stmts b46, scope := c46, globals := 3, closure := [], defaults := Value.ref 39, kwdefaults := Value.none, pyModule := Value.str (Str.ofString "cpy313._pylong") 289, code := Value.ref 45 } }) ::
    (nat_lit 52, { cls := Value.type "code", data := Data.fields #[Value.str (Str.ofString "_str_to_int_inner") 311, Value.str (Str.ofString "_str_to_int_inner") 312, Value.str (Str.ofString "/claim/cut.py") 313, Value.int 47 0, Value.int 1 0, Value.int 0 0, Value.int 0 0, Value.int 3 0, Value.ref 47, Value.bool true, Value.int 276 0, Value.ref 48, Value.none, Value.ref 49, Value.ref 50, Value.ref 51, Value.int 319 0, Value.int 47 0, Value.str (Str.ofString "/claim/cut.py") 320] }) ::
    (nat_lit 53, { cls := .type "function", data := .func { name := Str.ofString "_str_to_int_inner", qualname := Str.ofString "_str_to_int_inner", params := a53, body := .stmts b53, scope := c53, globals := 3, closure := [], defaults := Value.none, kwdefaults := Value.none, pyModule := Value.str (Str.ofString "cpy313._pylong") 289, code := Value.ref 52 } }) ::
    (nat_lit 59, { cls := Value.type "code", data := Data.fields #[Value.str (Str.ofString "int_from_string") 322, Value.str (Str.ofString "int_from_string") 323, Value.str (Str.ofString "/claim/cut.py") 324, Value.int 57 0, Value.int 1 0, Value.int 0 0, Value.int 0 0, Value.int 3 0, Value.ref 54, Value.bool true, Value.int 276 0, Value.ref 55, Value.none, Value.ref 56, Value.ref 57, Value.ref 58, Value.int 326 0, Value.int 57 0, Value.str (Str.ofString "/claim/cut.py") 327] }) ::
    (nat_lit 60, { cls := .type "function", data := .func { name := Str.ofString "int_from_string", qualname := Str.ofString "int_from_string", params := a60, body := .stmts b60, scope := c60, globals := 3, closure := [], defaults := Value.none, kwdefaults := Value.none, pyModule := Value.str (Str.ofString "cpy313._pylong") 289, code := Value.ref 59 } }) ::
    (nat_lit 66, { cls := Value.type "code", data := Data.fields #[Value.str (Str.ofString "_div2n1n") 331, Value.str (Str.ofString "_div2n1n") 332, Value.str (Str.ofString "/claim/cut.py") 333, Value.int 61 0, Value.int 3 0, Value.int 0 0, Value.int 0 0, Value.int 3 0, Value.ref 61, Value.bool true, Value.int 276 0, Value.ref 62, Value.none, Value.ref 63, Value.ref 64, Value.ref 65, Value.int 345 0, Value.int 61 0, Value.str (Str.ofString "/claim/cut.py") 346] }) ::
    (nat_lit 67, { cls := .type "function", data := .func { name := Str.ofString "_div2n1n", qualname := Str.ofString "_div2n1n", params := a67, body := .stmts b67, scope := c67, globals := 3, closure := [], defaults := Value.none, kwdefaults := Value.none, pyModule := Value.str (Str.ofString "cpy313._pylong") 289, code := Value.ref 66 } }) ::
    (nat_lit 80, { cls := Value.type "code", data := Data.fields #[Value.str (Str.ofString "_int2digits") 362, Value.str (Str.ofString "_int2digits") 363, Value.str (Str.ofString "/claim/cut.py") 364, Value.int 87 0, Value.int 2 0, Value.int 0 0, Value.int 0 0, Value.int 3 0, Value.ref 75, Value.bool true, Value.int 276 0, Value.ref 76, Value.none, Value.ref 77, Value.ref 78, Value.ref 79, Value.int 370 0, Value.int 87 0, Value.str (Str.ofString "/claim/cut.py") 371] }) ::
    (nat_lit 81, { cls := .type "function", data := .func { name := Str.ofString "_int2digits", qualname := Str.ofString "_int2digits", params := a81, body := .stmts b81, scope := c81, globals := 3, closure := [], defaults := Value.none, kwdefaults := Value.none, pyModule := Value.str (Str.ofString "cpy313._pylong") 289, code := Value.ref 80 } }) ::
    (nat_lit 87, { cls := Value.type "code", data := Data.fields #[Value.str (Str.ofString "_digits2int") 373, Value.str (Str.ofString "_digits2int") 374, Value.str (Str.ofString "/claim/cut.py") 375, Value.int 103 0, Value.int 2 0, Value.int 0 0, Value.int 0 0, Value.int 3 0, Value.ref 82, Value.bool true, Value.int 276 0, Value.ref 83, Value.none, Value.ref 84, Value.ref 85, Value.ref 86, Value.int 381 0, Value.int 103 0, Value.str (Str.ofString "/claim/cut.py") 382] }) ::
    (nat_lit 88, { cls := .type "function", data := .func { name := Str.ofString "_digits2int", qualname := Str.ofString "_digits2int", params := a88, body := .stmts b88, scope := c88, globals := 3, closure := [], defaults := Value.none, kwdefaults := Value.none, pyModule := Value.str (Str.ofString "cpy313._pylong") 289, code := Value.ref 87 } }) ::
    (nat_lit 94, { cls := Value.type "code", data := Data.fields #[Value.str (Str.ofString "_divmod_pos") 384, Value.str (Str.ofString "_divmod_pos") 385, Value.str (Str.ofString "/claim/cut.py") 386, Value.int 112 0, Value.int 2 0, Value.int 0 0, Value.int 0 0, Value.int 3 0, Value.ref 89, Value.bool true, Value.int 276 0, Value.ref 90, Value.none, Value.ref 91, Value.ref 92, Value.ref 93, Value.int 396 0, Value.int 112 0, Value.str (Str.ofString "/claim/cut.py") 397] }) ::
    (nat_lit 95, { cls := .type "function", data := .func { name := Str.ofString "_divmod_pos", qualname := Str.ofString "_divmod_pos", params := a95, body := .stmts b95, scope := c95, globals := 3, closure := [], defaults := Value.none, kwdefaults := Value.none, pyModule := Value.str (Str.ofString "cpy313._pylong") 289, code := Value.ref 94 } }) ::
    (nat_lit 101, { cls := Value.type "code", data := Data.fields #[Value.str (Str.ofString "int_divmod") 399, Value.str (Str.ofString "int_divmod") 400, Value.str (Str.ofString "/claim/cut.py") 401, Value.int 123 0, Value.int 2 0, Value.int 0 0, Value.int 0 0, Value.int 3 0, Value.ref 96, Value.bool true, Value.int 276 0, Value.ref 97, Value.none, Value.ref 98, Value.ref 99, Value.ref 100, Value.int 406 0, Value.int 123 0, Value.str (Str.ofString "/claim/cut.py") 407] }) ::
    (nat_lit 102, { cls := .type "function", data := .func { name := Str.ofString "int_divmod", qualname := Str.ofString "int_divmod", params := a102, body := .stmts b102, scope := c102, globals := 3, closure := [], defaults := Value.none, kwdefaults := Value.none, pyModule := Value.str (Str.ofString "cpy313._pylong") 289, code := Value.ref 101 } }) ::
    (nat_lit 103, { cls := Value.type "tuple", data := Data.seq #[Value.int 0 411, Value.none] }) ::
    (nat_lit 104, { cls := Value.type "dict", data := Data.dict #[{ hash := PyData.keyHash P (Str.ofString "key"), key := Value.str (Str.ofString "key") 412, val := Value.none }] 1 }) ::
    (nat_lit 110, { cls := Value.type "code", data := Data.fields #[Value.str (Str.ofString "insort_right") 413, Value.str (Str.ofString "insort_right") 414, Value.str (Str.ofString "/claim/cut.py") 415, Value.int 135 0, Value.int 4 0, Value.int 0 0, Value.int 1 0, Value.int 3 0, Value.ref 105, Value.bool true, Value.int 276 0, Value.ref 106, Value.none, Value.ref 107, Value.ref 108, Value.ref 109, Value.int 421 0, Value.int 135 0, Value.str (Str.ofString "/claim/cut.py") 422] }) ::
    (nat_lit 111, { cls := .type "function", data := .func { name := Str.ofString "insort_right", qualname := Str.ofString "insort_right", params := a111, body := .stmts b111, scope := c111, globals := 3, closure := [], defaults := Value.ref 103, kwdefaults := Value.ref 104, pyModule := Value.str (Str.ofString "cpy313.bisect") 409, code := Value.ref 110 } }) ::
    (nat_lit 112, { cls := Value.type "tuple", data := Data.seq #[Value.int 0 424, Value.none] }) ::
    (nat_lit 113, { cls := Value.type "dict", data := Data.dict #[{ hash := PyData.keyHash P (Str.ofString "key"), key := Value.str (Str.ofString "key") 425, val := Value.none }] 1 }) ::
    (nat_lit 119, { cls := Value.type "code", data := Data.fields #[Value.str (Str.ofString "bisect_right") 426, Value.str (Str.ofString "bisect_right") 427, Value.str (Str.ofString "/claim/cut.py") 428, Value.int 141 0, Value.int 4 0, Value.int 0 0, Value.int 1 0, Value.int 3 0, Value.ref 114, Value.bool true, Value.int 276 0, Value.ref 115, Value.none, Value.ref 116, Value.ref 117, Value.ref 118, Value.int 435 0, Value.int 141 0, Value.str (Str.ofString "/claim/cut.py") 436] }) ::
    (nat_lit 120, { cls := .type "function", data := .func { name := Str.ofString "bisect_right", qualname := Str.ofString "bisect_right", params := a120, body := .stmts b120, scope := c120, globals := 3, closure := [], defaults := Value.ref 112, kwdefaults := Value.ref 113, pyModule := Value.str (Str.ofString "cpy313.bisect") 409, code := Value.ref 119 } }) ::
    (nat_lit 133, { cls := Value.type "code", data := Data.fields #[Value.str (Str.ofString "__init__") 452, Value.str (Str.ofString "_netrclex.__init__") 453, Value.str (Str.ofString "/claim/cut.py") 454, Value.int 164 0, Value.int 2 0, Value.int 0 0, Value.int 0 0, Value.int 3 0, Value.ref 128, Value.bool true, Value.int 276 0, Value.ref 129, Value.none, Value.ref 130, Value.ref 131, Value.ref 132, Value.int 457 0, Value.int 164 0, Value.str (Str.ofString "/claim/cut.py") 458] }) ::
    (nat_lit 134, { cls := .type "function", data := .func { name := Str.ofString "__init__", qualname := Str.ofString "_netrclex.__init__", params := a134, body := .stmts b134, scope := c134, globals := 3, closure := [], defaults := Value.none, kwdefaults := Value.none, pyModule := Value.str (Str.ofString "cpy313.netrc") 438, code := Value.ref 133 } }) ::
    (nat_lit 140, { cls := Value.type "code", data := Data.fields #[Value.str (Str.ofString "_read_char") 460, Value.str (Str.ofString "_netrclex._read_char") 461, Value.str (Str.ofString "/claim/cut.py") 462, Value.int 170 0, Value.int 1 0, Value.int 0 0, Value.int 0 0, Value.int 3 0, Value.ref 135, Value.bool true, Value.int 276 0, Value.ref 136, Value.none, Value.ref 137, Value.ref 138, Value.ref 139, Value.int 465 0, Value.int 170 0, Value.str (Str.ofString "/claim/cut.py") 466] }) ::
    (nat_lit 141, { cls := .type "function", data := .func { name := Str.ofString "_read_char", qualname := Str.ofString "_netrclex._read_char", params := a141, body := .stmts b141, scope := c141, globals := 3, closure := [], defaults := Value.none, kwdefaults := Value.none, pyModule := Value.str (Str.ofString "cpy313.netrc") 438, code := Value.ref 140 } }) ::
    (nat_lit 147, { cls := Value.type "code", data := Data.fields #[Value.str (Str.ofString "get_token") 468, Value.str (Str.ofString "_netrclex.get_token") 469, Value.str (Str.ofString "/claim/cut.py") 470, Value.int 176 0, Value.int 1 0, Value.int 0 0, Value.int 0 0, Value.int 3 0, Value.ref 142, Value.bool true, Value.int 276 0, Value.ref 143, Value.none, Value.ref 144, Value.ref 145, Value.ref 146, Value.int 475 0, Value.int 176 0, Value.str (Str.ofString "/claim/cut.py") 476] }) ::
    (nat_lit 148, { cls := .type "function", data := .func { name := Str.ofString "get_token", qualname := Str.ofString "_netrclex.get_token", params := a148, body := .stmts b148, scope := c148, globals := 3, closure := [], defaults := Value.none, kwdefaults := Value.none, pyModule := Value.str (Str.ofString "cpy313.netrc") 438, code := Value.ref 147 } }) ::
    (nat_lit 154, { cls := Value.type "code", data := Data.fields #[Value.str (Str.ofString "push_token") 478, Value.str (Str.ofString "_netrclex.push_token") 479, Value.str (Str.ofString "/claim/cut.py") 480, Value.int 203 0, Value.int 2 0, Value.int 0 0, Value.int 0 0, Value.int 3 0, Value.ref 149, Value.bool true, Value.int 276 0, Value.ref 150, Value.none, Value.ref 151, Value.ref 152, Value.ref 153, Value.int 483 0, Value.int 203 0, Value.str (Str.ofString "/claim/cut.py") 484] }) ::
    (nat_lit 155, { cls := .type "function", data := .func { name := Str.ofString "push_token", qualname := Str.ofString "_netrclex.push_token", params := a155, body := .stmts b155, scope := c155, globals := 3, closure := [], defaults := Value.none, kwdefaults := Value.none, pyModule := Value.str (Str.ofString "cpy313.netrc") 438, code := Value.ref 154 } }) ::
    (nat_lit 157, { cls := Value.type "dict", data := Data.dict #[{ hash := PyData.keyHash P (Str.ofString "__module__"), key := Value.str (Str.ofString "__module__") 447, val := Value.str (Str.ofString "cpy313.netrc") 438 }, { hash := PyData.keyHash P (Str.ofString "__firstlineno__"), key := Value.str (Str.ofString "__firstlineno__") 451, val := Value.int 162 450 }, { hash := PyData.keyHash P (Str.ofString "__init__"), key := Value.str (Str.ofString "__init__") 459, val := Value.ref 134 }, { hash := PyData.keyHash P (Str.ofString "_read_char"), key := Value.str (Str.ofString "_read_char") 467, val := Value.ref 141 }, { hash := PyData.keyHash P (Str.ofString "get_token"), key := Value.str (Str.ofString "get_token") 477, val := Value.ref 148 }, { hash := PyData.keyHash P (Str.ofString "push_token"), key := Value.str (Str.ofString "push_token") 485, val := Value.ref 155 }, { hash := PyData.keyHash P (Str.ofString "__static_attributes__"), key := Value.str (Str.ofString "__static_attributes__") 490, val := Value.ref 156 }, { hash := PyData.keyHash P (Str.ofString "__dict__"), key := Value.str (Str.ofString "__dict__") 492, val := Value.ref 159 }, { hash := PyData.keyHash P (Str.ofString "__weakref__"), key := Value.str (Str.ofString "__weakref__") 494, val := Value.ref 160 }, { hash := PyData.keyHash P (Str.ofString "__doc__"), key := Value.str (Str.ofString "__doc__") 495, val := Value.none }] 4 }) ::
    (nat_lit 158, { cls := Value.type "type", data := Data.cls { name := Str.ofString "_netrclex", bases := [Value.type "object"], mro := [Value.ref 158, Value.type "object"], ns := 157, qualname := Str.ofString "_netrclex" }, slots := #[none, none, some (Value.str (Str.ofString "_netrclex") 440), some (Value.str (Str.ofString "_netrclex") 448), some (Value.builtin "object.__new__"), some (Value.bool true)] }) ::
    (nat_lit 166, { cls := Value.type "tuple", data := Data.seq #[Value.int 14 0, Value.int 10 0, Value.int 4 0, Value.int 1 0, Value.int 1 0, Value.int 22 0, Value.int 0 0, Value.int 31 0, Value.int 16 0, Value.int 127 0, Value.int 0 0, Value.int 13 0, Value.int 7 0, Value.int 22 0, Value.int 0 0, Value.int 31 0, Value.int 16 0, Value.int 127 0, Value.int 0 0, Value.int 1 0] }) ::
    (nat_lit 167, { cls := Value.type "re.Pattern", data := Data.fields #[Value.str (Str.ofString "[\\x00-\\x1F\\x7F]") 501, Value.int 32 524, Value.int 0 0, Value.none, Value.none, Value.ref 166, Value.int 0 0] }) ::
    (nat_lit 171, { cls := Value.type "tuple", data := Data.seq #[Value.int 14 0, Value.int 14 0, Value.int 4 0, Value.int 1 0, Value.int 1 0, Value.int 9 0, Value.int 4294966783 0, Value.int 0 0, Value.int 0 0, Value.int 2147483648 0, Value.int 0 0, Value.int 0 0, Value.int 0 0, Value.int 0 0, Value.int 0 0, Value.int 13 0, Value.int 11 0, Value.int 9 0, Value.int 4294966783 0, Value.int 0 0, Value.int 0 0, Value.int 2147483648 0, Value.int 0 0, Value.int 0 0, Value.int 0 0, Value.int 0 0, Value.int 0 0, Value.int 1 0] }) ::
    (nat_lit 172, { cls := Value.type "re.Pattern", data := Data.fields #[Value.str (Str.ofString "[\\x00-\\x08\\x0A-\\x1F\\x7F]") 527, Value.int 32 558, Value.int 0 0, Value.none, Value.none, Value.ref 171, Value.int 0 0] }) ::
    (nat_lit 180, { cls := Value.type "tuple", data := Data.seq #[Value.none] }) ::
    (nat_lit 186, { cls := Value.type "code", data := Data.fields #[Value.str (Str.ofString "__init__") 572, Value.str (Str.ofString "Headers.__init__") 573, Value.str (Str.ofString "/claim/cut.py") 574, Value.int 210 0, Value.int 2 0, Value.int 0 0, Value.int 0 0, Value.int 3 0, Value.ref 181, Value.bool true, Value.int 276 0, Value.ref 182, Value.none, Value.ref 183, Value.ref 184, Value.ref 185, Value.int 579 0, Value.int 210 0, Value.str (Str.ofString "/claim/cut.py") 580] }) ::
    (nat_lit 187, { cls := .type "function", data := .func { name := Str.ofString "__init__", qualname := Str.ofString "Headers.__init__", params := a187, body := .stmts b187, scope := c187, globals := 3, closure := [], defaults := Value.ref 180, kwdefaults := Value.none, pyModule := Value.str (Str.ofString "cpy313.wsgiref.headers") 498, code := Value.ref 186 } }) ::
    (nat_lit 193, { cls := Value.type "code", data := Data.fields #[Value.str (Str.ofString "_convert_string_type") 582, Value.str (Str.ofString "Headers._convert_string_type") 583, Value.str (Str.ofString "/claim/cut.py") 584, Value.int 220 0, Value.int 2 0, Value.int 0 0, Value.int 1 0, Value.int 3 0, Value.ref 188, Value.bool true, Value.int 276 0, Value.ref 189, Value.none, Value.ref 190, Value.ref 191, Value.ref 192, Value.int 589 0, Value.int 220 0, Value.str (Str.ofString "/claim/cut.py") 590] }) ::
    (nat_lit 194, { cls := .type "function", data := .func { name := Str.ofString "_convert_string_type", qualname := Str.ofString "Headers._convert_string_type", params := a194, body := .stmts b194, scope := c194, globals := 3, closure := [], defaults := Value.none, kwdefaults := Value.none, pyModule := Value.str (Str.ofString "cpy313.wsgiref.headers") 498, code := Value.ref 193 } }) ::
    (nat_lit 212, { cls := Value.type "code", data := Data.fields #[Value.str (Str.ofString "__delitem__") 608, Value.str (Str.ofString "Headers.__delitem__") 609, Value.str (Str.ofString "/claim/cut.py") 610, Value.int 235 0, Value.int 2 0, Value.int 0 0, Value.int 0 0, Value.int 3 0, Value.ref 209, Value.bool true, Value.int 276 0, Value.ref 210, Value.none, Value.none, Value.none, Value.ref 211, Value.int 611 0, Value.int 235 0, Value.str (Str.ofString "/claim/cut.py") 612] }) ::
    (nat_lit 213, { cls := .type "function", data := .func { name := Str.ofString "__delitem__", qualname := Str.ofString "Headers.__delitem__", params := a213, body := .stmts b213, scope := c213, globals := 3, closure := [], defaults := Value.none, kwdefaults := Value.none, pyModule := Value.str (Str.ofString "cpy313.wsgiref.headers") 498, code := Value.ref 212 } }) ::
    (nat_lit 251, { cls := Value.type "code", data := Data.fields #[Value.str (Str.ofString "values") 655, Value.str (Str.ofString "Headers.values") 656, Value.str (Str.ofString "/claim/cut.py") 657, Value.int 258 0, Value.int 1 0, Value.int 0 0, Value.int 0 0, Value.int 3 0, Value.ref 248, Value.bool true, Value.int 276 0, Value.ref 249, Value.none, Value.none, Value.none, Value.ref 250, Value.int 658 0, Value.int 258 0, Value.str (Str.ofString "/claim/cut.py") 659] }) ::
    (nat_lit 252, { cls := .type "function", data := .func { name := Str.ofString "values", qualname := Str.ofString "Headers.values", params := a252, body := .stmts b252, scope := c252, globals := 3, closure := [], defaults := Value.none, kwdefaults := Value.none, pyModule := Value.str (Str.ofString "cpy313.wsgiref.headers") 498, code := Value.ref 251 } }) ::
    (nat_lit 258, { cls := Value.type "code", data := Data.fields #[Value.str (Str.ofString "items") 661, Value.str (Str.ofString "Headers.items") 662, Value.str (Str.ofString "/claim/cut.py") 663, Value.int 261 0, Value.int 1 0, Value.int 0 0, Value.int 0 0, Value.int 3 0, Value.ref 253, Value.bool true, Value.int 276 0, Value.ref 254, Value.none, Value.ref 255, Value.ref 256, Value.ref 257, Value.int 665 0, Value.int 261 0, Value.str (Str.ofString "/claim/cut.py") 666] }) ::
    (nat_lit 259, { cls := .type "function", data := .func { name := Str.ofString "items", qualname := Str.ofString "Headers.items", params := a259, body := .stmts b259, scope := c259, globals := 3, closure := [], defaults := Value.none, kwdefaults := Value.none, pyModule := Value.str (Str.ofString "cpy313.wsgiref.headers") 498, code := Value.ref 258 } }) ::
    (nat_lit 294, { cls := Value.type "dict", data := Data.dict #[{ hash := PyData.keyHash P (Str.ofString "__module__"), key := Value.str (Str.ofString "__module__") 567, val := Value.str (Str.ofString "cpy313.wsgiref.headers") 498 }, { hash := PyData.keyHash P (Str.ofString "__firstlineno__"), key := Value.str (Str.ofString "__firstlineno__") 571, val := Value.int 208 570 }, { hash := PyData.keyHash P (Str.ofString "__init__"), key := Value.str (Str.ofString "__init__") 581, val := Value.ref 187 }, { hash := PyData.keyHash P (Str.ofString "_convert_string_type"), key := Value.str (Str.ofString "_convert_string_type") 591, val := Value.ref 194 }, { hash := PyData.keyHash P (Str.ofString "__len__"), key := Value.str (Str.ofString "__len__") 598, val := Value.ref 201 }, { hash := PyData.keyHash P (Str.ofString "__setitem__"), key := Value.str (Str.ofString "__setitem__") 607, val := Value.ref 208 }, { hash := PyData.keyHash P (Str.ofString "__delitem__"), key := Value.str (Str.ofString "__delitem__") 613, val := Value.ref 213 }, { hash := PyData.keyHash P (Str.ofString "__getitem__"), key := Value.str (Str.ofString "__getitem__") 621, val := Value.ref 220 }, { hash := PyData.keyHash P (Str.ofString "__contains__"), key := Value.str (Str.ofString "__contains__") 629, val := Value.ref 227 }, { hash := PyData.keyHash P (Str.ofString "get_all"), key := Value.str (Str.ofString "get_all") 637, val := Value.ref 234 }, { hash := PyData.keyHash P (Str.ofString "get"), key := Value.str (Str.ofString "get") 648, val := Value.ref 242 }, { hash := PyData.keyHash P (Str.ofString "keys"), key := Value.str (Str.ofString "keys") 654, val := Value.ref 247 }, { hash := PyData.keyHash P (Str.ofString "values"), key := Value.str (Str.ofString "values") 660, val := Value.ref 252 }, { hash := PyData.keyHash P (Str.ofString "items"), key := Value.str (Str.ofString "items") 667, val := Value.ref 259 }, { hash := PyData.keyHash P (Str.ofString "__repr__"), key := Value.str (Str.ofString "__repr__") 674, val := Value.ref 266 }, { hash := PyData.keyHash P (Str.ofString "__str__"), key := Value.str (Str.ofString "__str__") 680, val := Value.ref 271 }, { hash := PyData.keyHash P (Str.ofString "__bytes__"), key := Value.str (Str.ofString "__bytes__") 687, val := Value.ref 278 }, { hash := PyData.keyHash P (Str.ofString "setdefault"), key := Value.str (Str.ofString "setdefault") 696, val := Value.ref 285 }, { hash := PyData.keyHash P (Str.ofString "add_header"), key := Value.str (Str.ofString "add_header") 706, val := Value.ref 292 }, { hash := PyData.keyHash P (Str.ofString "__static_attributes__"), key := Value.str (Str.ofString "__static_attributes__") 708, val := Value.ref 293 }, { hash := PyData.keyHash P (Str.ofString "__dict__"), key := Value.str (Str.ofString "__dict__") 710, val := Value.ref 296 }, { hash := PyData.keyHash P (Str.ofString "__weakref__"), key := Value.str (Str.ofString "__weakref__") 712, val := Value.ref 297 }, { hash := PyData.keyHash P (Str.ofString "__doc__"), key := Value.str (Str.ofString "__doc__") 713, val := Value.none }] 4 }) ::
    (nat_lit 295, { cls := Value.type "type", data := Data.cls { name := Str.ofString "Headers", bases := [Value.type "object"], mro := [Value.ref 295, Value.type "object"], ns := 294, qualname := Str.ofString "Headers" }, slots := #[none, none, some (Value.str (Str.ofString "Headers") 560), some (Value.str (Str.ofString "Headers") 568), some (Value.builtin "object.__new__"), some (Value.bool true)] }) ::
    (nat_lit 305, { cls := Value.type "code", data := Data.fields #[Value.str (Str.ofString "_law_machine") 718, Value.str (Str.ofString "_law_machine") 719, Value.str (Str.ofString "/claim/cut.py") 720, Value.int 279 0, Value.int 1 0, Value.int 0 0, Value.int 0 0, Value.int 3 0, Value.ref 300, Value.bool true, Value.int 276 0, Value.ref 301, Value.none, Value.ref 302, Value.ref 303, Value.ref 304, Value.int 726 0, Value.int 279 0, Value.str (Str.ofString "/claim/cut.py") 727] }) ::
    (nat_lit 306, { cls := .type "function", data := .func { name := Str.ofString "_law_machine", qualname := Str.ofString "_law_machine", params := a306, body := .stmts b306, scope := c306, globals := 3, closure := [], defaults := Value.none, kwdefaults := Value.none, pyModule := Value.str (Str.ofString "law_sn0098_01") 716, code := Value.ref 305 } }) ::
    (nat_lit 310, { cls := Value.type "code", data := Data.fields #[Value.str (Str.ofString "_law_cells") 729, Value.str (Str.ofString "_law_cells") 730, Value.str (Str.ofString "/claim/cut.py") 731, Value.int 289 0, Value.int 1 0, Value.int 0 0, Value.int 0 0, Value.int 3 0, Value.ref 307, Value.bool true, Value.int 276 0, Value.ref 308, Value.none, Value.none, Value.none, Value.ref 309, Value.int 732 0, Value.int 289 0, Value.str (Str.ofString "/claim/cut.py") 733] }) ::
    (nat_lit 311, { cls := .type "function", data := .func { name := Str.ofString "_law_cells", qualname := Str.ofString "_law_cells", params := a311, body := .stmts b311, scope := c311, globals := 3, closure := [], defaults := Value.none, kwdefaults := Value.none, pyModule := Value.str (Str.ofString "law_sn0098_01") 716, code := Value.ref 310 } }) ::
    (nat_lit 317, { cls := Value.type "code", data := Data.fields #[Value.str (Str.ofString "_law_coins") 735, Value.str (Str.ofString "_law_coins") 736, Value.str (Str.ofString "/claim/cut.py") 737, Value.int 291 0, Value.int 1 0, Value.int 0 0, Value.int 0 0, Value.int 3 0, Value.ref 312, Value.bool true, Value.int 276 0, Value.ref 313, Value.none, Value.ref 314, Value.ref 315, Value.ref 316, Value.int 741 0, Value.int 291 0, Value.str (Str.ofString "/claim/cut.py") 742] }) ::
    (nat_lit 318, { cls := .type "function", data := .func { name := Str.ofString "_law_coins", qualname := Str.ofString "_law_coins", params := a318, body := .stmts b318, scope := c318, globals := 3, closure := [], defaults := Value.none, kwdefaults := Value.none, pyModule := Value.str (Str.ofString "law_sn0098_01") 716, code := Value.ref 317 } }) ::
    (nat_lit 324, { cls := Value.type "code", data := Data.fields #[Value.str (Str.ofString "_law_text") 744, Value.str (Str.ofString "_law_text") 745, Value.str (Str.ofString "/claim/cut.py") 746, Value.int 296 0, Value.int 2 0, Value.int 0 0, Value.int 0 0, Value.int 3 0, Value.ref 319, Value.bool true, Value.int 276 0, Value.ref 320, Value.none, Value.ref 321, Value.ref 322, Value.ref 323, Value.int 754 0, Value.int 296 0, Value.str (Str.ofString "/claim/cut.py") 755] }) ::
    (nat_lit 325, { cls := .type "function", data := .func { name := Str.ofString "_law_text", qualname := Str.ofString "_law_text", params := a325, body := .stmts b325, scope := c325, globals := 3, closure := [], defaults := Value.none, kwdefaults := Value.none, pyModule := Value.str (Str.ofString "law_sn0098_01") 716, code := Value.ref 324 } }) ::
    (nat_lit 331, { cls := Value.type "code", data := Data.fields #[Value.str (Str.ofString "_law_told") 757, Value.str (Str.ofString "_law_told") 758, Value.str (Str.ofString "/claim/cut.py") 759, Value.int 308 0, Value.int 2 0, Value.int 0 0, Value.int 0 0, Value.int 3 0, Value.ref 326, Value.bool true, Value.int 276 0, Value.ref 327, Value.none, Value.ref 328, Value.ref 329, Value.ref 330, Value.int 766 0, Value.int 308 0, Value.str (Str.ofString "/claim/cut.py") 767] }) ::
    (nat_lit 332, { cls := .type "function", data := .func { name := Str.ofString "_law_told", qualname := Str.ofString "_law_told", params := a332, body := .stmts b332, scope := c332, globals := 3, closure := [], defaults := Value.none, kwdefaults := Value.none, pyModule := Value.str (Str.ofString "law_sn0098_01") 716, code := Value.ref 331 } }) ::
    (nat_lit 336, { cls := Value.type "code", data := Data.fields #[Value.str (Str.ofString "_law_pieces") 769, Value.str (Str.ofString "_law_pieces") 770, Value.str (Str.ofString "/claim/cut.py") 771, Value.int 316 0, Value.int 2 0, Value.int 0 0, Value.int 0 0, Value.int 3 0, Value.ref 333, Value.bool true, Value.int 276 0, Value.ref 334, Value.none, Value.none, Value.none, Value.ref 335, Value.int 772 0, Value.int 316 0, Value.str (Str.ofString "/claim/cut.py") 773] }) ::
    (nat_lit 337, { cls := .type "function", data := .func { name := Str.ofString "_law_pieces", qualname := Str.ofString "_law_pieces", params := a337, body := .stmts b337, scope := c337, globals := 3, closure := [], defaults := Value.none, kwdefaults := Value.none, pyModule := Value.str (Str.ofString "law_sn0098_01") 716, code := Value.ref 336 } }) ::
    (nat_lit 341, { cls := Value.type "code", data := Data.fields #[Value.str (Str.ofString "_law_doubts") 775, Value.str (Str.ofString "_law_doubts") 776, Value.str (Str.ofString "/claim/cut.py") 777, Value.int 318 0, Value.int 1 0, Value.int 0 0, Value.int 0 0, Value.int 3 0, Value.ref 338, Value.bool true, Value.int 276 0, Value.ref 339, Value.none, Value.none, Value.none, Value.ref 340, Value.int 778 0, Value.int 318 0, Value.str (Str.ofString "/claim/cut.py") 779] }) ::
    (nat_lit 342, { cls := .type "function", data := .func { name := Str.ofString "_law_doubts", qualname := Str.ofString "_law_doubts", params := a342, body := .stmts b342, scope := c342, globals := 3, closure := [], defaults := Value.none, kwdefaults := Value.none, pyModule := Value.str (Str.ofString "law_sn0098_01") 716, code := Value.ref 341 } }) ::
    (nat_lit 346, { cls := Value.type "code", data := Data.fields #[Value.str (Str.ofString "_law_least") 781, Value.str (Str.ofString "_law_least") 782, Value.str (Str.ofString "/claim/cut.py") 783, Value.int 327 0, Value.int 1 0, Value.int 0 0, Value.int 0 0, Value.int 3 0, Value.ref 343, Value.bool true, Value.int 276 0, Value.ref 344, Value.none, Value.none, Value.none, Value.ref 345, Value.int 784 0, Value.int 327 0, Value.str (Str.ofString "/claim/cut.py") 785] }) ::
    (nat_lit 347, { cls := .type "function", data := .func { name := Str.ofString "_law_least", qualname := Str.ofString "_law_least", params := a347, body := .stmts b347, scope := c347, globals := 3, closure := [], defaults := Value.none, kwdefaults := Value.none, pyModule := Value.str (Str.ofString "law_sn0098_01") 716, code := Value.ref 346 } }) ::
    (nat_lit 353, { cls := Value.type "code", data := Data.fields #[Value.str (Str.ofString "_law_one_sum_decides") 787, Value.str (Str.ofString "_law_one_sum_decides") 788, Value.str (Str.ofString "/claim/cut.py") 789, Value.int 337 0, Value.int 1 0, Value.int 0 0, Value.int 0 0, Value.int 3 0, Value.ref 348, Value.bool true, Value.int 276 0, Value.ref 349, Value.none, Value.ref 350, Value.ref 351, Value.ref 352, Value.int 797 0, Value.int 337 0, Value.str (Str.ofString "/claim/cut.py") 798] }) ::
    (nat_lit 354, { cls := .type "function", data := .func { name := Str.ofString "_law_one_sum_decides", qualname := Str.ofString "_law_one_sum_decides", params := a354, body := .stmts b354, scope := c354, globals := 3, closure := [], defaults := Value.none, kwdefaults := Value.none, pyModule := Value.str (Str.ofString "law_sn0098_01") 716, code := Value.ref 353 } }) ::
    (nat_lit 360, { cls := Value.type "code", data := Data.fields #[Value.str (Str.ofString "_law_ill") 800, Value.str (Str.ofString "_law_ill") 801, Value.str (Str.ofString "/claim/cut.py") 802, Value.int 347 0, Value.int 2 0, Value.int 0 0, Value.int 0 0, Value.int 3 0, Value.ref 355, Value.bool true, Value.int 276 0, Value.ref 356, Value.none, Value.ref 357, Value.ref 358, Value.ref 359, Value.int 810 0, Value.int 347 0, Value.str (Str.ofString "/claim/cut.py") 811] }) ::
    (nat_lit 361, { cls := .type "function", data := .func { name := Str.ofString "_law_ill", qualname := Str.ofString "_law_ill", params := a361, body := .stmts b361, scope := c361, globals := 3, closure := [], defaults := Value.none, kwdefaults := Value.none, pyModule := Value.str (Str.ofString "law_sn0098_01") 716, code := Value.ref 360 } }) ::
    (nat_lit 367, { cls := Value.type "code", data := Data.fields #[Value.str (Str.ofString "law") 813, Value.str (Str.ofString "law") 814, Value.str (Str.ofString "/claim/cut.py") 815, Value.int 357 0, Value.int 1 0, Value.int 0 0, Value.int 0 0, Value.int 3 0, Value.ref 362, Value.bool true, Value.int 276 0, Value.ref 363, Value.none, Value.ref 364, Value.ref 365, Value.ref 366, Value.int 824 0, Value.int 357 0, Value.str (Str.ofString "/claim/cut.py") 825] }) ::
    (nat_lit 368, { cls := .type "function", data := .func { name := Str.ofString "law", qualname := Str.ofString "law", params := a368, body := .stmts b368, scope := c368, globals := 3, closure := [], defaults := Value.none, kwdefaults := Value.none, pyModule := Value.str (Str.ofString "law_sn0098_01") 716, code := Value.ref 367 } }) :: [] : Frag)) _ _ _ _ _ _ _ _ _ _ _ _ _ _ _ _ _ _ _ _ _ _ _ _ _ _ _ _ _ _ _ _ _ _ _ _ _ _ _ _ _ _ _ _ _ _ _ _ _ _ _ _ _ _ _ _ _ _ _ _ _ _ _ _ _ _ _ _ _ _ _ _ _ _ _ _ _ _ _ _ _ _ _ _ _ _ _ _ _ _ _ _ _ _ _ _ _ _ _ _ _ _ _ _ _ _ _ _ _ _ _ _ _ _ _ _ _ _ _ _ _ _ _ _ _ _ _ _ _ _ _ _ _ _ _ _ _ _ _ _ _ _ _ _ _ _ _ _ _ _ _ _ _ _ _ _ _ _ _ _ _ _ _ _ _ _ _ _ _ _ _ _ _ _ _ _ _ _ _ _ _ _ _ _ _ _ _ _ _ _ _ _ _ _ _ _ _ _ _ _ _ _ _ _ _ _ _ _ _ _ _ _ _ _ _ _ _ _ _ _ _ _ _ _ _ _ _ _ _ _ _ _ _ _ _ _ _ _ _ _ _ _ _ _ _ _ _ _ _ _ _ _ _ _ _ _ _ _ _ _ _ _ _ _ _ _ _ _ _ _ _ _ _ _ _ _ _ _ _ _ _ _ _ _ _ _ _ _ _ _ _ _ _ _ _ _ _ _ _ _ _ _ _ _ _ _ _ _ _ _ _ _ _ _ _ _ _ _ _ _ _ _ _ _ _ _ _ _ _ _ _ _ _ _ _ _ _ _ _ _ _ rfl
abbrev las : List Addr := nat_lit 3 :: nat_lit 39 :: nat_lit 45 :: nat_lit 46 :: nat_lit 52 :: nat_lit 53 :: nat_lit 59 :: nat_lit 60 :: nat_lit 66 :: nat_lit 67 :: nat_lit 80 :: nat_lit 81 :: nat_lit 87 :: nat_lit 88 :: nat_lit 94 :: nat_lit 95 :: nat_lit 101 :: nat_lit 102 :: nat_lit 103 :: nat_lit 104 :: nat_lit 110 :: nat_lit 111 :: nat_lit 112 :: nat_lit 113 :: nat_lit 119 :: nat_lit 120 :: nat_lit 133 :: nat_lit 134 :: nat_lit 140 :: nat_lit 141 :: nat_lit 147 :: nat_lit 148 :: nat_lit 154 :: nat_lit 155 :: nat_lit 157 :: nat_lit 158 :: nat_lit 166 :: nat_lit 167 :: nat_lit 171 :: nat_lit 172 :: nat_lit 180 :: nat_lit 186 :: nat_lit 187 :: nat_lit 193 :: nat_lit 194 :: nat_lit 212 :: nat_lit 213 :: nat_lit 251 :: nat_lit 252 :: nat_lit 258 :: nat_lit 259 :: nat_lit 294 :: nat_lit 295 :: nat_lit 305 :: nat_lit 306 :: nat_lit 310 :: nat_lit 311 :: nat_lit 317 :: nat_lit 318 :: nat_lit 324 :: nat_lit 325 :: nat_lit 331 :: nat_lit 332 :: nat_lit 336 :: nat_lit 337 :: nat_lit 341 :: nat_lit 342 :: nat_lit 346 :: nat_lit 347 :: nat_lit 353 :: nat_lit 354 :: nat_lit 360 :: nat_lit 361 :: nat_lit 367 :: nat_lit 368 :: []
theorem las_eq (P : Params) : las = (hd.heap_39 P).map (·.1) := by kernel_rfl
theorem left : LeftO PySem.Challenge.pw_sn0098_01 qv lse (fun s => xlAt qv [] s && recOk (RowW.records PySem.Challenge.rw_sn0098_01.row.toRowW) s) (Hook.obs (kmHook hd.heap_39 las las_eq [83, 76, 301, 48])) (Hook.val (kmHook hd.heap_39 las las_eq [83, 76, 301, 48])) 4162 := by
  intro w
  unfold openEnds fencedOpening topFrom
  simp only [PySem.W.Fast.te14364793385576792824, PySem.W.Fast.te4187177175401517315, PySem.W.Fast.te5923862056798008813, PySem.W.Fast.te14082659384304107361, PySem.W.Fast.te10274390034422433532]
  kernel_rfl
theorem wsd : PySem.Challenge.rw_sn0098_01.wellSaid = true := by
  rw [PySem.W.Fast.te9446332074065402090]
  kernel_rfl
end Mine
open Mine
local macro_rules | `(tactic| omega) => `(tactic| as_aux_lemma => lia)
namespace Mine
theorem gz0 {G : Prop} (k : ∀ G' : Prop, (G → G') → G') : G := k G id
@[elab_as_elim] theorem gz1 {α : Type} {motive : α → Prop} (x : α) (k : ∀ G' : α → Prop, (∀ y, motive y → G' y) → G' x) : motive x := k motive fun _ h => h
@[elab_as_elim] theorem gz2 {α β : Type} {motive : α → β → Prop} (x : α) (y : β) (k : ∀ G' : α → β → Prop, (∀ a b, motive a b → G' a b) → G' x y) : motive x y := k motive fun _ _ h => h
inductive Aa3 (a0 a1 a2 : Prop) : Prop | mk (h0 : a0) (h1 : a1) (h2 : a2) : Aa3 a0 a1 a2
inductive Aa4 (a0 a1 a2 a3 : Prop) : Prop | mk (h0 : a0) (h1 : a1) (h2 : a2) (h3 : a3) : Aa4 a0 a1 a2 a3
inductive Aa5 (a0 a1 a2 a3 a4 : Prop) : Prop | mk (h0 : a0) (h1 : a1) (h2 : a2) (h3 : a3) (h4 : a4) : Aa5 a0 a1 a2 a3 a4
inductive Aa6 (a0 a1 a2 a3 a4 a5 : Prop) : Prop | mk (h0 : a0) (h1 : a1) (h2 : a2) (h3 : a3) (h4 : a4) (h5 : a5) : Aa6 a0 a1 a2 a3 a4 a5
inductive Aa7 (a0 a1 a2 a3 a4 a5 a6 : Prop) : Prop | mk (h0 : a0) (h1 : a1) (h2 : a2) (h3 : a3) (h4 : a4) (h5 : a5) (h6 : a6) : Aa7 a0 a1 a2 a3 a4 a5 a6
inductive Aa8 (a0 a1 a2 a3 a4 a5 a6 a7 : Prop) : Prop | mk (h0 : a0) (h1 : a1) (h2 : a2) (h3 : a3) (h4 : a4) (h5 : a5) (h6 : a6) (h7 : a7) : Aa8 a0 a1 a2 a3 a4 a5 a6 a7
inductive Aa9 (a0 a1 a2 a3 a4 a5 a6 a7 a8 : Prop) : Prop | mk (h0 : a0) (h1 : a1) (h2 : a2) (h3 : a3) (h4 : a4) (h5 : a5) (h6 : a6) (h7 : a7) (h8 : a8) : Aa9 a0 a1 a2 a3 a4 a5 a6 a7 a8
inductive Aa10 (a0 a1 a2 a3 a4 a5 a6 a7 a8 a9 : Prop) : Prop | mk (h0 : a0) (h1 : a1) (h2 : a2) (h3 : a3) (h4 : a4) (h5 : a5) (h6 : a6) (h7 : a7) (h8 : a8) (h9 : a9) : Aa10 a0 a1 a2 a3 a4 a5 a6 a7 a8 a9
inductive Aa11 (a0 a1 a2 a3 a4 a5 a6 a7 a8 a9 a10 : Prop) : Prop | mk (h0 : a0) (h1 : a1) (h2 : a2) (h3 : a3) (h4 : a4) (h5 : a5) (h6 : a6) (h7 : a7) (h8 : a8) (h9 : a9) (h10 : a10) : Aa11 a0 a1 a2 a3 a4 a5 a6 a7 a8 a9 a10
inductive Aa20 (a0 a1 a2 a3 a4 a5 a6 a7 a8 a9 a10 a11 a12 a13 a14 a15 a16 a17 a18 a19 : Prop) : Prop | mk (h0 : a0) (h1 : a1) (h2 : a2) (h3 : a3) (h4 : a4) (h5 : a5) (h6 : a6) (h7 : a7) (h8 : a8) (h9 : a9) (h10 : a10) (h11 : a11) (h12 : a12) (h13 : a13) (h14 : a14) (h15 : a15) (h16 : a16) (h17 : a17) (h18 : a18) (h19 : a19) : Aa20 a0 a1 a2 a3 a4 a5 a6 a7 a8 a9 a10 a11 a12 a13 a14 a15 a16 a17 a18 a19
inductive Xx2 {α β : Type} (p : α → β → Prop) : Prop | mk (a0 : α) (a1 : β) (h : p a0 a1) : Xx2 p
inductive Xx3 {α β γ : Type} (p : α → β → γ → Prop) : Prop | mk (a0 : α) (a1 : β) (a2 : γ) (h : p a0 a1 a2) : Xx3 p
inductive Xx4 {α β γ δ : Type} (p : α → β → γ → δ → Prop) : Prop | mk (a0 : α) (a1 : β) (a2 : γ) (a3 : δ) (h : p a0 a1 a2 a3) : Xx4 p
inductive Xx5 {α β γ δ ε : Type} (p : α → β → γ → δ → ε → Prop) : Prop | mk (a0 : α) (a1 : β) (a2 : γ) (a3 : δ) (a4 : ε) (h : p a0 a1 a2 a3 a4) : Xx5 p
inductive Xx6 {α β γ δ ε ζ : Type} (p : α → β → γ → δ → ε → ζ → Prop) : Prop | mk (a0 : α) (a1 : β) (a2 : γ) (a3 : δ) (a4 : ε) (a5 : ζ) (h : p a0 a1 a2 a3 a4 a5) : Xx6 p
inductive Xx7 {α β γ δ ε ζ η : Type} (p : α → β → γ → δ → ε → ζ → η → Prop) : Prop | mk (a0 : α) (a1 : β) (a2 : γ) (a3 : δ) (a4 : ε) (a5 : ζ) (a6 : η) (h : p a0 a1 a2 a3 a4 a5 a6) : Xx7 p
inductive Xx8 {α β γ δ ε ζ η θ : Type} (p : α → β → γ → δ → ε → ζ → η → θ → Prop) : Prop | mk (a0 : α) (a1 : β) (a2 : γ) (a3 : δ) (a4 : ε) (a5 : ζ) (a6 : η) (a7 : θ) (h : p a0 a1 a2 a3 a4 a5 a6 a7) : Xx8 p
inductive Xx14 {α β γ δ ε ζ η θ ι κ μ ν ξ ρ : Type} (p : α → β → γ → δ → ε → ζ → η → θ → ι → κ → μ → ν → ξ → ρ → Prop) : Prop | mk (a0 : α) (a1 : β) (a2 : γ) (a3 : δ) (a4 : ε) (a5 : ζ) (a6 : η) (a7 : θ) (a8 : ι) (a9 : κ) (a10 : μ) (a11 : ν) (a12 : ξ) (a13 : ρ) (h : p a0 a1 a2 a3 a4 a5 a6 a7 a8 a9 a10 a11 a12 a13) : Xx14 p
theorem st0 {a0 a1 a2 a3 a4 a5 a6 a7 a8 a9} (h : wpAny a0 a1 (exec (Stmt.While a2 a3 a4 a5) a6) a7 a8 a9) : wpAny a0 a1 (exec (Stmt.While a2 a3 a4 a5) a6) a7 a8 a9 := h
theorem st1 {a0 a1 a2 a3 a4 a5 a6 a7 a8 a9 a10} (h : wpAny a0 a1 (exec (Stmt.For a2 a3 a4 a5 a6) a7) a8 a9 a10) : wpAny a0 a1 (exec (Stmt.For a2 a3 a4 a5 a6) a7) a8 a9 a10 := h
theorem st2 {a0 a1 a2 a3 a4 a5} (h : wpAny a0 a1 (pyIter (Value.ref a2)) a3 a4 a5) : wpAny a0 a1 (pyIter (Value.ref a2)) a3 a4 a5 := h
theorem st3 {a0 a1 a2 a3 a4 a5 a6 a7 a8 a9 a10 a11 a12 a13 a14 a15} (h : wpAny a0 a1 (exec (Stmt.FunctionDef a2 a3 a4 a5 a6 a7 a8 a9 a10 a11) a12) a13 a14 a15) : wpAny a0 a1 (exec (Stmt.FunctionDef a2 a3 a4 a5 a6 a7 a8 a9 a10 a11) a12) a13 a14 a15 := h
theorem st4 {a0 a1 a2 a3 a4 a5 a6} (h : wpAny a0 a1 (call (Value.ref a2) a3) a4 a5 a6) : wpAny a0 a1 (call (Value.ref a2) a3) a4 a5 a6 := h
theorem st5 {a0 a1 a2 a3 a4 a5 a6 a7 a8 a9} (h : wpAny a0 a1 (eval (Expr.ListComp a2 a3 a4 a5) a6) a7 a8 a9) : wpAny a0 a1 (eval (Expr.ListComp a2 a3 a4 a5) a6) a7 a8 a9 := h
theorem st6 {a0 a1 a2 a3 a4 a5 a6 a7 a8 a9 a10 a11 a12 a13 a14} (h : LCp.SrcLP a0 a1 a2 a3 a4 a5 a6 a7 a8 a9 a10 a11 a12 a13 a14) : LCp.SrcLP a0 a1 a2 a3 a4 a5 a6 a7 a8 a9 a10 a11 a12 a13 a14 := h
theorem st7 {a0 a1 a2 a3 a4 a5 a6 a7 a8 a9 a10 a11} (h : wpAny a0 a1 (exec (Stmt.Assign a2 (Expr.ListComp a3 a4 a5 a6) a7) a8) a9 a10 a11) : wpAny a0 a1 (exec (Stmt.Assign a2 (Expr.ListComp a3 a4 a5 a6) a7) a8) a9 a10 a11 := h
theorem st8 {a0 a1 a2 a3 a4 a5 a6 a7 a8 a9 a10 a11 a12 a13} (h : LCg.CompSrc a0 a1 a2 a3 a4 a5 a6 a7 a8 a9 a10 a11 a12 a13) : LCg.CompSrc a0 a1 a2 a3 a4 a5 a6 a7 a8 a9 a10 a11 a12 a13 := h
theorem st9 {a0 a1 a2 a3 a4 a5 a6 a7 a8 a9 a10 a11 a12 a13 a14} (h : LCt.CompSrcT a0 a1 a2 a3 a4 a5 a6 a7 a8 a9 a10 a11 a12 a13 a14) : LCt.CompSrcT a0 a1 a2 a3 a4 a5 a6 a7 a8 a9 a10 a11 a12 a13 a14 := h
theorem st10 {a0 a1 a2 a3 a4 a5 a6 a7 a8 a9 a10 a11} (h : wpAny a0 a1 (subscriptTail a2 (PySem.Expr.Slice (some a3) (some a4) (some a5) a6) a7 a8) a9 a10 a11) : wpAny a0 a1 (subscriptTail a2 (PySem.Expr.Slice (some a3) (some a4) (some a5) a6) a7 a8) a9 a10 a11 := h
end Mine
-- Base
namespace Mine
abbrev Led := List (Addr × Obj)
abbrev lob (vs : List Value) (n : Nat) : Obj := { cls := .type "list", data := .seq vs.toArray n }
abbrev tob (vs : List Value) : Obj := { cls := .type "tuple", data := .seq vs.toArray }
/-- what a call of the def at `f` on `vs` with the ledger `news` answers, from any frame with room for `d` frames and `u` units -/
noncomputable def Says (d u : Nat) (f : Addr) (vs : List Value) (news : Led) (R : Value → Led → Prop) : Prop :=
  ∀ (w : World) (p : Program) (loose : List Str) (mean : ExcName → Option Value) (mg mb : Str → Option Value)
    (dp un : Nat) (gd : Option (List Code)) (cn : Str) (cs : Scope) (a : Addr) (ccd : Value) (cl : List (Str × Addr)) (outer : List Env) (A₀ : Around) (base h₀ : Heap) (L : Addr) (m : Str → Option Value) (s : Shared) (Q E : Value → Shared → Prop),
    Below A₀ base outer h₀ → Fr h₀ L s.heap m → (Mine.hd.heap_39 w.params).In h₀ → News h₀ L s.heap news → Top p loose mean mg mb h₀ → cs.kind = .function → dp + d < recursionLimit → un + u < cLine →
    (∀ v h' tk' news', R v news' → Fr h₀ L h' m → News h₀ L h' news' → Q v { s with heap := h', toks := tk' }) →
    wpAny (model PySem.Challenge.rw_sn0098_01.row.prog w) (ktrTop dp un gd cn cs L a ccd cl outer) (call (.ref f) vs) Q E s
theorem use_says {d u : Nat} {f : Addr} {vs : List Value} {news : Led} {R : Value → Led → Prop} {w : World} {p : Program} {loose : List Str} {mean : ExcName → Option Value} {mg mb : Str → Option Value}
    {dp un : Nat} {gd : Option (List Code)} {cn : Str} {cs : Scope} {a : Addr} {ccd : Value} {cl : List (Str × Addr)} {outer : List Env} {A₀ : Around} {base h₀ : Heap} {L : Addr} {m : Str → Option Value} {s : Shared} {Q E : Value → Shared → Prop}
    (B : Below A₀ base outer h₀) (F : Fr h₀ L s.heap m) (X : (Mine.hd.heap_39 w.params).In h₀) (N : News h₀ L s.heap news) (T : Top p loose mean mg mb h₀) (hk : cs.kind = .function) (C : Says d u f vs news R) (hd : dp + d < recursionLimit) (hu : un + u < cLine)
    (ret : ∀ v h' tk' news', R v news' → Fr h₀ L h' m → News h₀ L h' news' → Q v { s with heap := h', toks := tk' }) :
    wpAny (model PySem.Challenge.rw_sn0098_01.row.prog w) (ktrTop dp un gd cn cs L a ccd cl outer) (call (.ref f) vs) Q E s := C _ _ _ _ _ _ _ _ _ _ _ _ _ _ _ _ _ _ _ _ _ _ _ B F X N T hk hd hu ret
theorem names_fr {h₀ h : Heap} {L : Addr} {m : Str → Option Value} (ps : List (Str × Value)) (hp : ∀ p ∈ ps, m p.1 = some p.2) (F : Fr h₀ L h m) : Fr h₀ L h (kstB m ps) := by
  have e : kstB m ps = m := by
    funext z
    exact kstB_eq hp fun _ => rfl
  rw [e]; exact F
noncomputable def HasN (m : Str → Option Value) (ps : List (Str × Value)) : Prop := ∀ p ∈ ps, m p.1 = some p.2
theorem names_ex {h₀ h : Heap} {L : Addr} {m : Str → Option Value} (F : Fr h₀ L h m) (ps : List (Str × Value)) (hp : HasN m ps) : ∃ m', Fr h₀ L h (kstB m' ps) := ⟨m, names_fr ps hp F⟩
theorem all_nil {m : Str → Option Value} : HasN m [] := fun _ h => nomatch h
theorem all_cons {m : Str → Option Value} {x : Str} {v : Value} {r : List (Str × Value)} (h : m x = some v) (hr : HasN m r) : HasN m ((x, v) :: r) := fun p hp => by
  rcases List.mem_cons.mp hp with rfl | hp
  · exact h
  · exact hr p hp
theorem ltUp {l : Led} {d : Addr} (h : ∀ p ∈ l, p.1 < d) : ∀ p ∈ l, p.1 < d + 1 := fun p hp => Nat.lt_succ_of_lt (h p hp)
theorem offLt {d : Addr} : ∀ {l : Led}, AllLt d l → ∀ p ∈ l, p.1 ≠ d
  | [], _, _, h => nomatch h
  | q :: r, h, p, hp => by
    rcases List.mem_cons.mp hp with rfl | hp
    · exact Nat.ne_of_lt h.1
    · exact offLt h.2 p hp
section
variable {prog : Program} {w : World} {A : Around} {E : Value → Shared → Prop} {s : Shared} {h₀ : Heap} {L : Addr} {m : Str → Option Value} {news : Led}
theorem my_item_ints {value slice : Expr} {l : Addr} {vs : List Value} {ns : List Int} {n : Nat} {k : Int} {u : Tok} {Q : Value → Shared → Prop} (N : News h₀ L s.heap news) (hm : (l, lob vs n) ∈ news) (hi : IntsAre vs ns)
    (h0 : 0 ≤ k) (h1 : k < ns.length) (hb : ns.length < 2 ^ 62) (h : ∀ t, Q (.int (ns.getD k.toNat 0) t) s)
    (hs : subscripted slice false (.ref l) (.int k u) = operate [.ref l, .int k u] (getItem (.ref l) (.int k u)) := by with_unfolding_all rfl) (hg : ∀ r, letTemporaryGo value (.ref l) r = pure () := by intro _; with_unfolding_all rfl) :
    wpAny (model prog w) A (subscriptTail value slice (.ref l) (.int k u)) Q E s := by
  have hx : k.toNat < ns.length := by omega
  obtain ⟨t, ht⟩ := hi.get k.toNat (ns.getD k.toNat 0) (by simp [List.getD, hx])
  exact item_list (News.isList N hm) h0 (by omega) (by simpa using ht) (h t) hs hg
theorem my_len {l : Addr} {vs : List Value} {n : Nat} {Q : Value → Shared → Prop} (N : News h₀ L s.heap news) (hm : (l, lob vs n) ∈ news) (hb : vs.length < 2 ^ 62)
    (h : ∀ t t', Q (.int (vs.length : Nat) t) { s with toks := t' }) : wpAny (model prog w) A (call (.builtin "len") [.ref l]) Q E s :=
  len_list (News.isList N hm) (by have e : vs.toArray.size = vs.length := by simp
                                  rw [e]; omega) (by have e : vs.toArray.size = vs.length := by simp
                                                     rw [e]; exact h _ _)
end
end Mine
local macro_rules | `(tactic| k_mem) => `(tactic| first | with_reducible assumption | exact List.Mem.head _ | (refine' List.mem_cons_of_mem _ ?_; k_mem) | (refine' List.mem_append_left _ ?_; k_mem) | (refine' List.mem_append_right _ ?_; k_mem))
local macro_rules | `(tactic| k_all) => `(tactic| first | assumption | exact offLt (by assumption) | exact fun p hp => Nat.ne_of_lt ((by assumption : ∀ p ∈ _, p.1 < _) p hp))
local macro_rules | `(tactic| walk_at "my for") => `(tactic| (k_here; (rename Fr _ _ _ _ => lF'); (with_unfolding_all refine' For_invVF lF' ?k1 ?k2 ?_; (case k1 => exact rfl); (case k2 => exact rfl); k_whole)))
local macro_rules | `(tactic| walk_at "mo") => `(tactic| first | ((with_reducible show wpAny _ _ (execs (_ :: _) _) _ _ _); ((k_here; (try dsimp only); refine wpAny_execs_cons ?_))) | (k_unfold; (try dsimp only)) | walk1 | (dsimp only; walk1) | (leave1; walk_say "STEP leave1"; try dsimp only) | fail "no step")
local macro_rules | `(tactic| walk_at "my enter") => `(tactic| (refine' code_def ?k1 ?k2 ?k3 ?k4 ?k5 ?kA ?kF ?kK ?k6 ?k7 ?k8 ?k9 ?kB ?_ ?c2 ?c3 ?c4 ?c5; (case kA => exact rfl); (case kF => exact rfl); (case kK => first | assumption | exact rfl); (case k1 => k_asm); (case k2 => k_asm); (case k3 => k_asm); (case k4 => k_asm); (case k5 => k_asm); (case k6 => k_is); (case k7 => k_is); (case k8 => ktr_room); (case k9 => first | exact BindsTo.of_eq rfl | exact binds_K (by k_in) rfl (by k_is) rfl rfl rfl | exact kp_binds (by k_in) (fun _ => rfl)); (case c5 => decide); (case kB => exact locs rfl); (case c2 => exact rfl); (case c3 => exact rfl); (case c4 => exact rfl); k_whole; intro g' L' h' FG' F' N' B' X' T'; (try dsimp only); (try k_lift B'); (try k_fold)))
local macro_rules | `(tactic| walk_at "my enterC") => `(tactic| (refine' code_defC (by k_asm) (by k_asm) (by k_asm) (by k_asm) (by k_asm) (by exact rfl) (by exact rfl) (by assumption) (by k_is) (by k_is) (by ktr_room) (by first | exact BindsTo.of_eq rfl | exact binds_K (by k_in) rfl (by k_is) rfl rfl rfl | fail "k_enter: no rule for these arguments") (by exact rfl) (by decide +kernel) ?_ (by exact rfl) (by exact rfl) (by exact rfl);  k_whole; intro g' L' h' tk' cells' FG' F' N' Y' B' X' T' l1; (have l2 := ltUp l1); (have l3 := ltUp l2); (have l4 := ltUp l3); (try k_lt l1); (try k_lt l2); (try k_lt l3); (try k_lt l4); k_cells Y'; (try simp only [List.cons_append, List.nil_append] at N'); (try dsimp only); (try k_lift B'); (try k_fold)))
-- C1
namespace Mine
noncomputable def bis (ns : List Int) (x : Int) : Nat := (ns.takeWhile fun c => decide (c ≤ x)).length
theorem bis_is {x : Int} : ∀ (ns : List Int) (i : Nat), i ≤ ns.length → (∀ j, j < i → ns.getD j 0 ≤ x) → (∀ j, i ≤ j → j < ns.length → x < ns.getD j 0) → bis ns x = i
  | [], i, h, _, _ => by simp at h; subst h; rfl
  | c :: r, 0, _, _, h2 => by
    have := h2 0 (Nat.le_refl _) (by simp)
    simp at this
    simp [bis, show ¬ c ≤ x by omega]
  | c :: r, i + 1, h, h1, h2 => by
    have h3 := h1 0 (by omega)
    simp at h3
    have ih := bis_is r i (by simpa using h) (fun j hj => by simpa using h1 (j + 1) (by omega)) (fun j hj hl => by simpa using h2 (j + 1) (by omega) (by simpa using hl))
    simp only [bis] at ih ⊢
    rw [List.takeWhile_cons]
    simp [h3, ih]
theorem says_bis (l : Addr) (vs : List Value) (n : Nat) (ns : List Int) (x : Int) (t : Tok) (news : Led) (hm : (l, lob vs n) ∈ news) (hi : IntsAre vs ns) (hb : ns.length < 2 ^ 62) (hs : ∀ i j, i ≤ j → j < ns.length → ns.getD i 0 ≤ ns.getD j 0) :
   Says 2 10 120 [.ref l, .int x t] news (fun v news' => news' = news ∧ ∃ t', v = .int (bis ns x) t') := by
  ((have hfill : Mine.hd.heap_39 = Mine.hd.heap_39 ∧ PySem.Challenge.rw_sn0098_01 = PySem.Challenge.rw_sn0098_01 := (by k_fill; exact ⟨rfl, rfl⟩)); clear hfill)
  unfold Says
  intros
  rename_i hret
  have hvl := hi.length
  refine wpAny_call ?_
  k_dflt walk_at "my enter"
  (repeat' (first | ((( (fail_if_success with_reducible first | refine st0 ?_ | refine st1 ?_ | refine st2 ?_ | refine st3 ?_))); (fail_if_success with_reducible first | refine st4 ?_); (first | ((with_reducible show wpAny _ _ (call (Value.builtin "len") _) _ _ _); ((k_here; k_dflt (refine' my_len (by k_asm) (by k_mem) (by omega) ?_;  k_whole); intro _ _))) | walk_at "mo"))))
  refine While_inv (fun n m₁ news₁ => (Xx2 fun (lo hi' : Int) => Aa11 (news₁ = news) (m₁ "a" = some (.ref l)) (m₁ "x" = some (.int x t)) ((∃ t, m₁ "lo" = some (.int lo t))) ((∃ t, m₁ "hi" = some (.int hi' t))) (0 ≤ lo) (lo ≤ hi') (hi' ≤ ns.length) (n = (hi' - lo).toNat) ((∀ j, j < lo.toNat → ns.getD j 0 ≤ x)) ((∀ j, hi'.toNat ≤ j → j < ns.length → x < ns.getD j 0)))) (n₀ := ns.length) (by k_asm) (by k_asm) ?_ ?_
  · rw [hvl]
    exact ⟨0, ns.length, rfl, rfl, rfl, ⟨_, rfl⟩, ⟨_, rfl⟩, by omega, by omega, by omega, by omega, fun j hj => by simp at hj, fun j hj hl => by simp at hj; omega⟩
  · rintro n m₁ news₁ h₁ tk₁ F₁ N₁ ⟨lo, hi', rfl, ha, hx, ⟨tl, hlo⟩, ⟨th, hhi⟩, h0, h1, h2, rfl, h3, h4⟩
    replace F₁ := names_fr [("a", .ref l), ("x", .int x t), ("lo", .int lo tl), ("hi", .int hi' th)] (by simp [ha, hx, hlo, hhi]) F₁
    have hmid : ∀ z : Int, z = (lo + hi').fdiv 2 → lo < hi' → lo ≤ z ∧ z < hi' := by
      intro z e hlt
      rw [Int.fdiv_eq_ediv_of_nonneg _ (by omega)] at e
      omega
    (repeat' (first | ((( (fail_if_success with_reducible first | refine st0 ?_ | refine st1 ?_ | refine st2 ?_ | refine st3 ?_))); (fail_if_success with_reducible first | refine st4 ?_); (first | ((with_reducible show wpAny _ _ (call (Value.builtin "len") _) _ _ _); ((k_here; k_dflt (refine' my_len (by k_asm) (by k_mem) (by omega) ?_;  k_whole); intro _ _))) | walk_at "mo"))))
    · obtain ⟨q1, q2⟩ := hmid _ rfl (by omega)
      refine' WhileStep.intro (n' := ((lo + hi').fdiv 2 - lo).toNat) ?F ?N ?lt ?J
      case F => k_asm
      case N => k_asm
      case lt => omega
      case J =>
        refine ⟨lo, (lo + hi').fdiv 2, rfl, rfl, rfl, ⟨_, rfl⟩, ⟨_, rfl⟩, h0, by omega, by omega, rfl, h3, ?_⟩
        intro j hj hjl
        have := hs _ _ hj hjl
        omega
    · obtain ⟨q1, q2⟩ := hmid _ rfl (by omega)
      refine' WhileStep.intro (n' := (hi' - ((lo + hi').fdiv 2 + 1)).toNat) ?F ?N ?lt ?J
      case F => k_asm
      case N => k_asm
      case lt => omega
      case J =>
        refine ⟨(lo + hi').fdiv 2 + 1, hi', rfl, rfl, rfl, ⟨_, rfl⟩, ⟨_, rfl⟩, by omega, by omega, by omega, rfl, ?_, h4⟩
        intro j hj
        have := hs j ((lo + hi').fdiv 2).toNat (by omega) (by omega)
        omega
    · have e : (bis ns x : Int) = lo := by
        have := bis_is ns lo.toNat (by omega) h3 (by intro j hj hl; exact h4 j (by omega) hl)
        omega
      exact hret _ _ _ _ ⟨rfl, _, by rw [e]⟩ (by k_asm) (by k_asm)
end Mine
-- C2
namespace Mine
section
variable {prog : Program} {w : World} {A : Around} {E : Value → Shared → Prop} {s : Shared} {h₀ : Heap} {L : Addr} {m : Str → Option Value} {news : Led}
theorem my_divmod {a b : Int} {t u : Tok} {Q : Value → Shared → Prop} (F : Fr h₀ L s.heap m) (N : News h₀ L s.heap news) (hb : b ≠ 0) (hp : Builtin.divisionGoesByPylong a b = false)
    (h : ∀ l tq tr h' tk', Fr h₀ L h' m → News h₀ L h' ((l, tob [.int (a.fdiv b) tq, .int (a.fmod b) tr]) :: news) → (∀ p ∈ news, p.1 < l) → Q (.ref l) { s with heap := h', toks := tk' }) :
    wpAny (model prog w) A (call (.builtin "divmod") [.int a t, .int b u]) Q E s :=
  divmod_N F N hb (fun _ F' N' => h _ _ _ _ _ F' N' fun p hp => Heap.lt_size (N p hp).1) (.inl hp)
end
end Mine
namespace Mine
theorem bits_lt (a : Int) (k : Nat) (h0 : 0 ≤ a) (h1 : a < 2 ^ k) : Builtin.Int.intBits a ≤ k := by
  unfold Builtin.Int.intBits
  split
  · omega
  · rename_i h
    have h' : a.natAbs ≠ 0 := by
      intro e; apply h; simp; omega
    have := (Nat.log2_lt h').mpr (show a.natAbs < 2 ^ k by
      have : ((2 ^ k : Nat) : Int) = 2 ^ k := by simp
      omega)
    omega
theorem says_div2 (a b n : Int) (t1 t2 t3 : Tok) (fr : Led) (h0 : 0 ≤ a) (h1 : a < 2 ^ 64) (h2 : 0 < b) (h3 : b < 1073741824) (hn : 0 ≤ n) :
    Says 2 20 67 [.int a t1, .int b t2, .int n t3] fr (fun v news => (Xx3 fun l tq tr => Aa3 (v = .ref l) (news = (l, tob [.int (a.fdiv b) tq, .int (a.fmod b) tr]) :: fr) (AllLt l fr))) := by
  ((have hfill : Mine.hd.heap_39 = Mine.hd.heap_39 ∧ PySem.Challenge.rw_sn0098_01 = PySem.Challenge.rw_sn0098_01 := (by k_fill; exact ⟨rfl, rfl⟩)); clear hfill)
  unfold Says
  intros
  rename_i hret
  have hbits := bits_lt a 64 h0 h1
  refine wpAny_call ?_
  k_dflt walk_at "my enter"
  have hb0 : b ≠ 0 := by omega
  (repeat' (first | ((( (fail_if_success with_reducible first | refine st0 ?_ | refine st1 ?_ | refine st2 ?_ | refine st3 ?_))); (fail_if_success with_reducible first | refine st4 ?_); (first | (((k_here; (with_reducible show wpAny _ _ (call (Value.builtin _) [Value.int _ _, Value.int _ _]) _ _ _); k_dflt (refine' my_divmod (by k_asm) (by k_asm) (by omega) (by exact PyProof.noPylong_small (by omega)) ?_;  k_whole); intro _ _ _ _ _ _ _ l1; (try k_lt l1)); (have _ := l1); clear l1)) | walk_at "mo"))))
  exact hret _ _ _ _ ⟨_, _, _, rfl, rfl, allLt_of (by assumption)⟩ (by k_asm) (by k_asm)
end Mine
-- C3
namespace Mine
section
variable {M : Model} {A : Around} {E : Value → Shared → Prop} {s : Shared} {h₀ : Heap} {L a c P : Addr} {m mg mb : Str → Option Value} {cn : Str} {cs : Scope} {ccd : Value} {cl : List (Str × Addr)}
  {p : Program} {loose : List Str} {mean : ExcName → Option Value} {name qual : Str} {params : Arguments} {body : List Stmt} {scope : Scope} {pos : Pos} {firstLine : Nat} {clos : List (Str × Addr)}
/-- a def's table of codes, filled for the def within it that stands at line, col -/
noncomputable def Warm (P : Addr) (line col : Nat) (qual : Str) (tl : Led) : Prop :=
  (Xx4 fun c' oc vs t => Aa3 (tl = [(P, tabObj #[rawInt line, rawInt col, .ref c']), (c', oc)]) (oc.data = .fields vs) (vs[1]? = some (.str qual t)))
/-- .. or still empty, and apart from the rest -/
noncomputable def Tab (P : Addr) (line col : Nat) (qual : Str) (tl rest : Led) : Prop :=
  (tl = [(P, tabObj #[])] ∧ ∀ q ∈ rest, q.1 ≠ P) ∨ Warm P line col qual tl
theorem Tab.mem {P : Addr} {line col : Nat} {qual : Str} {tl rest : Led} (h : Tab P line col qual tl rest) : ∃ o, (P, o) ∈ tl := by
  rcases h with ⟨rfl, _⟩ | ⟨_, _, _, _, rfl, _⟩
  · exact ⟨_, .head _⟩
  · exact ⟨_, .head _⟩
theorem news_sub {h₀ h : Heap} {L : Addr} {news news' : Led} (N : News h₀ L h news) (hs : ∀ p ∈ news', p ∈ news) : News h₀ L h news' := fun p hp => N p (hs p hp)
theorem nest_both {Q : Value → Shared → Prop} {own tl fr : Led} (F : Fr h₀ L s.heap m) (N : News h₀ L s.heap (own ++ (tl ++ fr))) (T : Top p loose mean mg mb h₀) (C : CodeHd h₀ c P) (hcd : ccd = .ref c)
    (hT : Tab P pos.line pos.col qual tl fr) (hoP : ∀ q ∈ own, q.1 ≠ P) (hap : ∀ q ∈ own, ∀ r ∈ tl, r.1 ≠ q.1)
    (hcl : closureFor scope (envX cn cs L a ccd cl) = pure clos)
    (h : ∀ f c' oc vs t ctv doc h' tk tl', Fr h₀ L h' m →
      News h₀ L h' ((f, fnMade name qual params body scope clos doc ((mg "__name__").getD .none) c' ctv) :: (own ++ (tl' ++ fr))) →
      Warm P pos.line pos.col qual tl' → (c', oc) ∈ tl' → oc.data = .fields vs → vs[1]? = some (.str qual t) → (Warm P pos.line pos.col qual tl → tl' = tl) → (∀ q ∈ own ++ fr, q.1 < f) → (∀ q ∈ own, ∀ r ∈ tl', r.1 ≠ q.1) → (∀ r ∈ tl', r.1 ≠ f) → (∀ r ∈ tl', r ∈ tl ∨ r.1 = P ∨ ∀ q ∈ own ++ fr, q.1 < r.1) → Q (.ref f) { s with heap := h', toks := tk }) :
    wpAny M A (makeFunction name qual params (.stmts body) scope (envX cn cs L a ccd cl) [] [] [] pos firstLine) Q E s := by
  rcases hT with ⟨rfl, hoff⟩ | hW
  · have N₁ : News h₀ L s.heap ((P, tabObj #[]) :: (own ++ fr)) := news_sub N (by
      intro q hq
      simp only [List.mem_cons, List.mem_append] at hq ⊢
      rcases hq with rfl | hq | hq <;> simp_all)
    have hlt : ∀ q ∈ own ++ fr, q.1 < s.heap.objs.size := fun q hq => Heap.lt_size (N₁ q (List.mem_cons_of_mem _ hq)).1
    refine nest_K (ps := #[]) F N₁ T C hcd (UpdF.head fun q hq => ?_) True.intro rfl hcl fun f c' oc vs t ctv doc h' tk F' N' d1 d2 l1 l2 => ?_
    · rcases List.mem_append.mp hq with hq | hq
      · exact hoP q hq
      · exact hoff q hq
    · have l0 : P < c' := l1 (P, tabObj #[]) (.head _)
      refine h f c' oc vs t ctv doc h' tk [(P, tabObj #[rawInt pos.line, rawInt pos.col, .ref c']), (c', oc)] F' (news_sub N' ?_) ⟨c', oc, vs, t, rfl, d1, d2⟩ (by simp) d1 d2 ?_ (fun q hq => Nat.lt_trans (l1 q (.tail _ hq)) l2) ?_ ?_ ?_
      · intro q hq
        simp only [List.mem_cons, List.mem_append, List.not_mem_nil, or_false] at hq ⊢
        rcases hq with rfl | hq | (rfl | rfl) | hq
        · simp
        · simp [hq]
        · simp
        · simp
        · simp [hq]
      · rintro ⟨c₂, oc₂, vs₂, t₂, e, _⟩
        cases e
      · intro q hq r hr
        simp only [List.mem_cons, List.not_mem_nil, or_false] at hr
        rcases hr with rfl | rfl
        · exact fun e => hoP q hq e.symm
        · exact Nat.ne_of_gt (l1 q (.tail _ (List.mem_append_left _ hq)))
      · intro r hr
        simp only [List.mem_cons, List.not_mem_nil, or_false] at hr
        rcases hr with rfl | rfl
        · exact Nat.ne_of_lt (Nat.lt_trans l0 l2)
        · exact Nat.ne_of_lt l2
      · intro r hr
        simp only [List.mem_cons, List.not_mem_nil, or_false] at hr
        rcases hr with rfl | rfl
        · exact .inr (.inl rfl)
        · exact .inr (.inr fun q hq => l1 q (.tail _ hq))
  · refine gz0 fun Gz hGz => ?_
    obtain ⟨c', oc, vs, t, rfl, d1, d2⟩ := id hW
    refine hGz ?_
    clear hGz Gz
    refine nestHit_K (ps := #[rawInt pos.line, rawInt pos.col, .ref c']) (c' := c') F N T C hcd (by simp) (by simp [TriplesOk, rawInt]) (by simp [codeAmong, rawInt]) hcl fun f ctv doc h' tk F' N' l1 => ?_
    exact h f c' oc vs t ctv doc h' tk _ F' N' hW (by simp) d1 d2 (fun _ => rfl) (fun q hq => l1 q (by
      rcases List.mem_append.mp hq with hq | hq <;> simp [hq])) hap (fun r hr => Nat.ne_of_lt (l1 r (by
        rw [List.mem_append, List.mem_append]; exact .inr (.inl hr)))) (fun r hr => .inl hr)
end
theorem codeHd80 (P : Params) : codeHdIn (Mine.hd.heap_39 P) 80 76 = true := by kernel_rfl
theorem codeHd87 (P : Params) : codeHdIn (Mine.hd.heap_39 P) 87 83 = true := by kernel_rfl
theorem codeHd52 (P : Params) : codeHdIn (Mine.hd.heap_39 P) 52 48 = true := by kernel_rfl
theorem codeHd305 (P : Params) : codeHdIn (Mine.hd.heap_39 P) 305 301 = true := by kernel_rfl
theorem off_app {x y : Led} {d : Addr} (h1 : ∀ p ∈ x, p.1 ≠ d) (h2 : ∀ p ∈ y, p.1 ≠ d) : ∀ p ∈ x ++ y, p.1 ≠ d := fun p hp => (List.mem_append.mp hp).elim (h1 p) (h2 p)
theorem off_lt {x : Led} {d : Addr} (h : ∀ p ∈ x, p.1 < d) : ∀ p ∈ x, p.1 ≠ d := fun p hp => Nat.ne_of_lt (h p hp)
theorem cap {α : Type} {P : α → Prop} {a : α} (h : P a) : ∃ x, x = a ∧ P x := ⟨a, rfl, h⟩
end Mine
-- P1
namespace Mine
/-- the k lowest digits of x to the base B, the lowest first -/
noncomputable def digs (B : Int) : Nat → Int → List Int
  | 0, _ => []
  | k + 1, x => x % B :: digs B k (x / B)
noncomputable def valB (B : Int) : List Int → Int
  | [] => 0
  | d :: r => d + B * valB B r
theorem digs_len (B : Int) : ∀ (k : Nat) (x : Int), (digs B k x).length = k
  | 0, _ => rfl
  | k + 1, x => by simp [digs, digs_len B k]
theorem valB_digs {B : Int} (hB : 0 < B) : ∀ (k : Nat) (x : Int), 0 ≤ x → x < B ^ k → valB B (digs B k x) = x
  | 0, x, h0, h1 => by simp at h1; simp [digs, valB]; omega
  | k + 1, x, h0, h1 => by
    have h2 : x / B < B ^ k := by
      rw [Int.ediv_lt_iff_lt_mul hB]
      rw [Int.pow_succ] at h1
      exact h1
    have := valB_digs hB k (x / B) (Int.ediv_nonneg h0 (by omega)) h2
    simp only [digs, valB, this]
    have := Int.emod_add_mul_ediv x B
    omega
theorem digs_append {B : Int} (hB : 0 < B) : ∀ (j k : Nat) (x : Int), digs B (j + k) x = digs B j (x % B ^ j) ++ digs B k (x / B ^ j)
  | 0, k, x => by simp [digs]
  | j + 1, k, x => by
    have e : j + 1 + k = (j + k) + 1 := by omega
    rw [e]
    have hp : 0 < B ^ j := Int.pow_pos hB
    have e1 : x % B ^ (j + 1) % B = x % B := by
      rw [Int.pow_succ, Int.mul_comm]
      exact Int.emod_emod_of_dvd x ⟨B ^ j, rfl⟩
    have e2 : x % B ^ (j + 1) / B = x / B % B ^ j := by
      have h := Int.emod_def x (B ^ (j + 1))
      have h1 : x / B ^ (j + 1) = x / B / B ^ j := by
        rw [Int.pow_succ, Int.mul_comm, Int.ediv_ediv_of_nonneg (by omega)]
      have h2 := Int.emod_def (x / B) (B ^ j)
      rw [h, h2, h1, Int.pow_succ]
      have e3 : x - B ^ j * B * (x / B / B ^ j) = x + B * (-(B ^ j * (x / B / B ^ j))) := by
        rw [Int.mul_comm (B ^ j) B, Int.mul_assoc, Int.mul_neg, Int.sub_eq_add_neg]
      rw [e3, Int.add_mul_ediv_left _ _ (by omega)]
      omega
    have e4 : x / B ^ (j + 1) = x / B / B ^ j := by
      rw [Int.pow_succ, Int.mul_comm, Int.ediv_ediv_of_nonneg (by omega)]
    simp only [digs, List.cons_append, digs_append hB j k (x / B), e1, e2, e4]
theorem valB_append (B : Int) : ∀ (xs ys : List Int), valB B (xs ++ ys) = valB B xs + B ^ xs.length * valB B ys
  | [], ys => by simp [valB]
  | d :: r, ys => by
    simp only [List.cons_append, valB, valB_append B r ys, List.length_cons, Int.pow_succ, Int.mul_add]
    rw [Int.mul_comm (B ^ r.length) B, Int.mul_assoc]
    omega
theorem splice_len (B : Int) (ns : List Int) (lo mid : Nat) (y : Int) (h1 : lo ≤ mid) (h3 : mid ≤ ns.length) : (ns.take lo ++ digs B (mid - lo) y ++ ns.drop mid).length = ns.length := by
  simp only [List.length_append, List.length_take, List.length_drop, digs_len]
  omega
theorem splice2 {B : Int} (hB : 0 < B) (ns : List Int) (lo mid hi k : Nat) (x : Int) (h1 : lo ≤ mid) (h2 : mid ≤ hi) (h3 : hi ≤ ns.length) (hk : k = hi - lo) :
    (ns.take lo ++ digs B (mid - lo) (x % B ^ (mid - lo)) ++ ns.drop mid).take mid ++ digs B (hi - mid) (x / B ^ (mid - lo)) ++ (ns.take lo ++ digs B (mid - lo) (x % B ^ (mid - lo)) ++ ns.drop mid).drop hi = ns.take lo ++ digs B k x ++ ns.drop hi := by
  have hA : (ns.take lo ++ digs B (mid - lo) (x % B ^ (mid - lo))).length = mid := by
    simp only [List.length_append, List.length_take, digs_len]
    omega
  have e1 : (ns.take lo ++ digs B (mid - lo) (x % B ^ (mid - lo)) ++ ns.drop mid).take mid = ns.take lo ++ digs B (mid - lo) (x % B ^ (mid - lo)) := by
    rw [List.take_append_of_le_length (by omega), List.take_of_length_le (by omega)]
  have e2 : (ns.take lo ++ digs B (mid - lo) (x % B ^ (mid - lo)) ++ ns.drop mid).drop hi = ns.drop hi := by
    rw [List.drop_append, List.drop_eq_nil_of_le (by omega), hA, List.drop_drop, List.nil_append]
    congr 1; omega
  have e3 : k = (mid - lo) + (hi - mid) := by omega
  rw [e1, e2, e3, digs_append hB]
  simp only [List.append_assoc]
theorem mod_le {x : Int} (hx : 0 ≤ x) {m : Int} (hm : 0 < m) : x % m ≤ x := by
  have h := Int.emod_add_mul_ediv x m
  have h2 : 0 ≤ m * (x / m) := Int.mul_nonneg (by omega) (Int.ediv_nonneg hx (by omega))
  omega
theorem seg_split (B : Int) (ns : List Int) (lo j k : Nat) (hj : j ≤ k) (hk : lo + k ≤ ns.length) :
    valB B ((ns.drop lo).take k) = valB B ((ns.drop lo).take j) + B ^ j * valB B ((ns.drop (lo + j)).take (k - j)) := by
  have e : (ns.drop lo).take k = (ns.drop lo).take j ++ (ns.drop (lo + j)).take (k - j) := by
    have e1 : k = j + (k - j) := by omega
    rw [e1, List.take_add, List.drop_drop]
    have e2 : j + (k - j) - j = k - j := by omega
    rw [e2]
  rw [e, valB_append]
  have e3 : ((ns.drop lo).take j).length = j := by
    rw [List.length_take, List.length_drop]; omega
  rw [e3]
theorem seg_one (B : Int) (ns : List Int) (lo : Nat) (h : lo < ns.length) : valB B ((ns.drop lo).take 1) = ns.getD lo 0 := by
  have e : (ns.drop lo).take 1 = [ns.getD lo 0] := by
    rw [List.drop_eq_getElem_cons h, List.take_succ_cons, List.take_zero]
    simp [List.getD, h]
  rw [e]
  simp [valB]
/-- the value of digits, the highest first -/
noncomputable def hor (B : Int) (xs : List Int) : Int := xs.foldl (fun a d => a * B + d) 0
theorem hor_snoc (B : Int) (xs : List Int) (d : Int) : hor B (xs ++ [d]) = hor B xs * B + d := by simp [hor]
theorem valB_rev (B : Int) : ∀ xs : List Int, valB B xs.reverse = hor B xs := by
  intro xs
  have h : ∀ (ys : List Int), valB B ys = hor B ys.reverse := by
    intro ys
    induction ys with
    | nil => rfl
    | cons d r ih =>
      rw [List.reverse_cons, hor_snoc, ← ih]
      simp only [valB]
      rw [Int.mul_comm, Int.add_comm]
  rw [h, List.reverse_reverse]
theorem valB_nonneg {B : Int} (hB : 0 ≤ B) : ∀ xs : List Int, (∀ d ∈ xs, 0 ≤ d) → 0 ≤ valB B xs
  | [], _ => Int.le_refl _
  | d :: r, h => by
    have h1 := h d (.head _)
    have h2 := valB_nonneg hB r fun y hy => h y (.tail _ hy)
    simp only [valB]
    have := Int.mul_nonneg hB h2
    omega
theorem valB_drop_le {B : Int} (hB : 1 ≤ B) : ∀ (xs : List Int) (k : Nat), (∀ d ∈ xs, 0 ≤ d) → valB B (xs.drop k) ≤ valB B xs
  | xs, 0, _ => by simp
  | [], k + 1, _ => by simp
  | d :: r, k + 1, h => by
    have h1 := h d (.head _)
    have hr : ∀ y ∈ r, 0 ≤ y := fun y hy => h y (.tail _ hy)
    have h2 := valB_drop_le hB r k hr
    have h3 := valB_nonneg (B := B) (by omega) r hr
    simp only [List.drop_succ_cons, valB]
    have h4 : 1 * valB B r ≤ B * valB B r := Int.mul_le_mul_of_nonneg_right hB h3
    omega
theorem valB_take_le {B : Int} (hB : 1 ≤ B) : ∀ (xs : List Int) (k : Nat), (∀ d ∈ xs, 0 ≤ d) → valB B (xs.take k) ≤ valB B xs
  | xs, 0, h => by
    have := valB_nonneg (B := B) (by omega) xs h
    simpa [valB] using this
  | [], k + 1, _ => by simp
  | d :: r, k + 1, h => by
    have hr : ∀ y ∈ r, 0 ≤ y := fun y hy => h y (.tail _ hy)
    have h2 := valB_take_le hB r k hr
    simp only [List.take_succ_cons, valB]
    have h4 : B * valB B (r.take k) ≤ B * valB B r := Int.mul_le_mul_of_nonneg_left h2 (by omega)
    omega
theorem seg_bound {B : Int} (hB : 1 ≤ B) (xs : List Int) (h : ∀ d ∈ xs, 0 ≤ d) (lo k : Nat) : 0 ≤ valB B ((xs.drop lo).take k) ∧ valB B ((xs.drop lo).take k) ≤ valB B xs := by
  have h1 : ∀ d ∈ xs.drop lo, 0 ≤ d := fun d hd => h d (List.mem_of_mem_drop hd)
  refine ⟨valB_nonneg (by omega) _ fun d hd => h1 d (List.mem_of_mem_take hd), ?_⟩
  exact Int.le_trans (valB_take_le hB _ k h1) (valB_drop_le hB xs lo h)
theorem digs_dig {B : Int} (hB : 0 < B) : ∀ (k : Nat) (x : Int), ∀ d ∈ digs B k x, 0 ≤ d ∧ d < B
  | 0, _, d, h => nomatch h
  | k + 1, x, d, h => by
    rcases List.mem_cons.mp h with rfl | h
    · exact ⟨Int.emod_nonneg _ (by omega), Int.emod_lt_of_pos _ hB⟩
    · exact digs_dig hB k _ d h
/-- a turn of the long division -/
theorem long_step {b B Y d : Int} (hb : 0 < b) : (Y * B + d) / b = Y / b * B + (Y % b * B + d) / b ∧ (Y * B + d) % b = (Y % b * B + d) % b := by
  have h := Int.emod_add_mul_ediv Y b
  have e : Y * B + d = (Y % b * B + d) + b * (Y / b * B) := by
    have : Y * B = (Y % b + b * (Y / b)) * B := by rw [h]
    rw [this, Int.add_mul, Int.mul_assoc]
    omega
  rw [e]
  exact ⟨by rw [Int.add_mul_ediv_left _ _ (by omega)]; omega, by rw [Int.add_mul_emod_self_left]⟩
theorem and_shift (x s : Nat) : x &&& ((x / 2 ^ s) * 2 ^ s) = (x / 2 ^ s) * 2 ^ s := by
  apply Nat.eq_of_testBit_eq
  intro i
  rw [Nat.testBit_and, ← Nat.shiftRight_eq_div_pow, ← Nat.shiftLeft_eq, Nat.testBit_shiftLeft, Nat.testBit_shiftRight]
  by_cases h : i ≥ s
  · simp [h]
  · simp [h]
theorem xor_low {x : Int} (hx : 0 ≤ x) (s : Nat) : Builtin.bitXor x (x / 2 ^ s * 2 ^ s) = x % 2 ^ s := by
  have hp : (0 : Int) < 2 ^ s := Int.pow_pos (by decide)
  have hq : 0 ≤ x / 2 ^ s * 2 ^ s := Int.mul_nonneg (Int.ediv_nonneg hx (by omega)) (by omega)
  have ha : Builtin.bitAnd x (x / 2 ^ s * 2 ^ s) = x / 2 ^ s * 2 ^ s := by
    unfold Builtin.bitAnd
    simp only [hx, hq, decide_true]
    refine gz0 fun Gz hGz => ?_
    obtain ⟨n, rfl⟩ := Int.eq_ofNat_of_zero_le hx
    refine hGz ?_
    clear hGz Gz
    have e : ((n : Int) / 2 ^ s * 2 ^ s) = ((n / 2 ^ s * 2 ^ s : Nat) : Int) := by simp
    rw [e]
    simp only [Int.toNat_natCast]
    rw [and_shift]
  rw [bitXor_and, ha]
  have := Int.emod_add_mul_ediv x (2 ^ s)
  rw [Int.mul_comm] at this
  omega
end Mine
-- C4
namespace Mine
section
variable {prog : Program} {w : World} {A : Around} {E : Value → Shared → Prop} {s : Shared} {h₀ : Heap} {L : Addr} {m : Str → Option Value} {news : Led}
theorem zerosAre (t : Tok) : ∀ k : Nat, IntsAre (List.replicate k (Value.int 0 t)) (List.replicate k 0)
  | 0 => .nil
  | k + 1 => .cons 0 t (zerosAre t k)
theorem my_zeros {l : Addr} {t u : Tok} {n : Nat} {k : Int} {Q : Value → Shared → Prop} (F : Fr h₀ L s.heap m) (N : News h₀ L s.heap news) (hm : (l, PySem.W.listOf #[Value.int 0 t] n) ∈ news) (h0 : 0 ≤ k) (h1 : k ≤ 256)
    (h : ∀ D vs h', Fr h₀ L h' m → News h₀ L h' ((D, PySem.W.listOf vs.toArray 0) :: news) → (∀ p ∈ news, p.1 < D) → IntsAre vs (List.replicate k.toNat 0) → Q (.ref D) { s with heap := h' }) :
    wpAny (model prog w) A (binaryOp .Mult (.ref l) (.int k u)) Q E s := by
  refine KMa.mul (vs := [Value.int 0 t]) F N (News.isList N hm) (by omega) (by omega) (by simp; omega) rfl fun D h' F' N' l1 => h D _ h' F' N' l1 ?_
  have e : (List.replicate k.toNat [Value.int 0 t]).flatten = List.replicate k.toNat (Value.int 0 t) := by simp
  rw [e]
  exact zerosAre t _
theorem my_mul {a b : Int} {t u : Tok} {Q : Value → Shared → Prop} (ha0 : 0 ≤ a) (ha1 : a ≤ 64) (hb0 : 0 ≤ b) (hb1 : b ≤ 64)
    (h : ∀ z tz tk, z = a * b → 0 ≤ z → z ≤ 4096 → Q (.int z tz) { s with toks := tk }) : wpAny (model prog w) A (binaryOp .Mult (.int a t) (.int b u)) Q E s :=
  PyProof.Rows.mul_int (h _ _ _ rfl (Int.mul_nonneg ha0 hb0) (by
    have h1 : a * b ≤ 64 * b := Int.mul_le_mul_of_nonneg_right ha1 hb0
    omega)) (IntMulOk.of_left (bits_lt a 64 ha0 (by omega)))
theorem my_half {a : Int} {t u : Tok} {Q : Value → Shared → Prop} (h : ∀ z tz tk, 2 * z ≤ a → a ≤ 2 * z + 1 → Q (.int z tz) { s with toks := tk }) :
    wpAny (model prog w) A (binaryOp .RShift (.int a t) (.int 1 u)) Q E s :=
  rshift_int (by decide) (by
    have e : a.fdiv (2 ^ (1 : Int).toNat) = a / 2 := Int.fdiv_eq_ediv_of_nonneg _ (by decide)
    rw [e]
    exact h _ _ _ (by omega) (by omega))
theorem my_shr {a k : Int} {t u : Tok} {Q : Value → Shared → Prop} (hk : 0 ≤ k) (h : ∀ tz tk, Q (.int (a / 2 ^ k.toNat) tz) { s with toks := tk }) :
    wpAny (model prog w) A (binaryOp .RShift (.int a t) (.int k u)) Q E s :=
  rshift_int hk (by
    have e : a.fdiv (2 ^ k.toNat) = a / 2 ^ k.toNat := Int.fdiv_eq_ediv_of_nonneg _ (Int.le_of_lt (Int.pow_pos (by decide)))
    rw [e]
    exact h _ _)
theorem shr_small {a : Int} (h0 : 0 ≤ a) (h1 : a < 2 ^ 64) (k : Nat) : (a / 2 ^ k).natAbs < 2 ^ 64 := by
  have h2 : 0 ≤ a / 2 ^ k := Int.ediv_nonneg h0 (Int.le_of_lt (Int.pow_pos (by decide)))
  have h3 : a / 2 ^ k ≤ a := Int.ediv_le_self _ h0
  omega
theorem my_shl {a k : Int} {t u : Tok} {Q : Value → Shared → Prop} (hk : 0 ≤ k) (hk2 : k ≤ 4096) (ha : a.natAbs < 2 ^ 64) (h : ∀ tz tk, Q (.int (a * 2 ^ k.toNat) tz) { s with toks := tk }) :
    wpAny (model prog w) A (binaryOp .LShift (.int a t) (.int k u)) Q E s := lshift_int_small hk (by omega) ha (h _ _)
theorem my_xor {a b : Int} {t u : Tok} {Q : Value → Shared → Prop} (h : ∀ tz tk, Q (.int (Builtin.bitXor a b) tz) { s with toks := tk }) :
    wpAny (model prog w) A (binaryOp .BitXor (.int a t) (.int b u)) Q E s := xor_int (h _ _)
end
end Mine
local macro_rules | `(tactic| walk_at "my enterN") => `(tactic| (refine' code_nest (by k_asm) (by k_asm) (by k_asm) (by k_asm) (by k_asm) (by exact rfl) (by exact rfl) (by first | assumption | exact rfl) (by k_mem) (by exact codeRec_news (by k_asm) (by k_mem) (by assumption) (by assumption)) (by ktr_room) (by exact BindsTo.of_eq rfl) (by exact locs rfl) ?_ (by exact rfl) (by exact rfl) (by exact rfl) (by decide);  k_whole; intro g' L' h' FG' F' N' B' X' T'; (try dsimp only); (try k_lift B'); (try k_fold)))
namespace Mine
theorem lt_digs (a n : Int) (h0 : 0 ≤ a) (h2 : 0 < n) : a < (2 ^ n.toNat) ^ (((Builtin.Int.intBits a : Int) + n - 1).fdiv n).toNat := by
  rw [Int.fdiv_eq_ediv_of_nonneg _ (by omega)]
  rw [← Int.pow_mul]
  have h3 : (Builtin.Int.intBits a : Int) ≤ n * (((Builtin.Int.intBits a : Int) + n - 1) / n) := by
    have := Int.emod_add_mul_ediv ((Builtin.Int.intBits a : Int) + n - 1) n
    have := Int.emod_lt_of_pos ((Builtin.Int.intBits a : Int) + n - 1) h2
    omega
  have hk : 0 ≤ ((Builtin.Int.intBits a : Int) + n - 1) / n := Int.ediv_nonneg (by omega) (by omega)
  have h4 : Builtin.Int.intBits a ≤ n.toNat * (((Builtin.Int.intBits a : Int) + n - 1) / n).toNat := by
    have : ((n.toNat * (((Builtin.Int.intBits a : Int) + n - 1) / n).toNat : Nat) : Int) = n * (((Builtin.Int.intBits a : Int) + n - 1) / n) := by
      rw [Int.natCast_mul, Int.toNat_of_nonneg hk, Int.toNat_of_nonneg (show 0 ≤ n by omega)]
    omega
  have h5 : a < 2 ^ Builtin.Int.intBits a := by
    unfold Builtin.Int.intBits
    split
    · rename_i h; simp at h; subst h; decide
    · have := Nat.lt_log2_self (n := a.natAbs)
      have e : ((2 ^ (a.natAbs.log2 + 1) : Nat) : Int) = 2 ^ (a.natAbs.log2 + 1) := by simp
      omega
  have h6 : (2 : Nat) ^ Builtin.Int.intBits a ≤ 2 ^ (n.toNat * (((Builtin.Int.intBits a : Int) + n - 1) / n).toNat) := Nat.pow_le_pow_right (by decide) h4
  have e1 : ((2 ^ Builtin.Int.intBits a : Nat) : Int) = 2 ^ Builtin.Int.intBits a := by simp
  have e2 : ((2 ^ (n.toNat * (((Builtin.Int.intBits a : Int) + n - 1) / n).toNat) : Nat) : Int) = 2 ^ (n.toNat * (((Builtin.Int.intBits a : Int) + n - 1) / n).toNat) := by simp
  omega
theorem mem_allLt {d : Addr} : ∀ {l : Led}, AllLt d l → ∀ p ∈ l, p.1 < d
  | [], _, _, h => nomatch h
  | q :: r, h, p, hp => by
    rcases List.mem_cons.mp hp with rfl | hp
    · exact h.1
    · exact mem_allLt h.2 p hp
theorem mid_facts {lo hi mid : Int} {k : Nat} (hk : hi - lo = k) (l0 : 0 ≤ lo) (k0 : 0 < k) (ne : lo + 1 ≠ hi) (e1 : 2 * mid ≤ lo + hi) (e2 : lo + hi ≤ 2 * mid + 1) :
    ((mid - lo).toNat : Int) = mid - lo ∧ ((hi - mid).toNat : Int) = hi - mid ∧ 0 < (mid - lo).toNat ∧ 0 < (hi - mid).toNat ∧ (hi - mid).toNat + (mid - lo).toNat = k ∧ (mid - lo).toNat = mid.toNat - lo.toNat ∧ (hi - mid).toNat = hi.toNat - mid.toNat ∧
      lo.toNat ≤ mid.toNat ∧ mid.toNat ≤ hi.toNat ∧ lo ≤ mid ∧ mid ≤ hi ∧ k = hi.toNat - lo.toNat ∧ (mid - lo).toNat < k ∧ (hi - mid).toNat < k := by
  have m3 : lo < mid := by omega
  have m4 : mid < hi := by omega
  have a := Int.toNat_of_nonneg (show 0 ≤ mid - lo by omega)
  have b := Int.toNat_of_nonneg (show 0 ≤ hi - mid by omega)
  have c := Int.toNat_of_nonneg l0
  have d := Int.toNat_of_nonneg (show 0 ≤ mid by omega)
  have e := Int.toNat_of_nonneg (show 0 ≤ hi by omega)
  clear e1 e2 ne
  exact ⟨a, b, by omega, by omega, by omega, by omega, by omega, by omega, by omega, by omega, by omega, by omega, by omega, by omega⟩
theorem says_i2d (a n : Int) (t1 t2 : Tok) (tl fr : Led) (h0 : 0 ≤ a) (h1 : a < 2 ^ 64) (h2' : 0 < n) (h3 : n ≤ 64) (hT : Tab 76 90 4 "_int2digits.<locals>.inner" tl fr) :
    Says 80 400 81 [.int a t1, .int n t2] (tl ++ fr) (fun v news => (Xx5 fun l vs k n0 tl' => Aa10 (v = .ref l) (news = (l, PySem.W.listOf vs.toArray n0) :: (tl' ++ fr)) (IntsAre vs (digs (2 ^ n.toNat) k a)) (a < (2 ^ n.toNat) ^ k) (k ≤ 64) (Warm 76 90 4 "_int2digits.<locals>.inner" tl') ((Warm 76 90 4 "_int2digits.<locals>.inner" tl → tl' = tl)) ((∀ p ∈ fr, p.1 < l)) ((∀ p ∈ tl', p.1 ≠ l)) ((∀ r ∈ tl', r ∈ tl ∨ r.1 = 76 ∨ ∀ q ∈ fr, q.1 < r.1)))) := by
  ((have hfill : Mine.hd.heap_39 = Mine.hd.heap_39 ∧ PySem.Challenge.rw_sn0098_01 = PySem.Challenge.rw_sn0098_01 := (by k_fill; exact ⟨rfl, rfl⟩)); clear hfill)
  unfold Says
  intros
  rename_i hret
  have hbits := bits_lt a 64 h0 h1
  have hk0 : 0 ≤ ((Builtin.Int.intBits a : Int) + n - 1).fdiv n := by
    rw [Int.fdiv_eq_ediv_of_nonneg _ (by omega)]
    exact Int.ediv_nonneg (by omega) (by omega)
  have hk1 : ((Builtin.Int.intBits a : Int) + n - 1).fdiv n ≤ 64 := by
    rw [Int.fdiv_eq_ediv_of_nonneg _ (by omega)]
    have : ((Builtin.Int.intBits a : Int) + n - 1) / n < 65 := by
      rw [Int.ediv_lt_iff_lt_mul (by omega)]
      omega
    omega
  refine wpAny_call ?_
  k_dflt walk_at "my enterC"
  rename_i g1 L1 hp1 tk1 FG F B X T l1 l2 l3 l4 o1 o2 o3 d1 d2 d3 N
  replace d1 : o1.data = Data.cell none := d1
  replace d2 : o2.data = Data.cell none := d2
  replace d3 : o3.data = Data.cell (some (.int n t2)) := d3
  obtain ⟨m', F1⟩ := names_ex F [("a", .int a t1)] (by ((repeat' (first | exact all_nil | refine all_cons rfl ?_))))
  clear F
  (repeat' (first | ((( (fail_if_success with_reducible first | refine st0 ?_ | refine st1 ?_ | refine st2 ?_ | refine st3 ?_))); (fail_if_success with_reducible first | refine st4 ?_); (first | ((with_reducible show wpAny _ _ (call (Value.builtin "len") _) _ _ _); ((k_here; k_dflt (refine' my_len (by k_asm) (by k_mem) (by omega) ?_;  k_whole); intro _ _))) | ((with_reducible show wpAny _ _ (binaryOp Operator.Mult (Value.int _ _) (Value.int _ _)) _ _ _); ((k_here; k_dflt (refine' my_mul (by omega) (by omega) (by omega) (by omega) ?_;  k_whole); intro _ _ _ _ _ _; dsimp only))) | ((with_reducible show wpAny _ _ (binaryOp Operator.RShift (Value.int _ _) (Value.int _ _)) _ _ _); ((k_here; (with_reducible show wpAny _ _ (binaryOp _ (Value.int _ _) (Value.int 1 _)) _ _ _); k_dflt (refine' my_half ?_; k_whole); intro _ _ _ _ _; dsimp only))) | ((with_reducible show wpAny _ _ (binaryOp Operator.RShift (Value.int _ _) (Value.int _ _)) _ _ _); ((k_here; k_dflt (refine' my_shr (by first | assumption | omega) ?_;  k_whole); intro _ _; dsimp only))) | ((with_reducible show wpAny _ _ (binaryOp Operator.LShift (Value.int _ _) (Value.int _ _)) _ _ _); ((k_here; k_dflt (refine' my_shl (by first | assumption | omega) (by first | assumption | omega) (by first | exact shr_small (by assumption) (by assumption) _ | omega) ?_;  k_whole); intro _ _; dsimp only))) | ((with_reducible show wpAny _ _ (binaryOp Operator.BitXor (Value.int _ _) (Value.int _ _)) _ _ _); ((k_here; k_dflt (refine' my_xor ?_; k_whole); intro _ _; dsimp only))) | ((with_reducible show wpAny _ _ (binaryOp Operator.Mult (Value.ref _) (Value.int _ _)) _ _ _); (((k_here; (with_reducible show wpAny _ _ (binaryOp Operator.Mult (Value.ref _) (Value.int _ _)) _ _ _); k_dflt (refine' my_zeros (by k_asm) (by k_asm) (by k_mem) (by omega) (by omega) ?_;  k_whole); intro _ _ _ _ _ l1 _; (try k_lt l1)); (have _ := l1); clear l1))) | walk_at "mo"))))
  rename_i lz hA lA1 D vz hB iz lD h2 o4 F2 N2 d4
  obtain ⟨oP, hP⟩ := hT.mem
  have hP := ltN (l1 _ (List.mem_append_left _ hP))
  have lD' : ∀ q ∈ tl ++ fr, q.1 < D := by
    have := lD.2.2.2.2
    intro q hq
    exact mem_allLt this q hq
  refine nestDef_K rfl rfl rfl ?_
  refine nest_both (own := [(D, PySem.W.listOf vz.toArray 0), (L1 + 1 + 1 + 1, o1), (L1 + 1 + 1, o4), (L1 + 1, o3)]) (tl := tl) (fr := fr) F2 (news_sub N2 ?_) T (codeHd_of_K X (codeHd80 _)) rfl hT ?_ ?_ rfl ?_
  · (((try simp only [List.cons_append, List.nil_append]); (repeat' (first | exact List.forall_mem_nil _ | refine List.forall_mem_cons.mpr ⟨?_, ?_⟩)) <;> (first | k_mem | (intro _ _; k_mem))))
  · intro p hp
    simp only [List.mem_cons, List.not_mem_nil, or_false] at hp
    rcases hp with rfl | rfl | rfl | rfl <;> k_ne
  · intro q hq r hr
    have := ltN (lD' r (List.mem_append_left _ hr))
    have := ltN (l1 r (List.mem_append_left _ hr))
    simp only [List.mem_cons, List.not_mem_nil, or_false] at hq
    rcases hq with rfl | rfl | rfl | rfl <;> k_ne
  intro f c' oc vs t ctv doc h' tk tl' F3 N3 hW hc' e1 e2 hWW lf hap' hf' hnew
  have hnew' : ∀ r ∈ tl', r ∈ tl ∨ r.1 = 76 ∨ ∀ q ∈ fr, q.1 < r.1 := fun r hr => (hnew r hr).imp id fun h => h.imp id fun h q hq => h q (List.mem_append_right _ hq)
  have oD : ∀ p ∈ tl' ++ fr, p.1 ≠ D := off_app (hap' _ (.head _)) fun p hp => Nat.ne_of_lt (lD' p (List.mem_append_right _ hp))
  have oI : ∀ p ∈ tl' ++ fr, p.1 ≠ L1 + 1 + 1 + 1 := off_app (hap' _ (.tail _ (.head _))) fun p hp => Nat.ne_of_lt (l4 p (List.mem_append_right _ hp))
  have oA : ∀ p ∈ tl' ++ fr, p.1 ≠ L1 + 1 + 1 := off_app (hap' _ (.tail _ (.tail _ (.head _)))) fun p hp => Nat.ne_of_lt (l3 p (List.mem_append_right _ hp))
  have fD := ltN (lf _ (List.mem_append_left _ (.head _)))
  have fI := ltN (lf _ (List.mem_append_left _ (.tail _ (.head _))))
  have fA := ltN (lf _ (List.mem_append_left _ (.tail _ (.tail _ (.head _)))))
  dsimp only at fD fI fA
  replace N3 := (show News _ _ _ ((f, _) :: (D, _) :: (L1 + 1 + 1 + 1, _) :: (L1 + 1 + 1, _) :: (L1 + 1, _) :: (tl' ++ fr)) from N3)
  have N3c := N3
  refine gz0 fun Gz hGz => ?_
  obtain ⟨fo, hfo, N3c⟩ := cap (P := fun o => News _ _ _ ((_, o) :: _)) N3c
  refine hGz ?_
  clear hGz Gz
  have key : ∀ (X : Led) (oI : Obj), (f, fo) ∈ X → (L1 + 1 + 1 + 1, oI) ∈ X → oI.data = .cell (some (.ref f)) → (L1 + 1 + 1, o4) ∈ X → (L1 + 1, o3) ∈ X → (c', oc) ∈ X → (∀ p ∈ X, p.1 ≠ D) →
      ∀ (k : Nat) (x lo hi : Int) (tx tlo thi : Tok) (vs : List Value) (ns : List Int) (n0 : Nat), hi - lo = (k : Int) → 0 < k → 0 ≤ lo → hi ≤ ns.length → ns.length ≤ 64 → IntsAre vs ns → 0 ≤ x → x < 2 ^ 64 → x < (2 ^ n.toNat) ^ k →
      Says (k + 2) (4 * k + 40) f [.int x tx, .int lo tlo, .int hi thi] ((D, PySem.W.listOf vs.toArray n0) :: X)
        (fun v news => v = .none ∧ (Xx2 fun vs' n' => news = (D, PySem.W.listOf vs'.toArray n') :: X ∧ IntsAre vs' (ns.take lo.toNat ++ digs (2 ^ n.toNat) k x ++ ns.drop hi.toNat))) := by
    clear hnew hnew' N3c N3 F3 lf hap' hf' oD oI oA hWW hW F2 N2 lD lA1 lD' iz hT l1 l2 l3 l4 FG B hret
    intro X oI m1 m2 m2' m3 m4 m5 mD k
    induction k using Nat.strongRecOn with
    | ind k IH =>
    intro x lo hi tx tlo thi vs ns n0 hk k0 hlo hhi hlen hint hx0 hx1 hx2
    have hvl := hint.length
    subst hfo
    unfold Says
    intros
    rename_i hret
    have hC : CodeHd _ 80 76 := codeHd_of_K (by assumption) (codeHd80 _)
    refine wpAny_call ?_
    k_dflt walk_at "my enterN"
    (repeat' (first | ((( (fail_if_success with_reducible first | refine st0 ?_ | refine st1 ?_ | refine st2 ?_ | refine st3 ?_))); (fail_if_success with_reducible first | refine st4 ?_); (first | ((with_reducible show wpAny _ _ (call (Value.builtin "len") _) _ _ _); ((k_here; k_dflt (refine' my_len (by k_asm) (by k_mem) (by omega) ?_;  k_whole); intro _ _))) | ((with_reducible show wpAny _ _ (binaryOp Operator.Mult (Value.int _ _) (Value.int _ _)) _ _ _); ((k_here; k_dflt (refine' my_mul (by omega) (by omega) (by omega) (by omega) ?_;  k_whole); intro _ _ _ _ _ _; dsimp only))) | ((with_reducible show wpAny _ _ (binaryOp Operator.RShift (Value.int _ _) (Value.int _ _)) _ _ _); ((k_here; (with_reducible show wpAny _ _ (binaryOp _ (Value.int _ _) (Value.int 1 _)) _ _ _); k_dflt (refine' my_half ?_; k_whole); intro _ _ _ _ _; dsimp only))) | ((with_reducible show wpAny _ _ (binaryOp Operator.RShift (Value.int _ _) (Value.int _ _)) _ _ _); ((k_here; k_dflt (refine' my_shr (by first | assumption | omega) ?_;  k_whole); intro _ _; dsimp only))) | ((with_reducible show wpAny _ _ (binaryOp Operator.LShift (Value.int _ _) (Value.int _ _)) _ _ _); ((k_here; k_dflt (refine' my_shl (by first | assumption | omega) (by first | assumption | omega) (by first | exact shr_small (by assumption) (by assumption) _ | omega) ?_;  k_whole); intro _ _; dsimp only))) | ((with_reducible show wpAny _ _ (binaryOp Operator.BitXor (Value.int _ _) (Value.int _ _)) _ _ _); ((k_here; k_dflt (refine' my_xor ?_; k_whole); intro _ _; dsimp only))) | ((with_reducible show wpAny _ _ (binaryOp Operator.Mult (Value.ref _) (Value.int _ _)) _ _ _); (((k_here; (with_reducible show wpAny _ _ (binaryOp Operator.Mult (Value.ref _) (Value.int _ _)) _ _ _); k_dflt (refine' my_zeros (by k_asm) (by k_asm) (by k_mem) (by omega) (by omega) ?_;  k_whole); intro _ _ _ _ _ l1 _; (try k_lt l1)); (have _ := l1); clear l1))) | walk_at "mo"))))
    · rename_i hq _ hi2 _ _ _ _ _ _
      refine hret _ _ _ _ ⟨rfl, _, _, rfl, ?_⟩ (by k_asm) (by k_asm)
      have hk1 : k = 1 := by omega
      subst hk1
      have e : ns.take lo.toNat ++ digs (2 ^ n.toNat) 1 x ++ ns.drop hi.toNat = ns.set lo.toNat x := by
        have e1 : x % 2 ^ n.toNat = x := Int.emod_eq_of_lt hx0 (by rw [Int.pow_one] at hx2; exact hx2)
        have e2 : hi.toNat = lo.toNat + 1 := by omega
        rw [List.set_eq_take_append_cons_drop, if_pos (by omega), e2]
        simp [digs, e1]
      rw [e]
      assumption
    · rename_i mid tm _ e1' e2' _ sh ts _ e3 z0 z1 _ _ _ _ _ _ _ _ _ F9 N9
      refine gz0 fun Gz hGz => ?_
      obtain ⟨hj, hr9, j9, r9, jr9, ej, ek2, m1, m2, m3, m4, ek, j8, r8⟩ := mid_facts hk hlo k0 (by omega) e1' e2'
      refine hGz ?_
      clear hGz Gz
      clear e1' e2'
      have hBj : (2 : Int) ^ sh.toNat = (2 ^ n.toNat) ^ (mid - lo).toNat := by
        rw [← Int.pow_mul]
        congr 1
        have : (sh.toNat : Int) = ((n.toNat * (mid - lo).toNat : Nat) : Int) := by
          rw [Int.natCast_mul, hj, Int.toNat_of_nonneg z0, Int.toNat_of_nonneg (show 0 ≤ n by omega), e3, Int.mul_comm]
        omega
      have hB0 : (0 : Int) < 2 ^ n.toNat := Int.pow_pos (by decide)
      have hBp : (0 : Int) < (2 ^ n.toNat) ^ (mid - lo).toNat := Int.pow_pos hB0
      rw [xor_low hx0, hBj] at F9 ⊢
      have lo1 : 0 ≤ x % (2 ^ n.toNat) ^ (mid - lo).toNat := Int.emod_nonneg _ (by omega)
      have lo2 : x % (2 ^ n.toNat) ^ (mid - lo).toNat < (2 ^ n.toNat) ^ (mid - lo).toNat := Int.emod_lt_of_pos _ hBp
      have lo3 : x % (2 ^ n.toNat) ^ (mid - lo).toNat ≤ x := mod_le hx0 hBp
      have up1 : 0 ≤ x / (2 ^ n.toNat) ^ (mid - lo).toNat := Int.ediv_nonneg hx0 (by omega)
      have up3 : x / (2 ^ n.toNat) ^ (mid - lo).toNat ≤ x := Int.ediv_le_self _ hx0
      have up2 : x / (2 ^ n.toNat) ^ (mid - lo).toNat < (2 ^ n.toNat) ^ (hi - mid).toNat := by
        rw [Int.ediv_lt_iff_lt_mul hBp, ← Int.pow_add]
        rw [jr9]; exact hx2
      refine' use_says (by k_asm) (by k_asm) (by k_asm) (by k_asm) (by k_asm) rfl (IH (mid - lo).toNat j8 _ lo mid _ _ _ vs ns n0 hj.symm j9 hlo (Int.le_trans m4 hhi) hlen hint lo1 (by omega) lo2) (by ktr_room) (by ktr_units) ?_
      rintro vZ h9 tk9 nZ hJz
      refine gz2 vZ nZ ?_
      intro Gz hGz
      obtain ⟨rfl, vs1, n1, rfl, I1⟩ := hJz
      refine hGz _ _ ?_
      clear hGz Gz
      rintro F8 N8
      (repeat' (first | ((( (fail_if_success with_reducible first | refine st0 ?_ | refine st1 ?_ | refine st2 ?_ | refine st3 ?_))); (fail_if_success with_reducible first | refine st4 ?_); (first | ((with_reducible show wpAny _ _ (call (Value.builtin "len") _) _ _ _); ((k_here; k_dflt (refine' my_len (by k_asm) (by k_mem) (by omega) ?_;  k_whole); intro _ _))) | ((with_reducible show wpAny _ _ (binaryOp Operator.Mult (Value.int _ _) (Value.int _ _)) _ _ _); ((k_here; k_dflt (refine' my_mul (by omega) (by omega) (by omega) (by omega) ?_;  k_whole); intro _ _ _ _ _ _; dsimp only))) | ((with_reducible show wpAny _ _ (binaryOp Operator.RShift (Value.int _ _) (Value.int _ _)) _ _ _); ((k_here; (with_reducible show wpAny _ _ (binaryOp _ (Value.int _ _) (Value.int 1 _)) _ _ _); k_dflt (refine' my_half ?_; k_whole); intro _ _ _ _ _; dsimp only))) | ((with_reducible show wpAny _ _ (binaryOp Operator.RShift (Value.int _ _) (Value.int _ _)) _ _ _); ((k_here; k_dflt (refine' my_shr (by first | assumption | omega) ?_;  k_whole); intro _ _; dsimp only))) | ((with_reducible show wpAny _ _ (binaryOp Operator.LShift (Value.int _ _) (Value.int _ _)) _ _ _); ((k_here; k_dflt (refine' my_shl (by first | assumption | omega) (by first | assumption | omega) (by first | exact shr_small (by assumption) (by assumption) _ | omega) ?_;  k_whole); intro _ _; dsimp only))) | ((with_reducible show wpAny _ _ (binaryOp Operator.BitXor (Value.int _ _) (Value.int _ _)) _ _ _); ((k_here; k_dflt (refine' my_xor ?_; k_whole); intro _ _; dsimp only))) | ((with_reducible show wpAny _ _ (binaryOp Operator.Mult (Value.ref _) (Value.int _ _)) _ _ _); (((k_here; (with_reducible show wpAny _ _ (binaryOp Operator.Mult (Value.ref _) (Value.int _ _)) _ _ _); k_dflt (refine' my_zeros (by k_asm) (by k_asm) (by k_mem) (by omega) (by omega) ?_;  k_whole); intro _ _ _ _ _ l1 _; (try k_lt l1)); (have _ := l1); clear l1))) | walk_at "mo"))))
      have hl1 := splice_len (2 ^ n.toNat) ns lo.toNat mid.toNat (x % (2 ^ n.toNat) ^ (mid - lo).toNat) (by omega) (by omega)
      rw [ej] at I1 hl1
      refine' use_says (by k_asm) (by k_asm) (by k_asm) (by k_asm) (by k_asm) rfl (IH (hi - mid).toNat r8 _ mid hi _ _ _ vs1 _ n1 hr9.symm r9 (Int.le_trans hlo m3) (by rw [hl1]; exact hhi) (by rw [hl1]; exact hlen) I1 up1 (by omega) up2) (by ktr_room) (by ktr_units) ?_
      rintro vZ h9 tk9 nZ hJz
      refine gz2 vZ nZ ?_
      intro Gz hGz
      obtain ⟨rfl, vs2, n2, rfl, I2⟩ := hJz
      refine hGz _ _ ?_
      clear hGz Gz
      rintro F8 N8
      (repeat' (first | ((( (fail_if_success with_reducible first | refine st0 ?_ | refine st1 ?_ | refine st2 ?_ | refine st3 ?_))); (fail_if_success with_reducible first | refine st4 ?_); (first | ((with_reducible show wpAny _ _ (call (Value.builtin "len") _) _ _ _); ((k_here; k_dflt (refine' my_len (by k_asm) (by k_mem) (by omega) ?_;  k_whole); intro _ _))) | ((with_reducible show wpAny _ _ (binaryOp Operator.Mult (Value.int _ _) (Value.int _ _)) _ _ _); ((k_here; k_dflt (refine' my_mul (by omega) (by omega) (by omega) (by omega) ?_;  k_whole); intro _ _ _ _ _ _; dsimp only))) | ((with_reducible show wpAny _ _ (binaryOp Operator.RShift (Value.int _ _) (Value.int _ _)) _ _ _); ((k_here; (with_reducible show wpAny _ _ (binaryOp _ (Value.int _ _) (Value.int 1 _)) _ _ _); k_dflt (refine' my_half ?_; k_whole); intro _ _ _ _ _; dsimp only))) | ((with_reducible show wpAny _ _ (binaryOp Operator.RShift (Value.int _ _) (Value.int _ _)) _ _ _); ((k_here; k_dflt (refine' my_shr (by first | assumption | omega) ?_;  k_whole); intro _ _; dsimp only))) | ((with_reducible show wpAny _ _ (binaryOp Operator.LShift (Value.int _ _) (Value.int _ _)) _ _ _); ((k_here; k_dflt (refine' my_shl (by first | assumption | omega) (by first | assumption | omega) (by first | exact shr_small (by assumption) (by assumption) _ | omega) ?_;  k_whole); intro _ _; dsimp only))) | ((with_reducible show wpAny _ _ (binaryOp Operator.BitXor (Value.int _ _) (Value.int _ _)) _ _ _); ((k_here; k_dflt (refine' my_xor ?_; k_whole); intro _ _; dsimp only))) | ((with_reducible show wpAny _ _ (binaryOp Operator.Mult (Value.ref _) (Value.int _ _)) _ _ _); (((k_here; (with_reducible show wpAny _ _ (binaryOp Operator.Mult (Value.ref _) (Value.int _ _)) _ _ _); k_dflt (refine' my_zeros (by k_asm) (by k_asm) (by k_mem) (by omega) (by omega) ?_;  k_whole); intro _ _ _ _ _ l1 _; (try k_lt l1)); (have _ := l1); clear l1))) | walk_at "mo"))))
      refine hret _ _ _ _ ⟨rfl, _, _, rfl, ?_⟩ (by k_asm) (by k_asm)
      rw [ek2, ej, splice2 hB0 ns lo.toNat mid.toNat hi.toNat k x m1 m2 (by omega) ek] at I2
      exact I2
  subst hfo
  clear N3c
  try k_fold
  have hC : CodeHd g1 80 76 := codeHd_of_K X (codeHd80 _)
  have hz := iz.length
  rw [List.length_replicate] at hz
  have hB0 : (0 : Int) < 2 ^ n.toNat := Int.pow_pos (by decide)
  have hpow := lt_digs a n h0 h2'
  (repeat' (first | ((( (fail_if_success with_reducible first | refine st0 ?_ | refine st1 ?_ | refine st2 ?_ | refine st3 ?_))); (fail_if_success with_reducible first | refine st4 ?_); (first | ((with_reducible show wpAny _ _ (call (Value.builtin "len") _) _ _ _); ((k_here; k_dflt (refine' my_len (by k_asm) (by k_mem) (by omega) ?_;  k_whole); intro _ _))) | ((with_reducible show wpAny _ _ (binaryOp Operator.Mult (Value.int _ _) (Value.int _ _)) _ _ _); ((k_here; k_dflt (refine' my_mul (by omega) (by omega) (by omega) (by omega) ?_;  k_whole); intro _ _ _ _ _ _; dsimp only))) | ((with_reducible show wpAny _ _ (binaryOp Operator.RShift (Value.int _ _) (Value.int _ _)) _ _ _); ((k_here; (with_reducible show wpAny _ _ (binaryOp _ (Value.int _ _) (Value.int 1 _)) _ _ _); k_dflt (refine' my_half ?_; k_whole); intro _ _ _ _ _; dsimp only))) | ((with_reducible show wpAny _ _ (binaryOp Operator.RShift (Value.int _ _) (Value.int _ _)) _ _ _); ((k_here; k_dflt (refine' my_shr (by first | assumption | omega) ?_;  k_whole); intro _ _; dsimp only))) | ((with_reducible show wpAny _ _ (binaryOp Operator.LShift (Value.int _ _) (Value.int _ _)) _ _ _); ((k_here; k_dflt (refine' my_shl (by first | assumption | omega) (by first | assumption | omega) (by first | exact shr_small (by assumption) (by assumption) _ | omega) ?_;  k_whole); intro _ _; dsimp only))) | ((with_reducible show wpAny _ _ (binaryOp Operator.BitXor (Value.int _ _) (Value.int _ _)) _ _ _); ((k_here; k_dflt (refine' my_xor ?_; k_whole); intro _ _; dsimp only))) | ((with_reducible show wpAny _ _ (binaryOp Operator.Mult (Value.ref _) (Value.int _ _)) _ _ _); (((k_here; (with_reducible show wpAny _ _ (binaryOp Operator.Mult (Value.ref _) (Value.int _ _)) _ _ _); k_dflt (refine' my_zeros (by k_asm) (by k_asm) (by k_mem) (by omega) (by omega) ?_;  k_whole); intro _ _ _ _ _ l1 _; (try k_lt l1)); (have _ := l1); clear l1))) | walk_at "mo"))))
  · (rename Fr g1 L1 _ _ => F9)
    (rename News g1 L1 _ _ => N9)
    (rename _ = Data.cell (some (Value.ref f)) => d9)
    refine' use_says (by k_asm) F9 (by k_asm) (news_sub N9 ?hN) (by k_asm) rfl (key ((f, _) :: (L1 + 1 + 1 + 1, _) :: (L1 + 1 + 1, o4) :: (L1 + 1, o3) :: (tl' ++ fr)) _ (.head _) (.tail _ (.head _)) d9 (.tail _ (.tail _ (.head _))) (.tail _ (.tail _ (.tail _ (.head _)))) (List.mem_cons_of_mem _ (List.mem_cons_of_mem _ (List.mem_cons_of_mem _ (List.mem_cons_of_mem _ (List.mem_append_left _ hc'))))) ?mD
      vz.length a 0 vz.length _ _ _ vz _ 0 (by omega) ?kp (by omega) (by simp; omega) (by simp; omega) iz h0 h1 (by rw [hz]; exact hpow)) ?hd ?hu ?_
    case hN => (((try simp only [List.cons_append, List.nil_append]); (repeat' (first | exact List.forall_mem_nil _ | refine List.forall_mem_cons.mpr ⟨?_, ?_⟩)) <;> (first | k_mem | (intro _ _; k_mem))))
    case mD =>
      intro p hp
      simp only [List.mem_cons] at hp
      rcases hp with rfl | rfl | rfl | rfl | hp
      · k_ne
      · k_ne
      · k_ne
      · k_ne
      · exact oD p hp
    case kp =>
      have hb1 : 1 ≤ Builtin.Int.intBits a := by
        unfold Builtin.Int.intBits
        rw [if_neg (by simpa using (by assumption : a ≠ 0))]
        omega
      have : 1 ≤ ((Builtin.Int.intBits a : Int) + n - 1).fdiv n := by
        rw [Int.fdiv_eq_ediv_of_nonneg _ (by omega), Int.le_ediv_iff_mul_le (by omega)]
        omega
      omega
    case hd => ktr_room
    case hu => ktr_units
    rintro vZ h9 tk9 nZ hJz
    refine gz2 vZ nZ ?_
    intro Gz hGz
    obtain ⟨rfl, vs2, n2, rfl, I2⟩ := hJz
    refine hGz _ _ ?_
    clear hGz Gz
    rintro F8 N8
    (repeat' (first | ((( (fail_if_success with_reducible first | refine st0 ?_ | refine st1 ?_ | refine st2 ?_ | refine st3 ?_))); (fail_if_success with_reducible first | refine st4 ?_); (first | ((with_reducible show wpAny _ _ (call (Value.builtin "len") _) _ _ _); ((k_here; k_dflt (refine' my_len (by k_asm) (by k_mem) (by omega) ?_;  k_whole); intro _ _))) | ((with_reducible show wpAny _ _ (binaryOp Operator.Mult (Value.int _ _) (Value.int _ _)) _ _ _); ((k_here; k_dflt (refine' my_mul (by omega) (by omega) (by omega) (by omega) ?_;  k_whole); intro _ _ _ _ _ _; dsimp only))) | ((with_reducible show wpAny _ _ (binaryOp Operator.RShift (Value.int _ _) (Value.int _ _)) _ _ _); ((k_here; (with_reducible show wpAny _ _ (binaryOp _ (Value.int _ _) (Value.int 1 _)) _ _ _); k_dflt (refine' my_half ?_; k_whole); intro _ _ _ _ _; dsimp only))) | ((with_reducible show wpAny _ _ (binaryOp Operator.RShift (Value.int _ _) (Value.int _ _)) _ _ _); ((k_here; k_dflt (refine' my_shr (by first | assumption | omega) ?_;  k_whole); intro _ _; dsimp only))) | ((with_reducible show wpAny _ _ (binaryOp Operator.LShift (Value.int _ _) (Value.int _ _)) _ _ _); ((k_here; k_dflt (refine' my_shl (by first | assumption | omega) (by first | assumption | omega) (by first | exact shr_small (by assumption) (by assumption) _ | omega) ?_;  k_whole); intro _ _; dsimp only))) | ((with_reducible show wpAny _ _ (binaryOp Operator.BitXor (Value.int _ _) (Value.int _ _)) _ _ _); ((k_here; k_dflt (refine' my_xor ?_; k_whole); intro _ _; dsimp only))) | ((with_reducible show wpAny _ _ (binaryOp Operator.Mult (Value.ref _) (Value.int _ _)) _ _ _); (((k_here; (with_reducible show wpAny _ _ (binaryOp Operator.Mult (Value.ref _) (Value.int _ _)) _ _ _); k_dflt (refine' my_zeros (by k_asm) (by k_asm) (by k_mem) (by omega) (by omega) ?_;  k_whole); intro _ _ _ _ _ l1 _; (try k_lt l1)); (have _ := l1); clear l1))) | walk_at "mo"))))
    refine hret _ _ _ ((D, _) :: (tl' ++ fr)) ⟨D, vs2, vz.length, n2, tl', rfl, rfl, ?_, by rw [hz]; exact hpow, by omega, hW, hWW, fun p hp => lD' p (List.mem_append_right _ hp), hap' _ (.head _), hnew'⟩ (by k_asm) (news_sub (by k_asm) (by (((try simp only [List.cons_append, List.nil_append]); (repeat' (first | exact List.forall_mem_nil _ | refine List.forall_mem_cons.mpr ⟨?_, ?_⟩)) <;> (first | k_mem | (intro _ _; k_mem))))))
    have e : (List.replicate (((Builtin.Int.intBits a : Int) + n - 1).fdiv n).toNat (0 : Int)).take (0 : Int).toNat ++ digs (2 ^ n.toNat) vz.length a ++ (List.replicate (((Builtin.Int.intBits a : Int) + n - 1).fdiv n).toNat (0 : Int)).drop ((vz.length : Nat) : Int).toNat = digs (2 ^ n.toNat) vz.length a := by
      have e0 : (vz.length : Int).toNat = (((Builtin.Int.intBits a : Int) + n - 1).fdiv n).toNat := by rw [← hz]; rfl
      rw [e0, List.drop_eq_nil_of_le (by rw [List.length_replicate]; exact Nat.le_refl _)]
      simp
    rw [e] at I2
    exact I2
  · rename_i ha0 _ _ _ _
    subst ha0
    have hz0 : vz.length = 0 := by
      rw [hz]
      have : Builtin.Int.intBits 0 = 0 := rfl
      rw [this, Int.fdiv_eq_ediv_of_nonneg _ (by omega)]
      have : ((0 : Nat) : Int) + n - 1 < n := by omega
      rw [Int.ediv_eq_zero_of_lt (by omega) this]
      rfl
    have hvz : vz = [] := List.eq_nil_of_length_eq_zero hz0
    subst hvz
    exact hret _ _ _ ((D, _) :: (tl' ++ fr)) ⟨D, [], 0, 0, tl', rfl, rfl, .nil, by simp, by omega, hW, hWW, fun p hp => lD' p (List.mem_append_right _ hp), hap' _ (.head _), hnew'⟩ (by k_asm) (news_sub (by k_asm) (by (((try simp only [List.cons_append, List.nil_append]); (repeat' (first | exact List.forall_mem_nil _ | refine List.forall_mem_cons.mpr ⟨?_, ?_⟩)) <;> (first | k_mem | (intro _ _; k_mem))))))
end Mine
-- C5
namespace Mine
section
variable {prog : Program} {w : World} {A : Around} {E : Value → Shared → Prop} {s : Shared} {h₀ : Heap} {L : Addr} {m : Str → Option Value} {news : Led}
theorem my_truthy {l : Addr} {vs : List Value} {n : Nat} {Q : Bool → Shared → Prop} (N : News h₀ L s.heap news) (hm : (l, PySem.W.listOf vs.toArray n) ∈ news) (hb : vs.length < 2 ^ 62)
    (h : ∀ t', Q (decide (0 < vs.length)) { s with toks := t' }) : wpAny (model prog w) A (truthy (.ref l)) Q E s := by
  refine wpAny_truthy_list (News.isList N hm) ?_ ?_
  · have e : vs.toArray.size = vs.length := by simp
    rw [e]; omega
  · have e : (!vs.toArray.isEmpty) = decide (0 < vs.length) := by
      cases vs with
      | nil => rfl
      | cons a r => simp
    rw [e]; exact h _
end
end Mine
namespace Mine
theorem says_d2i (l : Addr) (vs : List Value) (ns : List Int) (n0 : Nat) (n : Int) (t2 : Tok) (tl fr : Led) (hm : (l, PySem.W.listOf vs.toArray n0) ∈ fr) (hi : IntsAre vs ns) (hlen : ns.length ≤ 64) (h2' : 0 < n) (h3 : n ≤ 64)
    (hseg : ∀ lo k, 0 ≤ valB (2 ^ n.toNat) ((ns.drop lo).take k) ∧ valB (2 ^ n.toNat) ((ns.drop lo).take k) < 2 ^ 64) (hT : Tab 83 105 4 "_digits2int.<locals>.inner" tl fr) :
    Says 80 400 88 [.ref l, .int n t2] (tl ++ fr) (fun v news => (Xx2 fun t tl' => Aa5 (v = .int (valB (2 ^ n.toNat) ns) t) (news = (tl' ++ fr)) (Warm 83 105 4 "_digits2int.<locals>.inner" tl') ((Warm 83 105 4 "_digits2int.<locals>.inner" tl → tl' = tl)) ((∀ r ∈ tl', r ∈ tl ∨ r.1 = 83 ∨ ∀ q ∈ fr, q.1 < r.1)))) := by
  ((have hfill : Mine.hd.heap_39 = Mine.hd.heap_39 ∧ PySem.Challenge.rw_sn0098_01 = PySem.Challenge.rw_sn0098_01 := (by k_fill; exact ⟨rfl, rfl⟩)); clear hfill)
  unfold Says
  intros
  rename_i hret
  have hvl := hi.length
  refine wpAny_call ?_
  k_dflt walk_at "my enterC"
  rename_i g1 L1 hp1 tk1 FG F B X T l1 l2 l3 l4 o1 o2 o3 d1 d2 d3 N
  replace d1 : o1.data = Data.cell none := d1
  replace d2 : o2.data = Data.cell (some (.int n t2)) := d2
  replace d3 : o3.data = Data.cell (some (.ref l)) := d3
  obtain ⟨m', F1⟩ := names_ex F [] all_nil
  clear F
  (repeat' (first | ((( (fail_if_success with_reducible first | refine st0 ?_ | refine st1 ?_ | refine st2 ?_ | refine st3 ?_))); (fail_if_success with_reducible first | refine st4 ?_); (first | ((with_reducible show wpAny _ _ (subscriptTail (PySem.Expr.Name _ _) (PySem.Expr.Name _ _) (Value.ref _) (Value.int _ _)) _ _ _); ((k_here; (with_reducible show wpAny _ _ (subscriptTail _ _ (Value.ref _) (Value.int _ _)) _ _ _); k_dflt (refine' my_item_ints (by k_asm) (by k_mem) (by assumption) (by omega) (by omega) (by omega) ?_;  k_whole); intro _))) | ((with_reducible show wpAny _ _ (call (Value.builtin "len") _) _ _ _); ((k_here; k_dflt (refine' my_len (by k_asm) (by k_mem) (by omega) ?_;  k_whole); intro _ _))) | ((with_reducible show wpAny _ _ (binaryOp Operator.Mult (Value.int _ _) (Value.int _ _)) _ _ _); ((k_here; k_dflt (refine' my_mul (by omega) (by omega) (by omega) (by omega) ?_;  k_whole); intro _ _ _ _ _ _; dsimp only))) | ((with_reducible show wpAny _ _ (binaryOp Operator.RShift (Value.int _ _) (Value.int _ _)) _ _ _); ((k_here; (with_reducible show wpAny _ _ (binaryOp _ (Value.int _ _) (Value.int 1 _)) _ _ _); k_dflt (refine' my_half ?_; k_whole); intro _ _ _ _ _; dsimp only))) | ((with_reducible show wpAny _ _ (binaryOp Operator.RShift (Value.int _ _) (Value.int _ _)) _ _ _); ((k_here; k_dflt (refine' my_shr (by first | assumption | omega) ?_;  k_whole); intro _ _; dsimp only))) | ((with_reducible show wpAny _ _ (binaryOp Operator.LShift (Value.int _ _) (Value.int _ _)) _ _ _); ((k_here; k_dflt (refine' my_shl (by first | assumption | omega) (by first | assumption | omega) (by first | exact shr_small (by assumption) (by assumption) _ | omega) ?_;  k_whole); intro _ _; dsimp only))) | ((with_reducible show wpAny _ _ (truthy (Value.ref _)) _ _ _); ((k_here; k_dflt (refine' my_truthy (by k_asm) (by k_mem) (by omega) ?_;  k_whole); intro _; dsimp only))) | walk_at "mo"))))
  obtain ⟨oP, hP⟩ := hT.mem
  have hP := ltN (l1 _ (List.mem_append_left _ hP))
  refine nestDef_K rfl rfl rfl ?_
  refine nest_both (own := [(L1 + 1 + 1 + 1, o1), (L1 + 1 + 1, o2), (L1 + 1, o3)]) (tl := tl) (fr := fr) F1 (news_sub N ?_) T (codeHd_of_K X (codeHd87 _)) rfl hT ?_ ?_ rfl ?_
  · (((try simp only [List.cons_append, List.nil_append]); (repeat' (first | exact List.forall_mem_nil _ | refine List.forall_mem_cons.mpr ⟨?_, ?_⟩)) <;> (first | k_mem | (intro _ _; k_mem))))
  · intro p hp
    simp only [List.mem_cons, List.not_mem_nil, or_false] at hp
    rcases hp with rfl | rfl | rfl <;> k_ne
  · intro q hq r hr
    have := ltN (l1 r (List.mem_append_left _ hr))
    simp only [List.mem_cons, List.not_mem_nil, or_false] at hq
    rcases hq with rfl | rfl | rfl <;> k_ne
  intro f c' oc vs' t ctv doc h' tk tl' F3 N3 hW hc' e1 e2 hWW lf hap' hf' hnew
  have hnew' : ∀ r ∈ tl', r ∈ tl ∨ r.1 = 83 ∨ ∀ q ∈ fr, q.1 < r.1 := fun r hr => (hnew r hr).imp id fun h => h.imp id fun h q hq => h q (List.mem_append_right _ hq)
  have oI : ∀ p ∈ tl' ++ fr, p.1 ≠ L1 + 1 + 1 + 1 := off_app (hap' _ (.head _)) fun p hp => Nat.ne_of_lt (l4 p (List.mem_append_right _ hp))
  have fI := ltN (lf _ (List.mem_append_left _ (.head _)))
  dsimp only at fI
  replace N3 := (show News _ _ _ ((f, _) :: (L1 + 1 + 1 + 1, _) :: (L1 + 1 + 1, _) :: (L1 + 1, _) :: (tl' ++ fr)) from N3)
  have N3c := N3
  refine gz0 fun Gz hGz => ?_
  obtain ⟨fo, hfo, N3c⟩ := cap (P := fun o => News _ _ _ ((_, o) :: _)) N3c
  refine hGz ?_
  clear hGz Gz
  have key : ∀ (X : Led) (oI : Obj), (f, fo) ∈ X → (L1 + 1 + 1 + 1, oI) ∈ X → oI.data = .cell (some (.ref f)) → (L1 + 1 + 1, o2) ∈ X → (L1 + 1, o3) ∈ X → (c', oc) ∈ X → (l, PySem.W.listOf vs.toArray n0) ∈ X →
      ∀ (k : Nat) (lo hi : Int) (tlo thi : Tok), hi - lo = (k : Int) → 0 < k → 0 ≤ lo → hi ≤ ns.length →
      Says (k + 2) (4 * k + 40) f [.int lo tlo, .int hi thi] X (fun v news => news = X ∧ ∃ t, v = .int (valB (2 ^ n.toNat) ((ns.drop lo.toNat).take k)) t) := by
    clear hnew hnew' N3c N3 F3 lf hap' hf' oI hWW hW N hT l1 l2 l3 l4 FG B hret
    intro X oI m1 m2 m2' m3 m4 m5 m6 k
    induction k using Nat.strongRecOn with
    | ind k IH =>
    intro lo hi tlo thi hk k0 hlo hhi
    subst hfo
    unfold Says
    intros
    rename_i hret
    have hC : CodeHd _ 87 83 := codeHd_of_K (by assumption) (codeHd87 _)
    refine wpAny_call ?_
    k_dflt walk_at "my enterN"
    (repeat' (first | ((( (fail_if_success with_reducible first | refine st0 ?_ | refine st1 ?_ | refine st2 ?_ | refine st3 ?_))); (fail_if_success with_reducible first | refine st4 ?_); (first | ((with_reducible show wpAny _ _ (subscriptTail (PySem.Expr.Name _ _) (PySem.Expr.Name _ _) (Value.ref _) (Value.int _ _)) _ _ _); ((k_here; (with_reducible show wpAny _ _ (subscriptTail _ _ (Value.ref _) (Value.int _ _)) _ _ _); k_dflt (refine' my_item_ints (by k_asm) (by k_mem) (by assumption) (by omega) (by omega) (by omega) ?_;  k_whole); intro _))) | ((with_reducible show wpAny _ _ (call (Value.builtin "len") _) _ _ _); ((k_here; k_dflt (refine' my_len (by k_asm) (by k_mem) (by omega) ?_;  k_whole); intro _ _))) | ((with_reducible show wpAny _ _ (binaryOp Operator.Mult (Value.int _ _) (Value.int _ _)) _ _ _); ((k_here; k_dflt (refine' my_mul (by omega) (by omega) (by omega) (by omega) ?_;  k_whole); intro _ _ _ _ _ _; dsimp only))) | ((with_reducible show wpAny _ _ (binaryOp Operator.RShift (Value.int _ _) (Value.int _ _)) _ _ _); ((k_here; (with_reducible show wpAny _ _ (binaryOp _ (Value.int _ _) (Value.int 1 _)) _ _ _); k_dflt (refine' my_half ?_; k_whole); intro _ _ _ _ _; dsimp only))) | ((with_reducible show wpAny _ _ (binaryOp Operator.RShift (Value.int _ _) (Value.int _ _)) _ _ _); ((k_here; k_dflt (refine' my_shr (by first | assumption | omega) ?_;  k_whole); intro _ _; dsimp only))) | ((with_reducible show wpAny _ _ (binaryOp Operator.LShift (Value.int _ _) (Value.int _ _)) _ _ _); ((k_here; k_dflt (refine' my_shl (by first | assumption | omega) (by first | assumption | omega) (by first | exact shr_small (by assumption) (by assumption) _ | omega) ?_;  k_whole); intro _ _; dsimp only))) | ((with_reducible show wpAny _ _ (truthy (Value.ref _)) _ _ _); ((k_here; k_dflt (refine' my_truthy (by k_asm) (by k_mem) (by omega) ?_;  k_whole); intro _; dsimp only))) | walk_at "mo"))))
    · have hk1 : k = 1 := by omega
      subst hk1
      have e := seg_one (2 ^ n.toNat) ns lo.toNat (by omega)
      exact hret _ _ _ _ ⟨rfl, _, congrArg (fun z => Value.int z _) e.symm⟩ (by k_asm) (by k_asm)
    · rename_i mid tm _ e1' e2' _ sh ts _ e3 z0 z1 _ F9 N9
      refine gz0 fun Gz hGz => ?_
      obtain ⟨hj, hr9, j9, r9, jr9, ej, ek2, m1, m2, m3, m4, ek, j8, r8⟩ := mid_facts (by omega : hi - lo = k) (by omega) (by omega) (by omega) e1' e2'
      refine hGz ?_
      clear hGz Gz
      clear e1' e2'
      have hBj : (2 : Int) ^ sh.toNat = (2 ^ n.toNat) ^ (mid - lo).toNat := by
        rw [← Int.pow_mul]
        congr 1
        have : (sh.toNat : Int) = ((n.toNat * (mid - lo).toNat : Nat) : Int) := by
          rw [Int.natCast_mul, hj, Int.toNat_of_nonneg z0, Int.toNat_of_nonneg (show 0 ≤ n by omega), e3, Int.mul_comm]
        omega
      have hv := hseg mid.toNat (hi - mid).toNat
      refine' use_says (by k_asm) (by k_asm) (by k_asm) (by k_asm) (by k_asm) rfl (IH (hi - mid).toNat r8 mid hi _ _ hr9.symm r9 (by omega) (by omega)) (by ktr_room) (by ktr_units) ?_
      rintro vZ h9 tk9 nZ hJz
      refine gz2 vZ nZ ?_
      intro Gz hGz
      obtain ⟨rfl, _, rfl⟩ := hJz
      refine hGz _ _ ?_
      clear hGz Gz
      rintro F8 N8
      (repeat' (first | ((( (fail_if_success with_reducible first | refine st0 ?_ | refine st1 ?_ | refine st2 ?_ | refine st3 ?_))); (fail_if_success with_reducible first | refine st4 ?_); (first | ((with_reducible show wpAny _ _ (subscriptTail (PySem.Expr.Name _ _) (PySem.Expr.Name _ _) (Value.ref _) (Value.int _ _)) _ _ _); ((k_here; (with_reducible show wpAny _ _ (subscriptTail _ _ (Value.ref _) (Value.int _ _)) _ _ _); k_dflt (refine' my_item_ints (by k_asm) (by k_mem) (by assumption) (by omega) (by omega) (by omega) ?_;  k_whole); intro _))) | ((with_reducible show wpAny _ _ (call (Value.builtin "len") _) _ _ _); ((k_here; k_dflt (refine' my_len (by k_asm) (by k_mem) (by omega) ?_;  k_whole); intro _ _))) | ((with_reducible show wpAny _ _ (binaryOp Operator.Mult (Value.int _ _) (Value.int _ _)) _ _ _); ((k_here; k_dflt (refine' my_mul (by omega) (by omega) (by omega) (by omega) ?_;  k_whole); intro _ _ _ _ _ _; dsimp only))) | ((with_reducible show wpAny _ _ (binaryOp Operator.RShift (Value.int _ _) (Value.int _ _)) _ _ _); ((k_here; (with_reducible show wpAny _ _ (binaryOp _ (Value.int _ _) (Value.int 1 _)) _ _ _); k_dflt (refine' my_half ?_; k_whole); intro _ _ _ _ _; dsimp only))) | ((with_reducible show wpAny _ _ (binaryOp Operator.RShift (Value.int _ _) (Value.int _ _)) _ _ _); ((k_here; k_dflt (refine' my_shr (by first | assumption | omega) ?_;  k_whole); intro _ _; dsimp only))) | ((with_reducible show wpAny _ _ (binaryOp Operator.LShift (Value.int _ _) (Value.int _ _)) _ _ _); ((k_here; k_dflt (refine' my_shl (by first | assumption | omega) (by first | assumption | omega) (by first | exact shr_small (by assumption) (by assumption) _ | omega) ?_;  k_whole); intro _ _; dsimp only))) | ((with_reducible show wpAny _ _ (truthy (Value.ref _)) _ _ _); ((k_here; k_dflt (refine' my_truthy (by k_asm) (by k_mem) (by omega) ?_;  k_whole); intro _; dsimp only))) | walk_at "mo"))))
      refine' use_says (by k_asm) (by k_asm) (by k_asm) (by k_asm) (by k_asm) rfl (IH (mid - lo).toNat j8 lo mid _ _ hj.symm j9 (by omega) (by omega)) (by ktr_room) (by ktr_units) ?_
      rintro vZ h9 tk9 nZ hJz
      refine gz2 vZ nZ ?_
      intro Gz hGz
      obtain ⟨rfl, _, rfl⟩ := hJz
      refine hGz _ _ ?_
      clear hGz Gz
      rintro F8 N8
      (repeat' (first | ((( (fail_if_success with_reducible first | refine st0 ?_ | refine st1 ?_ | refine st2 ?_ | refine st3 ?_))); (fail_if_success with_reducible first | refine st4 ?_); (first | ((with_reducible show wpAny _ _ (subscriptTail (PySem.Expr.Name _ _) (PySem.Expr.Name _ _) (Value.ref _) (Value.int _ _)) _ _ _); ((k_here; (with_reducible show wpAny _ _ (subscriptTail _ _ (Value.ref _) (Value.int _ _)) _ _ _); k_dflt (refine' my_item_ints (by k_asm) (by k_mem) (by assumption) (by omega) (by omega) (by omega) ?_;  k_whole); intro _))) | ((with_reducible show wpAny _ _ (call (Value.builtin "len") _) _ _ _); ((k_here; k_dflt (refine' my_len (by k_asm) (by k_mem) (by omega) ?_;  k_whole); intro _ _))) | ((with_reducible show wpAny _ _ (binaryOp Operator.Mult (Value.int _ _) (Value.int _ _)) _ _ _); ((k_here; k_dflt (refine' my_mul (by omega) (by omega) (by omega) (by omega) ?_;  k_whole); intro _ _ _ _ _ _; dsimp only))) | ((with_reducible show wpAny _ _ (binaryOp Operator.RShift (Value.int _ _) (Value.int _ _)) _ _ _); ((k_here; (with_reducible show wpAny _ _ (binaryOp _ (Value.int _ _) (Value.int 1 _)) _ _ _); k_dflt (refine' my_half ?_; k_whole); intro _ _ _ _ _; dsimp only))) | ((with_reducible show wpAny _ _ (binaryOp Operator.RShift (Value.int _ _) (Value.int _ _)) _ _ _); ((k_here; k_dflt (refine' my_shr (by first | assumption | omega) ?_;  k_whole); intro _ _; dsimp only))) | ((with_reducible show wpAny _ _ (binaryOp Operator.LShift (Value.int _ _) (Value.int _ _)) _ _ _); ((k_here; k_dflt (refine' my_shl (by first | assumption | omega) (by first | assumption | omega) (by first | exact shr_small (by assumption) (by assumption) _ | omega) ?_;  k_whole); intro _ _; dsimp only))) | ((with_reducible show wpAny _ _ (truthy (Value.ref _)) _ _ _); ((k_here; k_dflt (refine' my_truthy (by k_asm) (by k_mem) (by omega) ?_;  k_whole); intro _; dsimp only))) | walk_at "mo"))))
      have e := seg_split (2 ^ n.toNat) ns lo.toNat (mid - lo).toNat k (by omega) (by omega)
      have e2 : lo.toNat + (mid - lo).toNat = mid.toNat := by omega
      have e3' : k - (mid - lo).toNat = (hi - mid).toNat := by omega
      rw [e2, e3'] at e
      have e4 : valB (2 ^ n.toNat) ((ns.drop mid.toNat).take (hi - mid).toNat) * 2 ^ sh.toNat + valB (2 ^ n.toNat) ((ns.drop lo.toNat).take (mid - lo).toNat) = valB (2 ^ n.toNat) ((ns.drop lo.toNat).take k) := by
        rw [e, hBj, Int.mul_comm, Int.add_comm]
      exact hret _ _ _ _ ⟨rfl, _, congrArg (fun z => Value.int z _) e4⟩ (by k_asm) (by k_asm)
  subst hfo
  clear N3c
  try k_fold
  have hC : CodeHd g1 87 83 := codeHd_of_K X (codeHd87 _)
  (repeat' (first | ((( (fail_if_success with_reducible first | refine st0 ?_ | refine st1 ?_ | refine st2 ?_ | refine st3 ?_))); (fail_if_success with_reducible first | refine st4 ?_); (first | ((with_reducible show wpAny _ _ (subscriptTail (PySem.Expr.Name _ _) (PySem.Expr.Name _ _) (Value.ref _) (Value.int _ _)) _ _ _); ((k_here; (with_reducible show wpAny _ _ (subscriptTail _ _ (Value.ref _) (Value.int _ _)) _ _ _); k_dflt (refine' my_item_ints (by k_asm) (by k_mem) (by assumption) (by omega) (by omega) (by omega) ?_;  k_whole); intro _))) | ((with_reducible show wpAny _ _ (call (Value.builtin "len") _) _ _ _); ((k_here; k_dflt (refine' my_len (by k_asm) (by k_mem) (by omega) ?_;  k_whole); intro _ _))) | ((with_reducible show wpAny _ _ (binaryOp Operator.Mult (Value.int _ _) (Value.int _ _)) _ _ _); ((k_here; k_dflt (refine' my_mul (by omega) (by omega) (by omega) (by omega) ?_;  k_whole); intro _ _ _ _ _ _; dsimp only))) | ((with_reducible show wpAny _ _ (binaryOp Operator.RShift (Value.int _ _) (Value.int _ _)) _ _ _); ((k_here; (with_reducible show wpAny _ _ (binaryOp _ (Value.int _ _) (Value.int 1 _)) _ _ _); k_dflt (refine' my_half ?_; k_whole); intro _ _ _ _ _; dsimp only))) | ((with_reducible show wpAny _ _ (binaryOp Operator.RShift (Value.int _ _) (Value.int _ _)) _ _ _); ((k_here; k_dflt (refine' my_shr (by first | assumption | omega) ?_;  k_whole); intro _ _; dsimp only))) | ((with_reducible show wpAny _ _ (binaryOp Operator.LShift (Value.int _ _) (Value.int _ _)) _ _ _); ((k_here; k_dflt (refine' my_shl (by first | assumption | omega) (by first | assumption | omega) (by first | exact shr_small (by assumption) (by assumption) _ | omega) ?_;  k_whole); intro _ _; dsimp only))) | ((with_reducible show wpAny _ _ (truthy (Value.ref _)) _ _ _); ((k_here; k_dflt (refine' my_truthy (by k_asm) (by k_mem) (by omega) ?_;  k_whole); intro _; dsimp only))) | walk_at "mo"))))
  · (rename Fr g1 L1 _ _ => F9)
    (rename News g1 L1 _ _ => N9)
    (rename _ = Data.cell (some (Value.ref f)) => d9)
    refine' use_says (by k_asm) F9 (by k_asm) N9 (by k_asm) rfl (key _ _ (.head _) (.tail _ (.head _)) d9 (.tail _ (.tail _ (.head _))) (.tail _ (.tail _ (.tail _ (.head _)))) (List.mem_cons_of_mem _ (List.mem_cons_of_mem _ (List.mem_cons_of_mem _ (List.mem_cons_of_mem _ (List.mem_append_left _ hc'))))) (List.mem_cons_of_mem _ (List.mem_cons_of_mem _ (List.mem_cons_of_mem _ (List.mem_cons_of_mem _ (List.mem_append_right _ hm)))))
      vs.length 0 vs.length _ _ (by omega) (by omega) (by omega) (by omega)) (by ktr_room) (by ktr_units) ?_
    rintro vZ h9 tk9 nZ hJz
    refine gz2 vZ nZ ?_
    intro Gz hGz
    obtain ⟨rfl, t9, rfl⟩ := hJz
    refine hGz _ _ ?_
    clear hGz Gz
    rintro F8 N8
    (repeat' (first | ((( (fail_if_success with_reducible first | refine st0 ?_ | refine st1 ?_ | refine st2 ?_ | refine st3 ?_))); (fail_if_success with_reducible first | refine st4 ?_); (first | ((with_reducible show wpAny _ _ (subscriptTail (PySem.Expr.Name _ _) (PySem.Expr.Name _ _) (Value.ref _) (Value.int _ _)) _ _ _); ((k_here; (with_reducible show wpAny _ _ (subscriptTail _ _ (Value.ref _) (Value.int _ _)) _ _ _); k_dflt (refine' my_item_ints (by k_asm) (by k_mem) (by assumption) (by omega) (by omega) (by omega) ?_;  k_whole); intro _))) | ((with_reducible show wpAny _ _ (call (Value.builtin "len") _) _ _ _); ((k_here; k_dflt (refine' my_len (by k_asm) (by k_mem) (by omega) ?_;  k_whole); intro _ _))) | ((with_reducible show wpAny _ _ (binaryOp Operator.Mult (Value.int _ _) (Value.int _ _)) _ _ _); ((k_here; k_dflt (refine' my_mul (by omega) (by omega) (by omega) (by omega) ?_;  k_whole); intro _ _ _ _ _ _; dsimp only))) | ((with_reducible show wpAny _ _ (binaryOp Operator.RShift (Value.int _ _) (Value.int _ _)) _ _ _); ((k_here; (with_reducible show wpAny _ _ (binaryOp _ (Value.int _ _) (Value.int 1 _)) _ _ _); k_dflt (refine' my_half ?_; k_whole); intro _ _ _ _ _; dsimp only))) | ((with_reducible show wpAny _ _ (binaryOp Operator.RShift (Value.int _ _) (Value.int _ _)) _ _ _); ((k_here; k_dflt (refine' my_shr (by first | assumption | omega) ?_;  k_whole); intro _ _; dsimp only))) | ((with_reducible show wpAny _ _ (binaryOp Operator.LShift (Value.int _ _) (Value.int _ _)) _ _ _); ((k_here; k_dflt (refine' my_shl (by first | assumption | omega) (by first | assumption | omega) (by first | exact shr_small (by assumption) (by assumption) _ | omega) ?_;  k_whole); intro _ _; dsimp only))) | ((with_reducible show wpAny _ _ (truthy (Value.ref _)) _ _ _); ((k_here; k_dflt (refine' my_truthy (by k_asm) (by k_mem) (by omega) ?_;  k_whole); intro _; dsimp only))) | walk_at "mo"))))
    have e : valB (2 ^ n.toNat) ((ns.drop (0 : Int).toNat).take vs.length) = valB (2 ^ n.toNat) ns := by
      rw [hvl]
      simp
    exact hret _ _ _ (tl' ++ fr) ⟨t9, tl', congrArg (fun z => Value.int z _) e, rfl, hW, hWW, hnew'⟩ (by k_asm) (news_sub (by k_asm) (by (((try simp only [List.cons_append, List.nil_append]); (repeat' (first | exact List.forall_mem_nil _ | refine List.forall_mem_cons.mpr ⟨?_, ?_⟩)) <;> (first | k_mem | (intro _ _; k_mem))))))
  · have hn : ns = [] := List.eq_nil_of_length_eq_zero (by omega)
    subst hn
    exact hret _ _ _ (tl' ++ fr) ⟨_, tl', rfl, rfl, hW, hWW, hnew'⟩ (by k_asm) (news_sub (by k_asm) (by (((try simp only [List.cons_append, List.nil_append]); (repeat' (first | exact List.forall_mem_nil _ | refine List.forall_mem_cons.mpr ⟨?_, ?_⟩)) <;> (first | k_mem | (intro _ _; k_mem))))))
end Mine
-- C6
namespace Mine
theorem Tab.move {P : Addr} {line col : Nat} {qual : Str} {tl rest rest' : Led} (h : Tab P line col qual tl rest) (h2 : (P, tabObj #[]) ∈ tl → (∀ q ∈ rest, q.1 ≠ P) → ∀ q ∈ rest', q.1 ≠ P) : Tab P line col qual tl rest' :=
  h.imp (fun ⟨e, h⟩ => ⟨e, h2 (by rw [e]; exact .head _) h⟩) id
section
variable {prog : Program} {w : World} {A : Around} {E : Value → Shared → Prop} {s : Shared} {env : Env} {h₀ : Heap} {x : Str} {body : List Stmt} {Q : Flow → Shared → Prop}
noncomputable def TurnTo (h₀ : Heap) (L I : Addr) (oI : Obj) (J : (Str → Option Value) → Led → Prop) (s₁ : Shared) (Q : Flow → Shared → Prop) (f : Flow) (s₂ : Shared) : Prop :=
  match f with
  | .ret v => Q (.ret v) s₂
  | .brk => Q .next s₂
  | _ => (Xx4 fun h' tk m' nx => Aa5 (s₂ = { s₁ with heap := h', toks := tk }) (Fr h₀ L h' m') (News h₀ L h' ((I, oI) :: nx)) ((∀ p ∈ nx, p.1 ≠ I)) (J m' nx))
theorem TurnTo.intro {L I : Addr} {oI : Obj} {J : (Str → Option Value) → Led → Prop} {m' : Str → Option Value} {nx news' : Led} {s₁ : Shared} {h' : Heap} {tk : Nat} (F : Fr h₀ L h' m') (N : News h₀ L h' news')
    (hn : ∀ p ∈ (I, oI) :: nx, p ∈ news') (ho : ∀ p ∈ nx, p.1 ≠ I) (hj : J m' nx) : TurnTo h₀ L I oI J s₁ Q .next { s₁ with heap := h', toks := tk } := ⟨h', tk, m', nx, rfl, F, news_sub N hn, ho, hj⟩
theorem loopW {I : Addr} {oI₀ : Obj} {fp : List Addr} {n : Nat} {P : Nat → Value → Prop} {St : Nat → Heap → Prop} {m₀ : Str → Option Value} {news : Led} (J : Nat → (Str → Option Value) → Led → Prop)
    (W : Walks prog w A I fp [I] n P St) (hIf : I ∈ fp) (hlive : ∀ i h, St i h → ∃ o, h.get? I = some o) (hst : St 0 s.heap) (F : Fr h₀ env.locals s.heap m₀) (N : News h₀ env.locals s.heap ((I, oI₀) :: news)) (hoff : ∀ p ∈ news, p.1 ≠ I)
    (hfpJ : ∀ b ∈ fp, b = I ∨ ∃ o, ∀ i m nx, J i m nx → (b, o) ∈ nx) (hj : J 0 m₀ news)
    (turn : ∀ i v m₁ nx h tk oI, i < n → P i v → J i m₁ nx → (∀ p ∈ nx, p.1 ≠ I) → Fr h₀ env.locals h (fun y => if y = x then some v else m₁ y) → News h₀ env.locals h ((I, oI) :: nx) →
      wpAny (model prog w) A (execs body env) (TurnTo h₀ env.locals I oI (J (i + 1)) { s with heap := h, toks := tk } Q) E { s with heap := h, toks := tk })
    (done : ∀ m₁ nx h tk, J n m₁ nx → Fr h₀ env.locals h m₁ → News h₀ env.locals h nx → Q .next { s with heap := h, toks := tk }) :
    LoopAtV prog w A h₀ env x body Q E (.ref I) s := by
  have hI := N _ (.head _)
  have N' : News h₀ env.locals s.heap news := news_sub N fun p hp => .tail _ hp
  refine ⟨I, fp, [I], n, P, St, m₀, news, J, rfl, W, ?_, ?_, ?_, hst, F, N', hj, ?_, ?_⟩
  · intro hm
    rcases hfpJ _ hm with e | ⟨o, ho⟩
    · exact hI.2.1 e.symm
    · exact (N' _ (ho _ _ _ hj)).2.1 rfl
  · intro b hb
    rw [List.mem_singleton.mp hb]
    exact hI.2.2
  · intro p hp hm
    exact hoff p hp (List.mem_singleton.mp hm)
  · rintro i v m₁ nx s₁ own hJz
    refine gz1 nx ?_
    intro Gz hGz
    obtain ⟨hh', tk', rfl⟩ := hJz
    refine hGz _ ?_
    clear hGz Gz
    rintro hin hP hJ hoff' hown hget hfp hst₁ F₁ N₁
    obtain ⟨oI, hoI⟩ := hlive _ _ hst₁
    have hIown : (I, oI) ∈ own := hfp I hIf hI.2.2 oI hoI
    have N₂ : News h₀ env.locals hh' ((I, oI) :: nx) := fun p hp => by
      rcases List.mem_cons.mp hp with rfl | hp
      · exact N₁ _ (List.mem_append_left _ hIown)
      · exact N₁ _ (List.mem_append_right _ hp)
    refine wpAny_mono (turn i v m₁ nx hh' tk' oI hin hP hJ (fun p hp e => hoff' p hp (by rw [e]; exact .head _)) F₁ N₂) (fun f s₂ p => ?_) fun _ _ e => e
    have fin : ((Xx4 fun h' tk m' nx => Aa5 (s₂ = { { s with heap := hh', toks := tk' } with heap := h', toks := tk }) (Fr h₀ env.locals h' m') (News h₀ env.locals h' ((I, oI) :: nx)) ((∀ p ∈ nx, p.1 ≠ I)) (J (i + 1) m' nx))) →
        LoopStepU h₀ env.locals [I] own (J (i + 1)) { s with heap := hh', toks := tk' } .next s₂ := by
      rintro ⟨h', tk, m', nx', e, F', Nx, ho, hj'⟩
      refine ⟨rfl, h', tk, m', nx', e, F', fun p hp => ?_, fun p hp hq => ho p hp (List.mem_singleton.mp hq), hj'⟩
      rcases List.mem_append.mp hp with hp | hp
      · rcases hfpJ _ (hown p hp) with e1 | ⟨o, ho2⟩
        · have h1 := hget p hp
          rw [e1] at h1
          rw [hoI] at h1
          have : p = (I, oI) := Prod.ext e1 (Option.some.inj h1).symm
          rw [this]
          exact Nx _ (.head _)
        · have h1 := hget p hp
          have h2 := (N₂ _ (List.mem_cons_of_mem _ (ho2 _ _ _ hJ))).1
          dsimp only at h1 h2
          rw [h2] at h1
          have : p = (p.1, o) := Prod.ext rfl (Option.some.inj h1).symm
          rw [this]
          exact Nx _ (List.mem_cons_of_mem _ (ho2 _ _ _ hj'))
      · exact Nx _ (List.mem_cons_of_mem _ hp)
    cases f with
    | ret v => exact .ret p
    | brk => exact .brk p
    | next => exact .next (fin p)
    | cont => exact .cont (fin p)
  · rintro h' tk m' news' F' N' _ hJ
    exact done m' news' h' tk hJ F' N'
/-- .. and from behind, by a reversed object -/
theorem loopR {l I : Addr} {vs : List Value} {nn : Nat} {m₀ : Str → Option Value} {news : Led} (J : Nat → (Str → Option Value) → Led → Prop) (hh : A.handled = none)
    (hm : ∀ i m nx, J i m nx → (l, PySem.W.listOf vs.toArray nn) ∈ nx) (F : Fr h₀ env.locals s.heap m₀) (N : News h₀ env.locals s.heap ((I, revObj l ((vs.length : Int) - 1)) :: news)) (hoff : ∀ p ∈ news, p.1 ≠ I) (hj : J 0 m₀ news)
    (turn : ∀ i v m₁ nx h tk oI, vs.reverse[i]? = some v → J i m₁ nx → (∀ p ∈ nx, p.1 ≠ I) → Fr h₀ env.locals h (fun y => if y = x then some v else m₁ y) → News h₀ env.locals h ((I, oI) :: nx) →
      wpAny (model prog w) A (execs body env) (TurnTo h₀ env.locals I oI (J (i + 1)) { s with heap := h, toks := tk } Q) E { s with heap := h, toks := tk })
    (done : ∀ m₁ nx h tk, J vs.length m₁ nx → Fr h₀ env.locals h m₁ → News h₀ env.locals h nx → Q .next { s with heap := h, toks := tk }) :
    wpAny (model prog w) A (pyIter (.ref I)) (fun it s₂ => LoopAtV prog w A h₀ env x body Q E it s₂) E s := by
  have hmem := hm _ _ _ hj
  have hls : s.heap.IsList l vs.toArray := News.isList N (List.mem_cons_of_mem _ hmem)
  have hne : l ≠ I := hoff _ hmem
  have hrev : s.heap.IsRevIter I l ((vs.length : Int) - 1) := ⟨_, (N _ (.head _)).1, rfl, rfl⟩
  refine wpAny_pyIter_revIter hrev ?_
  have W := Walks.listRev (prog := prog) (w := w) hh I l hne vs.toArray
  have hlen : vs.toArray.size = vs.length := by simp
  rw [hlen] at W
  refine loopW J W (.head _) (fun i h st => let ⟨o, ho, _⟩ := st.2.1; ⟨o, ho⟩) ⟨Nat.zero_le _, by simpa using hrev, hls⟩ F N hoff ?_ hj ?_ ?_
  · intro b hb
    rcases List.mem_cons.mp hb with e | hb
    · exact .inl e
    · exact .inr ⟨_, fun i m nx h => (List.mem_singleton.mp hb) ▸ hm i m nx h⟩
  · intro i v m₁ nx h tk oI hi hP hJ ho F₁ N₁
    refine turn i v m₁ nx h tk oI ?_ hJ ho F₁ N₁
    rw [List.getElem?_reverse hi]
    simpa using hP
  · exact done
end
section
variable {prog : Program} {w : World} {A : Around} {E : Value → Shared → Prop} {s : Shared} {h₀ : Heap} {L : Addr} {m : Str → Option Value} {news news' : Led}
theorem my_append {D : Addr} {vs : List Value} {n : Nat} {x : Value} {Q : Value → Shared → Prop} (F : Fr h₀ L s.heap m) (N : News h₀ L s.heap news) (U : Upd D (PySem.W.listOf vs.toArray n) (PySem.W.listOf (vs ++ [x]).toArray (n + 1)) news news') (hz : vs.length < 16000000)
    (h : ∀ h', Fr h₀ L h' m → News h₀ L h' news' → Q .none { s with heap := h' }) : wpAny (model prog w) A (call (.builtin "list.append") [.ref D, x]) Q E s := by
  have U' : Upd D (PySem.W.listOf vs.toArray n) (PySem.W.listOf (vs.toArray.push x) (n + 1)) news news' := by
    rw [List.push_toArray]
    exact U
  exact append_K F N U' h (by rw [List.size_toArray]; simp only [sizeLine]; omega)
theorem my_reverse {D : Addr} {vs : List Value} {n : Nat} {Q : Value → Shared → Prop} (F : Fr h₀ L s.heap m) (N : News h₀ L s.heap news) (U : Upd D (PySem.W.listOf vs.toArray n) (PySem.W.listOf vs.reverse.toArray n) news news') (hz : vs.length < 16000000)
    (h : ∀ h', Fr h₀ L h' m → News h₀ L h' news' → Q .none { s with heap := h' }) : wpAny (model prog w) A (call (.builtin "list.reverse") [.ref D]) Q E s :=
  kl_reverse F N (by simp) U (by simp only [sizeLine]; simp; omega) h
end
end Mine
-- C7
namespace Mine
theorem says_dmp (a b : Int) (t1 t2 : Tok) (T1 T2 fr : Led) (h0 : 0 ≤ a) (h1 : a < 2 ^ 62) (h2 : 0 < b) (h3 : b < 1073741824)
    (hT1 : Tab 76 90 4 "_int2digits.<locals>.inner" T1 (T2 ++ fr)) (hT2 : Tab 83 105 4 "_digits2int.<locals>.inner" T2 (T1 ++ fr)) :
    Says 90 450 95 [.int a t1, .int b t2] (T1 ++ (T2 ++ fr)) (fun v news => (Xx5 fun l tq tr T1' T2' => Aa7 (v = .ref l) (news = (l, tob [.int (a.fdiv b) tq, .int (a.fmod b) tr]) :: (T1' ++ (T2' ++ fr))) (Warm 76 90 4 "_int2digits.<locals>.inner" T1') (Warm 83 105 4 "_digits2int.<locals>.inner" T2') ((Warm 76 90 4 "_int2digits.<locals>.inner" T1 → T1' = T1)) ((Warm 83 105 4 "_digits2int.<locals>.inner" T2 → T2' = T2)) ((∀ p ∈ fr, p.1 < l)))) := by
  ((have hfill : Mine.hd.heap_39 = Mine.hd.heap_39 ∧ PySem.Challenge.rw_sn0098_01 = PySem.Challenge.rw_sn0098_01 := (by k_fill; exact ⟨rfl, rfl⟩)); clear hfill)
  unfold Says
  intros
  rename_i hret
  have hbits := bits_lt b 30 (by omega) (by omega)
  have hbits1 : 1 ≤ Builtin.Int.intBits b := by
    unfold Builtin.Int.intBits
    rw [if_neg (by simp; omega)]
    omega
  refine wpAny_call ?_
  k_dflt walk_at "my enter"
  (rename Fr _ _ _ _ => F)
  obtain ⟨m', F1⟩ := names_ex F [("a", .int a t1), ("b", .int b t2)] (by ((repeat' (first | exact all_nil | refine all_cons rfl ?_))))
  clear F
  (repeat' (first | ((( (fail_if_success with_reducible first | refine st0 ?_ | refine st1 ?_ | refine st2 ?_ | refine st3 ?_))); (fail_if_success with_reducible first | refine st4 ?_); (first | ((with_reducible show wpAny _ _ (binaryOp Operator.LShift (Value.int _ _) (Value.int _ _)) _ _ _); ((k_here; k_dflt (refine' my_shl (by first | assumption | omega) (by first | assumption | omega) (by first | exact shr_small (by assumption) (by assumption) _ | omega) ?_;  k_whole); intro _ _; dsimp only))) | ((with_reducible show wpAny _ _ (call (Value.builtin "list.append") _) _ _ _); ((k_here; k_dflt (refine' my_append (by k_asm) (by k_asm) (by k_upd) (by first | omega | (simp only [List.length_cons, List.length_nil, List.length_append]; omega)) ?_;  k_whole); intro _ _ _; (try dsimp only); (try k_sweep)))) | ((with_reducible show wpAny _ _ (call (Value.builtin "list.reverse") _) _ _ _); ((k_here; k_dflt (refine' my_reverse (by k_asm) (by k_asm) (by k_upd) (by omega) ?_;  k_whole); intro _ _ _; (try dsimp only); (try k_sweep)))) | walk_at "mo"))))
  refine' use_says (by k_asm) (by k_asm) (by k_asm) ?uN1 (by k_asm) (by first | exact rfl | assumption) ?uC1 ?uD1 ?uU1 ?uR1
  case uC1 => exact says_i2d a _ _ _ T1 (T2 ++ fr) h0 (by omega) (by omega) (by omega) hT1
  case uN1 => k_asm
  case uD1 => ktr_room
  case uU1 => ktr_units
  rintro vZ h9 tk9 nZ hJz
  refine gz2 vZ nZ ?_
  intro Gz hGz
  obtain ⟨l, vs, k, n0, T1', rfl, rfl, I1, hk1, hk2, W1, W1', lf, lT, hn1⟩ := hJz
  refine hGz _ _ ?_
  clear hGz Gz
  rintro F9 N9
  (repeat' (first | ((( (fail_if_success with_reducible first | refine st0 ?_ | refine st1 ?_ | refine st2 ?_ | refine st3 ?_))); (fail_if_success with_reducible first | refine st4 ?_); (first | ((with_reducible show wpAny _ _ (binaryOp Operator.LShift (Value.int _ _) (Value.int _ _)) _ _ _); ((k_here; k_dflt (refine' my_shl (by first | assumption | omega) (by first | assumption | omega) (by first | exact shr_small (by assumption) (by assumption) _ | omega) ?_;  k_whole); intro _ _; dsimp only))) | ((with_reducible show wpAny _ _ (call (Value.builtin "list.append") _) _ _ _); ((k_here; k_dflt (refine' my_append (by k_asm) (by k_asm) (by k_upd) (by first | omega | (simp only [List.length_cons, List.length_nil, List.length_append]; omega)) ?_;  k_whole); intro _ _ _; (try dsimp only); (try k_sweep)))) | ((with_reducible show wpAny _ _ (call (Value.builtin "list.reverse") _) _ _ _); ((k_here; k_dflt (refine' my_reverse (by k_asm) (by k_asm) (by k_upd) (by omega) ?_;  k_whole); intro _ _ _; (try dsimp only); (try k_sweep)))) | walk_at "mo"))))
  walk_at "my for"
  (repeat' (first | ((( (fail_if_success with_reducible first | refine st0 ?_ | refine st1 ?_ | refine st2 ?_ | refine st3 ?_))); (fail_if_success with_reducible first | refine st4 ?_); (first | ((with_reducible show wpAny _ _ (binaryOp Operator.LShift (Value.int _ _) (Value.int _ _)) _ _ _); ((k_here; k_dflt (refine' my_shl (by first | assumption | omega) (by first | assumption | omega) (by first | exact shr_small (by assumption) (by assumption) _ | omega) ?_;  k_whole); intro _ _; dsimp only))) | ((with_reducible show wpAny _ _ (call (Value.builtin "list.append") _) _ _ _); ((k_here; k_dflt (refine' my_append (by k_asm) (by k_asm) (by k_upd) (by first | omega | (simp only [List.length_cons, List.length_nil, List.length_append]; omega)) ?_;  k_whole); intro _ _ _; (try dsimp only); (try k_sweep)))) | ((with_reducible show wpAny _ _ (call (Value.builtin "list.reverse") _) _ _ _); ((k_here; k_dflt (refine' my_reverse (by k_asm) (by k_asm) (by k_upd) (by omega) ?_;  k_whole); intro _ _ _; (try dsimp only); (try k_sweep)))) | walk_at "mo"))))
  rename_i lq hx0 la hx1 D hx2 F2 N2 lb
  have hB0 : (0 : Int) < 2 ^ ((Builtin.Int.intBits b : Nat) : Int).toNat := Int.pow_pos (by decide)
  have hB30 : (2 : Int) ^ ((Builtin.Int.intBits b : Nat) : Int).toNat ≤ 2 ^ 30 := by
    have : (2 : Nat) ^ ((Builtin.Int.intBits b : Nat) : Int).toNat ≤ 2 ^ 30 := Nat.pow_le_pow_right (by decide) (by omega)
    have e : ((2 ^ ((Builtin.Int.intBits b : Nat) : Int).toNat : Nat) : Int) = 2 ^ ((Builtin.Int.intBits b : Nat) : Int).toNat := by simp
    omega
  obtain ⟨n, hn⟩ : ∃ n : Int, n = ((Builtin.Int.intBits b : Nat) : Int) := ⟨_, rfl⟩
  rw [← hn] at hB0 hB30 I1 hk1 F2
  obtain ⟨Bs, hBs⟩ : ∃ Bs : Int, Bs = 2 ^ n.toNat := ⟨_, rfl⟩
  rw [← hBs] at hB0 hB30 I1 hk1
  have hvl := I1.length
  rw [digs_len] at hvl
  have hdig := digs_dig hB0 k a
  have hval := valB_digs hB0 k a h0 hk1
  obtain ⟨la1, la2⟩ := la
  refine gz0 fun Gz hGz => ?_
  obtain ⟨lb1, lb2, lb3⟩ := lb
  refine hGz ?_
  clear hGz Gz
  have lqX : ∀ p ∈ (l, PySem.W.listOf vs.toArray n0) :: (T1' ++ (T2 ++ fr)), p.1 ≠ lq := List.forall_mem_cons.mpr ⟨Nat.ne_of_lt la1, offLt la2⟩
  refine loopR (l := l) (I := D) (vs := vs) (nn := n0) (news := (lq, PySem.W.listOf #[] 0) :: (l, PySem.W.listOf vs.toArray n0) :: (T1' ++ (T2 ++ fr))) (fun i m nx => (Xx4 fun (r : Int) (qs : List Int) (vq : List Value) (nq : Nat) => Aa10 (nx = (lq, PySem.W.listOf vq.toArray nq) :: (l, PySem.W.listOf vs.toArray n0) :: (T1' ++ (T2 ++ fr))) (m "b" = some (.int b t2)) ((∃ t, m "n" = some (.int n t))) (m "q_digits" = some (.ref lq)) ((∃ t, m "r" = some (.int r t))) (IntsAre vq qs) (qs.length = i) ((∀ q ∈ qs, 0 ≤ q)) (hor Bs qs = hor Bs ((digs Bs k a).reverse.take i) / b) (r = hor Bs ((digs Bs k a).reverse.take i) % b))) rfl ?_ F2 N2 ?_ ?_ ?_ ?_
  · rintro i m nx hJz
    refine gz1 nx ?_
    intro Gz hGz
    obtain ⟨r, qs, vq, nq, rfl, _⟩ := hJz
    refine hGz _ ?_
    clear hGz Gz
    exact .tail _ (.head _)
  · exact List.forall_mem_cons.mpr ⟨Nat.ne_of_lt lb1, List.forall_mem_cons.mpr ⟨Nat.ne_of_lt lb2, offLt lb3⟩⟩
  · exact ⟨0, [], [], 0, rfl, rfl, ⟨_, rfl⟩, rfl, ⟨_, rfl⟩, .nil, rfl, (fun q hq => nomatch hq), by simp [hor], by simp [hor]⟩
  · rintro i v m₁ nx h tk oI hv hJz
    refine gz1 nx ?_
    intro Gz hGz
    obtain ⟨r, qs, vq, nq, rfl, e1, ⟨tn, e2⟩, e3, ⟨tr, e4⟩, iq, lqs, pos, q1, q2⟩ := hJz
    refine hGz _ ?_
    clear hGz Gz
    rintro ho F4 N4
    obtain ⟨hi, _⟩ := List.getElem?_eq_some_iff.mp hv
    rw [List.length_reverse] at hi
    refine gz0 fun Gz hGz => ?_
    obtain ⟨d, td, rfl, hd⟩ := IntsAre.at (IntsAre.reverse I1) i v hv
    refine hGz ?_
    clear hGz Gz
    have hdm : d ∈ digs Bs k a := List.mem_reverse.mp (List.mem_of_getElem? hd)
    obtain ⟨d0, d1⟩ := hdig d hdm
    have r0 : 0 ≤ r := by rw [q2]; exact Int.emod_nonneg _ (by omega)
    have r1 : r < b := by rw [q2]; exact Int.emod_lt_of_pos _ h2
    have x0 : 0 ≤ r * 2 ^ n.toNat := by rw [← hBs]; exact Int.mul_nonneg r0 (by omega)
    have x1 : r * 2 ^ n.toNat ≤ 1073741824 * 1073741824 := by
      rw [← hBs]
      exact Int.le_trans (Int.mul_le_mul_of_nonneg_right (show r ≤ 1073741824 by omega) (by omega)) (Int.mul_le_mul_of_nonneg_left (by omega) (by omega))
    obtain ⟨m2, F5⟩ := names_ex F4 [("b", .int b t2), ("n", .int n tn), ("q_digits", .ref lq), ("r", .int r tr), ("a_digit", .int d td)] (all_cons e1 (all_cons e2 (all_cons e3 (all_cons e4 (all_cons rfl all_nil)))))
    clear F4
    (repeat' (first | ((( (fail_if_success with_reducible first | refine st0 ?_ | refine st1 ?_ | refine st2 ?_ | refine st3 ?_))); (fail_if_success with_reducible first | refine st4 ?_); (first | ((with_reducible show wpAny _ _ (binaryOp Operator.LShift (Value.int _ _) (Value.int _ _)) _ _ _); ((k_here; k_dflt (refine' my_shl (by first | assumption | omega) (by first | assumption | omega) (by first | exact shr_small (by assumption) (by assumption) _ | omega) ?_;  k_whole); intro _ _; dsimp only))) | ((with_reducible show wpAny _ _ (call (Value.builtin "list.append") _) _ _ _); ((k_here; k_dflt (refine' my_append (by k_asm) (by k_asm) (by k_upd) (by first | omega | (simp only [List.length_cons, List.length_nil, List.length_append]; omega)) ?_;  k_whole); intro _ _ _; (try dsimp only); (try k_sweep)))) | ((with_reducible show wpAny _ _ (call (Value.builtin "list.reverse") _) _ _ _); ((k_here; k_dflt (refine' my_reverse (by k_asm) (by k_asm) (by k_upd) (by omega) ?_;  k_whole); intro _ _ _; (try dsimp only); (try k_sweep)))) | walk_at "mo"))))
    refine' use_says (by k_asm) (by k_asm) (by k_asm) ?uN2 (by k_asm) (by first | exact rfl | assumption) ?uC2 ?uD2 ?uU2 ?uR2
    case uN2 => k_asm
    case uC2 => exact says_div2 _ b n _ _ _ _ (by omega) (by omega) h2 h3 (by omega)
    case uD2 => ktr_room
    case uU2 => ktr_units
    rintro vZ h9 tk9 nZ hJz
    refine gz2 vZ nZ ?_
    intro Gz hGz
    obtain ⟨tp, tq, tr', rfl, rfl, ltp⟩ := hJz
    refine hGz _ _ ?_
    clear hGz Gz
    rintro F9 N9
    refine gz0 fun Gz hGz => ?_
    obtain ⟨lt1, lt2, lt3, lt4⟩ := ltp
    refine hGz ?_
    clear hGz Gz
    have hDq := neN (ho _ (.head _))
    have hql := iq.length
    (repeat' (first | ((( (fail_if_success with_reducible first | refine st0 ?_ | refine st1 ?_ | refine st2 ?_ | refine st3 ?_))); (fail_if_success with_reducible first | refine st4 ?_); (first | ((with_reducible show wpAny _ _ (binaryOp Operator.LShift (Value.int _ _) (Value.int _ _)) _ _ _); ((k_here; k_dflt (refine' my_shl (by first | assumption | omega) (by first | assumption | omega) (by first | exact shr_small (by assumption) (by assumption) _ | omega) ?_;  k_whole); intro _ _; dsimp only))) | ((with_reducible show wpAny _ _ (call (Value.builtin "list.append") _) _ _ _); ((k_here; k_dflt (refine' my_append (by k_asm) (by k_asm) (by k_upd) (by first | omega | (simp only [List.length_cons, List.length_nil, List.length_append]; omega)) ?_;  k_whole); intro _ _ _; (try dsimp only); (try k_sweep)))) | ((with_reducible show wpAny _ _ (call (Value.builtin "list.reverse") _) _ _ _); ((k_here; k_dflt (refine' my_reverse (by k_asm) (by k_asm) (by k_upd) (by omega) ?_;  k_whole); intro _ _ _; (try dsimp only); (try k_sweep)))) | walk_at "mo"))))
    have ex : r * 2 ^ n.toNat + d = r * Bs + d := by rw [hBs]
    have efd : (r * 2 ^ n.toNat + d).fdiv b = (r * Bs + d) / b := by rw [ex]; exact Int.fdiv_eq_ediv_of_nonneg _ (by omega)
    have efm : (r * 2 ^ n.toNat + d).fmod b = (r * Bs + d) % b := by rw [ex]; exact Int.fmod_eq_emod_of_nonneg _ (by omega)
    have htk : (digs Bs k a).reverse.take (i + 1) = (digs Bs k a).reverse.take i ++ [d] := by rw [List.take_add_one, hd]; rfl
    have hls := long_step (b := b) (B := Bs) (Y := hor Bs ((digs Bs k a).reverse.take i)) (d := d) h2
    refine' TurnTo.intro (nx := (lq, PySem.W.listOf (vq ++ [Value.int ((r * 2 ^ n.toNat + d).fdiv b) tq]).toArray (nq + 1)) :: (l, PySem.W.listOf vs.toArray n0) :: (T1' ++ (T2 ++ fr))) ?F ?N ?hn ?ho ?J
    case F => k_asm
    case N => k_asm
    case hn => (((try simp only [List.cons_append, List.nil_append]); (repeat' (first | exact List.forall_mem_nil _ | refine List.forall_mem_cons.mpr ⟨?_, ?_⟩)) <;> (first | k_mem | (intro _ _; k_mem))))
    case ho => exact List.forall_mem_cons.mpr ⟨hDq, fun p hp => ho p (.tail _ hp)⟩
    case J =>
      refine ⟨(r * 2 ^ n.toNat + d).fmod b, qs ++ [(r * 2 ^ n.toNat + d).fdiv b], _, _, rfl, rfl, ⟨_, rfl⟩, rfl, ⟨_, rfl⟩, IntsAre.append iq (.cons _ _ .nil), by rw [List.length_append, lqs]; rfl, ?_, ?_, ?_⟩
      · intro q hq
        rcases List.mem_append.mp hq with hq | hq
        · exact pos q hq
        · rw [List.mem_singleton.mp hq, efd]
          exact Int.ediv_nonneg (by rw [← ex]; omega) (by omega)
      · rw [hor_snoc, htk, hor_snoc, hls.1, q1, efd, q2]
      · rw [htk, hor_snoc, hls.2, efm, q2]
  · rintro m₁ nx h tk hJz
    refine gz1 nx ?_
    intro Gz hGz
    obtain ⟨r, qs, vq, nq, rfl, e1, ⟨tn, e2⟩, e3, ⟨tr, e4⟩, iq, lqs, pos, q1, q2⟩ := hJz
    refine hGz _ ?_
    clear hGz Gz
    rintro F4 N4
    have hrl : (digs Bs k a).reverse.take vs.length = (digs Bs k a).reverse := by
      rw [hvl]; exact List.take_of_length_le (by rw [List.length_reverse, digs_len]; exact Nat.le_refl _)
    have hh : hor Bs (digs Bs k a).reverse = a := by rw [← valB_rev, List.reverse_reverse]; exact hval
    rw [hrl, hh] at q1 q2
    obtain ⟨m2, F5⟩ := names_ex F4 [("n", .int n tn), ("q_digits", .ref lq), ("r", .int r tr)] (all_cons e2 (all_cons e3 (all_cons e4 all_nil)))
    clear F4
    have hql := iq.length
    (repeat' (first | ((( (fail_if_success with_reducible first | refine st0 ?_ | refine st1 ?_ | refine st2 ?_ | refine st3 ?_))); (fail_if_success with_reducible first | refine st4 ?_); (first | ((with_reducible show wpAny _ _ (binaryOp Operator.LShift (Value.int _ _) (Value.int _ _)) _ _ _); ((k_here; k_dflt (refine' my_shl (by first | assumption | omega) (by first | assumption | omega) (by first | exact shr_small (by assumption) (by assumption) _ | omega) ?_;  k_whole); intro _ _; dsimp only))) | ((with_reducible show wpAny _ _ (call (Value.builtin "list.append") _) _ _ _); ((k_here; k_dflt (refine' my_append (by k_asm) (by k_asm) (by k_upd) (by first | omega | (simp only [List.length_cons, List.length_nil, List.length_append]; omega)) ?_;  k_whole); intro _ _ _; (try dsimp only); (try k_sweep)))) | ((with_reducible show wpAny _ _ (call (Value.builtin "list.reverse") _) _ _ _); ((k_here; k_dflt (refine' my_reverse (by k_asm) (by k_asm) (by k_upd) (by omega) ?_;  k_whole); intro _ _ _; (try dsimp only); (try k_sweep)))) | walk_at "mo"))))
    have hqr : hor Bs qs = valB Bs qs.reverse := (valB_rev Bs qs).symm
    have hqp : ∀ q ∈ qs.reverse, 0 ≤ q := fun q hq => pos q (List.mem_reverse.mp hq)
    have hqa : valB Bs qs.reverse ≤ a := by
      rw [← hqr, q1]
      exact Int.ediv_le_self _ h0
    refine' use_says (by k_asm) (by k_asm) (by k_asm) ?uN3 (by k_asm) (by first | exact rfl | assumption) ?uC3 ?uD3 ?uU3 ?uR3
    case uN3 =>
      exact news_sub (by k_asm) (news' := T2 ++ ((lq, PySem.W.listOf vq.reverse.toArray nq) :: (l, PySem.W.listOf vs.toArray n0) :: (T1' ++ fr))) (fun p hp => by
      simp only [List.mem_append, List.mem_cons] at hp ⊢
      rcases hp with hp | rfl | rfl | hp | hp
      · exact .inr (.inr (.inr (.inl hp)))
      · exact .inl rfl
      · exact .inr (.inl rfl)
      · exact .inr (.inr (.inl hp))
      · exact .inr (.inr (.inr (.inr hp))))
    case uC3 =>
      exact says_d2i lq vq.reverse qs.reverse nq n tn T2 _ (.head _) (IntsAre.reverse iq) (by rw [List.length_reverse]; omega) (by omega) (by omega)
        (by
          intro lo k'
          have := seg_bound (B := Bs) (by omega) qs.reverse hqp lo k'
          rw [← hBs]
          omega)
        (hT2.move fun hP hq => by
          have p1 : 83 < lq := mem_allLt la2 _ (List.mem_append_right _ (List.mem_append_left _ hP))
          have p2 : 83 < l := lf _ (List.mem_append_left _ hP)
          refine List.forall_mem_cons.mpr ⟨Nat.ne_of_gt p1, List.forall_mem_cons.mpr ⟨Nat.ne_of_gt p2, fun r hr => ?_⟩⟩
          rcases List.mem_append.mp hr with hr | hr
          · rcases hn1 r hr with h | h | h
            · exact hq r (List.mem_append_left _ h)
            · rw [h]; decide
            · exact Nat.ne_of_gt (h _ (List.mem_append_left _ hP))
          · exact hq r (List.mem_append_right _ hr))
    case uD3 => ktr_room
    case uU3 => ktr_units
    rintro vZ h9 tk9 nZ hJz
    refine gz2 vZ nZ ?_
    intro Gz hGz
    obtain ⟨t9, T2', rfl, rfl, W2, W2', hn2⟩ := hJz
    refine hGz _ _ ?_
    clear hGz Gz
    rintro F9 N9
    (repeat' (first | ((( (fail_if_success with_reducible first | refine st0 ?_ | refine st1 ?_ | refine st2 ?_ | refine st3 ?_))); (fail_if_success with_reducible first | refine st4 ?_); (first | ((with_reducible show wpAny _ _ (binaryOp Operator.LShift (Value.int _ _) (Value.int _ _)) _ _ _); ((k_here; k_dflt (refine' my_shl (by first | assumption | omega) (by first | assumption | omega) (by first | exact shr_small (by assumption) (by assumption) _ | omega) ?_;  k_whole); intro _ _; dsimp only))) | ((with_reducible show wpAny _ _ (call (Value.builtin "list.append") _) _ _ _); ((k_here; k_dflt (refine' my_append (by k_asm) (by k_asm) (by k_upd) (by first | omega | (simp only [List.length_cons, List.length_nil, List.length_append]; omega)) ?_;  k_whole); intro _ _ _; (try dsimp only); (try k_sweep)))) | ((with_reducible show wpAny _ _ (call (Value.builtin "list.reverse") _) _ _ _); ((k_here; k_dflt (refine' my_reverse (by k_asm) (by k_asm) (by k_upd) (by omega) ?_;  k_whole); intro _ _ _; (try dsimp only); (try k_sweep)))) | walk_at "mo"))))
    have eq1 : valB (2 ^ n.toNat) qs.reverse = a.fdiv b := by
      rw [← hBs, ← hqr, q1]
      exact (Int.fdiv_eq_ediv_of_nonneg _ (by omega)).symm
    have eq2 : r = a.fmod b := by
      rw [q2]
      exact (Int.fmod_eq_emod_of_nonneg _ (by omega)).symm
    rename_i lD _ _ _ _
    refine hret _ _ _ ((_, tob [.int (valB (2 ^ n.toNat) qs.reverse) t9, .int r tr]) :: (T1' ++ (T2' ++ fr))) ⟨_, t9, tr, T1', T2', rfl, by rw [eq1, eq2], W1, W2, W1', W2', fun p hp => lD p ?_⟩ (by k_asm) (news_sub (by k_asm) ?_)
    · simp [hp]
    · refine List.forall_mem_cons.mpr ⟨.head _, fun p hp => List.mem_cons_of_mem _ ?_⟩
      simp only [List.mem_append, List.mem_cons] at hp ⊢
      rcases hp with hp | hp | hp
      · exact .inr (.inr (.inr (.inl hp)))
      · exact .inl hp
      · exact .inr (.inr (.inr (.inr hp)))
end Mine
-- C8
namespace Mine
abbrev W76 := Warm 76 90 4 "_int2digits.<locals>.inner"
abbrev W83 := Warm 83 105 4 "_digits2int.<locals>.inner"
theorem says_idm0 (a b : Int) (t1 t2 : Tok) (T1 T2 fr : Led) (h0 : 0 ≤ a) (h1 : a < 2 ^ 62) (h2 : 0 < b) (h3 : b < 1073741824)
    (hT1 : Tab 76 90 4 "_int2digits.<locals>.inner" T1 (T2 ++ fr)) (hT2 : Tab 83 105 4 "_digits2int.<locals>.inner" T2 (T1 ++ fr)) :
    Says 92 460 102 [.int a t1, .int b t2] (T1 ++ (T2 ++ fr)) (fun v news => (Xx5 fun l tq tr T1' T2' => Aa7 (v = .ref l) (news = (l, tob [.int (a.fdiv b) tq, .int (a.fmod b) tr]) :: (T1' ++ (T2' ++ fr))) (W76 T1') (W83 T2') ((W76 T1 → T1' = T1)) ((W83 T2 → T2' = T2)) ((∀ p ∈ fr, p.1 < l)))) := by
  ((have hfill : Mine.hd.heap_39 = Mine.hd.heap_39 ∧ PySem.Challenge.rw_sn0098_01 = PySem.Challenge.rw_sn0098_01 := (by k_fill; exact ⟨rfl, rfl⟩)); clear hfill)
  unfold Says
  intros
  rename_i hret
  refine wpAny_call ?_
  k_dflt walk_at "my enter"
  (rename Fr _ _ _ _ => F)
  obtain ⟨m', F1⟩ := names_ex F [("a", .int a t1), ("b", .int b t2)] (by ((repeat' (first | exact all_nil | refine all_cons rfl ?_))))
  clear F
  have hb0 : b ≠ 0 := by omega
  (repeat' (first | ((( (fail_if_success with_reducible first | refine st0 ?_ | refine st1 ?_ | refine st2 ?_ | refine st3 ?_))); (fail_if_success with_reducible first | refine st4 ?_); walk_at "mo")))
  all_goals (try exact absurd (by assumption) hb0)
  refine' use_says (by k_asm) (by k_asm) (by k_asm) ?uN4 (by k_asm) (by first | exact rfl | assumption) ?uC4 ?uD4 ?uU4 ?uR4
  case uN4 => k_asm
  case uC4 => exact says_dmp a b _ _ T1 T2 fr h0 h1 h2 h3 hT1 hT2
  case uD4 => ktr_room
  case uU4 => ktr_units
  rintro vZ h9 tk9 nZ hJz
  refine gz2 vZ nZ ?_
  intro Gz hGz
  obtain ⟨l, tq, tr, T1', T2', rfl, rfl, W1, W2, W1', W2', lf⟩ := hJz
  refine hGz _ _ ?_
  clear hGz Gz
  rintro F9 N9
  (repeat' (first | ((( (fail_if_success with_reducible first | refine st0 ?_ | refine st1 ?_ | refine st2 ?_ | refine st3 ?_))); (fail_if_success with_reducible first | refine st4 ?_); walk_at "mo")))
  exact hret _ _ _ _ ⟨l, tq, tr, T1', T2', rfl, rfl, W1, W2, W1', W2', lf⟩ (by k_asm) (by k_asm)
theorem not_div {a b : Int} (hb : 0 < b) : Builtin.bitNot ((Builtin.bitNot a).fdiv b) = a.fdiv b ∧ b + Builtin.bitNot ((Builtin.bitNot a).fmod b) = a.fmod b := by
  have e : ∀ z : Int, Builtin.bitNot z = -z - 1 := fun z => by unfold Builtin.bitNot; omega
  rw [e, e, e, Int.fdiv_eq_ediv_of_nonneg _ (by omega), Int.fdiv_eq_ediv_of_nonneg _ (by omega), Int.fmod_eq_emod_of_nonneg _ (by omega), Int.fmod_eq_emod_of_nonneg _ (by omega)]
  have h1 := Int.emod_add_mul_ediv (-a - 1) b
  have h2 := Int.emod_nonneg (-a - 1) (show b ≠ 0 by omega)
  have h3 := Int.emod_lt_of_pos (-a - 1) hb
  have key := (Int.ediv_emod_unique (a := a) (r := b + (-((-a - 1) % b) - 1)) (q := -((-a - 1) / b) - 1) hb).mpr ⟨by
    rw [Int.mul_sub, Int.mul_neg]; omega, by omega, by omega⟩
  exact ⟨key.1.symm, key.2.symm⟩
theorem says_idm (a b : Int) (t1 t2 : Tok) (T1 T2 fr : Led) (h0 : -(2 ^ 61) < a) (h1 : a < 2 ^ 62) (h2 : 0 < b) (h3 : b < 1073741824)
    (hT1 : Tab 76 90 4 "_int2digits.<locals>.inner" T1 (T2 ++ fr)) (hT2 : Tab 83 105 4 "_digits2int.<locals>.inner" T2 (T1 ++ fr)) :
    Says 94 470 102 [.int a t1, .int b t2] (T1 ++ (T2 ++ fr)) (fun v news => (Xx5 fun l tq tr T1' T2' => Aa7 (v = .ref l) (news = (l, tob [.int (a.fdiv b) tq, .int (a.fmod b) tr]) :: (T1' ++ (T2' ++ fr))) (W76 T1') (W83 T2') ((W76 T1 → T1' = T1)) ((W83 T2 → T2' = T2)) ((∀ p ∈ fr, p.1 < l)))) := by
  by_cases ha : 0 ≤ a
  · intro w p loose mean mg mb dp un gd cn cs x ccd cl outer A₀ base h₀ L m s Q E B F X N T hk hd hu hr
    exact says_idm0 a b t1 t2 T1 T2 fr ha h1 h2 h3 hT1 hT2 w p loose mean mg mb dp un gd cn cs x ccd cl outer A₀ base h₀ L m s Q E B F X N T hk (by omega) (by omega) hr
  ((have hfill : Mine.hd.heap_39 = Mine.hd.heap_39 ∧ PySem.Challenge.rw_sn0098_01 = PySem.Challenge.rw_sn0098_01 := (by k_fill; exact ⟨rfl, rfl⟩)); clear hfill)
  unfold Says
  intros
  rename_i hret
  refine wpAny_call ?_
  k_dflt walk_at "my enter"
  (rename Fr _ _ _ _ => F)
  obtain ⟨m', F1⟩ := names_ex F [("a", .int a t1), ("b", .int b t2)] (by ((repeat' (first | exact all_nil | refine all_cons rfl ?_))))
  clear F
  have hb0 : b ≠ 0 := by omega
  (repeat' (first | ((( (fail_if_success with_reducible first | refine st0 ?_ | refine st1 ?_ | refine st2 ?_ | refine st3 ?_))); (fail_if_success with_reducible first | refine st4 ?_); walk_at "mo")))
  all_goals (try exact absurd (by assumption) hb0)
  have hn0 : 0 ≤ Builtin.bitNot a := by unfold Builtin.bitNot; omega
  have hn1 : Builtin.bitNot a < 2 ^ 62 := by unfold Builtin.bitNot; omega
  refine' use_says (by k_asm) (by k_asm) (by k_asm) ?uN5 (by k_asm) (by first | exact rfl | assumption) ?uC5 ?uD5 ?uU5 ?uR5
  case uN5 => k_asm
  case uC5 => exact says_idm0 _ b _ _ T1 T2 fr hn0 hn1 h2 h3 hT1 hT2
  case uD5 => ktr_room
  case uU5 => ktr_units
  rintro vZ h9 tk9 nZ hJz
  refine gz2 vZ nZ ?_
  intro Gz hGz
  obtain ⟨l, tq, tr, T1', T2', rfl, rfl, W1, W2, W1', W2', lf⟩ := hJz
  refine hGz _ _ ?_
  clear hGz Gz
  rintro F9 N9
  (repeat' (first | ((( (fail_if_success with_reducible first | refine st0 ?_ | refine st1 ?_ | refine st2 ?_ | refine st3 ?_))); (fail_if_success with_reducible first | refine st4 ?_); walk_at "mo")))
  rename_i lD kF kN _ _
  obtain ⟨q1, q2⟩ := not_div (a := a) h2
  rw [q1, q2] at kN
  refine gz0 fun Gz hGz => ?_
  obtain ⟨tq', tr', kN⟩ : (Xx2 fun tq tr => News _ _ _ ((_, tob [.int (a.fdiv b) tq, .int (a.fmod b) tr]) :: (l, _) :: (T1' ++ (T2' ++ fr)))) := ⟨_, _, kN⟩
  refine hGz ?_
  clear hGz Gz
  exact hret _ _ _ ((_, tob [.int (a.fdiv b) tq', .int (a.fmod b) tr']) :: (T1' ++ (T2' ++ fr))) ⟨_, tq', tr', T1', T2', rfl, rfl, W1, W2, W1', W2', fun p hp => Nat.lt_trans (lf p hp) lD.1⟩ kF (news_sub kN (by (((try simp only [List.cons_append, List.nil_append]); (repeat' (first | exact List.forall_mem_nil _ | refine List.forall_mem_cons.mpr ⟨?_, ?_⟩)) <;> (first | k_mem | (intro _ _; k_mem))))))
end Mine
-- C9
namespace Mine
/-- the ledger holds both tables of int_divmod, filled -/
noncomputable def Tabs (fr : Led) : Prop := (Xx2 fun T1 T2 => Aa4 (W76 T1) (W83 T2) ((∀ p ∈ T1, p ∈ fr)) ((∀ p ∈ T2, p ∈ fr)))
theorem Tabs.mono {fr fr' : Led} (h : Tabs fr) (hs : ∀ p ∈ fr, p ∈ fr') : Tabs fr' :=
  let ⟨T1, T2, a, b, c, d⟩ := h; ⟨T1, T2, a, b, fun p hp => hs p (c p hp), fun p hp => hs p (d p hp)⟩
theorem Says.weak {d u d' u' : Nat} {f : Addr} {vs : List Value} {news news₂ : Led} {R R' : Value → Led → Prop} (C : Says d u f vs news R) (hd : d ≤ d') (hu : u ≤ u') (hs : ∀ p ∈ news, p ∈ news₂)
    (hR : ∀ v n, R v n → ∃ n', R' v n' ∧ ∀ p ∈ n', p ∈ n) : Says d' u' f vs news₂ R' := by
  intro w p loose mean mg mb dp un gd cn cs a ccd cl outer A₀ base h₀ L m s Q E B F X N T hk hd' hu' hr
  exact C w p loose mean mg mb dp un gd cn cs a ccd cl outer A₀ base h₀ L m s Q E B F X (news_sub N hs) T hk (by omega) (by omega) fun v h' tk' n r F' N' =>
    let ⟨n', r', hs'⟩ := hR v n r
    hr v h' tk' n' r' F' (news_sub N' hs')
theorem says_idmW (a b : Int) (t1 t2 : Tok) (fr : Led) (hW : Tabs fr) (h0 : -(2 ^ 61) < a) (h1 : a < 2 ^ 62) (h2 : 0 < b) (h3 : b < 1073741824) :
    Says 94 470 102 [.int a t1, .int b t2] fr (fun v news => (Xx3 fun l tq tr => Aa3 (v = .ref l) (news = (l, tob [.int (a.fdiv b) tq, .int (a.fmod b) tr]) :: fr) ((∀ p ∈ fr, p.1 < l)))) := by
  refine gz0 fun Gz hGz => ?_
  obtain ⟨T1, T2, w1, w2, s1, s2⟩ := hW
  refine hGz ?_
  clear hGz Gz
  refine (says_idm a b t1 t2 T1 T2 fr h0 h1 h2 h3 (.inr w1) (.inr w2)).weak (Nat.le_refl _) (Nat.le_refl _) ?_ ?_
  · intro p hp
    rcases List.mem_append.mp hp with hp | hp
    · exact s1 p hp
    · rcases List.mem_append.mp hp with hp | hp
      · exact s2 p hp
      · exact hp
  · rintro v n ⟨l, tq, tr, T1', T2', rfl, rfl, _, _, _, _, lf⟩
    refine ⟨_, ⟨l, tq, tr, rfl, rfl, lf⟩, fun p hp => ?_⟩
    rcases List.mem_cons.mp hp with rfl | hp
    · exact .head _
    · simp [hp]
end Mine
namespace Mine
abbrev decS (n : Int) : Str := Str.ofString (toString n)
inductive PairsAt (led : Led) : List Value → List (Int × Int) → Prop
  | nil : PairsAt led [] []
  | cons {a : Addr} {c m : Int} {t1 t2 : Tok} {vs : List Value} {ds : List (Int × Int)} : (a, tob [.str (decS c) t1, .str (decS m) t2]) ∈ led → PairsAt led vs ds → PairsAt led (.ref a :: vs) ((c, m) :: ds)
noncomputable def toldF (row : List Int) : Nat → Int → List (Int × Int)
  | 0, _ => []
  | k + 1, left => if left ≤ 0 then [] else (row.getD (bis row left - 1) 0, left / row.getD (bis row left - 1) 0) :: toldF row k (left % row.getD (bis row left - 1) 0)
structure Row (ns : List Int) : Prop where
  sorted : ∀ i j, i ≤ j → j < ns.length → ns.getD i 0 ≤ ns.getD j 0
  one : ns.getD 0 0 = 1
  len : 0 < ns.length
  few : ns.length ≤ 64
  small : ∀ i, i < ns.length → ns.getD i 0 ≤ 1000000
theorem bis_le (ns : List Int) (x : Int) : bis ns x ≤ ns.length := by
  unfold bis
  exact (List.takeWhile_prefix _).length_le
theorem bis_get {x : Int} : ∀ (ns : List Int) (j : Nat), j < bis ns x → ns.getD j 0 ≤ x
  | [], j, h => by simp [bis] at h
  | c :: r, j, h => by
    unfold bis at h
    rw [List.takeWhile_cons] at h
    by_cases hc : c ≤ x
    · simp only [hc, decide_true, if_true, List.length_cons] at h
      cases j with
      | zero => simpa using hc
      | succ j => simpa using bis_get r j (by unfold bis; omega)
    · simp [hc] at h
theorem bis_pos {x : Int} {ns : List Int} (hl : 0 < ns.length) (h : ns.getD 0 0 ≤ x) : 1 ≤ bis ns x := by
  cases ns with
  | nil => simp at hl
  | cons c r =>
    unfold bis
    rw [List.takeWhile_cons]
    have : c ≤ x := by simpa using h
    simp [this]
theorem Row.coin {ns : List Int} (hr : Row ns) {left : Int} (h : 1 ≤ left) : 1 ≤ bis ns left ∧ bis ns left ≤ ns.length ∧ 1 ≤ ns.getD (bis ns left - 1) 0 ∧ ns.getD (bis ns left - 1) 0 ≤ left := by
  have h1 := bis_pos hr.len (by rw [hr.one]; exact h)
  have h2 := bis_le ns left
  have h3 := hr.sorted 0 (bis ns left - 1) (by omega) (by omega)
  rw [hr.one] at h3
  exact ⟨h1, h2, h3, bis_get ns _ (by omega)⟩
theorem toldF_more {ns : List Int} (hr : Row ns) : ∀ (k k' : Nat) (left : Int), left.toNat ≤ k → left.toNat ≤ k' → toldF ns k left = toldF ns k' left
  | 0, 0, _, _, _ => rfl
  | 0, k' + 1, left, h, _ => by simp only [toldF]; rw [if_pos (by omega)]
  | k + 1, 0, left, _, h => by simp only [toldF]; rw [if_pos (by omega)]
  | k + 1, k' + 1, left, h, h' => by
    simp only [toldF]
    by_cases hl : left ≤ 0
    · rw [if_pos hl, if_pos hl]
    · rw [if_neg hl, if_neg hl]
      refine gz0 fun Gz hGz => ?_
      obtain ⟨_, _, c1, c2⟩ := hr.coin (left := left) (by omega)
      refine hGz ?_
      clear hGz Gz
      have m0 := Int.emod_nonneg left (show ns.getD (bis ns left - 1) 0 ≠ 0 by omega)
      have m1 := Int.emod_lt_of_pos left (show 0 < ns.getD (bis ns left - 1) 0 by omega)
      rw [toldF_more hr k k' _ (by omega) (by omega)]
theorem PairsAt.len {led : Led} {vs : List Value} {ds : List (Int × Int)} (h : PairsAt led vs ds) : vs.length = ds.length := by
  induction h with
  | nil => rfl
  | cons _ _ ih => simp [ih]
theorem PairsAt.mono {led led' : Led} {vs : List Value} {ds : List (Int × Int)} (h : PairsAt led vs ds) (hs : ∀ p ∈ led, p ∈ led') : PairsAt led' vs ds := by
  induction h with
  | nil => exact .nil
  | cons hm _ ih => exact .cons (hs _ hm) ih
theorem PairsAt.snoc {led : Led} {vs : List Value} {ds : List (Int × Int)} {a : Addr} {c m : Int} {t1 t2 : Tok} (h : PairsAt led vs ds) (hm : (a, tob [.str (decS c) t1, .str (decS m) t2]) ∈ led) : PairsAt led (vs ++ [.ref a]) (ds ++ [(c, m)]) := by
  induction h with
  | nil => exact .cons hm .nil
  | cons hm' _ ih => exact .cons hm' ih
theorem says_told (l : Addr) (vs : List Value) (n : Nat) (ns : List Int) (am : Int) (t : Tok) (fr : Led) (hm : (l, PySem.W.listOf vs.toArray n) ∈ fr) (hi : IntsAre vs ns) (hr : Row ns) (ha : am ≤ 1000000) (hW : Tabs fr) :
    Says 96 480 332 [.ref l, .int am t] fr (fun v news => (Xx4 fun lt vt nt tl => Aa6 (v = .ref lt) (news = (lt, PySem.W.listOf vt.toArray nt) :: (tl ++ fr)) (PairsAt tl vt (toldF ns am.toNat am)) ((∀ p ∈ tl, p.1 ≠ lt)) ((∀ p ∈ fr, p.1 < lt)) ((∀ p ∈ fr, ∀ q ∈ tl, p.1 < q.1)))) := by
  ((have hfill : Mine.hd.heap_39 = Mine.hd.heap_39 ∧ PySem.Challenge.rw_sn0098_01 = PySem.Challenge.rw_sn0098_01 := (by k_fill; exact ⟨rfl, rfl⟩)); clear hfill)
  unfold Says
  intros
  rename_i hret
  refine wpAny_call ?_
  k_dflt walk_at "my enter"
  (rename Fr _ _ _ _ => F)
  obtain ⟨m', F1⟩ := names_ex F [("row", .ref l), ("amount", .int am t)] (by ((repeat' (first | exact all_nil | refine all_cons rfl ?_))))
  clear F
  (repeat' (first | (first | (k_here; (with_reducible show wpAny _ _ (call (Value.ref 120) _) _ _ _); k_dflt (refine' use_says (by k_asm) (by k_asm) (by k_asm) (by k_asm) (by k_asm) (by first | exact rfl | assumption) (by exact says_bis _ _ _ _ _ _ _ (by k_mem) (by assumption) (by omega) (by assumption)) (by ktr_room) (by ktr_units) ?_); intro _ _ _ _ r9 _ _; (obtain ⟨e9, _, f9⟩ := r9); subst e9; subst f9; (try dsimp only))) | ((( (fail_if_success with_reducible first | refine st0 ?_ | refine st1 ?_ | refine st2 ?_ | refine st3 ?_))); (fail_if_success with_reducible first | refine st4 ?_); (first | ((with_reducible show wpAny _ _ (call (Value.builtin "list.append") _) _ _ _); ((k_here; k_dflt (refine' my_append (by k_asm) (by k_asm) (by k_upd) (by first | omega | (simp only [List.length_cons, List.length_nil, List.length_append]; omega)) ?_;  k_whole); intro _ _ _; (try dsimp only); (try k_sweep)))) | walk_at "mo"))))
  rename_i lt _ l1 _ _ F2 N2
  have hs := hr.sorted
  have hlen := hr.few
  refine While_inv (fun k m₁ nx => (Xx5 fun (left : Int) (vt : List Value) (nt : Nat) (tl : Led) (ds : List (Int × Int)) => Aa11 (nx = (lt, PySem.W.listOf vt.toArray nt) :: (tl ++ fr)) (m₁ "row" = some (.ref l)) (m₁ "told" = some (.ref lt)) ((∃ t, m₁ "left" = some (.int left t))) (k = left.toNat) (left ≤ am) (PairsAt tl vt ds) (ds ++ toldF ns left.toNat left = toldF ns am.toNat am) ((∀ p ∈ tl, p.1 ≠ lt)) ((∀ p ∈ fr, ∀ q ∈ tl, p.1 < q.1)) ((ds.length : Int) + left.toNat ≤ am.toNat))) (n₀ := am.toNat) F2 N2 ?_ ?_
  · exact ⟨am, [], 0, [], [], rfl, rfl, rfl, ⟨_, rfl⟩, rfl, Int.le_refl _, .nil, rfl, (fun _ h => nomatch h), (fun _ _ _ h => nomatch h), by simp⟩
  · rintro k m₁ nx h₁ tk₁ F3 N3 hJz
    refine gz1 nx ?_
    intro Gz hGz
    obtain ⟨left, vt, nt, tl, ds, rfl, e1, e2, ⟨tleft, e3⟩, rfl, hle, hp, heq, ho1, ho2, hsz⟩ := hJz
    refine hGz _ ?_
    clear hGz Gz
    obtain ⟨m2, F4⟩ := names_ex F3 [("row", .ref l), ("told", .ref lt), ("left", .int left tleft)] (all_cons e1 (all_cons e2 (all_cons e3 all_nil)))
    clear F3 F2 N2
    by_cases hpos : 0 < left
    · refine gz0 fun Gz hGz => ?_
      obtain ⟨b1, b2, c1, c2⟩ := hr.coin (left := left) (by omega)
      refine hGz ?_
      clear hGz Gz
      obtain ⟨c, hc⟩ : ∃ c : Int, c = ns.getD (bis ns left - 1) 0 := ⟨_, rfl⟩
      have hct : ((bis ns left : Int) - 1).toNat = bis ns left - 1 := by omega
      (repeat' (first | (first | (k_here; (with_reducible show wpAny _ _ (call (Value.ref 120) _) _ _ _); k_dflt (refine' use_says (by k_asm) (by k_asm) (by k_asm) (by k_asm) (by k_asm) (by first | exact rfl | assumption) (by exact says_bis _ _ _ _ _ _ _ (by k_mem) (by assumption) (by omega) (by assumption)) (by ktr_room) (by ktr_units) ?_); intro _ _ _ _ r9 _ _; (obtain ⟨e9, _, f9⟩ := r9); subst e9; subst f9; (try dsimp only))) | ((( (fail_if_success with_reducible first | refine st0 ?_ | refine st1 ?_ | refine st2 ?_ | refine st3 ?_))); (fail_if_success with_reducible first | refine st4 ?_); (first | ((with_reducible show wpAny _ _ (call (Value.builtin "list.append") _) _ _ _); ((k_here; k_dflt (refine' my_append (by k_asm) (by k_asm) (by k_upd) (by first | omega | (simp only [List.length_cons, List.length_nil, List.length_append]; omega)) ?_;  k_whole); intro _ _ _; (try dsimp only); (try k_sweep)))) | walk_at "mo"))))
      (rename Fr _ _ _ _ => F5)
      rw [hct, ← hc] at F5 ⊢
      rw [← hc] at c1 c2
      have hrow := hr.small (bis ns left - 1) (by omega)
      rw [← hc] at hrow
      refine' use_says (by k_asm) (by k_asm) (by k_asm) ?uN6 (by k_asm) (by first | exact rfl | assumption) ?uC6 ?uD6 ?uU6 ?uR6
      case uN6 => k_asm
      case uC6 => exact says_idmW left c _ _ _ (hW.mono fun p hp => List.mem_cons_of_mem _ (List.mem_append_right _ hp)) (by omega) (by omega) (by omega) (by omega)
      case uD6 => ktr_room
      case uU6 => ktr_units
      rintro vZ h9 tk9 nZ hJz
      refine gz2 vZ nZ ?_
      intro Gz hGz
      obtain ⟨lq, tq, tr, rfl, rfl, lqf⟩ := hJz
      refine hGz _ _ ?_
      clear hGz Gz
      rintro F9 N9
      have l2 := List.forall_mem_cons.mp lqf
      have l3 := ltN l2.1
      have hvl := hp.len
      have off : ∀ p ∈ tl ++ fr, p.1 ≠ lt := off_app ho1 (off_lt l1)
      have efd : left.fdiv c = left / c := Int.fdiv_eq_ediv_of_nonneg _ (by omega)
      have efm : left.fmod c = left % c := Int.fmod_eq_emod_of_nonneg _ (by omega)
      have hq0 : 0 ≤ left.fdiv c := by rw [efd]; exact Int.ediv_nonneg (by omega) (by omega)
      have hq1 : left.fdiv c ≤ 1000000 := by rw [efd]; exact Int.le_trans (Int.ediv_le_self _ (by omega)) (by omega)
      have hm0 : 0 ≤ left.fmod c := by rw [efm]; exact Int.emod_nonneg _ (by omega)
      have hm1 : left.fmod c < c := by rw [efm]; exact Int.emod_lt_of_pos _ (by omega)
      (repeat' (first | (first | (k_here; (with_reducible show wpAny _ _ (call (Value.ref 120) _) _ _ _); k_dflt (refine' use_says (by k_asm) (by k_asm) (by k_asm) (by k_asm) (by k_asm) (by first | exact rfl | assumption) (by exact says_bis _ _ _ _ _ _ _ (by k_mem) (by assumption) (by omega) (by assumption)) (by ktr_room) (by ktr_units) ?_); intro _ _ _ _ r9 _ _; (obtain ⟨e9, _, f9⟩ := r9); subst e9; subst f9; (try dsimp only))) | ((( (fail_if_success with_reducible first | refine st0 ?_ | refine st1 ?_ | refine st2 ?_ | refine st3 ?_))); (fail_if_success with_reducible first | refine st4 ?_); (first | ((with_reducible show wpAny _ _ (call (Value.builtin "list.append") _) _ _ _); ((k_here; k_dflt (refine' my_append (by k_asm) (by k_asm) (by k_upd) (by first | omega | (simp only [List.length_cons, List.length_nil, List.length_append]; omega)) ?_;  k_whole); intro _ _ _; (try dsimp only); (try k_sweep)))) | walk_at "mo"))))
      (rename News _ _ _ _ => N7)
      rename_i D _ lD _ _
      refine gz0 fun Gz hGz => ?_
      obtain ⟨ta, tb, N7⟩ : (Xx2 fun ta tb => News _ _ _ ((D, tob [.str (decS c) ta, .str (decS (left.fdiv c)) tb]) :: (lq, _) :: (lt, PySem.W.listOf (vt ++ [Value.ref D]).toArray (nt + 1)) :: (tl ++ fr))) := ⟨_, _, N7⟩
      refine hGz ?_
      clear hGz Gz
      have hD1 := lD.2.1
      have hDa := mem_allLt lD.2.2
      have hstep : toldF ns left.toNat left = (c, left.fdiv c) :: toldF ns (left.fmod c).toNat (left.fmod c) := by
        have e1 : left.toNat = (left.toNat - 1) + 1 := by omega
        rw [e1]
        simp only [toldF]
        rw [if_neg (by omega), ← hc, efd, efm, toldF_more hr (left.toNat - 1) (left % c).toNat _ (by omega) (Nat.le_refl _)]
      refine' WhileStep.intro (n' := (left.fmod c).toNat) (news₂ := (lt, PySem.W.listOf (vt ++ [Value.ref D]).toArray (nt + 1)) :: (((D, tob [.str (decS c) ta, .str (decS (left.fdiv c)) tb]) :: tl) ++ fr)) ?F (news_sub N7 ?N) ?lt ?J
      case F => k_asm
      case N => (((try simp only [List.cons_append, List.nil_append]); (repeat' (first | exact List.forall_mem_nil _ | refine List.forall_mem_cons.mpr ⟨?_, ?_⟩)) <;> (first | k_mem | (intro _ _; k_mem))))
      case lt => omega
      case J =>
        refine ⟨left.fmod c, _, _, _, ds ++ [(c, left.fdiv c)], rfl, rfl, rfl, ⟨_, rfl⟩, rfl, by omega, PairsAt.snoc (hp.mono fun p hq => List.mem_cons_of_mem _ hq) (.head _), ?_, ?_, ?_, ?_⟩
        · rw [← heq, hstep, List.append_assoc]; rfl
        · exact List.forall_mem_cons.mpr ⟨Nat.ne_of_gt hD1, ho1⟩
        · intro p hp' q hq
          rcases List.mem_cons.mp hq with rfl | hq
          · exact hDa p (List.mem_append_right _ hp')
          · exact ho2 p hp' q hq
        · rw [List.length_append, List.length_singleton]
          omega
    · have hz : left.toNat = 0 := by omega
      rw [hz] at heq
      simp only [toldF, List.append_nil] at heq
      subst heq
      (repeat' (first | (first | (k_here; (with_reducible show wpAny _ _ (call (Value.ref 120) _) _ _ _); k_dflt (refine' use_says (by k_asm) (by k_asm) (by k_asm) (by k_asm) (by k_asm) (by first | exact rfl | assumption) (by exact says_bis _ _ _ _ _ _ _ (by k_mem) (by assumption) (by omega) (by assumption)) (by ktr_room) (by ktr_units) ?_); intro _ _ _ _ r9 _ _; (obtain ⟨e9, _, f9⟩ := r9); subst e9; subst f9; (try dsimp only))) | ((( (fail_if_success with_reducible first | refine st0 ?_ | refine st1 ?_ | refine st2 ?_ | refine st3 ?_))); (fail_if_success with_reducible first | refine st4 ?_); (first | ((with_reducible show wpAny _ _ (call (Value.builtin "list.append") _) _ _ _); ((k_here; k_dflt (refine' my_append (by k_asm) (by k_asm) (by k_upd) (by first | omega | (simp only [List.length_cons, List.length_nil, List.length_append]; omega)) ?_;  k_whole); intro _ _ _; (try dsimp only); (try k_sweep)))) | walk_at "mo"))))
      exact hret _ _ _ _ ⟨lt, vt, nt, tl, rfl, rfl, hp, ho1, l1, ho2⟩ (by k_asm) (by k_asm)
end Mine
-- C10
namespace Mine
section
variable {prog : Program} {w : World} {A : Around} {E : Value → Shared → Prop} {s : Shared} {h₀ : Heap} {L : Addr} {m : Str → Option Value} {env : Env}
noncomputable def ElEnd (h₀ : Heap) (L : Addr) (m : Str → Option Value) (s : Shared) (led : Led) (K : Value → Prop) (y : Value) (s₂ : Shared) : Prop :=
  (Xx2 fun h' tk' => Aa4 (s₂ = { s with heap := h', toks := tk' }) (Fr h₀ L h' m) (News h₀ L h' led) (K y))
theorem ElEnd.intro {led news' : Led} {K : Value → Prop} {y : Value} {h' : Heap} {tk' : Nat} (F : Fr h₀ L h' m) (N : News h₀ L h' news') (hs : ∀ p ∈ led, p ∈ news') (hk : K y) : ElEnd h₀ L m s led K y { s with heap := h', toks := tk' } := ⟨h', tk', rfl, F, news_sub N hs, hk⟩
theorem compP_ind {elt : Expr} {x x₂ : Str} {scope : Scope} {cl : List (Str × Addr)} {S : Led → Prop} {P : Nat → Value → Prop} {Fin : List Value → Led → Prop} {n : Nat} {news : Led} (J : Nat → List Value → Prop) (hS : S news) (hj : J 0 [])
    (step : ∀ i ys v, i < n → J i ys → P i v → (Xx5 fun (t : Addr) (ot : Obj) (v₁ v₂ : Value) (nt : Nat) => Aa5 (v = .ref t) ((t, ot) ∈ news) (ot.cls = .type "tuple") (ot.data = .seq #[v₁, v₂] nt) (∀ I oI C oC D m₂ h tk (E' : Value → Shared → Prop), LCg.NsObj oC m₂ → m₂ x = some v₁ → m₂ x₂ = some v₂ → Fr h₀ L h m → News h₀ L h ((I, oI) :: (C, oC) :: (D, LCg.lst ys) :: news) →
        wpAny (model prog w) A (eval elt (compEnvC scope cl C env)) (ElEnd h₀ L m s ((I, oI) :: (C, oC) :: (D, LCg.lst ys) :: news) (fun y => J (i + 1) (ys ++ [y]))) E' { s with heap := h, toks := tk })))
    (fin : ∀ ys, J n ys → Fin ys news) : LCp.CompRestP prog w A h₀ L m env elt x x₂ scope cl s S P Fin n 0 [] news := by
  have all : ∀ k i ys, k + i = n → J i ys → LCp.CompRestP prog w A h₀ L m env elt x x₂ scope cl s S P Fin k i ys news := by
    intro k
    induction k with
    | zero =>
      intro i ys e hJ
      have : i = n := by omega
      subst this
      exact LCp.CompRestP.zero (fin ys hJ)
    | succ k ih =>
      intro i ys e hJ
      refine LCp.CompRestP.succ fun v hv => ?_
      refine gz0 fun Gz hGz => ?_
      obtain ⟨t, ot, v₁, v₂, nt, e1, e2, e3, e4, H⟩ := step i ys v (by omega) hJ hv
      refine hGz ?_
      clear hGz Gz
      refine ⟨t, ot, v₁, v₂, nt, e1, e2, e3, e4, fun I oI C oC D m₂ h tk E' a1 a2 a3 F N off _ => ?_⟩
      refine wpAny_mono (H I oI C oC D m₂ h tk E' a1 a2 a3 F N) (fun y s₂ q => ?_) fun _ _ z => z
      refine gz0 fun Gz hGz => ?_
      obtain ⟨h', tk', rfl, F', N', hJ'⟩ := q
      refine hGz ?_
      clear hGz Gz
      exact ⟨h', tk', news, rfl, F', N', off, hS, ih (i + 1) _ (by omega) hJ'⟩
  exact all n 0 [] rfl hj
theorem PairsAt.get {led : Led} {vs : List Value} {ds : List (Int × Int)} (h : PairsAt led vs ds) : ∀ (i : Nat) (v : Value), vs[i]? = some v → (Xx5 fun a c m t1 t2 => Aa3 (v = .ref a) ((a, tob [.str (decS c) t1, .str (decS m) t2]) ∈ led) (ds[i]? = some (c, m))) := by
  induction h with
  | nil => intro i v hv; simp at hv
  | cons hm _ ih =>
    intro i v hv
    cases i with
    | zero => simp at hv; subst hv; exact ⟨_, _, _, _, _, rfl, hm, rfl⟩
    | succ i => simpa using ih i v (by simpa using hv)
end
theorem toldF_nums {ns : List Int} (hr : Row ns) : ∀ (k : Nat) (left : Int), left ≤ 1000000 → ∀ p ∈ toldF ns k left, (0 ≤ p.1 ∧ p.1 ≤ 1000000) ∧ 0 ≤ p.2 ∧ p.2 ≤ 1000000
  | 0, _, _, p, hp => nomatch hp
  | k + 1, left, h, p, hp => by
    simp only [toldF] at hp
    by_cases hl : left ≤ 0
    · rw [if_pos hl] at hp; cases hp
    · rw [if_neg hl] at hp
      refine gz0 fun Gz hGz => ?_
      obtain ⟨b1, b2, c1, c2⟩ := hr.coin (left := left) (by omega)
      refine hGz ?_
      clear hGz Gz
      rcases List.mem_cons.mp hp with rfl | hp
      · refine ⟨⟨by omega, by omega⟩, Int.ediv_nonneg (by omega) (by omega), Int.le_trans (Int.ediv_le_self _ (by omega)) h⟩
      · have m0 := Int.emod_nonneg left (show ns.getD (bis ns left - 1) 0 ≠ 0 by omega)
        have m1 := Int.emod_lt_of_pos left (show 0 < ns.getD (bis ns left - 1) 0 by omega)
        exact toldF_nums hr k _ (by omega) p hp
theorem toldF_len {ns : List Int} : ∀ (k : Nat) (left : Int), (toldF ns k left).length ≤ k
  | 0, _ => Nat.le_refl _
  | k + 1, left => by
    simp only [toldF]
    split
    · simp
    · simp only [List.length_cons]
      have := toldF_len (ns := ns) k (left % ns.getD (bis ns left - 1) 0)
      omega
noncomputable def pieces (ns : List Int) (am : Int) : Int := ((toldF ns am.toNat am).map (·.2)).sum
theorem says_pieces (l : Addr) (vs : List Value) (n : Nat) (ns : List Int) (am : Int) (t : Tok) (fr : Led) (hm : (l, PySem.W.listOf vs.toArray n) ∈ fr) (hi : IntsAre vs ns) (hr : Row ns) (ha : am ≤ 1000000) (hW : Tabs fr) :
    Says 98 500 337 [.ref l, .int am t] fr (fun v news => news = fr ∧ ∃ t, v = .int (pieces ns am) t) := by
  ((have hfill : Mine.hd.heap_39 = Mine.hd.heap_39 ∧ PySem.Challenge.rw_sn0098_01 = PySem.Challenge.rw_sn0098_01 := (by k_fill; exact ⟨rfl, rfl⟩)); clear hfill)
  unfold Says
  intros
  rename_i hret
  refine wpAny_call ?_
  k_dflt walk_at "my enter"
  (rename Fr _ _ _ _ => F)
  obtain ⟨m', F1⟩ := names_ex F [("row", .ref l), ("amount", .int am t)] (by ((repeat' (first | exact all_nil | refine all_cons rfl ?_))))
  clear F
  (repeat' (first | (first | (k_here; (with_reducible show wpAny _ _ (call (Value.ref 332) _) _ _ _); k_dflt (refine' use_says (by k_asm) (by k_asm) (by k_asm) (by k_asm) (by k_asm) (by first | exact rfl | assumption) (by exact says_told _ _ _ _ _ _ _ (by k_mem) (by assumption) (by assumption) (by omega) (by assumption)) (by ktr_room) (by ktr_units) ?_); intro _ _ _ _ r9 _ _; (obtain ⟨_, _, _, _, e9, f9, _, _, _, _⟩ := r9); subst e9; subst f9; (try dsimp only))) | ((( (fail_if_success with_reducible first | refine st0 ?_ | refine st1 ?_ | refine st2 ?_ | refine st3 ?_))); (fail_if_success with_reducible first | refine st4 ?_ | refine st5 ?_ | refine st6 ?_); walk_at "mo")))
  ((k_here; k_dflt (refine LCp.ListComp_P (F₀ := by k_asm) (by with_unfolding_all rfl) (by decide) (by rfl) (by decide) (by rfl) (by rfl) (by decide) ?_)))
  (repeat' (first | (first | (k_here; (with_reducible show wpAny _ _ (call (Value.ref 332) _) _ _ _); k_dflt (refine' use_says (by k_asm) (by k_asm) (by k_asm) (by k_asm) (by k_asm) (by first | exact rfl | assumption) (by exact says_told _ _ _ _ _ _ _ (by k_mem) (by assumption) (by assumption) (by omega) (by assumption)) (by ktr_room) (by ktr_units) ?_); intro _ _ _ _ r9 _ _; (obtain ⟨_, _, _, _, e9, f9, _, _, _, _⟩ := r9); subst e9; subst f9; (try dsimp only))) | ((( (fail_if_success with_reducible first | refine st0 ?_ | refine st1 ?_ | refine st2 ?_ | refine st3 ?_))); (fail_if_success with_reducible first | refine st4 ?_ | refine st5 ?_ | refine st6 ?_); walk_at "mo")))
  rename_i h9 tk9 F9 lt vt nt tl hp o9 l9 m9 N9
  obtain ⟨ds, hds⟩ : ∃ ds, ds = toldF ns am.toNat am := ⟨_, rfl⟩
  rw [← hds] at hp
  have hvl := hp.len
  have hdl : ds.length ≤ 1000000 := by
    have := toldF_len (ns := ns) am.toNat am
    rw [hds]; omega
  have hnum : ∀ p ∈ ds, (0 ≤ p.1 ∧ p.1 ≤ 1000000) ∧ 0 ≤ p.2 ∧ p.2 ≤ 1000000 := by rw [hds]; exact toldF_nums hr _ _ ha
  refine LCp.SrcLP.ledger (by rfl) F9 N9 (.head _) (by rw [List.size_toArray]; simp only [sizeLine]; omega) fun g => ?_
  refine compP_ind (fun i ys => IntsAre ys ((ds.take i).map (·.2))) (.inr ⟨_, .head _, rfl, _, rfl⟩) .nil ?_ ?_
  · intro i ys v hi' hJ hv
    refine gz0 fun Gz hGz => ?_
    obtain ⟨a, c, mm, t1, t2, rfl, hmem, hd⟩ := hp.get i v (by simpa using hv)
    refine hGz ?_
    clear hGz Gz
    refine ⟨a, _, _, _, _, rfl, List.mem_cons_of_mem _ (List.mem_append_left _ hmem), rfl, rfl, ?_⟩
    intro I oI C oC D m₂ h tk E' a1 a2 a3 F N
    have hn := (hnum _ (List.mem_of_getElem? hd)).2
    dsimp only at hn
    (repeat' (first | (first | (k_here; (with_reducible show wpAny _ _ (call (Value.ref 332) _) _ _ _); k_dflt (refine' use_says (by k_asm) (by k_asm) (by k_asm) (by k_asm) (by k_asm) (by first | exact rfl | assumption) (by exact says_told _ _ _ _ _ _ _ (by k_mem) (by assumption) (by assumption) (by omega) (by assumption)) (by ktr_room) (by ktr_units) ?_); intro _ _ _ _ r9 _ _; (obtain ⟨_, _, _, _, e9, f9, _, _, _, _⟩ := r9); subst e9; subst f9; (try dsimp only))) | ((( (fail_if_success with_reducible first | refine st0 ?_ | refine st1 ?_ | refine st2 ?_ | refine st3 ?_))); (fail_if_success with_reducible first | refine st4 ?_ | refine st5 ?_ | refine st6 ?_); walk_at "mo")))
    refine ElEnd.intro (by k_asm) (by k_asm) (fun p hp => hp) ?_
    rw [List.take_add_one, hd, List.map_append]
    exact IntsAre.append hJ (.cons _ _ .nil)
  · intro ys hJ
    have hvs : vt.toArray.size = ds.length := by simp [hvl]
    rw [hvs, List.take_length] at hJ
    unfold LCg.FinE
    intro D h tk F N o1
    dsimp only
    (repeat' (first | (first | (k_here; (with_reducible show wpAny _ _ (call (Value.ref 332) _) _ _ _); k_dflt (refine' use_says (by k_asm) (by k_asm) (by k_asm) (by k_asm) (by k_asm) (by first | exact rfl | assumption) (by exact says_told _ _ _ _ _ _ _ (by k_mem) (by assumption) (by assumption) (by omega) (by assumption)) (by ktr_room) (by ktr_units) ?_); intro _ _ _ _ r9 _ _; (obtain ⟨_, _, _, _, e9, f9, _, _, _, _⟩ := r9); subst e9; subst f9; (try dsimp only))) | ((( (fail_if_success with_reducible first | refine st0 ?_ | refine st1 ?_ | refine st2 ?_ | refine st3 ?_))); (fail_if_success with_reducible first | refine st4 ?_ | refine st5 ?_ | refine st6 ?_); walk_at "mo")))
    exact hret _ _ _ fr ⟨rfl, _, by rw [pieces, ← hds]⟩ (by k_asm) (news_sub (by k_asm) (by (((try simp only [List.cons_append, List.nil_append]); (repeat' (first | exact List.forall_mem_nil _ | refine List.forall_mem_cons.mpr ⟨?_, ?_⟩)) <;> (first | k_mem | (intro _ _; k_mem))))))
end Mine
-- C11
namespace Mine
section
variable {prog : Program} {w : World} {A : Around} {E : Value → Shared → Prop} {s : Shared} {h₀ : Heap} {L : Addr} {m : Str → Option Value} {env : Env}
theorem comp_ind {elt : Expr} {x : Str} {scope : Scope} {cl : List (Str × Addr)} {S : Led → Prop} {P : Nat → Value → Prop} {Fin : List Value → Led → Prop} {n : Nat} {news : Led} (J : Nat → List Value → Prop) (hS : S news) (hj : J 0 [])
    (step : ∀ i ys v, i < n → J i ys → P i v → ∀ I oI C oC D m₂ h tk (E' : Value → Shared → Prop), LCg.NsObj oC m₂ → m₂ x = some v → Fr h₀ L h m → News h₀ L h ((I, oI) :: (C, oC) :: (D, LCg.lst ys) :: news) →
        wpAny (model prog w) A (eval elt (compEnvC scope cl C env)) (ElEnd h₀ L m s ((I, oI) :: (C, oC) :: (D, LCg.lst ys) :: news) (fun y => J (i + 1) (ys ++ [y]))) E' { s with heap := h, toks := tk })
    (fin : ∀ ys, J n ys → Fin ys news) : LCg.CompRest prog w A h₀ L m env elt x scope cl s S P Fin n 0 [] news := by
  have all : ∀ k i ys, k + i = n → J i ys → LCg.CompRest prog w A h₀ L m env elt x scope cl s S P Fin k i ys news := by
    intro k
    induction k with
    | zero =>
      intro i ys e hJ
      have : i = n := by omega
      subst this
      exact LCg.CompRest.zero (fin ys hJ)
    | succ k ih =>
      intro i ys e hJ
      refine LCg.CompRest.succ fun v I oI C oC D m₂ h tk E' hv a1 a2 F N off _ => ?_
      refine wpAny_mono (step i ys v (by omega) hJ hv I oI C oC D m₂ h tk E' a1 a2 F N) (fun y s₂ q => ?_) fun _ _ z => z
      refine gz0 fun Gz hGz => ?_
      obtain ⟨h', tk', rfl, F', N', hJ'⟩ := q
      refine hGz ?_
      clear hGz Gz
      exact ⟨h', tk', news, rfl, F', N', off, hS, ih (i + 1) _ (by omega) hJ'⟩
  exact all n 0 [] rfl hj
theorem compT_ind {ct elt : Expr} {x : Str} {scope : Scope} {cl : List (Str × Addr)} {S : Led → Prop} {P : Nat → Value → Prop} {Fin : List Value → Led → Prop} {n : Nat} {news : Led} (J : Nat → List Value → Prop) (hS : S news) (hj : J 0 [])
    (step : ∀ i ys v, i < n → J i ys → P i v → ∀ I oI C oC D m₂ h tk (E' : Value → Shared → Prop), LCg.NsObj oC m₂ → m₂ x = some v → Fr h₀ L h m → News h₀ L h ((I, oI) :: (C, oC) :: (D, LCg.lst ys) :: news) →
        wpAny (model prog w) A (isTrue ct (compEnvC scope cl C env) (eval ct (compEnvC scope cl C env))) (fun ok s' => if ok = true then
          wpAny (model prog w) A (eval elt (compEnvC scope cl C env)) (ElEnd h₀ L m s ((I, oI) :: (C, oC) :: (D, LCg.lst ys) :: news) (fun y => J (i + 1) (ys ++ [y]))) E' s'
          else ElEnd h₀ L m s ((I, oI) :: (C, oC) :: (D, LCg.lst ys) :: news) (fun _ => J (i + 1) ys) Value.none s') E' { s with heap := h, toks := tk })
    (fin : ∀ ys, J n ys → Fin ys news) : LCt.CompRestT prog w A h₀ L m env ct elt x scope cl s S P Fin n 0 [] news := by
  have all : ∀ k i ys, k + i = n → J i ys → LCt.CompRestT prog w A h₀ L m env ct elt x scope cl s S P Fin k i ys news := by
    intro k
    induction k with
    | zero =>
      intro i ys e hJ
      have : i = n := by omega
      subst this
      exact LCt.CompRestT.zero (fin ys hJ)
    | succ k ih =>
      intro i ys e hJ
      refine LCt.CompRestT.succ fun v I oI C oC D m₂ h tk E' hv a1 a2 F N off _ => ?_
      refine wpAny_mono (step i ys v (by omega) hJ hv I oI C oC D m₂ h tk E' a1 a2 F N) (fun ok s₂ q => ?_) fun _ _ z => z
      cases ok with
      | true =>
        simp only [if_true] at q ⊢
        refine wpAny_mono q (fun y s₂ q => ?_) fun _ _ z => z
        refine gz0 fun Gz hGz => ?_
        obtain ⟨h', tk', rfl, F', N', hJ'⟩ := q
        refine hGz ?_
        clear hGz Gz
        exact ⟨h', tk', news, rfl, F', N', off, hS, ih (i + 1) _ (by omega) hJ'⟩
      | false =>
        simp only [Bool.false_eq_true, if_false] at q ⊢
        refine gz0 fun Gz hGz => ?_
        obtain ⟨h', tk', rfl, F', N', hJ'⟩ := q
        refine hGz ?_
        clear hGz Gz
        exact ⟨h', tk', news, rfl, F', N', off, hS, ih (i + 1) _ (by omega) hJ'⟩
  exact all n 0 [] rfl hj
variable {x : Str} {body : List Stmt} {Q : Flow → Shared → Prop}
end
end Mine
-- C12
namespace Mine
section
variable {prog : Program} {w : World} {A : Around} {E : Value → Shared → Prop} {s : Shared} {env : Env} {h₀ : Heap} {tgt : Expr} {body : List Stmt} {Q : Flow → Shared → Prop}
noncomputable def LoopT (prog : Program) (w : World) (A : Around) (env : Env) (tgt : Expr) (body : List Stmt) (Q : Flow → Shared → Prop) (E : Value → Shared → Prop) (it : Value) (s₂ : Shared) : Prop :=
  (Xx2 fun (n : Nat) (K : Nat → Shared → Prop) => K n s₂ ∧ ∀ k s, K k s → wpAny (model prog w) A (pyNext it) (fun r s₁ => match r with
    | none => Q .next s₁
    | some v => wpAny (model prog w) A (letOwnedTupleGo tgt it v) (fun _ s₁' => wpAny (model prog w) A (assign tgt env v) (fun _ s₂ => wpAny (model prog w) A (execs body env) (fun f s₃ => match f with
        | .next | .cont => ∃ m, m < k ∧ K m s₃
        | .brk => Q .next s₃
        | .ret v => Q (.ret v) s₃) E s₂) E s₁') E s₁) E s)
theorem For_T {pos : Pos} {iter : Expr}
    (h : wpAny (model prog w) A (eval iter env) (fun xv s₁ => wpAny (model prog w) A (pyIter xv) (fun it s₂ => LoopT prog w A env tgt body Q E it s₂) E s₁) E s)
    (hs : ∀ x, foldedSetIterable iter env x = pure x := by intro _; rfl)
    (hE : PassesOwn (model prog w) A env E := by passes_own) :
    wpAny (model prog w) A (exec (.For tgt iter body [] pos) env) Q E s := by
  refine wpAny_For (wpAny_mono h (fun xv s₁ h₁ => wpAny_mono h₁ (fun it s₂ h₂ => ?_) fun _ _ e => e) fun _ _ e => e) hs
  refine gz0 fun Gz hGz => ?_
  obtain ⟨n, K, h0, turn⟩ := h₂
  refine hGz ?_
  clear hGz Gz
  refine codeAny_forLoop_any K (fun k s' hK => wpAny_passesOwn hE (wpAny_mono (turn k s' hK) (fun r s₁ q => ?_) fun _ _ e => e)) n h0
  cases r with
  | none => exact wpAny_execs_nil q
  | some v =>
    refine wpAny_passesOwn hE (wpAny_mono q (fun _ s₁' q => ?_) fun _ _ e => e)
    refine wpAny_passesOwn hE (wpAny_mono q (fun _ s₂ q => ?_) fun _ _ e => e)
    refine wpAny_passesOwn hE (wpAny_mono q (fun f s₃ q => ?_) fun _ _ e => e)
    cases f <;> exact q
theorem loopWT (G : Obj → Prop) {I : Addr} {oI₀ : Obj} {fp : List Addr} {n : Nat} {P : Nat → Value → Prop} {St : Nat → Heap → Prop} {m₀ : Str → Option Value} {news : Led} (J : Nat → (Str → Option Value) → Led → Prop)
    (W : Walks prog w A I fp [I] n P St) (hIf : I ∈ fp) (hlive : ∀ i h, St i h → ∃ o, h.get? I = some o ∧ G o) (hst : St 0 s.heap) (F : Fr h₀ env.locals s.heap m₀) (N : News h₀ env.locals s.heap ((I, oI₀) :: news)) (hoff : ∀ p ∈ news, p.1 ≠ I)
    (hfpJ : ∀ b ∈ fp, b = I ∨ ∃ o, ∀ i m nx, J i m nx → (b, o) ∈ nx) (hj : J 0 m₀ news)
    (hown : ∀ i v h tk (Q : Unit → Shared → Prop), i < n → P i v → St (i + 1) h → Q () { s with heap := h, toks := tk } → wpAny (model prog w) A (letOwnedTupleGo tgt (.ref I) v) Q E { s with heap := h, toks := tk })
    (turn : ∀ i v m₁ nx h tk oI, G oI → i < n → P i v → J i m₁ nx → (∀ p ∈ nx, p.1 ≠ I) → Fr h₀ env.locals h m₁ → News h₀ env.locals h ((I, oI) :: nx) →
      wpAny (model prog w) A (assign tgt env v) (fun _ s₂ => wpAny (model prog w) A (execs body env) (TurnTo h₀ env.locals I oI (J (i + 1)) s Q) E s₂) E { s with heap := h, toks := tk })
    (done : ∀ m₁ nx h tk, J n m₁ nx → Fr h₀ env.locals h m₁ → News h₀ env.locals h nx → Q .next { s with heap := h, toks := tk }) :
    LoopT prog w A env tgt body Q E (.ref I) s := by
  have hI := N _ (.head _)
  have N' : News h₀ env.locals s.heap news := news_sub N fun p hp => .tail _ hp
  refine ⟨n + 1, fun k s' => (Xx5 fun h' tk m' nx i => Aa8 (s' = { s with heap := h', toks := tk }) (St i h') (Fr h₀ env.locals h' m') (News h₀ env.locals h' nx) ((∀ p ∈ nx, p.1 ≠ I)) (J i m' nx) (i ≤ n) (k = n + 1 - i)),
    ⟨s.heap, s.toks, m₀, news, 0, rfl, hst, F, N', hoff, hj, Nat.zero_le _, rfl⟩, ?_⟩
  rintro k s' hJz
  refine gz2 k s' ?_
  intro Gz hGz
  obtain ⟨h', tk, m', nx, i, rfl, hst', F', Nx, ho, hJ, hi, rfl⟩ := hJz
  refine hGz _ _ ?_
  clear hGz Gz
  have next : ∀ h₁ : Heap, (∀ b o, b ∉ [I] → h'.get? b = some o → h₁.get? b = some o) → Fr h₀ env.locals h₁ m' ∧ News h₀ env.locals h₁ nx := fun h₁ hk₁ =>
    ⟨⟨F'.ns.at' fun o e => hk₁ _ o (fun q => hI.2.1 (List.mem_singleton.mp q).symm) e, fun b o e => hk₁ b o (fun q => by rw [List.mem_singleton.mp q, hI.2.2] at e; cases e) (F'.keep b o e), F'.above⟩,
      fun p hp => ⟨hk₁ _ _ (fun q => ho p hp (List.mem_singleton.mp q)) (Nx p hp).1, (Nx p hp).2⟩⟩
  by_cases hlt : i < n
  · refine W.item i _ _ _ hlt hst' fun v h₁ tk₁ hP hst₁ hk₁ => ?_
    obtain ⟨F₁, N₁⟩ := next h₁ hk₁
    refine gz0 fun Gz hGz => ?_
    obtain ⟨oI, hoI, hG⟩ := hlive _ _ hst₁
    refine hGz ?_
    clear hGz Gz
    have N₂ : News h₀ env.locals h₁ ((I, oI) :: nx) := fun p hp => by
      rcases List.mem_cons.mp hp with rfl | hp
      · exact ⟨hoI, hI.2⟩
      · exact N₁ p hp
    refine hown i v h₁ tk₁ _ hlt hP hst₁ ?_
    refine wpAny_mono (turn i v m' nx h₁ tk₁ oI hG hlt hP hJ ho F₁ N₂) (fun _ s₂ q => wpAny_mono q (fun f s₃ q => ?_) fun _ _ e => e) fun _ _ e => e
    have fin : ((Xx4 fun h' tk m' nx => Aa5 (s₃ = { s with heap := h', toks := tk }) (Fr h₀ env.locals h' m') (News h₀ env.locals h' ((I, oI) :: nx)) ((∀ p ∈ nx, p.1 ≠ I)) (J (i + 1) m' nx))) →
        ∃ m, m < n + 1 - i ∧ (Xx5 fun h' tk m' nx i => Aa8 (s₃ = { s with heap := h', toks := tk }) (St i h') (Fr h₀ env.locals h' m') (News h₀ env.locals h' nx) ((∀ p ∈ nx, p.1 ≠ I)) (J i m' nx) (i ≤ n) (m = n + 1 - i)) := by
      rintro ⟨h3, tk3, m3, nx3, e, F3, Nx3, ho3, hj3⟩
      refine ⟨n + 1 - (i + 1), by omega, h3, tk3, m3, nx3, i + 1, e, W.frame _ _ _ hst₁ fun b hb o eb => ?_, F3, news_sub Nx3 fun p hp => .tail _ hp, ho3, hj3, hlt, rfl⟩
      rcases hfpJ _ hb with rfl | ⟨o2, ho2⟩
      · rw [hoI] at eb
        cases eb
        exact (Nx3 _ (.head _)).1
      · have h1 := (N₂ _ (List.mem_cons_of_mem _ (ho2 _ _ _ hJ))).1
        dsimp only at h1
        rw [h1] at eb
        cases eb
        exact (Nx3 _ (List.mem_cons_of_mem _ (ho2 _ _ _ hj3))).1
    cases f with
    | ret v => exact q
    | brk => exact q
    | next => exact fin q
    | cont => exact fin q
  · have hin : i = n := by omega
    subst hin
    refine W.done _ _ _ hst' fun h₁ tk₁ hk₁ => ?_
    obtain ⟨F₁, N₁⟩ := next h₁ hk₁
    exact done m' nx h₁ tk₁ hJ F₁ N₁
/-- for any target over the items of a list of the ledger -/
theorem loopLT {l : Addr} {vs : List Value} {nn : Nat} {m₀ : Str → Option Value} {news : Led} (J : Nat → (Str → Option Value) → Led → Prop) (hh : A.handled = none)
    (hm : ∀ i m nx, J i m nx → (l, PySem.W.listOf vs.toArray nn) ∈ nx) (F : Fr h₀ env.locals s.heap m₀) (N : News h₀ env.locals s.heap news) (hj : J 0 m₀ news)
    (hown : ∀ i v I h tk (Q : Unit → Shared → Prop), vs[i]? = some v → h.IsListIter I l (i + 1) → Q () { s with heap := h, toks := tk } → wpAny (model prog w) A (letOwnedTupleGo tgt (.ref I) v) Q E { s with heap := h, toks := tk })
    (turn : ∀ i v m₁ nx h tk I oI, vs[i]? = some v → J i m₁ nx → (∀ p ∈ nx, p.1 ≠ I) → Fr h₀ env.locals h m₁ → News h₀ env.locals h ((I, oI) :: nx) →
      wpAny (model prog w) A (assign tgt env v) (fun _ s₂ => wpAny (model prog w) A (execs body env) (TurnTo h₀ env.locals I oI (J (i + 1)) s Q) E s₂) E { s with heap := h, toks := tk })
    (done : ∀ m₁ nx h tk, J vs.length m₁ nx → Fr h₀ env.locals h m₁ → News h₀ env.locals h nx → Q .next { s with heap := h, toks := tk }) :
    wpAny (model prog w) A (pyIter (.ref l)) (fun it s₂ => LoopT prog w A env tgt body Q E it s₂) E s := by
  have hls : s.heap.IsList l vs.toArray := News.isList N (hm _ _ _ hj)
  have hlt : l < s.heap.objs.size := Heap.lt_size (N _ (hm _ _ _ hj)).1
  have hne : l ≠ s.heap.objs.size := Nat.ne_of_lt hlt
  refine wpAny_pyIter_list hls ?_
  have W := Walks.list (prog := prog) (w := w) hh s.heap.objs.size l hne vs.toArray
  have hlen : vs.toArray.size = vs.length := by simp
  rw [hlen] at W
  refine loopWT (fun _ => True) (oI₀ := _) J W (.head _) (fun i h st => let ⟨o, ho, _⟩ := st.1; ⟨o, ho, trivial⟩) ⟨⟨_, Heap.get?_push_size _ rfl, rfl, rfl⟩, hls.at fun o e => Heap.get?_push_of_some _ e⟩ (F.push _) (News.push F N _ rfl) (fun p hp => Nat.ne_of_lt (Heap.lt_size (N p hp).1)) ?_ hj ?_ ?_ ?_
  · intro b hb
    rcases List.mem_cons.mp hb with e | hb
    · exact .inl e
    · exact .inr ⟨_, fun i m nx h => (List.mem_singleton.mp hb) ▸ hm i m nx h⟩
  · intro i v h tk Q hi hP hst hQ
    exact hown i v _ h tk Q (by simpa using hP) hst.1 hQ
  · intro i v m₁ nx h tk oI _ hi hP hJ ho F₁ N₁
    exact turn i v m₁ nx h tk _ oI (by simpa using hP) hJ ho F₁ N₁
  · exact done
/-- for any target over a range by ones -/
theorem loopRangeT {r : Addr} {a₀ b₀ : Int} {t₀ u₀ v₀ : Tok} {n : Nat} {m₀ : Str → Option Value} {news : Led} (J : Nat → (Str → Option Value) → Led → Prop) (hh : A.handled = none)
    (hr : IsRange s.heap r a₀ b₀ 1 t₀ u₀ v₀) (hsmall : Builtin.Range.small a₀ b₀ 1 = true) (hn : Builtin.Range.rangeSize a₀ b₀ 1 = (n : Int)) (F : Fr h₀ env.locals s.heap m₀) (N : News h₀ env.locals s.heap news) (hj : J 0 m₀ news)
    (hown : ∀ it v, letOwnedTupleGo tgt it v = pure ())
    (turn : ∀ i t m₁ nx h tk I oI, ((Xx3 fun (x l d : Int) => oI.data = .fields #[rawInt x, rawInt l, rawInt d])) → i < n → J i m₁ nx → (∀ p ∈ nx, p.1 ≠ I) → Fr h₀ env.locals h m₁ → News h₀ env.locals h ((I, oI) :: nx) →
      wpAny (model prog w) A (assign tgt env (.int (a₀ + (i : Int)) t)) (fun _ s₂ => wpAny (model prog w) A (execs body env) (TurnTo h₀ env.locals I oI (J (i + 1)) s Q) E s₂) E { s with heap := h, toks := tk })
    (done : ∀ m₁ nx h tk, J n m₁ nx → Fr h₀ env.locals h m₁ → News h₀ env.locals h nx → Q .next { s with heap := h, toks := tk }) :
    wpAny (model prog w) A (pyIter (.ref r)) (fun it s₂ => LoopT prog w A env tgt body Q E it s₂) E s := by
  refine wpAny_pyIter_range hr hsmall ?_
  have W := LCg.range_walks (prog := prog) (w := w) (I := s.heap.objs.size) hh a₀ n
  refine loopWT (fun o => (Xx3 fun (x l d : Int) => o.data = .fields #[rawInt x, rawInt l, rawInt d])) J W (.head _) (fun i h st => ⟨_, st, _, _, _, rfl⟩) (by show IsRangeIter _ _ _ _ _; rw [hn]; simpa using Heap.get?_push_size _ rfl) (F.push _) (News.push F N _ rfl) (fun p hp => Nat.ne_of_lt (Heap.lt_size (N p hp).1)) ?_ hj ?_ ?_ done
  · intro b hb
    exact .inl (List.mem_singleton.mp hb)
  · intro i v h tk Q hi hP hst hQ
    exact wpAny_of_eq (hown _ _) hQ
  · rintro i v m₁ nx h tk oI hG hi hJz
    refine gz1 nx ?_
    intro Gz hGz
    obtain ⟨t, rfl⟩ := hJz
    refine hGz _ ?_
    clear hGz Gz
    rintro hJ ho F₁ N₁
    exact turn i t m₁ nx h tk _ oI hG hi hJ ho F₁ N₁
end
end Mine
-- C13
namespace Mine
section
variable {prog : Program} {w : World} {A : Around} {E : Value → Shared → Prop} {s : Shared} {h₀ : Heap} {L : Addr} {m : Str → Option Value} {news : Led}
theorem my_item_neg {value slice : Expr} {l : Addr} {vs : List Value} {ns : List Int} {n : Nat} {k : Int} {u : Tok} {Q : Value → Shared → Prop} (N : News h₀ L s.heap news) (hm : (l, lob vs n) ∈ news) (hi : IntsAre vs ns)
    (h0 : k < 0) (h1 : -(ns.length : Int) ≤ k) (hb : ns.length < 2 ^ 62) (h : ∀ t, Q (.int (ns.getD (k + ns.length).toNat 0) t) s)
    (hs : subscripted slice false (.ref l) (.int k u) = operate [.ref l, .int k u] (getItem (.ref l) (.int k u)) := by with_unfolding_all rfl) (hg : ∀ r, letTemporaryGo value (.ref l) r = pure () := by intro _; with_unfolding_all rfl) :
    wpAny (model prog w) A (subscriptTail value slice (.ref l) (.int k u)) Q E s := by
  have hx : (k + ns.length).toNat < ns.length := by omega
  have hls := News.isList N hm
  have hlen : vs.toArray.size = ns.length := by simp [hi.length]
  obtain ⟨t, ht⟩ := hi.get (k + ns.length).toNat (ns.getD (k + ns.length).toNat 0) (by simp [List.getD, hx])
  exact subscriptTail_builtin hls.typeIs slot_list_getitem.lookup (wpAny_getItem_list_neg hls h0 (by rw [hlen]; exact h1) (by omega) (by rw [hlen]; simpa using ht) (h t)) hs hg
theorem my_min {l : Addr} {vs : List Value} {ns : List Int} {n : Nat} {Q : Value → Shared → Prop} (F : Fr h₀ L s.heap m) (N : News h₀ L s.heap news) (hm : (l, lob vs n) ∈ news) (hi : IntsAre vs ns) (hne : 0 < ns.length) (hh : A.handled = none)
    (h : ∀ h' M (t : Tok) tk, Fr h₀ L h' m → News h₀ L h' news → M ∈ ns → (∀ a, a ∈ ns → M ≤ a) → Q (.int M t) { s with heap := h', toks := tk }) : wpAny (model prog w) A (call (.builtin "min") [.ref l]) Q E s :=
  kso_min F N (News.isList N hm) hi hne hh h
end
end Mine
local macro_rules | `(tactic| walk_at "my clear") => `(tactic| ((repeat (rename @Ne Addr _ _ => x'; clear x')); (repeat (rename (@Ne Addr _ _) ∧ _ => x'; clear x'))))
namespace Mine
theorem fr_L {h₀ h : Heap} {L : Addr} {m : Str → Option Value} (_ : Fr h₀ L h m) : ∃ x, x = L := ⟨L, rfl⟩
noncomputable def fitsOf (ns : List Int) (a : Int) : List Int := ns.filter (fun c => decide (c ≤ a))
noncomputable def minOf : List Int → Int
  | [] => 0
  | x :: r => r.foldl min x
theorem foldl_min_le : ∀ (r : List Int) (x : Int), r.foldl min x ≤ x ∧ (∀ a ∈ r, r.foldl min x ≤ a) ∧ (r.foldl min x = x ∨ r.foldl min x ∈ r)
  | [], x => ⟨Int.le_refl _, (fun _ h => nomatch h), .inl rfl⟩
  | y :: r, x => by
    refine gz0 fun Gz hGz => ?_
    obtain ⟨h1, h2, h3⟩ := foldl_min_le r (min x y)
    refine hGz ?_
    clear hGz Gz
    rw [List.foldl_cons]
    refine ⟨by omega, fun a ha => ?_, ?_⟩
    · rcases List.mem_cons.mp ha with rfl | ha
      · omega
      · exact h2 a ha
    · rcases h3 with h3 | h3
      · rw [h3]
        rcases Int.le_total x y with h | h
        · exact .inl (by omega)
        · exact .inr (by rw [show min x y = y by omega]; exact .head _)
      · exact .inr (.tail _ h3)
theorem minOf_is {l : List Int} {M : Int} (hm : M ∈ l) (ha : ∀ a, a ∈ l → M ≤ a) : minOf l = M := by
  cases l with
  | nil => cases hm
  | cons x r =>
    refine gz0 fun Gz hGz => ?_
    obtain ⟨h1, h2, h3⟩ := foldl_min_le r x
    refine hGz ?_
    clear hGz Gz
    show r.foldl min x = M
    have : r.foldl min x ∈ x :: r := by
      rcases h3 with h | h
      · rw [h]; exact .head _
      · exact .tail _ h
    have h4 := ha _ this
    rcases List.mem_cons.mp hm with rfl | hm
    · omega
    · have := h2 _ hm
      omega
theorem fits_take {ns : List Int} {j : Nat} {c : Int} (a : Int) (h : ns[j]? = some c) : fitsOf (ns.take (j + 1)) a = fitsOf (ns.take j) a ++ (if c ≤ a then [c] else []) := by
  unfold fitsOf
  rw [List.take_add_one, h, List.filter_append]
  congr 1
  by_cases hc : c ≤ a <;> simp [hc]
theorem getD_end {fs : List Int} {k : Nat} {x : Int} (h : fs.length = k) : (fs ++ [x]).getD k 0 = x := by
  subst h
  simp [List.getD]
theorem range_one {c : Int} (h : 1 ≤ c) : Builtin.Range.rangeSize 1 c 1 = ((c - 1).toNat : Int) := by
  unfold Builtin.Range.rangeSize
  rw [if_pos (by decide)]
  split <;> omega
noncomputable def leastGo (ns : List Int) : Nat → Int → List Int → List Int → Int
  | 0, _, _, _ => 0
  | k + 1, a, fw, tk =>
    if 1 + minOf ((fitsOf ns a).map fun c => fw.getD (a - c).toNat 0) < 1 + tk.getD (a - (fitsOf ns a).getD (-1 + ((fitsOf ns a).length : Int)).toNat 0).toNat 0 then a
    else leastGo ns k (a + 1) (fw ++ [1 + minOf ((fitsOf ns a).map fun c => fw.getD (a - c).toNat 0)]) (tk ++ [1 + tk.getD (a - (fitsOf ns a).getD (-1 + ((fitsOf ns a).length : Int)).toNat 0).toNat 0])
noncomputable def least (ns : List Int) : Int := leastGo ns (ns.getD (-1 + (ns.length : Int)).toNat 0 + ns.getD (-2 + (ns.length : Int)).toNat 0 - 1).toNat 1 [0] [0]
theorem Row.at {ns : List Int} (hr : Row ns) (i : Nat) (h : i < ns.length) : 1 ≤ ns.getD i 0 ∧ ns.getD i 0 ≤ 1000000 := by
  have h1 := hr.sorted 0 i (Nat.zero_le _) h
  rw [hr.one] at h1
  exact ⟨h1, hr.small i h⟩
theorem Row.mem {ns : List Int} (hr : Row ns) {c : Int} (h : c ∈ ns) : 1 ≤ c ∧ c ≤ 1000000 := by
  refine gz0 fun Gz hGz => ?_
  obtain ⟨i, hi, rfl⟩ := List.mem_iff_getElem.mp h
  refine hGz ?_
  clear hGz Gz
  have := hr.at i hi
  simpa [List.getD, hi] using this
theorem Row.fits {ns : List Int} (hr : Row ns) {a : Int} (h : 1 ≤ a) : 0 < (fitsOf ns a).length ∧ (fitsOf ns a).length ≤ ns.length ∧ ∀ c ∈ fitsOf ns a, 1 ≤ c ∧ c ≤ a := by
  refine ⟨?_, List.length_filter_le _ _, fun c hc => ?_⟩
  · have h1 : (1 : Int) ∈ ns := by
      have := hr.one
      have hl := hr.len
      rw [← this]
      simp [List.getD, hl]
    exact List.length_pos_of_mem (List.mem_filter.mpr ⟨h1, by simpa using h⟩)
  · obtain ⟨h1, h2⟩ := List.mem_filter.mp hc
    exact ⟨(hr.mem h1).1, by simpa using h2⟩
theorem says_least (l : Addr) (vs : List Value) (n : Nat) (ns : List Int) (fr : Led) (hm : (l, PySem.W.listOf vs.toArray n) ∈ fr) (hi : IntsAre vs ns) (hr : Row ns) (h2 : 2 ≤ ns.length) :
    Says 10 60 347 [.ref l] fr (fun v news => news = fr ∧ ∃ t, v = .int (least ns) t) := by
  ((have hfill : Mine.hd.heap_39 = Mine.hd.heap_39 ∧ PySem.Challenge.rw_sn0098_01 = PySem.Challenge.rw_sn0098_01 := (by k_fill; exact ⟨rfl, rfl⟩)); clear hfill)
  have hfew := hr.few
  have hA1 := hr.at (-1 + (ns.length : Int)).toNat (by omega)
  have hA2 := hr.at (-2 + (ns.length : Int)).toNat (by omega)
  obtain ⟨aa, haa⟩ : ∃ aa, ns.getD (-1 + (ns.length : Int)).toNat 0 = aa := ⟨_, rfl⟩
  obtain ⟨bb, hbb⟩ : ∃ bb, ns.getD (-2 + (ns.length : Int)).toNat 0 = bb := ⟨_, rfl⟩
  have hleast : least ns = leastGo ns (aa + bb - 1).toNat 1 [0] [0] := by rw [← haa, ← hbb]; rfl
  rw [haa] at hA1
  rw [hbb] at hA2
  unfold Says
  intros
  rename_i hret
  refine wpAny_call ?_
  k_dflt walk_at "my enterC"
  (rename Fr _ _ _ _ => F)
  obtain ⟨m', F1⟩ := names_ex F [("row", .ref l)] (by ((repeat' (first | exact all_nil | refine all_cons rfl ?_))))
  clear F
  (repeat' (first | ((( (fail_if_success with_reducible first | refine st0 ?_ | refine st1 ?_ | refine st2 ?_ | refine st3 ?_))); (fail_if_success with_reducible first | refine st4 ?_ | refine st5 ?_ | refine st7 ?_ | refine st6 ?_ | refine st8 ?_ | refine st9 ?_); (first | ((with_reducible show wpAny _ _ (subscriptTail (PySem.Expr.Name _ _) (PySem.Expr.Name _ _) (Value.ref _) (Value.int _ _)) _ _ _); ((k_here; (with_reducible show wpAny _ _ (subscriptTail _ _ (Value.ref _) (Value.int _ _)) _ _ _); k_dflt (refine' my_item_ints (by k_asm) (by k_mem) (by (first | assumption | exact IntsAre.append (by assumption) (.cons _ _ .nil))) (by (((try walk_at "my clear"); first | omega | (simp only [List.length_append, List.length_cons, List.length_nil]; omega)))) (by (((try walk_at "my clear"); first | omega | (simp only [List.length_append, List.length_cons, List.length_nil]; omega)))) (by (((try walk_at "my clear"); first | omega | (simp only [List.length_append, List.length_cons, List.length_nil]; omega)))) ?_;  k_whole); intro _))) | ((with_reducible show wpAny _ _ (subscriptTail (PySem.Expr.Name _ _) (PySem.Expr.Name _ _) (Value.ref _) (Value.int _ _)) _ _ _); ((k_here; (with_reducible show wpAny _ _ (subscriptTail _ _ (Value.ref _) (Value.int _ _)) _ _ _); k_dflt (refine' my_item_ints (by k_asm) (by k_mem) (by assumption) (by omega) (by omega) (by omega) ?_;  k_whole); intro _))) | ((with_reducible show wpAny _ _ (call (Value.builtin "list.append") _) _ _ _); ((k_here; k_dflt (refine' my_append (by k_asm) (by k_asm) (by k_upd) (by (((try walk_at "my clear"); first | omega | (simp only [List.length_append, List.length_cons, List.length_nil]; omega)))) ?_;  k_whole); intro _ _ _; (try dsimp only); (try k_sweep)))) | ((with_reducible show wpAny _ _ (call (Value.builtin "list.append") _) _ _ _); ((k_here; k_dflt (refine' my_append (by k_asm) (by k_asm) (by k_upd) (by first | omega | (simp only [List.length_cons, List.length_nil, List.length_append]; omega)) ?_;  k_whole); intro _ _ _; (try dsimp only); (try k_sweep)))) | ((with_reducible show wpAny _ _ (subscriptTail (PySem.Expr.Name _ _) (PySem.Expr.BinOp _ _ _ _) (Value.ref _) (Value.int _ _)) _ _ _); ((k_here; (with_reducible show wpAny _ _ (subscriptTail _ _ (Value.ref _) (Value.int _ _)) _ _ _); k_dflt (refine' my_item_ints (by k_asm) (by k_mem) (by assumption) (by (((try walk_at "my clear"); first | omega | (simp only [List.length_append, List.length_cons, List.length_nil]; omega)))) (by (((try walk_at "my clear"); first | omega | (simp only [List.length_append, List.length_cons, List.length_nil]; omega)))) (by (((try walk_at "my clear"); first | omega | (simp only [List.length_append, List.length_cons, List.length_nil]; omega)))) ?_;  k_whole); intro _))) | ((k_here; (with_reducible show wpAny _ _ (call (Value.builtin _) [Value.ref _]) _ _ _); k_dflt (refine' my_min (by k_asm) (by k_asm) (by k_mem) (by (first | assumption | exact IntsAre.append (by assumption) (.cons _ _ .nil))) (by (((try walk_at "my clear"); first | omega | (simp only [List.length_append, List.length_cons, List.length_nil]; omega)))) (by with_unfolding_all rfl) ?_;  k_whole); intro _ _ _ _ _ _ _ _; (try k_sweep))) | ((with_reducible show wpAny _ _ (subscriptTail (PySem.Expr.Name _ _) (PySem.Expr.UnaryOp _ _ _) (Value.ref _) (Value.int _ _)) _ _ _); (((k_here; (with_reducible show wpAny _ _ (subscriptTail _ _ (Value.ref _) (Value.int _ _)) _ _ _); k_dflt (refine' my_item_neg (by k_asm) (by k_mem) (by assumption) (by (((try walk_at "my clear"); first | omega | (simp only [List.length_append, List.length_cons, List.length_nil]; omega)))) (by (((try walk_at "my clear"); first | omega | (simp only [List.length_append, List.length_cons, List.length_nil]; omega)))) (by (((try walk_at "my clear"); first | omega | (simp only [List.length_append, List.length_cons, List.length_nil]; omega)))) ?_;  k_whole); intro _)))) | walk_at "mo"))))
  ((k_here; (with_unfolding_all refine' For_T ?_); k_whole))
  (repeat' (first | ((( (fail_if_success with_reducible first | refine st0 ?_ | refine st1 ?_ | refine st2 ?_ | refine st3 ?_))); (fail_if_success with_reducible first | refine st4 ?_ | refine st5 ?_ | refine st7 ?_ | refine st6 ?_ | refine st8 ?_ | refine st9 ?_); (first | ((with_reducible show wpAny _ _ (subscriptTail (PySem.Expr.Name _ _) (PySem.Expr.Name _ _) (Value.ref _) (Value.int _ _)) _ _ _); ((k_here; (with_reducible show wpAny _ _ (subscriptTail _ _ (Value.ref _) (Value.int _ _)) _ _ _); k_dflt (refine' my_item_ints (by k_asm) (by k_mem) (by (first | assumption | exact IntsAre.append (by assumption) (.cons _ _ .nil))) (by (((try walk_at "my clear"); first | omega | (simp only [List.length_append, List.length_cons, List.length_nil]; omega)))) (by (((try walk_at "my clear"); first | omega | (simp only [List.length_append, List.length_cons, List.length_nil]; omega)))) (by (((try walk_at "my clear"); first | omega | (simp only [List.length_append, List.length_cons, List.length_nil]; omega)))) ?_;  k_whole); intro _))) | ((with_reducible show wpAny _ _ (subscriptTail (PySem.Expr.Name _ _) (PySem.Expr.Name _ _) (Value.ref _) (Value.int _ _)) _ _ _); ((k_here; (with_reducible show wpAny _ _ (subscriptTail _ _ (Value.ref _) (Value.int _ _)) _ _ _); k_dflt (refine' my_item_ints (by k_asm) (by k_mem) (by assumption) (by omega) (by omega) (by omega) ?_;  k_whole); intro _))) | ((with_reducible show wpAny _ _ (call (Value.builtin "list.append") _) _ _ _); ((k_here; k_dflt (refine' my_append (by k_asm) (by k_asm) (by k_upd) (by (((try walk_at "my clear"); first | omega | (simp only [List.length_append, List.length_cons, List.length_nil]; omega)))) ?_;  k_whole); intro _ _ _; (try dsimp only); (try k_sweep)))) | ((with_reducible show wpAny _ _ (call (Value.builtin "list.append") _) _ _ _); ((k_here; k_dflt (refine' my_append (by k_asm) (by k_asm) (by k_upd) (by first | omega | (simp only [List.length_cons, List.length_nil, List.length_append]; omega)) ?_;  k_whole); intro _ _ _; (try dsimp only); (try k_sweep)))) | ((with_reducible show wpAny _ _ (subscriptTail (PySem.Expr.Name _ _) (PySem.Expr.BinOp _ _ _ _) (Value.ref _) (Value.int _ _)) _ _ _); ((k_here; (with_reducible show wpAny _ _ (subscriptTail _ _ (Value.ref _) (Value.int _ _)) _ _ _); k_dflt (refine' my_item_ints (by k_asm) (by k_mem) (by assumption) (by (((try walk_at "my clear"); first | omega | (simp only [List.length_append, List.length_cons, List.length_nil]; omega)))) (by (((try walk_at "my clear"); first | omega | (simp only [List.length_append, List.length_cons, List.length_nil]; omega)))) (by (((try walk_at "my clear"); first | omega | (simp only [List.length_append, List.length_cons, List.length_nil]; omega)))) ?_;  k_whole); intro _))) | ((k_here; (with_reducible show wpAny _ _ (call (Value.builtin _) [Value.ref _]) _ _ _); k_dflt (refine' my_min (by k_asm) (by k_asm) (by k_mem) (by (first | assumption | exact IntsAre.append (by assumption) (.cons _ _ .nil))) (by (((try walk_at "my clear"); first | omega | (simp only [List.length_append, List.length_cons, List.length_nil]; omega)))) (by with_unfolding_all rfl) ?_;  k_whole); intro _ _ _ _ _ _ _ _; (try k_sweep))) | ((with_reducible show wpAny _ _ (subscriptTail (PySem.Expr.Name _ _) (PySem.Expr.UnaryOp _ _ _) (Value.ref _) (Value.int _ _)) _ _ _); (((k_here; (with_reducible show wpAny _ _ (subscriptTail _ _ (Value.ref _) (Value.int _ _)) _ _ _); k_dflt (refine' my_item_neg (by k_asm) (by k_mem) (by assumption) (by (((try walk_at "my clear"); first | omega | (simp only [List.length_append, List.length_cons, List.length_nil]; omega)))) (by (((try walk_at "my clear"); first | omega | (simp only [List.length_append, List.length_cons, List.length_nil]; omega)))) (by (((try walk_at "my clear"); first | omega | (simp only [List.length_append, List.length_cons, List.length_nil]; omega)))) ?_;  k_whole); intro _)))) | walk_at "mo"))))
  rename_i dF _ l1 _ cF d1 dT _ l2 _ F0 N0 _ _ hh tk _ _ _ hrange F1 N1 hkeep
  obtain ⟨L, hL⟩ := fr_L F1
  subst hL
  rw [haa, hbb] at hrange
  refine loopRangeT (n := (aa + bb - 1).toNat) (fun i m nx => (Xx8 fun vF nF fs vT nT ts o2 cv => Aa8 (nx = (dT, lob vT nT) :: (dF, lob vF nF) :: (L + 1 + 1, o2) :: (L + 1, cF) :: fr) (o2.data = .cell cv) (IntsAre vF fs) (IntsAre vT ts) (fs.length = i + 1) (ts.length = i + 1) (HasN m [("row", .ref l), ("taken", .ref dT)]) (leastGo ns ((aa + bb - 1).toNat - i) (1 + i) fs ts = least ns))) ?_ hrange ?_ ?_ F1 N1 ?_ ?_ ?_ ?_
  · exact (by rfl)
  · exact small_one (by omega) (by omega) (by omega) (by omega)
  · exact range_one (by omega)
  · exact ⟨[_], _, [0], [_], _, [0], _, _, rfl, by assumption, .cons _ _ .nil, .cons _ _ .nil, rfl, rfl, by ((repeat' (first | exact all_nil | refine all_cons rfl ?_))), hleast.symm⟩
  · intros; rfl
  · rintro i t m₁ nx h9 tk9 I oI _ hi9 hJz
    refine gz1 nx ?_
    intro Gz hGz
    obtain ⟨vF, nF, fs, vT, nT, ts, o2, cv, rfl, d2, hF, hT, lF, lT, hN, hgo⟩ := hJz
    refine hGz _ ?_
    clear hGz Gz
    rintro ho F9 N9
    obtain ⟨m9, F9⟩ := names_ex F9 [("row", .ref l), ("taken", .ref dT)] hN
    dsimp only [envOfC] at F9 N9
    have e1 : I ≠ L + 1 + 1 := fun e => ho (L + 1 + 1, o2) (by k_mem) e.symm
    have e5 : I ≠ dF := fun e => ho (dF, lob vF nF) (by k_mem) e.symm
    have e6 : I ≠ dT := fun e => ho (dT, lob vT nT) (by k_mem) e.symm
    have e2 : dT ≠ L + 1 + 1 := Ne.symm (Nat.ne_of_lt l2.2.1)
    have e3 : dF ≠ L + 1 + 1 := Ne.symm (Nat.ne_of_lt l1.1)
    have e4 : ∀ p ∈ (L + 1, cF) :: fr, p.1 ≠ L + 1 + 1 := List.forall_mem_cons.mpr ⟨Nat.ne_of_lt (Nat.lt_succ_self _), fun p hp => Nat.ne_of_lt ((by assumption : ∀ p ∈ fr, p.1 < L + 1 + 1) p hp)⟩
    (repeat' (first | ((( (fail_if_success with_reducible first | refine st0 ?_ | refine st1 ?_ | refine st2 ?_ | refine st3 ?_))); (fail_if_success with_reducible first | refine st4 ?_ | refine st5 ?_ | refine st7 ?_ | refine st6 ?_ | refine st8 ?_ | refine st9 ?_); (first | ((with_reducible show wpAny _ _ (subscriptTail (PySem.Expr.Name _ _) (PySem.Expr.Name _ _) (Value.ref _) (Value.int _ _)) _ _ _); ((k_here; (with_reducible show wpAny _ _ (subscriptTail _ _ (Value.ref _) (Value.int _ _)) _ _ _); k_dflt (refine' my_item_ints (by k_asm) (by k_mem) (by (first | assumption | exact IntsAre.append (by assumption) (.cons _ _ .nil))) (by (((try walk_at "my clear"); first | omega | (simp only [List.length_append, List.length_cons, List.length_nil]; omega)))) (by (((try walk_at "my clear"); first | omega | (simp only [List.length_append, List.length_cons, List.length_nil]; omega)))) (by (((try walk_at "my clear"); first | omega | (simp only [List.length_append, List.length_cons, List.length_nil]; omega)))) ?_;  k_whole); intro _))) | ((with_reducible show wpAny _ _ (subscriptTail (PySem.Expr.Name _ _) (PySem.Expr.Name _ _) (Value.ref _) (Value.int _ _)) _ _ _); ((k_here; (with_reducible show wpAny _ _ (subscriptTail _ _ (Value.ref _) (Value.int _ _)) _ _ _); k_dflt (refine' my_item_ints (by k_asm) (by k_mem) (by assumption) (by omega) (by omega) (by omega) ?_;  k_whole); intro _))) | ((with_reducible show wpAny _ _ (call (Value.builtin "list.append") _) _ _ _); ((k_here; k_dflt (refine' my_append (by k_asm) (by k_asm) (by k_upd) (by (((try walk_at "my clear"); first | omega | (simp only [List.length_append, List.length_cons, List.length_nil]; omega)))) ?_;  k_whole); intro _ _ _; (try dsimp only); (try k_sweep)))) | ((with_reducible show wpAny _ _ (call (Value.builtin "list.append") _) _ _ _); ((k_here; k_dflt (refine' my_append (by k_asm) (by k_asm) (by k_upd) (by first | omega | (simp only [List.length_cons, List.length_nil, List.length_append]; omega)) ?_;  k_whole); intro _ _ _; (try dsimp only); (try k_sweep)))) | ((with_reducible show wpAny _ _ (subscriptTail (PySem.Expr.Name _ _) (PySem.Expr.BinOp _ _ _ _) (Value.ref _) (Value.int _ _)) _ _ _); ((k_here; (with_reducible show wpAny _ _ (subscriptTail _ _ (Value.ref _) (Value.int _ _)) _ _ _); k_dflt (refine' my_item_ints (by k_asm) (by k_mem) (by assumption) (by (((try walk_at "my clear"); first | omega | (simp only [List.length_append, List.length_cons, List.length_nil]; omega)))) (by (((try walk_at "my clear"); first | omega | (simp only [List.length_append, List.length_cons, List.length_nil]; omega)))) (by (((try walk_at "my clear"); first | omega | (simp only [List.length_append, List.length_cons, List.length_nil]; omega)))) ?_;  k_whole); intro _))) | ((k_here; (with_reducible show wpAny _ _ (call (Value.builtin _) [Value.ref _]) _ _ _); k_dflt (refine' my_min (by k_asm) (by k_asm) (by k_mem) (by (first | assumption | exact IntsAre.append (by assumption) (.cons _ _ .nil))) (by (((try walk_at "my clear"); first | omega | (simp only [List.length_append, List.length_cons, List.length_nil]; omega)))) (by with_unfolding_all rfl) ?_;  k_whole); intro _ _ _ _ _ _ _ _; (try k_sweep))) | ((with_reducible show wpAny _ _ (subscriptTail (PySem.Expr.Name _ _) (PySem.Expr.UnaryOp _ _ _) (Value.ref _) (Value.int _ _)) _ _ _); (((k_here; (with_reducible show wpAny _ _ (subscriptTail _ _ (Value.ref _) (Value.int _ _)) _ _ _); k_dflt (refine' my_item_neg (by k_asm) (by k_mem) (by assumption) (by (((try walk_at "my clear"); first | omega | (simp only [List.length_append, List.length_cons, List.length_nil]; omega)))) (by (((try walk_at "my clear"); first | omega | (simp only [List.length_append, List.length_cons, List.length_nil]; omega)))) (by (((try walk_at "my clear"); first | omega | (simp only [List.length_append, List.length_cons, List.length_nil]; omega)))) ?_;  k_whole); intro _)))) | walk_at "mo"))))
    ((k_here; k_dflt (refine LCt.Assign_ListComp_T (F₀ := by k_asm) (by rfl) (by with_unfolding_all rfl) (by with_unfolding_all rfl) (by decide) (by rfl) (by decide) (by rfl) (by rfl) (by rfl) ?_)))
    (repeat' (first | ((( (fail_if_success with_reducible first | refine st0 ?_ | refine st1 ?_ | refine st2 ?_ | refine st3 ?_))); (fail_if_success with_reducible first | refine st4 ?_ | refine st5 ?_ | refine st7 ?_ | refine st6 ?_ | refine st8 ?_ | refine st9 ?_); (first | ((with_reducible show wpAny _ _ (subscriptTail (PySem.Expr.Name _ _) (PySem.Expr.Name _ _) (Value.ref _) (Value.int _ _)) _ _ _); ((k_here; (with_reducible show wpAny _ _ (subscriptTail _ _ (Value.ref _) (Value.int _ _)) _ _ _); k_dflt (refine' my_item_ints (by k_asm) (by k_mem) (by (first | assumption | exact IntsAre.append (by assumption) (.cons _ _ .nil))) (by (((try walk_at "my clear"); first | omega | (simp only [List.length_append, List.length_cons, List.length_nil]; omega)))) (by (((try walk_at "my clear"); first | omega | (simp only [List.length_append, List.length_cons, List.length_nil]; omega)))) (by (((try walk_at "my clear"); first | omega | (simp only [List.length_append, List.length_cons, List.length_nil]; omega)))) ?_;  k_whole); intro _))) | ((with_reducible show wpAny _ _ (subscriptTail (PySem.Expr.Name _ _) (PySem.Expr.Name _ _) (Value.ref _) (Value.int _ _)) _ _ _); ((k_here; (with_reducible show wpAny _ _ (subscriptTail _ _ (Value.ref _) (Value.int _ _)) _ _ _); k_dflt (refine' my_item_ints (by k_asm) (by k_mem) (by assumption) (by omega) (by omega) (by omega) ?_;  k_whole); intro _))) | ((with_reducible show wpAny _ _ (call (Value.builtin "list.append") _) _ _ _); ((k_here; k_dflt (refine' my_append (by k_asm) (by k_asm) (by k_upd) (by (((try walk_at "my clear"); first | omega | (simp only [List.length_append, List.length_cons, List.length_nil]; omega)))) ?_;  k_whole); intro _ _ _; (try dsimp only); (try k_sweep)))) | ((with_reducible show wpAny _ _ (call (Value.builtin "list.append") _) _ _ _); ((k_here; k_dflt (refine' my_append (by k_asm) (by k_asm) (by k_upd) (by first | omega | (simp only [List.length_cons, List.length_nil, List.length_append]; omega)) ?_;  k_whole); intro _ _ _; (try dsimp only); (try k_sweep)))) | ((with_reducible show wpAny _ _ (subscriptTail (PySem.Expr.Name _ _) (PySem.Expr.BinOp _ _ _ _) (Value.ref _) (Value.int _ _)) _ _ _); ((k_here; (with_reducible show wpAny _ _ (subscriptTail _ _ (Value.ref _) (Value.int _ _)) _ _ _); k_dflt (refine' my_item_ints (by k_asm) (by k_mem) (by assumption) (by (((try walk_at "my clear"); first | omega | (simp only [List.length_append, List.length_cons, List.length_nil]; omega)))) (by (((try walk_at "my clear"); first | omega | (simp only [List.length_append, List.length_cons, List.length_nil]; omega)))) (by (((try walk_at "my clear"); first | omega | (simp only [List.length_append, List.length_cons, List.length_nil]; omega)))) ?_;  k_whole); intro _))) | ((k_here; (with_reducible show wpAny _ _ (call (Value.builtin _) [Value.ref _]) _ _ _); k_dflt (refine' my_min (by k_asm) (by k_asm) (by k_mem) (by (first | assumption | exact IntsAre.append (by assumption) (.cons _ _ .nil))) (by (((try walk_at "my clear"); first | omega | (simp only [List.length_append, List.length_cons, List.length_nil]; omega)))) (by with_unfolding_all rfl) ?_;  k_whole); intro _ _ _ _ _ _ _ _; (try k_sweep))) | ((with_reducible show wpAny _ _ (subscriptTail (PySem.Expr.Name _ _) (PySem.Expr.UnaryOp _ _ _) (Value.ref _) (Value.int _ _)) _ _ _); (((k_here; (with_reducible show wpAny _ _ (subscriptTail _ _ (Value.ref _) (Value.int _ _)) _ _ _); k_dflt (refine' my_item_neg (by k_asm) (by k_mem) (by assumption) (by (((try walk_at "my clear"); first | omega | (simp only [List.length_append, List.length_cons, List.length_nil]; omega)))) (by (((try walk_at "my clear"); first | omega | (simp only [List.length_append, List.length_cons, List.length_nil]; omega)))) (by (((try walk_at "my clear"); first | omega | (simp only [List.length_append, List.length_cons, List.length_nil]; omega)))) ?_;  k_whole); intro _)))) | walk_at "mo"))))
    (rename Fr _ _ _ _ => F10)
    (rename News _ _ _ _ => N10)
    refine LCt.CompSrcT.ledger (by rfl) F10 N10 (by k_mem) (by rw [List.size_toArray, hi.length]; simp only [sizeLine]; omega) fun g => ?_
    have hlen : vs.toArray.size = ns.length := by simp [hi.length]
    rw [hlen]
    refine compT_ind (fun j ys => IntsAre ys (fitsOf (ns.take j) (1 + (i : Int)))) (.inr ⟨_, by k_mem, rfl, _, rfl⟩) .nil ?_ ?_
    · intro j ys v hj' hJ hv
      obtain ⟨c, hc⟩ : ∃ c, ns[j]? = some c := ⟨_, List.getElem?_eq_getElem hj'⟩
      obtain ⟨tc, hc2⟩ := hi.get j c hc
      have hv2 : v = .int c tc := by
        have hv : vs.toArray[j]? = some v := hv
        rw [List.getElem?_toArray, hc2] at hv
        exact (Option.some.inj hv).symm
      subst hv2
      intro I oI C oC D m₂ h tk E' a1 a2 F N
      (repeat' (first | ((( (fail_if_success with_reducible first | refine st0 ?_ | refine st1 ?_ | refine st2 ?_ | refine st3 ?_))); (fail_if_success with_reducible first | refine st4 ?_ | refine st5 ?_ | refine st7 ?_ | refine st6 ?_ | refine st8 ?_ | refine st9 ?_); (first | ((with_reducible show wpAny _ _ (subscriptTail (PySem.Expr.Name _ _) (PySem.Expr.Name _ _) (Value.ref _) (Value.int _ _)) _ _ _); ((k_here; (with_reducible show wpAny _ _ (subscriptTail _ _ (Value.ref _) (Value.int _ _)) _ _ _); k_dflt (refine' my_item_ints (by k_asm) (by k_mem) (by (first | assumption | exact IntsAre.append (by assumption) (.cons _ _ .nil))) (by (((try walk_at "my clear"); first | omega | (simp only [List.length_append, List.length_cons, List.length_nil]; omega)))) (by (((try walk_at "my clear"); first | omega | (simp only [List.length_append, List.length_cons, List.length_nil]; omega)))) (by (((try walk_at "my clear"); first | omega | (simp only [List.length_append, List.length_cons, List.length_nil]; omega)))) ?_;  k_whole); intro _))) | ((with_reducible show wpAny _ _ (subscriptTail (PySem.Expr.Name _ _) (PySem.Expr.Name _ _) (Value.ref _) (Value.int _ _)) _ _ _); ((k_here; (with_reducible show wpAny _ _ (subscriptTail _ _ (Value.ref _) (Value.int _ _)) _ _ _); k_dflt (refine' my_item_ints (by k_asm) (by k_mem) (by assumption) (by omega) (by omega) (by omega) ?_;  k_whole); intro _))) | ((with_reducible show wpAny _ _ (call (Value.builtin "list.append") _) _ _ _); ((k_here; k_dflt (refine' my_append (by k_asm) (by k_asm) (by k_upd) (by (((try walk_at "my clear"); first | omega | (simp only [List.length_append, List.length_cons, List.length_nil]; omega)))) ?_;  k_whole); intro _ _ _; (try dsimp only); (try k_sweep)))) | ((with_reducible show wpAny _ _ (call (Value.builtin "list.append") _) _ _ _); ((k_here; k_dflt (refine' my_append (by k_asm) (by k_asm) (by k_upd) (by first | omega | (simp only [List.length_cons, List.length_nil, List.length_append]; omega)) ?_;  k_whole); intro _ _ _; (try dsimp only); (try k_sweep)))) | ((with_reducible show wpAny _ _ (subscriptTail (PySem.Expr.Name _ _) (PySem.Expr.BinOp _ _ _ _) (Value.ref _) (Value.int _ _)) _ _ _); ((k_here; (with_reducible show wpAny _ _ (subscriptTail _ _ (Value.ref _) (Value.int _ _)) _ _ _); k_dflt (refine' my_item_ints (by k_asm) (by k_mem) (by assumption) (by (((try walk_at "my clear"); first | omega | (simp only [List.length_append, List.length_cons, List.length_nil]; omega)))) (by (((try walk_at "my clear"); first | omega | (simp only [List.length_append, List.length_cons, List.length_nil]; omega)))) (by (((try walk_at "my clear"); first | omega | (simp only [List.length_append, List.length_cons, List.length_nil]; omega)))) ?_;  k_whole); intro _))) | ((k_here; (with_reducible show wpAny _ _ (call (Value.builtin _) [Value.ref _]) _ _ _); k_dflt (refine' my_min (by k_asm) (by k_asm) (by k_mem) (by (first | assumption | exact IntsAre.append (by assumption) (.cons _ _ .nil))) (by (((try walk_at "my clear"); first | omega | (simp only [List.length_append, List.length_cons, List.length_nil]; omega)))) (by with_unfolding_all rfl) ?_;  k_whole); intro _ _ _ _ _ _ _ _; (try k_sweep))) | ((with_reducible show wpAny _ _ (subscriptTail (PySem.Expr.Name _ _) (PySem.Expr.UnaryOp _ _ _) (Value.ref _) (Value.int _ _)) _ _ _); (((k_here; (with_reducible show wpAny _ _ (subscriptTail _ _ (Value.ref _) (Value.int _ _)) _ _ _); k_dflt (refine' my_item_neg (by k_asm) (by k_mem) (by assumption) (by (((try walk_at "my clear"); first | omega | (simp only [List.length_append, List.length_cons, List.length_nil]; omega)))) (by (((try walk_at "my clear"); first | omega | (simp only [List.length_append, List.length_cons, List.length_nil]; omega)))) (by (((try walk_at "my clear"); first | omega | (simp only [List.length_append, List.length_cons, List.length_nil]; omega)))) ?_;  k_whole); intro _)))) | walk_at "mo"))))
      · rename_i hle
        refine ElEnd.intro (by k_asm) (by k_asm) (fun p hp => hp) ?_
        rw [fits_take _ hc, if_pos hle]
        exact IntsAre.append hJ (.cons _ _ .nil)
      · rename_i hle
        refine ElEnd.intro (by k_asm) (by k_asm) (fun p hp => hp) ?_
        rw [fits_take _ hc, if_neg hle, List.append_nil]
        exact hJ
    · intro ys hJ
      rw [List.take_length] at hJ
      have hfit := hr.fits (a := 1 + (i : Int)) (by omega)
      have hjl := hJ.length
      (repeat' (first | ((( (fail_if_success with_reducible first | refine st0 ?_ | refine st1 ?_ | refine st2 ?_ | refine st3 ?_))); (fail_if_success with_reducible first | refine st4 ?_ | refine st5 ?_ | refine st7 ?_ | refine st6 ?_ | refine st8 ?_ | refine st9 ?_); (first | ((with_reducible show wpAny _ _ (subscriptTail (PySem.Expr.Name _ _) (PySem.Expr.Name _ _) (Value.ref _) (Value.int _ _)) _ _ _); ((k_here; (with_reducible show wpAny _ _ (subscriptTail _ _ (Value.ref _) (Value.int _ _)) _ _ _); k_dflt (refine' my_item_ints (by k_asm) (by k_mem) (by (first | assumption | exact IntsAre.append (by assumption) (.cons _ _ .nil))) (by (((try walk_at "my clear"); first | omega | (simp only [List.length_append, List.length_cons, List.length_nil]; omega)))) (by (((try walk_at "my clear"); first | omega | (simp only [List.length_append, List.length_cons, List.length_nil]; omega)))) (by (((try walk_at "my clear"); first | omega | (simp only [List.length_append, List.length_cons, List.length_nil]; omega)))) ?_;  k_whole); intro _))) | ((with_reducible show wpAny _ _ (subscriptTail (PySem.Expr.Name _ _) (PySem.Expr.Name _ _) (Value.ref _) (Value.int _ _)) _ _ _); ((k_here; (with_reducible show wpAny _ _ (subscriptTail _ _ (Value.ref _) (Value.int _ _)) _ _ _); k_dflt (refine' my_item_ints (by k_asm) (by k_mem) (by assumption) (by omega) (by omega) (by omega) ?_;  k_whole); intro _))) | ((with_reducible show wpAny _ _ (call (Value.builtin "list.append") _) _ _ _); ((k_here; k_dflt (refine' my_append (by k_asm) (by k_asm) (by k_upd) (by (((try walk_at "my clear"); first | omega | (simp only [List.length_append, List.length_cons, List.length_nil]; omega)))) ?_;  k_whole); intro _ _ _; (try dsimp only); (try k_sweep)))) | ((with_reducible show wpAny _ _ (call (Value.builtin "list.append") _) _ _ _); ((k_here; k_dflt (refine' my_append (by k_asm) (by k_asm) (by k_upd) (by first | omega | (simp only [List.length_cons, List.length_nil, List.length_append]; omega)) ?_;  k_whole); intro _ _ _; (try dsimp only); (try k_sweep)))) | ((with_reducible show wpAny _ _ (subscriptTail (PySem.Expr.Name _ _) (PySem.Expr.BinOp _ _ _ _) (Value.ref _) (Value.int _ _)) _ _ _); ((k_here; (with_reducible show wpAny _ _ (subscriptTail _ _ (Value.ref _) (Value.int _ _)) _ _ _); k_dflt (refine' my_item_ints (by k_asm) (by k_mem) (by assumption) (by (((try walk_at "my clear"); first | omega | (simp only [List.length_append, List.length_cons, List.length_nil]; omega)))) (by (((try walk_at "my clear"); first | omega | (simp only [List.length_append, List.length_cons, List.length_nil]; omega)))) (by (((try walk_at "my clear"); first | omega | (simp only [List.length_append, List.length_cons, List.length_nil]; omega)))) ?_;  k_whole); intro _))) | ((k_here; (with_reducible show wpAny _ _ (call (Value.builtin _) [Value.ref _]) _ _ _); k_dflt (refine' my_min (by k_asm) (by k_asm) (by k_mem) (by (first | assumption | exact IntsAre.append (by assumption) (.cons _ _ .nil))) (by (((try walk_at "my clear"); first | omega | (simp only [List.length_append, List.length_cons, List.length_nil]; omega)))) (by with_unfolding_all rfl) ?_;  k_whole); intro _ _ _ _ _ _ _ _; (try k_sweep))) | ((with_reducible show wpAny _ _ (subscriptTail (PySem.Expr.Name _ _) (PySem.Expr.UnaryOp _ _ _) (Value.ref _) (Value.int _ _)) _ _ _); (((k_here; (with_reducible show wpAny _ _ (subscriptTail _ _ (Value.ref _) (Value.int _ _)) _ _ _); k_dflt (refine' my_item_neg (by k_asm) (by k_mem) (by assumption) (by (((try walk_at "my clear"); first | omega | (simp only [List.length_append, List.length_cons, List.length_nil]; omega)))) (by (((try walk_at "my clear"); first | omega | (simp only [List.length_append, List.length_cons, List.length_nil]; omega)))) (by (((try walk_at "my clear"); first | omega | (simp only [List.length_append, List.length_cons, List.length_nil]; omega)))) ?_;  k_whole); intro _)))) | walk_at "mo"))))
      ((k_here; k_dflt (refine LCg.ListComp_U (F₀ := by k_asm) (by with_unfolding_all rfl) (by decide) (by rfl) (by decide) (by rfl) ?_)))
      (repeat' (first | ((( (fail_if_success with_reducible first | refine st0 ?_ | refine st1 ?_ | refine st2 ?_ | refine st3 ?_))); (fail_if_success with_reducible first | refine st4 ?_ | refine st5 ?_ | refine st7 ?_ | refine st6 ?_ | refine st8 ?_ | refine st9 ?_); (first | ((with_reducible show wpAny _ _ (subscriptTail (PySem.Expr.Name _ _) (PySem.Expr.Name _ _) (Value.ref _) (Value.int _ _)) _ _ _); ((k_here; (with_reducible show wpAny _ _ (subscriptTail _ _ (Value.ref _) (Value.int _ _)) _ _ _); k_dflt (refine' my_item_ints (by k_asm) (by k_mem) (by (first | assumption | exact IntsAre.append (by assumption) (.cons _ _ .nil))) (by (((try walk_at "my clear"); first | omega | (simp only [List.length_append, List.length_cons, List.length_nil]; omega)))) (by (((try walk_at "my clear"); first | omega | (simp only [List.length_append, List.length_cons, List.length_nil]; omega)))) (by (((try walk_at "my clear"); first | omega | (simp only [List.length_append, List.length_cons, List.length_nil]; omega)))) ?_;  k_whole); intro _))) | ((with_reducible show wpAny _ _ (subscriptTail (PySem.Expr.Name _ _) (PySem.Expr.Name _ _) (Value.ref _) (Value.int _ _)) _ _ _); ((k_here; (with_reducible show wpAny _ _ (subscriptTail _ _ (Value.ref _) (Value.int _ _)) _ _ _); k_dflt (refine' my_item_ints (by k_asm) (by k_mem) (by assumption) (by omega) (by omega) (by omega) ?_;  k_whole); intro _))) | ((with_reducible show wpAny _ _ (call (Value.builtin "list.append") _) _ _ _); ((k_here; k_dflt (refine' my_append (by k_asm) (by k_asm) (by k_upd) (by (((try walk_at "my clear"); first | omega | (simp only [List.length_append, List.length_cons, List.length_nil]; omega)))) ?_;  k_whole); intro _ _ _; (try dsimp only); (try k_sweep)))) | ((with_reducible show wpAny _ _ (call (Value.builtin "list.append") _) _ _ _); ((k_here; k_dflt (refine' my_append (by k_asm) (by k_asm) (by k_upd) (by first | omega | (simp only [List.length_cons, List.length_nil, List.length_append]; omega)) ?_;  k_whole); intro _ _ _; (try dsimp only); (try k_sweep)))) | ((with_reducible show wpAny _ _ (subscriptTail (PySem.Expr.Name _ _) (PySem.Expr.BinOp _ _ _ _) (Value.ref _) (Value.int _ _)) _ _ _); ((k_here; (with_reducible show wpAny _ _ (subscriptTail _ _ (Value.ref _) (Value.int _ _)) _ _ _); k_dflt (refine' my_item_ints (by k_asm) (by k_mem) (by assumption) (by (((try walk_at "my clear"); first | omega | (simp only [List.length_append, List.length_cons, List.length_nil]; omega)))) (by (((try walk_at "my clear"); first | omega | (simp only [List.length_append, List.length_cons, List.length_nil]; omega)))) (by (((try walk_at "my clear"); first | omega | (simp only [List.length_append, List.length_cons, List.length_nil]; omega)))) ?_;  k_whole); intro _))) | ((k_here; (with_reducible show wpAny _ _ (call (Value.builtin _) [Value.ref _]) _ _ _); k_dflt (refine' my_min (by k_asm) (by k_asm) (by k_mem) (by (first | assumption | exact IntsAre.append (by assumption) (.cons _ _ .nil))) (by (((try walk_at "my clear"); first | omega | (simp only [List.length_append, List.length_cons, List.length_nil]; omega)))) (by with_unfolding_all rfl) ?_;  k_whole); intro _ _ _ _ _ _ _ _; (try k_sweep))) | ((with_reducible show wpAny _ _ (subscriptTail (PySem.Expr.Name _ _) (PySem.Expr.UnaryOp _ _ _) (Value.ref _) (Value.int _ _)) _ _ _); (((k_here; (with_reducible show wpAny _ _ (subscriptTail _ _ (Value.ref _) (Value.int _ _)) _ _ _); k_dflt (refine' my_item_neg (by k_asm) (by k_mem) (by assumption) (by (((try walk_at "my clear"); first | omega | (simp only [List.length_append, List.length_cons, List.length_nil]; omega)))) (by (((try walk_at "my clear"); first | omega | (simp only [List.length_append, List.length_cons, List.length_nil]; omega)))) (by (((try walk_at "my clear"); first | omega | (simp only [List.length_append, List.length_cons, List.length_nil]; omega)))) ?_;  k_whole); intro _)))) | walk_at "mo"))))
      (rename Fr _ _ _ _ => F11)
      (rename News _ _ _ _ => N11)
      refine LCg.CompSrc.ledger (by rfl) F11 N11 (by k_mem) (by rw [List.size_toArray, hJ.length]; simp only [sizeLine]; omega) fun g => ?_
      rw [List.size_toArray, hjl]
      obtain ⟨fit, hfe⟩ : ∃ fit, fit = fitsOf ns (1 + (i : Int)) := ⟨_, rfl⟩
      rw [← hfe] at hJ hfit hjl ⊢
      refine comp_ind (fun j ys2 => IntsAre ys2 ((fit.take j).map fun c => fs.getD (1 + (i : Int) - c).toNat 0)) (.inr ⟨_, by k_mem, rfl, _, rfl⟩) .nil ?_ ?_
      · intro j ys2 v hj' hJ2 hv
        obtain ⟨c, hc⟩ : ∃ c, fit[j]? = some c := ⟨_, List.getElem?_eq_getElem hj'⟩
        obtain ⟨tc, hc2⟩ := hJ.get j c hc
        have hv2 : v = .int c tc := by
          have hv : ys.toArray[j]? = some v := hv
          rw [List.getElem?_toArray, hc2] at hv
          exact (Option.some.inj hv).symm
        subst hv2
        have hcb := hfit.2.2 c (List.mem_of_getElem? hc)
        intro I oI C oC D m₂ h tk E' a1 a2 F N
        (repeat' (first | ((( (fail_if_success with_reducible first | refine st0 ?_ | refine st1 ?_ | refine st2 ?_ | refine st3 ?_))); (fail_if_success with_reducible first | refine st4 ?_ | refine st5 ?_ | refine st7 ?_ | refine st6 ?_ | refine st8 ?_ | refine st9 ?_); (first | ((with_reducible show wpAny _ _ (subscriptTail (PySem.Expr.Name _ _) (PySem.Expr.Name _ _) (Value.ref _) (Value.int _ _)) _ _ _); ((k_here; (with_reducible show wpAny _ _ (subscriptTail _ _ (Value.ref _) (Value.int _ _)) _ _ _); k_dflt (refine' my_item_ints (by k_asm) (by k_mem) (by (first | assumption | exact IntsAre.append (by assumption) (.cons _ _ .nil))) (by (((try walk_at "my clear"); first | omega | (simp only [List.length_append, List.length_cons, List.length_nil]; omega)))) (by (((try walk_at "my clear"); first | omega | (simp only [List.length_append, List.length_cons, List.length_nil]; omega)))) (by (((try walk_at "my clear"); first | omega | (simp only [List.length_append, List.length_cons, List.length_nil]; omega)))) ?_;  k_whole); intro _))) | ((with_reducible show wpAny _ _ (subscriptTail (PySem.Expr.Name _ _) (PySem.Expr.Name _ _) (Value.ref _) (Value.int _ _)) _ _ _); ((k_here; (with_reducible show wpAny _ _ (subscriptTail _ _ (Value.ref _) (Value.int _ _)) _ _ _); k_dflt (refine' my_item_ints (by k_asm) (by k_mem) (by assumption) (by omega) (by omega) (by omega) ?_;  k_whole); intro _))) | ((with_reducible show wpAny _ _ (call (Value.builtin "list.append") _) _ _ _); ((k_here; k_dflt (refine' my_append (by k_asm) (by k_asm) (by k_upd) (by (((try walk_at "my clear"); first | omega | (simp only [List.length_append, List.length_cons, List.length_nil]; omega)))) ?_;  k_whole); intro _ _ _; (try dsimp only); (try k_sweep)))) | ((with_reducible show wpAny _ _ (call (Value.builtin "list.append") _) _ _ _); ((k_here; k_dflt (refine' my_append (by k_asm) (by k_asm) (by k_upd) (by first | omega | (simp only [List.length_cons, List.length_nil, List.length_append]; omega)) ?_;  k_whole); intro _ _ _; (try dsimp only); (try k_sweep)))) | ((with_reducible show wpAny _ _ (subscriptTail (PySem.Expr.Name _ _) (PySem.Expr.BinOp _ _ _ _) (Value.ref _) (Value.int _ _)) _ _ _); ((k_here; (with_reducible show wpAny _ _ (subscriptTail _ _ (Value.ref _) (Value.int _ _)) _ _ _); k_dflt (refine' my_item_ints (by k_asm) (by k_mem) (by assumption) (by (((try walk_at "my clear"); first | omega | (simp only [List.length_append, List.length_cons, List.length_nil]; omega)))) (by (((try walk_at "my clear"); first | omega | (simp only [List.length_append, List.length_cons, List.length_nil]; omega)))) (by (((try walk_at "my clear"); first | omega | (simp only [List.length_append, List.length_cons, List.length_nil]; omega)))) ?_;  k_whole); intro _))) | ((k_here; (with_reducible show wpAny _ _ (call (Value.builtin _) [Value.ref _]) _ _ _); k_dflt (refine' my_min (by k_asm) (by k_asm) (by k_mem) (by (first | assumption | exact IntsAre.append (by assumption) (.cons _ _ .nil))) (by (((try walk_at "my clear"); first | omega | (simp only [List.length_append, List.length_cons, List.length_nil]; omega)))) (by with_unfolding_all rfl) ?_;  k_whole); intro _ _ _ _ _ _ _ _; (try k_sweep))) | ((with_reducible show wpAny _ _ (subscriptTail (PySem.Expr.Name _ _) (PySem.Expr.UnaryOp _ _ _) (Value.ref _) (Value.int _ _)) _ _ _); (((k_here; (with_reducible show wpAny _ _ (subscriptTail _ _ (Value.ref _) (Value.int _ _)) _ _ _); k_dflt (refine' my_item_neg (by k_asm) (by k_mem) (by assumption) (by (((try walk_at "my clear"); first | omega | (simp only [List.length_append, List.length_cons, List.length_nil]; omega)))) (by (((try walk_at "my clear"); first | omega | (simp only [List.length_append, List.length_cons, List.length_nil]; omega)))) (by (((try walk_at "my clear"); first | omega | (simp only [List.length_append, List.length_cons, List.length_nil]; omega)))) ?_;  k_whole); intro _)))) | walk_at "mo"))))
        refine ElEnd.intro (by k_asm) (by k_asm) (fun p hp => hp) ?_
        rw [List.take_add_one, hc, List.map_append]
        exact IntsAre.append hJ2 (.cons _ _ .nil)
      · intro ys2 hJ2
        rw [List.take_length] at hJ2
        obtain ⟨ms, hms⟩ : ∃ ms, ms = fit.map fun c => fs.getD (1 + (i : Int) - c).toNat 0 := ⟨_, rfl⟩
        have hml : 0 < ms.length := by rw [hms, List.length_map]; exact hfit.1
        rw [← hms] at hJ2
        have hvF := hF.length
        have hvT := hT.length
        have hlast := hfit.2.2 (fit.getD (-1 + (fit.length : Int)).toNat 0) (by
          have hx : (-1 + (fit.length : Int)).toNat < fit.length := by omega
          simpa [List.getD, hx] using List.getElem_mem hx)
        obtain ⟨k9, hk9⟩ : ∃ k9, (aa + bb - 1).toNat - i = k9 + 1 := ⟨(aa + bb - 1).toNat - i - 1, by omega⟩
        have hk10 : (aa + bb - 1).toNat - (i + 1) = k9 := by omega
        have hi2 : (1 + (i : Int)).toNat = i + 1 := by omega
        (repeat' (first | ((( (fail_if_success with_reducible first | refine st0 ?_ | refine st1 ?_ | refine st2 ?_ | refine st3 ?_))); (fail_if_success with_reducible first | refine st4 ?_ | refine st5 ?_ | refine st7 ?_ | refine st6 ?_ | refine st8 ?_ | refine st9 ?_); (first | ((with_reducible show wpAny _ _ (subscriptTail (PySem.Expr.Name _ _) (PySem.Expr.Name _ _) (Value.ref _) (Value.int _ _)) _ _ _); ((k_here; (with_reducible show wpAny _ _ (subscriptTail _ _ (Value.ref _) (Value.int _ _)) _ _ _); k_dflt (refine' my_item_ints (by k_asm) (by k_mem) (by (first | assumption | exact IntsAre.append (by assumption) (.cons _ _ .nil))) (by (((try walk_at "my clear"); first | omega | (simp only [List.length_append, List.length_cons, List.length_nil]; omega)))) (by (((try walk_at "my clear"); first | omega | (simp only [List.length_append, List.length_cons, List.length_nil]; omega)))) (by (((try walk_at "my clear"); first | omega | (simp only [List.length_append, List.length_cons, List.length_nil]; omega)))) ?_;  k_whole); intro _))) | ((with_reducible show wpAny _ _ (subscriptTail (PySem.Expr.Name _ _) (PySem.Expr.Name _ _) (Value.ref _) (Value.int _ _)) _ _ _); ((k_here; (with_reducible show wpAny _ _ (subscriptTail _ _ (Value.ref _) (Value.int _ _)) _ _ _); k_dflt (refine' my_item_ints (by k_asm) (by k_mem) (by assumption) (by omega) (by omega) (by omega) ?_;  k_whole); intro _))) | ((with_reducible show wpAny _ _ (call (Value.builtin "list.append") _) _ _ _); ((k_here; k_dflt (refine' my_append (by k_asm) (by k_asm) (by k_upd) (by (((try walk_at "my clear"); first | omega | (simp only [List.length_append, List.length_cons, List.length_nil]; omega)))) ?_;  k_whole); intro _ _ _; (try dsimp only); (try k_sweep)))) | ((with_reducible show wpAny _ _ (call (Value.builtin "list.append") _) _ _ _); ((k_here; k_dflt (refine' my_append (by k_asm) (by k_asm) (by k_upd) (by first | omega | (simp only [List.length_cons, List.length_nil, List.length_append]; omega)) ?_;  k_whole); intro _ _ _; (try dsimp only); (try k_sweep)))) | ((with_reducible show wpAny _ _ (subscriptTail (PySem.Expr.Name _ _) (PySem.Expr.BinOp _ _ _ _) (Value.ref _) (Value.int _ _)) _ _ _); ((k_here; (with_reducible show wpAny _ _ (subscriptTail _ _ (Value.ref _) (Value.int _ _)) _ _ _); k_dflt (refine' my_item_ints (by k_asm) (by k_mem) (by assumption) (by (((try walk_at "my clear"); first | omega | (simp only [List.length_append, List.length_cons, List.length_nil]; omega)))) (by (((try walk_at "my clear"); first | omega | (simp only [List.length_append, List.length_cons, List.length_nil]; omega)))) (by (((try walk_at "my clear"); first | omega | (simp only [List.length_append, List.length_cons, List.length_nil]; omega)))) ?_;  k_whole); intro _))) | ((k_here; (with_reducible show wpAny _ _ (call (Value.builtin _) [Value.ref _]) _ _ _); k_dflt (refine' my_min (by k_asm) (by k_asm) (by k_mem) (by (first | assumption | exact IntsAre.append (by assumption) (.cons _ _ .nil))) (by (((try walk_at "my clear"); first | omega | (simp only [List.length_append, List.length_cons, List.length_nil]; omega)))) (by with_unfolding_all rfl) ?_;  k_whole); intro _ _ _ _ _ _ _ _; (try k_sweep))) | ((with_reducible show wpAny _ _ (subscriptTail (PySem.Expr.Name _ _) (PySem.Expr.UnaryOp _ _ _) (Value.ref _) (Value.int _ _)) _ _ _); (((k_here; (with_reducible show wpAny _ _ (subscriptTail _ _ (Value.ref _) (Value.int _ _)) _ _ _); k_dflt (refine' my_item_neg (by k_asm) (by k_mem) (by assumption) (by (((try walk_at "my clear"); first | omega | (simp only [List.length_append, List.length_cons, List.length_nil]; omega)))) (by (((try walk_at "my clear"); first | omega | (simp only [List.length_append, List.length_cons, List.length_nil]; omega)))) (by (((try walk_at "my clear"); first | omega | (simp only [List.length_append, List.length_cons, List.length_nil]; omega)))) ?_;  k_whole); intro _)))) | walk_at "mo"))))
        · rename_i hlt
          rename _ ∈ ms => hM
          have hmin := minOf_is hM (by assumption)
          rw [hk9] at hgo
          simp only [leastGo] at hgo
          rw [← hfe, ← hms, hmin] at hgo
          rw [hi2, getD_end lF, getD_end lT] at hlt
          rw [if_pos hlt] at hgo
          unfold TurnTo
          dsimp only
          (repeat' (first | ((( (fail_if_success with_reducible first | refine st0 ?_ | refine st1 ?_ | refine st2 ?_ | refine st3 ?_))); (fail_if_success with_reducible first | refine st4 ?_ | refine st5 ?_ | refine st7 ?_ | refine st6 ?_ | refine st8 ?_ | refine st9 ?_); (first | ((with_reducible show wpAny _ _ (subscriptTail (PySem.Expr.Name _ _) (PySem.Expr.Name _ _) (Value.ref _) (Value.int _ _)) _ _ _); ((k_here; (with_reducible show wpAny _ _ (subscriptTail _ _ (Value.ref _) (Value.int _ _)) _ _ _); k_dflt (refine' my_item_ints (by k_asm) (by k_mem) (by (first | assumption | exact IntsAre.append (by assumption) (.cons _ _ .nil))) (by (((try walk_at "my clear"); first | omega | (simp only [List.length_append, List.length_cons, List.length_nil]; omega)))) (by (((try walk_at "my clear"); first | omega | (simp only [List.length_append, List.length_cons, List.length_nil]; omega)))) (by (((try walk_at "my clear"); first | omega | (simp only [List.length_append, List.length_cons, List.length_nil]; omega)))) ?_;  k_whole); intro _))) | ((with_reducible show wpAny _ _ (subscriptTail (PySem.Expr.Name _ _) (PySem.Expr.Name _ _) (Value.ref _) (Value.int _ _)) _ _ _); ((k_here; (with_reducible show wpAny _ _ (subscriptTail _ _ (Value.ref _) (Value.int _ _)) _ _ _); k_dflt (refine' my_item_ints (by k_asm) (by k_mem) (by assumption) (by omega) (by omega) (by omega) ?_;  k_whole); intro _))) | ((with_reducible show wpAny _ _ (call (Value.builtin "list.append") _) _ _ _); ((k_here; k_dflt (refine' my_append (by k_asm) (by k_asm) (by k_upd) (by (((try walk_at "my clear"); first | omega | (simp only [List.length_append, List.length_cons, List.length_nil]; omega)))) ?_;  k_whole); intro _ _ _; (try dsimp only); (try k_sweep)))) | ((with_reducible show wpAny _ _ (call (Value.builtin "list.append") _) _ _ _); ((k_here; k_dflt (refine' my_append (by k_asm) (by k_asm) (by k_upd) (by first | omega | (simp only [List.length_cons, List.length_nil, List.length_append]; omega)) ?_;  k_whole); intro _ _ _; (try dsimp only); (try k_sweep)))) | ((with_reducible show wpAny _ _ (subscriptTail (PySem.Expr.Name _ _) (PySem.Expr.BinOp _ _ _ _) (Value.ref _) (Value.int _ _)) _ _ _); ((k_here; (with_reducible show wpAny _ _ (subscriptTail _ _ (Value.ref _) (Value.int _ _)) _ _ _); k_dflt (refine' my_item_ints (by k_asm) (by k_mem) (by assumption) (by (((try walk_at "my clear"); first | omega | (simp only [List.length_append, List.length_cons, List.length_nil]; omega)))) (by (((try walk_at "my clear"); first | omega | (simp only [List.length_append, List.length_cons, List.length_nil]; omega)))) (by (((try walk_at "my clear"); first | omega | (simp only [List.length_append, List.length_cons, List.length_nil]; omega)))) ?_;  k_whole); intro _))) | ((k_here; (with_reducible show wpAny _ _ (call (Value.builtin _) [Value.ref _]) _ _ _); k_dflt (refine' my_min (by k_asm) (by k_asm) (by k_mem) (by (first | assumption | exact IntsAre.append (by assumption) (.cons _ _ .nil))) (by (((try walk_at "my clear"); first | omega | (simp only [List.length_append, List.length_cons, List.length_nil]; omega)))) (by with_unfolding_all rfl) ?_;  k_whole); intro _ _ _ _ _ _ _ _; (try k_sweep))) | ((with_reducible show wpAny _ _ (subscriptTail (PySem.Expr.Name _ _) (PySem.Expr.UnaryOp _ _ _) (Value.ref _) (Value.int _ _)) _ _ _); (((k_here; (with_reducible show wpAny _ _ (subscriptTail _ _ (Value.ref _) (Value.int _ _)) _ _ _); k_dflt (refine' my_item_neg (by k_asm) (by k_mem) (by assumption) (by (((try walk_at "my clear"); first | omega | (simp only [List.length_append, List.length_cons, List.length_nil]; omega)))) (by (((try walk_at "my clear"); first | omega | (simp only [List.length_append, List.length_cons, List.length_nil]; omega)))) (by (((try walk_at "my clear"); first | omega | (simp only [List.length_append, List.length_cons, List.length_nil]; omega)))) ?_;  k_whole); intro _)))) | walk_at "mo"))))
          exact hret _ _ _ fr ⟨rfl, _, by rw [← hgo]⟩ (by k_asm) (news_sub (by k_asm) (by (((try simp only [List.cons_append, List.nil_append]); (repeat' (first | exact List.forall_mem_nil _ | refine List.forall_mem_cons.mpr ⟨?_, ?_⟩)) <;> (first | k_mem | (intro _ _; k_mem))))))
        · rename_i hlt
          rename _ ∈ ms => hM
          have hmin := minOf_is hM (by assumption)
          rw [hk9] at hgo
          simp only [leastGo] at hgo
          rw [← hfe, ← hms, hmin] at hgo
          rw [hi2, getD_end lF, getD_end lT] at hlt
          rw [if_neg hlt] at hgo
          refine TurnTo.intro (by k_asm) (by k_asm) (by (((try simp only [List.cons_append, List.nil_append]); (repeat' (first | exact List.forall_mem_nil _ | refine List.forall_mem_cons.mpr ⟨?_, ?_⟩)) <;> (first | k_mem | (intro _ _; k_mem))))) ?_ ⟨vF ++ [_], _, _, vT ++ [_], _, _, _, _, rfl, by assumption, IntsAre.append hF (.cons _ _ .nil), IntsAre.append hT (.cons _ _ .nil), by simp [lF], by simp [lT], by ((repeat' (first | exact all_nil | refine all_cons rfl ?_))), ?_⟩
          · exact List.forall_mem_cons.mpr ⟨Ne.symm e6, List.forall_mem_cons.mpr ⟨Ne.symm e5, List.forall_mem_cons.mpr ⟨Ne.symm e1, List.forall_mem_cons.mpr ⟨ho (L + 1, cF) (by k_mem), fun p hp => ho p (by k_mem)⟩⟩⟩⟩
          · rw [hk10]
            have e : (1 + ((i + 1 : Nat) : Int)) = 1 + (i : Int) + 1 := by omega
            rw [e]
            exact hgo
  · rintro m₁ nx h9 tk9 hJz
    refine gz1 nx ?_
    intro Gz hGz
    obtain ⟨vF, nF, fs, vT, nT, ts, o2, cv, rfl, d2, hF, hT, lF, lT, hN, hgo⟩ := hJz
    refine hGz _ ?_
    clear hGz Gz
    rintro F9 N9
    rw [Nat.sub_self] at hgo
    have h0 : least ns = 0 := hgo.symm
    rw [h0] at hret
    (repeat' (first | ((( (fail_if_success with_reducible first | refine st0 ?_ | refine st1 ?_ | refine st2 ?_ | refine st3 ?_))); (fail_if_success with_reducible first | refine st4 ?_ | refine st5 ?_ | refine st7 ?_ | refine st6 ?_ | refine st8 ?_ | refine st9 ?_); (first | ((with_reducible show wpAny _ _ (subscriptTail (PySem.Expr.Name _ _) (PySem.Expr.Name _ _) (Value.ref _) (Value.int _ _)) _ _ _); ((k_here; (with_reducible show wpAny _ _ (subscriptTail _ _ (Value.ref _) (Value.int _ _)) _ _ _); k_dflt (refine' my_item_ints (by k_asm) (by k_mem) (by (first | assumption | exact IntsAre.append (by assumption) (.cons _ _ .nil))) (by (((try walk_at "my clear"); first | omega | (simp only [List.length_append, List.length_cons, List.length_nil]; omega)))) (by (((try walk_at "my clear"); first | omega | (simp only [List.length_append, List.length_cons, List.length_nil]; omega)))) (by (((try walk_at "my clear"); first | omega | (simp only [List.length_append, List.length_cons, List.length_nil]; omega)))) ?_;  k_whole); intro _))) | ((with_reducible show wpAny _ _ (subscriptTail (PySem.Expr.Name _ _) (PySem.Expr.Name _ _) (Value.ref _) (Value.int _ _)) _ _ _); ((k_here; (with_reducible show wpAny _ _ (subscriptTail _ _ (Value.ref _) (Value.int _ _)) _ _ _); k_dflt (refine' my_item_ints (by k_asm) (by k_mem) (by assumption) (by omega) (by omega) (by omega) ?_;  k_whole); intro _))) | ((with_reducible show wpAny _ _ (call (Value.builtin "list.append") _) _ _ _); ((k_here; k_dflt (refine' my_append (by k_asm) (by k_asm) (by k_upd) (by (((try walk_at "my clear"); first | omega | (simp only [List.length_append, List.length_cons, List.length_nil]; omega)))) ?_;  k_whole); intro _ _ _; (try dsimp only); (try k_sweep)))) | ((with_reducible show wpAny _ _ (call (Value.builtin "list.append") _) _ _ _); ((k_here; k_dflt (refine' my_append (by k_asm) (by k_asm) (by k_upd) (by first | omega | (simp only [List.length_cons, List.length_nil, List.length_append]; omega)) ?_;  k_whole); intro _ _ _; (try dsimp only); (try k_sweep)))) | ((with_reducible show wpAny _ _ (subscriptTail (PySem.Expr.Name _ _) (PySem.Expr.BinOp _ _ _ _) (Value.ref _) (Value.int _ _)) _ _ _); ((k_here; (with_reducible show wpAny _ _ (subscriptTail _ _ (Value.ref _) (Value.int _ _)) _ _ _); k_dflt (refine' my_item_ints (by k_asm) (by k_mem) (by assumption) (by (((try walk_at "my clear"); first | omega | (simp only [List.length_append, List.length_cons, List.length_nil]; omega)))) (by (((try walk_at "my clear"); first | omega | (simp only [List.length_append, List.length_cons, List.length_nil]; omega)))) (by (((try walk_at "my clear"); first | omega | (simp only [List.length_append, List.length_cons, List.length_nil]; omega)))) ?_;  k_whole); intro _))) | ((k_here; (with_reducible show wpAny _ _ (call (Value.builtin _) [Value.ref _]) _ _ _); k_dflt (refine' my_min (by k_asm) (by k_asm) (by k_mem) (by (first | assumption | exact IntsAre.append (by assumption) (.cons _ _ .nil))) (by (((try walk_at "my clear"); first | omega | (simp only [List.length_append, List.length_cons, List.length_nil]; omega)))) (by with_unfolding_all rfl) ?_;  k_whole); intro _ _ _ _ _ _ _ _; (try k_sweep))) | ((with_reducible show wpAny _ _ (subscriptTail (PySem.Expr.Name _ _) (PySem.Expr.UnaryOp _ _ _) (Value.ref _) (Value.int _ _)) _ _ _); (((k_here; (with_reducible show wpAny _ _ (subscriptTail _ _ (Value.ref _) (Value.int _ _)) _ _ _); k_dflt (refine' my_item_neg (by k_asm) (by k_mem) (by assumption) (by (((try walk_at "my clear"); first | omega | (simp only [List.length_append, List.length_cons, List.length_nil]; omega)))) (by (((try walk_at "my clear"); first | omega | (simp only [List.length_append, List.length_cons, List.length_nil]; omega)))) (by (((try walk_at "my clear"); first | omega | (simp only [List.length_append, List.length_cons, List.length_nil]; omega)))) ?_;  k_whole); intro _)))) | walk_at "mo"))))
    exact hret _ _ _ fr ⟨rfl, _, rfl⟩ (by k_asm) (news_sub (by k_asm) (by (((try simp only [List.cons_append, List.nil_append]); (repeat' (first | exact List.forall_mem_nil _ | refine List.forall_mem_cons.mpr ⟨?_, ?_⟩)) <;> (first | k_mem | (intro _ _; k_mem))))))
end Mine
-- C14
namespace Mine
theorem mem_mid {x q : Addr × Obj} {b c : Led} (h : q ∈ b ++ x :: c) : q = x ∨ q ∈ b ++ c := by
  simp only [List.mem_append, List.mem_cons] at *
  rcases h with h | h | h
  · exact .inr (.inl h)
  · exact .inl h
  · exact .inr (.inr h)
theorem news_move {h₀ h : Heap} {L : Addr} {x : Addr × Obj} {a b c : Led} (N : News h₀ L h (x :: (a ++ (b ++ c)))) : News h₀ L h (a ++ (b ++ x :: c)) :=
  news_sub N fun p hp => by
    simp only [List.mem_append, List.mem_cons] at *
    rcases hp with h | h | h | h
    · exact .inr (.inl h)
    · exact .inr (.inr (.inl h))
    · exact .inl h
    · exact .inr (.inr (.inr h))
theorem take_getD {ns : List Int} {k i : Nat} (h : i < k) : (ns.take k).getD i 0 = ns.getD i 0 := by
  simp [List.getD, List.getElem?_take, h]
theorem Row.take {ns : List Int} (hr : Row ns) {k : Nat} (hk : 0 < k) : Row (ns.take k) where
  sorted := fun i j hij hj => by
    have h1 : j < k ∧ j < ns.length := by rw [List.length_take] at hj; omega
    rw [take_getD (by omega), take_getD h1.1]
    exact hr.sorted i j hij h1.2
  one := by rw [take_getD hk]; exact hr.one
  len := by have := hr.len; rw [List.length_take]; omega
  few := by have := hr.few; rw [List.length_take]; omega
  small := fun i hi => by
    have h1 : i < k ∧ i < ns.length := by rw [List.length_take] at hi; omega
    rw [take_getD h1.1]
    exact hr.small i h1.2
theorem warm_off {P : Addr} {line col : Nat} {qual : Str} {tl : Led} (hw : Warm P line col qual tl) {I : Addr} {oI : Obj} (hG : (Xx3 fun (x l d : Int) => oI.data = .fields #[rawInt x, rawInt l, rawInt d])) {h : Heap}
    (hp : ∀ p ∈ tl, h.get? p.1 = some p.2) (hI : h.get? I = some oI) : ∀ p ∈ tl, p.1 ≠ I := by
  refine gz0 fun Gz hGz => ?_
  obtain ⟨c', oc, vs, t, rfl, hd, hv⟩ := hw
  refine hGz ?_
  clear hGz Gz
  refine gz0 fun Gz hGz => ?_
  obtain ⟨x, l, d, hG⟩ := hG
  refine hGz ?_
  clear hGz Gz
  intro p hp' e
  have h1 := hp p hp'
  rw [e, hI] at h1
  have h2 := Option.some.inj h1
  rcases List.mem_cons.mp hp' with h3 | h3
  · rw [h2, h3] at hG
    simp [tabObj, rawInt] at hG
  · rw [List.mem_singleton.mp h3] at h2
    rw [h2] at hG
    dsimp only at hG
    rw [hd] at hG
    have h4 : vs = #[rawInt x, rawInt l, rawInt d] := by injection hG
    rw [h4] at hv
    simp [rawInt] at hv
theorem names_for {m : Str → Option Value} {x : Str} {v : Value} {ps : List (Str × Value)} (h : HasN m ps) (hx : ∀ p ∈ ps.map (·.1), p ≠ x) : HasN (fun y => if y = x then some v else m y) ((x, v) :: ps) :=
  all_cons (if_pos rfl) fun p hp => by
    show (if p.1 = x then some v else m p.1) = some p.2
    rw [if_neg (hx p.1 (List.mem_map_of_mem hp))]
    exact h p hp
noncomputable def oneGo (ns : List Int) : Nat → Nat → Int → Bool
  | 0, _, _ => true
  | f + 1, k, le =>
    if le = 0 ∧ (decide (pieces (ns.take k) ((-(ns.getD k 0)).fmod (ns.getD (k - 1) 0)) < -((-(ns.getD k 0)).fdiv (ns.getD (k - 1) 0))) != (least (ns.take (k + 1)) == 0)) = true then false
    else oneGo ns f (k + 1) (least (ns.take (k + 1)))
noncomputable def oneSum (ns : List Int) : Bool := oneGo ns (ns.length - 1) 1 0
theorem says_one (l : Addr) (vs : List Value) (n : Nat) (ns : List Int) (T1 T2 fr : Led) (hm : (l, PySem.W.listOf vs.toArray n) ∈ fr) (hi : IntsAre vs ns) (hr : Row ns) (h2 : 2 ≤ ns.length)
    (hT1 : Tab 76 90 4 "_int2digits.<locals>.inner" T1 (T2 ++ fr)) (hT2 : Tab 83 105 4 "_digits2int.<locals>.inner" T2 (T1 ++ fr)) :
    Says 110 600 354 [.ref l] (T1 ++ (T2 ++ fr)) (fun v news => v = .bool (oneSum ns) ∧ (Xx2 fun T1' T2' => Aa3 (news = T1' ++ (T2' ++ fr)) (W76 T1') (W83 T2'))) := by
  ((have hfill : Mine.hd.heap_39 = Mine.hd.heap_39 ∧ PySem.Challenge.rw_sn0098_01 = PySem.Challenge.rw_sn0098_01 := (by k_fill; exact ⟨rfl, rfl⟩)); clear hfill)
  have hfew := hr.few
  unfold Says
  intros
  rename_i hret
  refine wpAny_call ?_
  k_dflt walk_at "my enter"
  (rename Fr _ _ _ _ => F)
  obtain ⟨m', F1⟩ := names_ex F [("row", .ref l)] (by ((repeat' (first | exact all_nil | refine all_cons rfl ?_))))
  clear F
  have hvl := hi.length
  (repeat' (first | ((( (fail_if_success with_reducible first | refine st0 ?_ | refine st1 ?_ | refine st2 ?_ | refine st3 ?_))); (fail_if_success with_reducible first | refine st4 ?_ | refine st5 ?_ | refine st7 ?_ | refine st6 ?_ | refine st8 ?_ | refine st9 ?_); (first | ((with_reducible show wpAny _ _ (subscriptTail (PySem.Expr.Name _ _) (PySem.Expr.Name _ _) (Value.ref _) (Value.int _ _)) _ _ _); ((k_here; (with_reducible show wpAny _ _ (subscriptTail _ _ (Value.ref _) (Value.int _ _)) _ _ _); k_dflt (refine' my_item_ints (by k_asm) (by k_mem) (by (first | assumption | exact IntsAre.append (by assumption) (.cons _ _ .nil))) (by (((try walk_at "my clear"); first | omega | (simp only [List.length_append, List.length_cons, List.length_nil]; omega)))) (by (((try walk_at "my clear"); first | omega | (simp only [List.length_append, List.length_cons, List.length_nil]; omega)))) (by (((try walk_at "my clear"); first | omega | (simp only [List.length_append, List.length_cons, List.length_nil]; omega)))) ?_;  k_whole); intro _))) | ((with_reducible show wpAny _ _ (subscriptTail (PySem.Expr.Name _ _) (PySem.Expr.Name _ _) (Value.ref _) (Value.int _ _)) _ _ _); ((k_here; (with_reducible show wpAny _ _ (subscriptTail _ _ (Value.ref _) (Value.int _ _)) _ _ _); k_dflt (refine' my_item_ints (by k_asm) (by k_mem) (by assumption) (by omega) (by omega) (by omega) ?_;  k_whole); intro _))) | ((with_reducible show wpAny _ _ (call (Value.builtin "len") _) _ _ _); ((k_here; k_dflt (refine' my_len (by k_asm) (by k_mem) (by omega) ?_;  k_whole); intro _ _))) | ((with_reducible show wpAny _ _ (subscriptTail (PySem.Expr.Name _ _) (PySem.Expr.BinOp _ _ _ _) (Value.ref _) (Value.int _ _)) _ _ _); ((k_here; (with_reducible show wpAny _ _ (subscriptTail _ _ (Value.ref _) (Value.int _ _)) _ _ _); k_dflt (refine' my_item_ints (by k_asm) (by k_mem) (by assumption) (by (((try walk_at "my clear"); first | omega | (simp only [List.length_append, List.length_cons, List.length_nil]; omega)))) (by (((try walk_at "my clear"); first | omega | (simp only [List.length_append, List.length_cons, List.length_nil]; omega)))) (by (((try walk_at "my clear"); first | omega | (simp only [List.length_append, List.length_cons, List.length_nil]; omega)))) ?_;  k_whole); intro _))) | walk_at "mo"))))
  ((k_here; (with_unfolding_all refine' For_T ?_); k_whole))
  (repeat' (first | ((( (fail_if_success with_reducible first | refine st0 ?_ | refine st1 ?_ | refine st2 ?_ | refine st3 ?_))); (fail_if_success with_reducible first | refine st4 ?_ | refine st5 ?_ | refine st7 ?_ | refine st6 ?_ | refine st8 ?_ | refine st9 ?_); (first | ((with_reducible show wpAny _ _ (subscriptTail (PySem.Expr.Name _ _) (PySem.Expr.Name _ _) (Value.ref _) (Value.int _ _)) _ _ _); ((k_here; (with_reducible show wpAny _ _ (subscriptTail _ _ (Value.ref _) (Value.int _ _)) _ _ _); k_dflt (refine' my_item_ints (by k_asm) (by k_mem) (by (first | assumption | exact IntsAre.append (by assumption) (.cons _ _ .nil))) (by (((try walk_at "my clear"); first | omega | (simp only [List.length_append, List.length_cons, List.length_nil]; omega)))) (by (((try walk_at "my clear"); first | omega | (simp only [List.length_append, List.length_cons, List.length_nil]; omega)))) (by (((try walk_at "my clear"); first | omega | (simp only [List.length_append, List.length_cons, List.length_nil]; omega)))) ?_;  k_whole); intro _))) | ((with_reducible show wpAny _ _ (subscriptTail (PySem.Expr.Name _ _) (PySem.Expr.Name _ _) (Value.ref _) (Value.int _ _)) _ _ _); ((k_here; (with_reducible show wpAny _ _ (subscriptTail _ _ (Value.ref _) (Value.int _ _)) _ _ _); k_dflt (refine' my_item_ints (by k_asm) (by k_mem) (by assumption) (by omega) (by omega) (by omega) ?_;  k_whole); intro _))) | ((with_reducible show wpAny _ _ (call (Value.builtin "len") _) _ _ _); ((k_here; k_dflt (refine' my_len (by k_asm) (by k_mem) (by omega) ?_;  k_whole); intro _ _))) | ((with_reducible show wpAny _ _ (subscriptTail (PySem.Expr.Name _ _) (PySem.Expr.BinOp _ _ _ _) (Value.ref _) (Value.int _ _)) _ _ _); ((k_here; (with_reducible show wpAny _ _ (subscriptTail _ _ (Value.ref _) (Value.int _ _)) _ _ _); k_dflt (refine' my_item_ints (by k_asm) (by k_mem) (by assumption) (by (((try walk_at "my clear"); first | omega | (simp only [List.length_append, List.length_cons, List.length_nil]; omega)))) (by (((try walk_at "my clear"); first | omega | (simp only [List.length_append, List.length_cons, List.length_nil]; omega)))) (by (((try walk_at "my clear"); first | omega | (simp only [List.length_append, List.length_cons, List.length_nil]; omega)))) ?_;  k_whole); intro _))) | walk_at "mo"))))
  (rename IsRange _ _ _ _ _ _ _ _ => hrange)
  (rename Fr _ _ _ _ => F2)
  (rename News _ _ _ _ => N2)
  obtain ⟨L, hL⟩ := fr_L F2
  subst hL
  rw [hvl] at *
  refine loopRangeT (n := ns.length - 1) (fun i m nx => (Xx4 fun T1 T2 le tle => Aa6 (nx = T1 ++ (T2 ++ fr)) (Tab 76 90 4 "_int2digits.<locals>.inner" T1 (T2 ++ fr)) (Tab 83 105 4 "_digits2int.<locals>.inner" T2 (T1 ++ fr)) ((0 < i → W76 T1 ∧ W83 T2)) (HasN m [("row", .ref l), ("least", .int le tle)]) (oneGo ns (ns.length - 1 - i) (1 + i) le = oneSum ns))) ?_ hrange ?_ ?_ F2 N2 ?_ ?_ ?_ ?_
  · exact (by rfl)
  · exact small_one (by omega) (by omega) (by omega) (by omega)
  · rw [range_one (by omega)]; congr 1; omega
  · exact ⟨T1, T2, 0, _, rfl, hT1, hT2, (fun h => absurd h (Nat.lt_irrefl 0)), by ((repeat' (first | exact all_nil | refine all_cons rfl ?_))), rfl⟩
  · intros; rfl
  · rintro i t m₁ nx h9 tk9 I oI hG hi9 hJz
    refine gz1 nx ?_
    intro Gz hGz
    obtain ⟨U1, U2, le, tle, rfl, u1, u2, hw, hN, hgo⟩ := hJz
    refine hGz _ ?_
    clear hGz Gz
    rintro ho F9 N9
    dsimp only [envOf] at F9 N9
    obtain ⟨m9, F9⟩ := names_ex F9 [("row", .ref l), ("least", .int le tle)] hN
    have hrk := hr.at (1 + (i : Int)).toNat (by omega)
    have hrk1 := hr.at (1 + (i : Int) - 1).toNat (by omega)
    have v1 : Tab 76 90 4 "_int2digits.<locals>.inner" U1 (U2 ++ (I, oI) :: fr) := u1.move (fun ht hq q hq2 => by
      rcases mem_mid hq2 with h | h
      · rw [h]; exact Ne.symm (ho _ (List.mem_append_left _ ht))
      · exact hq q h)
    have v2 : Tab 83 105 4 "_digits2int.<locals>.inner" U2 (U1 ++ (I, oI) :: fr) := u2.move (fun ht hq q hq2 => by
      rcases mem_mid hq2 with h | h
      · rw [h]; exact Ne.symm (ho _ (List.mem_append_right _ (List.mem_append_left _ ht)))
      · exact hq q h)
    (repeat' (first | ((( (fail_if_success with_reducible first | refine st0 ?_ | refine st1 ?_ | refine st2 ?_ | refine st3 ?_))); (fail_if_success with_reducible first | refine st4 ?_ | refine st5 ?_ | refine st7 ?_ | refine st6 ?_ | refine st8 ?_ | refine st9 ?_); (first | ((with_reducible show wpAny _ _ (subscriptTail (PySem.Expr.Name _ _) (PySem.Expr.Name _ _) (Value.ref _) (Value.int _ _)) _ _ _); ((k_here; (with_reducible show wpAny _ _ (subscriptTail _ _ (Value.ref _) (Value.int _ _)) _ _ _); k_dflt (refine' my_item_ints (by k_asm) (by k_mem) (by (first | assumption | exact IntsAre.append (by assumption) (.cons _ _ .nil))) (by (((try walk_at "my clear"); first | omega | (simp only [List.length_append, List.length_cons, List.length_nil]; omega)))) (by (((try walk_at "my clear"); first | omega | (simp only [List.length_append, List.length_cons, List.length_nil]; omega)))) (by (((try walk_at "my clear"); first | omega | (simp only [List.length_append, List.length_cons, List.length_nil]; omega)))) ?_;  k_whole); intro _))) | ((with_reducible show wpAny _ _ (subscriptTail (PySem.Expr.Name _ _) (PySem.Expr.Name _ _) (Value.ref _) (Value.int _ _)) _ _ _); ((k_here; (with_reducible show wpAny _ _ (subscriptTail _ _ (Value.ref _) (Value.int _ _)) _ _ _); k_dflt (refine' my_item_ints (by k_asm) (by k_mem) (by assumption) (by omega) (by omega) (by omega) ?_;  k_whole); intro _))) | ((with_reducible show wpAny _ _ (call (Value.builtin "len") _) _ _ _); ((k_here; k_dflt (refine' my_len (by k_asm) (by k_mem) (by omega) ?_;  k_whole); intro _ _))) | ((with_reducible show wpAny _ _ (subscriptTail (PySem.Expr.Name _ _) (PySem.Expr.BinOp _ _ _ _) (Value.ref _) (Value.int _ _)) _ _ _); ((k_here; (with_reducible show wpAny _ _ (subscriptTail _ _ (Value.ref _) (Value.int _ _)) _ _ _); k_dflt (refine' my_item_ints (by k_asm) (by k_mem) (by assumption) (by (((try walk_at "my clear"); first | omega | (simp only [List.length_append, List.length_cons, List.length_nil]; omega)))) (by (((try walk_at "my clear"); first | omega | (simp only [List.length_append, List.length_cons, List.length_nil]; omega)))) (by (((try walk_at "my clear"); first | omega | (simp only [List.length_append, List.length_cons, List.length_nil]; omega)))) ?_;  k_whole); intro _))) | walk_at "mo"))))
    refine' use_says (by k_asm) (by k_asm) (by k_asm) ?uN7 (by k_asm) (by first | exact rfl | assumption) ?uC7 ?uD7 ?uU7 ?uR7
    case uN7 => exact news_move (by k_asm)
    case uC7 => exact says_idm _ _ _ _ U1 U2 ((I, oI) :: fr) (by omega) (by omega) (by omega) (by omega) v1 v2
    case uD7 => ktr_room
    case uU7 => ktr_units
    rintro v h' tk' news' hJz
    refine gz2 v news' ?_
    intro Gz hGz
    obtain ⟨lq, tq, tr, U1', U2', rfl, rfl, w1, w2, w3, w4, hlt⟩ := hJz
    refine hGz _ _ ?_
    clear hGz Gz
    rintro F10 N10
    have x1 := warm_off w1 hG (fun p hp => (N10 p (.tail _ (List.mem_append_left _ hp))).1) (N10 (I, oI) (.tail _ (List.mem_append_right _ (List.mem_append_right _ (.head _))))).1
    have x2 := warm_off w2 hG (fun p hp => (N10 p (.tail _ (List.mem_append_right _ (List.mem_append_left _ hp)))).1) (N10 (I, oI) (.tail _ (List.mem_append_right _ (List.mem_append_right _ (.head _))))).1
    have x3 : ∀ p ∈ U1' ++ (U2' ++ fr), p.1 ≠ I := fun p hp => by
      rcases List.mem_append.mp hp with h | h
      · exact x1 p h
      · rcases List.mem_append.mp h with h | h
        · exact x2 p h
        · exact ho p (List.mem_append_right _ (List.mem_append_right _ h))
    have efm1 : (-ns.getD (1 + (i : Int)).toNat 0).fmod (ns.getD (1 + (i : Int) - 1).toNat 0) < ns.getD (1 + (i : Int) - 1).toNat 0 := Int.fmod_lt_of_pos _ (by omega)
    dsimp only
    (repeat' (first | ((( (fail_if_success with_reducible first | refine st0 ?_ | refine st1 ?_ | refine st2 ?_ | refine st3 ?_))); (fail_if_success with_reducible first | refine st4 ?_ | refine st5 ?_ | refine st7 ?_ | refine st6 ?_ | refine st8 ?_ | refine st9 ?_); (first | ((with_reducible show wpAny _ _ (subscriptTail (PySem.Expr.Name _ _) (PySem.Expr.Name _ _) (Value.ref _) (Value.int _ _)) _ _ _); ((k_here; (with_reducible show wpAny _ _ (subscriptTail _ _ (Value.ref _) (Value.int _ _)) _ _ _); k_dflt (refine' my_item_ints (by k_asm) (by k_mem) (by (first | assumption | exact IntsAre.append (by assumption) (.cons _ _ .nil))) (by (((try walk_at "my clear"); first | omega | (simp only [List.length_append, List.length_cons, List.length_nil]; omega)))) (by (((try walk_at "my clear"); first | omega | (simp only [List.length_append, List.length_cons, List.length_nil]; omega)))) (by (((try walk_at "my clear"); first | omega | (simp only [List.length_append, List.length_cons, List.length_nil]; omega)))) ?_;  k_whole); intro _))) | ((with_reducible show wpAny _ _ (subscriptTail (PySem.Expr.Name _ _) (PySem.Expr.Name _ _) (Value.ref _) (Value.int _ _)) _ _ _); ((k_here; (with_reducible show wpAny _ _ (subscriptTail _ _ (Value.ref _) (Value.int _ _)) _ _ _); k_dflt (refine' my_item_ints (by k_asm) (by k_mem) (by assumption) (by omega) (by omega) (by omega) ?_;  k_whole); intro _))) | ((with_reducible show wpAny _ _ (call (Value.builtin "len") _) _ _ _); ((k_here; k_dflt (refine' my_len (by k_asm) (by k_mem) (by omega) ?_;  k_whole); intro _ _))) | ((with_reducible show wpAny _ _ (subscriptTail (PySem.Expr.Name _ _) (PySem.Expr.BinOp _ _ _ _) (Value.ref _) (Value.int _ _)) _ _ _); ((k_here; (with_reducible show wpAny _ _ (subscriptTail _ _ (Value.ref _) (Value.int _ _)) _ _ _); k_dflt (refine' my_item_ints (by k_asm) (by k_mem) (by assumption) (by (((try walk_at "my clear"); first | omega | (simp only [List.length_append, List.length_cons, List.length_nil]; omega)))) (by (((try walk_at "my clear"); first | omega | (simp only [List.length_append, List.length_cons, List.length_nil]; omega)))) (by (((try walk_at "my clear"); first | omega | (simp only [List.length_append, List.length_cons, List.length_nil]; omega)))) ?_;  k_whole); intro _))) | walk_at "mo"))))
    refine' use_says (by k_asm) (by k_asm) (by k_asm) ?uN8 (by k_asm) (by first | exact rfl | assumption) ?uC8 ?uD8 ?uU8 ?uR8
    case uN8 => k_asm
    case uC8 => exact says_pieces _ _ _ _ _ _ _ (.head _) (by assumption) (hr.take (by omega)) (by omega) ⟨U1', U2', w1, w2, fun p hp => .tail _ (.tail _ (List.mem_append_left _ hp)), fun p hp => .tail _ (.tail _ (List.mem_append_right _ (List.mem_append_left _ hp)))⟩
    case uD8 => ktr_room
    case uU8 => ktr_units
    rintro v h' tk' news' hJz
    refine gz2 v news' ?_
    intro Gz hGz
    obtain ⟨rfl, tp, rfl⟩ := hJz
    refine hGz _ _ ?_
    clear hGz Gz
    rintro F11 N11
    dsimp only
    (repeat' (first | ((( (fail_if_success with_reducible first | refine st0 ?_ | refine st1 ?_ | refine st2 ?_ | refine st3 ?_))); (fail_if_success with_reducible first | refine st4 ?_ | refine st5 ?_ | refine st7 ?_ | refine st6 ?_ | refine st8 ?_ | refine st9 ?_); (first | ((with_reducible show wpAny _ _ (subscriptTail (PySem.Expr.Name _ _) (PySem.Expr.Name _ _) (Value.ref _) (Value.int _ _)) _ _ _); ((k_here; (with_reducible show wpAny _ _ (subscriptTail _ _ (Value.ref _) (Value.int _ _)) _ _ _); k_dflt (refine' my_item_ints (by k_asm) (by k_mem) (by (first | assumption | exact IntsAre.append (by assumption) (.cons _ _ .nil))) (by (((try walk_at "my clear"); first | omega | (simp only [List.length_append, List.length_cons, List.length_nil]; omega)))) (by (((try walk_at "my clear"); first | omega | (simp only [List.length_append, List.length_cons, List.length_nil]; omega)))) (by (((try walk_at "my clear"); first | omega | (simp only [List.length_append, List.length_cons, List.length_nil]; omega)))) ?_;  k_whole); intro _))) | ((with_reducible show wpAny _ _ (subscriptTail (PySem.Expr.Name _ _) (PySem.Expr.Name _ _) (Value.ref _) (Value.int _ _)) _ _ _); ((k_here; (with_reducible show wpAny _ _ (subscriptTail _ _ (Value.ref _) (Value.int _ _)) _ _ _); k_dflt (refine' my_item_ints (by k_asm) (by k_mem) (by assumption) (by omega) (by omega) (by omega) ?_;  k_whole); intro _))) | ((with_reducible show wpAny _ _ (call (Value.builtin "len") _) _ _ _); ((k_here; k_dflt (refine' my_len (by k_asm) (by k_mem) (by omega) ?_;  k_whole); intro _ _))) | ((with_reducible show wpAny _ _ (subscriptTail (PySem.Expr.Name _ _) (PySem.Expr.BinOp _ _ _ _) (Value.ref _) (Value.int _ _)) _ _ _); ((k_here; (with_reducible show wpAny _ _ (subscriptTail _ _ (Value.ref _) (Value.int _ _)) _ _ _); k_dflt (refine' my_item_ints (by k_asm) (by k_mem) (by assumption) (by (((try walk_at "my clear"); first | omega | (simp only [List.length_append, List.length_cons, List.length_nil]; omega)))) (by (((try walk_at "my clear"); first | omega | (simp only [List.length_append, List.length_cons, List.length_nil]; omega)))) (by (((try walk_at "my clear"); first | omega | (simp only [List.length_append, List.length_cons, List.length_nil]; omega)))) ?_;  k_whole); intro _))) | walk_at "mo"))))
    refine' use_says (by k_asm) (by k_asm) (by k_asm) ?uN9 (by k_asm) (by first | exact rfl | assumption) ?uC9 ?uD9 ?uU9 ?uR9
    case uN9 => k_asm
    case uC9 => exact says_least _ _ _ _ _ (.head _) (by assumption) (hr.take (by omega)) (by rw [List.length_take]; omega)
    case uD9 => ktr_room
    case uU9 => ktr_units
    rintro v h' tk' news' hJz
    refine gz2 v news' ?_
    intro Gz hGz
    obtain ⟨rfl, tp, rfl⟩ := hJz
    refine hGz _ _ ?_
    clear hGz Gz
    rintro F12 N12
    obtain ⟨k9, hk9⟩ : ∃ k9, ns.length - 1 - i = k9 + 1 := ⟨ns.length - 1 - i - 1, by omega⟩
    have hk10 : ns.length - 1 - (i + 1) = k9 := by omega
    have z1 : (1 + (i : Int)).toNat = 1 + i := by omega
    have z2 : (1 + (i : Int) - 1).toNat = 1 + i - 1 := by omega
    have z3 : (1 + (i : Int) + 1).toNat = 1 + i + 1 := by omega
    have hgo2 := hgo
    rw [hk9] at hgo2
    simp only [oneGo] at hgo2
    dsimp only
    (repeat' (first | ((( (fail_if_success with_reducible first | refine st0 ?_ | refine st1 ?_ | refine st2 ?_ | refine st3 ?_))); (fail_if_success with_reducible first | refine st4 ?_ | refine st5 ?_ | refine st7 ?_ | refine st6 ?_ | refine st8 ?_ | refine st9 ?_); (first | ((with_reducible show wpAny _ _ (subscriptTail (PySem.Expr.Name _ _) (PySem.Expr.Name _ _) (Value.ref _) (Value.int _ _)) _ _ _); ((k_here; (with_reducible show wpAny _ _ (subscriptTail _ _ (Value.ref _) (Value.int _ _)) _ _ _); k_dflt (refine' my_item_ints (by k_asm) (by k_mem) (by (first | assumption | exact IntsAre.append (by assumption) (.cons _ _ .nil))) (by (((try walk_at "my clear"); first | omega | (simp only [List.length_append, List.length_cons, List.length_nil]; omega)))) (by (((try walk_at "my clear"); first | omega | (simp only [List.length_append, List.length_cons, List.length_nil]; omega)))) (by (((try walk_at "my clear"); first | omega | (simp only [List.length_append, List.length_cons, List.length_nil]; omega)))) ?_;  k_whole); intro _))) | ((with_reducible show wpAny _ _ (subscriptTail (PySem.Expr.Name _ _) (PySem.Expr.Name _ _) (Value.ref _) (Value.int _ _)) _ _ _); ((k_here; (with_reducible show wpAny _ _ (subscriptTail _ _ (Value.ref _) (Value.int _ _)) _ _ _); k_dflt (refine' my_item_ints (by k_asm) (by k_mem) (by assumption) (by omega) (by omega) (by omega) ?_;  k_whole); intro _))) | ((with_reducible show wpAny _ _ (call (Value.builtin "len") _) _ _ _); ((k_here; k_dflt (refine' my_len (by k_asm) (by k_mem) (by omega) ?_;  k_whole); intro _ _))) | ((with_reducible show wpAny _ _ (subscriptTail (PySem.Expr.Name _ _) (PySem.Expr.BinOp _ _ _ _) (Value.ref _) (Value.int _ _)) _ _ _); ((k_here; (with_reducible show wpAny _ _ (subscriptTail _ _ (Value.ref _) (Value.int _ _)) _ _ _); k_dflt (refine' my_item_ints (by k_asm) (by k_mem) (by assumption) (by (((try walk_at "my clear"); first | omega | (simp only [List.length_append, List.length_cons, List.length_nil]; omega)))) (by (((try walk_at "my clear"); first | omega | (simp only [List.length_append, List.length_cons, List.length_nil]; omega)))) (by (((try walk_at "my clear"); first | omega | (simp only [List.length_append, List.length_cons, List.length_nil]; omega)))) ?_;  k_whole); intro _))) | walk_at "mo"))))
    · rename_i q1 q2
      simp only [z1, z2, z3] at q2
      rw [if_pos ⟨q1, q2⟩] at hgo2
      rw [← hgo2] at hret
      unfold TurnTo
      dsimp only
      (repeat' (first | ((( (fail_if_success with_reducible first | refine st0 ?_ | refine st1 ?_ | refine st2 ?_ | refine st3 ?_))); (fail_if_success with_reducible first | refine st4 ?_ | refine st5 ?_ | refine st7 ?_ | refine st6 ?_ | refine st8 ?_ | refine st9 ?_); (first | ((with_reducible show wpAny _ _ (subscriptTail (PySem.Expr.Name _ _) (PySem.Expr.Name _ _) (Value.ref _) (Value.int _ _)) _ _ _); ((k_here; (with_reducible show wpAny _ _ (subscriptTail _ _ (Value.ref _) (Value.int _ _)) _ _ _); k_dflt (refine' my_item_ints (by k_asm) (by k_mem) (by (first | assumption | exact IntsAre.append (by assumption) (.cons _ _ .nil))) (by (((try walk_at "my clear"); first | omega | (simp only [List.length_append, List.length_cons, List.length_nil]; omega)))) (by (((try walk_at "my clear"); first | omega | (simp only [List.length_append, List.length_cons, List.length_nil]; omega)))) (by (((try walk_at "my clear"); first | omega | (simp only [List.length_append, List.length_cons, List.length_nil]; omega)))) ?_;  k_whole); intro _))) | ((with_reducible show wpAny _ _ (subscriptTail (PySem.Expr.Name _ _) (PySem.Expr.Name _ _) (Value.ref _) (Value.int _ _)) _ _ _); ((k_here; (with_reducible show wpAny _ _ (subscriptTail _ _ (Value.ref _) (Value.int _ _)) _ _ _); k_dflt (refine' my_item_ints (by k_asm) (by k_mem) (by assumption) (by omega) (by omega) (by omega) ?_;  k_whole); intro _))) | ((with_reducible show wpAny _ _ (call (Value.builtin "len") _) _ _ _); ((k_here; k_dflt (refine' my_len (by k_asm) (by k_mem) (by omega) ?_;  k_whole); intro _ _))) | ((with_reducible show wpAny _ _ (subscriptTail (PySem.Expr.Name _ _) (PySem.Expr.BinOp _ _ _ _) (Value.ref _) (Value.int _ _)) _ _ _); ((k_here; (with_reducible show wpAny _ _ (subscriptTail _ _ (Value.ref _) (Value.int _ _)) _ _ _); k_dflt (refine' my_item_ints (by k_asm) (by k_mem) (by assumption) (by (((try walk_at "my clear"); first | omega | (simp only [List.length_append, List.length_cons, List.length_nil]; omega)))) (by (((try walk_at "my clear"); first | omega | (simp only [List.length_append, List.length_cons, List.length_nil]; omega)))) (by (((try walk_at "my clear"); first | omega | (simp only [List.length_append, List.length_cons, List.length_nil]; omega)))) ?_;  k_whole); intro _))) | walk_at "mo"))))
      exact hret _ _ _ _ ⟨rfl, U1', U2', rfl, w1, w2⟩ (by k_asm) (news_sub (by k_asm) (fun p hp => by
        simp only [List.mem_append, List.mem_cons] at *
        rcases hp with h | h | h <;> simp [h]))
    · rename_i q1 q2
      simp only [z1, z2, z3] at q2
      rw [if_neg (fun hh => by rw [q2] at hh; exact absurd hh.2 (by decide))] at hgo2
      refine TurnTo.intro (by k_asm) (by k_asm) (fun p hp => ?_) x3 ⟨U1', U2', _, tp, rfl, .inr w1, .inr w2, fun _ => ⟨w1, w2⟩, by ((repeat' (first | exact all_nil | refine all_cons rfl ?_))), ?_⟩
      · simp only [List.mem_append, List.mem_cons] at *
        rcases hp with h | h | h | h <;> simp [h]
      · rw [hk10, z3, ← hgo2, Nat.add_assoc]
    · rename_i q1
      rw [if_neg (fun hh => q1 hh.1)] at hgo2
      refine TurnTo.intro (by k_asm) (by k_asm) (fun p hp => ?_) x3 ⟨U1', U2', _, tp, rfl, .inr w1, .inr w2, fun _ => ⟨w1, w2⟩, by ((repeat' (first | exact all_nil | refine all_cons rfl ?_))), ?_⟩
      · simp only [List.mem_append, List.mem_cons] at *
        rcases hp with h | h | h | h <;> simp [h]
      · rw [hk10, z3, ← hgo2, Nat.add_assoc]
  · rintro m₁ nx h9 tk9 hJz
    refine gz1 nx ?_
    intro Gz hGz
    obtain ⟨U1, U2, le, tle, rfl, u1, u2, hw, hN, hgo⟩ := hJz
    refine hGz _ ?_
    clear hGz Gz
    rintro F9 N9
    (repeat' (first | ((( (fail_if_success with_reducible first | refine st0 ?_ | refine st1 ?_ | refine st2 ?_ | refine st3 ?_))); (fail_if_success with_reducible first | refine st4 ?_ | refine st5 ?_ | refine st7 ?_ | refine st6 ?_ | refine st8 ?_ | refine st9 ?_); (first | ((with_reducible show wpAny _ _ (subscriptTail (PySem.Expr.Name _ _) (PySem.Expr.Name _ _) (Value.ref _) (Value.int _ _)) _ _ _); ((k_here; (with_reducible show wpAny _ _ (subscriptTail _ _ (Value.ref _) (Value.int _ _)) _ _ _); k_dflt (refine' my_item_ints (by k_asm) (by k_mem) (by (first | assumption | exact IntsAre.append (by assumption) (.cons _ _ .nil))) (by (((try walk_at "my clear"); first | omega | (simp only [List.length_append, List.length_cons, List.length_nil]; omega)))) (by (((try walk_at "my clear"); first | omega | (simp only [List.length_append, List.length_cons, List.length_nil]; omega)))) (by (((try walk_at "my clear"); first | omega | (simp only [List.length_append, List.length_cons, List.length_nil]; omega)))) ?_;  k_whole); intro _))) | ((with_reducible show wpAny _ _ (subscriptTail (PySem.Expr.Name _ _) (PySem.Expr.Name _ _) (Value.ref _) (Value.int _ _)) _ _ _); ((k_here; (with_reducible show wpAny _ _ (subscriptTail _ _ (Value.ref _) (Value.int _ _)) _ _ _); k_dflt (refine' my_item_ints (by k_asm) (by k_mem) (by assumption) (by omega) (by omega) (by omega) ?_;  k_whole); intro _))) | ((with_reducible show wpAny _ _ (call (Value.builtin "len") _) _ _ _); ((k_here; k_dflt (refine' my_len (by k_asm) (by k_mem) (by omega) ?_;  k_whole); intro _ _))) | ((with_reducible show wpAny _ _ (subscriptTail (PySem.Expr.Name _ _) (PySem.Expr.BinOp _ _ _ _) (Value.ref _) (Value.int _ _)) _ _ _); ((k_here; (with_reducible show wpAny _ _ (subscriptTail _ _ (Value.ref _) (Value.int _ _)) _ _ _); k_dflt (refine' my_item_ints (by k_asm) (by k_mem) (by assumption) (by (((try walk_at "my clear"); first | omega | (simp only [List.length_append, List.length_cons, List.length_nil]; omega)))) (by (((try walk_at "my clear"); first | omega | (simp only [List.length_append, List.length_cons, List.length_nil]; omega)))) (by (((try walk_at "my clear"); first | omega | (simp only [List.length_append, List.length_cons, List.length_nil]; omega)))) ?_;  k_whole); intro _))) | walk_at "mo"))))
    rw [Nat.sub_self] at hgo
    have h0 : oneSum ns = true := hgo.symm
    rw [h0] at hret
    obtain ⟨w1, w2⟩ := hw (by omega)
    exact hret _ _ _ _ ⟨rfl, U1, U2, rfl, w1, w2⟩ (by k_asm) (by k_asm)
end Mine
-- C15
namespace Mine
section
variable {prog : Program} {w : World} {A : Around} {E : Value → Shared → Prop} {s : Shared} {h₀ : Heap} {L sa : Addr} {m : Str → Option Value} {news : List (Addr × Obj)} {so : Obj}
theorem my_len_set {knd : KeyKind prog w Int} {S : Int → Bool} {n : Nat} {Q : Bool → Shared → Prop} (N : News h₀ L s.heap news) (hm : (sa, so) ∈ news) (hso : so.SetObjOf knd S n) (hn : n < 1000)
    (h : Q (decide (0 < n)) { s with toks := s.toks + 1 + 1 }) : wpAny (model prog w) A (truthy (.ref sa)) Q E s := by
  obtain ⟨hex, es, ep, t, hd, _, _, rfl, hf⟩ := hso
  have ho := (N _ hm).1
  have hT : s.TypeIs (.ref sa) "set" := ⟨so, ho, hex.1⟩
  have hne : ((es.size : Int) != 0) = decide (0 < es.size) := by
    rcases Nat.eq_zero_or_pos es.size with e | e
    · rw [e]; rfl
    · rw [decide_eq_true e]
      exact bne_iff_ne.mpr (by omega)
  have key : wpAny (model prog w) A (runValue (.builtin "len" ⟨[.ref sa], []⟩)) (fun r s' => r = .int es.size (s.toks + 1) ∧ Q (decide (0 < es.size)) s') E s := by
    refine wpAny_runValue (codeAny_builtin entry_len ?_)
    rw [Around.under_plainId plain_len _]
    exact wpAny_mono (wpAny_len_body_set (Q := fun r s' => r = .int es.size (s.toks + 1) ∧ Q (decide (0 < es.size)) s') ho hex hd hf (by omega) ⟨rfl, h⟩)
      (fun fin s' h' => by obtain ⟨r, rfl, hq⟩ := h'; exact hq) fun _ _ e => e
  unfold truthy
  first
    | refine wpAny_bind (wpAny_callSpecial?_none (name := Str.ofString "__bool__") hT noBool_set ?_)
    | refine wpAny_bind (wpAny_pure (wpAny_bind (wpAny_callSpecial?_none (name := Str.ofString "__bool__") hT noBool_set ?_)))
  first
    | refine wpAny_bind (wpAny_specialOf (name := Str.ofString "__len__") hT F.slot_set_len.lookup ?_)
    | refine wpAny_bind (wpAny_pure (wpAny_bind (wpAny_specialOf (name := Str.ofString "__len__") hT F.slot_set_len.lookup ?_)))
  first
    | exact wpAny_bind (wpAny_mono key (fun r s' h' => by obtain ⟨rfl, hq⟩ := h'; exact wpAny_pure (hne ▸ hq)) fun _ _ e => e)
    | exact wpAny_bind (wpAny_pure (wpAny_bind (wpAny_mono key (fun r s' h' => by obtain ⟨rfl, hq⟩ := h'; exact wpAny_pure (hne ▸ hq)) fun _ _ e => e)))
theorem my_get_pop {knd : KeyKind prog w Int} {S : Int → Bool} {n : Nat} {pl : Sem Bool} {Q : Value × List Value → Shared → Prop} (N : News h₀ L s.heap news) (hm : (sa, so) ∈ news) (hso : so.SetObjOf knd S n) (hn : n < 1000)
    (h : Q (.builtin "set.pop", [.ref sa]) s) : wpAny (model prog w) A (getMethod (.ref sa) "pop" pl) Q E s := by
  have hS := hso.setOf (N _ hm).1 (by unfold scanBound; omega)
  exact getMethod_builtin hS.typeIs F.plainAttrs_set F.slot_set_pop F.type_set_pop hS.noDict h
theorem wpAny_choose1 {M : Model} {src : Source} {Q : Nat → Shared → Prop} (h : Q 0 { s with drawn := s.drawn.bump src }) : wpAny M A (choose src 1) Q E s := fun Γ p _ => by
  show Sem.wp M Γ (Sem.choose src 1 _) _ _ p s
  rw [Sem.wp_choose]
  refine ⟨by decide, ?_⟩
  rw [Nat.mod_one]
  exact h
theorem my_pop {knd : KeyKind prog w Int} {S : Int → Bool} {Q : Value → Shared → Prop} (FF : Fr h₀ L s.heap m) (N : News h₀ L s.heap ((sa, so) :: news)) (hap : ∀ p ∈ news, p.1 ≠ sa) (hso : so.SetObjOf knd S 1)
    (h : ∀ h' dr k v so', S k = true → knd.is k v = true → Fr h₀ L h' m → News h₀ L h' ((sa, so') :: news) → so'.SetObjOf knd (fun _ => false) 0 → Q v { s with heap := h', drawn := dr }) :
    wpAny (model prog w) A (call (.builtin "set.pop") [.ref sa]) Q E s := by
  have hm := N _ (.head _)
  have hT : s.TypeIs (.ref sa) "set" := ⟨so, hm.1, hso.1.1⟩
  obtain ⟨hex, es, ep, t, hd, hel, hmem, h1, hf⟩ := hso
  obtain ⟨⟨e0⟩, rfl⟩ : ∃ l, es = ⟨l⟩ := ⟨es.toList, rfl⟩
  · simp at h1
  rename_i x r
  have hr : r = [] := by simpa using h1
  subst hr
  obtain ⟨hx, v⟩ := x
  refine wpAny_call_entry F.slot_set_pop hT F.entry_set_pop ?_ (F.args_set_pop_1 _)
  unfold Builtin.«set.pop» Builtin.Frozenset.noArgs
  simp only [List.isEmpty_nil, bind_assoc]
  unfold Builtin.Frozenset.addrOf
  refine wpAny_bind (wpAny_pure ?_)
  try dsimp only
  try refine wpAny_bind (wpAny_pure ?_)
  try dsimp only
  have hp : t.place.size = 1 := by
    simp only [SetTable.fits, Bool.and_eq_true, beq_iff_eq, decide_eq_true_eq] at hf
    exact hf.1
  have hfl : t.fill ≤ t.mask := by
    simp only [SetTable.fits, Bool.and_eq_true, beq_iff_eq, decide_eq_true_eq] at hf
    exact hf.2
  have hpp : t.popPlace = some 0 := by
    unfold SetTable.popPlace
    rw [if_neg (by simp [Array.isEmpty, hp])]
    dsimp only
    split
    · congr 1; omega
    · rfl
  have hff : (t.popped 0).fits 0 = true := by
    have h0 : t.place[0]? = some t.place[0] := by simp [hp]
    unfold SetTable.popped SetTable.drop
    rw [h0]
    simp only [SetTable.fits, SetTable.fill, Bool.and_eq_true, beq_iff_eq, decide_eq_true_eq] at hfl ⊢
    simp only [SetTable.eraseAt, SetTable.insertAt, Array.size_append, Array.size_extract, Array.size_push]
    constructor
    · omega
    · exact decide_eq_true (by omega)
  have hfin : ∀ dr, Q v { s with heap := s.heap.update sa (Obj.putSet #[] (t.popped 0)), drawn := dr } := fun dr => by
    obtain ⟨⟨k, hk, hh⟩, hsc⟩ := hel.head
    have hs := SetOf_store (knd := knd) (S' := fun _ => false) hm.1 hex hd (es' := #[]) (t' := t.popped 0) (fun e he => by simp at he) (fun k => by simp) (by decide) hff
    obtain ⟨so', ho', hso'⟩ := hs.2.objOf
    have hsb := Heap.SameBut.update s.heap sa (Obj.putSet #[] (t.popped 0))
    exact h _ dr k v so' ((hmem k).mpr ⟨_, .head _, hk⟩) hk (FF.change hsb hm.2.1 hm.2.2) (N.setIn (own := []) (fun _ h => nomatch h) hap hsb ho') hso'
  have hlast : ∀ dr A', wpAny (model prog w) A' (do
        storeSet sa (SetTable.eraseAt #[(hx, v)] 0) (t.popped 0)
        pure (some v)) (fun a s' => wpAny (model prog w) A' (match a with
            | some x => ret x
            | _ => do
              rule "set.pop.empty"
              raiseErrorWords "KeyError" "pop from an empty set") (fun fin s' => ∃ r, fin = .done (.ret r) ∧ Q r s') E s') E { s with drawn := dr } := fun dr A' =>
    wpAny_bind (wpAny_storeSet_of (s := { s with drawn := dr }) hm.1 hd (wpAny_pure (wpAny_pure ⟨_, rfl, hfin dr⟩)) (hz := Nat.zero_le _))
  refine wpAny_bind ?_
  unfold setPop
  refine wpAny_bind (wpAny_setState_of hm.1 hd hf ?_)
  dsimp only
  rw [hpp]
  dsimp only
  unfold setsByText
  refine wpAny_bind (wpAny_bind (wpAny_askSetting (wpAny_pure ?_)))
  dsimp only
  split
  · refine wpAny_bind (wpAny_choose1 ?_)
    exact hlast _ _
  · refine wpAny_bind ?_
    show wpAny _ _ (if (!t.led && decide ((#[(hx, v)] : Array (Int × Value)).size > 1)) = true then _ else _) _ _ _
    rw [if_neg (by simp)]
    refine wpAny_pure ?_
    refine wpAny_bind (wpAny_pure ?_)
    exact hlast _ _
theorem my_pop_int {S : Int → Bool} {Q : Value → Shared → Prop} (FF : Fr h₀ L s.heap m) (N : News h₀ L s.heap ((sa, so) :: news)) (hap : ∀ p ∈ news, p.1 ≠ sa) (hso : so.SetObjOf (PySem.intKind prog w) S 1)
    (h : ∀ h' dr k t so', S k = true → Fr h₀ L h' m → News h₀ L h' ((sa, so') :: news) → so'.SetObjOf (PySem.intKind prog w) (fun _ => false) 0 → Q (.int k t) { s with heap := h', drawn := dr }) :
    wpAny (model prog w) A (call (.builtin "set.pop") [.ref sa]) Q E s :=
  my_pop FF N hap hso fun h' dr k v so' hS hk F' N' hs' => by
    obtain ⟨t, rfl⟩ := Value.isInt_shape hk
    exact h h' dr k t so' hS F' N' hs'
end
end Mine
-- C16
namespace Mine
/-- as Says; the drawn part of the state may change too (a set's pop asks for an order) -/
noncomputable def SaysD (d u : Nat) (f : Addr) (vs : List Value) (news : Led) (R : Value → Led → Prop) : Prop :=
  ∀ (w : World) (p : Program) (loose : List Str) (mean : ExcName → Option Value) (mg mb : Str → Option Value)
    (dp un : Nat) (gd : Option (List Code)) (cn : Str) (cs : Scope) (a : Addr) (ccd : Value) (cl : List (Str × Addr)) (outer : List Env) (A₀ : Around) (base h₀ : Heap) (L : Addr) (m : Str → Option Value) (s : Shared) (Q E : Value → Shared → Prop),
    Below A₀ base outer h₀ → Fr h₀ L s.heap m → (Mine.hd.heap_39 w.params).In h₀ → News h₀ L s.heap news → Top p loose mean mg mb h₀ → cs.kind = .function → dp + d < recursionLimit → un + u < cLine →
    (∀ v h' tk' dr' news', R v news' → Fr h₀ L h' m → News h₀ L h' news' → Q v { s with heap := h', toks := tk', drawn := dr' }) →
    wpAny (model PySem.Challenge.rw_sn0098_01.row.prog w) (ktrTop dp un gd cn cs L a ccd cl outer) (call (.ref f) vs) Q E s
theorem use_saysD {d u : Nat} {f : Addr} {vs : List Value} {news : Led} {R : Value → Led → Prop} {w : World} {p : Program} {loose : List Str} {mean : ExcName → Option Value} {mg mb : Str → Option Value}
    {dp un : Nat} {gd : Option (List Code)} {cn : Str} {cs : Scope} {a : Addr} {ccd : Value} {cl : List (Str × Addr)} {outer : List Env} {A₀ : Around} {base h₀ : Heap} {L : Addr} {m : Str → Option Value} {s : Shared} {Q E : Value → Shared → Prop}
    (B : Below A₀ base outer h₀) (F : Fr h₀ L s.heap m) (X : (Mine.hd.heap_39 w.params).In h₀) (N : News h₀ L s.heap news) (T : Top p loose mean mg mb h₀) (hk : cs.kind = .function) (C : SaysD d u f vs news R) (hd : dp + d < recursionLimit) (hu : un + u < cLine)
    (ret : ∀ v h' tk' dr' news', R v news' → Fr h₀ L h' m → News h₀ L h' news' → Q v { s with heap := h', toks := tk', drawn := dr' }) :
    wpAny (model PySem.Challenge.rw_sn0098_01.row.prog w) (ktrTop dp un gd cn cs L a ccd cl outer) (call (.ref f) vs) Q E s := C _ _ _ _ _ _ _ _ _ _ _ _ _ _ _ _ _ _ _ _ _ _ _ B F X N T hk hd hu ret
end Mine
local macro_rules | `(tactic| walk_at "call builtin:set.pop") => `(tactic| (k_here; (with_reducible show wpAny _ _ (call (Value.builtin "set.pop") [Value.ref _]) _ _ _); k_dflt (refine' my_pop_int ?F ?N ?u ?s ?_; (case F => k_asm); (case N => k_asm); (case u => first | k_all | (intro p hp; simp only [List.mem_cons] at hp; trace_state; fail)); (case s => assumption)); intro h' dr' k' t' so' hk' F' N' hs'; (try simp only [Bool.false_or, decide_eq_true_eq] at hk'); (try subst k')))
namespace Mine
theorem says_cp (n : Int) (t1 t2 t3 : Tok) (fr : Led) (h0 : 0 ≤ n) (h1 : n ≤ 2048) :
    SaysD 20 100 46 [.int n t1, .int 5 t2, .int 2048 t3] fr (fun v news => ∃ d, v = .ref d ∧ news = fr) := by
  ((have hfill : Mine.hd.heap_39 = Mine.hd.heap_39 ∧ PySem.Challenge.rw_sn0098_01 = PySem.Challenge.rw_sn0098_01 := (by k_fill; exact ⟨rfl, rfl⟩)); clear hfill)
  unfold SaysD
  intros
  rename_i hret
  refine wpAny_call ?_
  k_dflt walk_at "my enter"
  (repeat' (first | ((( (fail_if_success with_reducible first | refine st0 ?_ | refine st1 ?_ | refine st2 ?_ | refine st3 ?_))); (fail_if_success with_reducible first | refine st4 ?_ | refine st5 ?_ | refine st7 ?_ | refine st6 ?_ | refine st8 ?_ | refine st9 ?_); (first | ((k_here; (with_reducible show wpAny _ _ (truthy (Value.ref _)) _ _ _); k_dflt (refine' my_len_set (knd := PySem.intKind _ _) (by k_asm) (by k_mem) (by assumption) (by omega) ?_;  k_whole))) | ((with_reducible show wpAny _ _ (truthy (Value.ref _)) _ _ _); ((k_here; k_dflt (refine' my_truthy (by k_asm) (by k_mem) (by omega) ?_;  k_whole); intro _; dsimp only))) | ((k_here; (with_reducible show wpAny _ _ (getMethod (Value.ref _) (Str.ofString "pop") _) _ _ _); k_dflt (refine' my_get_pop (knd := PySem.intKind _ _) (by k_asm) (by k_mem) (by assumption) (by omega) ?_;  k_whole))) | walk_at "mo"))))
  k_dflt (refine whl_start 100 ?_)
  (repeat' (first | ((( (fail_if_success with_reducible first | refine st0 ?_ | refine st1 ?_ | refine st2 ?_ | refine st3 ?_))); (fail_if_success with_reducible first | refine st4 ?_ | refine st5 ?_ | refine st7 ?_ | refine st6 ?_ | refine st8 ?_ | refine st9 ?_); (first | ((k_here; (with_reducible show wpAny _ _ (truthy (Value.ref _)) _ _ _); k_dflt (refine' my_len_set (knd := PySem.intKind _ _) (by k_asm) (by k_mem) (by assumption) (by omega) ?_;  k_whole))) | ((with_reducible show wpAny _ _ (truthy (Value.ref _)) _ _ _); ((k_here; k_dflt (refine' my_truthy (by k_asm) (by k_mem) (by omega) ?_;  k_whole); intro _; dsimp only))) | ((k_here; (with_reducible show wpAny _ _ (getMethod (Value.ref _) (Str.ofString "pop") _) _ _ _); k_dflt (refine' my_get_pop (knd := PySem.intKind _ _) (by k_asm) (by k_mem) (by assumption) (by omega) ?_;  k_whole))) | walk_at "mo"))))
  exact hret _ _ _ _ _ ⟨_, rfl, rfl⟩ (by k_asm) (news_sub (by k_asm) (by (((try simp only [List.cons_append, List.nil_append]); (repeat' (first | exact List.forall_mem_nil _ | refine List.forall_mem_cons.mpr ⟨?_, ?_⟩)) <;> (first | k_mem | (intro _ _; k_mem))))))
end Mine
-- C17
namespace Mine
theorem slice_all (x : Str) : Txt.slice x (some 0) (some (x.length : Int)) = x := by
  have h := eq_of_beq (slice_closesL (x := x) (Int.le_refl 0) (Int.natCast_nonneg _) (Int.le_refl _))
  rw [h]
  obtain ⟨⟨l⟩⟩ := x
  simp [Str.length]
abbrev W48 := Warm 48 50 4 "_str_to_int_inner.<locals>.inner"
end Mine
namespace Mine
theorem says_sti (x : Str) (t1 : Tok) (v : Int) (tl fr : Led) (hlen : x.length ≤ 640) (hint : PySem.intText? x = some v) (hT : Tab 48 50 4 "_str_to_int_inner.<locals>.inner" tl fr) :
    SaysD 60 300 53 [.str x t1] (tl ++ fr) (fun r news => (Xx2 fun t tl' => Aa5 (r = .int v t) (news = (tl' ++ fr)) (Warm 48 50 4 "_str_to_int_inner.<locals>.inner" tl') ((Warm 48 50 4 "_str_to_int_inner.<locals>.inner" tl → tl' = tl)) ((∀ r ∈ tl', r ∈ tl ∨ r.1 = 48 ∨ ∀ q ∈ fr, q.1 < r.1)))) := by
  ((have hfill : Mine.hd.heap_39 = Mine.hd.heap_39 ∧ PySem.Challenge.rw_sn0098_01 = PySem.Challenge.rw_sn0098_01 := (by k_fill; exact ⟨rfl, rfl⟩)); clear hfill)
  unfold SaysD
  intros
  rename_i hret
  refine wpAny_call ?_
  k_dflt walk_at "my enterC"
  rename_i g1 L1 hp1 tk1 FG F B X T l1 l2 l3 l4 o1 o2 o3 o4 d1 d2 d3 d4 N
  replace d1 : o1.data = Data.cell none := d1
  replace d2 : o2.data = Data.cell none := d2
  replace d3 : o3.data = Data.cell none := d3
  replace d4 : o4.data = Data.cell (some (.str x t1)) := d4
  obtain ⟨m', F1⟩ := names_ex F [] all_nil
  clear F
  (repeat' (first | ((( (fail_if_success with_reducible first | refine st0 ?_ | refine st1 ?_ | refine st2 ?_ | refine st3 ?_))); (fail_if_success with_reducible first | refine st4 ?_ | refine st5 ?_ | refine st7 ?_ | refine st6 ?_ | refine st8 ?_ | refine st9 ?_); (first | ((with_reducible show wpAny _ _ (call (Value.builtin "len") _) _ _ _); ((k_here; k_dflt (refine' my_len (by k_asm) (by k_mem) (by omega) ?_;  k_whole); intro _ _))) | ((with_reducible show wpAny _ _ (subscriptTail (PySem.Expr.Name _ _) (PySem.Expr.Slice _ _ _ _) (Value.str _ _) (Value.ref _)) _ _ _); ((k_here; (with_reducible show wpAny _ _ (subscriptTail _ (PySem.Expr.Slice (some (PySem.Expr.Name _ _)) (some (PySem.Expr.Name _ _)) none _) (Value.str _ _) (Value.ref _)) _ _ _); k_dflt (refine' slice_strN_ss (hsz := (by (rw [sizeLine_eq]; omega))) (by k_asm) (by k_asm) ?_;  k_whole); intro _ _ _ _ _))) | ((k_here; (with_reducible show wpAny _ _ (call (Value.type "int") [Value.str _ _]) _ _ _); k_dflt (refine' KIN.call_text (by assumption) (by omega) ?_;  k_whole))) | walk_at "mo"))))
  rename_i h2 o3' F2 N2 d3'
  obtain ⟨oP, hP⟩ := hT.mem
  have hP := ltN (l1 _ (List.mem_append_left _ hP))
  refine nestDef_K rfl rfl rfl ?_
  refine nest_both (own := [(L1 + 1 + 1 + 1 + 1, o1), (L1 + 1 + 1 + 1, o2), (L1 + 1 + 1, o3'), (L1 + 1, o4)]) (tl := tl) (fr := fr) F2 (news_sub N2 ?_) T (codeHd_of_K X (codeHd52 _)) rfl hT ?_ ?_ rfl ?_
  · (((try simp only [List.cons_append, List.nil_append]); (repeat' (first | exact List.forall_mem_nil _ | refine List.forall_mem_cons.mpr ⟨?_, ?_⟩)) <;> (first | k_mem | (intro _ _; k_mem))))
  · intro p hp
    simp only [List.mem_cons, List.not_mem_nil, or_false] at hp
    rcases hp with rfl | rfl | rfl | rfl <;> k_ne
  · intro q hq r hr
    have := ltN (l1 r (List.mem_append_left _ hr))
    simp only [List.mem_cons, List.not_mem_nil, or_false] at hq
    rcases hq with rfl | rfl | rfl | rfl <;> k_ne
  intro f c' oc vs' t ctv doc h' tk tl' F3 N3 hW hc' e1 e2 hWW lf hap' hf' hnew
  have hnew' : ∀ r ∈ tl', r ∈ tl ∨ r.1 = 48 ∨ ∀ q ∈ fr, q.1 < r.1 := fun r hr => (hnew r hr).imp id fun h => h.imp id fun h q hq => h q (List.mem_append_right _ hq)
  have fI := ltN (lf _ (List.mem_append_left _ (.head _)))
  dsimp only at fI
  have oI : ∀ p ∈ tl' ++ fr, p.1 ≠ L1 + 1 + 1 + 1 := off_app (hap' _ (.tail _ (.head _))) fun p hp => Nat.ne_of_lt (l4 p (List.mem_append_right _ hp))
  have oW : ∀ p ∈ tl' ++ fr, p.1 ≠ L1 + 1 + 1 + 1 + 1 := off_app (hap' _ (.head _)) fun p hp => Nat.ne_of_lt (ltUp l4 p (List.mem_append_right _ hp))
  replace N3 := (show News _ _ _ ((f, _) :: (L1 + 1 + 1 + 1 + 1, _) :: (L1 + 1 + 1 + 1, _) :: (L1 + 1 + 1, _) :: (L1 + 1, _) :: (tl' ++ fr)) from N3)
  try k_fold
  have hC : CodeHd g1 52 48 := codeHd_of_K X (codeHd52 _)
  (repeat' (first | ((( (fail_if_success with_reducible first | refine st0 ?_ | refine st1 ?_ | refine st2 ?_ | refine st3 ?_))); (fail_if_success with_reducible first | refine st4 ?_ | refine st5 ?_ | refine st7 ?_ | refine st6 ?_ | refine st8 ?_ | refine st9 ?_); (first | ((with_reducible show wpAny _ _ (call (Value.builtin "len") _) _ _ _); ((k_here; k_dflt (refine' my_len (by k_asm) (by k_mem) (by omega) ?_;  k_whole); intro _ _))) | ((with_reducible show wpAny _ _ (subscriptTail (PySem.Expr.Name _ _) (PySem.Expr.Slice _ _ _ _) (Value.str _ _) (Value.ref _)) _ _ _); ((k_here; (with_reducible show wpAny _ _ (subscriptTail _ (PySem.Expr.Slice (some (PySem.Expr.Name _ _)) (some (PySem.Expr.Name _ _)) none _) (Value.str _ _) (Value.ref _)) _ _ _); k_dflt (refine' slice_strN_ss (hsz := (by (rw [sizeLine_eq]; omega))) (by k_asm) (by k_asm) ?_;  k_whole); intro _ _ _ _ _))) | ((k_here; (with_reducible show wpAny _ _ (call (Value.type "int") [Value.str _ _]) _ _ _); k_dflt (refine' KIN.call_text (by assumption) (by omega) ?_;  k_whole))) | walk_at "mo"))))
  refine' use_saysD (by k_asm) (by k_asm) (by k_asm) ?uN10 (by k_asm) (by first | exact rfl | assumption) ?uC10 ?uD10 ?uU10 ?uR10
  case uN10 => k_asm
  case uC10 => exact says_cp _ _ _ _ _ (by omega) (by omega)
  case uD10 => ktr_room
  case uU10 => ktr_units
  rintro vZ h9 tk9 dr9 nZ hJz
  refine gz2 vZ nZ ?_
  intro Gz hGz
  obtain ⟨D, rfl, rfl⟩ := hJz
  refine hGz _ _ ?_
  clear hGz Gz
  rintro F8 N8
  dsimp only
  (repeat' (first | ((( (fail_if_success with_reducible first | refine st0 ?_ | refine st1 ?_ | refine st2 ?_ | refine st3 ?_))); (fail_if_success with_reducible first | refine st4 ?_ | refine st5 ?_ | refine st7 ?_ | refine st6 ?_ | refine st8 ?_ | refine st9 ?_); (first | ((with_reducible show wpAny _ _ (call (Value.builtin "len") _) _ _ _); ((k_here; k_dflt (refine' my_len (by k_asm) (by k_mem) (by omega) ?_;  k_whole); intro _ _))) | ((with_reducible show wpAny _ _ (subscriptTail (PySem.Expr.Name _ _) (PySem.Expr.Slice _ _ _ _) (Value.str _ _) (Value.ref _)) _ _ _); ((k_here; (with_reducible show wpAny _ _ (subscriptTail _ (PySem.Expr.Slice (some (PySem.Expr.Name _ _)) (some (PySem.Expr.Name _ _)) none _) (Value.str _ _) (Value.ref _)) _ _ _); k_dflt (refine' slice_strN_ss (hsz := (by (rw [sizeLine_eq]; omega))) (by k_asm) (by k_asm) ?_;  k_whole); intro _ _ _ _ _))) | ((k_here; (with_reducible show wpAny _ _ (call (Value.type "int") [Value.str _ _]) _ _ _); k_dflt (refine' KIN.call_text (by assumption) (by omega) ?_;  k_whole))) | walk_at "mo"))))
  refine wpAny_call ?_
  k_dflt walk_at "my enterN"
  have hint2 : PySem.intText? (Txt.slice x (some 0) (some (x.length : Int))) = some v := by rw [slice_all]; exact hint
  have hlen2 : (Txt.slice x (some 0) (some (x.length : Int))).length ≤ 640 := by rw [slice_all]; exact hlen
  (repeat' (first | ((( (fail_if_success with_reducible first | refine st0 ?_ | refine st1 ?_ | refine st2 ?_ | refine st3 ?_))); (fail_if_success with_reducible first | refine st4 ?_ | refine st5 ?_ | refine st7 ?_ | refine st6 ?_ | refine st8 ?_ | refine st9 ?_); (first | ((with_reducible show wpAny _ _ (call (Value.builtin "len") _) _ _ _); ((k_here; k_dflt (refine' my_len (by k_asm) (by k_mem) (by omega) ?_;  k_whole); intro _ _))) | ((with_reducible show wpAny _ _ (subscriptTail (PySem.Expr.Name _ _) (PySem.Expr.Slice _ _ _ _) (Value.str _ _) (Value.ref _)) _ _ _); ((k_here; (with_reducible show wpAny _ _ (subscriptTail _ (PySem.Expr.Slice (some (PySem.Expr.Name _ _)) (some (PySem.Expr.Name _ _)) none _) (Value.str _ _) (Value.ref _)) _ _ _); k_dflt (refine' slice_strN_ss (hsz := (by (rw [sizeLine_eq]; omega))) (by k_asm) (by k_asm) ?_;  k_whole); intro _ _ _ _ _))) | ((k_here; (with_reducible show wpAny _ _ (call (Value.type "int") [Value.str _ _]) _ _ _); k_dflt (refine' KIN.call_text (by assumption) (by omega) ?_;  k_whole))) | walk_at "mo"))))
  exact hret _ _ _ _ (tl' ++ fr) ⟨_, tl', rfl, rfl, hW, hWW, hnew'⟩ (by k_asm) (news_sub (by k_asm) (by (((try simp only [List.cons_append, List.nil_append]); (repeat' (first | exact List.forall_mem_nil _ | refine List.forall_mem_cons.mpr ⟨?_, ?_⟩)) <;> (first | k_mem | (intro _ _; k_mem))))))
end Mine
-- C18
namespace Mine
theorem setGen_toks (s : Shared) (g : Nat) (st : GenState) : (s.setGen g st).toks = s.toks := rfl
theorem runs_toks {M : Model} {Γ : PySem.Ctx} {p : Pos} {t : Sem Fin} {fs : List Frame} {s s' : Shared} {e : End} (h : Runs M Γ p t fs s e s') : s.toks ≤ s'.toks := by
  induction h <;> (try simp only [setGen_toks] at *) <;> (try trivial) <;> omega
theorem wakes_toks {M : Model} {Γ : PySem.Ctx} {p : Pos} {g : Nat} {r : Resume} {s s' : Shared} {res : GenResult} (h : Wakes M Γ p g r s res s') : s.toks ≤ s'.toks := by
  unfold Wakes at h
  split at h
  · exact h.elim
  · split at h
    · refine gz0 fun Gz hGz => ?_
      obtain ⟨e, s₁, h1, _, _, rfl⟩ := h
      refine hGz ?_
      clear hGz Gz
      have h2 : (s.setGen g .running).toks ≤ s₁.toks := runs_toks h1
      exact h2
    · refine gz0 fun Gz hGz => ?_
      obtain ⟨_, rfl⟩ := h
      refine hGz ?_
      clear hGz Gz
      exact Nat.le_refl _
    · refine gz0 fun Gz hGz => ?_
      obtain ⟨_, rfl⟩ := h
      refine hGz ?_
      clear hGz Gz
      exact Nat.le_refl s.toks
  · refine gz0 fun Gz hGz => ?_
    obtain ⟨e, s₁, h1, _, _, rfl⟩ := h
    refine hGz ?_
    clear hGz Gz
    have h2 : (s.setGen g .running).toks ≤ s₁.toks := runs_toks h1
    exact h2
  · refine gz0 fun Gz hGz => ?_
    obtain ⟨_, rfl⟩ := h
    refine hGz ?_
    clear hGz Gz
    exact Nat.le_refl _
  · refine gz0 fun Gz hGz => ?_
    obtain ⟨_, rfl⟩ := h
    refine hGz ?_
    clear hGz Gz
    exact Nat.le_refl _
theorem wp_toks {α : Type} {M : Model} {Γ : PySem.Ctx} {Q : α → Pos → Shared → Prop} {E : Value → Pos → Shared → Prop} {n : Nat} (t : Sem α) (p : Pos) (s : Shared) (hn : n ≤ s.toks)
    (h : Sem.wp M Γ t (fun a p' s' => n ≤ s'.toks → Q a p' s') (fun e p' s' => n ≤ s'.toks → E e p' s') p s) : Sem.wp M Γ t Q E p s := by
  induction t generalizing p s with
  | pure x => exact h hn
  | raise v => exact h hn
  | unsupported | finish | yield | fork | await | register => exact h
  | rule _ k ih | «at» _ k ih | alloc _ k ih | loadIfAlive _ k ih | point _ k ih | ask k ih | os _ _ k ih | handled _ k ih | newGen _ k ih | stack k ih | thread k ih => exact ih _ _ _ hn h
  | fresh k ih => exact ih _ _ _ (Nat.le_succ_of_le hn) h
  | load a _ k ih | genState a k ih => exact let ⟨o, ho, h⟩ := h; ⟨o, ho, ih _ _ _ hn h⟩
  | update a _ f k ih | choose _ _ k ih => exact let ⟨ha, h⟩ := h; ⟨ha, ih _ _ _ hn h⟩
  | call c hd g l k ih => exact let ⟨r, s', h1, h2⟩ := h; ⟨r, s', h1, ih r p s' (Nat.le_trans hn (runs_toks h1)) h2⟩
  | resume g r l k ih => exact let ⟨res, s', hw, h⟩ := h; ⟨res, s', hw, ih _ _ _ (Nat.le_trans hn (wakes_toks hw)) h⟩
/-- tokens never fall: what follows may lean on that -/
theorem wpAny_toks {α : Type} {M : Model} {A : Around} {t : Sem α} {Q : α → Shared → Prop} {E : Value → Shared → Prop} {s : Shared}
    (h : wpAny M A t (fun a s' => s.toks ≤ s'.toks → Q a s') (fun e s' => s.toks ≤ s'.toks → E e s') s) : wpAny M A t Q E s := fun Γ p hΓ => wp_toks t p s (Nat.le_refl _) (h Γ p hΓ)
end Mine
-- C19
namespace Mine
/-- as SaysD; the tokens must have begun -/
noncomputable def SaysP (d u : Nat) (f : Addr) (vs : List Value) (news : Led) (R : Value → Led → Prop) : Prop :=
  ∀ (w : World) (p : Program) (loose : List Str) (mean : ExcName → Option Value) (mg mb : Str → Option Value)
    (dp un : Nat) (gd : Option (List Code)) (cn : Str) (cs : Scope) (a : Addr) (ccd : Value) (cl : List (Str × Addr)) (outer : List Env) (A₀ : Around) (base h₀ : Heap) (L : Addr) (m : Str → Option Value) (s : Shared) (Q E : Value → Shared → Prop),
    Below A₀ base outer h₀ → Fr h₀ L s.heap m → (Mine.hd.heap_39 w.params).In h₀ → News h₀ L s.heap news → Top p loose mean mg mb h₀ → cs.kind = .function → dp + d < recursionLimit → un + u < cLine → 0 < s.toks →
    (∀ v h' tk' dr' news', R v news' → s.toks ≤ tk' → Fr h₀ L h' m → News h₀ L h' news' → Q v { s with heap := h', toks := tk', drawn := dr' }) →
    wpAny (model PySem.Challenge.rw_sn0098_01.row.prog w) (ktrTop dp un gd cn cs L a ccd cl outer) (call (.ref f) vs) Q E s
theorem use_saysP {d u : Nat} {f : Addr} {vs : List Value} {news : Led} {R : Value → Led → Prop} {w : World} {p : Program} {loose : List Str} {mean : ExcName → Option Value} {mg mb : Str → Option Value}
    {dp un : Nat} {gd : Option (List Code)} {cn : Str} {cs : Scope} {a : Addr} {ccd : Value} {cl : List (Str × Addr)} {outer : List Env} {A₀ : Around} {base h₀ : Heap} {L : Addr} {m : Str → Option Value} {s : Shared} {Q E : Value → Shared → Prop}
    (B : Below A₀ base outer h₀) (F : Fr h₀ L s.heap m) (X : (Mine.hd.heap_39 w.params).In h₀) (N : News h₀ L s.heap news) (T : Top p loose mean mg mb h₀) (hk : cs.kind = .function) (C : SaysP d u f vs news R) (hd : dp + d < recursionLimit) (hu : un + u < cLine) (ht : 0 < s.toks)
    (ret : ∀ v h' tk' dr' news', R v news' → s.toks ≤ tk' → Fr h₀ L h' m → News h₀ L h' news' → Q v { s with heap := h', toks := tk', drawn := dr' }) :
    wpAny (model PySem.Challenge.rw_sn0098_01.row.prog w) (ktrTop dp un gd cn cs L a ccd cl outer) (call (.ref f) vs) Q E s := C _ _ _ _ _ _ _ _ _ _ _ _ _ _ _ _ _ _ _ _ _ _ _ B F X N T hk hd hu ht ret
theorem Says.toP {d u : Nat} {f : Addr} {vs : List Value} {news : Led} {R : Value → Led → Prop} (C : Says d u f vs news R) : SaysP d u f vs news R := by
  intro w p loose mean mg mb dp un gd cn cs x ccd cl outer A₀ base h₀ L m s Q E B F X N T hk hd hu ht hr
  refine wpAny_toks ?_
  exact C w p loose mean mg mb dp un gd cn cs x ccd cl outer A₀ base h₀ L m s _ _ B F X N T hk hd hu fun v h' tk' news' r F' N' ht' => hr v h' tk' _ news' r ht' F' N'
section
variable {prog : Program} {w : World} {A : Around} {E : Value → Shared → Prop} {s : Shared}
theorem my_rstrip {x : Str} {t : Tok} {Q : Value → Shared → Prop} (hl : x.length ≤ 1000) (h : ∀ t' k, (Txt.rstrip x).length ≤ x.length → s.toks ≤ k → Q (.str (Txt.rstrip x) t') { s with toks := k }) :
    wpAny (model prog w) A (call (.builtin "str.rstrip") [.str x t]) Q E s :=
  wpAny_toks (SCL.rstrip (hsz := by rw [sizeLine_eq]; omega) fun t' k hk hs => h t' k hk hs)
theorem my_replace {x y z : Str} {t : Tok} {k : Nat} {Q : Value → Shared → Prop} (hk : 0 < k) (hyz : (y == z) = false) (hx : x.length ≤ 1000) (hz : z.length ≤ 14) (h : ∀ t' k, s.toks ≤ k → Q (.str (Txt.replace x y z) t') { s with toks := k }) :
    wpAny (model prog w) A (call (.builtin "str.replace") [.str x t, .str y k, .str z (k + 1)]) Q E s :=
  wpAny_toks (SC.replaceW (Nat.pos_iff_ne_zero.mp hk) (Nat.succ_ne_zero k) (Nat.ne_of_lt (Nat.lt_succ_self k)) hyz (by omega) hz fun t' k hs => h t' k hs)
end
end Mine
namespace Mine
theorem says_ifs (x y : Str) (t1 : Tok) (v : Int) (tl fr : Led) (hlen : x.length ≤ 100) (hy : Txt.replace (Txt.rstrip x) "_" "" = y) (hyl : y.length ≤ 640) (hint : PySem.intText? y = some v) (hT : Tab 48 50 4 "_str_to_int_inner.<locals>.inner" tl fr) :
    SaysP 62 330 60 [.str x t1] (tl ++ fr) (fun r news => (Xx2 fun t tl' => Aa5 (r = .int v t) (news = (tl' ++ fr)) (W48 tl') ((W48 tl → tl' = tl)) ((∀ r ∈ tl', r ∈ tl ∨ r.1 = 48 ∨ ∀ q ∈ fr, q.1 < r.1)))) := by
  ((have hfill : Mine.hd.heap_39 = Mine.hd.heap_39 ∧ PySem.Challenge.rw_sn0098_01 = PySem.Challenge.rw_sn0098_01 := (by k_fill; exact ⟨rfl, rfl⟩)); clear hfill)
  intro w p loose mean mg mb dp un gd cn cs ax ccd cl outer A₀ base h₀ L m s Q E B F X N T hk hd hu ht hret
  refine wpAny_toks ?_
  replace hret : ∀ v h' tk' dr' news', _ → Fr h₀ L h' m → News h₀ L h' news' → s.toks ≤ tk' → Q v { s with heap := h', toks := tk', drawn := dr' } := fun v h' tk' dr' news' r F' N' ht' => hret v h' tk' dr' news' r ht' F' N'
  refine wpAny_call ?_
  k_dflt walk_at "my enter"
  (repeat' (first | ((( (fail_if_success with_reducible first | refine st0 ?_ | refine st1 ?_ | refine st2 ?_ | refine st3 ?_))); (fail_if_success with_reducible first | refine st4 ?_ | refine st5 ?_ | refine st7 ?_ | refine st6 ?_ | refine st8 ?_ | refine st9 ?_); (first | (((k_here; (with_reducible show wpAny _ _ (call (Value.builtin "str.replace") [Value.str _ _, Value.str _ _, Value.str _ _]) _ _ _); k_dflt (refine' my_replace (by omega) (by decide) (by omega) (by decide) ?_;  k_whole); intro _ _ hk'; dsimp only at hk'; dsimp only); (have _ := hk'); clear hk')) | (((k_here; (with_reducible show wpAny _ _ (call (Value.builtin "str.rstrip") [Value.str _ _]) _ _ _); k_dflt (refine' my_rstrip (by omega) ?_;  k_whole); intro _ _ _ hk'; dsimp only at hk'; dsimp only); (have _ := hk'); clear hk')) | walk_at "mo"))))
  rw [hy]
  refine' use_saysD (by k_asm) (by k_asm) (by k_asm) ?uN11 (by k_asm) (by first | exact rfl | assumption) ?uC11 ?uD11 ?uU11 ?uR11
  case uN11 => k_asm
  case uC11 => exact says_sti _ _ v tl fr hyl hint hT
  case uD11 => ktr_room
  case uU11 => ktr_units
  rintro r9 h9 tk9 dr9 nZ hJz
  refine gz2 r9 nZ ?_
  intro Gz hGz
  obtain ⟨tt, tl', rfl, rfl, a1, a2, a3⟩ := hJz
  refine hGz _ _ ?_
  clear hGz Gz
  rintro F9 N9
  dsimp only
  (repeat' (first | ((( (fail_if_success with_reducible first | refine st0 ?_ | refine st1 ?_ | refine st2 ?_ | refine st3 ?_))); (fail_if_success with_reducible first | refine st4 ?_ | refine st5 ?_ | refine st7 ?_ | refine st6 ?_ | refine st8 ?_ | refine st9 ?_); (first | (((k_here; (with_reducible show wpAny _ _ (call (Value.builtin "str.replace") [Value.str _ _, Value.str _ _, Value.str _ _]) _ _ _); k_dflt (refine' my_replace (by omega) (by decide) (by omega) (by decide) ?_;  k_whole); intro _ _ hk'; dsimp only at hk'; dsimp only); (have _ := hk'); clear hk')) | (((k_here; (with_reducible show wpAny _ _ (call (Value.builtin "str.rstrip") [Value.str _ _]) _ _ _); k_dflt (refine' my_rstrip (by omega) ?_;  k_whole); intro _ _ _ hk'; dsimp only at hk'; dsimp only); (have _ := hk'); clear hk')) | walk_at "mo"))))
  exact hret _ _ _ _ _ ⟨_, tl', rfl, rfl, a1, a2, a3⟩ (by k_asm) (by k_asm) (by assumption)
end Mine
-- C20
namespace Mine
theorem says_bis4 (l : Addr) (vs : List Value) (n : Nat) (ns : List Int) (x : Int) (t t4 : Tok) (news : Led) (hm : (l, lob vs n) ∈ news) (hi : IntsAre vs ns) (hb : ns.length < 2 ^ 62) (hs : ∀ i j, i ≤ j → j < ns.length → ns.getD i 0 ≤ ns.getD j 0) :
   Says 2 10 120 [.ref l, .int x t, .int 0 t4, .none] news (fun v news' => news' = news ∧ ∃ t', v = .int (bis ns x) t') := by
  ((have hfill : Mine.hd.heap_39 = Mine.hd.heap_39 ∧ PySem.Challenge.rw_sn0098_01 = PySem.Challenge.rw_sn0098_01 := (by k_fill; exact ⟨rfl, rfl⟩)); clear hfill)
  unfold Says
  intros
  rename_i hret
  have hvl := hi.length
  refine wpAny_call ?_
  k_dflt walk_at "my enter"
  (repeat' (first | ((( (fail_if_success with_reducible first | refine st0 ?_ | refine st1 ?_ | refine st2 ?_ | refine st3 ?_))); (fail_if_success with_reducible first | refine st4 ?_ | refine st5 ?_ | refine st7 ?_ | refine st6 ?_ | refine st8 ?_ | refine st9 ?_); (first | ((with_reducible show wpAny _ _ (call (Value.builtin "len") _) _ _ _); ((k_here; k_dflt (refine' my_len (by k_asm) (by k_mem) (by omega) ?_;  k_whole); intro _ _))) | ((k_here; (with_reducible show wpAny _ _ (getMethod (Value.ref _) (Str.ofString "pop") _) _ _ _); k_dflt (refine' my_get_pop (knd := PySem.intKind _ _) (by k_asm) (by k_mem) (by assumption) (by omega) ?_;  k_whole))) | walk_at "mo"))))
  refine While_inv (fun n m₁ news₁ => (Xx2 fun (lo hi' : Int) => Aa11 (news₁ = news) (m₁ "a" = some (.ref l)) (m₁ "x" = some (.int x t)) ((∃ t, m₁ "lo" = some (.int lo t))) ((∃ t, m₁ "hi" = some (.int hi' t))) (0 ≤ lo) (lo ≤ hi') (hi' ≤ ns.length) (n = (hi' - lo).toNat) ((∀ j, j < lo.toNat → ns.getD j 0 ≤ x)) ((∀ j, hi'.toNat ≤ j → j < ns.length → x < ns.getD j 0)))) (n₀ := ns.length) (by k_asm) (by k_asm) ?_ ?_
  · rw [hvl]
    exact ⟨0, ns.length, rfl, rfl, rfl, ⟨_, rfl⟩, ⟨_, rfl⟩, by omega, by omega, by omega, by omega, fun j hj => by simp at hj, fun j hj hl => by simp at hj; omega⟩
  · rintro n m₁ news₁ h₁ tk₁ F₁ N₁ ⟨lo, hi', rfl, ha, hx, ⟨tl, hlo⟩, ⟨th, hhi⟩, h0, h1, h2, rfl, h3, h4⟩
    replace F₁ := names_fr [("a", .ref l), ("x", .int x t), ("lo", .int lo tl), ("hi", .int hi' th)] (by simp [ha, hx, hlo, hhi]) F₁
    have hmid : ∀ z : Int, z = (lo + hi').fdiv 2 → lo < hi' → lo ≤ z ∧ z < hi' := by
      intro z e hlt
      rw [Int.fdiv_eq_ediv_of_nonneg _ (by omega)] at e
      omega
    (repeat' (first | ((( (fail_if_success with_reducible first | refine st0 ?_ | refine st1 ?_ | refine st2 ?_ | refine st3 ?_))); (fail_if_success with_reducible first | refine st4 ?_ | refine st5 ?_ | refine st7 ?_ | refine st6 ?_ | refine st8 ?_ | refine st9 ?_); (first | ((with_reducible show wpAny _ _ (call (Value.builtin "len") _) _ _ _); ((k_here; k_dflt (refine' my_len (by k_asm) (by k_mem) (by omega) ?_;  k_whole); intro _ _))) | ((k_here; (with_reducible show wpAny _ _ (getMethod (Value.ref _) (Str.ofString "pop") _) _ _ _); k_dflt (refine' my_get_pop (knd := PySem.intKind _ _) (by k_asm) (by k_mem) (by assumption) (by omega) ?_;  k_whole))) | walk_at "mo"))))
    · obtain ⟨q1, q2⟩ := hmid _ rfl (by omega)
      refine' WhileStep.intro (n' := ((lo + hi').fdiv 2 - lo).toNat) ?F ?N ?lt ?J
      case F => k_asm
      case N => k_asm
      case lt => omega
      case J =>
        refine ⟨lo, (lo + hi').fdiv 2, rfl, rfl, rfl, ⟨_, rfl⟩, ⟨_, rfl⟩, h0, by omega, by omega, rfl, h3, ?_⟩
        intro j hj hjl
        have := hs _ _ hj hjl
        omega
    · obtain ⟨q1, q2⟩ := hmid _ rfl (by omega)
      refine' WhileStep.intro (n' := (hi' - ((lo + hi').fdiv 2 + 1)).toNat) ?F ?N ?lt ?J
      case F => k_asm
      case N => k_asm
      case lt => omega
      case J =>
        refine ⟨(lo + hi').fdiv 2 + 1, hi', rfl, rfl, rfl, ⟨_, rfl⟩, ⟨_, rfl⟩, by omega, by omega, by omega, rfl, ?_, h4⟩
        intro j hj
        have := hs j ((lo + hi').fdiv 2).toNat (by omega) (by omega)
        omega
    · have e : (bis ns x : Int) = lo := by
        have := bis_is ns lo.toNat (by omega) h3 (by intro j hj hl; exact h4 j (by omega) hl)
        omega
      exact hret _ _ _ _ ⟨rfl, _, by rw [e]⟩ (by k_asm) (by k_asm)
section
variable {prog : Program} {w : World} {A : Around} {E : Value → Shared → Prop} {s : Shared} {h₀ : Heap} {L : Addr} {m : Str → Option Value} {news news' : Led}
theorem my_insert {D : Addr} {vs : List Value} {n k : Nat} {u : Tok} {y : Value} {Q : Value → Shared → Prop} (F : Fr h₀ L s.heap m) (N : News h₀ L s.heap news) (hk : k ≤ vs.length)
    (U : Upd D (PySem.W.listOf vs.toArray n) (PySem.W.listOf (vs.take k ++ y :: vs.drop k).toArray (n + 1)) news news') (hz : vs.length < 1000)
    (h : ∀ h', Fr h₀ L h' m → News h₀ L h' news' → Q .none { s with heap := h' }) : wpAny (model prog w) A (call (.builtin "list.insert") [.ref D, .int (k : Nat) u, y]) Q E s := by
  refine kl_insert F N ?_ ?_ U ?_ h
  · unfold Builtin.List.listFitsIndex
    simp
    omega
  · unfold kl_ins
    have e : (if ((k : Nat) : Int) < 0 then (((k : Nat) : Int) + (vs.toArray.toList.length : Int)).toNat else min ((k : Nat) : Int).toNat vs.toArray.toList.length) = k := by
      rw [if_neg (by omega)]
      simp
      omega
    rw [e]
  · rw [sizeLine_eq]
    simp
    omega
end
end Mine
namespace Mine
noncomputable def ins (ns : List Int) (x : Int) : List Int := ns.take (bis ns x) ++ x :: ns.drop (bis ns x)
theorem says_ins (l : Addr) (vs : List Value) (n : Nat) (ns : List Int) (x : Int) (t : Tok) (fr : Led) (hi : IntsAre vs ns) (hb : ns.length < 500) (hs : ∀ i j, i ≤ j → j < ns.length → ns.getD i 0 ≤ ns.getD j 0) (ho : ∀ p ∈ fr, p.1 ≠ l) :
   Says 6 40 111 [.ref l, .int x t] ((l, PySem.W.listOf vs.toArray n) :: fr) (fun v news' => v = .none ∧ (Xx2 fun vs' n' => IntsAre vs' (ins ns x) ∧ news' = (l, PySem.W.listOf vs'.toArray n') :: fr)) := by
  ((have hfill : Mine.hd.heap_39 = Mine.hd.heap_39 ∧ PySem.Challenge.rw_sn0098_01 = PySem.Challenge.rw_sn0098_01 := (by k_fill; exact ⟨rfl, rfl⟩)); clear hfill)
  unfold Says
  intros
  rename_i hret
  have hvl := hi.length
  refine wpAny_call ?_
  k_dflt walk_at "my enter"
  (repeat' (first | ((( (fail_if_success with_reducible first | refine st0 ?_ | refine st1 ?_ | refine st2 ?_ | refine st3 ?_))); (fail_if_success with_reducible first | refine st4 ?_ | refine st5 ?_ | refine st7 ?_ | refine st6 ?_ | refine st8 ?_ | refine st9 ?_); (first | ((with_reducible show wpAny _ _ (call (Value.builtin "len") _) _ _ _); ((k_here; k_dflt (refine' my_len (by k_asm) (by k_mem) (by omega) ?_;  k_whole); intro _ _))) | ((k_here; (with_reducible show wpAny _ _ (getMethod (Value.ref _) (Str.ofString "pop") _) _ _ _); k_dflt (refine' my_get_pop (knd := PySem.intKind _ _) (by k_asm) (by k_mem) (by assumption) (by omega) ?_;  k_whole))) | ((with_reducible show wpAny _ _ (call (Value.builtin "list.insert") _) _ _ _); ((k_here; k_dflt (refine' my_insert (by k_asm) (by k_asm) (by omega) (by k_upd) (by omega) ?_;  k_whole); intro _ _ _; (try dsimp only); (try k_sweep)))) | walk_at "mo"))))
  refine' use_says (by k_asm) (by k_asm) (by k_asm) ?uN12 (by k_asm) (by first | exact rfl | assumption) ?uC12 ?uD12 ?uU12 ?uR12
  case uN12 => k_asm
  case uC12 => exact says_bis4 _ _ _ _ _ _ _ _ (.head _) hi (by omega) hs
  case uD12 => ktr_room
  case uU12 => ktr_units
  rintro v h' tk' news' hJz
  refine gz2 v news' ?_
  intro Gz hGz
  obtain ⟨rfl, tp, rfl⟩ := hJz
  refine hGz _ _ ?_
  clear hGz Gz
  rintro F12 N12
  have hbl : bis ns x ≤ vs.length := by
    rw [hvl]
    exact List.takeWhile_sublist _ |>.length_le
  dsimp only
  (repeat' (first | ((( (fail_if_success with_reducible first | refine st0 ?_ | refine st1 ?_ | refine st2 ?_ | refine st3 ?_))); (fail_if_success with_reducible first | refine st4 ?_ | refine st5 ?_ | refine st7 ?_ | refine st6 ?_ | refine st8 ?_ | refine st9 ?_); (first | ((with_reducible show wpAny _ _ (call (Value.builtin "len") _) _ _ _); ((k_here; k_dflt (refine' my_len (by k_asm) (by k_mem) (by omega) ?_;  k_whole); intro _ _))) | ((k_here; (with_reducible show wpAny _ _ (getMethod (Value.ref _) (Str.ofString "pop") _) _ _ _); k_dflt (refine' my_get_pop (knd := PySem.intKind _ _) (by k_asm) (by k_mem) (by assumption) (by omega) ?_;  k_whole))) | ((with_reducible show wpAny _ _ (call (Value.builtin "list.insert") _) _ _ _); ((k_here; k_dflt (refine' my_insert (by k_asm) (by k_asm) (by omega) (by k_upd) (by omega) ?_;  k_whole); intro _ _ _; (try dsimp only); (try k_sweep)))) | walk_at "mo"))))
  exact hret _ _ _ _ ⟨rfl, _, _, (hi.take _).append (.cons _ _ (hi.drop _)), rfl⟩ (by k_asm) (by k_asm)
end Mine
-- C21
namespace Mine
theorem plainAttrs_pat : PlainAttrs "re.Pattern" :=
  ⟨⟨"object.__getattribute__", by rw [typeLookup_type, builtinLookup_eq_fast]; kernel_rfl, by decide +kernel⟩, by rw [typeLookup_type, builtinLookup_eq_fast]; kernel_rfl⟩
theorem slot_pat_search : Slot "re.Pattern" "search" "re.Pattern.search" :=
  .of (owner := "re.Pattern") (n := "search") (by rw [typeLookup_type, builtinLookup_eq_fast]; kernel_rfl) (by decide +kernel) (by decide +kernel) (by decide +kernel)
    (by first | exact .inl (by decide +kernel) | exact .inr (by decide +kernel)) (by rw [isSubtype_type]; kernel_rfl)
theorem type_pat_search : typeOf (.builtin "re.Pattern.search") = pure (.type "method_descriptor") := by show builtinType _ = _; rw [builtinType_eq_fast]; kernel_rfl
theorem entry_pat_search : entryFor table "re.Pattern.search" = some Builtin.«re.Pattern.search» := entryFor_of_tree (by kernel_rfl)
theorem owner_pat : Manifest.owners.lookup (String.ofList ['n', 'r', 'e', 't', 't', 'a', 'P', '.', 'e', 'r'].reverse) = some Manifest.sig_re_Pattern := by kernel_rfl
theorem args_pat_search (a b : Value) : argsOk "re.Pattern.search" ⟨[a, b], []⟩ := by
  unfold argsOk; rw [signature?_of (id := "re.Pattern.search") (n := ['h', 'c', 'r', 'a', 'e', 's']) (o := ['n', 'r', 'e', 't', 't', 'a', 'P', '.', 'e', 'r']) (by kernel_rfl) owner_pat]; kernel_rfl
noncomputable def drive : Nat → Sre.M → Option Sre.M
  | 0, _ => none
  | k + 1, m => if (m.runFor 4).outcome.isSome then some (m.runFor 4) else drive k (m.runFor 4)
section
variable {M : Model} {A : Around} {E : Value → Shared → Prop} {s : Shared}
open Builtin.Re in
theorem wp_drive {Q : Sre.M → Shared → Prop} : ∀ (k n : Nat) (m m' : Sre.M), drive k m = some m' → k ≤ n → Q m' s → wpAny M A (reDrive n m) Q E s
  | 0, _, _, _, h, _, _ => nomatch h
  | k + 1, 0, _, _, _, h, _ => absurd h (by omega)
  | k + 1, n + 1, m, m', h, hn, hq => by
    unfold reDrive
    simp only [drive] at h
    show wpAny M A (if (m.runFor 4).outcome.isSome = true then pure (m.runFor 4) else do
      rule "sre.turn"
      reDrive n (m.runFor 4)) Q E s
    by_cases hs : (m.runFor 4).outcome.isSome = true
    · rw [if_pos hs] at h ⊢
      cases h
      exact wpAny_pure hq
    · rw [if_neg hs] at h ⊢
      exact wpAny_bind (wpAny_rule (wp_drive k n _ m' h (by omega) hq))
theorem wp_rules {Q : PUnit → Shared → Prop} (f : Nat → PUnit → Sem (ForInStep PUnit)) (hf : ∀ i (P : ForInStep PUnit → Shared → Prop), P (.yield ⟨⟩) s → wpAny M A (f i ⟨⟩) P E s) (hq : Q ⟨⟩ s) : ∀ l : List Nat, wpAny M A (forIn l PUnit.unit f) Q E s
  | [] => wpAny_pure hq
  | i :: r => by
    rw [List.forIn_cons]
    exact wpAny_bind (hf i _ (wp_rules f hf hq r))
open Builtin.Re in
theorem wp_runToEnd {Q : Option Sre.M → Shared → Prop} (k : Nat) {m m' : Sre.M} (hd : drive k m = some m') (hk : k ≤ 1000) (ho : m'.outcome = some .failed) (hq : Q none s) : wpAny M A (reRunToEnd m) Q E s := by
  unfold reRunToEnd
  refine wpAny_bind (wp_drive k _ m m' hd (Nat.le_trans hk (by decide +kernel)) ?_)
  refine wpAny_bind (wp_rules _ ?_ ?_ _)
  · intro i P hp
    split
    · exact wpAny_bind (wpAny_rule (wpAny_pure hp))
    · exact wpAny_pure hp
  · rw [ho]
    exact wpAny_pure hq
end
section
variable {prog : Program} {w : World} {A : Around} {E : Value → Shared → Prop} {s : Shared}
noncomputable def codeOf (items : Array Value) : Array Nat := (items.map Builtin.Re.reRawOf).map (·.toNat)
open Builtin.Re in
theorem call_search {a b : Addr} {oa ob : Obj} {p0 p1 p3 p4 : Value} {items : Array Value} {nb : Nat} {x : Str} {t : Tok} {Q : Value → Shared → Prop} {m' : Sre.M}
    (ha : s.heap.get? a = some oa) (hac : oa.cls = .type "re.Pattern") (had : oa.data = .fields #[p0, p1, .int 0 0, p3, p4, .ref b, .int 0 0]) (hb : s.heap.get? b = some ob) (hbd : ob.data = .seq items nb)
    (hd : drive 40 (Sre.forSearch (codeOf items) x.cps 0 0 x.cps.size false) = some m') (ho : m'.outcome = some .failed) (hx : x.cps.size < 1000) (h : Q .none s) :
    wpAny (model prog w) A (call (.builtin "re.Pattern.search") [.ref a, .str x t]) Q E s := by
  have hT : s.TypeIs (.ref a) "re.Pattern" := ⟨oa, ha, hac⟩
  refine wpAny_call_entry slot_pat_search hT entry_pat_search ?_ (args_pat_search _ _)
  unfold Builtin.«re.Pattern.search»
  refine wpAny_bind ?_
  unfold reTarget
  dsimp only
  refine wpAny_bind ?_
  have e : reNamed "re.Pattern.search" "search" ["string", "pos", "endpos"] 1 [.str x t] [] = pure [some (.str x t), none, none] := by rfl
  rw [e]
  refine wpAny_pure ?_
  dsimp only
  refine wpAny_bind (wpAny_pure ?_)
  refine wpAny_bind (wpAny_pure ?_)
  refine wpAny_bind (wpAny_fieldsOf ha had ?_)
  refine wpAny_bind ?_
  have e2 : reTextOf (.str x t) = pure (x.cps, 0) := rfl
  rw [e2]
  refine wpAny_pure ?_
  show wpAny _ _ (if (true && false) = true then _ else if (false && true) = true then _ else do
    reNoCollectionInside (Value.str x t) 0
    let cs ← reRawItems (.ref b)
    pure (ReTarget.mk (.ref a) (.str x t) (cs.map (·.toNat)) x.cps 0 0 (min (Int.toNat 0) x.cps.size) (min (2 ^ 63 - 1 : Int).toNat x.cps.size))) _ _ _
  rw [if_neg (by decide), if_neg (by decide)]
  refine wpAny_bind ?_
  have e3 : reNoCollectionInside (.str x t) 0 = pure () := rfl
  rw [e3]
  refine wpAny_pure ?_
  refine wpAny_bind ?_
  unfold reRawItems
  refine wpAny_bind (wpAny_seqItems hb hbd ?_)
  refine wpAny_pure ?_
  refine wpAny_pure ?_
  dsimp only
  unfold reAnswer
  refine wpAny_bind (wp_runToEnd 40 (m' := m') ?_ (by decide) ho ?_)
  · have e4 : min (Int.toNat 0) x.cps.size = 0 := by simp
    have e5 : min (2 ^ 63 - 1 : Int).toNat x.cps.size = x.cps.size := by omega
    rw [e4, e5]
    exact hd
  · exact wpAny_pure ⟨_, rfl, h⟩
end
end Mine
-- C22
namespace Mine
noncomputable def c166 : Array Nat := #[14, 10, 4, 1, 1, 22, 0, 31, 16, 127, 0, 13, 7, 22, 0, 31, 16, 127, 0, 1]
noncomputable def c171 : Array Nat := #[14, 14, 4, 1, 1, 9, 4294966783, 0, 0, 2147483648, 0, 0, 0, 0, 0, 13, 11, 9, 4294966783, 0, 0, 2147483648, 0, 0, 0, 0, 0, 1]
noncomputable def failsOn (code : Array Nat) (x : Str) : Bool :=
  match drive 40 (Sre.forSearch code x.cps 0 0 x.cps.size false) with
  | some m => (match m.outcome with | some .failed => true | _ => false)
  | none => false
noncomputable def clean (x : Str) : Bool := decide (x.length < 1000) && failsOn c166 x && failsOn c171 x
theorem failsOn_is {code : Array Nat} {x : Str} (h : failsOn code x = true) : ∃ m', drive 40 (Sre.forSearch code x.cps 0 0 x.cps.size false) = some m' ∧ m'.outcome = some .failed := by
  unfold failsOn at h
  split at h
  · rename_i m hm
    refine ⟨m, hm, ?_⟩
    split at h
    · assumption
    · cases h
  · cases h
theorem clean_decs : (List.range 100).all (fun n => clean (decS (n : Nat))) = true := by decide +kernel
theorem clean_dec {n : Int} (h0 : 0 ≤ n) (h1 : n < 100) : clean (decS n) = true := by
  have h := List.all_eq_true.mp clean_decs n.toNat (List.mem_range.mpr (by omega))
  have e : ((n.toNat : Nat) : Int) = n := by omega
  rw [e] at h
  exact h
theorem look167 (P : Params) : (Mine.hd.heap_39 P).lookup 167 = some { cls := .type "re.Pattern", data := .fields #[.str (Str.ofString "[\\x00-\\x1F\\x7F]") 501, .int 32 524, .int 0 0, .none, .none, .ref 166, .int 0 0] } := by kernel_rfl
theorem look172 (P : Params) : (Mine.hd.heap_39 P).lookup 172 = some { cls := .type "re.Pattern", data := .fields #[.str (Str.ofString "[\\x00-\\x08\\x0A-\\x1F\\x7F]") 527, .int 32 558, .int 0 0, .none, .none, .ref 171, .int 0 0] } := by kernel_rfl
theorem look166 (P : Params) : (Mine.hd.heap_39 P).lookup 166 = some { cls := .type "tuple", data := .seq (c166.map fun n => .int (n : Nat) 0) } := by kernel_rfl
theorem look171 (P : Params) : (Mine.hd.heap_39 P).lookup 171 = some { cls := .type "tuple", data := .seq (c171.map fun n => .int (n : Nat) 0) } := by kernel_rfl
theorem code166 : codeOf (c166.map fun n => .int (n : Nat) 0) = c166 := by kernel_rfl
theorem code171 : codeOf (c171.map fun n => .int (n : Nat) 0) = c171 := by kernel_rfl
section
variable {prog : Program} {w : World} {A : Around} {E : Value → Shared → Prop} {s : Shared} {h₀ : Heap} {L : Addr} {m : Str → Option Value}
theorem search_167 {x : Str} {t : Tok} {Q : Value → Shared → Prop} (F : Fr h₀ L s.heap m) (X : (Mine.hd.heap_39 w.params).In h₀) (hc : clean x = true) (h : Q .none s) : wpAny (model prog w) A (call (.builtin "re.Pattern.search") [.ref 167, .str x t]) Q E s := by
  unfold clean at hc
  simp only [Bool.and_eq_true, decide_eq_true_eq] at hc
  refine gz0 fun Gz hGz => ?_
  obtain ⟨m', h1, h2⟩ := failsOn_is hc.1.2
  refine hGz ?_
  clear hGz Gz
  exact call_search (F.keep _ _ (X _ _ (look167 _))) rfl rfl (F.keep _ _ (X _ _ (look166 _))) rfl (by rw [code166]; exact h1) h2 hc.1.1 h
theorem search_172 {x : Str} {t : Tok} {Q : Value → Shared → Prop} (F : Fr h₀ L s.heap m) (X : (Mine.hd.heap_39 w.params).In h₀) (hc : clean x = true) (h : Q .none s) : wpAny (model prog w) A (call (.builtin "re.Pattern.search") [.ref 172, .str x t]) Q E s := by
  unfold clean at hc
  simp only [Bool.and_eq_true, decide_eq_true_eq] at hc
  refine gz0 fun Gz hGz => ?_
  obtain ⟨m', h1, h2⟩ := failsOn_is hc.2
  refine hGz ?_
  clear hGz Gz
  exact call_search (F.keep _ _ (X _ _ (look172 _))) rfl rfl (F.keep _ _ (X _ _ (look171 _))) rfl (by rw [code171]; exact h1) h2 hc.1.1 h
theorem get_167 {pl : Sem Bool} {Q : Value × List Value → Shared → Prop} (F : Fr h₀ L s.heap m) (X : (Mine.hd.heap_39 w.params).In h₀) (h : Q (.builtin "re.Pattern.search", [.ref 167]) s) : wpAny (model prog w) A (getMethod (.ref 167) "search" pl) Q E s :=
  have h1 := F.keep _ _ (X _ _ (look167 _))
  getMethod_builtin ⟨_, h1, rfl⟩ plainAttrs_pat slot_pat_search type_pat_search (fun a e => by cases e; exact ⟨_, h1, rfl⟩) h
theorem get_172 {pl : Sem Bool} {Q : Value × List Value → Shared → Prop} (F : Fr h₀ L s.heap m) (X : (Mine.hd.heap_39 w.params).In h₀) (h : Q (.builtin "re.Pattern.search", [.ref 172]) s) : wpAny (model prog w) A (getMethod (.ref 172) "search" pl) Q E s :=
  have h1 := F.keep _ _ (X _ _ (look172 _))
  getMethod_builtin ⟨_, h1, rfl⟩ plainAttrs_pat slot_pat_search type_pat_search (fun a e => by cases e; exact ⟨_, h1, rfl⟩) h
end
end Mine
-- C23
namespace Mine
/-- as Says, in one world: what is told may speak of the world's params -/
noncomputable def SaysAt (w : World) (d u : Nat) (f : Addr) (vs : List Value) (news : Led) (R : Value → Led → Prop) : Prop :=
  ∀ (p : Program) (loose : List Str) (mean : ExcName → Option Value) (mg mb : Str → Option Value)
    (dp un : Nat) (gd : Option (List Code)) (cn : Str) (cs : Scope) (a : Addr) (ccd : Value) (cl : List (Str × Addr)) (outer : List Env) (A₀ : Around) (base h₀ : Heap) (L : Addr) (m : Str → Option Value) (s : Shared) (Q E : Value → Shared → Prop),
    Below A₀ base outer h₀ → Fr h₀ L s.heap m → (Mine.hd.heap_39 w.params).In h₀ → News h₀ L s.heap news → Top p loose mean mg mb h₀ → cs.kind = .function → dp + d < recursionLimit → un + u < cLine →
    (∀ v h' tk' news', R v news' → Fr h₀ L h' m → News h₀ L h' news' → Q v { s with heap := h', toks := tk' }) →
    wpAny (model PySem.Challenge.rw_sn0098_01.row.prog w) (ktrTop dp un gd cn cs L a ccd cl outer) (call (.ref f) vs) Q E s
theorem use_saysAt {d u : Nat} {f : Addr} {vs : List Value} {news : Led} {R : Value → Led → Prop} {w : World} {p : Program} {loose : List Str} {mean : ExcName → Option Value} {mg mb : Str → Option Value}
    {dp un : Nat} {gd : Option (List Code)} {cn : Str} {cs : Scope} {a : Addr} {ccd : Value} {cl : List (Str × Addr)} {outer : List Env} {A₀ : Around} {base h₀ : Heap} {L : Addr} {m : Str → Option Value} {s : Shared} {Q E : Value → Shared → Prop}
    (B : Below A₀ base outer h₀) (F : Fr h₀ L s.heap m) (X : (Mine.hd.heap_39 w.params).In h₀) (N : News h₀ L s.heap news) (T : Top p loose mean mg mb h₀) (hk : cs.kind = .function) (C : SaysAt w d u f vs news R) (hd : dp + d < recursionLimit) (hu : un + u < cLine)
    (ret : ∀ v h' tk' news', R v news' → Fr h₀ L h' m → News h₀ L h' news' → Q v { s with heap := h', toks := tk' }) :
    wpAny (model PySem.Challenge.rw_sn0098_01.row.prog w) (ktrTop dp un gd cn cs L a ccd cl outer) (call (.ref f) vs) Q E s := C _ _ _ _ _ _ _ _ _ _ _ _ _ _ _ _ _ _ _ _ _ _ B F X N T hk hd hu ret
end Mine
namespace Mine
noncomputable def hdD (P : Params) (t : Tok) (l : Addr) : Obj := dictOf [{ hash := PyData.keyHash P "_headers", key := .str "_headers" t, val := .ref l }] 1
/-- small digit strings in every pair -/
noncomputable def Few (ds : List (Int × Int)) : Prop := ∀ p ∈ ds, (0 ≤ p.1 ∧ p.1 < 100) ∧ 0 ≤ p.2 ∧ p.2 < 100
theorem says_hd (w : World) (l : Addr) (vt : List Value) (n : Nat) (ds : List (Int × Int)) (fr : Led) (hm : (l, PySem.W.listOf vt.toArray n) ∈ fr) (hp : PairsAt fr vt ds) (hf : Few ds) :
    SaysAt w 20 200 295 [.ref l] fr (fun v news => (Xx3 fun x dx t => Aa4 (v = .ref x) (news = (x, instObj 295 dx) :: (dx, hdD w.params t l) :: fr) ((∀ p ∈ fr, p.1 < dx)) (dx < x))) := by
  ((have hfill : Mine.hd.heap_39 = Mine.hd.heap_39 ∧ PySem.Challenge.rw_sn0098_01 = PySem.Challenge.rw_sn0098_01 := (by k_fill; exact ⟨rfl, rfl⟩)); clear hfill)
  unfold SaysAt
  intros
  rename_i hret
  k_dflt (refine' call_cls ?k1 ?k2 ?k3 ?k4 ?k5 ?k6 ?_; (case k1 => k_asm); (case k2 => k_asm); (case k3 => k_asm); (case k4 => k_is); (case k5 => k_is); (case k6 => k_is); k_whole; intro x' d' h' F' N' l1 l2; (try k_lt l1); (try k_lt2 l2); (try k_sweep); walk_at "my enter")
  (repeat' (first | ((( (fail_if_success with_reducible first | refine st0 ?_ | refine st1 ?_ | refine st2 ?_ | refine st3 ?_))); (fail_if_success with_reducible first | refine st4 ?_ | refine st5 ?_ | refine st7 ?_ | refine st6 ?_ | refine st8 ?_ | refine st9 ?_); (first | ((k_here; (with_reducible show wpAny _ _ (getMethod (Value.ref 172) (Str.ofString "search") _) _ _ _); k_dflt (refine' get_172 (by k_asm) (by k_asm) ?_;  k_whole))) | ((k_here; (with_reducible show wpAny _ _ (getMethod (Value.ref 167) (Str.ofString "search") _) _ _ _); k_dflt (refine' get_167 (by k_asm) (by k_asm) ?_;  k_whole))) | ((k_here; (with_reducible show wpAny _ _ (getMethod (Value.ref _) (Str.ofString "pop") _) _ _ _); k_dflt (refine' my_get_pop (knd := PySem.intKind _ _) (by k_asm) (by k_mem) (by assumption) (by omega) ?_;  k_whole))) | ((k_here; (with_reducible show wpAny _ _ (call (Value.builtin "re.Pattern.search") [Value.ref 172, Value.str _ _]) _ _ _); k_dflt (refine' search_172 (by k_asm) (by k_asm) (by assumption) ?_;  k_whole))) | ((k_here; (with_reducible show wpAny _ _ (call (Value.builtin "re.Pattern.search") [Value.ref 167, Value.str _ _]) _ _ _); k_dflt (refine' search_167 (by k_asm) (by k_asm) (by assumption) ?_;  k_whole))) | walk_at "mo"))))
  (rename Fr _ _ _ _ => F2)
  (rename News _ _ _ _ => N2)
  obtain ⟨m', F3⟩ := names_ex F2 [("self", .ref x'), ("headers", .ref l)] (by ((repeat' (first | exact all_nil | refine all_cons rfl ?_))))
  clear F2
  obtain ⟨L9, hL9⟩ := fr_L F3
  subst hL9
  have hpl := hp.len
  ((k_here; (with_unfolding_all refine' For_T ?_); k_whole))
  (repeat' (first | ((( (fail_if_success with_reducible first | refine st0 ?_ | refine st1 ?_ | refine st2 ?_ | refine st3 ?_))); (fail_if_success with_reducible first | refine st4 ?_ | refine st5 ?_ | refine st7 ?_ | refine st6 ?_ | refine st8 ?_ | refine st9 ?_); (first | ((k_here; (with_reducible show wpAny _ _ (getMethod (Value.ref 172) (Str.ofString "search") _) _ _ _); k_dflt (refine' get_172 (by k_asm) (by k_asm) ?_;  k_whole))) | ((k_here; (with_reducible show wpAny _ _ (getMethod (Value.ref 167) (Str.ofString "search") _) _ _ _); k_dflt (refine' get_167 (by k_asm) (by k_asm) ?_;  k_whole))) | ((k_here; (with_reducible show wpAny _ _ (getMethod (Value.ref _) (Str.ofString "pop") _) _ _ _); k_dflt (refine' my_get_pop (knd := PySem.intKind _ _) (by k_asm) (by k_mem) (by assumption) (by omega) ?_;  k_whole))) | ((k_here; (with_reducible show wpAny _ _ (call (Value.builtin "re.Pattern.search") [Value.ref 172, Value.str _ _]) _ _ _); k_dflt (refine' search_172 (by k_asm) (by k_asm) (by assumption) ?_;  k_whole))) | ((k_here; (with_reducible show wpAny _ _ (call (Value.builtin "re.Pattern.search") [Value.ref 167, Value.str _ _]) _ _ _); k_dflt (refine' search_167 (by k_asm) (by k_asm) (by assumption) ?_;  k_whole))) | walk_at "mo"))))
  refine loopLT (l := l) (vs := vt) (nn := n) (fun i m nx => nx = (x', instObj 295 d') :: (d', hdD w.params (tk + 1) l) :: fr ∧ HasN m [("self", .ref x')]) ?_ ?_ F3 N2 ?_ ?_ ?_ ?_
  · exact (by rfl)
  · rintro i m nx hJz
    refine gz1 nx ?_
    intro Gz hGz
    obtain ⟨rfl, _⟩ := hJz
    refine hGz _ ?_
    clear hGz Gz
    exact .tail _ (.tail _ hm)
  · exact ⟨rfl, by ((repeat' (first | exact all_nil | refine all_cons rfl ?_)))⟩
  · intro i v I h tk Q hv hit hQ
    refine gz0 fun Gz hGz => ?_
    obtain ⟨a, c, mm, t1, t2, rfl, hmem, hd⟩ := hp.get i v hv
    refine hGz ?_
    clear hGz Gz
    exact wpAny_letOwnedTupleGo_listiter hit hQ
  · rintro i v m₁ nx h9 tk9 I oI hv hJz
    refine gz1 nx ?_
    intro Gz hGz
    obtain ⟨rfl, hN⟩ := hJz
    refine hGz _ ?_
    clear hGz Gz
    rintro ho F9 N9
    refine gz0 fun Gz hGz => ?_
    obtain ⟨a, c, mm, t1, t2, rfl, hmem, hd⟩ := hp.get i v hv
    refine hGz ?_
    clear hGz Gz
    obtain ⟨m9, F9⟩ := names_ex F9 [("self", .ref x')] hN
    have hfd := hf _ (List.mem_of_getElem? hd)
    have hc1 := clean_dec (n := c) (by omega) (by omega)
    have hc2 := clean_dec (n := mm) (by omega) (by omega)
    (repeat' (first | ((( (fail_if_success with_reducible first | refine st0 ?_ | refine st1 ?_ | refine st2 ?_ | refine st3 ?_))); (fail_if_success with_reducible first | refine st4 ?_ | refine st5 ?_ | refine st7 ?_ | refine st6 ?_ | refine st8 ?_ | refine st9 ?_); (first | ((k_here; (with_reducible show wpAny _ _ (getMethod (Value.ref 172) (Str.ofString "search") _) _ _ _); k_dflt (refine' get_172 (by k_asm) (by k_asm) ?_;  k_whole))) | ((k_here; (with_reducible show wpAny _ _ (getMethod (Value.ref 167) (Str.ofString "search") _) _ _ _); k_dflt (refine' get_167 (by k_asm) (by k_asm) ?_;  k_whole))) | ((k_here; (with_reducible show wpAny _ _ (getMethod (Value.ref _) (Str.ofString "pop") _) _ _ _); k_dflt (refine' my_get_pop (knd := PySem.intKind _ _) (by k_asm) (by k_mem) (by assumption) (by omega) ?_;  k_whole))) | ((k_here; (with_reducible show wpAny _ _ (call (Value.builtin "re.Pattern.search") [Value.ref 172, Value.str _ _]) _ _ _); k_dflt (refine' search_172 (by k_asm) (by k_asm) (by assumption) ?_;  k_whole))) | ((k_here; (with_reducible show wpAny _ _ (call (Value.builtin "re.Pattern.search") [Value.ref 167, Value.str _ _]) _ _ _); k_dflt (refine' search_167 (by k_asm) (by k_asm) (by assumption) ?_;  k_whole))) | walk_at "mo"))))
    refine wpAny_call ?_
    k_dflt walk_at "my enter"
    (repeat' (first | ((( (fail_if_success with_reducible first | refine st0 ?_ | refine st1 ?_ | refine st2 ?_ | refine st3 ?_))); (fail_if_success with_reducible first | refine st4 ?_ | refine st5 ?_ | refine st7 ?_ | refine st6 ?_ | refine st8 ?_ | refine st9 ?_); (first | ((k_here; (with_reducible show wpAny _ _ (getMethod (Value.ref 172) (Str.ofString "search") _) _ _ _); k_dflt (refine' get_172 (by k_asm) (by k_asm) ?_;  k_whole))) | ((k_here; (with_reducible show wpAny _ _ (getMethod (Value.ref 167) (Str.ofString "search") _) _ _ _); k_dflt (refine' get_167 (by k_asm) (by k_asm) ?_;  k_whole))) | ((k_here; (with_reducible show wpAny _ _ (getMethod (Value.ref _) (Str.ofString "pop") _) _ _ _); k_dflt (refine' my_get_pop (knd := PySem.intKind _ _) (by k_asm) (by k_mem) (by assumption) (by omega) ?_;  k_whole))) | ((k_here; (with_reducible show wpAny _ _ (call (Value.builtin "re.Pattern.search") [Value.ref 172, Value.str _ _]) _ _ _); k_dflt (refine' search_172 (by k_asm) (by k_asm) (by assumption) ?_;  k_whole))) | ((k_here; (with_reducible show wpAny _ _ (call (Value.builtin "re.Pattern.search") [Value.ref 167, Value.str _ _]) _ _ _); k_dflt (refine' search_167 (by k_asm) (by k_asm) (by assumption) ?_;  k_whole))) | walk_at "mo"))))
    refine wpAny_call ?_
    k_dflt walk_at "my enter"
    (repeat' (first | ((( (fail_if_success with_reducible first | refine st0 ?_ | refine st1 ?_ | refine st2 ?_ | refine st3 ?_))); (fail_if_success with_reducible first | refine st4 ?_ | refine st5 ?_ | refine st7 ?_ | refine st6 ?_ | refine st8 ?_ | refine st9 ?_); (first | ((k_here; (with_reducible show wpAny _ _ (getMethod (Value.ref 172) (Str.ofString "search") _) _ _ _); k_dflt (refine' get_172 (by k_asm) (by k_asm) ?_;  k_whole))) | ((k_here; (with_reducible show wpAny _ _ (getMethod (Value.ref 167) (Str.ofString "search") _) _ _ _); k_dflt (refine' get_167 (by k_asm) (by k_asm) ?_;  k_whole))) | ((k_here; (with_reducible show wpAny _ _ (getMethod (Value.ref _) (Str.ofString "pop") _) _ _ _); k_dflt (refine' my_get_pop (knd := PySem.intKind _ _) (by k_asm) (by k_mem) (by assumption) (by omega) ?_;  k_whole))) | ((k_here; (with_reducible show wpAny _ _ (call (Value.builtin "re.Pattern.search") [Value.ref 172, Value.str _ _]) _ _ _); k_dflt (refine' search_172 (by k_asm) (by k_asm) (by assumption) ?_;  k_whole))) | ((k_here; (with_reducible show wpAny _ _ (call (Value.builtin "re.Pattern.search") [Value.ref 167, Value.str _ _]) _ _ _); k_dflt (refine' search_167 (by k_asm) (by k_asm) (by assumption) ?_;  k_whole))) | walk_at "mo"))))
    exact TurnTo.intro (by k_asm) (by k_asm) (by (((try simp only [List.cons_append, List.nil_append]); (repeat' (first | exact List.forall_mem_nil _ | refine List.forall_mem_cons.mpr ⟨?_, ?_⟩)) <;> (first | k_mem | (intro _ _; k_mem))))) ho ⟨rfl, by ((repeat' (first | exact all_nil | refine all_cons rfl ?_)))⟩
  · rintro m₁ nx h9 tk9 hJz
    refine gz1 nx ?_
    intro Gz hGz
    obtain ⟨rfl, hN⟩ := hJz
    refine hGz _ ?_
    clear hGz Gz
    rintro F9 N9
    (repeat' (first | ((( (fail_if_success with_reducible first | refine st0 ?_ | refine st1 ?_ | refine st2 ?_ | refine st3 ?_))); (fail_if_success with_reducible first | refine st4 ?_ | refine st5 ?_ | refine st7 ?_ | refine st6 ?_ | refine st8 ?_ | refine st9 ?_); (first | ((k_here; (with_reducible show wpAny _ _ (getMethod (Value.ref 172) (Str.ofString "search") _) _ _ _); k_dflt (refine' get_172 (by k_asm) (by k_asm) ?_;  k_whole))) | ((k_here; (with_reducible show wpAny _ _ (getMethod (Value.ref 167) (Str.ofString "search") _) _ _ _); k_dflt (refine' get_167 (by k_asm) (by k_asm) ?_;  k_whole))) | ((k_here; (with_reducible show wpAny _ _ (getMethod (Value.ref _) (Str.ofString "pop") _) _ _ _); k_dflt (refine' my_get_pop (knd := PySem.intKind _ _) (by k_asm) (by k_mem) (by assumption) (by omega) ?_;  k_whole))) | ((k_here; (with_reducible show wpAny _ _ (call (Value.builtin "re.Pattern.search") [Value.ref 172, Value.str _ _]) _ _ _); k_dflt (refine' search_172 (by k_asm) (by k_asm) (by assumption) ?_;  k_whole))) | ((k_here; (with_reducible show wpAny _ _ (call (Value.builtin "re.Pattern.search") [Value.ref 167, Value.str _ _]) _ _ _); k_dflt (refine' search_167 (by k_asm) (by k_asm) (by assumption) ?_;  k_whole))) | walk_at "mo"))))
    exact hret _ _ _ _ ⟨_, _, _, rfl, rfl, l1, l2⟩ (by k_asm) (by k_asm)
end Mine
-- C24
namespace Mine
section
variable {prog : Program} {w : World} {A : Around} {E : Value → Shared → Prop} {s : Shared} {h₀ : Heap} {L l : Addr} {m : Str → Option Value} {news : Led}
theorem my_slice_all {value slice : Expr} {vs : List Value} {n : Nat} {Q : Value → Shared → Prop} (F : Fr h₀ L s.heap m) (N : News h₀ L s.heap news) (hm : (l, PySem.W.listOf vs.toArray n) ∈ news) (hz : vs.length < 1000)
    (h : ∀ D h', Fr h₀ L h' m → News h₀ L h' ((D, PySem.W.listOf vs.toArray 0) :: news) → (∀ p ∈ news, p.1 < D) → Q (.ref D) { s with heap := h' })
    (hs : subscripted slice false (.ref l) (.ref s.heap.objs.size) = operate [.ref s.heap.objs.size, .ref l] (getItem (.ref l) (.ref s.heap.objs.size)) := by with_unfolding_all rfl) (ht : ∀ r, letTemporaryGo value (.ref l) r = pure () := by intro _; with_unfolding_all rfl) :
    wpAny (model prog w) A (subscriptTail value slice (.ref l) (.ref s.heap.objs.size)) Q E { s with heap := s.heap.push { cls := .type "slice", data := .fields #[.none, .none, .none] } } := by
  refine kmk_slice F N (News.isList N hm) .none .none (fun D h' F' N' l1 => h D h' F' ?_ l1) hs ht (by rw [List.size_toArray, sizeLine_eq]; omega)
  rw [slicePick_all, Array.toArray_toList] at N' <;> exact N'
end
end Mine
namespace Mine
theorem off1_all {D : Addr} : ∀ {l : Led}, LCg.Off1 D l → ∀ p ∈ l, p.1 ≠ D
  | [], _, _, h => nomatch h
  | q :: r, h, p, hp => by
    rcases List.mem_cons.mp hp with rfl | hp
    · exact h.1
    · exact off1_all h.2 p hp
theorem strs_app : ∀ {vs ws : List Value} {xs ys : List Str}, StrsAre vs xs → StrsAre ws ys → StrsAre (vs ++ ws) (xs ++ ys)
  | _, _, _, _, .nil, h => h
  | _, _, _, _, .cons x t r, h => .cons x t (strs_app r h)
theorem says_items (w : World) (x dx l : Addr) (t : Tok) (vt : List Value) (n : Nat) (fr : Led) (m1 : (x, instObj 295 dx) ∈ fr) (m2 : (dx, hdD w.params t l) ∈ fr) (hm : (l, PySem.W.listOf vt.toArray n) ∈ fr) (hl : vt.length < 1000) :
    SaysAt w 20 200 259 [.ref x] fr (fun v news => (∃ D, Aa3 (v = .ref D) (news = (D, PySem.W.listOf vt.toArray 0) :: fr) ((∀ p ∈ fr, p.1 ≠ D)))) := by
  ((have hfill : Mine.hd.heap_39 = Mine.hd.heap_39 ∧ PySem.Challenge.rw_sn0098_01 = PySem.Challenge.rw_sn0098_01 := (by k_fill; exact ⟨rfl, rfl⟩)); clear hfill)
  unfold SaysAt
  intros
  rename_i hret
  refine wpAny_call ?_
  k_dflt walk_at "my enter"
  (repeat' (first | ((( (fail_if_success with_reducible first | refine st0 ?_ | refine st1 ?_ | refine st2 ?_ | refine st3 ?_))); (fail_if_success with_reducible first | refine st4 ?_ | refine st5 ?_ | refine st7 ?_ | refine st6 ?_ | refine st8 ?_ | refine st9 ?_); (first | ((with_reducible show wpAny _ _ (subscriptTail (PySem.Expr.Name _ _) (PySem.Expr.Slice _ _ _ _) (Value.ref _) (Value.ref _)) _ _ _); ((k_here; (with_reducible show wpAny _ _ (subscriptTail _ (PySem.Expr.Slice none none none _) (Value.ref _) (Value.ref _)) _ _ _); k_dflt (refine' my_slice_all (by k_asm) (by k_asm) (by k_mem) (by omega) ?_;  k_whole); intro _ _ _ _ _; (try k_sweep)))) | walk_at "mo"))))
  exact hret _ _ _ _ ⟨_, rfl, rfl, fun p hp => Nat.ne_of_lt ((by assumption : ∀ p ∈ fr, p.1 < _) p hp)⟩ (by k_asm) (by k_asm)
theorem says_values (w : World) (x dx l : Addr) (t : Tok) (vt : List Value) (n : Nat) (ds : List (Int × Int)) (fr : Led) (m1 : (x, instObj 295 dx) ∈ fr) (m2 : (dx, hdD w.params t l) ∈ fr) (hm : (l, PySem.W.listOf vt.toArray n) ∈ fr) (hp : PairsAt fr vt ds) (hl : vt.length < 1000) :
    SaysAt w 20 200 252 [.ref x] fr (fun v news => (Xx3 fun D ys ny => Aa4 (v = .ref D) (news = (D, PySem.W.listOf ys.toArray ny) :: fr) ((∀ p ∈ fr, p.1 ≠ D)) (StrsAre ys (ds.map fun p => decS p.2)))) := by
  ((have hfill : Mine.hd.heap_39 = Mine.hd.heap_39 ∧ PySem.Challenge.rw_sn0098_01 = PySem.Challenge.rw_sn0098_01 := (by k_fill; exact ⟨rfl, rfl⟩)); clear hfill)
  unfold SaysAt
  intros
  rename_i hret
  refine wpAny_call ?_
  k_dflt walk_at "my enter"
  (repeat' (first | ((( (fail_if_success with_reducible first | refine st0 ?_ | refine st1 ?_ | refine st2 ?_ | refine st3 ?_))); (fail_if_success with_reducible first | refine st4 ?_ | refine st5 ?_ | refine st7 ?_ | refine st6 ?_ | refine st8 ?_ | refine st9 ?_); (first | ((with_reducible show wpAny _ _ (subscriptTail (PySem.Expr.Name _ _) (PySem.Expr.Slice _ _ _ _) (Value.ref _) (Value.ref _)) _ _ _); ((k_here; (with_reducible show wpAny _ _ (subscriptTail _ (PySem.Expr.Slice none none none _) (Value.ref _) (Value.ref _)) _ _ _); k_dflt (refine' my_slice_all (by k_asm) (by k_asm) (by k_mem) (by omega) ?_;  k_whole); intro _ _ _ _ _; (try k_sweep)))) | walk_at "mo"))))
  ((k_here; k_dflt (refine LCp.ListComp_P (F₀ := by k_asm) (by with_unfolding_all rfl) (by decide) (by rfl) (by decide) (by rfl) (by rfl) (by decide) ?_)))
  (repeat' (first | ((( (fail_if_success with_reducible first | refine st0 ?_ | refine st1 ?_ | refine st2 ?_ | refine st3 ?_))); (fail_if_success with_reducible first | refine st4 ?_ | refine st5 ?_ | refine st7 ?_ | refine st6 ?_ | refine st8 ?_ | refine st9 ?_); (first | ((with_reducible show wpAny _ _ (subscriptTail (PySem.Expr.Name _ _) (PySem.Expr.Slice _ _ _ _) (Value.ref _) (Value.ref _)) _ _ _); ((k_here; (with_reducible show wpAny _ _ (subscriptTail _ (PySem.Expr.Slice none none none _) (Value.ref _) (Value.ref _)) _ _ _); k_dflt (refine' my_slice_all (by k_asm) (by k_asm) (by k_mem) (by omega) ?_;  k_whole); intro _ _ _ _ _; (try k_sweep)))) | walk_at "mo"))))
  (rename Fr _ _ _ _ => F9)
  (rename News _ _ _ _ => N9)
  have hvl := hp.len
  refine LCp.SrcLP.ledger (by rfl) F9 N9 hm (by rw [List.size_toArray]; simp only [sizeLine]; omega) fun g => ?_
  refine compP_ind (fun i ys => StrsAre ys ((ds.take i).map (fun p => decS p.2))) (.inr ⟨_, hm, rfl, _, rfl⟩) .nil ?_ ?_
  · intro i ys v hi' hJ hv
    refine gz0 fun Gz hGz => ?_
    obtain ⟨a, c, mm, t1, t2, rfl, hmem, hd⟩ := hp.get i v (by simpa using hv)
    refine hGz ?_
    clear hGz Gz
    refine ⟨a, _, _, _, _, rfl, hmem, rfl, rfl, ?_⟩
    intro I oI C oC D m₂ h tk E' a1 a2 a3 F N
    (repeat' (first | ((( (fail_if_success with_reducible first | refine st0 ?_ | refine st1 ?_ | refine st2 ?_ | refine st3 ?_))); (fail_if_success with_reducible first | refine st4 ?_ | refine st5 ?_ | refine st7 ?_ | refine st6 ?_ | refine st8 ?_ | refine st9 ?_); (first | ((with_reducible show wpAny _ _ (subscriptTail (PySem.Expr.Name _ _) (PySem.Expr.Slice _ _ _ _) (Value.ref _) (Value.ref _)) _ _ _); ((k_here; (with_reducible show wpAny _ _ (subscriptTail _ (PySem.Expr.Slice none none none _) (Value.ref _) (Value.ref _)) _ _ _); k_dflt (refine' my_slice_all (by k_asm) (by k_asm) (by k_mem) (by omega) ?_;  k_whole); intro _ _ _ _ _; (try k_sweep)))) | walk_at "mo"))))
    refine ElEnd.intro (by k_asm) (by k_asm) (fun p hp => hp) ?_
    rw [List.take_add_one, hd, List.map_append]
    exact strs_app hJ (.cons _ _ .nil)
  · intro ys hJ
    have hvs : vt.toArray.size = ds.length := by simp [hvl]
    rw [hvs, List.take_length] at hJ
    unfold LCg.FinE
    intro D h tk F N o1
    dsimp only
    (repeat' (first | ((( (fail_if_success with_reducible first | refine st0 ?_ | refine st1 ?_ | refine st2 ?_ | refine st3 ?_))); (fail_if_success with_reducible first | refine st4 ?_ | refine st5 ?_ | refine st7 ?_ | refine st6 ?_ | refine st8 ?_ | refine st9 ?_); (first | ((with_reducible show wpAny _ _ (subscriptTail (PySem.Expr.Name _ _) (PySem.Expr.Slice _ _ _ _) (Value.ref _) (Value.ref _)) _ _ _); ((k_here; (with_reducible show wpAny _ _ (subscriptTail _ (PySem.Expr.Slice none none none _) (Value.ref _) (Value.ref _)) _ _ _); k_dflt (refine' my_slice_all (by k_asm) (by k_asm) (by k_mem) (by omega) ?_;  k_whole); intro _ _ _ _ _; (try k_sweep)))) | walk_at "mo"))))
    exact hret _ _ _ _ ⟨_, _, _, rfl, rfl, off1_all o1, hJ⟩ (by k_asm) (by k_asm)
end Mine
-- C25
namespace Mine
section
variable {prog : Program} {w : World} {A : Around} {E : Value → Shared → Prop} {s : Shared} {h₀ : Heap} {L : Addr} {m : Str → Option Value} {news : Led}
theorem set_all {l sl D : Addr} {items its : Array Value} {nl nD : Nat} {Q : Unit → Shared → Prop} (hl : s.heap.get? l = some (PySem.W.listOf items nl)) (hs : s.heap.IsSliceOf sl .none .none .none) (hD : s.heap.get? D = some (PySem.W.listOf its nD)) (hne : l ≠ D)
    (h1 : items.size < 1000) (h2 : its.size < 1000) (hQ : ∀ h' n', Heap.SameBut l s.heap h' → h'.get? l = some (PySem.W.listOf its n') → Q () { s with heap := h' }) :
    wpAny (model prog w) A (setItem (.ref l) (.ref sl) (.ref D)) Q E s := by
  have hL : s.heap.IsList l items := ⟨_, hl, rfl, nl, rfl⟩
  have hLD : s.TypeIs (.ref D) "list" := ⟨_, hD, rfl⟩
  refine gz0 fun Gz hGz => ?_
  obtain ⟨os, hos, hcs, hds⟩ := id hs
  refine hGz ?_
  clear hGz Gz
  have hTs : s.TypeIs (.ref sl) "slice" := ⟨os, hos, hcs⟩
  have z1 : items.size ≤ sizeLine := by rw [sizeLine_eq]; omega
  have z2 : its.size ≤ sizeLine := by rw [sizeLine_eq]; omega
  have fin : Q () { s with heap := s.heap.update l (Obj.mapSeq fun xs => xs.extract 0 0 ++ its ++ xs.extract items.size xs.size) } := by
    have q := PySem.IsL.update hl fun xs => xs.extract 0 0 ++ its ++ xs.extract items.size xs.size
    have e : (items.extract 0 0 ++ its ++ items.extract items.size items.size) = its := by simp
    rw [e] at q
    exact hQ _ _ (Heap.SameBut.update ..) q
  unfold setItem
  try with_reducible refine wpAny_holding ?_
  first | refine wpAny_bind (wpAny_pure ?_) | skip
  refine wpAny_bind (wpAny_sequenceKey hL.typeIs (by decide) ?_)
  refine wpAny_bind (wpAny_callSpecial?_slot (name := Str.ofString "__setitem__") hL.typeIs slot_list_setitem
    (wpAny_call_entry slot_list_setitem hL.typeIs entry_list_setitem ?_ (args_list_setitem _ _ _)))
  show wpAny _ _ (Builtin.List.listSubscript? (.ref sl) >>= _) _ _ s
  refine wpAny_bind ?_
  unfold Builtin.List.listSubscript?
  refine wpAny_bind (wpAny_specialOf hTs slice_no_index ?_)
  simp only [Option.isNone_none, if_true]
  refine wpAny_pure ?_
  show wpAny _ _ (typeOf (.ref sl) >>= _) _ _ s
  refine wpAny_bind (wpAny_typeOf hTs ?_)
  rw [if_neg (by decide)]
  rw [listSliceParts_eq]
  refine wpAny_bind (wpAny_bind (wpAny_field hos hds (x := .none) rfl (wpAny_bind (wpAny_listPart .none ?_))))
  rw [if_neg (by exact Bool.false_ne_true)]
  refine wpAny_bind (wpAny_field hos hds (x := .none) rfl (wpAny_bind (wpAny_listPart .none ?_)))
  refine wpAny_bind (wpAny_field hos hds (x := .none) rfl (wpAny_bind (wpAny_listPart .none (wpAny_pure ?_))))
  show wpAny _ _ (if (l == D) = true then _ else _) _ _ _
  rw [if_neg (by simpa using hne)]
  refine wpAny_bind ?_
  unfold Builtin.List.listAllItems
  refine wpAny_bind (wpAny_typeOf hLD ?_)
  rw [if_pos (by decide)]
  have li : ∀ {A : Around} {a : Addr} {its : Array Value} {n : Nat} {Q : Array Value → Shared → Prop}, s.heap.get? a = some (PySem.W.listOf its n) → Q its s → wpAny (model prog w) A (Builtin.List.listItems (.ref a)) Q E s := fun ha hq => by
    unfold Builtin.List.listItems
    exact wpAny_bind (wpAny_seqItems ha rfl (wpAny_pure hq))
  first
    | refine wpAny_bind (m := Builtin.List.listItems (.ref D)) (li hD (wpAny_pure ?_))
    | refine li hD ?_
  refine wpAny_bind (li hl ?_)
  refine wpAny_bind (wpAny_of_eq (sliceIndices_raw none none none items.size (by simp)) ?_)
  have eb : sliceBounds none none none items.size = ((0 : Int), ((items.size : Nat) : Int), (1 : Int)) := by rfl
  rw [eb]
  rw [if_pos (by rfl)]
  refine wpAny_bind (wpAny_rule ?_)
  have et : Builtin.List.listTooLong (items.size + its.size) = false := by
    unfold Builtin.List.listTooLong
    rw [sizeLine_eq]
    exact decide_eq_false (by omega)
  rw [et]
  rw [if_neg (by decide)]
  have em : (max (0 : Int) ((items.size : Nat) : Int)).toNat = items.size := by omega
  show wpAny _ _ (do
    Builtin.List.listUpdate (Value.ref l) fun xs => xs.extract 0 (0 : Int).toNat ++ its ++ xs.extract (max (0 : Int) ((items.size : Nat) : Int)).toNat
    letGo (items.extract (0 : Int).toNat (max (0 : Int) ((items.size : Nat) : Int)).toNat).toList.reverse
    ret Value.none) _ _ _
  rw [em]
  refine wpAny_bind (m := Builtin.List.listUpdate (Value.ref l) _) ?_
  unfold Builtin.List.listUpdate
  refine wpAny_updateSeq hl rfl ?_ (hz := z1) (_hz' := ?_)
  · exact wpAny_bind (wpAny_letGo (wpAny_pure ⟨_, rfl, wpAny_pure fin⟩))
  · simp
    rw [sizeLine_eq]
    omega
theorem my_setslice {l D : Addr} {vs ys : List Value} {n nD : Nat} {g : Obj → Led} {Q : Unit → Shared → Prop} (F : Fr h₀ L s.heap m) (N : News h₀ L s.heap news) (U : UpdF l (PySem.W.listOf vs.toArray n) news g) (hD : (D, PySem.W.listOf ys.toArray nD) ∈ news) (hne : l ≠ D)
    (h1 : vs.length < 1000) (h2 : ys.length < 1000) (h : ∀ h' n', Fr h₀ L h' m → News h₀ L h' (g (PySem.W.listOf ys.toArray n')) → Q () { s with heap := h' }) :
    wpAny (model prog w) A (setItem (.ref l) (.ref s.heap.objs.size) (.ref D)) Q E { s with heap := s.heap.push { cls := .type "slice", data := .fields #[.none, .none, .none] } } := by
  refine gz0 fun Gz hGz => ?_
  obtain ⟨pre, post, rfl, hg, a, b⟩ := U.split
  refine hGz ?_
  clear hGz Gz
  have hl := N (l, PySem.W.listOf vs.toArray n) (List.mem_append_right _ (.head _))
  have up : ∀ b o, s.heap.get? b = some o → (s.heap.push { cls := .type "slice", data := .fields #[.none, .none, .none] }).get? b = some o := fun b o e => Heap.get?_push_of_some _ e
  have N' := N.grown up
  refine set_all (s := { s with heap := s.heap.push { cls := .type "slice", data := .fields #[.none, .none, .none] } }) (up _ _ hl.1) (Heap.IsSliceOf.new ..) (up _ _ (N _ hD).1) hne (by simpa using h1) (by simpa using h2) fun h' n' hsb ho => ?_
  refine h h' n' ((F.push _).change hsb hl.2.1 hl.2.2) ?_
  rw [hg]
  exact news_set N' a b hsb ho
end
end Mine
-- C26
namespace Mine
theorem lower_decs : (List.range 100).all (fun n => Txt.lower (decS (n : Nat)) == decS (n : Nat)) = true := by decide +kernel
theorem lower_dec {n : Int} (h0 : 0 ≤ n) (h1 : n < 100) : Txt.lower (decS n) = decS n := by
  have h := List.all_eq_true.mp lower_decs n.toNat (List.mem_range.mpr (by omega))
  have e : ((n.toNat : Nat) : Int) = n := by omega
  rw [e] at h
  exact eq_of_beq h
section
variable {prog : Program} {w : World} {A : Around} {E : Value → Shared → Prop} {s : Shared}
theorem my_lower {x : Str} {t : Tok} {Q : Value → Shared → Prop} (hx : Txt.lower x = x) (hl : x.length < 1000) (h : ∀ t' k, Q (.str x t') { s with toks := k }) : wpAny (model prog w) A (call (.builtin "str.lower") [.str x t]) Q E s := by
  refine SCL.lower ?_ fun _ => ?_
  · omega
  · rw [hx]
    exact h _ _
end
end Mine
namespace Mine
theorem len_decs : (List.range 100).all (fun n => decide ((decS (n : Nat)).length < 1000)) = true := by decide +kernel
theorem len_dec {n : Int} (h0 : 0 ≤ n) (h1 : n < 100) : (decS n).length < 1000 := by
  have h := List.all_eq_true.mp len_decs n.toNat (List.mem_range.mpr (by omega))
  have e : ((n.toNat : Nat) : Int) = n := by omega
  rw [e] at h
  exact of_decide_eq_true h
theorem dec_inj {a b : Int} (ha : 0 ≤ a ∧ a < 100) (hb : 0 ≤ b ∧ b < 100) (h : decS a = decS b) : a = b := by
  have h1 := KIN.num_reads (n := a) ha.1 (by omega)
  have h2 := KIN.num_reads (n := b) hb.1 (by omega)
  rw [show (Str.ofString (toString a)) = decS a from rfl, h] at h1
  exact Option.some.inj (h1.symm.trans h2)
theorem says_del (w : World) (x dx l : Addr) (t t2 : Tok) (c : Int) (vt : List Value) (n : Nat) (ds : List (Int × Int)) (tl sub : Led) (m1 : (x, instObj 295 dx) ∈ tl) (m2 : (dx, hdD w.params t l) ∈ tl) (hp : PairsAt sub vt ds) (hsub : ∀ p ∈ sub, p ∈ tl) (hf : Few ds) (hl : vt.length < 1000)
    (hc : 0 ≤ c ∧ c < 100) (ho : ∀ p ∈ tl, p.1 ≠ l) :
    SaysAt w 20 200 213 [.ref x, .str (decS c) t2] ((l, PySem.W.listOf vt.toArray n) :: tl) (fun v news => (Xx2 fun vt' n' => Aa3 (v = .none) (news = (l, PySem.W.listOf vt'.toArray n') :: tl) (PairsAt sub vt' (ds.filter fun p => p.1 != c)))) := by
  ((have hfill : Mine.hd.heap_39 = Mine.hd.heap_39 ∧ PySem.Challenge.rw_sn0098_01 = PySem.Challenge.rw_sn0098_01 := (by k_fill; exact ⟨rfl, rfl⟩)); clear hfill)
  unfold SaysAt
  intros
  rename_i hret
  have hl1 := lower_dec hc.1 hc.2
  have hl2 := clean_dec hc.1 hc.2
  have hl3 := len_dec hc.1 hc.2
  refine wpAny_call ?_
  k_dflt walk_at "my enterC"
  (repeat' (first | ((( (fail_if_success with_reducible first | refine st0 ?_ | refine st1 ?_ | refine st2 ?_ | refine st3 ?_))); (fail_if_success with_reducible first | refine st4 ?_ | refine st5 ?_ | refine st7 ?_ | refine st6 ?_ | refine st8 ?_ | refine st9 ?_); (first | ((k_here; (with_reducible show wpAny _ _ (getMethod (Value.ref 172) (Str.ofString "search") _) _ _ _); k_dflt (refine' get_172 (by k_asm) (by k_asm) ?_;  k_whole))) | ((k_here; (with_reducible show wpAny _ _ (getMethod (Value.ref 167) (Str.ofString "search") _) _ _ _); k_dflt (refine' get_167 (by k_asm) (by k_asm) ?_;  k_whole))) | ((k_here; (with_reducible show wpAny _ _ (getMethod (Value.ref _) (Str.ofString "pop") _) _ _ _); k_dflt (refine' my_get_pop (knd := PySem.intKind _ _) (by k_asm) (by k_mem) (by assumption) (by omega) ?_;  k_whole))) | ((k_here; (with_reducible show wpAny _ _ (call (Value.builtin "re.Pattern.search") [Value.ref 172, Value.str _ _]) _ _ _); k_dflt (refine' search_172 (by k_asm) (by k_asm) (by assumption) ?_;  k_whole))) | ((k_here; (with_reducible show wpAny _ _ (call (Value.builtin "re.Pattern.search") [Value.ref 167, Value.str _ _]) _ _ _); k_dflt (refine' search_167 (by k_asm) (by k_asm) (by assumption) ?_;  k_whole))) | ((with_reducible show wpAny _ _ (setItem (Value.ref _) (Value.ref _) _) _ _ _); ((k_here; k_dflt (refine' my_setslice (by k_asm) (by k_asm) (by k_updF) (by k_mem) (by first | assumption | k_ne) (by omega) (by omega) ?_;  ); intro _ _ _ _))) | ((with_reducible show wpAny _ _ (call (Value.builtin "str.lower") _) _ _ _); ((k_here; k_dflt (refine' my_lower (by assumption) (by first | assumption | omega) ?_;  k_whole); intro _ _; dsimp only))) | walk_at "mo"))))
  refine wpAny_call ?_
  k_dflt walk_at "my enter"
  (repeat' (first | ((( (fail_if_success with_reducible first | refine st0 ?_ | refine st1 ?_ | refine st2 ?_ | refine st3 ?_))); (fail_if_success with_reducible first | refine st4 ?_ | refine st5 ?_ | refine st7 ?_ | refine st6 ?_ | refine st8 ?_ | refine st9 ?_); (first | ((k_here; (with_reducible show wpAny _ _ (getMethod (Value.ref 172) (Str.ofString "search") _) _ _ _); k_dflt (refine' get_172 (by k_asm) (by k_asm) ?_;  k_whole))) | ((k_here; (with_reducible show wpAny _ _ (getMethod (Value.ref 167) (Str.ofString "search") _) _ _ _); k_dflt (refine' get_167 (by k_asm) (by k_asm) ?_;  k_whole))) | ((k_here; (with_reducible show wpAny _ _ (getMethod (Value.ref _) (Str.ofString "pop") _) _ _ _); k_dflt (refine' my_get_pop (knd := PySem.intKind _ _) (by k_asm) (by k_mem) (by assumption) (by omega) ?_;  k_whole))) | ((k_here; (with_reducible show wpAny _ _ (call (Value.builtin "re.Pattern.search") [Value.ref 172, Value.str _ _]) _ _ _); k_dflt (refine' search_172 (by k_asm) (by k_asm) (by assumption) ?_;  k_whole))) | ((k_here; (with_reducible show wpAny _ _ (call (Value.builtin "re.Pattern.search") [Value.ref 167, Value.str _ _]) _ _ _); k_dflt (refine' search_167 (by k_asm) (by k_asm) (by assumption) ?_;  k_whole))) | ((with_reducible show wpAny _ _ (setItem (Value.ref _) (Value.ref _) _) _ _ _); ((k_here; k_dflt (refine' my_setslice (by k_asm) (by k_asm) (by k_updF) (by k_mem) (by first | assumption | k_ne) (by omega) (by omega) ?_;  ); intro _ _ _ _))) | ((with_reducible show wpAny _ _ (call (Value.builtin "str.lower") _) _ _ _); ((k_here; k_dflt (refine' my_lower (by assumption) (by first | assumption | omega) ?_;  k_whole); intro _ _; dsimp only))) | walk_at "mo"))))
  rename_i D9 _ _ _ _ _ _
  (first | ((k_here; (with_reducible show wpAny _ _ (getMethod (Value.ref 172) (Str.ofString "search") _) _ _ _); k_dflt (refine' get_172 (by k_asm) (by k_asm) ?_;  k_whole))) | ((k_here; (with_reducible show wpAny _ _ (getMethod (Value.ref 167) (Str.ofString "search") _) _ _ _); k_dflt (refine' get_167 (by k_asm) (by k_asm) ?_;  k_whole))) | ((k_here; (with_reducible show wpAny _ _ (getMethod (Value.ref _) (Str.ofString "pop") _) _ _ _); k_dflt (refine' my_get_pop (knd := PySem.intKind _ _) (by k_asm) (by k_mem) (by assumption) (by omega) ?_;  k_whole))) | ((k_here; (with_reducible show wpAny _ _ (call (Value.builtin "re.Pattern.search") [Value.ref 172, Value.str _ _]) _ _ _); k_dflt (refine' search_172 (by k_asm) (by k_asm) (by assumption) ?_;  k_whole))) | ((k_here; (with_reducible show wpAny _ _ (call (Value.builtin "re.Pattern.search") [Value.ref 167, Value.str _ _]) _ _ _); k_dflt (refine' search_167 (by k_asm) (by k_asm) (by assumption) ?_;  k_whole))) | ((with_reducible show wpAny _ _ (setItem (Value.ref _) (Value.ref _) _) _ _ _); ((k_here; k_dflt (refine' my_setslice (by k_asm) (by k_asm) (by k_updF) (by k_mem) (by first | assumption | k_ne) (by omega) (by omega) ?_;  ); intro _ _ _ _))) | ((with_reducible show wpAny _ _ (call (Value.builtin "str.lower") _) _ _ _); ((k_here; k_dflt (refine' my_lower (by assumption) (by first | assumption | omega) ?_;  k_whole); intro _ _; dsimp only))) | walk_at "mo")
  ((k_here; k_dflt (refine LCt.ListComp_T (F₀ := by k_asm) (by with_unfolding_all rfl) (by decide) (by rfl) (by decide) (by rfl) ?_)))
  (repeat' (first | ((( (fail_if_success with_reducible first | refine st0 ?_ | refine st1 ?_ | refine st2 ?_ | refine st3 ?_))); (fail_if_success with_reducible first | refine st4 ?_ | refine st5 ?_ | refine st7 ?_ | refine st6 ?_ | refine st8 ?_ | refine st9 ?_); (first | ((k_here; (with_reducible show wpAny _ _ (getMethod (Value.ref 172) (Str.ofString "search") _) _ _ _); k_dflt (refine' get_172 (by k_asm) (by k_asm) ?_;  k_whole))) | ((k_here; (with_reducible show wpAny _ _ (getMethod (Value.ref 167) (Str.ofString "search") _) _ _ _); k_dflt (refine' get_167 (by k_asm) (by k_asm) ?_;  k_whole))) | ((k_here; (with_reducible show wpAny _ _ (getMethod (Value.ref _) (Str.ofString "pop") _) _ _ _); k_dflt (refine' my_get_pop (knd := PySem.intKind _ _) (by k_asm) (by k_mem) (by assumption) (by omega) ?_;  k_whole))) | ((k_here; (with_reducible show wpAny _ _ (call (Value.builtin "re.Pattern.search") [Value.ref 172, Value.str _ _]) _ _ _); k_dflt (refine' search_172 (by k_asm) (by k_asm) (by assumption) ?_;  k_whole))) | ((k_here; (with_reducible show wpAny _ _ (call (Value.builtin "re.Pattern.search") [Value.ref 167, Value.str _ _]) _ _ _); k_dflt (refine' search_167 (by k_asm) (by k_asm) (by assumption) ?_;  k_whole))) | ((with_reducible show wpAny _ _ (setItem (Value.ref _) (Value.ref _) _) _ _ _); ((k_here; k_dflt (refine' my_setslice (by k_asm) (by k_asm) (by k_updF) (by k_mem) (by first | assumption | k_ne) (by omega) (by omega) ?_;  ); intro _ _ _ _))) | ((with_reducible show wpAny _ _ (call (Value.builtin "str.lower") _) _ _ _); ((k_here; k_dflt (refine' my_lower (by assumption) (by first | assumption | omega) ?_;  k_whole); intro _ _; dsimp only))) | walk_at "mo"))))
  (rename Fr _ _ _ _ => F9)
  (rename News _ _ _ _ => N9)
  have hvl := hp.len
  refine LCt.CompSrcT.ledger (by rfl) F9 N9 (.tail _ (.head _)) (by rw [List.size_toArray]; simp only [sizeLine]; omega) fun g => ?_
  refine compT_ind (fun i ys => PairsAt sub ys ((ds.take i).filter (fun p => p.1 != c))) (.inr ⟨_, .tail _ (.head _), rfl, _, rfl⟩) .nil ?_ ?_
  · intro i ys v hi' hJ hv
    refine gz0 fun Gz hGz => ?_
    obtain ⟨a, cc, mm, t1, t2, rfl, hmem, hd⟩ := hp.get i v (by simpa using hv)
    refine hGz ?_
    clear hGz Gz
    have hmem2 := hsub _ hmem
    have hfd := hf _ (List.mem_of_getElem? hd)
    have hl4 := lower_dec hfd.1.1 hfd.1.2
    have hl5 := len_dec hfd.1.1 hfd.1.2
    intro I oI C oC D m₂ h tk E' a1 a2 F N
    (repeat' (first | ((( (fail_if_success with_reducible first | refine st0 ?_ | refine st1 ?_ | refine st2 ?_ | refine st3 ?_))); (fail_if_success with_reducible first | refine st4 ?_ | refine st5 ?_ | refine st7 ?_ | refine st6 ?_ | refine st8 ?_ | refine st9 ?_); (first | ((k_here; (with_reducible show wpAny _ _ (getMethod (Value.ref 172) (Str.ofString "search") _) _ _ _); k_dflt (refine' get_172 (by k_asm) (by k_asm) ?_;  k_whole))) | ((k_here; (with_reducible show wpAny _ _ (getMethod (Value.ref 167) (Str.ofString "search") _) _ _ _); k_dflt (refine' get_167 (by k_asm) (by k_asm) ?_;  k_whole))) | ((k_here; (with_reducible show wpAny _ _ (getMethod (Value.ref _) (Str.ofString "pop") _) _ _ _); k_dflt (refine' my_get_pop (knd := PySem.intKind _ _) (by k_asm) (by k_mem) (by assumption) (by omega) ?_;  k_whole))) | ((k_here; (with_reducible show wpAny _ _ (call (Value.builtin "re.Pattern.search") [Value.ref 172, Value.str _ _]) _ _ _); k_dflt (refine' search_172 (by k_asm) (by k_asm) (by assumption) ?_;  k_whole))) | ((k_here; (with_reducible show wpAny _ _ (call (Value.builtin "re.Pattern.search") [Value.ref 167, Value.str _ _]) _ _ _); k_dflt (refine' search_167 (by k_asm) (by k_asm) (by assumption) ?_;  k_whole))) | ((with_reducible show wpAny _ _ (setItem (Value.ref _) (Value.ref _) _) _ _ _); ((k_here; k_dflt (refine' my_setslice (by k_asm) (by k_asm) (by k_updF) (by k_mem) (by first | assumption | k_ne) (by omega) (by omega) ?_;  ); intro _ _ _ _))) | ((with_reducible show wpAny _ _ (call (Value.builtin "str.lower") _) _ _ _); ((k_here; k_dflt (refine' my_lower (by assumption) (by first | assumption | omega) ?_;  k_whole); intro _ _; dsimp only))) | walk_at "mo"))))
    · rename_i hne
      have hne2 : (cc != c) = true := bne_iff_ne.mpr fun e => bne_iff_ne.mp hne (by rw [e])
      refine ElEnd.intro (by k_asm) (by k_asm) (fun p hp => hp) ?_
      rw [List.take_add_one, hd, List.filter_append]
      simp only [Option.toList_some, List.filter_cons, hne2, if_true, List.filter_nil]
      exact hJ.snoc hmem
    · rename_i hne
      have hne2 : (cc != c) = false := by
        have h1 : decS cc = decS c := by simpa using hne
        have h2 := dec_inj hfd.1 hc h1
        simp only at h2
        simp [h2]
      refine ElEnd.intro (by k_asm) (by k_asm) (fun p hp => hp) ?_
      rw [List.take_add_one, hd, List.filter_append]
      simp only [Option.toList_some, List.filter_cons, hne2, Bool.false_eq_true, if_false, List.filter_nil, List.append_nil]
      exact hJ
  · intro ys hJ
    have hvs : vt.toArray.size = ds.length := by simp [hvl]
    rw [hvs, List.take_length] at hJ
    have hyl : ys.length < 1000 := by
      rw [hJ.len]
      exact Nat.lt_of_le_of_lt (List.length_filter_le _ _) (by omega)
    unfold LCg.FinE
    intro D h tk F N o1
    refine gz0 fun Gz hGz => ?_
    obtain ⟨_, e2, _⟩ := id o1
    refine hGz ?_
    clear hGz Gz
    dsimp only at e2
    dsimp only
    (repeat' (first | ((( (fail_if_success with_reducible first | refine st0 ?_ | refine st1 ?_ | refine st2 ?_ | refine st3 ?_))); (fail_if_success with_reducible first | refine st4 ?_ | refine st5 ?_ | refine st7 ?_ | refine st6 ?_ | refine st8 ?_ | refine st9 ?_); (first | ((k_here; (with_reducible show wpAny _ _ (getMethod (Value.ref 172) (Str.ofString "search") _) _ _ _); k_dflt (refine' get_172 (by k_asm) (by k_asm) ?_;  k_whole))) | ((k_here; (with_reducible show wpAny _ _ (getMethod (Value.ref 167) (Str.ofString "search") _) _ _ _); k_dflt (refine' get_167 (by k_asm) (by k_asm) ?_;  k_whole))) | ((k_here; (with_reducible show wpAny _ _ (getMethod (Value.ref _) (Str.ofString "pop") _) _ _ _); k_dflt (refine' my_get_pop (knd := PySem.intKind _ _) (by k_asm) (by k_mem) (by assumption) (by omega) ?_;  k_whole))) | ((k_here; (with_reducible show wpAny _ _ (call (Value.builtin "re.Pattern.search") [Value.ref 172, Value.str _ _]) _ _ _); k_dflt (refine' search_172 (by k_asm) (by k_asm) (by assumption) ?_;  k_whole))) | ((k_here; (with_reducible show wpAny _ _ (call (Value.builtin "re.Pattern.search") [Value.ref 167, Value.str _ _]) _ _ _); k_dflt (refine' search_167 (by k_asm) (by k_asm) (by assumption) ?_;  k_whole))) | ((with_reducible show wpAny _ _ (setItem (Value.ref _) (Value.ref _) _) _ _ _); ((k_here; k_dflt (refine' my_setslice (by k_asm) (by k_asm) (by k_updF) (by k_mem) (by first | assumption | k_ne) (by omega) (by omega) ?_;  ); intro _ _ _ _))) | ((with_reducible show wpAny _ _ (call (Value.builtin "str.lower") _) _ _ _); ((k_here; k_dflt (refine' my_lower (by assumption) (by first | assumption | omega) ?_;  k_whole); intro _ _; dsimp only))) | walk_at "mo"))))
    exact hret _ _ _ _ ⟨_, _, rfl, rfl, hJ⟩ (by k_asm) (news_sub (by k_asm) (by (((try simp only [List.cons_append, List.nil_append]); (repeat' (first | exact List.forall_mem_nil _ | refine List.forall_mem_cons.mpr ⟨?_, ?_⟩)) <;> (first | k_mem | (intro _ _; k_mem))))))
end Mine
-- C27
namespace Mine
inductive DoubtsAt (led : Led) : List Value → List (Int × Int) → Prop
  | nil : DoubtsAt led [] []
  | cons {a : Addr} {c m : Int} {t1 t2 : Tok} {vs : List Value} {ds : List (Int × Int)} : (a, tob [.int c t1, .int m t2]) ∈ led → DoubtsAt led vs ds → DoubtsAt led (.ref a :: vs) ((c, m) :: ds)
theorem DoubtsAt.len {led : Led} {vs : List Value} {ds : List (Int × Int)} (h : DoubtsAt led vs ds) : vs.length = ds.length := by
  induction h with
  | nil => rfl
  | cons _ _ ih => simp [ih]
theorem DoubtsAt.mono {led led' : Led} {vs : List Value} {ds : List (Int × Int)} (h : DoubtsAt led vs ds) (hs : ∀ p ∈ led, p ∈ led') : DoubtsAt led' vs ds := by
  induction h with
  | nil => exact .nil
  | cons hm _ ih => exact .cons (hs _ hm) ih
theorem DoubtsAt.snoc {led : Led} {vs : List Value} {ds : List (Int × Int)} {a : Addr} {c m : Int} {t1 t2 : Tok} (h : DoubtsAt led vs ds) (hm : (a, tob [.int c t1, .int m t2]) ∈ led) : DoubtsAt led (vs ++ [.ref a]) (ds ++ [(c, m)]) := by
  induction h with
  | nil => exact .cons hm .nil
  | cons hm' _ ih => exact .cons hm' ih
theorem strs_len {vs : List Value} {xs : List Str} (h : StrsAre vs xs) : vs.length = xs.length := by
  induction h with
  | nil => rfl
  | cons _ _ _ ih => simp [ih]
theorem strs_at {vs : List Value} {xs : List Str} (h : StrsAre vs xs) : ∀ (i : Nat) (v : Value), vs[i]? = some v → (Xx2 fun x t => v = .str x t ∧ xs[i]? = some x) := by
  induction h with
  | nil => intro i v hv; simp at hv
  | cons x t _ ih =>
    intro i v hv
    cases i with
    | zero => simp at hv; subst hv; exact ⟨_, _, rfl, rfl⟩
    | succ i => simpa using ih i v (by simpa using hv)
noncomputable def worthOf (ds : List (Int × Int)) : Int := (ds.map fun p => p.1 * p.2).sum
noncomputable def countOf (ds : List (Int × Int)) : Int := (ds.map fun p => p.2).sum
noncomputable def doubtGo : List Int → List (Int × Int) → List (Int × Int)
  | [], _ => []
  | c :: r, ds => (c + worthOf ds, 1 + countOf ds) :: doubtGo r (ds.filter fun p => p.1 != c)
noncomputable def doubtTop (ns : List Int) (i : Nat) : List (Int × Int) := doubtGo (ns.take (1 + i)) (toldF ns (ns.getD (1 + i) 0 - 1).toNat (ns.getD (1 + i) 0 - 1))
noncomputable def doubts (ns : List Int) : List (Int × Int) := (List.range (ns.length - 1)).flatMap (doubtTop ns)
section
variable {prog : Program} {w : World} {A : Around} {E : Value → Shared → Prop} {s : Shared}
theorem my_mul100 {a b : Int} {t u : Tok} {Q : Value → Shared → Prop} (ha0 : 0 ≤ a) (ha1 : a < 100) (hb0 : 0 ≤ b) (hb1 : b < 100)
    (h : ∀ tz tk, Q (.int (a * b) tz) { s with toks := tk }) : wpAny (model prog w) A (binaryOp .Mult (.int a t) (.int b u)) Q E s :=
  PyProof.Rows.mul_int (h _ _) (IntMulOk.of_left (bits_lt a 64 ha0 (by omega)))
theorem my_delItem {M : Model} {K : Frag} {x C L f : Addr} {h₀ : Heap} {m : Str → Option Value} {ox : Obj} {od : Option Obj} {i : Value} {Q : Unit → Shared → Prop} (F : Fr h₀ L s.heap m) (X₀ : K.In h₀) (I : InstAt s.heap x ox C od) (hq : noSeq K C = true)
    (hs : findIn K (.ref C) "__delitem__" = some (some (.ref f))) (hf : isFn K (.ref f) = true) (h : wpAny M A (call (.ref f) [.ref x, i]) (fun _ s' => Q () s') E s) : wpAny M A (delItem (.ref x) i) Q E s := by
  have X := X₀.keeps F.keep
  unfold delItem sequenceKey
  refine wpAny_holding (wpAny_bind (wpAny_bind (I.type.here ?_)))
  refine wpAny_bind ((anyM_none X hq).here ?_)
  rw [if_pos (show (!false) = true from rfl)]
  exact wpAny_pure (wpAny_bind (special_fn X I hs (beq_iff_eq.mp hf) (wpAny_mono h (fun _ _ z => wpAny_pure z) fun _ _ z => z)))
end
end Mine
namespace Mine
theorem toldF_few {ns : List Int} (hr : Row ns) (hsm : ∀ i, ns.getD i 0 < 100) : ∀ (k : Nat) (left : Int), left < 100 → Few (toldF ns k left)
  | 0, _, _, p, hp => nomatch hp
  | k + 1, left, h, p, hp => by
    simp only [toldF] at hp
    by_cases hl : left ≤ 0
    · rw [if_pos hl] at hp; cases hp
    · rw [if_neg hl] at hp
      refine gz0 fun Gz hGz => ?_
      obtain ⟨b1, b2, c1, c2⟩ := hr.coin (left := left) (by omega)
      refine hGz ?_
      clear hGz Gz
      have := hsm (bis ns left - 1)
      rcases List.mem_cons.mp hp with rfl | hp
      · exact ⟨⟨by omega, by omega⟩, Int.ediv_nonneg (by omega) (by omega), Int.lt_of_le_of_lt (Int.ediv_le_self _ (by omega)) h⟩
      · have m0 := Int.emod_nonneg left (show ns.getD (bis ns left - 1) 0 ≠ 0 by omega)
        have m1 := Int.emod_lt_of_pos left (show 0 < ns.getD (bis ns left - 1) 0 by omega)
        exact toldF_few hr hsm k _ (by omega) p hp
theorem says_doubts (l : Addr) (vs : List Value) (n : Nat) (ns : List Int) (fr : Led) (hm : (l, PySem.W.listOf vs.toArray n) ∈ fr) (hi : IntsAre vs ns) (hr : Row ns) (hW : Tabs fr) (h2 : 2 ≤ ns.length) (hsm : ∀ i, ns.getD i 0 < 100) :
    Says 130 900 342 [.ref l] fr (fun v news => (Xx4 fun D ys ny tl => Aa5 (v = .ref D) (news = (D, PySem.W.listOf ys.toArray ny) :: (tl ++ fr)) (DoubtsAt tl ys (doubts ns)) ((∀ p ∈ tl ++ fr, p.1 ≠ D)) ((∀ q ∈ tl, ∀ p ∈ fr, p.1 < q.1)))) := by
  ((have hfill : Mine.hd.heap_39 = Mine.hd.heap_39 ∧ PySem.Challenge.rw_sn0098_01 = PySem.Challenge.rw_sn0098_01 := (by k_fill; exact ⟨rfl, rfl⟩)); clear hfill)
  have hfew := hr.few
  intro w p0 loose mean mg mb dp un gd cn cs0 a0 ccd cl0 outer A₀ base0 h₀ L0 m0 s0 Q E B0 F0 X0 N0 T0 hk0 hd0 hu0 hret
  refine wpAny_call ?_
  k_dflt walk_at "my enter"
  (rename Fr _ _ _ _ => F)
  obtain ⟨m', F1⟩ := names_ex F [("row", .ref l)] (by ((repeat' (first | exact all_nil | refine all_cons rfl ?_))))
  clear F
  have hvl := hi.length
  (repeat' (first | (first | (k_here; (with_reducible show wpAny _ _ (call (Value.ref 332) _) _ _ _); k_dflt (refine' use_says (by k_asm) (by k_asm) (by k_asm) (by k_asm) (by k_asm) (by first | exact rfl | assumption) (by exact says_told _ _ _ _ _ _ _ (by k_mem) (by assumption) (by assumption) (by omega) (by assumption)) (by ktr_room) (by ktr_units) ?_); intro _ _ _ _ r9 _ _; (obtain ⟨_, _, _, _, e9, f9, _, _, _, _⟩ := r9); subst e9; subst f9; (try dsimp only))) | ((( (fail_if_success with_reducible first | refine st0 ?_ | refine st1 ?_ | refine st2 ?_ | refine st3 ?_))); (fail_if_success with_reducible first | refine st4 ?_ | refine st5 ?_ | refine st7 ?_ | refine st6 ?_ | refine st8 ?_ | refine st9 ?_); (first | ((with_reducible show wpAny _ _ (subscriptTail (PySem.Expr.Name _ _) (PySem.Expr.Name _ _) (Value.ref _) (Value.int _ _)) _ _ _); ((k_here; (with_reducible show wpAny _ _ (subscriptTail _ _ (Value.ref _) (Value.int _ _)) _ _ _); k_dflt (refine' my_item_ints (by k_asm) (by k_mem) (by (first | assumption | exact IntsAre.append (by assumption) (.cons _ _ .nil))) (by (((try walk_at "my clear"); first | omega | (simp only [List.length_append, List.length_cons, List.length_nil]; omega)))) (by (((try walk_at "my clear"); first | omega | (simp only [List.length_append, List.length_cons, List.length_nil]; omega)))) (by (((try walk_at "my clear"); first | omega | (simp only [List.length_append, List.length_cons, List.length_nil]; omega)))) ?_;  k_whole); intro _))) | ((with_reducible show wpAny _ _ (subscriptTail (PySem.Expr.Name _ _) (PySem.Expr.Name _ _) (Value.ref _) (Value.int _ _)) _ _ _); ((k_here; (with_reducible show wpAny _ _ (subscriptTail _ _ (Value.ref _) (Value.int _ _)) _ _ _); k_dflt (refine' my_item_ints (by k_asm) (by k_mem) (by assumption) (by omega) (by omega) (by omega) ?_;  k_whole); intro _))) | ((with_reducible show wpAny _ _ (call (Value.builtin "len") _) _ _ _); ((k_here; k_dflt (refine' my_len (by k_asm) (by k_mem) (by omega) ?_;  k_whole); intro _ _))) | ((with_reducible show wpAny _ _ (binaryOp Operator.Mult (Value.int _ _) (Value.int _ _)) _ _ _); ((k_here; k_dflt (refine' my_mul100 (by omega) (by omega) (by omega) (by omega) ?_;  k_whole); intro _ _; dsimp only))) | ((with_reducible show wpAny _ _ (binaryOp Operator.Mult (Value.int _ _) (Value.int _ _)) _ _ _); ((k_here; k_dflt (refine' my_mul (by omega) (by omega) (by omega) (by omega) ?_;  k_whole); intro _ _ _ _ _ _; dsimp only))) | ((with_reducible show wpAny _ _ (call (Value.builtin "list.append") _) _ _ _); ((k_here; k_dflt (refine' my_append (by k_asm) (by k_asm) (by k_upd) (by (((try walk_at "my clear"); first | omega | (simp only [List.length_append, List.length_cons, List.length_nil]; omega)))) ?_;  k_whole); intro _ _ _; (try dsimp only); (try k_sweep)))) | ((with_reducible show wpAny _ _ (call (Value.builtin "list.append") _) _ _ _); ((k_here; k_dflt (refine' my_append (by k_asm) (by k_asm) (by k_upd) (by first | omega | (simp only [List.length_cons, List.length_nil, List.length_append]; omega)) ?_;  k_whole); intro _ _ _; (try dsimp only); (try k_sweep)))) | ((k_here; (with_reducible show wpAny _ _ (getMethod (Value.ref 172) (Str.ofString "search") _) _ _ _); k_dflt (refine' get_172 (by k_asm) (by k_asm) ?_;  k_whole))) | ((k_here; (with_reducible show wpAny _ _ (getMethod (Value.ref 167) (Str.ofString "search") _) _ _ _); k_dflt (refine' get_167 (by k_asm) (by k_asm) ?_;  k_whole))) | ((k_here; (with_reducible show wpAny _ _ (getMethod (Value.ref _) (Str.ofString "pop") _) _ _ _); k_dflt (refine' my_get_pop (knd := PySem.intKind _ _) (by k_asm) (by k_mem) (by assumption) (by omega) ?_;  k_whole))) | ((k_here; (with_reducible show wpAny _ _ (call (Value.type "int") [Value.str _ _]) _ _ _); k_dflt (refine' KIN.call_text (by assumption) (by omega) ?_;  k_whole))) | ((with_reducible show wpAny _ _ (subscriptTail (PySem.Expr.Name _ _) (PySem.Expr.Slice _ _ _ _) (Value.ref _) (Value.ref _)) _ _ _); ((k_here; (with_reducible show wpAny _ _ (subscriptTail _ (PySem.Expr.Slice none none none _) (Value.ref _) (Value.ref _)) _ _ _); k_dflt (refine' my_slice_all (by k_asm) (by k_asm) (by k_mem) (by omega) ?_;  k_whole); intro _ _ _ _ _; (try k_sweep)))) | ((with_reducible show wpAny _ _ (delItem (Value.ref _) (Value.str _ _)) _ _ _); ((k_here; k_dflt (refine' my_delItem (by k_asm) (by k_asm) (by k_inst) (by k_is) (by k_is) (by k_is) ?_;  k_whole)))) | walk_at "mo"))))
  ((k_here; (with_unfolding_all refine' For_T ?_); k_whole))
  (repeat' (first | (first | (k_here; (with_reducible show wpAny _ _ (call (Value.ref 332) _) _ _ _); k_dflt (refine' use_says (by k_asm) (by k_asm) (by k_asm) (by k_asm) (by k_asm) (by first | exact rfl | assumption) (by exact says_told _ _ _ _ _ _ _ (by k_mem) (by assumption) (by assumption) (by omega) (by assumption)) (by ktr_room) (by ktr_units) ?_); intro _ _ _ _ r9 _ _; (obtain ⟨_, _, _, _, e9, f9, _, _, _, _⟩ := r9); subst e9; subst f9; (try dsimp only))) | ((( (fail_if_success with_reducible first | refine st0 ?_ | refine st1 ?_ | refine st2 ?_ | refine st3 ?_))); (fail_if_success with_reducible first | refine st4 ?_ | refine st5 ?_ | refine st7 ?_ | refine st6 ?_ | refine st8 ?_ | refine st9 ?_); (first | ((with_reducible show wpAny _ _ (subscriptTail (PySem.Expr.Name _ _) (PySem.Expr.Name _ _) (Value.ref _) (Value.int _ _)) _ _ _); ((k_here; (with_reducible show wpAny _ _ (subscriptTail _ _ (Value.ref _) (Value.int _ _)) _ _ _); k_dflt (refine' my_item_ints (by k_asm) (by k_mem) (by (first | assumption | exact IntsAre.append (by assumption) (.cons _ _ .nil))) (by (((try walk_at "my clear"); first | omega | (simp only [List.length_append, List.length_cons, List.length_nil]; omega)))) (by (((try walk_at "my clear"); first | omega | (simp only [List.length_append, List.length_cons, List.length_nil]; omega)))) (by (((try walk_at "my clear"); first | omega | (simp only [List.length_append, List.length_cons, List.length_nil]; omega)))) ?_;  k_whole); intro _))) | ((with_reducible show wpAny _ _ (subscriptTail (PySem.Expr.Name _ _) (PySem.Expr.Name _ _) (Value.ref _) (Value.int _ _)) _ _ _); ((k_here; (with_reducible show wpAny _ _ (subscriptTail _ _ (Value.ref _) (Value.int _ _)) _ _ _); k_dflt (refine' my_item_ints (by k_asm) (by k_mem) (by assumption) (by omega) (by omega) (by omega) ?_;  k_whole); intro _))) | ((with_reducible show wpAny _ _ (call (Value.builtin "len") _) _ _ _); ((k_here; k_dflt (refine' my_len (by k_asm) (by k_mem) (by omega) ?_;  k_whole); intro _ _))) | ((with_reducible show wpAny _ _ (binaryOp Operator.Mult (Value.int _ _) (Value.int _ _)) _ _ _); ((k_here; k_dflt (refine' my_mul100 (by omega) (by omega) (by omega) (by omega) ?_;  k_whole); intro _ _; dsimp only))) | ((with_reducible show wpAny _ _ (binaryOp Operator.Mult (Value.int _ _) (Value.int _ _)) _ _ _); ((k_here; k_dflt (refine' my_mul (by omega) (by omega) (by omega) (by omega) ?_;  k_whole); intro _ _ _ _ _ _; dsimp only))) | ((with_reducible show wpAny _ _ (call (Value.builtin "list.append") _) _ _ _); ((k_here; k_dflt (refine' my_append (by k_asm) (by k_asm) (by k_upd) (by (((try walk_at "my clear"); first | omega | (simp only [List.length_append, List.length_cons, List.length_nil]; omega)))) ?_;  k_whole); intro _ _ _; (try dsimp only); (try k_sweep)))) | ((with_reducible show wpAny _ _ (call (Value.builtin "list.append") _) _ _ _); ((k_here; k_dflt (refine' my_append (by k_asm) (by k_asm) (by k_upd) (by first | omega | (simp only [List.length_cons, List.length_nil, List.length_append]; omega)) ?_;  k_whole); intro _ _ _; (try dsimp only); (try k_sweep)))) | ((k_here; (with_reducible show wpAny _ _ (getMethod (Value.ref 172) (Str.ofString "search") _) _ _ _); k_dflt (refine' get_172 (by k_asm) (by k_asm) ?_;  k_whole))) | ((k_here; (with_reducible show wpAny _ _ (getMethod (Value.ref 167) (Str.ofString "search") _) _ _ _); k_dflt (refine' get_167 (by k_asm) (by k_asm) ?_;  k_whole))) | ((k_here; (with_reducible show wpAny _ _ (getMethod (Value.ref _) (Str.ofString "pop") _) _ _ _); k_dflt (refine' my_get_pop (knd := PySem.intKind _ _) (by k_asm) (by k_mem) (by assumption) (by omega) ?_;  k_whole))) | ((k_here; (with_reducible show wpAny _ _ (call (Value.type "int") [Value.str _ _]) _ _ _); k_dflt (refine' KIN.call_text (by assumption) (by omega) ?_;  k_whole))) | ((with_reducible show wpAny _ _ (subscriptTail (PySem.Expr.Name _ _) (PySem.Expr.Slice _ _ _ _) (Value.ref _) (Value.ref _)) _ _ _); ((k_here; (with_reducible show wpAny _ _ (subscriptTail _ (PySem.Expr.Slice none none none _) (Value.ref _) (Value.ref _)) _ _ _); k_dflt (refine' my_slice_all (by k_asm) (by k_asm) (by k_mem) (by omega) ?_;  k_whole); intro _ _ _ _ _; (try k_sweep)))) | ((with_reducible show wpAny _ _ (delItem (Value.ref _) (Value.str _ _)) _ _ _); ((k_here; k_dflt (refine' my_delItem (by k_asm) (by k_asm) (by k_inst) (by k_is) (by k_is) (by k_is) ?_;  k_whole)))) | walk_at "mo"))))
  (rename IsRange _ _ _ _ _ _ _ _ => hrange)
  (rename Fr _ _ _ _ => F2)
  (rename News _ _ _ _ => N2)
  obtain ⟨L, hL⟩ := fr_L F2
  subst hL
  rw [hvl] at *
  rename_i D _ l1 _ _ _ _ _ _ _ _ _ _ _ _
  refine loopRangeT (n := ns.length - 1) (fun i m nx => (Xx3 fun (ys : List Value) (ny : Nat) (tl : Led) => Aa6 (nx = (D, PySem.W.listOf ys.toArray ny) :: (tl ++ fr)) (HasN m [("row", .ref l), ("doubts", .ref D)]) (DoubtsAt tl ys ((List.range i).flatMap (doubtTop ns))) ((∀ p ∈ tl ++ fr, p.1 ≠ D)) (ys.length ≤ i * 64) ((∀ q ∈ tl, ∀ p ∈ fr, p.1 < q.1)))) ?_ hrange ?_ ?_ F2 N2 ?_ ?_ ?_ ?_
  · exact (by rfl)
  · exact small_one (by omega) (by omega) (by omega) (by omega)
  · rw [range_one (by omega)]; congr 1; omega
  · exact ⟨[], _, [], rfl, by ((repeat' (first | exact all_nil | refine all_cons rfl ?_))), .nil, fun p hp => Nat.ne_of_lt (l1 p hp), Nat.zero_le _, fun _ h => nomatch h⟩
  · intros; rfl
  · rintro i t m₁ nx h9 tk9 I oI hG hi9 hJz
    refine gz1 nx ?_
    intro Gz hGz
    obtain ⟨ys, ny, tl, rfl, hN, hda, hoD, hyl, hfr⟩ := hJz
    refine hGz _ ?_
    clear hGz Gz
    rintro ho F9 N9
    dsimp only [envOf] at F9 N9
    obtain ⟨m9, F9⟩ := names_ex F9 [("row", .ref l), ("doubts", .ref D)] hN
    have hrk := hr.at (1 + (i : Int)).toNat (by omega)
    have hW9 : Tabs ((I, oI) :: (D, PySem.W.listOf ys.toArray ny) :: (tl ++ fr)) := hW.mono fun p hp => .tail _ (.tail _ (List.mem_append_right _ hp))
    have hsk := hsm (1 + (i : Int)).toNat
    (repeat' (first | (first | (k_here; (with_reducible show wpAny _ _ (call (Value.ref 332) _) _ _ _); k_dflt (refine' use_says (by k_asm) (by k_asm) (by k_asm) (by k_asm) (by k_asm) (by first | exact rfl | assumption) (by exact says_told _ _ _ _ _ _ _ (by k_mem) (by assumption) (by assumption) (by omega) (by assumption)) (by ktr_room) (by ktr_units) ?_); intro _ _ _ _ r9 _ _; (obtain ⟨_, _, _, _, e9, f9, _, _, _, _⟩ := r9); subst e9; subst f9; (try dsimp only))) | ((( (fail_if_success with_reducible first | refine st0 ?_ | refine st1 ?_ | refine st2 ?_ | refine st3 ?_))); (fail_if_success with_reducible first | refine st4 ?_ | refine st5 ?_ | refine st7 ?_ | refine st6 ?_ | refine st8 ?_ | refine st9 ?_); (first | ((with_reducible show wpAny _ _ (subscriptTail (PySem.Expr.Name _ _) (PySem.Expr.Name _ _) (Value.ref _) (Value.int _ _)) _ _ _); ((k_here; (with_reducible show wpAny _ _ (subscriptTail _ _ (Value.ref _) (Value.int _ _)) _ _ _); k_dflt (refine' my_item_ints (by k_asm) (by k_mem) (by (first | assumption | exact IntsAre.append (by assumption) (.cons _ _ .nil))) (by (((try walk_at "my clear"); first | omega | (simp only [List.length_append, List.length_cons, List.length_nil]; omega)))) (by (((try walk_at "my clear"); first | omega | (simp only [List.length_append, List.length_cons, List.length_nil]; omega)))) (by (((try walk_at "my clear"); first | omega | (simp only [List.length_append, List.length_cons, List.length_nil]; omega)))) ?_;  k_whole); intro _))) | ((with_reducible show wpAny _ _ (subscriptTail (PySem.Expr.Name _ _) (PySem.Expr.Name _ _) (Value.ref _) (Value.int _ _)) _ _ _); ((k_here; (with_reducible show wpAny _ _ (subscriptTail _ _ (Value.ref _) (Value.int _ _)) _ _ _); k_dflt (refine' my_item_ints (by k_asm) (by k_mem) (by assumption) (by omega) (by omega) (by omega) ?_;  k_whole); intro _))) | ((with_reducible show wpAny _ _ (call (Value.builtin "len") _) _ _ _); ((k_here; k_dflt (refine' my_len (by k_asm) (by k_mem) (by omega) ?_;  k_whole); intro _ _))) | ((with_reducible show wpAny _ _ (binaryOp Operator.Mult (Value.int _ _) (Value.int _ _)) _ _ _); ((k_here; k_dflt (refine' my_mul100 (by omega) (by omega) (by omega) (by omega) ?_;  k_whole); intro _ _; dsimp only))) | ((with_reducible show wpAny _ _ (binaryOp Operator.Mult (Value.int _ _) (Value.int _ _)) _ _ _); ((k_here; k_dflt (refine' my_mul (by omega) (by omega) (by omega) (by omega) ?_;  k_whole); intro _ _ _ _ _ _; dsimp only))) | ((with_reducible show wpAny _ _ (call (Value.builtin "list.append") _) _ _ _); ((k_here; k_dflt (refine' my_append (by k_asm) (by k_asm) (by k_upd) (by (((try walk_at "my clear"); first | omega | (simp only [List.length_append, List.length_cons, List.length_nil]; omega)))) ?_;  k_whole); intro _ _ _; (try dsimp only); (try k_sweep)))) | ((with_reducible show wpAny _ _ (call (Value.builtin "list.append") _) _ _ _); ((k_here; k_dflt (refine' my_append (by k_asm) (by k_asm) (by k_upd) (by first | omega | (simp only [List.length_cons, List.length_nil, List.length_append]; omega)) ?_;  k_whole); intro _ _ _; (try dsimp only); (try k_sweep)))) | ((k_here; (with_reducible show wpAny _ _ (getMethod (Value.ref 172) (Str.ofString "search") _) _ _ _); k_dflt (refine' get_172 (by k_asm) (by k_asm) ?_;  k_whole))) | ((k_here; (with_reducible show wpAny _ _ (getMethod (Value.ref 167) (Str.ofString "search") _) _ _ _); k_dflt (refine' get_167 (by k_asm) (by k_asm) ?_;  k_whole))) | ((k_here; (with_reducible show wpAny _ _ (getMethod (Value.ref _) (Str.ofString "pop") _) _ _ _); k_dflt (refine' my_get_pop (knd := PySem.intKind _ _) (by k_asm) (by k_mem) (by assumption) (by omega) ?_;  k_whole))) | ((k_here; (with_reducible show wpAny _ _ (call (Value.type "int") [Value.str _ _]) _ _ _); k_dflt (refine' KIN.call_text (by assumption) (by omega) ?_;  k_whole))) | ((with_reducible show wpAny _ _ (subscriptTail (PySem.Expr.Name _ _) (PySem.Expr.Slice _ _ _ _) (Value.ref _) (Value.ref _)) _ _ _); ((k_here; (with_reducible show wpAny _ _ (subscriptTail _ (PySem.Expr.Slice none none none _) (Value.ref _) (Value.ref _)) _ _ _); k_dflt (refine' my_slice_all (by k_asm) (by k_asm) (by k_mem) (by omega) ?_;  k_whole); intro _ _ _ _ _; (try k_sweep)))) | ((with_reducible show wpAny _ _ (delItem (Value.ref _) (Value.str _ _)) _ _ _); ((k_here; k_dflt (refine' my_delItem (by k_asm) (by k_asm) (by k_inst) (by k_is) (by k_is) (by k_is) ?_;  k_whole)))) | walk_at "mo"))))
    rename_i lt vt nt tlT hp hoT hlT hmT N10
    obtain ⟨ds, hds⟩ : ∃ ds, ds = toldF ns (ns.getD (1 + (i : Int)).toNat 0 - 1).toNat (ns.getD (1 + (i : Int)).toNat 0 - 1) := ⟨_, rfl⟩
    have hfw : Few ds := hds ▸ toldF_few hr hsm _ _ (by omega)
    have hdl : ds.length < 100 := by
      have := toldF_len (ns := ns) (ns.getD (1 + (i : Int)).toNat 0 - 1).toNat (ns.getD (1 + (i : Int)).toNat 0 - 1)
      rw [hds]; omega
    rw [← hds] at hp
    refine' use_saysAt (by k_asm) (by k_asm) (by k_asm) ?uN13 (by k_asm) (by first | exact rfl | assumption) ?uC13 ?uD13 ?uU13 ?uR13
    case uN13 => k_asm
    case uC13 => exact says_hd _ _ _ _ _ _ (.head _) (hp.mono fun p hp => .tail _ (List.mem_append_left _ hp)) hfw
    case uD13 => ktr_room
    case uU13 => ktr_units
    rintro vZ h11 tk11 nZ hJz
    refine gz2 vZ nZ ?_
    intro Gz hGz
    obtain ⟨x, dx, tx, rfl, rfl, lx, lxx⟩ := hJz
    refine hGz _ _ ?_
    clear hGz Gz
    rintro F11 N11
    dsimp only
    (repeat' (first | (first | (k_here; (with_reducible show wpAny _ _ (call (Value.ref 332) _) _ _ _); k_dflt (refine' use_says (by k_asm) (by k_asm) (by k_asm) (by k_asm) (by k_asm) (by first | exact rfl | assumption) (by exact says_told _ _ _ _ _ _ _ (by k_mem) (by assumption) (by assumption) (by omega) (by assumption)) (by ktr_room) (by ktr_units) ?_); intro _ _ _ _ r9 _ _; (obtain ⟨_, _, _, _, e9, f9, _, _, _, _⟩ := r9); subst e9; subst f9; (try dsimp only))) | ((( (fail_if_success with_reducible first | refine st0 ?_ | refine st1 ?_ | refine st2 ?_ | refine st3 ?_))); (fail_if_success with_reducible first | refine st4 ?_ | refine st5 ?_ | refine st7 ?_ | refine st6 ?_ | refine st8 ?_ | refine st9 ?_); (first | ((with_reducible show wpAny _ _ (subscriptTail (PySem.Expr.Name _ _) (PySem.Expr.Name _ _) (Value.ref _) (Value.int _ _)) _ _ _); ((k_here; (with_reducible show wpAny _ _ (subscriptTail _ _ (Value.ref _) (Value.int _ _)) _ _ _); k_dflt (refine' my_item_ints (by k_asm) (by k_mem) (by (first | assumption | exact IntsAre.append (by assumption) (.cons _ _ .nil))) (by (((try walk_at "my clear"); first | omega | (simp only [List.length_append, List.length_cons, List.length_nil]; omega)))) (by (((try walk_at "my clear"); first | omega | (simp only [List.length_append, List.length_cons, List.length_nil]; omega)))) (by (((try walk_at "my clear"); first | omega | (simp only [List.length_append, List.length_cons, List.length_nil]; omega)))) ?_;  k_whole); intro _))) | ((with_reducible show wpAny _ _ (subscriptTail (PySem.Expr.Name _ _) (PySem.Expr.Name _ _) (Value.ref _) (Value.int _ _)) _ _ _); ((k_here; (with_reducible show wpAny _ _ (subscriptTail _ _ (Value.ref _) (Value.int _ _)) _ _ _); k_dflt (refine' my_item_ints (by k_asm) (by k_mem) (by assumption) (by omega) (by omega) (by omega) ?_;  k_whole); intro _))) | ((with_reducible show wpAny _ _ (call (Value.builtin "len") _) _ _ _); ((k_here; k_dflt (refine' my_len (by k_asm) (by k_mem) (by omega) ?_;  k_whole); intro _ _))) | ((with_reducible show wpAny _ _ (binaryOp Operator.Mult (Value.int _ _) (Value.int _ _)) _ _ _); ((k_here; k_dflt (refine' my_mul100 (by omega) (by omega) (by omega) (by omega) ?_;  k_whole); intro _ _; dsimp only))) | ((with_reducible show wpAny _ _ (binaryOp Operator.Mult (Value.int _ _) (Value.int _ _)) _ _ _); ((k_here; k_dflt (refine' my_mul (by omega) (by omega) (by omega) (by omega) ?_;  k_whole); intro _ _ _ _ _ _; dsimp only))) | ((with_reducible show wpAny _ _ (call (Value.builtin "list.append") _) _ _ _); ((k_here; k_dflt (refine' my_append (by k_asm) (by k_asm) (by k_upd) (by (((try walk_at "my clear"); first | omega | (simp only [List.length_append, List.length_cons, List.length_nil]; omega)))) ?_;  k_whole); intro _ _ _; (try dsimp only); (try k_sweep)))) | ((with_reducible show wpAny _ _ (call (Value.builtin "list.append") _) _ _ _); ((k_here; k_dflt (refine' my_append (by k_asm) (by k_asm) (by k_upd) (by first | omega | (simp only [List.length_cons, List.length_nil, List.length_append]; omega)) ?_;  k_whole); intro _ _ _; (try dsimp only); (try k_sweep)))) | ((k_here; (with_reducible show wpAny _ _ (getMethod (Value.ref 172) (Str.ofString "search") _) _ _ _); k_dflt (refine' get_172 (by k_asm) (by k_asm) ?_;  k_whole))) | ((k_here; (with_reducible show wpAny _ _ (getMethod (Value.ref 167) (Str.ofString "search") _) _ _ _); k_dflt (refine' get_167 (by k_asm) (by k_asm) ?_;  k_whole))) | ((k_here; (with_reducible show wpAny _ _ (getMethod (Value.ref _) (Str.ofString "pop") _) _ _ _); k_dflt (refine' my_get_pop (knd := PySem.intKind _ _) (by k_asm) (by k_mem) (by assumption) (by omega) ?_;  k_whole))) | ((k_here; (with_reducible show wpAny _ _ (call (Value.type "int") [Value.str _ _]) _ _ _); k_dflt (refine' KIN.call_text (by assumption) (by omega) ?_;  k_whole))) | ((with_reducible show wpAny _ _ (subscriptTail (PySem.Expr.Name _ _) (PySem.Expr.Slice _ _ _ _) (Value.ref _) (Value.ref _)) _ _ _); ((k_here; (with_reducible show wpAny _ _ (subscriptTail _ (PySem.Expr.Slice none none none _) (Value.ref _) (Value.ref _)) _ _ _); k_dflt (refine' my_slice_all (by k_asm) (by k_asm) (by k_mem) (by omega) ?_;  k_whole); intro _ _ _ _ _; (try k_sweep)))) | ((with_reducible show wpAny _ _ (delItem (Value.ref _) (Value.str _ _)) _ _ _); ((k_here; k_dflt (refine' my_delItem (by k_asm) (by k_asm) (by k_inst) (by k_is) (by k_is) (by k_is) ?_;  k_whole)))) | walk_at "mo"))))
    ((k_here; (with_unfolding_all refine' For_T ?_); k_whole))
    (repeat' (first | (first | (k_here; (with_reducible show wpAny _ _ (call (Value.ref 332) _) _ _ _); k_dflt (refine' use_says (by k_asm) (by k_asm) (by k_asm) (by k_asm) (by k_asm) (by first | exact rfl | assumption) (by exact says_told _ _ _ _ _ _ _ (by k_mem) (by assumption) (by assumption) (by omega) (by assumption)) (by ktr_room) (by ktr_units) ?_); intro _ _ _ _ r9 _ _; (obtain ⟨_, _, _, _, e9, f9, _, _, _, _⟩ := r9); subst e9; subst f9; (try dsimp only))) | ((( (fail_if_success with_reducible first | refine st0 ?_ | refine st1 ?_ | refine st2 ?_ | refine st3 ?_))); (fail_if_success with_reducible first | refine st4 ?_ | refine st5 ?_ | refine st7 ?_ | refine st6 ?_ | refine st8 ?_ | refine st9 ?_); (first | ((with_reducible show wpAny _ _ (subscriptTail (PySem.Expr.Name _ _) (PySem.Expr.Name _ _) (Value.ref _) (Value.int _ _)) _ _ _); ((k_here; (with_reducible show wpAny _ _ (subscriptTail _ _ (Value.ref _) (Value.int _ _)) _ _ _); k_dflt (refine' my_item_ints (by k_asm) (by k_mem) (by (first | assumption | exact IntsAre.append (by assumption) (.cons _ _ .nil))) (by (((try walk_at "my clear"); first | omega | (simp only [List.length_append, List.length_cons, List.length_nil]; omega)))) (by (((try walk_at "my clear"); first | omega | (simp only [List.length_append, List.length_cons, List.length_nil]; omega)))) (by (((try walk_at "my clear"); first | omega | (simp only [List.length_append, List.length_cons, List.length_nil]; omega)))) ?_;  k_whole); intro _))) | ((with_reducible show wpAny _ _ (subscriptTail (PySem.Expr.Name _ _) (PySem.Expr.Name _ _) (Value.ref _) (Value.int _ _)) _ _ _); ((k_here; (with_reducible show wpAny _ _ (subscriptTail _ _ (Value.ref _) (Value.int _ _)) _ _ _); k_dflt (refine' my_item_ints (by k_asm) (by k_mem) (by assumption) (by omega) (by omega) (by omega) ?_;  k_whole); intro _))) | ((with_reducible show wpAny _ _ (call (Value.builtin "len") _) _ _ _); ((k_here; k_dflt (refine' my_len (by k_asm) (by k_mem) (by omega) ?_;  k_whole); intro _ _))) | ((with_reducible show wpAny _ _ (binaryOp Operator.Mult (Value.int _ _) (Value.int _ _)) _ _ _); ((k_here; k_dflt (refine' my_mul100 (by omega) (by omega) (by omega) (by omega) ?_;  k_whole); intro _ _; dsimp only))) | ((with_reducible show wpAny _ _ (binaryOp Operator.Mult (Value.int _ _) (Value.int _ _)) _ _ _); ((k_here; k_dflt (refine' my_mul (by omega) (by omega) (by omega) (by omega) ?_;  k_whole); intro _ _ _ _ _ _; dsimp only))) | ((with_reducible show wpAny _ _ (call (Value.builtin "list.append") _) _ _ _); ((k_here; k_dflt (refine' my_append (by k_asm) (by k_asm) (by k_upd) (by (((try walk_at "my clear"); first | omega | (simp only [List.length_append, List.length_cons, List.length_nil]; omega)))) ?_;  k_whole); intro _ _ _; (try dsimp only); (try k_sweep)))) | ((with_reducible show wpAny _ _ (call (Value.builtin "list.append") _) _ _ _); ((k_here; k_dflt (refine' my_append (by k_asm) (by k_asm) (by k_upd) (by first | omega | (simp only [List.length_cons, List.length_nil, List.length_append]; omega)) ?_;  k_whole); intro _ _ _; (try dsimp only); (try k_sweep)))) | ((k_here; (with_reducible show wpAny _ _ (getMethod (Value.ref 172) (Str.ofString "search") _) _ _ _); k_dflt (refine' get_172 (by k_asm) (by k_asm) ?_;  k_whole))) | ((k_here; (with_reducible show wpAny _ _ (getMethod (Value.ref 167) (Str.ofString "search") _) _ _ _); k_dflt (refine' get_167 (by k_asm) (by k_asm) ?_;  k_whole))) | ((k_here; (with_reducible show wpAny _ _ (getMethod (Value.ref _) (Str.ofString "pop") _) _ _ _); k_dflt (refine' my_get_pop (knd := PySem.intKind _ _) (by k_asm) (by k_mem) (by assumption) (by omega) ?_;  k_whole))) | ((k_here; (with_reducible show wpAny _ _ (call (Value.type "int") [Value.str _ _]) _ _ _); k_dflt (refine' KIN.call_text (by assumption) (by omega) ?_;  k_whole))) | ((with_reducible show wpAny _ _ (subscriptTail (PySem.Expr.Name _ _) (PySem.Expr.Slice _ _ _ _) (Value.ref _) (Value.ref _)) _ _ _); ((k_here; (with_reducible show wpAny _ _ (subscriptTail _ (PySem.Expr.Slice none none none _) (Value.ref _) (Value.ref _)) _ _ _); k_dflt (refine' my_slice_all (by k_asm) (by k_asm) (by k_mem) (by omega) ?_;  k_whole); intro _ _ _ _ _; (try k_sweep)))) | ((with_reducible show wpAny _ _ (delItem (Value.ref _) (Value.str _ _)) _ _ _); ((k_here; k_dflt (refine' my_delItem (by k_asm) (by k_asm) (by k_inst) (by k_is) (by k_is) (by k_is) ?_;  k_whole)))) | walk_at "mo"))))
    rename_i h12 Dsl ws h13 F13 N13 hws hcl hcl2 lsl
    obtain ⟨cs, hcs⟩ : ∃ cs, cs = ns.take (1 + (i : Int)).toNat := ⟨_, rfl⟩
    rw [← hcs] at hws hcl hcl2
    have hwl := hws.length
    obtain ⟨base, hbase⟩ : ∃ b : Led, b = (Dsl, PySem.W.listOf ws.toArray 0) :: (x, instObj 295 dx) :: (dx, hdD w.params tx lt) :: (tlT ++ (I, oI) :: (tl ++ fr)) := ⟨_, rfl⟩
    have mS : (Dsl, PySem.W.listOf ws.toArray 0) ∈ base := hbase ▸ .head _
    have mX : (x, instObj 295 dx) ∈ base := hbase ▸ .tail _ (.head _)
    have mDx : (dx, hdD w.params tx lt) ∈ base := hbase ▸ .tail _ (.tail _ (.head _))
    have mT : ∀ p ∈ tlT, p ∈ base := fun p hp => hbase ▸ .tail _ (.tail _ (.tail _ (List.mem_append_left _ hp)))
    have mR : ∀ p ∈ (I, oI) :: (tl ++ fr), p ∈ base := fun p hp => hbase ▸ .tail _ (.tail _ (.tail _ (List.mem_append_right _ hp)))
    have hDlt : D < lt := hlT (D, _) (.tail _ (.head _))
    have dD : D < dx := lx (D, PySem.W.listOf ys.toArray ny) (by k_mem)
    have dlt : lt < dx := lx (lt, PySem.W.listOf vt.toArray nt) (by k_mem)
    have sD : D < Dsl := mem_allLt lsl.2.2.2 (D, PySem.W.listOf ys.toArray ny) (by k_mem)
    have offD : ∀ p ∈ base, p.1 ≠ D := by
      intro p hp
      rw [hbase] at hp
      simp only [List.mem_cons, List.mem_append] at hp
      rcases hp with rfl | rfl | rfl | hp | rfl | hp | hp
      · exact Ne.symm (Nat.ne_of_lt sD)
      · exact Ne.symm (Nat.ne_of_lt (Nat.lt_trans dD lxx))
      · exact Ne.symm (Nat.ne_of_lt dD)
      · exact Ne.symm (Nat.ne_of_lt (hmT (D, PySem.W.listOf ys.toArray ny) (by k_mem) p hp))
      · exact Ne.symm (ho (D, PySem.W.listOf ys.toArray ny) (by k_mem))
      · exact hoD p (List.mem_append_left _ hp)
      · exact hoD p (List.mem_append_right _ hp)
    have offlt : ∀ p ∈ base, p.1 ≠ lt := by
      intro p hp
      rw [hbase] at hp
      simp only [List.mem_cons, List.mem_append] at hp
      rcases hp with rfl | rfl | rfl | hp | rfl | hp | hp
      · exact Ne.symm (Nat.ne_of_lt lsl.2.2.1)
      · exact Ne.symm (Nat.ne_of_lt (Nat.lt_trans dlt lxx))
      · exact Ne.symm (Nat.ne_of_lt dlt)
      · exact hoT p hp
      · exact Nat.ne_of_lt (hlT (I, oI) (.head _))
      · exact Nat.ne_of_lt (hlT p (by k_mem))
      · exact Nat.ne_of_lt (hlT p (by k_mem))
    have N14 : News _ L h13 ((lt, PySem.W.listOf vt.toArray nt) :: (D, PySem.W.listOf ys.toArray ny) :: ([] ++ base)) := news_sub N13 (by
      intro p hp
      rw [hbase] at hp
      simp only [List.nil_append, List.mem_cons, List.mem_append] at hp ⊢
      rcases hp with h | h | h | h | h | h | h | h | h <;> simp [h])
    clear N13
    obtain ⟨acc, hacc⟩ : ∃ acc, acc = (List.range i).flatMap (doubtTop ns) := ⟨_, rfl⟩
    rw [← hacc] at hda
    refine loopLT (l := Dsl) (vs := ws) (nn := 0) (fun j m nx => (Xx7 fun (vt' : List Value) (n' : Nat) (ys' : List Value) (ny' : Nat) (tlD : Led) (dsj accj : List (Int × Int)) => Aa9 (nx = (lt, PySem.W.listOf vt'.toArray n') :: (D, PySem.W.listOf ys'.toArray ny') :: (tlD ++ base)) (HasN m [("row", .ref l), ("doubts", .ref D), ("purse", .ref x), ("top", .int (1 + i) t)]) (PairsAt base vt' dsj) (Few dsj) (dsj.length < 100) (DoubtsAt (tlD ++ tl) ys' accj) ((∀ p ∈ tlD, p.1 ≠ D ∧ p.1 ≠ lt ∧ p.1 ≠ I ∧ ∀ z ∈ fr, z.1 < p.1)) (accj ++ doubtGo (cs.drop j) dsj = acc ++ doubtGo cs ds) (ys'.length = ys.length + j))) ?_ ?_ F13 N14 ?_ ?_ ?_ ?_
    · exact (by rfl)
    · rintro j m nx hJz
      refine gz1 nx ?_
      intro Gz hGz
      obtain ⟨vt', n', ys', ny', tlD, dsj, accj, rfl, _⟩ := hJz
      refine hGz _ ?_
      clear hGz Gz
      exact .tail _ (.tail _ (List.mem_append_right _ mS))
    · exact ⟨vt, nt, ys, ny, [], ds, acc, rfl, by ((repeat' (first | exact all_nil | refine all_cons rfl ?_))), hp.mono mT, hfw, hdl, hda, fun _ h => (nomatch h), rfl, rfl⟩
    · intro j v I h tk Q hv hit hQ
      exact wpAny_of_eq rfl hQ
    · rintro j v m₂ nx h14 tk14 I2 oI2 hv hJz
      refine gz1 nx ?_
      intro Gz hGz
      obtain ⟨vt', n', ys', ny', tlD, dsj, accj, rfl, hN2, hpj, hfj, hdj, hdaj, hoj, hacj, hyj⟩ := hJz
      refine hGz _ ?_
      clear hGz Gz
      rintro ho2 F14 N14
      obtain ⟨m10, F14⟩ := names_ex F14 [("row", .ref l), ("doubts", .ref D), ("purse", .ref x), ("top", .int (1 + i) t)] hN2
      refine gz0 fun Gz hGz => ?_
      obtain ⟨c, tc, rfl, hcj⟩ := hws.at j v hv
      refine hGz ?_
      clear hGz Gz
      have hpl := hpj.len
      have hjl : j < cs.length := (List.getElem?_eq_some_iff.mp hcj).1
      have hcb : 1 ≤ c ∧ c < 100 := by
        have e : cs.getD j 0 = c := by simp [List.getD, hcj]
        rw [hcs, take_getD (by omega)] at e
        have q1 := hr.at j (by omega)
        have q2 := hsm j
        omega
      (repeat' (first | (first | (k_here; (with_reducible show wpAny _ _ (call (Value.ref 332) _) _ _ _); k_dflt (refine' use_says (by k_asm) (by k_asm) (by k_asm) (by k_asm) (by k_asm) (by first | exact rfl | assumption) (by exact says_told _ _ _ _ _ _ _ (by k_mem) (by assumption) (by assumption) (by omega) (by assumption)) (by ktr_room) (by ktr_units) ?_); intro _ _ _ _ r9 _ _; (obtain ⟨_, _, _, _, e9, f9, _, _, _, _⟩ := r9); subst e9; subst f9; (try dsimp only))) | ((( (fail_if_success with_reducible first | refine st0 ?_ | refine st1 ?_ | refine st2 ?_ | refine st3 ?_))); (fail_if_success with_reducible first | refine st4 ?_ | refine st5 ?_ | refine st7 ?_ | refine st6 ?_ | refine st8 ?_ | refine st9 ?_); (first | ((with_reducible show wpAny _ _ (subscriptTail (PySem.Expr.Name _ _) (PySem.Expr.Name _ _) (Value.ref _) (Value.int _ _)) _ _ _); ((k_here; (with_reducible show wpAny _ _ (subscriptTail _ _ (Value.ref _) (Value.int _ _)) _ _ _); k_dflt (refine' my_item_ints (by k_asm) (by k_mem) (by (first | assumption | exact IntsAre.append (by assumption) (.cons _ _ .nil))) (by (((try walk_at "my clear"); first | omega | (simp only [List.length_append, List.length_cons, List.length_nil]; omega)))) (by (((try walk_at "my clear"); first | omega | (simp only [List.length_append, List.length_cons, List.length_nil]; omega)))) (by (((try walk_at "my clear"); first | omega | (simp only [List.length_append, List.length_cons, List.length_nil]; omega)))) ?_;  k_whole); intro _))) | ((with_reducible show wpAny _ _ (subscriptTail (PySem.Expr.Name _ _) (PySem.Expr.Name _ _) (Value.ref _) (Value.int _ _)) _ _ _); ((k_here; (with_reducible show wpAny _ _ (subscriptTail _ _ (Value.ref _) (Value.int _ _)) _ _ _); k_dflt (refine' my_item_ints (by k_asm) (by k_mem) (by assumption) (by omega) (by omega) (by omega) ?_;  k_whole); intro _))) | ((with_reducible show wpAny _ _ (call (Value.builtin "len") _) _ _ _); ((k_here; k_dflt (refine' my_len (by k_asm) (by k_mem) (by omega) ?_;  k_whole); intro _ _))) | ((with_reducible show wpAny _ _ (binaryOp Operator.Mult (Value.int _ _) (Value.int _ _)) _ _ _); ((k_here; k_dflt (refine' my_mul100 (by omega) (by omega) (by omega) (by omega) ?_;  k_whole); intro _ _; dsimp only))) | ((with_reducible show wpAny _ _ (binaryOp Operator.Mult (Value.int _ _) (Value.int _ _)) _ _ _); ((k_here; k_dflt (refine' my_mul (by omega) (by omega) (by omega) (by omega) ?_;  k_whole); intro _ _ _ _ _ _; dsimp only))) | ((with_reducible show wpAny _ _ (call (Value.builtin "list.append") _) _ _ _); ((k_here; k_dflt (refine' my_append (by k_asm) (by k_asm) (by k_upd) (by (((try walk_at "my clear"); first | omega | (simp only [List.length_append, List.length_cons, List.length_nil]; omega)))) ?_;  k_whole); intro _ _ _; (try dsimp only); (try k_sweep)))) | ((with_reducible show wpAny _ _ (call (Value.builtin "list.append") _) _ _ _); ((k_here; k_dflt (refine' my_append (by k_asm) (by k_asm) (by k_upd) (by first | omega | (simp only [List.length_cons, List.length_nil, List.length_append]; omega)) ?_;  k_whole); intro _ _ _; (try dsimp only); (try k_sweep)))) | ((k_here; (with_reducible show wpAny _ _ (getMethod (Value.ref 172) (Str.ofString "search") _) _ _ _); k_dflt (refine' get_172 (by k_asm) (by k_asm) ?_;  k_whole))) | ((k_here; (with_reducible show wpAny _ _ (getMethod (Value.ref 167) (Str.ofString "search") _) _ _ _); k_dflt (refine' get_167 (by k_asm) (by k_asm) ?_;  k_whole))) | ((k_here; (with_reducible show wpAny _ _ (getMethod (Value.ref _) (Str.ofString "pop") _) _ _ _); k_dflt (refine' my_get_pop (knd := PySem.intKind _ _) (by k_asm) (by k_mem) (by assumption) (by omega) ?_;  k_whole))) | ((k_here; (with_reducible show wpAny _ _ (call (Value.type "int") [Value.str _ _]) _ _ _); k_dflt (refine' KIN.call_text (by assumption) (by omega) ?_;  k_whole))) | ((with_reducible show wpAny _ _ (subscriptTail (PySem.Expr.Name _ _) (PySem.Expr.Slice _ _ _ _) (Value.ref _) (Value.ref _)) _ _ _); ((k_here; (with_reducible show wpAny _ _ (subscriptTail _ (PySem.Expr.Slice none none none _) (Value.ref _) (Value.ref _)) _ _ _); k_dflt (refine' my_slice_all (by k_asm) (by k_asm) (by k_mem) (by omega) ?_;  k_whole); intro _ _ _ _ _; (try k_sweep)))) | ((with_reducible show wpAny _ _ (delItem (Value.ref _) (Value.str _ _)) _ _ _); ((k_here; k_dflt (refine' my_delItem (by k_asm) (by k_asm) (by k_inst) (by k_is) (by k_is) (by k_is) ?_;  k_whole)))) | walk_at "mo"))))
      ((k_here; k_dflt (refine LCp.ListComp_P (F₀ := by k_asm) (by with_unfolding_all rfl) (by decide) (by rfl) (by decide) (by rfl) (by rfl) (by decide) ?_)))
      (repeat' (first | (first | (k_here; (with_reducible show wpAny _ _ (call (Value.ref 332) _) _ _ _); k_dflt (refine' use_says (by k_asm) (by k_asm) (by k_asm) (by k_asm) (by k_asm) (by first | exact rfl | assumption) (by exact says_told _ _ _ _ _ _ _ (by k_mem) (by assumption) (by assumption) (by omega) (by assumption)) (by ktr_room) (by ktr_units) ?_); intro _ _ _ _ r9 _ _; (obtain ⟨_, _, _, _, e9, f9, _, _, _, _⟩ := r9); subst e9; subst f9; (try dsimp only))) | ((( (fail_if_success with_reducible first | refine st0 ?_ | refine st1 ?_ | refine st2 ?_ | refine st3 ?_))); (fail_if_success with_reducible first | refine st4 ?_ | refine st5 ?_ | refine st7 ?_ | refine st6 ?_ | refine st8 ?_ | refine st9 ?_); (first | ((with_reducible show wpAny _ _ (subscriptTail (PySem.Expr.Name _ _) (PySem.Expr.Name _ _) (Value.ref _) (Value.int _ _)) _ _ _); ((k_here; (with_reducible show wpAny _ _ (subscriptTail _ _ (Value.ref _) (Value.int _ _)) _ _ _); k_dflt (refine' my_item_ints (by k_asm) (by k_mem) (by (first | assumption | exact IntsAre.append (by assumption) (.cons _ _ .nil))) (by (((try walk_at "my clear"); first | omega | (simp only [List.length_append, List.length_cons, List.length_nil]; omega)))) (by (((try walk_at "my clear"); first | omega | (simp only [List.length_append, List.length_cons, List.length_nil]; omega)))) (by (((try walk_at "my clear"); first | omega | (simp only [List.length_append, List.length_cons, List.length_nil]; omega)))) ?_;  k_whole); intro _))) | ((with_reducible show wpAny _ _ (subscriptTail (PySem.Expr.Name _ _) (PySem.Expr.Name _ _) (Value.ref _) (Value.int _ _)) _ _ _); ((k_here; (with_reducible show wpAny _ _ (subscriptTail _ _ (Value.ref _) (Value.int _ _)) _ _ _); k_dflt (refine' my_item_ints (by k_asm) (by k_mem) (by assumption) (by omega) (by omega) (by omega) ?_;  k_whole); intro _))) | ((with_reducible show wpAny _ _ (call (Value.builtin "len") _) _ _ _); ((k_here; k_dflt (refine' my_len (by k_asm) (by k_mem) (by omega) ?_;  k_whole); intro _ _))) | ((with_reducible show wpAny _ _ (binaryOp Operator.Mult (Value.int _ _) (Value.int _ _)) _ _ _); ((k_here; k_dflt (refine' my_mul100 (by omega) (by omega) (by omega) (by omega) ?_;  k_whole); intro _ _; dsimp only))) | ((with_reducible show wpAny _ _ (binaryOp Operator.Mult (Value.int _ _) (Value.int _ _)) _ _ _); ((k_here; k_dflt (refine' my_mul (by omega) (by omega) (by omega) (by omega) ?_;  k_whole); intro _ _ _ _ _ _; dsimp only))) | ((with_reducible show wpAny _ _ (call (Value.builtin "list.append") _) _ _ _); ((k_here; k_dflt (refine' my_append (by k_asm) (by k_asm) (by k_upd) (by (((try walk_at "my clear"); first | omega | (simp only [List.length_append, List.length_cons, List.length_nil]; omega)))) ?_;  k_whole); intro _ _ _; (try dsimp only); (try k_sweep)))) | ((with_reducible show wpAny _ _ (call (Value.builtin "list.append") _) _ _ _); ((k_here; k_dflt (refine' my_append (by k_asm) (by k_asm) (by k_upd) (by first | omega | (simp only [List.length_cons, List.length_nil, List.length_append]; omega)) ?_;  k_whole); intro _ _ _; (try dsimp only); (try k_sweep)))) | ((k_here; (with_reducible show wpAny _ _ (getMethod (Value.ref 172) (Str.ofString "search") _) _ _ _); k_dflt (refine' get_172 (by k_asm) (by k_asm) ?_;  k_whole))) | ((k_here; (with_reducible show wpAny _ _ (getMethod (Value.ref 167) (Str.ofString "search") _) _ _ _); k_dflt (refine' get_167 (by k_asm) (by k_asm) ?_;  k_whole))) | ((k_here; (with_reducible show wpAny _ _ (getMethod (Value.ref _) (Str.ofString "pop") _) _ _ _); k_dflt (refine' my_get_pop (knd := PySem.intKind _ _) (by k_asm) (by k_mem) (by assumption) (by omega) ?_;  k_whole))) | ((k_here; (with_reducible show wpAny _ _ (call (Value.type "int") [Value.str _ _]) _ _ _); k_dflt (refine' KIN.call_text (by assumption) (by omega) ?_;  k_whole))) | ((with_reducible show wpAny _ _ (subscriptTail (PySem.Expr.Name _ _) (PySem.Expr.Slice _ _ _ _) (Value.ref _) (Value.ref _)) _ _ _); ((k_here; (with_reducible show wpAny _ _ (subscriptTail _ (PySem.Expr.Slice none none none _) (Value.ref _) (Value.ref _)) _ _ _); k_dflt (refine' my_slice_all (by k_asm) (by k_asm) (by k_mem) (by omega) ?_;  k_whole); intro _ _ _ _ _; (try k_sweep)))) | ((with_reducible show wpAny _ _ (delItem (Value.ref _) (Value.str _ _)) _ _ _); ((k_here; k_dflt (refine' my_delItem (by k_asm) (by k_asm) (by k_inst) (by k_is) (by k_is) (by k_is) ?_;  k_whole)))) | walk_at "mo"))))
      refine' use_saysAt (by k_asm) (by k_asm) (by k_asm) ?uN14 (by k_asm) (by first | exact rfl | assumption) ?uC14 ?uD14 ?uU14 ?uR14
      case uN14 => k_asm
      case uC14 => exact says_items w x dx lt tx vt' n' _ (by k_mem) (by k_mem) (by k_mem) (by omega)
      case uD14 => ktr_room
      case uU14 => ktr_units
      rintro vZ h15 tk15 nZ hJz
      refine gz2 vZ nZ ?_
      intro Gz hGz
      obtain ⟨D2, rfl, rfl, o2⟩ := hJz
      refine hGz _ _ ?_
      clear hGz Gz
      rintro F15 N15
      dsimp only
      (repeat' (first | (first | (k_here; (with_reducible show wpAny _ _ (call (Value.ref 332) _) _ _ _); k_dflt (refine' use_says (by k_asm) (by k_asm) (by k_asm) (by k_asm) (by k_asm) (by first | exact rfl | assumption) (by exact says_told _ _ _ _ _ _ _ (by k_mem) (by assumption) (by assumption) (by omega) (by assumption)) (by ktr_room) (by ktr_units) ?_); intro _ _ _ _ r9 _ _; (obtain ⟨_, _, _, _, e9, f9, _, _, _, _⟩ := r9); subst e9; subst f9; (try dsimp only))) | ((( (fail_if_success with_reducible first | refine st0 ?_ | refine st1 ?_ | refine st2 ?_ | refine st3 ?_))); (fail_if_success with_reducible first | refine st4 ?_ | refine st5 ?_ | refine st7 ?_ | refine st6 ?_ | refine st8 ?_ | refine st9 ?_); (first | ((with_reducible show wpAny _ _ (subscriptTail (PySem.Expr.Name _ _) (PySem.Expr.Name _ _) (Value.ref _) (Value.int _ _)) _ _ _); ((k_here; (with_reducible show wpAny _ _ (subscriptTail _ _ (Value.ref _) (Value.int _ _)) _ _ _); k_dflt (refine' my_item_ints (by k_asm) (by k_mem) (by (first | assumption | exact IntsAre.append (by assumption) (.cons _ _ .nil))) (by (((try walk_at "my clear"); first | omega | (simp only [List.length_append, List.length_cons, List.length_nil]; omega)))) (by (((try walk_at "my clear"); first | omega | (simp only [List.length_append, List.length_cons, List.length_nil]; omega)))) (by (((try walk_at "my clear"); first | omega | (simp only [List.length_append, List.length_cons, List.length_nil]; omega)))) ?_;  k_whole); intro _))) | ((with_reducible show wpAny _ _ (subscriptTail (PySem.Expr.Name _ _) (PySem.Expr.Name _ _) (Value.ref _) (Value.int _ _)) _ _ _); ((k_here; (with_reducible show wpAny _ _ (subscriptTail _ _ (Value.ref _) (Value.int _ _)) _ _ _); k_dflt (refine' my_item_ints (by k_asm) (by k_mem) (by assumption) (by omega) (by omega) (by omega) ?_;  k_whole); intro _))) | ((with_reducible show wpAny _ _ (call (Value.builtin "len") _) _ _ _); ((k_here; k_dflt (refine' my_len (by k_asm) (by k_mem) (by omega) ?_;  k_whole); intro _ _))) | ((with_reducible show wpAny _ _ (binaryOp Operator.Mult (Value.int _ _) (Value.int _ _)) _ _ _); ((k_here; k_dflt (refine' my_mul100 (by omega) (by omega) (by omega) (by omega) ?_;  k_whole); intro _ _; dsimp only))) | ((with_reducible show wpAny _ _ (binaryOp Operator.Mult (Value.int _ _) (Value.int _ _)) _ _ _); ((k_here; k_dflt (refine' my_mul (by omega) (by omega) (by omega) (by omega) ?_;  k_whole); intro _ _ _ _ _ _; dsimp only))) | ((with_reducible show wpAny _ _ (call (Value.builtin "list.append") _) _ _ _); ((k_here; k_dflt (refine' my_append (by k_asm) (by k_asm) (by k_upd) (by (((try walk_at "my clear"); first | omega | (simp only [List.length_append, List.length_cons, List.length_nil]; omega)))) ?_;  k_whole); intro _ _ _; (try dsimp only); (try k_sweep)))) | ((with_reducible show wpAny _ _ (call (Value.builtin "list.append") _) _ _ _); ((k_here; k_dflt (refine' my_append (by k_asm) (by k_asm) (by k_upd) (by first | omega | (simp only [List.length_cons, List.length_nil, List.length_append]; omega)) ?_;  k_whole); intro _ _ _; (try dsimp only); (try k_sweep)))) | ((k_here; (with_reducible show wpAny _ _ (getMethod (Value.ref 172) (Str.ofString "search") _) _ _ _); k_dflt (refine' get_172 (by k_asm) (by k_asm) ?_;  k_whole))) | ((k_here; (with_reducible show wpAny _ _ (getMethod (Value.ref 167) (Str.ofString "search") _) _ _ _); k_dflt (refine' get_167 (by k_asm) (by k_asm) ?_;  k_whole))) | ((k_here; (with_reducible show wpAny _ _ (getMethod (Value.ref _) (Str.ofString "pop") _) _ _ _); k_dflt (refine' my_get_pop (knd := PySem.intKind _ _) (by k_asm) (by k_mem) (by assumption) (by omega) ?_;  k_whole))) | ((k_here; (with_reducible show wpAny _ _ (call (Value.type "int") [Value.str _ _]) _ _ _); k_dflt (refine' KIN.call_text (by assumption) (by omega) ?_;  k_whole))) | ((with_reducible show wpAny _ _ (subscriptTail (PySem.Expr.Name _ _) (PySem.Expr.Slice _ _ _ _) (Value.ref _) (Value.ref _)) _ _ _); ((k_here; (with_reducible show wpAny _ _ (subscriptTail _ (PySem.Expr.Slice none none none _) (Value.ref _) (Value.ref _)) _ _ _); k_dflt (refine' my_slice_all (by k_asm) (by k_asm) (by k_mem) (by omega) ?_;  k_whole); intro _ _ _ _ _; (try k_sweep)))) | ((with_reducible show wpAny _ _ (delItem (Value.ref _) (Value.str _ _)) _ _ _); ((k_here; k_dflt (refine' my_delItem (by k_asm) (by k_asm) (by k_inst) (by k_is) (by k_is) (by k_is) ?_;  k_whole)))) | walk_at "mo"))))
      refine LCp.SrcLP.ledger (by rfl) F15 N15 (.head _) (by rw [List.size_toArray]; simp only [sizeLine]; omega) fun g => ?_
      refine compP_ind (fun i ys => IntsAre ys ((dsj.take i).map fun p => p.1 * p.2)) (.inr ⟨_, .head _, rfl, _, rfl⟩) .nil ?_ ?_
      · intro k zs v hk hJ hv
        refine gz0 fun Gz hGz => ?_
        obtain ⟨a, cc, mm, t1, t2, rfl, hmem, hd⟩ := hpj.get k v (by simpa using hv)
        refine hGz ?_
        clear hGz Gz
        refine ⟨a, _, _, _, _, rfl, by k_mem, rfl, rfl, ?_⟩
        intro I oI C oC D m₂ h tk E' a1 a2 a3 F N
        have hfd := hfj _ (List.mem_of_getElem? hd)
        dsimp only at hfd
        (repeat' (first | (first | (k_here; (with_reducible show wpAny _ _ (call (Value.ref 332) _) _ _ _); k_dflt (refine' use_says (by k_asm) (by k_asm) (by k_asm) (by k_asm) (by k_asm) (by first | exact rfl | assumption) (by exact says_told _ _ _ _ _ _ _ (by k_mem) (by assumption) (by assumption) (by omega) (by assumption)) (by ktr_room) (by ktr_units) ?_); intro _ _ _ _ r9 _ _; (obtain ⟨_, _, _, _, e9, f9, _, _, _, _⟩ := r9); subst e9; subst f9; (try dsimp only))) | ((( (fail_if_success with_reducible first | refine st0 ?_ | refine st1 ?_ | refine st2 ?_ | refine st3 ?_))); (fail_if_success with_reducible first | refine st4 ?_ | refine st5 ?_ | refine st7 ?_ | refine st6 ?_ | refine st8 ?_ | refine st9 ?_); (first | ((with_reducible show wpAny _ _ (subscriptTail (PySem.Expr.Name _ _) (PySem.Expr.Name _ _) (Value.ref _) (Value.int _ _)) _ _ _); ((k_here; (with_reducible show wpAny _ _ (subscriptTail _ _ (Value.ref _) (Value.int _ _)) _ _ _); k_dflt (refine' my_item_ints (by k_asm) (by k_mem) (by (first | assumption | exact IntsAre.append (by assumption) (.cons _ _ .nil))) (by (((try walk_at "my clear"); first | omega | (simp only [List.length_append, List.length_cons, List.length_nil]; omega)))) (by (((try walk_at "my clear"); first | omega | (simp only [List.length_append, List.length_cons, List.length_nil]; omega)))) (by (((try walk_at "my clear"); first | omega | (simp only [List.length_append, List.length_cons, List.length_nil]; omega)))) ?_;  k_whole); intro _))) | ((with_reducible show wpAny _ _ (subscriptTail (PySem.Expr.Name _ _) (PySem.Expr.Name _ _) (Value.ref _) (Value.int _ _)) _ _ _); ((k_here; (with_reducible show wpAny _ _ (subscriptTail _ _ (Value.ref _) (Value.int _ _)) _ _ _); k_dflt (refine' my_item_ints (by k_asm) (by k_mem) (by assumption) (by omega) (by omega) (by omega) ?_;  k_whole); intro _))) | ((with_reducible show wpAny _ _ (call (Value.builtin "len") _) _ _ _); ((k_here; k_dflt (refine' my_len (by k_asm) (by k_mem) (by omega) ?_;  k_whole); intro _ _))) | ((with_reducible show wpAny _ _ (binaryOp Operator.Mult (Value.int _ _) (Value.int _ _)) _ _ _); ((k_here; k_dflt (refine' my_mul100 (by omega) (by omega) (by omega) (by omega) ?_;  k_whole); intro _ _; dsimp only))) | ((with_reducible show wpAny _ _ (binaryOp Operator.Mult (Value.int _ _) (Value.int _ _)) _ _ _); ((k_here; k_dflt (refine' my_mul (by omega) (by omega) (by omega) (by omega) ?_;  k_whole); intro _ _ _ _ _ _; dsimp only))) | ((with_reducible show wpAny _ _ (call (Value.builtin "list.append") _) _ _ _); ((k_here; k_dflt (refine' my_append (by k_asm) (by k_asm) (by k_upd) (by (((try walk_at "my clear"); first | omega | (simp only [List.length_append, List.length_cons, List.length_nil]; omega)))) ?_;  k_whole); intro _ _ _; (try dsimp only); (try k_sweep)))) | ((with_reducible show wpAny _ _ (call (Value.builtin "list.append") _) _ _ _); ((k_here; k_dflt (refine' my_append (by k_asm) (by k_asm) (by k_upd) (by first | omega | (simp only [List.length_cons, List.length_nil, List.length_append]; omega)) ?_;  k_whole); intro _ _ _; (try dsimp only); (try k_sweep)))) | ((k_here; (with_reducible show wpAny _ _ (getMethod (Value.ref 172) (Str.ofString "search") _) _ _ _); k_dflt (refine' get_172 (by k_asm) (by k_asm) ?_;  k_whole))) | ((k_here; (with_reducible show wpAny _ _ (getMethod (Value.ref 167) (Str.ofString "search") _) _ _ _); k_dflt (refine' get_167 (by k_asm) (by k_asm) ?_;  k_whole))) | ((k_here; (with_reducible show wpAny _ _ (getMethod (Value.ref _) (Str.ofString "pop") _) _ _ _); k_dflt (refine' my_get_pop (knd := PySem.intKind _ _) (by k_asm) (by k_mem) (by assumption) (by omega) ?_;  k_whole))) | ((k_here; (with_reducible show wpAny _ _ (call (Value.type "int") [Value.str _ _]) _ _ _); k_dflt (refine' KIN.call_text (by assumption) (by omega) ?_;  k_whole))) | ((with_reducible show wpAny _ _ (subscriptTail (PySem.Expr.Name _ _) (PySem.Expr.Slice _ _ _ _) (Value.ref _) (Value.ref _)) _ _ _); ((k_here; (with_reducible show wpAny _ _ (subscriptTail _ (PySem.Expr.Slice none none none _) (Value.ref _) (Value.ref _)) _ _ _); k_dflt (refine' my_slice_all (by k_asm) (by k_asm) (by k_mem) (by omega) ?_;  k_whole); intro _ _ _ _ _; (try k_sweep)))) | ((with_reducible show wpAny _ _ (delItem (Value.ref _) (Value.str _ _)) _ _ _); ((k_here; k_dflt (refine' my_delItem (by k_asm) (by k_asm) (by k_inst) (by k_is) (by k_is) (by k_is) ?_;  k_whole)))) | walk_at "mo"))))
        refine ElEnd.intro (by k_asm) (by k_asm) (fun p hp => hp) ?_
        rw [List.take_add_one, hd, List.map_append]
        exact IntsAre.append hJ (.cons _ _ .nil)
      · intro zs hJ
        have hvs : vt'.toArray.size = dsj.length := by simp [hpl]
        rw [hvs, List.take_length] at hJ
        unfold LCg.FinE
        intro D3 h16 tk16 F16 N16 o3
        dsimp only
        (repeat' (first | (first | (k_here; (with_reducible show wpAny _ _ (call (Value.ref 332) _) _ _ _); k_dflt (refine' use_says (by k_asm) (by k_asm) (by k_asm) (by k_asm) (by k_asm) (by first | exact rfl | assumption) (by exact says_told _ _ _ _ _ _ _ (by k_mem) (by assumption) (by assumption) (by omega) (by assumption)) (by ktr_room) (by ktr_units) ?_); intro _ _ _ _ r9 _ _; (obtain ⟨_, _, _, _, e9, f9, _, _, _, _⟩ := r9); subst e9; subst f9; (try dsimp only))) | ((( (fail_if_success with_reducible first | refine st0 ?_ | refine st1 ?_ | refine st2 ?_ | refine st3 ?_))); (fail_if_success with_reducible first | refine st4 ?_ | refine st5 ?_ | refine st7 ?_ | refine st6 ?_ | refine st8 ?_ | refine st9 ?_); (first | ((with_reducible show wpAny _ _ (subscriptTail (PySem.Expr.Name _ _) (PySem.Expr.Name _ _) (Value.ref _) (Value.int _ _)) _ _ _); ((k_here; (with_reducible show wpAny _ _ (subscriptTail _ _ (Value.ref _) (Value.int _ _)) _ _ _); k_dflt (refine' my_item_ints (by k_asm) (by k_mem) (by (first | assumption | exact IntsAre.append (by assumption) (.cons _ _ .nil))) (by (((try walk_at "my clear"); first | omega | (simp only [List.length_append, List.length_cons, List.length_nil]; omega)))) (by (((try walk_at "my clear"); first | omega | (simp only [List.length_append, List.length_cons, List.length_nil]; omega)))) (by (((try walk_at "my clear"); first | omega | (simp only [List.length_append, List.length_cons, List.length_nil]; omega)))) ?_;  k_whole); intro _))) | ((with_reducible show wpAny _ _ (subscriptTail (PySem.Expr.Name _ _) (PySem.Expr.Name _ _) (Value.ref _) (Value.int _ _)) _ _ _); ((k_here; (with_reducible show wpAny _ _ (subscriptTail _ _ (Value.ref _) (Value.int _ _)) _ _ _); k_dflt (refine' my_item_ints (by k_asm) (by k_mem) (by assumption) (by omega) (by omega) (by omega) ?_;  k_whole); intro _))) | ((with_reducible show wpAny _ _ (call (Value.builtin "len") _) _ _ _); ((k_here; k_dflt (refine' my_len (by k_asm) (by k_mem) (by omega) ?_;  k_whole); intro _ _))) | ((with_reducible show wpAny _ _ (binaryOp Operator.Mult (Value.int _ _) (Value.int _ _)) _ _ _); ((k_here; k_dflt (refine' my_mul100 (by omega) (by omega) (by omega) (by omega) ?_;  k_whole); intro _ _; dsimp only))) | ((with_reducible show wpAny _ _ (binaryOp Operator.Mult (Value.int _ _) (Value.int _ _)) _ _ _); ((k_here; k_dflt (refine' my_mul (by omega) (by omega) (by omega) (by omega) ?_;  k_whole); intro _ _ _ _ _ _; dsimp only))) | ((with_reducible show wpAny _ _ (call (Value.builtin "list.append") _) _ _ _); ((k_here; k_dflt (refine' my_append (by k_asm) (by k_asm) (by k_upd) (by (((try walk_at "my clear"); first | omega | (simp only [List.length_append, List.length_cons, List.length_nil]; omega)))) ?_;  k_whole); intro _ _ _; (try dsimp only); (try k_sweep)))) | ((with_reducible show wpAny _ _ (call (Value.builtin "list.append") _) _ _ _); ((k_here; k_dflt (refine' my_append (by k_asm) (by k_asm) (by k_upd) (by first | omega | (simp only [List.length_cons, List.length_nil, List.length_append]; omega)) ?_;  k_whole); intro _ _ _; (try dsimp only); (try k_sweep)))) | ((k_here; (with_reducible show wpAny _ _ (getMethod (Value.ref 172) (Str.ofString "search") _) _ _ _); k_dflt (refine' get_172 (by k_asm) (by k_asm) ?_;  k_whole))) | ((k_here; (with_reducible show wpAny _ _ (getMethod (Value.ref 167) (Str.ofString "search") _) _ _ _); k_dflt (refine' get_167 (by k_asm) (by k_asm) ?_;  k_whole))) | ((k_here; (with_reducible show wpAny _ _ (getMethod (Value.ref _) (Str.ofString "pop") _) _ _ _); k_dflt (refine' my_get_pop (knd := PySem.intKind _ _) (by k_asm) (by k_mem) (by assumption) (by omega) ?_;  k_whole))) | ((k_here; (with_reducible show wpAny _ _ (call (Value.type "int") [Value.str _ _]) _ _ _); k_dflt (refine' KIN.call_text (by assumption) (by omega) ?_;  k_whole))) | ((with_reducible show wpAny _ _ (subscriptTail (PySem.Expr.Name _ _) (PySem.Expr.Slice _ _ _ _) (Value.ref _) (Value.ref _)) _ _ _); ((k_here; (with_reducible show wpAny _ _ (subscriptTail _ (PySem.Expr.Slice none none none _) (Value.ref _) (Value.ref _)) _ _ _); k_dflt (refine' my_slice_all (by k_asm) (by k_asm) (by k_mem) (by omega) ?_;  k_whole); intro _ _ _ _ _; (try k_sweep)))) | ((with_reducible show wpAny _ _ (delItem (Value.ref _) (Value.str _ _)) _ _ _); ((k_here; k_dflt (refine' my_delItem (by k_asm) (by k_asm) (by k_inst) (by k_is) (by k_is) (by k_is) ?_;  k_whole)))) | walk_at "mo"))))
        (rename News _ _ _ _ => N17)
        replace N17 : News _ _ _ ((I2, oI2) :: (lt, PySem.W.listOf vt'.toArray n') :: (D, PySem.W.listOf ys'.toArray ny') :: (tlD ++ base)) := news_sub N17 (by (((try simp only [List.cons_append, List.nil_append]); (repeat' (first | exact List.forall_mem_nil _ | refine List.forall_mem_cons.mpr ⟨?_, ?_⟩)) <;> (first | k_mem | (intro _ _; k_mem)))))
        clear o3 o2
        rename_i _ tw _ _ _
        ((k_here; k_dflt (refine LCg.ListComp_U (F₀ := by k_asm) (by with_unfolding_all rfl) (by decide) (by rfl) (by decide) (by rfl) ?_)))
        (repeat' (first | (first | (k_here; (with_reducible show wpAny _ _ (call (Value.ref 332) _) _ _ _); k_dflt (refine' use_says (by k_asm) (by k_asm) (by k_asm) (by k_asm) (by k_asm) (by first | exact rfl | assumption) (by exact says_told _ _ _ _ _ _ _ (by k_mem) (by assumption) (by assumption) (by omega) (by assumption)) (by ktr_room) (by ktr_units) ?_); intro _ _ _ _ r9 _ _; (obtain ⟨_, _, _, _, e9, f9, _, _, _, _⟩ := r9); subst e9; subst f9; (try dsimp only))) | ((( (fail_if_success with_reducible first | refine st0 ?_ | refine st1 ?_ | refine st2 ?_ | refine st3 ?_))); (fail_if_success with_reducible first | refine st4 ?_ | refine st5 ?_ | refine st7 ?_ | refine st6 ?_ | refine st8 ?_ | refine st9 ?_); (first | ((with_reducible show wpAny _ _ (subscriptTail (PySem.Expr.Name _ _) (PySem.Expr.Name _ _) (Value.ref _) (Value.int _ _)) _ _ _); ((k_here; (with_reducible show wpAny _ _ (subscriptTail _ _ (Value.ref _) (Value.int _ _)) _ _ _); k_dflt (refine' my_item_ints (by k_asm) (by k_mem) (by (first | assumption | exact IntsAre.append (by assumption) (.cons _ _ .nil))) (by (((try walk_at "my clear"); first | omega | (simp only [List.length_append, List.length_cons, List.length_nil]; omega)))) (by (((try walk_at "my clear"); first | omega | (simp only [List.length_append, List.length_cons, List.length_nil]; omega)))) (by (((try walk_at "my clear"); first | omega | (simp only [List.length_append, List.length_cons, List.length_nil]; omega)))) ?_;  k_whole); intro _))) | ((with_reducible show wpAny _ _ (subscriptTail (PySem.Expr.Name _ _) (PySem.Expr.Name _ _) (Value.ref _) (Value.int _ _)) _ _ _); ((k_here; (with_reducible show wpAny _ _ (subscriptTail _ _ (Value.ref _) (Value.int _ _)) _ _ _); k_dflt (refine' my_item_ints (by k_asm) (by k_mem) (by assumption) (by omega) (by omega) (by omega) ?_;  k_whole); intro _))) | ((with_reducible show wpAny _ _ (call (Value.builtin "len") _) _ _ _); ((k_here; k_dflt (refine' my_len (by k_asm) (by k_mem) (by omega) ?_;  k_whole); intro _ _))) | ((with_reducible show wpAny _ _ (binaryOp Operator.Mult (Value.int _ _) (Value.int _ _)) _ _ _); ((k_here; k_dflt (refine' my_mul100 (by omega) (by omega) (by omega) (by omega) ?_;  k_whole); intro _ _; dsimp only))) | ((with_reducible show wpAny _ _ (binaryOp Operator.Mult (Value.int _ _) (Value.int _ _)) _ _ _); ((k_here; k_dflt (refine' my_mul (by omega) (by omega) (by omega) (by omega) ?_;  k_whole); intro _ _ _ _ _ _; dsimp only))) | ((with_reducible show wpAny _ _ (call (Value.builtin "list.append") _) _ _ _); ((k_here; k_dflt (refine' my_append (by k_asm) (by k_asm) (by k_upd) (by (((try walk_at "my clear"); first | omega | (simp only [List.length_append, List.length_cons, List.length_nil]; omega)))) ?_;  k_whole); intro _ _ _; (try dsimp only); (try k_sweep)))) | ((with_reducible show wpAny _ _ (call (Value.builtin "list.append") _) _ _ _); ((k_here; k_dflt (refine' my_append (by k_asm) (by k_asm) (by k_upd) (by first | omega | (simp only [List.length_cons, List.length_nil, List.length_append]; omega)) ?_;  k_whole); intro _ _ _; (try dsimp only); (try k_sweep)))) | ((k_here; (with_reducible show wpAny _ _ (getMethod (Value.ref 172) (Str.ofString "search") _) _ _ _); k_dflt (refine' get_172 (by k_asm) (by k_asm) ?_;  k_whole))) | ((k_here; (with_reducible show wpAny _ _ (getMethod (Value.ref 167) (Str.ofString "search") _) _ _ _); k_dflt (refine' get_167 (by k_asm) (by k_asm) ?_;  k_whole))) | ((k_here; (with_reducible show wpAny _ _ (getMethod (Value.ref _) (Str.ofString "pop") _) _ _ _); k_dflt (refine' my_get_pop (knd := PySem.intKind _ _) (by k_asm) (by k_mem) (by assumption) (by omega) ?_;  k_whole))) | ((k_here; (with_reducible show wpAny _ _ (call (Value.type "int") [Value.str _ _]) _ _ _); k_dflt (refine' KIN.call_text (by assumption) (by omega) ?_;  k_whole))) | ((with_reducible show wpAny _ _ (subscriptTail (PySem.Expr.Name _ _) (PySem.Expr.Slice _ _ _ _) (Value.ref _) (Value.ref _)) _ _ _); ((k_here; (with_reducible show wpAny _ _ (subscriptTail _ (PySem.Expr.Slice none none none _) (Value.ref _) (Value.ref _)) _ _ _); k_dflt (refine' my_slice_all (by k_asm) (by k_asm) (by k_mem) (by omega) ?_;  k_whole); intro _ _ _ _ _; (try k_sweep)))) | ((with_reducible show wpAny _ _ (delItem (Value.ref _) (Value.str _ _)) _ _ _); ((k_here; k_dflt (refine' my_delItem (by k_asm) (by k_asm) (by k_inst) (by k_is) (by k_is) (by k_is) ?_;  k_whole)))) | walk_at "mo"))))
        refine' use_saysAt (by k_asm) (by k_asm) (by k_asm) ?uN15 (by k_asm) (by first | exact rfl | assumption) ?uC15 ?uD15 ?uU15 ?uR15
        case uN15 => k_asm
        case uC15 => exact says_values w x dx lt tx vt' n' dsj _ (by k_mem) (by k_mem) (by k_mem) (hpj.mono fun p hp => by k_mem) (by omega)
        case uD15 => ktr_room
        case uU15 => ktr_units
        rintro vZ h17 tk17 nZ hJz
        refine gz2 vZ nZ ?_
        intro Gz hGz
        obtain ⟨D4, ss, nss, rfl, rfl, o4, hss⟩ := hJz
        refine hGz _ _ ?_
        clear hGz Gz
        rintro F17 N18
        have hsl := strs_len hss
        rw [List.length_map] at hsl
        dsimp only
        (repeat' (first | (first | (k_here; (with_reducible show wpAny _ _ (call (Value.ref 332) _) _ _ _); k_dflt (refine' use_says (by k_asm) (by k_asm) (by k_asm) (by k_asm) (by k_asm) (by first | exact rfl | assumption) (by exact says_told _ _ _ _ _ _ _ (by k_mem) (by assumption) (by assumption) (by omega) (by assumption)) (by ktr_room) (by ktr_units) ?_); intro _ _ _ _ r9 _ _; (obtain ⟨_, _, _, _, e9, f9, _, _, _, _⟩ := r9); subst e9; subst f9; (try dsimp only))) | ((( (fail_if_success with_reducible first | refine st0 ?_ | refine st1 ?_ | refine st2 ?_ | refine st3 ?_))); (fail_if_success with_reducible first | refine st4 ?_ | refine st5 ?_ | refine st7 ?_ | refine st6 ?_ | refine st8 ?_ | refine st9 ?_); (first | ((with_reducible show wpAny _ _ (subscriptTail (PySem.Expr.Name _ _) (PySem.Expr.Name _ _) (Value.ref _) (Value.int _ _)) _ _ _); ((k_here; (with_reducible show wpAny _ _ (subscriptTail _ _ (Value.ref _) (Value.int _ _)) _ _ _); k_dflt (refine' my_item_ints (by k_asm) (by k_mem) (by (first | assumption | exact IntsAre.append (by assumption) (.cons _ _ .nil))) (by (((try walk_at "my clear"); first | omega | (simp only [List.length_append, List.length_cons, List.length_nil]; omega)))) (by (((try walk_at "my clear"); first | omega | (simp only [List.length_append, List.length_cons, List.length_nil]; omega)))) (by (((try walk_at "my clear"); first | omega | (simp only [List.length_append, List.length_cons, List.length_nil]; omega)))) ?_;  k_whole); intro _))) | ((with_reducible show wpAny _ _ (subscriptTail (PySem.Expr.Name _ _) (PySem.Expr.Name _ _) (Value.ref _) (Value.int _ _)) _ _ _); ((k_here; (with_reducible show wpAny _ _ (subscriptTail _ _ (Value.ref _) (Value.int _ _)) _ _ _); k_dflt (refine' my_item_ints (by k_asm) (by k_mem) (by assumption) (by omega) (by omega) (by omega) ?_;  k_whole); intro _))) | ((with_reducible show wpAny _ _ (call (Value.builtin "len") _) _ _ _); ((k_here; k_dflt (refine' my_len (by k_asm) (by k_mem) (by omega) ?_;  k_whole); intro _ _))) | ((with_reducible show wpAny _ _ (binaryOp Operator.Mult (Value.int _ _) (Value.int _ _)) _ _ _); ((k_here; k_dflt (refine' my_mul100 (by omega) (by omega) (by omega) (by omega) ?_;  k_whole); intro _ _; dsimp only))) | ((with_reducible show wpAny _ _ (binaryOp Operator.Mult (Value.int _ _) (Value.int _ _)) _ _ _); ((k_here; k_dflt (refine' my_mul (by omega) (by omega) (by omega) (by omega) ?_;  k_whole); intro _ _ _ _ _ _; dsimp only))) | ((with_reducible show wpAny _ _ (call (Value.builtin "list.append") _) _ _ _); ((k_here; k_dflt (refine' my_append (by k_asm) (by k_asm) (by k_upd) (by (((try walk_at "my clear"); first | omega | (simp only [List.length_append, List.length_cons, List.length_nil]; omega)))) ?_;  k_whole); intro _ _ _; (try dsimp only); (try k_sweep)))) | ((with_reducible show wpAny _ _ (call (Value.builtin "list.append") _) _ _ _); ((k_here; k_dflt (refine' my_append (by k_asm) (by k_asm) (by k_upd) (by first | omega | (simp only [List.length_cons, List.length_nil, List.length_append]; omega)) ?_;  k_whole); intro _ _ _; (try dsimp only); (try k_sweep)))) | ((k_here; (with_reducible show wpAny _ _ (getMethod (Value.ref 172) (Str.ofString "search") _) _ _ _); k_dflt (refine' get_172 (by k_asm) (by k_asm) ?_;  k_whole))) | ((k_here; (with_reducible show wpAny _ _ (getMethod (Value.ref 167) (Str.ofString "search") _) _ _ _); k_dflt (refine' get_167 (by k_asm) (by k_asm) ?_;  k_whole))) | ((k_here; (with_reducible show wpAny _ _ (getMethod (Value.ref _) (Str.ofString "pop") _) _ _ _); k_dflt (refine' my_get_pop (knd := PySem.intKind _ _) (by k_asm) (by k_mem) (by assumption) (by omega) ?_;  k_whole))) | ((k_here; (with_reducible show wpAny _ _ (call (Value.type "int") [Value.str _ _]) _ _ _); k_dflt (refine' KIN.call_text (by assumption) (by omega) ?_;  k_whole))) | ((with_reducible show wpAny _ _ (subscriptTail (PySem.Expr.Name _ _) (PySem.Expr.Slice _ _ _ _) (Value.ref _) (Value.ref _)) _ _ _); ((k_here; (with_reducible show wpAny _ _ (subscriptTail _ (PySem.Expr.Slice none none none _) (Value.ref _) (Value.ref _)) _ _ _); k_dflt (refine' my_slice_all (by k_asm) (by k_asm) (by k_mem) (by omega) ?_;  k_whole); intro _ _ _ _ _; (try k_sweep)))) | ((with_reducible show wpAny _ _ (delItem (Value.ref _) (Value.str _ _)) _ _ _); ((k_here; k_dflt (refine' my_delItem (by k_asm) (by k_asm) (by k_inst) (by k_is) (by k_is) (by k_is) ?_;  k_whole)))) | walk_at "mo"))))
        refine LCg.CompSrc.ledger (by rfl) F17 N18 (.head _) (by rw [List.size_toArray]; simp only [sizeLine]; omega) fun g => ?_
        refine comp_ind (fun i ys => IntsAre ys ((dsj.take i).map fun p => p.2)) (.inr ⟨_, .head _, rfl, _, rfl⟩) .nil ?_ ?_
        · intro k zs2 v hk hJ2 hv
          refine gz0 fun Gz hGz => ?_
          obtain ⟨xs, ts, rfl, hxs⟩ := strs_at hss k v (by simpa using hv)
          refine hGz ?_
          clear hGz Gz
          rw [List.getElem?_map] at hxs
          refine gz0 fun Gz hGz => ?_
          obtain ⟨⟨cc, mm⟩, hd, rfl⟩ := Option.map_eq_some_iff.mp hxs
          refine hGz ?_
          clear hGz Gz
          have hfd := hfj _ (List.mem_of_getElem? hd)
          dsimp only at hfd
          intro I oI C oC D m₂ h tk E' a1 a2 F N
          (repeat' (first | (first | (k_here; (with_reducible show wpAny _ _ (call (Value.ref 332) _) _ _ _); k_dflt (refine' use_says (by k_asm) (by k_asm) (by k_asm) (by k_asm) (by k_asm) (by first | exact rfl | assumption) (by exact says_told _ _ _ _ _ _ _ (by k_mem) (by assumption) (by assumption) (by omega) (by assumption)) (by ktr_room) (by ktr_units) ?_); intro _ _ _ _ r9 _ _; (obtain ⟨_, _, _, _, e9, f9, _, _, _, _⟩ := r9); subst e9; subst f9; (try dsimp only))) | ((( (fail_if_success with_reducible first | refine st0 ?_ | refine st1 ?_ | refine st2 ?_ | refine st3 ?_))); (fail_if_success with_reducible first | refine st4 ?_ | refine st5 ?_ | refine st7 ?_ | refine st6 ?_ | refine st8 ?_ | refine st9 ?_); (first | ((with_reducible show wpAny _ _ (subscriptTail (PySem.Expr.Name _ _) (PySem.Expr.Name _ _) (Value.ref _) (Value.int _ _)) _ _ _); ((k_here; (with_reducible show wpAny _ _ (subscriptTail _ _ (Value.ref _) (Value.int _ _)) _ _ _); k_dflt (refine' my_item_ints (by k_asm) (by k_mem) (by (first | assumption | exact IntsAre.append (by assumption) (.cons _ _ .nil))) (by (((try walk_at "my clear"); first | omega | (simp only [List.length_append, List.length_cons, List.length_nil]; omega)))) (by (((try walk_at "my clear"); first | omega | (simp only [List.length_append, List.length_cons, List.length_nil]; omega)))) (by (((try walk_at "my clear"); first | omega | (simp only [List.length_append, List.length_cons, List.length_nil]; omega)))) ?_;  k_whole); intro _))) | ((with_reducible show wpAny _ _ (subscriptTail (PySem.Expr.Name _ _) (PySem.Expr.Name _ _) (Value.ref _) (Value.int _ _)) _ _ _); ((k_here; (with_reducible show wpAny _ _ (subscriptTail _ _ (Value.ref _) (Value.int _ _)) _ _ _); k_dflt (refine' my_item_ints (by k_asm) (by k_mem) (by assumption) (by omega) (by omega) (by omega) ?_;  k_whole); intro _))) | ((with_reducible show wpAny _ _ (call (Value.builtin "len") _) _ _ _); ((k_here; k_dflt (refine' my_len (by k_asm) (by k_mem) (by omega) ?_;  k_whole); intro _ _))) | ((with_reducible show wpAny _ _ (binaryOp Operator.Mult (Value.int _ _) (Value.int _ _)) _ _ _); ((k_here; k_dflt (refine' my_mul100 (by omega) (by omega) (by omega) (by omega) ?_;  k_whole); intro _ _; dsimp only))) | ((with_reducible show wpAny _ _ (binaryOp Operator.Mult (Value.int _ _) (Value.int _ _)) _ _ _); ((k_here; k_dflt (refine' my_mul (by omega) (by omega) (by omega) (by omega) ?_;  k_whole); intro _ _ _ _ _ _; dsimp only))) | ((with_reducible show wpAny _ _ (call (Value.builtin "list.append") _) _ _ _); ((k_here; k_dflt (refine' my_append (by k_asm) (by k_asm) (by k_upd) (by (((try walk_at "my clear"); first | omega | (simp only [List.length_append, List.length_cons, List.length_nil]; omega)))) ?_;  k_whole); intro _ _ _; (try dsimp only); (try k_sweep)))) | ((with_reducible show wpAny _ _ (call (Value.builtin "list.append") _) _ _ _); ((k_here; k_dflt (refine' my_append (by k_asm) (by k_asm) (by k_upd) (by first | omega | (simp only [List.length_cons, List.length_nil, List.length_append]; omega)) ?_;  k_whole); intro _ _ _; (try dsimp only); (try k_sweep)))) | ((k_here; (with_reducible show wpAny _ _ (getMethod (Value.ref 172) (Str.ofString "search") _) _ _ _); k_dflt (refine' get_172 (by k_asm) (by k_asm) ?_;  k_whole))) | ((k_here; (with_reducible show wpAny _ _ (getMethod (Value.ref 167) (Str.ofString "search") _) _ _ _); k_dflt (refine' get_167 (by k_asm) (by k_asm) ?_;  k_whole))) | ((k_here; (with_reducible show wpAny _ _ (getMethod (Value.ref _) (Str.ofString "pop") _) _ _ _); k_dflt (refine' my_get_pop (knd := PySem.intKind _ _) (by k_asm) (by k_mem) (by assumption) (by omega) ?_;  k_whole))) | ((k_here; (with_reducible show wpAny _ _ (call (Value.type "int") [Value.str _ _]) _ _ _); k_dflt (refine' KIN.call_text (by assumption) (by omega) ?_;  k_whole))) | ((with_reducible show wpAny _ _ (subscriptTail (PySem.Expr.Name _ _) (PySem.Expr.Slice _ _ _ _) (Value.ref _) (Value.ref _)) _ _ _); ((k_here; (with_reducible show wpAny _ _ (subscriptTail _ (PySem.Expr.Slice none none none _) (Value.ref _) (Value.ref _)) _ _ _); k_dflt (refine' my_slice_all (by k_asm) (by k_asm) (by k_mem) (by omega) ?_;  k_whole); intro _ _ _ _ _; (try k_sweep)))) | ((with_reducible show wpAny _ _ (delItem (Value.ref _) (Value.str _ _)) _ _ _); ((k_here; k_dflt (refine' my_delItem (by k_asm) (by k_asm) (by k_inst) (by k_is) (by k_is) (by k_is) ?_;  k_whole)))) | walk_at "mo"))))
          refine ElEnd.intro (by k_asm) (by k_asm) (fun p hp => hp) ?_
          rw [List.take_add_one, hd, List.map_append]
          exact IntsAre.append hJ2 (.cons _ _ .nil)
        · intro zs2 hJ2
          have hvs2 : ss.toArray.size = dsj.length := by simp [hsl]
          rw [hvs2, List.take_length] at hJ2
          unfold LCg.FinE
          intro D5 h18 tk18 F18 N19 o5
          have q4 : @Ne Nat D4 D := fun e => o4 (D, PySem.W.listOf ys'.toArray ny') (by k_mem) e.symm
          have q5 : @Ne Nat D5 D := fun e => off1_all o5 (D, PySem.W.listOf ys'.toArray ny') (by k_mem) e.symm
          have q2 : @Ne Nat I2 D := fun e => ho2 (D, PySem.W.listOf ys'.toArray ny') (by k_mem) e.symm
          have q1 : @Ne Nat lt D := (Nat.ne_of_lt hDlt).symm
          have ql : D < lt := hDlt
          have qa : ∀ p ∈ tlD ++ base, p.1 ≠ D := off_app (fun p hp => (hoj p hp).1) offD
          dsimp only
          (repeat' (first | (first | (k_here; (with_reducible show wpAny _ _ (call (Value.ref 332) _) _ _ _); k_dflt (refine' use_says (by k_asm) (by k_asm) (by k_asm) (by k_asm) (by k_asm) (by first | exact rfl | assumption) (by exact says_told _ _ _ _ _ _ _ (by k_mem) (by assumption) (by assumption) (by omega) (by assumption)) (by ktr_room) (by ktr_units) ?_); intro _ _ _ _ r9 _ _; (obtain ⟨_, _, _, _, e9, f9, _, _, _, _⟩ := r9); subst e9; subst f9; (try dsimp only))) | ((( (fail_if_success with_reducible first | refine st0 ?_ | refine st1 ?_ | refine st2 ?_ | refine st3 ?_))); (fail_if_success with_reducible first | refine st4 ?_ | refine st5 ?_ | refine st7 ?_ | refine st6 ?_ | refine st8 ?_ | refine st9 ?_); (first | ((with_reducible show wpAny _ _ (subscriptTail (PySem.Expr.Name _ _) (PySem.Expr.Name _ _) (Value.ref _) (Value.int _ _)) _ _ _); ((k_here; (with_reducible show wpAny _ _ (subscriptTail _ _ (Value.ref _) (Value.int _ _)) _ _ _); k_dflt (refine' my_item_ints (by k_asm) (by k_mem) (by (first | assumption | exact IntsAre.append (by assumption) (.cons _ _ .nil))) (by (((try walk_at "my clear"); first | omega | (simp only [List.length_append, List.length_cons, List.length_nil]; omega)))) (by (((try walk_at "my clear"); first | omega | (simp only [List.length_append, List.length_cons, List.length_nil]; omega)))) (by (((try walk_at "my clear"); first | omega | (simp only [List.length_append, List.length_cons, List.length_nil]; omega)))) ?_;  k_whole); intro _))) | ((with_reducible show wpAny _ _ (subscriptTail (PySem.Expr.Name _ _) (PySem.Expr.Name _ _) (Value.ref _) (Value.int _ _)) _ _ _); ((k_here; (with_reducible show wpAny _ _ (subscriptTail _ _ (Value.ref _) (Value.int _ _)) _ _ _); k_dflt (refine' my_item_ints (by k_asm) (by k_mem) (by assumption) (by omega) (by omega) (by omega) ?_;  k_whole); intro _))) | ((with_reducible show wpAny _ _ (call (Value.builtin "len") _) _ _ _); ((k_here; k_dflt (refine' my_len (by k_asm) (by k_mem) (by omega) ?_;  k_whole); intro _ _))) | ((with_reducible show wpAny _ _ (binaryOp Operator.Mult (Value.int _ _) (Value.int _ _)) _ _ _); ((k_here; k_dflt (refine' my_mul100 (by omega) (by omega) (by omega) (by omega) ?_;  k_whole); intro _ _; dsimp only))) | ((with_reducible show wpAny _ _ (binaryOp Operator.Mult (Value.int _ _) (Value.int _ _)) _ _ _); ((k_here; k_dflt (refine' my_mul (by omega) (by omega) (by omega) (by omega) ?_;  k_whole); intro _ _ _ _ _ _; dsimp only))) | ((with_reducible show wpAny _ _ (call (Value.builtin "list.append") _) _ _ _); ((k_here; k_dflt (refine' my_append (by k_asm) (by k_asm) (by k_upd) (by (((try walk_at "my clear"); first | omega | (simp only [List.length_append, List.length_cons, List.length_nil]; omega)))) ?_;  k_whole); intro _ _ _; (try dsimp only); (try k_sweep)))) | ((with_reducible show wpAny _ _ (call (Value.builtin "list.append") _) _ _ _); ((k_here; k_dflt (refine' my_append (by k_asm) (by k_asm) (by k_upd) (by first | omega | (simp only [List.length_cons, List.length_nil, List.length_append]; omega)) ?_;  k_whole); intro _ _ _; (try dsimp only); (try k_sweep)))) | ((k_here; (with_reducible show wpAny _ _ (getMethod (Value.ref 172) (Str.ofString "search") _) _ _ _); k_dflt (refine' get_172 (by k_asm) (by k_asm) ?_;  k_whole))) | ((k_here; (with_reducible show wpAny _ _ (getMethod (Value.ref 167) (Str.ofString "search") _) _ _ _); k_dflt (refine' get_167 (by k_asm) (by k_asm) ?_;  k_whole))) | ((k_here; (with_reducible show wpAny _ _ (getMethod (Value.ref _) (Str.ofString "pop") _) _ _ _); k_dflt (refine' my_get_pop (knd := PySem.intKind _ _) (by k_asm) (by k_mem) (by assumption) (by omega) ?_;  k_whole))) | ((k_here; (with_reducible show wpAny _ _ (call (Value.type "int") [Value.str _ _]) _ _ _); k_dflt (refine' KIN.call_text (by assumption) (by omega) ?_;  k_whole))) | ((with_reducible show wpAny _ _ (subscriptTail (PySem.Expr.Name _ _) (PySem.Expr.Slice _ _ _ _) (Value.ref _) (Value.ref _)) _ _ _); ((k_here; (with_reducible show wpAny _ _ (subscriptTail _ (PySem.Expr.Slice none none none _) (Value.ref _) (Value.ref _)) _ _ _); k_dflt (refine' my_slice_all (by k_asm) (by k_asm) (by k_mem) (by omega) ?_;  k_whole); intro _ _ _ _ _; (try k_sweep)))) | ((with_reducible show wpAny _ _ (delItem (Value.ref _) (Value.str _ _)) _ _ _); ((k_here; k_dflt (refine' my_delItem (by k_asm) (by k_asm) (by k_inst) (by k_is) (by k_is) (by k_is) ?_;  k_whole)))) | walk_at "mo"))))
          rename_i _ tcn _ Dt _ ltt _ _ N20
          have qlt : ∀ p ∈ (D, PySem.W.listOf (ys' ++ [Value.ref Dt]).toArray (ny' + 1)) :: (I2, oI2) :: (((Dt, tob [.int (c + worthOf dsj) tw, .int (1 + countOf dsj) tcn]) :: tlD) ++ base), p.1 ≠ lt := by
            intro p hp
            simp only [List.mem_cons, List.mem_append] at hp
            rcases hp with rfl | rfl | (rfl | hp) | hp
            · exact q1.symm
            · exact Ne.symm (ho2 (lt, PySem.W.listOf vt'.toArray n') (.head _))
            · exact Ne.symm (Nat.ne_of_lt ltt.2.2.2.1)
            · exact (hoj p hp).2.1
            · exact offlt p hp
          refine' use_saysAt (by k_asm) (by k_asm) (by k_asm) ?uN16 (by k_asm) (by first | exact rfl | assumption) ?uC16 ?uD16 ?uU16 ?uR16
          case uN16 => exact news_sub (news' := (lt, PySem.W.listOf vt'.toArray n') :: (D, PySem.W.listOf (ys' ++ [Value.ref Dt]).toArray (ny' + 1)) :: (I2, oI2) :: (((Dt, tob [.int (c + worthOf dsj) tw, .int (1 + countOf dsj) tcn]) :: tlD) ++ base)) N20 (by (((try simp only [List.cons_append, List.nil_append]); (repeat' (first | exact List.forall_mem_nil _ | refine List.forall_mem_cons.mpr ⟨?_, ?_⟩)) <;> (first | k_mem | (intro _ _; k_mem)))))
          case uC16 => exact says_del w x dx lt tx _ c vt' n' dsj _ base (by k_mem) (by k_mem) hpj (fun p hp => by k_mem) hfj (by omega) (by omega) qlt
          case uD16 => ktr_room
          case uU16 => ktr_units
          rintro vZ h21 tk21 nZ hJz
          refine gz2 vZ nZ ?_
          intro Gz hGz
          obtain ⟨vt2, n2, rfl, rfl, hp2⟩ := hJz
          refine hGz _ _ ?_
          clear hGz Gz
          rintro F21 N21
          dsimp only
          (repeat' (first | (first | (k_here; (with_reducible show wpAny _ _ (call (Value.ref 332) _) _ _ _); k_dflt (refine' use_says (by k_asm) (by k_asm) (by k_asm) (by k_asm) (by k_asm) (by first | exact rfl | assumption) (by exact says_told _ _ _ _ _ _ _ (by k_mem) (by assumption) (by assumption) (by omega) (by assumption)) (by ktr_room) (by ktr_units) ?_); intro _ _ _ _ r9 _ _; (obtain ⟨_, _, _, _, e9, f9, _, _, _, _⟩ := r9); subst e9; subst f9; (try dsimp only))) | ((( (fail_if_success with_reducible first | refine st0 ?_ | refine st1 ?_ | refine st2 ?_ | refine st3 ?_))); (fail_if_success with_reducible first | refine st4 ?_ | refine st5 ?_ | refine st7 ?_ | refine st6 ?_ | refine st8 ?_ | refine st9 ?_); (first | ((with_reducible show wpAny _ _ (subscriptTail (PySem.Expr.Name _ _) (PySem.Expr.Name _ _) (Value.ref _) (Value.int _ _)) _ _ _); ((k_here; (with_reducible show wpAny _ _ (subscriptTail _ _ (Value.ref _) (Value.int _ _)) _ _ _); k_dflt (refine' my_item_ints (by k_asm) (by k_mem) (by (first | assumption | exact IntsAre.append (by assumption) (.cons _ _ .nil))) (by (((try walk_at "my clear"); first | omega | (simp only [List.length_append, List.length_cons, List.length_nil]; omega)))) (by (((try walk_at "my clear"); first | omega | (simp only [List.length_append, List.length_cons, List.length_nil]; omega)))) (by (((try walk_at "my clear"); first | omega | (simp only [List.length_append, List.length_cons, List.length_nil]; omega)))) ?_;  k_whole); intro _))) | ((with_reducible show wpAny _ _ (subscriptTail (PySem.Expr.Name _ _) (PySem.Expr.Name _ _) (Value.ref _) (Value.int _ _)) _ _ _); ((k_here; (with_reducible show wpAny _ _ (subscriptTail _ _ (Value.ref _) (Value.int _ _)) _ _ _); k_dflt (refine' my_item_ints (by k_asm) (by k_mem) (by assumption) (by omega) (by omega) (by omega) ?_;  k_whole); intro _))) | ((with_reducible show wpAny _ _ (call (Value.builtin "len") _) _ _ _); ((k_here; k_dflt (refine' my_len (by k_asm) (by k_mem) (by omega) ?_;  k_whole); intro _ _))) | ((with_reducible show wpAny _ _ (binaryOp Operator.Mult (Value.int _ _) (Value.int _ _)) _ _ _); ((k_here; k_dflt (refine' my_mul100 (by omega) (by omega) (by omega) (by omega) ?_;  k_whole); intro _ _; dsimp only))) | ((with_reducible show wpAny _ _ (binaryOp Operator.Mult (Value.int _ _) (Value.int _ _)) _ _ _); ((k_here; k_dflt (refine' my_mul (by omega) (by omega) (by omega) (by omega) ?_;  k_whole); intro _ _ _ _ _ _; dsimp only))) | ((with_reducible show wpAny _ _ (call (Value.builtin "list.append") _) _ _ _); ((k_here; k_dflt (refine' my_append (by k_asm) (by k_asm) (by k_upd) (by (((try walk_at "my clear"); first | omega | (simp only [List.length_append, List.length_cons, List.length_nil]; omega)))) ?_;  k_whole); intro _ _ _; (try dsimp only); (try k_sweep)))) | ((with_reducible show wpAny _ _ (call (Value.builtin "list.append") _) _ _ _); ((k_here; k_dflt (refine' my_append (by k_asm) (by k_asm) (by k_upd) (by first | omega | (simp only [List.length_cons, List.length_nil, List.length_append]; omega)) ?_;  k_whole); intro _ _ _; (try dsimp only); (try k_sweep)))) | ((k_here; (with_reducible show wpAny _ _ (getMethod (Value.ref 172) (Str.ofString "search") _) _ _ _); k_dflt (refine' get_172 (by k_asm) (by k_asm) ?_;  k_whole))) | ((k_here; (with_reducible show wpAny _ _ (getMethod (Value.ref 167) (Str.ofString "search") _) _ _ _); k_dflt (refine' get_167 (by k_asm) (by k_asm) ?_;  k_whole))) | ((k_here; (with_reducible show wpAny _ _ (getMethod (Value.ref _) (Str.ofString "pop") _) _ _ _); k_dflt (refine' my_get_pop (knd := PySem.intKind _ _) (by k_asm) (by k_mem) (by assumption) (by omega) ?_;  k_whole))) | ((k_here; (with_reducible show wpAny _ _ (call (Value.type "int") [Value.str _ _]) _ _ _); k_dflt (refine' KIN.call_text (by assumption) (by omega) ?_;  k_whole))) | ((with_reducible show wpAny _ _ (subscriptTail (PySem.Expr.Name _ _) (PySem.Expr.Slice _ _ _ _) (Value.ref _) (Value.ref _)) _ _ _); ((k_here; (with_reducible show wpAny _ _ (subscriptTail _ (PySem.Expr.Slice none none none _) (Value.ref _) (Value.ref _)) _ _ _); k_dflt (refine' my_slice_all (by k_asm) (by k_asm) (by k_mem) (by omega) ?_;  k_whole); intro _ _ _ _ _; (try k_sweep)))) | ((with_reducible show wpAny _ _ (delItem (Value.ref _) (Value.str _ _)) _ _ _); ((k_here; k_dflt (refine' my_delItem (by k_asm) (by k_asm) (by k_inst) (by k_is) (by k_is) (by k_is) ?_;  k_whole)))) | walk_at "mo"))))
          have hcs2 : cs.drop j = c :: cs.drop (j + 1) := by
            rw [List.drop_eq_getElem_cons hjl]
            congr 1
            rw [List.getElem?_eq_getElem hjl] at hcj
            exact Option.some.inj hcj
          rw [hcs2] at hacj
          simp only [doubtGo] at hacj
          refine TurnTo.intro (by k_asm) (by k_asm) (by (((try simp only [List.cons_append, List.nil_append]); (repeat' (first | exact List.forall_mem_nil _ | refine List.forall_mem_cons.mpr ⟨?_, ?_⟩)) <;> (first | k_mem | (intro _ _; k_mem))))) ?_ ⟨vt2, n2, ys' ++ [Value.ref Dt], ny' + 1, (Dt, tob [.int (c + worthOf dsj) tw, .int (1 + countOf dsj) tcn]) :: tlD, dsj.filter (fun p => p.1 != c), accj ++ [(c + worthOf dsj, 1 + countOf dsj)], rfl, by ((repeat' (first | exact all_nil | refine all_cons rfl ?_))), hp2,
            fun p hp => hfj p (List.mem_filter.mp hp).1, Nat.lt_of_le_of_lt (List.length_filter_le _ _) hdj, (hdaj.mono fun p hp => .tail _ hp).snoc (.head _), ?_, ?_, ?_⟩
          · intro p hp
            simp only [List.mem_cons, List.mem_append] at hp
            rcases hp with rfl | rfl | (rfl | hp) | hp
            · exact ho2 (lt, PySem.W.listOf vt'.toArray n') (.head _)
            · exact ho2 (D, PySem.W.listOf ys'.toArray ny') (.tail _ (.head _))
            · exact Ne.symm (Nat.ne_of_lt ltt.2.2.1)
            · exact ho2 p (by k_mem)
            · exact ho2 p (by k_mem)
          · intro p hp
            rcases List.mem_cons.mp hp with rfl | hp
            · exact ⟨Ne.symm (Nat.ne_of_lt ltt.2.2.2.2.1), Ne.symm (Nat.ne_of_lt ltt.2.2.2.1), Ne.symm (Nat.ne_of_lt (mem_allLt ltt.2.2.2.2.2 (I, oI) (List.mem_append_right _ (mR _ (.head _))))), fun z hz => mem_allLt ltt.2.2.2.2.2 z (List.mem_append_right _ (mR _ (.tail _ (List.mem_append_right _ hz))))⟩
            · exact hoj p hp
          · rw [List.append_assoc]
            exact hacj
          · rw [List.length_append]
            simp
            omega
    · rintro m₂ nx h14 tk14 hJz
      refine gz1 nx ?_
      intro Gz hGz
      obtain ⟨vt', n', ys', ny', tlD, dsj, accj, rfl, hN2, hpj, hfj, hdj, hdaj, hoj, hacj, hyj⟩ := hJz
      refine hGz _ ?_
      clear hGz Gz
      rintro F14 N14
      obtain ⟨m10, F14⟩ := names_ex F14 [("row", .ref l), ("doubts", .ref D)] (fun p hp => hN2 p (by simp only [List.mem_cons, List.not_mem_nil, or_false] at hp ⊢; rcases hp with h | h <;> simp [h]))
      (repeat' (first | (first | (k_here; (with_reducible show wpAny _ _ (call (Value.ref 332) _) _ _ _); k_dflt (refine' use_says (by k_asm) (by k_asm) (by k_asm) (by k_asm) (by k_asm) (by first | exact rfl | assumption) (by exact says_told _ _ _ _ _ _ _ (by k_mem) (by assumption) (by assumption) (by omega) (by assumption)) (by ktr_room) (by ktr_units) ?_); intro _ _ _ _ r9 _ _; (obtain ⟨_, _, _, _, e9, f9, _, _, _, _⟩ := r9); subst e9; subst f9; (try dsimp only))) | ((( (fail_if_success with_reducible first | refine st0 ?_ | refine st1 ?_ | refine st2 ?_ | refine st3 ?_))); (fail_if_success with_reducible first | refine st4 ?_ | refine st5 ?_ | refine st7 ?_ | refine st6 ?_ | refine st8 ?_ | refine st9 ?_); (first | ((with_reducible show wpAny _ _ (subscriptTail (PySem.Expr.Name _ _) (PySem.Expr.Name _ _) (Value.ref _) (Value.int _ _)) _ _ _); ((k_here; (with_reducible show wpAny _ _ (subscriptTail _ _ (Value.ref _) (Value.int _ _)) _ _ _); k_dflt (refine' my_item_ints (by k_asm) (by k_mem) (by (first | assumption | exact IntsAre.append (by assumption) (.cons _ _ .nil))) (by (((try walk_at "my clear"); first | omega | (simp only [List.length_append, List.length_cons, List.length_nil]; omega)))) (by (((try walk_at "my clear"); first | omega | (simp only [List.length_append, List.length_cons, List.length_nil]; omega)))) (by (((try walk_at "my clear"); first | omega | (simp only [List.length_append, List.length_cons, List.length_nil]; omega)))) ?_;  k_whole); intro _))) | ((with_reducible show wpAny _ _ (subscriptTail (PySem.Expr.Name _ _) (PySem.Expr.Name _ _) (Value.ref _) (Value.int _ _)) _ _ _); ((k_here; (with_reducible show wpAny _ _ (subscriptTail _ _ (Value.ref _) (Value.int _ _)) _ _ _); k_dflt (refine' my_item_ints (by k_asm) (by k_mem) (by assumption) (by omega) (by omega) (by omega) ?_;  k_whole); intro _))) | ((with_reducible show wpAny _ _ (call (Value.builtin "len") _) _ _ _); ((k_here; k_dflt (refine' my_len (by k_asm) (by k_mem) (by omega) ?_;  k_whole); intro _ _))) | ((with_reducible show wpAny _ _ (binaryOp Operator.Mult (Value.int _ _) (Value.int _ _)) _ _ _); ((k_here; k_dflt (refine' my_mul100 (by omega) (by omega) (by omega) (by omega) ?_;  k_whole); intro _ _; dsimp only))) | ((with_reducible show wpAny _ _ (binaryOp Operator.Mult (Value.int _ _) (Value.int _ _)) _ _ _); ((k_here; k_dflt (refine' my_mul (by omega) (by omega) (by omega) (by omega) ?_;  k_whole); intro _ _ _ _ _ _; dsimp only))) | ((with_reducible show wpAny _ _ (call (Value.builtin "list.append") _) _ _ _); ((k_here; k_dflt (refine' my_append (by k_asm) (by k_asm) (by k_upd) (by (((try walk_at "my clear"); first | omega | (simp only [List.length_append, List.length_cons, List.length_nil]; omega)))) ?_;  k_whole); intro _ _ _; (try dsimp only); (try k_sweep)))) | ((with_reducible show wpAny _ _ (call (Value.builtin "list.append") _) _ _ _); ((k_here; k_dflt (refine' my_append (by k_asm) (by k_asm) (by k_upd) (by first | omega | (simp only [List.length_cons, List.length_nil, List.length_append]; omega)) ?_;  k_whole); intro _ _ _; (try dsimp only); (try k_sweep)))) | ((k_here; (with_reducible show wpAny _ _ (getMethod (Value.ref 172) (Str.ofString "search") _) _ _ _); k_dflt (refine' get_172 (by k_asm) (by k_asm) ?_;  k_whole))) | ((k_here; (with_reducible show wpAny _ _ (getMethod (Value.ref 167) (Str.ofString "search") _) _ _ _); k_dflt (refine' get_167 (by k_asm) (by k_asm) ?_;  k_whole))) | ((k_here; (with_reducible show wpAny _ _ (getMethod (Value.ref _) (Str.ofString "pop") _) _ _ _); k_dflt (refine' my_get_pop (knd := PySem.intKind _ _) (by k_asm) (by k_mem) (by assumption) (by omega) ?_;  k_whole))) | ((k_here; (with_reducible show wpAny _ _ (call (Value.type "int") [Value.str _ _]) _ _ _); k_dflt (refine' KIN.call_text (by assumption) (by omega) ?_;  k_whole))) | ((with_reducible show wpAny _ _ (subscriptTail (PySem.Expr.Name _ _) (PySem.Expr.Slice _ _ _ _) (Value.ref _) (Value.ref _)) _ _ _); ((k_here; (with_reducible show wpAny _ _ (subscriptTail _ (PySem.Expr.Slice none none none _) (Value.ref _) (Value.ref _)) _ _ _); k_dflt (refine' my_slice_all (by k_asm) (by k_asm) (by k_mem) (by omega) ?_;  k_whole); intro _ _ _ _ _; (try k_sweep)))) | ((with_reducible show wpAny _ _ (delItem (Value.ref _) (Value.str _ _)) _ _ _); ((k_here; k_dflt (refine' my_delItem (by k_asm) (by k_asm) (by k_inst) (by k_is) (by k_is) (by k_is) ?_;  k_whole)))) | walk_at "mo"))))
      have ez : (1 + (i : Int)).toNat = 1 + i := by omega
      rw [hwl, List.drop_length] at hacj
      simp only [doubtGo, List.append_nil] at hacj
      refine TurnTo.intro (by k_asm) (by k_asm) ?_ ?_ ⟨ys', ny', tlD ++ tl, rfl, by ((repeat' (first | exact all_nil | refine all_cons rfl ?_))), ?_, ?_, ?_, ?_⟩
      · intro p hp
        simp only [List.mem_cons, List.mem_append] at hp
        rcases hp with rfl | rfl | (hp | hp) | hp
        · exact .tail _ (.tail _ (List.mem_append_right _ (mR _ (.head _))))
        · exact .tail _ (.head _)
        · exact .tail _ (.tail _ (List.mem_append_left _ hp))
        · exact .tail _ (.tail _ (List.mem_append_right _ (mR _ (.tail _ (List.mem_append_left _ hp)))))
        · exact .tail _ (.tail _ (List.mem_append_right _ (mR _ (.tail _ (List.mem_append_right _ hp)))))
      · intro p hp
        simp only [List.mem_cons, List.mem_append] at hp
        rcases hp with rfl | (hp | hp) | hp
        · exact ho (D, PySem.W.listOf ys.toArray ny) (.head _)
        · exact (hoj p hp).2.2.1
        · exact ho p (by k_mem)
        · exact ho p (by k_mem)
      · rw [hacj] at hdaj
        rw [List.range_succ, List.flatMap_append]
        have e : List.flatMap (doubtTop ns) [i] = doubtGo cs ds := by
          simp only [List.flatMap_cons, List.flatMap_nil, List.append_nil, doubtTop]
          rw [hcs, hds, ez]
        rw [e, ← hacc]
        exact hdaj
      · intro p hp
        simp only [List.mem_append] at hp
        rcases hp with (hp | hp) | hp
        · exact (hoj p hp).1
        · exact hoD p (List.mem_append_left _ hp)
        · exact hoD p (List.mem_append_right _ hp)
      · omega
      · intro q hq
        rcases List.mem_append.mp hq with hq | hq
        · exact (hoj q hq).2.2.2
        · exact hfr q hq
  · rintro m₁ nx h9 tk9 hJz
    refine gz1 nx ?_
    intro Gz hGz
    obtain ⟨ys, ny, tl, rfl, hN, hda, hoD, hyl, hfr⟩ := hJz
    refine hGz _ ?_
    clear hGz Gz
    rintro F9 N9
    obtain ⟨m9, F9⟩ := names_ex F9 [("row", .ref l), ("doubts", .ref D)] hN
    (repeat' (first | (first | (k_here; (with_reducible show wpAny _ _ (call (Value.ref 332) _) _ _ _); k_dflt (refine' use_says (by k_asm) (by k_asm) (by k_asm) (by k_asm) (by k_asm) (by first | exact rfl | assumption) (by exact says_told _ _ _ _ _ _ _ (by k_mem) (by assumption) (by assumption) (by omega) (by assumption)) (by ktr_room) (by ktr_units) ?_); intro _ _ _ _ r9 _ _; (obtain ⟨_, _, _, _, e9, f9, _, _, _, _⟩ := r9); subst e9; subst f9; (try dsimp only))) | ((( (fail_if_success with_reducible first | refine st0 ?_ | refine st1 ?_ | refine st2 ?_ | refine st3 ?_))); (fail_if_success with_reducible first | refine st4 ?_ | refine st5 ?_ | refine st7 ?_ | refine st6 ?_ | refine st8 ?_ | refine st9 ?_); (first | ((with_reducible show wpAny _ _ (subscriptTail (PySem.Expr.Name _ _) (PySem.Expr.Name _ _) (Value.ref _) (Value.int _ _)) _ _ _); ((k_here; (with_reducible show wpAny _ _ (subscriptTail _ _ (Value.ref _) (Value.int _ _)) _ _ _); k_dflt (refine' my_item_ints (by k_asm) (by k_mem) (by (first | assumption | exact IntsAre.append (by assumption) (.cons _ _ .nil))) (by (((try walk_at "my clear"); first | omega | (simp only [List.length_append, List.length_cons, List.length_nil]; omega)))) (by (((try walk_at "my clear"); first | omega | (simp only [List.length_append, List.length_cons, List.length_nil]; omega)))) (by (((try walk_at "my clear"); first | omega | (simp only [List.length_append, List.length_cons, List.length_nil]; omega)))) ?_;  k_whole); intro _))) | ((with_reducible show wpAny _ _ (subscriptTail (PySem.Expr.Name _ _) (PySem.Expr.Name _ _) (Value.ref _) (Value.int _ _)) _ _ _); ((k_here; (with_reducible show wpAny _ _ (subscriptTail _ _ (Value.ref _) (Value.int _ _)) _ _ _); k_dflt (refine' my_item_ints (by k_asm) (by k_mem) (by assumption) (by omega) (by omega) (by omega) ?_;  k_whole); intro _))) | ((with_reducible show wpAny _ _ (call (Value.builtin "len") _) _ _ _); ((k_here; k_dflt (refine' my_len (by k_asm) (by k_mem) (by omega) ?_;  k_whole); intro _ _))) | ((with_reducible show wpAny _ _ (binaryOp Operator.Mult (Value.int _ _) (Value.int _ _)) _ _ _); ((k_here; k_dflt (refine' my_mul100 (by omega) (by omega) (by omega) (by omega) ?_;  k_whole); intro _ _; dsimp only))) | ((with_reducible show wpAny _ _ (binaryOp Operator.Mult (Value.int _ _) (Value.int _ _)) _ _ _); ((k_here; k_dflt (refine' my_mul (by omega) (by omega) (by omega) (by omega) ?_;  k_whole); intro _ _ _ _ _ _; dsimp only))) | ((with_reducible show wpAny _ _ (call (Value.builtin "list.append") _) _ _ _); ((k_here; k_dflt (refine' my_append (by k_asm) (by k_asm) (by k_upd) (by (((try walk_at "my clear"); first | omega | (simp only [List.length_append, List.length_cons, List.length_nil]; omega)))) ?_;  k_whole); intro _ _ _; (try dsimp only); (try k_sweep)))) | ((with_reducible show wpAny _ _ (call (Value.builtin "list.append") _) _ _ _); ((k_here; k_dflt (refine' my_append (by k_asm) (by k_asm) (by k_upd) (by first | omega | (simp only [List.length_cons, List.length_nil, List.length_append]; omega)) ?_;  k_whole); intro _ _ _; (try dsimp only); (try k_sweep)))) | ((k_here; (with_reducible show wpAny _ _ (getMethod (Value.ref 172) (Str.ofString "search") _) _ _ _); k_dflt (refine' get_172 (by k_asm) (by k_asm) ?_;  k_whole))) | ((k_here; (with_reducible show wpAny _ _ (getMethod (Value.ref 167) (Str.ofString "search") _) _ _ _); k_dflt (refine' get_167 (by k_asm) (by k_asm) ?_;  k_whole))) | ((k_here; (with_reducible show wpAny _ _ (getMethod (Value.ref _) (Str.ofString "pop") _) _ _ _); k_dflt (refine' my_get_pop (knd := PySem.intKind _ _) (by k_asm) (by k_mem) (by assumption) (by omega) ?_;  k_whole))) | ((k_here; (with_reducible show wpAny _ _ (call (Value.type "int") [Value.str _ _]) _ _ _); k_dflt (refine' KIN.call_text (by assumption) (by omega) ?_;  k_whole))) | ((with_reducible show wpAny _ _ (subscriptTail (PySem.Expr.Name _ _) (PySem.Expr.Slice _ _ _ _) (Value.ref _) (Value.ref _)) _ _ _); ((k_here; (with_reducible show wpAny _ _ (subscriptTail _ (PySem.Expr.Slice none none none _) (Value.ref _) (Value.ref _)) _ _ _); k_dflt (refine' my_slice_all (by k_asm) (by k_asm) (by k_mem) (by omega) ?_;  k_whole); intro _ _ _ _ _; (try k_sweep)))) | ((with_reducible show wpAny _ _ (delItem (Value.ref _) (Value.str _ _)) _ _ _); ((k_here; k_dflt (refine' my_delItem (by k_asm) (by k_asm) (by k_inst) (by k_is) (by k_is) (by k_is) ?_;  k_whole)))) | walk_at "mo"))))
    exact hret _ _ _ _ ⟨D, ys, ny, tl, rfl, rfl, hda, hoD, hfr⟩ (by k_asm) (by k_asm)
end Mine
-- C28
namespace Mine
open PySem.Builtin PySem.Builtin.ObjectAttr
theorem fn_ga : typeLookup (.type "function") "__getattribute__" = pure (some (.builtin "object.__getattribute__")) := by rw [typeLookup_type, builtinLookup_eq_fast]; kernel_rfl
theorem fn_noga : typeLookup (.type "function") "__getattr__" = pure none := by rw [typeLookup_type, builtinLookup_eq_fast]; kernel_rfl
theorem fn_read : typeLookup (.type "function") "read" = pure none := by rw [typeLookup_type, builtinLookup_eq_fast]; kernel_rfl
theorem fn_mro : mroOf (.type "function") = pure [.type "function", .type "object"] := by kernel_rfl
theorem fn_slot : Slot "function" "__setattr__" "object.__setattr__" :=
  .of (owner := "object") (n := "__setattr__") (by rw [typeLookup_type, builtinLookup_eq_fast]; kernel_rfl) (by decide +kernel) (by decide +kernel) (by decide +kernel)
    (by first | exact .inl (by decide +kernel) | exact .inr (by decide +kernel)) (by rw [isSubtype_type]; kernel_rfl)
theorem fn_passes (self : Value) : refuseLoop self "__setattr__" [.type "function", .type "object"] = pure () := by kernel_rfl
theorem fn_ga_slot : Slot "function" "__getattribute__" "object.__getattribute__" :=
  .of (owner := "object") (n := "__getattribute__") (by rw [typeLookup_type, builtinLookup_eq_fast]; kernel_rfl) (by decide +kernel) (by decide +kernel) (by decide +kernel)
    (by first | exact .inl (by decide +kernel) | exact .inr (by decide +kernel)) (by rw [isSubtype_type]; kernel_rfl)
theorem oga_entry : entryFor table "object.__getattribute__" = some Builtin.«object.__getattribute__» := entryFor_of_tree (by kernel_rfl)
theorem oga_args (a b : Value) : argsOk "object.__getattribute__" ⟨[a, b], []⟩ := by unfold argsOk; kernel_rfl
section
variable {prog : Program} {w : World} {A : Around} {E : Value → Shared → Prop} {s : Shared}
theorem fn_set {f : Addr} {o : Obj} {v : Value} {Q : Unit → Shared → Prop} (hf : s.heap.get? f = some o) (hc : o.cls = .type "function") (hdn : o.dict = none) (hnc : ∀ c, o.data ≠ .cls c)
    (h : ∀ h' tk, h'.get? f = some { o with dict := some s.heap.objs.size } → (∀ b ob, b ≠ f → s.heap.get? b = some ob → h'.get? b = some ob) → h'.Ns1 s.heap.objs.size (fun y => if y = "read" then some v else none) → Q () { s with heap := h', toks := tk }) :
    wpAny (model prog w) A (setAttr (.ref f) "read" v) Q E s := by
  have SF := PySem.F.store_object
  have hT : s.TypeIs (.ref f) "function" := ⟨o, hf, hc⟩
  unfold setAttr
  refine wpAny_bind (wpAny_mkText ?_)
  have hT1 : ({ s with toks := s.toks + 1 } : Shared).TypeIs (.ref f) "function" := hT
  refine wpAny_bind (wpAny_callSpecial?_slot (name := Str.ofString "__setattr__") hT1 fn_slot (wpAny_call_entry fn_slot hT1 SF.entry ?_ (SF.args _ _ _)))
  rw [osa_eq, refuse_eq]
  refine wpAny_bind (wpAny_bind (wpAny_typeOf hT1 ?_))
  rw [fn_mro]
  refine wpAny_bind (wpAny_pure ?_)
  rw [fn_passes]
  refine wpAny_pure ?_
  refine wpAny_bind (wpAny_typeOf hT1 ?_)
  rw [fn_read]
  refine wpAny_bind (wpAny_pure ?_)
  refine wpAny_bind (wpAny_pure ?_)
  show wpAny _ _ (storeInOwnDict (.ref f) (.type "function") (.str "read" _) "read" v false) _ _ _
  unfold storeInOwnDict
  have e1 : ownStreamTells (.ref f) (.type "function") = pure () := rfl
  rw [e1]
  refine wpAny_bind (wpAny_pure ?_)
  rw [if_neg (by decide)]
  first
    | refine wpAny_bind (m := ownDictForStores (.ref f)) ?_
    | refine wpAny_bind (wpAny_pure (wpAny_bind (m := ownDictForStores (.ref f)) ?_))
  show wpAny _ _ (instanceDict f true) _ _ _
  unfold instanceDict
  refine wpAny_bind (wpAny_loadPart hf ?_)
  rw [hc]
  dsimp only
  rw [hdn]
  dsimp only
  rw [if_neg (by decide +kernel)]
  have hfs : f ≠ s.heap.objs.size := Nat.ne_of_lt (Heap.lt_size hf)
  have hf1 : (s.heap.push { cls := .type "dict", data := .dict #[] }).get? f = some o := Heap.get?_push_of_some _ hf
  have go : wpAny (model prog w) A.in1 (do
      let d ← alloc { cls := Value.type "dict", data := Data.dict #[] }
      update f fun o => { cls := o.cls, dict := some d, data := o.data, slots := o.slots }
      dictMade (Value.type "function") f d) (fun a s' =>
        wpAny (model prog w) A.in1 (match a with
          | some d => storeInDict d (Value.str (Str.ofString "read") s.toks) (Str.ofString "read") v
          | none => noDictFor (Value.ref f) (Value.type "function") (Str.ofString "read") false)
        (fun fin s' => ∃ v, fin = Fin.done (Flow.ret v) ∧ wpAny (model prog w) A (match some v with
            | some val => pure PUnit.unit
            | x => unsupported "internal:no-__setattr__") Q E s') E s') E { s with toks := s.toks + 1 } := by
    refine wpAny_bind (wpAny_alloc' ?_)
    refine wpAny_bind (wpAny_update' hf1 ?_)
    have e2 : dictMade (Value.type "function") f s.heap.objs.size = pure (some s.heap.objs.size) := by
      unfold dictMade
      dsimp only
      rw [if_neg (by decide +kernel)]
    rw [e2]
    refine wpAny_pure ?_
    dsimp only
    unfold storeInDict newKeyGuard
    have hgd : ((s.heap.push { cls := .type "dict", data := .dict #[] }).update f fun o => { cls := o.cls, dict := some s.heap.objs.size, data := o.data, slots := o.slots }).get? s.heap.objs.size
        = some { cls := .type "dict", data := .dict #[] } :=
      (Heap.get?_update_ne _ _ _ _ hfs.symm).trans (Heap.get?_push_at rfl rfl)
    have hnd : ((s.heap.push { cls := .type "dict", data := .dict #[] }).update f fun o => { cls := o.cls, dict := some s.heap.objs.size, data := o.data, slots := o.slots }).Ns s.heap.objs.size (fun _ => none) :=
      ⟨_, #[], _, hgd, rfl, fun e he => absurd he (by simp), fun _ => rfl⟩
    refine wpAny_bind (wpAny_pure (wpAny_bind (wpAny_nsSet1 (Heap.Ns1.of_empty hnd) fun h' hn' hs => ?_)))
    refine gz0 fun Gz hGz => ?_
    obtain ⟨oD, esD, epD, hoD, hdD, hcD⟩ := hn'.count (Within.cons (Str.ofString "read") v Within.nil)
    refine hGz ?_
    clear hGz Gz
    refine wpAny_bind (wpAny_lookBehind hoD (by rw [hdD]; exact pastItsLine_dict (Nat.le_trans hcD (by rw [List.length_cons, List.length_nil, sizeLine_eq]; omega))) ?_)
    refine wpAny_pure ⟨_, rfl, wpAny_pure ?_⟩
    refine h h' _ ?_ (fun b ob hb e => ?_) hn'
    · refine (hs.2 f hfs).trans (Heap.get?_update_self _ hf1 ?_)
      all_goals
        have hfr := (Heap.get?_some_iff.mp hf).2
        refine gz0 fun Gz hGz => ?_
        obtain ⟨oc, od, odt, osl⟩ := o
        refine hGz ?_
        clear hGz Gz
        cases odt <;> first | rfl | exact hfr
    · exact (hs.2 b (Nat.ne_of_lt (Heap.lt_size e))).trans ((Heap.get?_update_ne _ _ _ _ hb).trans (Heap.get?_push_of_some _ e))
  split
  · rename_i c hcd
    exact absurd hcd (hnc c)
  · exact go
theorem fn_get {f d : Addr} {o : Obj} {v : Value} {mm : Str → Option Value} {pl : Sem Bool} {Q : Value × List Value → Shared → Prop} (hf : s.heap.get? f = some o) (hc : o.cls = .type "function") (hdd : o.dict = some d) (hnc : ∀ c, o.data ≠ .cls c)
    (hn : s.heap.Ns d mm) (hm : mm "read" = some v) (hv : ∀ id, v ≠ .builtin id) (h : ∀ tk, Q (v, []) { s with toks := tk }) :
    wpAny (model prog w) A (getMethod (.ref f) "read" pl) Q E s := by
  have hT : s.TypeIs (.ref f) "function" := ⟨o, hf, hc⟩
  unfold getMethod
  refine wpAny_bind (wpAny_specialOf hT fn_ga ?_)
  show wpAny _ _ (if (Manifest.canonical "object.__getattribute__" != "object.__getattribute__") = true then _ else _) _ _ _
  rw [if_neg (by decide +kernel)]
  refine wpAny_bind (wpAny_specialOf hT fn_noga ?_)
  refine wpAny_bind (wpAny_specialOf hT fn_read ?_)
  refine wpAny_bind (m := getAttr (.ref f) "read") ?_
  unfold getAttr
  refine wpAny_bind (wpAny_mkText ?_)
  have hT1 : ({ s with toks := s.toks + 1 } : Shared).TypeIs (.ref f) "function" := hT
  unfold getAttrBy
  refine wpAny_holding ?_
  refine wpAny_bind (wpAny_typeOf hT1 ?_)
  rw [fn_ga]
  refine wpAny_bind (wpAny_pure ?_)
  show wpAny _ _ (getAttrByItsOwn (.ref f) (.str "read" s.toks) (.type "function") (.builtin "object.__getattribute__") true false) _ _ _
  unfold getAttrByItsOwn
  refine wpAny_bind (wpAny_pure ?_)
  refine wpAny_bind (wpAny_attempt (wpAny_holding ?_))
  show wpAny _ _ (boundAndCalled (.builtin "object.__getattribute__") (.ref f) (.str "read" s.toks)) _ _ _
  unfold boundAndCalled
  rw [fn_ga_slot.bind]
  refine wpAny_bind (wpAny_pure ?_)
  refine wpAny_call_entry fn_ga_slot hT1 oga_entry ?_ (oga_args _ _)
  show wpAny _ _ (do
    let tp ← typeOf (.ref f)
    match ← ObjectAttr.find (.ref f) tp "read" with
    | .value v => ret v
    | .bind g a => bindTo g a (.ref f) tp
    | .missing => _) _ _ _
  refine wpAny_bind (wpAny_typeOf hT1 ?_)
  refine wpAny_bind ?_
  unfold ObjectAttr.find
  rw [fn_read]
  refine wpAny_bind (wpAny_pure ?_)
  refine wpAny_bind (wpAny_pure ?_)
  refine wpAny_bind (wpAny_pure ?_)
  dsimp only
  unfold ownThenClass inOwnDict ObjectAttr.ownDict
  have e1 : ∀ {B : Around} {Q : Option Addr → Shared → Prop} {E : Value → Shared → Prop} {t : Shared}, t.heap = s.heap → Q (some d) t → wpAny (model prog w) B (instanceDict f false) Q E t := fun ht hq => by
    unfold instanceDict
    refine wpAny_bind (wpAny_loadPart (by rw [ht]; exact hf) ?_)
    rw [hc]
    dsimp only
    rw [hdd]
    exact wpAny_pure hq
  refine wpAny_bind (wpAny_bind (wpAny_bind (wpAny_loadPart hf ?_)))
  split
  · rename_i c hcd
    exact absurd hcd (hnc c)
  · refine e1 (t := { s with toks := s.toks + 1 }) rfl ?_
    refine wpAny_nsGet hn ?_
    rw [hm]
    refine wpAny_bind (wpAny_rule (wpAny_pure (wpAny_pure ⟨_, rfl, ?_⟩)))
    have e2 : handedOut v = pure v := by
      cases v <;> first | rfl | exact absurd rfl (hv _)
    rw [e2]
    exact wpAny_pure (wpAny_pure (h _))
theorem my_fnset {h₀ : Heap} {L f : Addr} {m : Str → Option Value} {news : Led} {o : Obj} {g : Obj → Led} {v : Value} {Q : Unit → Shared → Prop} (F : Fr h₀ L s.heap m) (N : News h₀ L s.heap news) (U : UpdF f o news g) (hc : o.cls = .type "function") (hdn : o.dict = none) (hnc : ∀ c, o.data ≠ .cls c)
    (h : ∀ h' tk d od, Fr h₀ L h' m → News h₀ L h' ((d, od) :: g { o with dict := some d }) → (∀ p ∈ news, p.1 < d) → LCg.NsObj od (fun y => if y = "read" then some v else none) → Q () { s with heap := h', toks := tk }) :
    wpAny (model prog w) A (setAttr (.ref f) "read" v) Q E s := by
  refine gz0 fun Gz hGz => ?_
  obtain ⟨pre, post, rfl, hg, a, b⟩ := U.split
  refine hGz ?_
  clear hGz Gz
  have hf := N (f, o) (List.mem_append_right _ (.head _))
  refine fn_set hf.1 hc hdn hnc fun h' tk e1 e2 e3 => ?_
  refine gz0 fun Gz hGz => ?_
  obtain ⟨od, esd, epd, ed1, ed2, ed3, _, ed4⟩ := e3
  refine hGz ?_
  clear hGz Gz
  have hlt : ∀ p ∈ pre ++ (f, o) :: post, p.1 < s.heap.objs.size := fun p hp => Heap.lt_size (N p hp).1
  have hL : L < s.heap.objs.size := F.ns.lt
  refine h h' tk s.heap.objs.size od ⟨F.ns.extBut e2 hf.2.1.symm, fun b ob e => e2 b ob (fun q => by rw [q, hf.2.2] at e; cases e) (F.keep b ob e), F.above⟩ (fun p hp => ?_) hlt ⟨esd, epd, ed2, ed3, ed4⟩
  rcases List.mem_cons.mp hp with rfl | hp
  · exact ⟨ed1, Nat.ne_of_gt hL, Heap.get?_none_of_le (Nat.le_trans F.above (Nat.le_of_lt hL))⟩
  · rw [hg] at hp
    rcases List.mem_append.mp hp with hp | hp
    · exact ⟨e2 _ _ (a p hp) (N p (List.mem_append_left _ hp)).1, (N p (List.mem_append_left _ hp)).2⟩
    · rcases List.mem_cons.mp hp with rfl | hp
      · exact ⟨e1, hf.2⟩
      · exact ⟨e2 _ _ (b p hp) (N p (List.mem_append_right _ (.tail _ hp))).1, (N p (List.mem_append_right _ (.tail _ hp))).2⟩
theorem my_fnget {h₀ : Heap} {L f d : Addr} {news : Led} {o od : Obj} {v : Value} {mm : Str → Option Value} {pl : Sem Bool} {Q : Value × List Value → Shared → Prop} (N : News h₀ L s.heap news) (hf : (f, o) ∈ news) (hdd : o.dict = some d) (hd : (d, od) ∈ news) (hn : LCg.NsObj od mm) (hm : mm "read" = some v)
    (hc : o.cls = .type "function") (hnc : ∀ c, o.data ≠ .cls c) (hv : ∀ id, v ≠ .builtin id) (h : ∀ tk, Q (v, []) { s with toks := tk }) : wpAny (model prog w) A (getMethod (.ref f) "read" pl) Q E s :=
  fn_get (N _ hf).1 hc hdd hnc (hn.ns (N _ hd).1) hm hv h
end
end Mine
local macro_rules | `(tactic| walk_at "setAttr ref") => `(tactic| (k_here; (with_reducible show wpAny _ _ (setAttr (Value.ref _) (Str.ofString "read") _) _ _ _); k_dflt (refine' my_fnset ?F ?N ?U ?c ?d ?e ?_; (case F => k_asm); (case N => k_asm); (case U => k_updF); (case c => exact rfl); (case d => exact rfl); (case e => (intro c e; cases e)); k_whole); intro h' tk' d' od' F' N' l1 n1; (try k_lt l1); (try k_sweep)))
-- C29
namespace Mine
/-- as SaysAt, of the code of a call, with keywords -/
noncomputable def SaysC (w : World) (d u : Nat) (f : Addr) (vs : List Value) (kw : List (Str × Value)) (news : Led) (R : Value → Led → Prop) : Prop :=
  ∀ (p : Program) (loose : List Str) (mean : ExcName → Option Value) (mg mb : Str → Option Value)
    (dp un : Nat) (gd : Option (List Code)) (cn : Str) (cs : Scope) (a : Addr) (ccd : Value) (cl : List (Str × Addr)) (outer : List Env) (A₀ : Around) (base h₀ : Heap) (L : Addr) (m : Str → Option Value) (s : Shared) (Q E : Value → Shared → Prop),
    Below A₀ base outer h₀ → Fr h₀ L s.heap m → (Mine.hd.heap_39 w.params).In h₀ → News h₀ L s.heap news → Top p loose mean mg mb h₀ → cs.kind = .function → dp + d < recursionLimit → un + u < cLine →
    (∀ v h' tk' news', R v news' → Fr h₀ L h' m → News h₀ L h' news' → Q v { s with heap := h', toks := tk' }) →
    codeAny (model PySem.Challenge.rw_sn0098_01.row.prog w) (ktrTop dp un gd cn cs L a ccd cl outer) (.call (.ref f) ⟨vs, kw⟩) (fun r s' => match r with | .ok (.ret v) => Q v s' | .ok _ => False | .error e => E e s') s
theorem SaysC.at {w : World} {d u : Nat} {f : Addr} {vs : List Value} {news : Led} {R : Value → Led → Prop} (C : SaysC w d u f vs [] news R) : SaysAt w d u f vs news R := by
  intro p loose mean mg mb dp un gd cn cs x ccd cl outer A₀ base h₀ L m s Q E B F X N T hk hd hu hr
  exact wpAny_call (C p loose mean mg mb dp un gd cn cs x ccd cl outer A₀ base h₀ L m s Q E B F X N T hk hd hu hr)
/-- what one read of one sign answers -/
noncomputable def Reads1 (w : World) (x : Str) (fR Lat : Addr) (fix : Led) : Prop := ∀ (rest : Led) (p : Nat) (tp t1 : Tok) (n : Nat), (∀ q ∈ fix, q ∈ rest) → (∀ q ∈ rest, q.1 ≠ Lat) → p ≤ x.length →
  SaysC w 8 80 fR [.int 1 t1] [] ((Lat, PySem.W.listOf #[.int p tp] n) :: rest) (fun v news => (Xx3 fun ts tp' n' => v = .str (Txt.slice x (some (p : Int)) (some (p + 1 : Int))) ts ∧ news = (Lat, PySem.W.listOf #[.int (p + (Txt.slice x (some (p : Int)) (some (p + 1 : Int))).length : Nat) tp'] n') :: rest))
noncomputable def machD (P : Params) (a b c d : Tok) (ln : Int) (tn : Tok) (fS : Addr) (tw : Tok) (lp : Addr) : Obj :=
  dictOf [{ hash := PyData.keyHash P "lineno", key := .str "lineno" a, val := .int ln tn }, { hash := PyData.keyHash P "instream", key := .str "instream" b, val := .ref fS },
    { hash := PyData.keyHash P "whitespace", key := .str "whitespace" c, val := .str "\n\t\r " tw }, { hash := PyData.keyHash P "pushback", key := .str "pushback" d, val := .ref lp }] 4
/-- a netrc machine that reads the text x, apart from its three changing objects -/
structure Mach (w : World) (x : Str) (mach dm lp fS Lat : Addr) (rest : Led) : Prop where
  inst : (mach, instObj 158 dm) ∈ rest
  strm : (Xx5 fun oS dS odS fR oR => Aa9 ((fS, oS) ∈ rest) (oS.cls = .type "function") (oS.dict = some dS) ((∀ c, oS.data ≠ .cls c)) ((dS, odS) ∈ rest) (LCg.NsObj odS (fun y => if y = "read" then some (.ref fR) else none)) ((fR, oR) ∈ rest) ((∃ fd, oR.data = .func fd)) (∃ fix, Reads1 w x fR Lat fix ∧ ∀ q ∈ fix, q ∈ rest))
  offs : ∀ p ∈ rest, p.1 ≠ lp ∧ p.1 ≠ Lat ∧ p.1 ≠ dm
  ne1 : @Ne Nat lp Lat
  ne2 : @Ne Nat lp dm
  ne3 : @Ne Nat Lat dm
noncomputable def mst (P : Params) (ps : List Value) (np : Nat) (p : Nat) (tp : Tok) (nL : Nat) (a b c d : Tok) (ln : Int) (tn tw : Tok) (lp dm fS Lat : Addr) (rest : Led) : Led :=
  (lp, PySem.W.listOf ps.toArray np) :: (Lat, PySem.W.listOf #[.int (p : Nat) tp] nL) :: (dm, machD P a b c d ln tn fS tw lp) :: rest
theorem cap0 {h₀ h : Heap} {L b : Addr} {rest : Led} {o : Obj} (N : News h₀ L h ((b, o) :: rest)) : ∃ o', o' = o ∧ News h₀ L h ((b, o') :: rest) := ⟨o, rfl, N⟩
theorem cap2 {h₀ h : Heap} {L b : Addr} {a : Addr × Obj} {rest : Led} {o : Obj} (N : News h₀ L h (a :: (b, o) :: rest)) : ∃ o', o' = o ∧ News h₀ L h (a :: (b, o') :: rest) := ⟨o, rfl, N⟩
theorem says_machine (w : World) (x : Str) (t : Tok) (fr : Led) (ho : ∀ p ∈ fr, p.1 ≠ 301) (hx : x.length ≤ 1000) :
    SaysAt w 60 400 306 [.str x t] ((301, tabObj #[]) :: fr) (fun v news => (Xx14 fun mach dm lp fS Lat fixM tp nL a b c d tn tw => Aa6 (v = .ref mach) (news = mst w.params [] 0 0 tp nL a b c d 1 tn tw lp dm fS Lat (fixM ++ fr)) (Mach w x mach dm lp fS Lat fixM) ((∃ ps, (301, tabObj ps) ∈ fixM)) ((∀ q ∈ fixM, q.1 = 301 ∨ ∀ p ∈ fr, p.1 < q.1)) (∀ p ∈ fr, p.1 < lp ∧ p.1 < Lat ∧ p.1 < dm))) := by
  ((have hfill : Mine.hd.heap_39 = Mine.hd.heap_39 ∧ PySem.Challenge.rw_sn0098_01 = PySem.Challenge.rw_sn0098_01 := (by k_fill; exact ⟨rfl, rfl⟩)); clear hfill)
  unfold SaysAt
  intros
  rename_i hret
  refine wpAny_call ?_
  k_dflt walk_at "my enterC"
  rename_i g1 L1 hp1 tk1 FG F B X T l1 l2 l3 l4 o1 o2 d1 d2 N
  replace d1 : o1.data = Data.cell none := d1
  replace d2 : o2.data = Data.cell (some (.str x t)) := d2
  obtain ⟨m', F1⟩ := names_ex F [] all_nil
  clear F
  (repeat' (first | ((( (fail_if_success with_reducible first | refine st0 ?_ | refine st1 ?_ | refine st2 ?_ | refine st3 ?_))); (fail_if_success with_reducible first | refine st4 ?_ | refine st5 ?_ | refine st7 ?_ | refine st6 ?_ | refine st8 ?_ | refine st9 ?_); (first | ((with_reducible show wpAny _ _ (call (Value.builtin "len") _) _ _ _); ((k_here; k_dflt (refine' my_len (by k_asm) (by k_mem) (by omega) ?_;  k_whole); intro _ _))) | ((with_reducible show wpAny _ _ (subscriptTail (PySem.Expr.Name _ _) (PySem.Expr.Slice _ _ _ _) (Value.str _ _) (Value.ref _)) _ _ _); ((k_here; (with_reducible show wpAny _ _ (subscriptTail _ (PySem.Expr.Slice (some (PySem.Expr.Name _ _)) (some (PySem.Expr.Name _ _)) none _) (Value.str _ _) (Value.ref _)) _ _ _); k_dflt (refine' slice_strN_ss (hsz := (by (rw [sizeLine_eq]; omega))) (by k_asm) (by k_asm) ?_;  k_whole); intro _ _ _ _ _))) | walk_at "mo"))))
  rename_i Lat _ lLat _ o3 F2 N2 d3
  refine nestDef_K rfl rfl rfl ?_
  refine nest_K (ps := #[]) F2 N2 T (codeHd_of_K X (codeHd305 _)) rfl (by k_updF) True.intro rfl rfl fun fR c1 oc1 vs1 tc1 ctv1 doc1 h3 tk3 F3 N3 e1 e2 lc1 lf1 => ?_
  k_lt lc1
  k_lt2 lf1
  try k_fold
  dsimp only at N3
  (repeat' (first | ((( (fail_if_success with_reducible first | refine st0 ?_ | refine st1 ?_ | refine st2 ?_ | refine st3 ?_))); (fail_if_success with_reducible first | refine st4 ?_ | refine st5 ?_ | refine st7 ?_ | refine st6 ?_ | refine st8 ?_ | refine st9 ?_); (first | ((with_reducible show wpAny _ _ (call (Value.builtin "len") _) _ _ _); ((k_here; k_dflt (refine' my_len (by k_asm) (by k_mem) (by omega) ?_;  k_whole); intro _ _))) | ((with_reducible show wpAny _ _ (subscriptTail (PySem.Expr.Name _ _) (PySem.Expr.Slice _ _ _ _) (Value.str _ _) (Value.ref _)) _ _ _); ((k_here; (with_reducible show wpAny _ _ (subscriptTail _ (PySem.Expr.Slice (some (PySem.Expr.Name _ _)) (some (PySem.Expr.Name _ _)) none _) (Value.str _ _) (Value.ref _)) _ _ _); k_dflt (refine' slice_strN_ss (hsz := (by (rw [sizeLine_eq]; omega))) (by k_asm) (by k_asm) ?_;  k_whole); intro _ _ _ _ _))) | walk_at "mo"))))
  rename_i h4 F4 N4
  refine kla_eval rfl ?_
  refine kla_nest (ps := #[rawInt 282, rawInt 4, .ref c1]) F4 N4 T (codeHd_of_K X (codeHd305 _)) rfl (by k_updF) (by simp [TriplesOk, rawInt]) (by simp [codeAmong, rawInt]) rfl fun fS c2 oc2 vs2 tc2 ctv2 h5 tk5 F5 N5 e3 e4 lc2 lf2 => ?_
  k_lt lc2
  k_lt2 lf2
  have lf3 : ∀ p ∈ fr, p.1 ≠ fS := fun p hp => Nat.ne_of_lt (Nat.lt_trans (mem_allLt lc2.2.2.2.2.2.2 p hp) lf2)
  try k_fold
  dsimp only at N5
  (repeat' (first | ((( (fail_if_success with_reducible first | refine st0 ?_ | refine st1 ?_ | refine st2 ?_ | refine st3 ?_))); (fail_if_success with_reducible first | refine st4 ?_ | refine st5 ?_ | refine st7 ?_ | refine st6 ?_ | refine st8 ?_ | refine st9 ?_); (first | ((with_reducible show wpAny _ _ (call (Value.builtin "len") _) _ _ _); ((k_here; k_dflt (refine' my_len (by k_asm) (by k_mem) (by omega) ?_;  k_whole); intro _ _))) | ((with_reducible show wpAny _ _ (subscriptTail (PySem.Expr.Name _ _) (PySem.Expr.Slice _ _ _ _) (Value.str _ _) (Value.ref _)) _ _ _); ((k_here; (with_reducible show wpAny _ _ (subscriptTail _ (PySem.Expr.Slice (some (PySem.Expr.Name _ _)) (some (PySem.Expr.Name _ _)) none _) (Value.str _ _) (Value.ref _)) _ _ _); k_dflt (refine' slice_strN_ss (hsz := (by (rw [sizeLine_eq]; omega))) (by k_asm) (by k_asm) ?_;  k_whole); intro _ _ _ _ _))) | walk_at "mo"))))
  rename_i h6 tk6 dS odS F6 N6 nS ldS
  obtain ⟨oS, hoS, N6⟩ := cap2 N6
  have oS1 : oS.cls = .type "function" := by rw [hoS]
  have oS2 : oS.dict = some dS := by rw [hoS]
  have oS3 : ∀ c, oS.data ≠ .cls c := fun c => by rw [hoS]; exact fun e => nomatch e
  clear hoS
  have N7 := N6
  obtain ⟨pz, N7⟩ : ∃ pz, News _ _ _ ((fR, _) :: (dS, odS) :: (fS, oS) :: (c1, oc1) :: (Lat, PySem.W.listOf #[.int 0 tk1] 0) :: (L1 + 1 + 1, o3) :: (L1 + 1, o2) :: (301, tabObj pz) :: fr) := ⟨_, news_sub N7 (by (((try simp only [List.cons_append, List.nil_append]); (repeat' (first | exact List.forall_mem_nil _ | refine List.forall_mem_cons.mpr ⟨?_, ?_⟩)) <;> (first | k_mem | (intro _ _; k_mem)))))⟩
  clear N6
  obtain ⟨oR, hoR, N7⟩ := cap0 N7
  have key : Reads1 w x fR Lat [(fR, oR), (c1, oc1), (L1 + 1 + 1, o3), (L1 + 1, o2)] := by
    clear N7 F6 hret
    intro rest p tp t1 n hfix hoff hp
    have m1 := hfix _ (.head _)
    have m2 := hfix _ (.tail _ (.head _))
    have m3 := hfix _ (.tail _ (.tail _ (.head _)))
    have m4 := hfix _ (.tail _ (.tail _ (.tail _ (.head _))))
    subst hoR
    intro p0 loose mean mg mb dp un gd cn cs a ccd cl outer A₀ base h₀ L m s Q E B F X N T hk hd hu hret
    have hC : CodeHd _ 305 301 := codeHd_of_K (by assumption) (codeHd305 _)
    k_dflt walk_at "my enterN"
    (repeat' (first | ((( (fail_if_success with_reducible first | refine st0 ?_ | refine st1 ?_ | refine st2 ?_ | refine st3 ?_))); (fail_if_success with_reducible first | refine st4 ?_ | refine st5 ?_ | refine st7 ?_ | refine st6 ?_ | refine st8 ?_ | refine st9 ?_); (first | ((with_reducible show wpAny _ _ (call (Value.builtin "len") _) _ _ _); ((k_here; k_dflt (refine' my_len (by k_asm) (by k_mem) (by omega) ?_;  k_whole); intro _ _))) | ((with_reducible show wpAny _ _ (subscriptTail (PySem.Expr.Name _ _) (PySem.Expr.Slice _ _ _ _) (Value.str _ _) (Value.ref _)) _ _ _); ((k_here; (with_reducible show wpAny _ _ (subscriptTail _ (PySem.Expr.Slice (some (PySem.Expr.Name _ _)) (some (PySem.Expr.Name _ _)) none _) (Value.str _ _) (Value.ref _)) _ _ _); k_dflt (refine' slice_strN_ss (hsz := (by (rw [sizeLine_eq]; omega))) (by k_asm) (by k_asm) ?_;  k_whole); intro _ _ _ _ _))) | walk_at "mo"))))
    (rename News _ _ _ _ => kN)
    obtain ⟨tz, kN⟩ : ∃ tz, News _ _ _ ((Lat, PySem.W.listOf #[Value.int ((p + (Txt.slice x (some (p : Int)) (some (p + 1 : Int))).length : Nat) : Int) tz] n) :: rest) := ⟨_, by rw [Int.natCast_add]; exact kN⟩
    exact hret _ _ _ _ ⟨_, tz, n, rfl, rfl⟩ (by k_asm) kN
  have oR1 : ∃ fd, oR.data = .func fd := by rw [hoR]; exact ⟨_, rfl⟩
  clear hoR
  have la2 := l2.2
  k_dflt (refine' call_cls ?k1 ?k2 ?k3 ?k4 ?k5 ?k6 ?_; (case k1 => k_asm); (case k2 => k_asm); (case k3 => k_asm); (case k4 => k_is); (case k5 => k_is); (case k6 => k_is); k_whole; intro x' d' h' F' N' l1 l2; (try k_lt l1); (try k_lt2 l2); (try k_sweep); walk_at "my enter")
  (repeat' (first | ((( (fail_if_success with_reducible first | refine st0 ?_ | refine st1 ?_ | refine st2 ?_ | refine st3 ?_))); (fail_if_success with_reducible first | refine st4 ?_ | refine st5 ?_ | refine st7 ?_ | refine st6 ?_ | refine st8 ?_ | refine st9 ?_); (first | ((with_reducible show wpAny _ _ (call (Value.builtin "len") _) _ _ _); ((k_here; k_dflt (refine' my_len (by k_asm) (by k_mem) (by omega) ?_;  k_whole); intro _ _))) | ((with_reducible show wpAny _ _ (subscriptTail (PySem.Expr.Name _ _) (PySem.Expr.Slice _ _ _ _) (Value.str _ _) (Value.ref _)) _ _ _); ((k_here; (with_reducible show wpAny _ _ (subscriptTail _ (PySem.Expr.Slice (some (PySem.Expr.Name _ _)) (some (PySem.Expr.Name _ _)) none _) (Value.str _ _) (Value.ref _)) _ _ _); k_dflt (refine' slice_strN_ss (hsz := (by (rw [sizeLine_eq]; omega))) (by k_asm) (by k_asm) ?_;  k_whole); intro _ _ _ _ _))) | walk_at "mo"))))
  rename_i lp _ lpl _ _ _ _ _ _ _ _ kN _ _
  refine gz0 fun Gz hGz => ?_
  obtain ⟨ka, kb, kc, kd, tn, tw, kN⟩ : (Xx6 fun a b c d tn tw => News _ _ _ ((lp, PySem.W.listOf #[] 0) :: (x', instObj 158 d') :: (d', machD w.params a b c d 1 tn fS tw lp) :: (fR, oR) :: (dS, odS) :: (fS, oS) :: (c1, oc1) :: (Lat, PySem.W.listOf #[.int 0 tk1] 0) :: (L1 + 1 + 1, o3) :: (L1 + 1, o2) :: (301, tabObj pz) :: fr)) := ⟨_, _, _, _, _, _, kN⟩
  refine hGz ?_
  clear hGz Gz
  refine hret _ _ _ _ ⟨x', d', lp, fS, Lat, [(x', instObj 158 d'), (fR, oR), (dS, odS), (fS, oS), (c1, oc1), (L1 + 1 + 1, o3), (L1 + 1, o2), (301, tabObj pz)], tk1, 0, ka, kb, kc, kd, tn, tw, rfl, rfl, ?_, ⟨_, by k_mem⟩, ?_, fun p hp => ⟨mem_allLt lpl.2.2.2.2.2.2.2.2.2.2 p hp, mem_allLt lLat.2.2.2 p hp, mem_allLt l1.2.2.2.2.2.2.2.2 p hp⟩⟩ (by k_asm) (news_sub kN ?_)
  · refine ⟨.head _, ⟨oS, dS, odS, fR, oR, ?_, oS1, oS2, oS3, ?_, nS, ?_, oR1, _, key, ?_⟩, ?_, ?_, ?_, ?_⟩
    · k_mem
    · k_mem
    · k_mem
    · (((try simp only [List.cons_append, List.nil_append]); (repeat' (first | exact List.forall_mem_nil _ | refine List.forall_mem_cons.mpr ⟨?_, ?_⟩)) <;> (first | k_mem | (intro _ _; k_mem))))
    · intro p hp
      simp only [List.mem_cons, List.not_mem_nil, or_false] at hp
      rcases hp with rfl | rfl | rfl | rfl | rfl | rfl | rfl | rfl
      · exact ⟨neN (by dsimp only; omega), neN (by dsimp only; omega), neN (by dsimp only; omega)⟩
      · exact ⟨neN (by dsimp only; omega), neN (by dsimp only; omega), neN (by dsimp only; omega)⟩
      · exact ⟨neN (by dsimp only; omega), neN (by dsimp only; omega), neN (by dsimp only; omega)⟩
      · exact ⟨neN (by dsimp only; omega), neN (by dsimp only; omega), neN (by dsimp only; omega)⟩
      · exact ⟨neN (by dsimp only; omega), neN (by dsimp only; omega), neN (by dsimp only; omega)⟩
      · exact ⟨neN (by dsimp only; omega), neN (by dsimp only; omega), neN (by dsimp only; omega)⟩
      · exact ⟨neN (by dsimp only; omega), neN (by dsimp only; omega), neN (by dsimp only; omega)⟩
      · exact ⟨neN (by dsimp only; omega), neN (by dsimp only; omega), neN (by dsimp only; omega)⟩
    · omega
    · omega
    · omega
  · intro q hq
    simp only [List.mem_cons, List.not_mem_nil, or_false] at hq
    rcases hq with rfl | rfl | rfl | rfl | rfl | rfl | rfl | rfl
    · exact .inr fun p hp => Nat.lt_trans (mem_allLt l1.2.2.2.2.2.2.2.2 p hp) l2
    · exact .inr fun p hp => Nat.lt_trans (mem_allLt lc1.2.2.2.2 p hp) lf1
    · exact .inr fun p hp => mem_allLt ldS.2.2.2.2.2.2.2.2 p hp
    · exact .inr fun p hp => Nat.lt_trans (mem_allLt lc2.2.2.2.2.2.2 p hp) lf2
    · exact .inr fun p hp => mem_allLt lc1.2.2.2.2 p hp
    · exact .inr fun p hp => mem_allLt l3.2 p hp
    · exact .inr fun p hp => mem_allLt la2 p hp
    · exact .inl rfl
  · (((try simp only [List.cons_append, List.nil_append]); (repeat' (first | exact List.forall_mem_nil _ | refine List.forall_mem_cons.mpr ⟨?_, ?_⟩)) <;> (first | k_mem | (intro _ _; k_mem))))
end Mine
-- C30
namespace Mine
theorem fnAt_of {h₀ h : Heap} {L q : Addr} {o : Obj} {fd : FuncData} {news : Led} (N : News h₀ L h news) (hm : (q, o) ∈ news) (hd : o.data = .func fd) : FnAt q h := by
  refine gz0 fun Gz hGz => ?_
  obtain ⟨oc, od, dt, sl⟩ := o
  refine hGz ?_
  clear hGz Gz
  dsimp only at hd
  subst hd
  exact ⟨oc, od, fd, sl, (N _ hm).1⟩
theorem use_saysC {w : World} {d u : Nat} {f : Addr} {vs : List Value} {kw : List (Str × Value)} {news : Led} {R : Value → Led → Prop} {p : Program} {loose : List Str} {mean : ExcName → Option Value} {mg mb : Str → Option Value}
    {dp un : Nat} {gd : Option (List Code)} {cn : Str} {cs : Scope} {a : Addr} {ccd : Value} {cl : List (Str × Addr)} {outer : List Env} {A₀ : Around} {base h₀ : Heap} {L : Addr} {m : Str → Option Value} {s : Shared} {Q E : Value → Shared → Prop}
    (B : Below A₀ base outer h₀) (F : Fr h₀ L s.heap m) (X : (Mine.hd.heap_39 w.params).In h₀) (N : News h₀ L s.heap news) (T : Top p loose mean mg mb h₀) (hk : cs.kind = .function) (C : SaysC w d u f vs kw news R) (hd : dp + d < recursionLimit) (hu : un + u < cLine)
    (ret : ∀ v h' tk' news', R v news' → Fr h₀ L h' m → News h₀ L h' news' → Q v { s with heap := h', toks := tk' }) :
    codeAny (model PySem.Challenge.rw_sn0098_01.row.prog w) (ktrTop dp un gd cn cs L a ccd cl outer) (.call (.ref f) ⟨vs, kw⟩) (fun r s' => match r with | .ok (.ret v) => Q v s' | .ok _ => False | .error e => E e s') s := C _ _ _ _ _ _ _ _ _ _ _ _ _ _ _ _ _ _ _ _ _ _ B F X N T hk hd hu ret
end Mine
namespace Mine
noncomputable def chAt (x : Str) (p : Nat) : Str := Txt.slice x (some (p : Int)) (some (p + 1 : Int))
theorem says_rc (w : World) (x : Str) (mach dm lp fS Lat : Addr) (rest : Led) (M : Mach w x mach dm lp fS Lat rest) (ps : List Value) (np p : Nat) (tp : Tok) (nL : Nat) (a b c d : Tok) (ln : Int) (tn tw : Tok) (hp : p ≤ x.length) :
    SaysC w 14 160 141 [.ref mach] [] (mst w.params ps np p tp nL a b c d ln tn tw lp dm fS Lat rest) (fun v news => (Xx4 fun ts tp' nL' tn' => v = .str (chAt x p) ts ∧ news = mst w.params ps np (p + (chAt x p).length) tp' nL' a b c d (if chAt x p = "\n" then ln + 1 else ln) tn' tw lp dm fS Lat rest)) := by
  ((have hfill : Mine.hd.heap_39 = Mine.hd.heap_39 ∧ PySem.Challenge.rw_sn0098_01 = PySem.Challenge.rw_sn0098_01 := (by k_fill; exact ⟨rfl, rfl⟩)); clear hfill)
  refine gz0 fun Gz hGz => ?_
  obtain ⟨oS, dS, odS, fR, oR, hS, s1, s2, s3, hdS, nsS, hR, ⟨fdR, r1⟩, fix, key, hfix⟩ := M.strm
  refine hGz ?_
  clear hGz Gz
  have hinst := M.inst
  have ne1 := M.ne1
  have ne2 := M.ne2
  have ne3 := M.ne3
  have o1 : ∀ q ∈ rest, q.1 ≠ lp := fun q hq => (M.offs q hq).1
  have o2 : ∀ q ∈ rest, q.1 ≠ Lat := fun q hq => (M.offs q hq).2.1
  have o3 : ∀ q ∈ rest, q.1 ≠ dm := fun q hq => (M.offs q hq).2.2
  intro p0 loose mean mg mb dp un gd cn cs ad ccd cl outer A₀ base h₀ L m s Q E B F X N T hk hd hu hret
  unfold mst at N
  k_dflt walk_at "my enter"
  (repeat' (first | ((( (fail_if_success with_reducible first | refine st0 ?_ | refine st1 ?_ | refine st2 ?_ | refine st3 ?_))); (fail_if_success with_reducible first | refine st4 ?_ | refine st5 ?_ | refine st7 ?_ | refine st6 ?_ | refine st8 ?_ | refine st9 ?_); (first | ((k_here; (with_reducible show wpAny _ _ (getMethod (Value.ref _) (Str.ofString "read") _) _ _ _); k_dflt (refine' my_fnget (by k_asm) (by k_mem) (by assumption) (by k_mem) (by assumption) (by exact if_pos rfl) (by assumption) (by assumption) (by (intro _ e; cases e)) ?_;  k_whole); intro _; dsimp only)) | ((k_here; (with_reducible show wpAny _ _ (getMethod (Value.ref 172) (Str.ofString "search") _) _ _ _); k_dflt (refine' get_172 (by k_asm) (by k_asm) ?_;  k_whole))) | ((k_here; (with_reducible show wpAny _ _ (getMethod (Value.ref 167) (Str.ofString "search") _) _ _ _); k_dflt (refine' get_167 (by k_asm) (by k_asm) ?_;  k_whole))) | ((k_here; (with_reducible show wpAny _ _ (getMethod (Value.ref _) (Str.ofString "pop") _) _ _ _); k_dflt (refine' my_get_pop (knd := PySem.intKind _ _) (by k_asm) (by k_mem) (by assumption) (by omega) ?_;  k_whole))) | ((k_here; (with_reducible show wpAny _ _ (callWith _ (Value.ref _) _ (backTo _ (starEach (_ :: _) _)) []) _ _ _); k_dflt (refine' callWith_F (by exact fnAt_of (by k_asm) (by k_mem) (by assumption)) ?_;  k_whole))) | (((with_reducible show FnAt _ _ ∧ _); refine ⟨by exact fnAt_of (by k_asm) (by k_mem) (by assumption), ?_⟩; try dsimp only [List.nil_append, List.cons_append])) | walk_at "mo"))))
  (rename News _ _ _ _ => N2)
  replace N2 := news_sub (news' := (Lat, PySem.W.listOf #[.int (p : Nat) tp] nL) :: (lp, PySem.W.listOf ps.toArray np) :: (dm, machD w.params a b c d ln tn fS tw lp) :: rest) N2 (by (((try simp only [List.cons_append, List.nil_append]); (repeat' (first | exact List.forall_mem_nil _ | refine List.forall_mem_cons.mpr ⟨?_, ?_⟩)) <;> (first | k_mem | (intro _ _; k_mem)))))
  refine' use_saysAt (by k_asm) (by k_asm) (by k_asm) ?uN17 (by k_asm) (by first | exact rfl | assumption) ?uC17 ?uD17 ?uU17 ?uR17
  case uN17 => exact N2
  case uC17 => exact (key _ p tp _ nL (fun q hq => .tail _ (.tail _ (hfix q hq))) (List.forall_mem_cons.mpr ⟨ne1, List.forall_mem_cons.mpr ⟨Ne.symm ne3, o2⟩⟩) hp).at
  case uD17 => ktr_room
  case uU17 => ktr_units
  rintro vZ h9 tk9 nZ hJz
  refine gz2 vZ nZ ?_
  intro Gz hGz
  obtain ⟨ts, tp', n', rfl, rfl⟩ := hJz
  refine hGz _ _ ?_
  clear hGz Gz
  rintro F9 N9
  change News _ _ _ ((Lat, PySem.W.listOf #[.int ((p + (chAt x p).length : Nat) : Int) tp'] n') :: _) at N9
  change wpAny _ _ (storeName _ _ (.str (chAt x p) ts)) _ _ _
  (repeat' (first | ((( (fail_if_success with_reducible first | refine st0 ?_ | refine st1 ?_ | refine st2 ?_ | refine st3 ?_))); (fail_if_success with_reducible first | refine st4 ?_ | refine st5 ?_ | refine st7 ?_ | refine st6 ?_ | refine st8 ?_ | refine st9 ?_); (first | ((k_here; (with_reducible show wpAny _ _ (getMethod (Value.ref _) (Str.ofString "read") _) _ _ _); k_dflt (refine' my_fnget (by k_asm) (by k_mem) (by assumption) (by k_mem) (by assumption) (by exact if_pos rfl) (by assumption) (by assumption) (by (intro _ e; cases e)) ?_;  k_whole); intro _; dsimp only)) | ((k_here; (with_reducible show wpAny _ _ (getMethod (Value.ref 172) (Str.ofString "search") _) _ _ _); k_dflt (refine' get_172 (by k_asm) (by k_asm) ?_;  k_whole))) | ((k_here; (with_reducible show wpAny _ _ (getMethod (Value.ref 167) (Str.ofString "search") _) _ _ _); k_dflt (refine' get_167 (by k_asm) (by k_asm) ?_;  k_whole))) | ((k_here; (with_reducible show wpAny _ _ (getMethod (Value.ref _) (Str.ofString "pop") _) _ _ _); k_dflt (refine' my_get_pop (knd := PySem.intKind _ _) (by k_asm) (by k_mem) (by assumption) (by omega) ?_;  k_whole))) | ((k_here; (with_reducible show wpAny _ _ (callWith _ (Value.ref _) _ (backTo _ (starEach (_ :: _) _)) []) _ _ _); k_dflt (refine' callWith_F (by exact fnAt_of (by k_asm) (by k_mem) (by assumption)) ?_;  k_whole))) | (((with_reducible show FnAt _ _ ∧ _); refine ⟨by exact fnAt_of (by k_asm) (by k_mem) (by assumption), ?_⟩; try dsimp only [List.nil_append, List.cons_append])) | walk_at "mo"))))
  · have hb : chAt x p = "\n" := by first | assumption | exact eq_of_beq (by assumption)
    (rename News _ _ _ _ => kN)
    obtain ⟨tz, kN⟩ : ∃ tz, News _ _ _ ((Lat, PySem.W.listOf #[.int ((p + (chAt x p).length : Nat) : Int) tp'] n') :: (lp, PySem.W.listOf ps.toArray np) :: (dm, machD w.params a b c d (ln + 1) tz fS tw lp) :: rest) := ⟨_, kN⟩
    exact hret _ _ _ _ ⟨ts, tp', n', tz, rfl, by rw [if_pos hb]⟩ (by k_asm) (news_sub kN (by unfold mst; (((try simp only [List.cons_append, List.nil_append]); (repeat' (first | exact List.forall_mem_nil _ | refine List.forall_mem_cons.mpr ⟨?_, ?_⟩)) <;> (first | k_mem | (intro _ _; k_mem))))))
  · have hb : chAt x p ≠ "\n" := by first | assumption | exact fun e => by simp_all
    (rename News _ _ _ _ => kN)
    exact hret _ _ _ _ ⟨ts, tp', n', tn, rfl, by rw [if_neg hb]⟩ (by k_asm) (news_sub kN (by unfold mst; (((try simp only [List.cons_append, List.nil_append]); (repeat' (first | exact List.forall_mem_nil _ | refine List.forall_mem_cons.mpr ⟨?_, ?_⟩)) <;> (first | k_mem | (intro _ _; k_mem))))))
end Mine
-- C31
namespace Mine
theorem cit_iter : Slot "callable_iterator" "__iter__" "callable_iterator.__iter__" :=
  .of (owner := "callable_iterator") (n := "__iter__") (by rw [typeLookup_type, builtinLookup_eq_fast]; kernel_rfl) (by decide +kernel) (by decide +kernel) (by decide +kernel)
    (by first | exact .inl (by decide +kernel) | exact .inr (by decide +kernel)) (by rw [isSubtype_type]; kernel_rfl)
theorem cit_next : Slot "callable_iterator" "__next__" "callable_iterator.__next__" :=
  .of (owner := "callable_iterator") (n := "__next__") (by rw [typeLookup_type, builtinLookup_eq_fast]; kernel_rfl) (by decide +kernel) (by decide +kernel) (by decide +kernel)
    (by first | exact .inl (by decide +kernel) | exact .inr (by decide +kernel)) (by rw [isSubtype_type]; kernel_rfl)
theorem cit_entry_iter : entryFor table "callable_iterator.__iter__" = some Builtin.«dict_keyiterator.__iter__» :=
  entryFor_alias (id' := "dict_keyiterator.__iter__") (by kernel_rfl) (by decide +kernel) (by decide +kernel) (by kernel_rfl)
theorem cit_entry_next : entryFor table "callable_iterator.__next__" = some Builtin.«callable_iterator.__next__» := entryFor_of_tree (by kernel_rfl)
theorem cit_args_iter (a : Value) : argsOk "callable_iterator.__iter__" ⟨[a], []⟩ := by unfold argsOk; kernel_rfl
theorem cit_args_next (a : Value) : argsOk "callable_iterator.__next__" ⟨[a], []⟩ := by unfold argsOk; kernel_rfl
theorem meth_call : ∃ r, typeLookup (.type "method") "__call__" = pure (some (.builtin r)) := ⟨"method.__call__", by rw [typeLookup_type, builtinLookup_eq_fast]; kernel_rfl⟩
theorem iter_entry : entryFor table "iter" = some Builtin.«iter» := entryFor_of_fast (by kernel_rfl)
theorem iter_args2 (a b : Value) : argsOk "iter" ⟨[a, b], []⟩ := by unfold argsOk; kernel_rfl
abbrev citO (q : Addr) (ts : Tok) : Obj := { cls := .type "callable_iterator", data := .fields #[.ref q, .str "" ts, .bool false] }
abbrev citE : Obj := { cls := .type "callable_iterator", data := .fields #[.none, .none, .bool true] }
section
variable {prog : Program} {w : World} {A : Around} {E : Value → Shared → Prop} {s : Shared}
theorem cit_new {q : Addr} {oq : Obj} {ts : Tok} {Q : Value → Shared → Prop} (hq : s.heap.get? q = some oq) (hc : oq.cls = .type "method") (h : Q (.ref s.heap.objs.size) { s with heap := s.heap.push (citO q ts) }) :
    wpAny (model prog w) A (call (.builtin "iter") [.ref q, .str "" ts]) Q E s := by
  obtain ⟨r, hr⟩ := meth_call
  have hT : s.TypeIs (.ref q) "method" := ⟨oq, hq, hc⟩
  refine Calls.call_function_entry (by decide +kernel) (by decide +kernel) iter_entry (iter_args2 _ _) ?_
  unfold Builtin.«iter»
  refine wpAny_bind (m := someArgs "iter" 1 2 _) (wpAny_of_eq (a := [Value.ref q, Value.str "" ts]) (by first | rfl | kernel_rfl!) ?_)
  dsimp only
  refine wpAny_bind (wpAny_specialOf hT hr ?_)
  simp only [Option.isNone_some, Bool.false_eq_true, if_false]
  refine wpAny_bind (wpAny_rule ?_)
  exact wpAny_bind (wpAny_newObj_type (wpAny_pure ⟨_, rfl, h⟩))
theorem cit_pyIter {it : Addr} {o : Obj} {Q : Value → Shared → Prop} (ho : s.heap.get? it = some o) (hc : o.cls = .type "callable_iterator") (h : Q (.ref it) s) : wpAny (model prog w) A (pyIter (.ref it)) Q E s := by
  have hT : s.TypeIs (.ref it) "callable_iterator" := ⟨o, ho, hc⟩
  refine wpAny_pyIter_slot hT cit_iter (wpAny_call_entry cit_iter hT cit_entry_iter ?_ (cit_args_iter _))
  show wpAny _ _ (ret (Value.ref it)) _ _ _
  exact wpAny_pure ⟨_, rfl, "callable_iterator", _, hT, cit_next.lookup, h⟩
theorem wp_borrowed {M : Model} {A : Around} {E : Value → Shared → Prop} {s : Shared} {f : Value} {pos : List Value} {Q : Value → Shared → Prop}
    (hc : codeAny M A (.call f ⟨pos, []⟩) (fun r s' => match r with | .ok (.ret v) => Q v s' | .ok _ => False | .error e => E e s') s) : wpAny M A (callBorrowed f pos) Q E s := fun Γ p hΓ => by
  unfold callBorrowed
  rw [Sem.wp_call]
  refine wpCode_mono (fun r s' h => ?_) (hc (Γ.enter (.call f ⟨pos, []⟩) none p) p rfl (hΓ.enter _ none p (by intro x; cases x)))
  cases r with
  | error e => simpa using h
  | ok fl =>
    cases fl with
    | ret v => simpa using h
    | _ => exact h.elim
theorem wp_stop {α : Type} {Qf : α → Shared → Prop} {Q : Option Value → Shared → Prop} (hh : A.handled = none) (h : ∀ h', (∀ b o, s.heap.get? b = some o → h'.get? b = some o) → Q none { s with heap := h' }) :
    wpAny (model prog w) A.in1 (Builtin.SmallTypes.stopIteration : Sem α) Qf (fun e s' => wpAny (model prog w) A (do
      if ← isInstance e (Value.type "StopIteration") then pure none else throw e) Q E s') s := by
  show wpAny _ _ (newExc (.type "StopIteration") [] >>= _) _ _ _
  refine wpAny_bind ?_
  simp only [newExc, newTuple]
  refine wpAny_bind (wpAny_newObj_type ?_ (by size_fits))
  refine wpAny_bind (m := firstArgMember _ _) (wpAny_of_eq (a := Value.none) (by first | rfl | (simp only [firstArgMember]; rfl)) ?_)
  refine wpAny_newObj_type ?_ (by size_fits)
  simp only [raiseNew]
  refine wpAny_bind (wpAny_handled ?_)
  rw [show A.in1.handled = none from hh]
  refine wpAny_bind (wpAny_pure (wpAny_throw ?_))
  refine wpAny_bind (wpAny_isInstance (T := "StopIteration") (b := true) ⟨_, Heap.get?_push_size _ rfl, rfl⟩ isSubtype_stop ?_)
  exact wpAny_pure (h _ fun b o e => Heap.get?_push_of_some _ (Heap.get?_push_of_some _ e))
theorem cit_step {it q fn : Addr} {ts : Tok} {self : Value} {of : Obj} {fd : FuncData} {Q : Option Value → Shared → Prop} (ho : s.heap.get? it = some (citO q ts)) (hq : s.heap.get? q = some (methodObj (.ref fn) self)) (hf : s.heap.get? fn = some of) (hfd : of.data = .func fd)
    (hh : A.handled = none) (hcall : codeAny (model prog w) A.in1 (.call (.ref fn) ⟨[self], []⟩) (fun r s' => match r with
      | .ok (.ret v) => (Xx2 fun ch tc => Aa6 (v = .str ch tc) (s'.heap.get? it = some (citO q ts)) (s'.heap.get? q = some (methodObj (.ref fn) self)) (s'.heap.get? fn = some of) ((ch ≠ "" → Q (some (.str ch tc)) s')) ((ch = "" → ∀ h' tk, h'.get? it = some citE → (∀ b o, b ≠ it → s'.heap.get? b = some o → h'.get? b = some o) → Q none { s' with heap := h', toks := tk })))
      | .ok _ => False
      | .error _ => False) s) : wpAny (model prog w) A (pyNext (.ref it)) Q E s := by
  have hT : s.TypeIs (.ref it) "callable_iterator" := ⟨_, ho, rfl⟩
  unfold pyNext
  refine wpAny_bind (wpAny_attempt (wpAny_callSpecial?_slot (name := Str.ofString "__next__") hT cit_next (wpAny_call_entry cit_next hT cit_entry_next ?_ (cit_args_next _))))
  unfold Builtin.«callable_iterator.__next__»
  refine wpAny_bind (m := slotArgs "__next__" 0 _) (wpAny_of_eq (a := (Value.ref it, [])) rfl ?_)
  dsimp only
  refine wpAny_bind (wpAny_field ho rfl (x := .bool false) rfl ?_)
  rw [if_neg (by decide)]
  refine wpAny_bind (wpAny_field ho rfl (x := .ref q) rfl ?_)
  refine wpAny_bind (wpAny_attempt ?_)
  unfold callOutOfASlot
  refine wpAny_bind ?_
  unfold borrowsExactly
  refine wpAny_bind (wpAny_load hq ?_)
  dsimp only
  rw [if_pos (by decide)]
  refine wpAny_bind (wpAny_load hf ?_)
  rw [hfd]
  refine wpAny_pure ?_
  rw [if_pos rfl]
  refine wp_borrowed (method_call hq (codeAny_mono hcall fun r s' z => ?_))
  cases r with
  | error e => exact z.elim
  | ok fl =>
    cases fl with
    | ret v =>
      refine gz0 fun Gz hGz => ?_
      obtain ⟨ch, tc, rfl, z1, z2, z3, z4, z5⟩ := z
      refine hGz ?_
      clear hGz Gz
      dsimp only
      refine wpAny_bind (wpAny_field z1 rfl (x := .bool false) rfl ?_)
      rw [if_neg (by decide)]
      refine wpAny_bind (wpAny_field z1 rfl (x := .str "" ts) rfl ?_)
      refine wpAny_bind (wpAny_holding (wpAny_eqBool_str ?_))
      by_cases hch : ch = ""
      · rw [decide_eq_true hch.symm, if_neg (by decide)]
        refine wpAny_bind (wpAny_rule ?_)
        show wpAny _ _ ((do
          slotLetsGo "callable_iterator.__next__" (← field (.ref it) 0) _
          setField (.ref it) 0 .none
          setField (.ref it) 1 .none
          setField (.ref it) 2 (.bool true)) >>= fun _ => Builtin.SmallTypes.stopIteration) _ _ _
        refine wpAny_bind (wpAny_bind (wpAny_field z1 rfl (x := .ref q) rfl (wpAny_bind ?_)))
        unfold slotLetsGo
        dsimp only
        refine wpAny_bind ?_
        unfold borrowsExactly
        refine wpAny_bind (wpAny_load z2 ?_)
        dsimp only
        rw [if_pos (by decide)]
        refine wpAny_bind (wpAny_load z3 ?_)
        rw [hfd]
        refine wpAny_pure ?_
        rw [if_pos rfl]
        refine wpAny_pure ?_
        refine wpAny_bind (wpAny_setField z1 rfl (by simp) ?_)
        have y1 : (s'.heap.update it (Obj.mapFields (·.setIfInBounds 0 .none))).get? it = some { cls := .type "callable_iterator", data := .fields #[.none, .str "" ts, .bool false] } := Heap.get?_update_self _ z1 rfl
        refine wpAny_bind (wpAny_setField y1 rfl (by simp) ?_)
        have y2 : ((s'.heap.update it (Obj.mapFields (·.setIfInBounds 0 .none))).update it (Obj.mapFields (·.setIfInBounds 1 .none))).get? it = some { cls := .type "callable_iterator", data := .fields #[.none, .none, .bool false] } := Heap.get?_update_self _ y1 rfl
        refine wpAny_setField y2 rfl (by simp) ?_
        have y3 : (((s'.heap.update it (Obj.mapFields (·.setIfInBounds 0 .none))).update it (Obj.mapFields (·.setIfInBounds 1 .none))).update it (Obj.mapFields (·.setIfInBounds 2 (.bool true)))).get? it = some citE := Heap.get?_update_self _ y2 rfl
        exact wp_stop hh fun h' hk => z5 hch h' _ (hk _ _ y3) fun b o hb e => hk _ _ ((Heap.get?_update_ne _ _ _ _ hb).trans ((Heap.get?_update_ne _ _ _ _ hb).trans ((Heap.get?_update_ne _ _ _ _ hb).trans e)))
      · rw [decide_eq_false (fun e => hch e.symm), if_pos (by decide)]
        exact wpAny_pure ⟨_, rfl, wpAny_pure (z4 hch)⟩
    | _ => exact z.elim
theorem cit_done {it : Addr} {Q : Option Value → Shared → Prop} (ho : s.heap.get? it = some citE) (hh : A.handled = none)
    (h : ∀ h', (∀ b o, s.heap.get? b = some o → h'.get? b = some o) → Q none { s with heap := h' }) : wpAny (model prog w) A (pyNext (.ref it)) Q E s := by
  have hT : s.TypeIs (.ref it) "callable_iterator" := ⟨_, ho, rfl⟩
  unfold pyNext
  refine wpAny_bind (wpAny_attempt (wpAny_callSpecial?_slot (name := Str.ofString "__next__") hT cit_next (wpAny_call_entry cit_next hT cit_entry_next ?_ (cit_args_next _))))
  unfold Builtin.«callable_iterator.__next__»
  refine wpAny_bind (m := slotArgs "__next__" 0 _) (wpAny_of_eq (a := (Value.ref it, [])) rfl ?_)
  dsimp only
  refine wpAny_bind (wpAny_field ho rfl (x := .bool true) rfl ?_)
  rw [if_pos (by decide)]
  refine wpAny_bind (wpAny_rule ?_)
  refine wpAny_bind ?_
  exact wp_stop hh h
end
end Mine
-- C32
namespace Mine
theorem Mach.cons {w : World} {x : Str} {mach dm lp fS Lat : Addr} {rest : Led} (M : Mach w x mach dm lp fS Lat rest) (e : Addr × Obj) (h1 : e.1 ≠ lp) (h2 : e.1 ≠ Lat) (h3 : e.1 ≠ dm) : Mach w x mach dm lp fS Lat (e :: rest) where
  inst := .tail _ M.inst
  strm := by
    refine gz0 fun Gz hGz => ?_
    obtain ⟨oS, dS, odS, fR, oR, a1, a2, a3, a4, a5, a6, a7, a8, fix, a9, a10⟩ := M.strm
    refine hGz ?_
    clear hGz Gz
    exact ⟨oS, dS, odS, fR, oR, .tail _ a1, a2, a3, a4, .tail _ a5, a6, .tail _ a7, a8, fix, a9, fun q hq => .tail _ (a10 q hq)⟩
  offs := List.forall_mem_cons.mpr ⟨⟨h1, h2, h3⟩, M.offs⟩
  ne1 := M.ne1
  ne2 := M.ne2
  ne3 := M.ne3
theorem look141 (P : Params) : (Xx2 fun o fd => (Mine.hd.heap_39 P).lookup 141 = some o ∧ o.data = .func fd) := by
  have h : ((Mine.hd.heap_39 P).lookup 141).any (fun o => match o.data with | .func _ => true | _ => false) = true := by kernel_rfl
  cases e : (Mine.hd.heap_39 P).lookup 141 with
  | none => rw [e] at h; cases h
  | some o =>
    rw [e, Option.any_some] at h
    refine gz0 fun Gz hGz => ?_
    obtain ⟨oc, od, dt, sl⟩ := o
    refine hGz ?_
    clear hGz Gz
    cases dt <;> first | exact ⟨_, _, rfl, rfl⟩ | cases h
theorem chAt_end {x : Str} : chAt x x.length = "" := by
  have e : Txt.slice x (some (x.length : Int)) (some (x.length + 1 : Int)) = Txt.slice x (some (x.length : Int)) (some (x.length : Int)) := by
    show StrLaws.sliceText x _ _ = StrLaws.sliceText x _ _
    unfold StrLaws.sliceText
    have a1 : ¬ ((x.length : Int) + 1 < 0) := by omega
    have a2 : ¬ ((x.length : Int) < 0) := by omega
    have e1 : max (0 : Int) (min ((x.length : Int) + 1) (x.length : Int)) = x.length := by omega
    have e2 : max (0 : Int) (min (x.length : Int) (x.length : Int)) = x.length := by omega
    have e3 : Builtin.Str.strSliceIndices (some (x.length : Int)) (some (x.length + 1 : Int)) 1 x.length = Builtin.Str.strSliceIndices (some (x.length : Int)) (some (x.length : Int)) 1 x.length := by
      simp [Builtin.Str.strSliceIndices, a1, a2, e1, e2]
    rw [e3]
  unfold chAt
  rw [e, eq_of_beq (slice_closesL (x := x) (Int.natCast_nonneg _) (Int.le_refl _) (Int.le_refl _))]
  simp
  rfl
theorem chAt_in {x : Str} {p : Nat} (h : p < x.length) : chAt x p = ⟨#[x.cps.getD p 0]⟩ := by
  unfold chAt
  rw [eq_of_beq (slice_closesL (x := x) (Int.natCast_nonneg p) (by omega) (by omega))]
  have h' : p < x.cps.size := h
  have e : ((p : Int) + 1 - (p : Int)).toNat = 1 := by omega
  rw [e, Int.toNat_natCast, List.drop_eq_getElem_cons (by simpa using h')]
  simp [Array.getD, h']
theorem chAt_len {x : Str} {p : Nat} (h : p < x.length) : (chAt x p).length = 1 := by rw [chAt_in h]; rfl
theorem chAt_ne {x : Str} {p : Nat} (h : p < x.length) : chAt x p ≠ "" := by
  intro e
  have h1 := chAt_len h
  rw [e] at h1
  cases h1
section
variable {w : World} {p0 : Program} {loose : List Str} {mean : ExcName → Option Value} {mg mb : Str → Option Value} {dp un : Nat} {gd : Option (List Code)} {cn : Str} {cs : Scope} {ad : Addr} {ccd : Value} {cl : List (Str × Addr)} {outer : List Env}
  {A₀ : Around} {base h₀ : Heap} {L : Addr} {m : Str → Option Value} {s : Shared} {E : Value → Shared → Prop}
theorem next_ch {x : Str} {mach dm lp fS Lat it q : Addr} {rest : Led} {ts : Tok} {ps : List Value} {np p : Nat} {tp : Tok} {nL : Nat} {a b c d : Tok} {ln : Int} {tn tw : Tok} {Q : Option Value → Shared → Prop} (B : Below A₀ base outer h₀) (F : Fr h₀ L s.heap m) (X : (Mine.hd.heap_39 w.params).In h₀)
    (N : News h₀ L s.heap (mst w.params ps np p tp nL a b c d ln tn tw lp dm fS Lat ((it, citO q ts) :: rest))) (T : Top p0 loose mean mg mb h₀) (hk : cs.kind = .function) (hd : dp + 20 < recursionLimit) (hu : un + 200 < cLine)
    (M : Mach w x mach dm lp fS Lat ((it, citO q ts) :: rest)) (hq : (q, methodObj (.ref 141) (.ref mach)) ∈ rest) (ho : ∀ r ∈ rest, r.1 ≠ it) (hp : p ≤ x.length)
    (h1 : p < x.length → ∀ ts' h' tk tp' nL' tn', Fr h₀ L h' m → News h₀ L h' (mst w.params ps np (p + 1) tp' nL' a b c d (if chAt x p = "\n" then ln + 1 else ln) tn' tw lp dm fS Lat ((it, citO q ts) :: rest)) → Q (some (.str (chAt x p) ts')) { s with heap := h', toks := tk })
    (h2 : p = x.length → ∀ h' tk tp' nL' tn', Fr h₀ L h' m → News h₀ L h' (mst w.params ps np p tp' nL' a b c d ln tn' tw lp dm fS Lat ((it, citE) :: rest)) → Q none { s with heap := h', toks := tk }) :
    wpAny (model PySem.Challenge.rw_sn0098_01.row.prog w) (ktrTop dp un gd cn cs L ad ccd cl outer) (pyNext (.ref it)) Q E s := by
  refine gz0 fun Gz hGz => ?_
  obtain ⟨of, fd, hlf, hfd⟩ := look141 w.params
  refine hGz ?_
  clear hGz Gz
  have hIt : (it, citO q ts) ∈ mst w.params ps np p tp nL a b c d ln tn tw lp dm fS Lat ((it, citO q ts) :: rest) := .tail _ (.tail _ (.tail _ (.head _)))
  have hQ : (q, methodObj (.ref 141) (.ref mach)) ∈ mst w.params ps np p tp nL a b c d ln tn tw lp dm fS Lat ((it, citO q ts) :: rest) := .tail _ (.tail _ (.tail _ (.tail _ hq)))
  refine cit_step (N _ hIt).1 (N _ hQ).1 (F.keep _ _ (X _ _ hlf)) hfd rfl ?_
  refine use_saysC (E := fun _ _ => False) B F X N T hk (says_rc w x mach dm lp fS Lat _ M ps np p tp nL a b c d ln tn tw hp) (by show dp + 14 < recursionLimit; omega) (by show un + 1 + 160 < cLine; omega) ?_
  rintro v h' tk' nZ hJz
  refine gz2 v nZ ?_
  intro Gz hGz
  obtain ⟨ts', tp', nL', tn', rfl, rfl⟩ := hJz
  refine hGz _ _ ?_
  clear hGz Gz
  rintro F' N'
  refine ⟨_, _, rfl, (N' _ (.tail _ (.tail _ (.tail _ (.head _))))).1, (N' _ (.tail _ (.tail _ (.tail _ (.tail _ hq))))).1, F'.keep _ _ (X _ _ hlf), fun hne => ?_, fun he h'' tk'' e1 e2 => ?_⟩
  · by_cases hlt : p < x.length
    · have e := chAt_len hlt
      rw [e] at N'
      exact h1 hlt ts' h' tk' tp' nL' tn' F' N'
    · have : p = x.length := by omega
      subst this
      exact absurd chAt_end hne
  · by_cases hlt : p < x.length
    · exact absurd he (chAt_ne hlt)
    · have : p = x.length := by omega
      subst this
      rw [chAt_end] at N'
      rw [if_neg (by decide)] at N'
      have hit := N' (it, citO q ts) (.tail _ (.tail _ (.tail _ (.head _))))
      refine h2 rfl h'' tk'' tp' nL' tn' ⟨F'.ns.extBut e2 hit.2.1.symm, fun b o e => e2 b o (fun z => by rw [z, hit.2.2] at e; cases e) (F'.keep b o e), F'.above⟩ fun r hr => ?_
      have e0 : x.length + ("" : Str).length = x.length := by rw [show ("" : Str).length = 0 from rfl]; rfl
      have hof := M.offs (it, citO q ts) (.head _)
      have keep : ∀ r ∈ mst w.params ps np x.length tp' nL' a b c d ln tn' tw lp dm fS Lat rest, r.1 ≠ it → h''.get? r.1 = some r.2 ∧ r.1 ≠ L ∧ h₀.get? r.1 = none := fun r hr hne => by
        have hr' : r ∈ mst w.params ps np (x.length + ("" : Str).length) tp' nL' a b c d ln tn' tw lp dm fS Lat ((it, citO q ts) :: rest) := by
          rw [e0]
          unfold mst at hr ⊢
          simp only [List.mem_cons] at hr ⊢
          rcases hr with h | h | h | h <;> simp [h]
        exact ⟨e2 _ _ hne (N' r hr').1, (N' r hr').2⟩
      unfold mst at hr
      simp only [List.mem_cons] at hr
      rcases hr with rfl | rfl | rfl | rfl | hr
      · exact keep _ (.head _) hof.1.symm
      · exact keep _ (.tail _ (.head _)) hof.2.1.symm
      · exact keep _ (.tail _ (.tail _ (.head _))) hof.2.2.symm
      · exact ⟨e1, hit.2⟩
      · exact keep _ (.tail _ (.tail _ (.tail _ hr))) (ho r hr)
end
end Mine
-- C33
namespace Mine
section
variable {w : World} {p0 : Program} {loose : List Str} {mean : ExcName → Option Value} {mg mb : Str → Option Value} {dp un : Nat} {gd : Option (List Code)} {cn : Str} {cs : Scope} {ad : Addr} {ccd : Value} {cl : List (Str × Addr)} {outer : List Env}
  {A₀ : Around} {base h₀ : Heap} {L : Addr} {s : Shared} {E : Value → Shared → Prop} {env : Env} {tgt : Expr} {body : List Stmt} {Q : Flow → Shared → Prop}
noncomputable def TurnC (P : Params) (h₀ : Heap) (L : Addr) (s₁ : Shared) (ps : List Value) (np p : Nat) (a b c d : Tok) (ln : Int) (tw : Tok) (lp dm fS Lat : Addr) (rest : Led) (J : (Str → Option Value) → Prop) (Q : Flow → Shared → Prop) (f : Flow) (s₂ : Shared) : Prop :=
  match f with
  | .ret v => Q (.ret v) s₂
  | .brk => Q .next s₂
  | _ => (Xx6 fun h' tk m' tp nL tn => Aa4 (s₂ = { s₁ with heap := h', toks := tk }) (Fr h₀ L h' m') (News h₀ L h' (mst P ps np p tp nL a b c d ln tn tw lp dm fS Lat rest)) (J m'))
theorem TurnC.intro {P : Params} {h₀ : Heap} {L : Addr} {s₁ : Shared} {ps : List Value} {np p : Nat} {a b c d : Tok} {ln : Int} {tw : Tok} {lp dm fS Lat : Addr} {rest : Led} {J : (Str → Option Value) → Prop} {Q : Flow → Shared → Prop} {h' : Heap} {tk : Nat} {m' : Str → Option Value} {tp : Tok} {nL : Nat} {tn : Tok}
    (F : Fr h₀ L h' m') (N : News h₀ L h' (mst P ps np p tp nL a b c d ln tn tw lp dm fS Lat rest)) (hj : J m') : TurnC P h₀ L s₁ ps np p a b c d ln tw lp dm fS Lat rest J Q .next { s₁ with heap := h', toks := tk } := ⟨h', tk, m', tp, nL, tn, rfl, F, N, hj⟩
theorem loopCit {x : Str} {mach dm lp fS Lat it q : Addr} {rest : Led} {ts : Tok} {ps : List Value} {np q0 : Nat} {tp : Tok} {nL : Nat} {a b c d : Tok} {ln0 : Int} {tn tw : Tok} {m₀ : Str → Option Value} (J : Nat → Int → (Str → Option Value) → Prop)
    (B : Below A₀ base outer h₀) (X : (Mine.hd.heap_39 w.params).In h₀) (T : Top p0 loose mean mg mb h₀) (hk : cs.kind = .function) (hd : dp + 20 < recursionLimit) (hu : un + 200 < cLine) (hp : q0 ≤ x.length)
    (M : Mach w x mach dm lp fS Lat ((it, citO q ts) :: rest)) (hq : (q, methodObj (.ref 141) (.ref mach)) ∈ rest) (ho : ∀ r ∈ rest, r.1 ≠ it)
    (F : Fr h₀ L s.heap m₀) (N : News h₀ L s.heap (mst w.params ps np q0 tp nL a b c d ln0 tn tw lp dm fS Lat ((it, citO q ts) :: rest))) (hj : J q0 ln0 m₀)
    (turn : ∀ p ln m₁ ts' tp nL tn h tk, p < x.length → J p ln m₁ → Fr h₀ L h m₁ → News h₀ L h (mst w.params ps np (p + 1) tp nL a b c d (if chAt x p = "\n" then ln + 1 else ln) tn tw lp dm fS Lat ((it, citO q ts) :: rest)) →
      wpAny (model PySem.Challenge.rw_sn0098_01.row.prog w) (ktrTop dp un gd cn cs L ad ccd cl outer) (letOwnedTupleGo tgt (.ref it) (.str (chAt x p) ts')) (fun _ s₁' => wpAny (model PySem.Challenge.rw_sn0098_01.row.prog w) (ktrTop dp un gd cn cs L ad ccd cl outer) (assign tgt env (.str (chAt x p) ts'))
        (fun _ s₂ => wpAny (model PySem.Challenge.rw_sn0098_01.row.prog w) (ktrTop dp un gd cn cs L ad ccd cl outer) (execs body env)
          (TurnC w.params h₀ L s ps np (p + 1) a b c d (if chAt x p = "\n" then ln + 1 else ln) tw lp dm fS Lat ((it, citO q ts) :: rest) (J (p + 1) (if chAt x p = "\n" then ln + 1 else ln)) Q) E s₂) E s₁') E { s with heap := h, toks := tk })
    (done : ∀ m₁ ln tp nL tn h tk, J x.length ln m₁ → Fr h₀ L h m₁ → News h₀ L h (mst w.params ps np x.length tp nL a b c d ln tn tw lp dm fS Lat ((it, citE) :: rest)) → Q .next { s with heap := h, toks := tk }) :
    LoopT PySem.Challenge.rw_sn0098_01.row.prog w (ktrTop dp un gd cn cs L ad ccd cl outer) env tgt body Q E (.ref it) s := by
  refine ⟨x.length - q0, fun k s' => (Xx8 fun p ln m tp nL tn h tk => Aa6 (s' = { s with heap := h, toks := tk }) (Fr h₀ L h m) (News h₀ L h (mst w.params ps np p tp nL a b c d ln tn tw lp dm fS Lat ((it, citO q ts) :: rest))) (J p ln m) (p ≤ x.length) (k = x.length - p)),
    ⟨q0, ln0, m₀, tp, nL, tn, s.heap, s.toks, rfl, F, N, hj, hp, rfl⟩, ?_⟩
  rintro k s' hJz
  refine gz2 k s' ?_
  intro Gz hGz
  obtain ⟨p, ln, m, tp, nL, tn, h, tk, rfl, F', N', hJ, hpl, rfl⟩ := hJz
  refine hGz _ _ ?_
  clear hGz Gz
  refine next_ch B F' X N' T hk hd hu M hq ho hpl ?_ ?_
  · intro hlt ts' h' tk' tp' nL' tn' F₁ N₁
    refine wpAny_mono (turn p ln m ts' tp' nL' tn' h' tk' hlt hJ F₁ N₁) (fun _ s₁ z => wpAny_mono z (fun _ s₂ z => wpAny_mono z (fun f s₃ z => ?_) fun _ _ e => e) fun _ _ e => e) fun _ _ e => e
    cases f with
    | ret v => exact z
    | brk => exact z
    | next =>
      refine gz0 fun Gz hGz => ?_
      obtain ⟨h3, tk3, m3, tp3, nL3, tn3, rfl, F3, N3, hj3⟩ := z
      refine hGz ?_
      clear hGz Gz
      exact ⟨x.length - (p + 1), by omega, p + 1, _, m3, tp3, nL3, tn3, h3, tk3, rfl, F3, N3, hj3, hlt, rfl⟩
    | cont =>
      refine gz0 fun Gz hGz => ?_
      obtain ⟨h3, tk3, m3, tp3, nL3, tn3, rfl, F3, N3, hj3⟩ := z
      refine hGz ?_
      clear hGz Gz
      exact ⟨x.length - (p + 1), by omega, p + 1, _, m3, tp3, nL3, tn3, h3, tk3, rfl, F3, N3, hj3, hlt, rfl⟩
  · rintro rfl h' tk' tp' nL' tn' F₁ N₁
    exact done m ln tp' nL' tn' h' tk' hJ F₁ N₁
end
noncomputable def isW (c : Nat) : Bool := c == 10 || c == 9 || c == 13 || c == 32
noncomputable def lexT (stop : Nat → Bool) : List Nat → List Nat
  | [] => []
  | c :: r => if stop c then [] else c :: lexT stop r
noncomputable def lexN (stop : Nat → Bool) : List Nat → Nat
  | [] => 0
  | c :: r => if stop c then 1 else lexN stop r + 1
noncomputable def nls (l : List Nat) : Int := (l.filter (· == 10)).length
noncomputable def tokT : List Nat → List Nat
  | [] => []
  | c :: r => if c == 34 then lexT (· == 34) r else c :: lexT isW r
noncomputable def tokN : List Nat → Nat
  | [] => 0
  | c :: r => if c == 34 then lexN (· == 34) r + 1 else lexN isW r + 1
theorem drop_cons {x : Str} {p : Nat} (h : p < x.length) : x.cps.toList.drop p = x.cps.getD p 0 :: x.cps.toList.drop (p + 1) := by
  have h' : p < x.cps.size := h
  rw [List.drop_eq_getElem_cons (by simpa using h')]
  simp [Array.getD, h']
end Mine
-- C34
namespace Mine
section
variable {prog : Program} {w : World} {A : Around} {E : Value → Shared → Prop} {s : Shared} {h₀ : Heap} {L : Addr} {m : Str → Option Value} {news : Led}
theorem my_citnew {q : Addr} {f self : Value} {ts : Tok} {Q : Value → Shared → Prop} (F : Fr h₀ L s.heap m) (N : News h₀ L s.heap news) (hq : (q, methodObj f self) ∈ news)
    (h : ∀ it h', Fr h₀ L h' m → News h₀ L h' ((it, citO q ts) :: news) → (∀ p ∈ news, p.1 < it) → Q (.ref it) { s with heap := h' }) : wpAny (model prog w) A (call (.builtin "iter") [.ref q, .str "" ts]) Q E s :=
  cit_new (N _ hq).1 rfl (h _ _ (F.push _) (News.push F N _ rfl) fun p hp => Heap.lt_size (N p hp).1)
theorem my_citIter {it q : Addr} {ts : Tok} {Q : Value → Shared → Prop} (N : News h₀ L s.heap news) (hq : (it, citO q ts) ∈ news) (h : Q (.ref it) s) : wpAny (model prog w) A (pyIter (.ref it)) Q E s := cit_pyIter (N _ hq).1 rfl h
theorem my_citdone {it : Addr} {Q : Option Value → Shared → Prop} (F : Fr h₀ L s.heap m) (N : News h₀ L s.heap news) (hq : (it, citE) ∈ news) (hh : A.handled = none)
    (h : ∀ h', Fr h₀ L h' m → News h₀ L h' news → Q none { s with heap := h' }) : wpAny (model prog w) A (pyNext (.ref it)) Q E s :=
  cit_done (N _ hq).1 hh fun h' hk => h h' (F.keeps hk) (N.grown hk)
theorem ws_decs : (List.range 128).all (fun c => (!(Builtin.Str.occurrences "\n\t\r " ⟨#[c]⟩ 0 ("\n\t\r " : Str).length 1).isEmpty) == isW c) = true := by decide +kernel
theorem my_inW {c : Nat} {b : Bool} {t u : Tok} {Q : Value → Shared → Prop} (hc : c < 128) (hb : isW c = b) (h : Q (.bool b) s) : wpAny (model prog w) A (compareOp .In (.str ⟨#[c]⟩ u) (.str "\n\t\r " t)) Q E s :=
  in_str (by
    have h1 := eq_of_beq (List.all_eq_true.mp ws_decs c (List.mem_range.mpr hc))
    rw [h1, hb]
    exact h)
theorem my_eqC {c k : Nat} {y : Str} {b : Bool} {t u : Tok} {Q : Value → Shared → Prop} (hy : y = ⟨#[k]⟩) (hb : (c == k) = b) (h : Q (.bool b) s) : wpAny (model prog w) A (compareOp .Eq (.str ⟨#[c]⟩ u) (.str y t)) Q E s := by
  subst hy
  refine PyProof.Rows.eq_str ?_
  have e : ((⟨#[c]⟩ : Str) == ⟨#[k]⟩) = (c == k) := by
    by_cases h : c = k
    · subst h; simp
    · have h1 : ¬ ((⟨#[c]⟩ : Str) = ⟨#[k]⟩) := fun e => h (by injection e with e; simpa using e)
      rw [beq_eq_false_iff_ne.mpr h1, beq_eq_false_iff_ne.mpr h]
  rw [e, hb]
  exact h
theorem my_cat {pre : List Nat} {c : Nat} {t u : Tok} {Q : Value → Shared → Prop} (hl : pre.length ≤ 1000) (h : ∀ t' k, Q (.str ⟨(pre ++ [c]).toArray⟩ t') { s with toks := k }) :
    wpAny (model prog w) A (inplaceOp .Add (.str ⟨pre.toArray⟩ t) (.str ⟨#[c]⟩ u)) Q E s := by
  refine PyProof.Rows.iadd_str (fun t' k => ?_) ?_
  · have e : ((⟨pre.toArray⟩ : Str) ++ ⟨#[c]⟩) = ⟨(pre ++ [c]).toArray⟩ := by
      show Str.mk (pre.toArray ++ #[c]) = _
      simp
    rw [e]
    exact h t' k
  · show pre.toArray.size + 1 ≤ sizeLine
    rw [sizeLine_eq, List.size_toArray]
    omega
theorem nls_cons (c : Nat) (l : List Nat) : nls (c :: l) = (if c = 10 then 1 else 0) + nls l := by
  unfold nls
  by_cases h : c = 10
  · subst h
    simp
    omega
  · simp [h]
end
end Mine
namespace Mine
theorem cps_mem {x : Str} {p : Nat} (h : p < x.length) : x.cps.getD p 0 ∈ x.cps.toList := by
  have h1 : x.cps.getD p 0 ∈ x.cps.toList.drop p := by rw [drop_cons h]; exact .head _
  exact List.mem_of_mem_drop h1
theorem chAt_nl {x : Str} {p : Nat} (h : p < x.length) : (chAt x p = "\n") = (x.cps.getD p 0 = 10) := by
  rw [chAt_in h]
  have e10 : ("\n" : Str) = ⟨#[10]⟩ := by rfl
  rw [e10]
  exact propext ⟨fun e => by injection e with e; simpa using e, fun e => by rw [e]⟩
theorem says_tok (w : World) (x : Str) (mach dm lp fS Lat : Addr) (rest : Led) (M : Mach w x mach dm lp fS Lat rest) (np p : Nat) (tp : Tok) (nL : Nat) (a b c d : Tok) (ln : Int) (tn tw : Tok) (hp : p ≤ x.length) (hx : ∀ z ∈ x.cps.toList, z < 128 ∧ z ≠ 92) (hxl : x.length < 1000)
    (hf : p < x.length → isW (x.cps.getD p 0) = false) :
    SaysC w 30 400 148 [.ref mach] [] (mst w.params [] np p tp nL a b c d ln tn tw lp dm fS Lat rest) (fun v news => (Xx4 fun ts tp' nL' tn' => v = .str ⟨(tokT (x.cps.toList.drop p)).toArray⟩ ts ∧ news = mst w.params [] np (p + tokN (x.cps.toList.drop p)) tp' nL' a b c d (ln + nls ((x.cps.toList.drop p).take (tokN (x.cps.toList.drop p)))) tn' tw lp dm fS Lat rest)) := by
  ((have hfill : Mine.hd.heap_39 = Mine.hd.heap_39 ∧ PySem.Challenge.rw_sn0098_01 = PySem.Challenge.rw_sn0098_01 := (by k_fill; exact ⟨rfl, rfl⟩)); clear hfill)
  have hinst := M.inst
  have ne1 := M.ne1
  have ne2 := M.ne2
  have ne3 := M.ne3
  have o1 : ∀ q ∈ rest, q.1 ≠ lp := fun q hq => (M.offs q hq).1
  have o2 : ∀ q ∈ rest, q.1 ≠ Lat := fun q hq => (M.offs q hq).2.1
  have o3 : ∀ q ∈ rest, q.1 ≠ dm := fun q hq => (M.offs q hq).2.2
  intro p0 loose mean mg mb dp un gd cn cs ad ccd cl outer A₀ base h₀ L m s Q E B F X N T hk hd hu hret
  unfold mst at N
  k_dflt walk_at "my enter"
  (repeat' (first | ((( (fail_if_success with_reducible first | refine st0 ?_ | refine st1 ?_ | refine st2 ?_ | refine st3 ?_))); (fail_if_success with_reducible first | refine st4 ?_ | refine st5 ?_ | refine st7 ?_ | refine st6 ?_ | refine st8 ?_ | refine st9 ?_); (first | ((k_here; (with_reducible show wpAny _ _ (truthy (Value.ref _)) _ _ _); k_dflt (refine' my_len_set (knd := PySem.intKind _ _) (by k_asm) (by k_mem) (by assumption) (by omega) ?_;  k_whole))) | ((with_reducible show wpAny _ _ (truthy (Value.ref _)) _ _ _); ((k_here; k_dflt (refine' my_truthy (by k_asm) (by k_mem) (by omega) ?_;  k_whole); intro _; dsimp only))) | ((with_reducible show wpAny _ _ (inplaceOp Operator.Add (Value.str _ _) (Value.str _ _)) _ _ _); ((k_here; k_dflt (refine' my_cat (by omega) ?_;  k_whole); intro _ _; dsimp only))) | ((with_reducible show wpAny _ _ (compareOp CmpOp.In (Value.str _ _) (Value.str _ _)) _ _ _); ((k_here; k_dflt (refine' my_inW (by omega) (by assumption) ?_;  k_whole)))) | ((with_reducible show wpAny _ _ (compareOp CmpOp.Eq (Value.str _ _) (Value.str _ _)) _ _ _); ((k_here; k_dflt (first | (refine' my_eqC (k := 34) (by rfl) (by assumption) ?_;  k_whole) | (refine' my_eqC (k := 92) (by rfl) (by assumption) ?_;  k_whole))))) | (((k_here; (with_reducible show wpAny _ _ (call (Value.builtin "iter") [Value.ref _, Value.str _ _]) _ _ _); k_dflt (refine' my_citnew (by k_asm) (by k_asm) (by k_mem) ?_;  k_whole); intro _ _ _ _ l1; (try k_lt l1); (try k_sweep)); (have _ := l1); clear l1)) | walk_at "mo"))))
  ((k_here; (with_unfolding_all refine' For_T ?_); k_whole))
  (repeat' (first | ((( (fail_if_success with_reducible first | refine st0 ?_ | refine st1 ?_ | refine st2 ?_ | refine st3 ?_))); (fail_if_success with_reducible first | refine st4 ?_ | refine st5 ?_ | refine st7 ?_ | refine st6 ?_ | refine st8 ?_ | refine st9 ?_); (first | ((k_here; (with_reducible show wpAny _ _ (truthy (Value.ref _)) _ _ _); k_dflt (refine' my_len_set (knd := PySem.intKind _ _) (by k_asm) (by k_mem) (by assumption) (by omega) ?_;  k_whole))) | ((with_reducible show wpAny _ _ (truthy (Value.ref _)) _ _ _); ((k_here; k_dflt (refine' my_truthy (by k_asm) (by k_mem) (by omega) ?_;  k_whole); intro _; dsimp only))) | ((with_reducible show wpAny _ _ (inplaceOp Operator.Add (Value.str _ _) (Value.str _ _)) _ _ _); ((k_here; k_dflt (refine' my_cat (by omega) ?_;  k_whole); intro _ _; dsimp only))) | ((with_reducible show wpAny _ _ (compareOp CmpOp.In (Value.str _ _) (Value.str _ _)) _ _ _); ((k_here; k_dflt (refine' my_inW (by omega) (by assumption) ?_;  k_whole)))) | ((with_reducible show wpAny _ _ (compareOp CmpOp.Eq (Value.str _ _) (Value.str _ _)) _ _ _); ((k_here; k_dflt (first | (refine' my_eqC (k := 34) (by rfl) (by assumption) ?_;  k_whole) | (refine' my_eqC (k := 92) (by rfl) (by assumption) ?_;  k_whole))))) | (((k_here; (with_reducible show wpAny _ _ (call (Value.builtin "iter") [Value.ref _, Value.str _ _]) _ _ _); k_dflt (refine' my_citnew (by k_asm) (by k_asm) (by k_mem) ?_;  k_whole); intro _ _ _ _ l1; (try k_lt l1); (try k_sweep)); (have _ := l1); clear l1)) | walk_at "mo"))))
  (rename Fr _ _ _ _ => F2)
  (rename News _ _ _ _ => N2)
  obtain ⟨L9, hL9⟩ := fr_L F2
  subst hL9
  rename_i g2 hh4 FG2 B2 X2 T2 hh3 q hh2 lq it hh1 lit h2
  obtain ⟨m', F3⟩ := names_ex F2 [("self", .ref mach), ("token", .str "" tk), ("fiter", .ref it)] (by ((repeat' (first | exact all_nil | refine all_cons rfl ?_))))
  clear F2
  obtain ⟨tS, htS⟩ : ∃ tS, tS = tk + 1 + 1 + 1 := ⟨_, rfl⟩
  rw [← htS] at N2
  have N3 : News g2 L9 h2 (mst w.params [] np p tp nL a b c d ln tn tw lp dm fS Lat ((it, citO q tS) :: (q, methodObj (.ref 141) (.ref mach)) :: rest)) := news_sub N2 (by unfold mst; (((try simp only [List.cons_append, List.nil_append]); (repeat' (first | exact List.forall_mem_nil _ | refine List.forall_mem_cons.mpr ⟨?_, ?_⟩)) <;> (first | k_mem | (intro _ _; k_mem)))))
  clear N2
  have M2 : Mach w x mach dm lp fS Lat ((it, citO q tS) :: (q, methodObj (.ref 141) (.ref mach)) :: rest) :=
    (M.cons (q, methodObj (.ref 141) (.ref mach)) (neN (by dsimp only; omega)) (neN (by dsimp only; omega)) (neN (by dsimp only; omega))).cons (it, citO q tS) (neN (by dsimp only; omega)) (neN (by dsimp only; omega)) (neN (by dsimp only; omega))
  have ho : ∀ r ∈ (q, methodObj (.ref 141) (.ref mach)) :: rest, r.1 ≠ it := List.forall_mem_cons.mpr ⟨neN (by dsimp only; omega), offLt lit.2.2.2.2⟩
  try dsimp only
  refine my_citIter N3 (.tail _ (.tail _ (.tail _ (.head _)))) ?_
  refine ⟨1, fun k s' => (k = 1 ∧ s' = { s with heap := h2, toks := tk + 1 + 1 + 1 + 1 + 1 }) ∨ (k = 0 ∧ (Xx7 fun h tk' m₁ tt tp' nL' tn' => Aa4 (s' = { s with heap := h, toks := tk' }) (Fr g2 L9 h m₁) (HasN m₁ [("token", .str ⟨(tokT (x.cps.toList.drop p)).toArray⟩ tt)]) (News g2 L9 h (mst w.params [] np (p + tokN (x.cps.toList.drop p)) tp' nL' a b c d (ln + nls ((x.cps.toList.drop p).take (tokN (x.cps.toList.drop p)))) tn' tw lp dm fS Lat ((it, citE) :: (q, methodObj (.ref 141) (.ref mach)) :: rest))))), .inl ⟨rfl, rfl⟩, ?_⟩
  rintro k s' (⟨rfl, rfl⟩ | ⟨rfl, h9, tk9, m₁, tt, tp', nL', tn', rfl, F9, hN9, N9⟩)
  · refine next_ch (p := p) B2 F3 X2 N3 T2 rfl ?_ ?_ M2 (.head _) ho hp ?_ ?_
    · ktr_room
    · ktr_units
    · intro hlt ts' h' tk' tp' nL' tn' F4 N4
      have hc := drop_cons hlt
      have hw := hf hlt
      have hci := chAt_in hlt
      have hnl := chAt_nl hlt
      simp only [hnl] at N4
      rw [hci]
      have hcx := hx (x.cps.getD p 0) (cps_mem hlt)
      obtain ⟨c0, hc0⟩ : ∃ c0, c0 = x.cps.getD p 0 := ⟨_, rfl⟩
      rw [← hc0] at hc hw hcx N4 ⊢
      dsimp only
      refine wpAny_of_eq rfl ?_
      have h92 : (c0 == 92) = false := beq_eq_false_iff_ne.mpr hcx.2
      have hlt0 := hcx.1
      obtain ⟨r0, hr0⟩ : ∃ r0, r0 = x.cps.toList.drop (p + 1) := ⟨_, rfl⟩
      cases h34 : (c0 == 34) with
      | true =>
        obtain ⟨TT, hTT⟩ : ∃ TT, TT = lexT (· == 34) (x.cps.toList.drop (p + 1)) := ⟨_, rfl⟩
        obtain ⟨PE, hPE⟩ : ∃ PE, PE = (p + 1) + lexN (· == 34) (x.cps.toList.drop (p + 1)) := ⟨_, rfl⟩
        obtain ⟨LE, hLE⟩ : ∃ LE, LE = (if c0 = 10 then ln + 1 else ln) + nls ((x.cps.toList.drop (p + 1)).take (lexN (· == 34) (x.cps.toList.drop (p + 1)))) := ⟨_, rfl⟩
        have eT : tokT (x.cps.toList.drop p) = TT := by rw [hc]; simp only [tokT, h34, if_true]; exact hTT.symm
        have eN : p + tokN (x.cps.toList.drop p) = PE := by rw [hc]; simp only [tokN, h34, if_true]; omega
        have eL : ln + nls ((x.cps.toList.drop p).take (tokN (x.cps.toList.drop p))) = LE := by
          rw [hc, hLE]
          simp only [tokN, h34, if_true, List.take_succ_cons, nls_cons]
          split <;> omega
        rw [eT, eN, eL] at hret
        (repeat' (first | ((( (fail_if_success with_reducible first | refine st0 ?_ | refine st1 ?_ | refine st2 ?_ | refine st3 ?_))); (fail_if_success with_reducible first | refine st4 ?_ | refine st5 ?_ | refine st7 ?_ | refine st6 ?_ | refine st8 ?_ | refine st9 ?_); (first | ((k_here; (with_reducible show wpAny _ _ (truthy (Value.ref _)) _ _ _); k_dflt (refine' my_len_set (knd := PySem.intKind _ _) (by k_asm) (by k_mem) (by assumption) (by omega) ?_;  k_whole))) | ((with_reducible show wpAny _ _ (truthy (Value.ref _)) _ _ _); ((k_here; k_dflt (refine' my_truthy (by k_asm) (by k_mem) (by omega) ?_;  k_whole); intro _; dsimp only))) | ((with_reducible show wpAny _ _ (inplaceOp Operator.Add (Value.str _ _) (Value.str _ _)) _ _ _); ((k_here; k_dflt (refine' my_cat (by omega) ?_;  k_whole); intro _ _; dsimp only))) | ((with_reducible show wpAny _ _ (compareOp CmpOp.In (Value.str _ _) (Value.str _ _)) _ _ _); ((k_here; k_dflt (refine' my_inW (by omega) (by assumption) ?_;  k_whole)))) | ((with_reducible show wpAny _ _ (compareOp CmpOp.Eq (Value.str _ _) (Value.str _ _)) _ _ _); ((k_here; k_dflt (first | (refine' my_eqC (k := 34) (by rfl) (by assumption) ?_;  k_whole) | (refine' my_eqC (k := 92) (by rfl) (by assumption) ?_;  k_whole))))) | (((k_here; (with_reducible show wpAny _ _ (call (Value.builtin "iter") [Value.ref _, Value.str _ _]) _ _ _); k_dflt (refine' my_citnew (by k_asm) (by k_asm) (by k_mem) ?_;  k_whole); intro _ _ _ _ l1; (try k_lt l1); (try k_sweep)); (have _ := l1); clear l1)) | walk_at "mo"))))
        (rename Fr _ _ _ _ => F5)
        (rename News _ _ _ _ => N5)
        obtain ⟨m5, F6⟩ := names_ex F5 [("self", .ref mach), ("token", .str ⟨([] : List Nat).toArray⟩ _), ("fiter", .ref it)] (by ((repeat' (first | exact all_nil | refine all_cons rfl ?_))))
        clear F5
        ((k_here; (with_unfolding_all refine' For_T ?_); k_whole))
        (repeat' (first | ((( (fail_if_success with_reducible first | refine st0 ?_ | refine st1 ?_ | refine st2 ?_ | refine st3 ?_))); (fail_if_success with_reducible first | refine st4 ?_ | refine st5 ?_ | refine st7 ?_ | refine st6 ?_ | refine st8 ?_ | refine st9 ?_); (first | ((k_here; (with_reducible show wpAny _ _ (truthy (Value.ref _)) _ _ _); k_dflt (refine' my_len_set (knd := PySem.intKind _ _) (by k_asm) (by k_mem) (by assumption) (by omega) ?_;  k_whole))) | ((with_reducible show wpAny _ _ (truthy (Value.ref _)) _ _ _); ((k_here; k_dflt (refine' my_truthy (by k_asm) (by k_mem) (by omega) ?_;  k_whole); intro _; dsimp only))) | ((with_reducible show wpAny _ _ (inplaceOp Operator.Add (Value.str _ _) (Value.str _ _)) _ _ _); ((k_here; k_dflt (refine' my_cat (by omega) ?_;  k_whole); intro _ _; dsimp only))) | ((with_reducible show wpAny _ _ (compareOp CmpOp.In (Value.str _ _) (Value.str _ _)) _ _ _); ((k_here; k_dflt (refine' my_inW (by omega) (by assumption) ?_;  k_whole)))) | ((with_reducible show wpAny _ _ (compareOp CmpOp.Eq (Value.str _ _) (Value.str _ _)) _ _ _); ((k_here; k_dflt (first | (refine' my_eqC (k := 34) (by rfl) (by assumption) ?_;  k_whole) | (refine' my_eqC (k := 92) (by rfl) (by assumption) ?_;  k_whole))))) | (((k_here; (with_reducible show wpAny _ _ (call (Value.builtin "iter") [Value.ref _, Value.str _ _]) _ _ _); k_dflt (refine' my_citnew (by k_asm) (by k_asm) (by k_mem) ?_;  k_whole); intro _ _ _ _ l1; (try k_lt l1); (try k_sweep)); (have _ := l1); clear l1)) | walk_at "mo"))))
        refine my_citIter N5 (.tail _ (.tail _ (.tail _ (.head _)))) ?_
        refine loopCit (fun p' ln' m => (Xx2 fun (pre : List Nat) (tt : Tok) => Aa5 (HasN m [("self", .ref mach), ("token", .str ⟨pre.toArray⟩ tt), ("fiter", .ref it)]) (pre.length ≤ p') (pre ++ lexT (· == 34) (x.cps.toList.drop p') = TT) (p' + lexN (· == 34) (x.cps.toList.drop p') = PE) (ln' + nls ((x.cps.toList.drop p').take (lexN (· == 34) (x.cps.toList.drop p'))) = LE))) B2 X2 T2 rfl ?_ ?_ hlt M2 (.head _) ho F6 N5 ?_ ?_ ?_
        · ktr_room
        · ktr_units
        · exact ⟨[], _, by ((repeat' (first | exact all_nil | refine all_cons rfl ?_))), Nat.zero_le _, hTT.symm, hPE.symm, hLE.symm⟩
        · rintro p' ln' m₁ ts9 tp9 nL9 tn9 h9 tk9 hlt9 ⟨pre, tt, hN9, j0, j1, j2, j3⟩ F9 N9
          obtain ⟨m9, F9⟩ := names_ex F9 [("self", .ref mach), ("token", .str ⟨pre.toArray⟩ tt), ("fiter", .ref it)] hN9
          have hc9 := drop_cons hlt9
          have hci9 := chAt_in hlt9
          have hcx9 := hx (x.cps.getD p' 0) (cps_mem hlt9)
          simp only [chAt_nl hlt9] at N9 ⊢
          rw [hci9]
          obtain ⟨c9, hc99⟩ : ∃ c9, c9 = x.cps.getD p' 0 := ⟨_, rfl⟩
          rw [← hc99] at hc9 hcx9 N9 ⊢
          have h92' : (c9 == 92) = false := beq_eq_false_iff_ne.mpr hcx9.2
          have hlt9' := hcx9.1
          rw [hc9] at j1 j2 j3
          refine wpAny_of_eq rfl ?_
          cases h9s : (c9 == 34) with
          | true =>
            simp only [lexT, lexN, h9s, if_true, List.append_nil, List.take_succ_cons, List.take_zero, nls_cons] at j1 j2 j3
            have hln9 : (if c9 = 10 then ln' + 1 else ln') = LE := by
              rw [← j3]
              show _ = ln' + ((if c9 = 10 then 1 else 0) + 0)
              split <;> omega
            (repeat' (first | ((( (fail_if_success with_reducible first | refine st0 ?_ | refine st1 ?_ | refine st2 ?_ | refine st3 ?_))); (fail_if_success with_reducible first | refine st4 ?_ | refine st5 ?_ | refine st7 ?_ | refine st6 ?_ | refine st8 ?_ | refine st9 ?_); (first | ((k_here; (with_reducible show wpAny _ _ (truthy (Value.ref _)) _ _ _); k_dflt (refine' my_len_set (knd := PySem.intKind _ _) (by k_asm) (by k_mem) (by assumption) (by omega) ?_;  k_whole))) | ((with_reducible show wpAny _ _ (truthy (Value.ref _)) _ _ _); ((k_here; k_dflt (refine' my_truthy (by k_asm) (by k_mem) (by omega) ?_;  k_whole); intro _; dsimp only))) | ((with_reducible show wpAny _ _ (inplaceOp Operator.Add (Value.str _ _) (Value.str _ _)) _ _ _); ((k_here; k_dflt (refine' my_cat (by omega) ?_;  k_whole); intro _ _; dsimp only))) | ((with_reducible show wpAny _ _ (compareOp CmpOp.In (Value.str _ _) (Value.str _ _)) _ _ _); ((k_here; k_dflt (refine' my_inW (by omega) (by assumption) ?_;  k_whole)))) | ((with_reducible show wpAny _ _ (compareOp CmpOp.Eq (Value.str _ _) (Value.str _ _)) _ _ _); ((k_here; k_dflt (first | (refine' my_eqC (k := 34) (by rfl) (by assumption) ?_;  k_whole) | (refine' my_eqC (k := 92) (by rfl) (by assumption) ?_;  k_whole))))) | (((k_here; (with_reducible show wpAny _ _ (call (Value.builtin "iter") [Value.ref _, Value.str _ _]) _ _ _); k_dflt (refine' my_citnew (by k_asm) (by k_asm) (by k_mem) ?_;  k_whole); intro _ _ _ _ l1; (try k_lt l1); (try k_sweep)); (have _ := l1); clear l1)) | walk_at "mo"))))
            dsimp only
            (repeat' (first | ((( (fail_if_success with_reducible first | refine st0 ?_ | refine st1 ?_ | refine st2 ?_ | refine st3 ?_))); (fail_if_success with_reducible first | refine st4 ?_ | refine st5 ?_ | refine st7 ?_ | refine st6 ?_ | refine st8 ?_ | refine st9 ?_); (first | ((k_here; (with_reducible show wpAny _ _ (truthy (Value.ref _)) _ _ _); k_dflt (refine' my_len_set (knd := PySem.intKind _ _) (by k_asm) (by k_mem) (by assumption) (by omega) ?_;  k_whole))) | ((with_reducible show wpAny _ _ (truthy (Value.ref _)) _ _ _); ((k_here; k_dflt (refine' my_truthy (by k_asm) (by k_mem) (by omega) ?_;  k_whole); intro _; dsimp only))) | ((with_reducible show wpAny _ _ (inplaceOp Operator.Add (Value.str _ _) (Value.str _ _)) _ _ _); ((k_here; k_dflt (refine' my_cat (by omega) ?_;  k_whole); intro _ _; dsimp only))) | ((with_reducible show wpAny _ _ (compareOp CmpOp.In (Value.str _ _) (Value.str _ _)) _ _ _); ((k_here; k_dflt (refine' my_inW (by omega) (by assumption) ?_;  k_whole)))) | ((with_reducible show wpAny _ _ (compareOp CmpOp.Eq (Value.str _ _) (Value.str _ _)) _ _ _); ((k_here; k_dflt (first | (refine' my_eqC (k := 34) (by rfl) (by assumption) ?_;  k_whole) | (refine' my_eqC (k := 92) (by rfl) (by assumption) ?_;  k_whole))))) | (((k_here; (with_reducible show wpAny _ _ (call (Value.builtin "iter") [Value.ref _, Value.str _ _]) _ _ _); k_dflt (refine' my_citnew (by k_asm) (by k_asm) (by k_mem) ?_;  k_whole); intro _ _ _ _ l1; (try k_lt l1); (try k_sweep)); (have _ := l1); clear l1)) | walk_at "mo"))))
            unfold TurnC
            dsimp only
            (repeat' (first | ((( (fail_if_success with_reducible first | refine st0 ?_ | refine st1 ?_ | refine st2 ?_ | refine st3 ?_))); (fail_if_success with_reducible first | refine st4 ?_ | refine st5 ?_ | refine st7 ?_ | refine st6 ?_ | refine st8 ?_ | refine st9 ?_); (first | ((k_here; (with_reducible show wpAny _ _ (truthy (Value.ref _)) _ _ _); k_dflt (refine' my_len_set (knd := PySem.intKind _ _) (by k_asm) (by k_mem) (by assumption) (by omega) ?_;  k_whole))) | ((with_reducible show wpAny _ _ (truthy (Value.ref _)) _ _ _); ((k_here; k_dflt (refine' my_truthy (by k_asm) (by k_mem) (by omega) ?_;  k_whole); intro _; dsimp only))) | ((with_reducible show wpAny _ _ (inplaceOp Operator.Add (Value.str _ _) (Value.str _ _)) _ _ _); ((k_here; k_dflt (refine' my_cat (by omega) ?_;  k_whole); intro _ _; dsimp only))) | ((with_reducible show wpAny _ _ (compareOp CmpOp.In (Value.str _ _) (Value.str _ _)) _ _ _); ((k_here; k_dflt (refine' my_inW (by omega) (by assumption) ?_;  k_whole)))) | ((with_reducible show wpAny _ _ (compareOp CmpOp.Eq (Value.str _ _) (Value.str _ _)) _ _ _); ((k_here; k_dflt (first | (refine' my_eqC (k := 34) (by rfl) (by assumption) ?_;  k_whole) | (refine' my_eqC (k := 92) (by rfl) (by assumption) ?_;  k_whole))))) | (((k_here; (with_reducible show wpAny _ _ (call (Value.builtin "iter") [Value.ref _, Value.str _ _]) _ _ _); k_dflt (refine' my_citnew (by k_asm) (by k_asm) (by k_mem) ?_;  k_whole); intro _ _ _ _ l1; (try k_lt l1); (try k_sweep)); (have _ := l1); clear l1)) | walk_at "mo"))))
            (rename News _ _ _ _ => kN)
            rw [hln9, j2] at kN
            rw [j1]
            exact hret _ _ _ _ ⟨tt, tp9, nL9, tn9, rfl, rfl⟩ (by k_asm) (news_sub kN (by unfold mst; (((try simp only [List.cons_append, List.nil_append]); (repeat' (first | exact List.forall_mem_nil _ | refine List.forall_mem_cons.mpr ⟨?_, ?_⟩)) <;> (first | k_mem | (intro _ _; k_mem))))))
          | false =>
            simp only [lexT, lexN, h9s, Bool.false_eq_true, if_false, List.take_succ_cons, nls_cons] at j1 j2 j3
            (repeat' (first | ((( (fail_if_success with_reducible first | refine st0 ?_ | refine st1 ?_ | refine st2 ?_ | refine st3 ?_))); (fail_if_success with_reducible first | refine st4 ?_ | refine st5 ?_ | refine st7 ?_ | refine st6 ?_ | refine st8 ?_ | refine st9 ?_); (first | ((k_here; (with_reducible show wpAny _ _ (truthy (Value.ref _)) _ _ _); k_dflt (refine' my_len_set (knd := PySem.intKind _ _) (by k_asm) (by k_mem) (by assumption) (by omega) ?_;  k_whole))) | ((with_reducible show wpAny _ _ (truthy (Value.ref _)) _ _ _); ((k_here; k_dflt (refine' my_truthy (by k_asm) (by k_mem) (by omega) ?_;  k_whole); intro _; dsimp only))) | ((with_reducible show wpAny _ _ (inplaceOp Operator.Add (Value.str _ _) (Value.str _ _)) _ _ _); ((k_here; k_dflt (refine' my_cat (by omega) ?_;  k_whole); intro _ _; dsimp only))) | ((with_reducible show wpAny _ _ (compareOp CmpOp.In (Value.str _ _) (Value.str _ _)) _ _ _); ((k_here; k_dflt (refine' my_inW (by omega) (by assumption) ?_;  k_whole)))) | ((with_reducible show wpAny _ _ (compareOp CmpOp.Eq (Value.str _ _) (Value.str _ _)) _ _ _); ((k_here; k_dflt (first | (refine' my_eqC (k := 34) (by rfl) (by assumption) ?_;  k_whole) | (refine' my_eqC (k := 92) (by rfl) (by assumption) ?_;  k_whole))))) | (((k_here; (with_reducible show wpAny _ _ (call (Value.builtin "iter") [Value.ref _, Value.str _ _]) _ _ _); k_dflt (refine' my_citnew (by k_asm) (by k_asm) (by k_mem) ?_;  k_whole); intro _ _ _ _ l1; (try k_lt l1); (try k_sweep)); (have _ := l1); clear l1)) | walk_at "mo"))))
            dsimp only
            (repeat' (first | ((( (fail_if_success with_reducible first | refine st0 ?_ | refine st1 ?_ | refine st2 ?_ | refine st3 ?_))); (fail_if_success with_reducible first | refine st4 ?_ | refine st5 ?_ | refine st7 ?_ | refine st6 ?_ | refine st8 ?_ | refine st9 ?_); (first | ((k_here; (with_reducible show wpAny _ _ (truthy (Value.ref _)) _ _ _); k_dflt (refine' my_len_set (knd := PySem.intKind _ _) (by k_asm) (by k_mem) (by assumption) (by omega) ?_;  k_whole))) | ((with_reducible show wpAny _ _ (truthy (Value.ref _)) _ _ _); ((k_here; k_dflt (refine' my_truthy (by k_asm) (by k_mem) (by omega) ?_;  k_whole); intro _; dsimp only))) | ((with_reducible show wpAny _ _ (inplaceOp Operator.Add (Value.str _ _) (Value.str _ _)) _ _ _); ((k_here; k_dflt (refine' my_cat (by omega) ?_;  k_whole); intro _ _; dsimp only))) | ((with_reducible show wpAny _ _ (compareOp CmpOp.In (Value.str _ _) (Value.str _ _)) _ _ _); ((k_here; k_dflt (refine' my_inW (by omega) (by assumption) ?_;  k_whole)))) | ((with_reducible show wpAny _ _ (compareOp CmpOp.Eq (Value.str _ _) (Value.str _ _)) _ _ _); ((k_here; k_dflt (first | (refine' my_eqC (k := 34) (by rfl) (by assumption) ?_;  k_whole) | (refine' my_eqC (k := 92) (by rfl) (by assumption) ?_;  k_whole))))) | (((k_here; (with_reducible show wpAny _ _ (call (Value.builtin "iter") [Value.ref _, Value.str _ _]) _ _ _); k_dflt (refine' my_citnew (by k_asm) (by k_asm) (by k_mem) ?_;  k_whole); intro _ _ _ _ l1; (try k_lt l1); (try k_sweep)); (have _ := l1); clear l1)) | walk_at "mo"))))
            refine TurnC.intro (by k_asm) (by k_asm) ⟨pre ++ [c9], _, by ((repeat' (first | exact all_nil | refine all_cons rfl ?_))), ?_, ?_, ?_, ?_⟩
            · rw [List.length_append]
              simp
              omega
            · rw [← j1]
              simp
            · omega
            · rw [← j3]
              split <;> omega
        · rintro m₁ ln' tp9 nL9 tn9 h9 tk9 ⟨pre, tt, hN9, j0, j1, j2, j3⟩ F9 N9
          have hd0 : x.cps.toList.drop x.length = [] := List.drop_length
          rw [hd0] at j1 j2 j3
          simp only [lexT, lexN, List.append_nil, List.take_nil] at j1 j2 j3
          obtain ⟨m9, F9⟩ := names_ex F9 [("token", .str ⟨pre.toArray⟩ tt)] (fun p hp => hN9 p (by simp only [List.mem_cons, List.not_mem_nil, or_false] at hp ⊢; simp [hp]))
          repeat (first | refine wpAny_execs_nil ?_ | dsimp only)
          refine ⟨0, by decide, .inr ⟨rfl, h9, tk9, _, tt, tp9, nL9, tn9, rfl, F9, ?_, ?_⟩⟩
          · rw [eT, ← j1]
            ((repeat' (first | exact all_nil | refine all_cons rfl ?_)))
          · rw [eN, eL, ← j2, ← j3]
            have e : ln' + nls [] = ln' := Int.add_zero _
            rw [e]
            exact N9
      | false =>
        obtain ⟨TT, hTT⟩ : ∃ TT, TT = c0 :: lexT isW (x.cps.toList.drop (p + 1)) := ⟨_, rfl⟩
        obtain ⟨PE, hPE⟩ : ∃ PE, PE = (p + 1) + lexN isW (x.cps.toList.drop (p + 1)) := ⟨_, rfl⟩
        obtain ⟨LE, hLE⟩ : ∃ LE, LE = (if c0 = 10 then ln + 1 else ln) + nls ((x.cps.toList.drop (p + 1)).take (lexN isW (x.cps.toList.drop (p + 1)))) := ⟨_, rfl⟩
        have eT : tokT (x.cps.toList.drop p) = TT := by rw [hc]; simp only [tokT, h34, Bool.false_eq_true, if_false]; exact hTT.symm
        have eN : p + tokN (x.cps.toList.drop p) = PE := by rw [hc]; simp only [tokN, h34, Bool.false_eq_true, if_false]; omega
        have eL : ln + nls ((x.cps.toList.drop p).take (tokN (x.cps.toList.drop p))) = LE := by
          rw [hc, hLE]
          simp only [tokN, h34, Bool.false_eq_true, if_false, List.take_succ_cons, nls_cons]
          split <;> omega
        rw [eT, eN, eL] at hret
        (repeat' (first | ((( (fail_if_success with_reducible first | refine st0 ?_ | refine st1 ?_ | refine st2 ?_ | refine st3 ?_))); (fail_if_success with_reducible first | refine st4 ?_ | refine st5 ?_ | refine st7 ?_ | refine st6 ?_ | refine st8 ?_ | refine st9 ?_); (first | ((k_here; (with_reducible show wpAny _ _ (truthy (Value.ref _)) _ _ _); k_dflt (refine' my_len_set (knd := PySem.intKind _ _) (by k_asm) (by k_mem) (by assumption) (by omega) ?_;  k_whole))) | ((with_reducible show wpAny _ _ (truthy (Value.ref _)) _ _ _); ((k_here; k_dflt (refine' my_truthy (by k_asm) (by k_mem) (by omega) ?_;  k_whole); intro _; dsimp only))) | ((with_reducible show wpAny _ _ (inplaceOp Operator.Add (Value.str _ _) (Value.str _ _)) _ _ _); ((k_here; k_dflt (refine' my_cat (by omega) ?_;  k_whole); intro _ _; dsimp only))) | ((with_reducible show wpAny _ _ (compareOp CmpOp.In (Value.str _ _) (Value.str _ _)) _ _ _); ((k_here; k_dflt (refine' my_inW (by omega) (by assumption) ?_;  k_whole)))) | ((with_reducible show wpAny _ _ (compareOp CmpOp.Eq (Value.str _ _) (Value.str _ _)) _ _ _); ((k_here; k_dflt (first | (refine' my_eqC (k := 34) (by rfl) (by assumption) ?_;  k_whole) | (refine' my_eqC (k := 92) (by rfl) (by assumption) ?_;  k_whole))))) | (((k_here; (with_reducible show wpAny _ _ (call (Value.builtin "iter") [Value.ref _, Value.str _ _]) _ _ _); k_dflt (refine' my_citnew (by k_asm) (by k_asm) (by k_mem) ?_;  k_whole); intro _ _ _ _ l1; (try k_lt l1); (try k_sweep)); (have _ := l1); clear l1)) | walk_at "mo"))))
        (rename Fr _ _ _ _ => F5)
        (rename News _ _ _ _ => N5)
        obtain ⟨m5, F6⟩ := names_ex F5 [("self", .ref mach), ("token", .str ⟨([c0] : List Nat).toArray⟩ _), ("fiter", .ref it)] (by ((repeat' (first | exact all_nil | refine all_cons rfl ?_))))
        clear F5
        ((k_here; (with_unfolding_all refine' For_T ?_); k_whole))
        (repeat' (first | ((( (fail_if_success with_reducible first | refine st0 ?_ | refine st1 ?_ | refine st2 ?_ | refine st3 ?_))); (fail_if_success with_reducible first | refine st4 ?_ | refine st5 ?_ | refine st7 ?_ | refine st6 ?_ | refine st8 ?_ | refine st9 ?_); (first | ((k_here; (with_reducible show wpAny _ _ (truthy (Value.ref _)) _ _ _); k_dflt (refine' my_len_set (knd := PySem.intKind _ _) (by k_asm) (by k_mem) (by assumption) (by omega) ?_;  k_whole))) | ((with_reducible show wpAny _ _ (truthy (Value.ref _)) _ _ _); ((k_here; k_dflt (refine' my_truthy (by k_asm) (by k_mem) (by omega) ?_;  k_whole); intro _; dsimp only))) | ((with_reducible show wpAny _ _ (inplaceOp Operator.Add (Value.str _ _) (Value.str _ _)) _ _ _); ((k_here; k_dflt (refine' my_cat (by omega) ?_;  k_whole); intro _ _; dsimp only))) | ((with_reducible show wpAny _ _ (compareOp CmpOp.In (Value.str _ _) (Value.str _ _)) _ _ _); ((k_here; k_dflt (refine' my_inW (by omega) (by assumption) ?_;  k_whole)))) | ((with_reducible show wpAny _ _ (compareOp CmpOp.Eq (Value.str _ _) (Value.str _ _)) _ _ _); ((k_here; k_dflt (first | (refine' my_eqC (k := 34) (by rfl) (by assumption) ?_;  k_whole) | (refine' my_eqC (k := 92) (by rfl) (by assumption) ?_;  k_whole))))) | (((k_here; (with_reducible show wpAny _ _ (call (Value.builtin "iter") [Value.ref _, Value.str _ _]) _ _ _); k_dflt (refine' my_citnew (by k_asm) (by k_asm) (by k_mem) ?_;  k_whole); intro _ _ _ _ l1; (try k_lt l1); (try k_sweep)); (have _ := l1); clear l1)) | walk_at "mo"))))
        refine my_citIter N5 (.tail _ (.tail _ (.tail _ (.head _)))) ?_
        refine loopCit (fun p' ln' m => (Xx2 fun (pre : List Nat) (tt : Tok) => Aa5 (HasN m [("self", .ref mach), ("token", .str ⟨pre.toArray⟩ tt), ("fiter", .ref it)]) (pre.length ≤ p') (pre ++ lexT isW (x.cps.toList.drop p') = TT) (p' + lexN isW (x.cps.toList.drop p') = PE) (ln' + nls ((x.cps.toList.drop p').take (lexN isW (x.cps.toList.drop p'))) = LE))) B2 X2 T2 rfl ?_ ?_ hlt M2 (.head _) ho F6 N5 ?_ ?_ ?_
        · ktr_room
        · ktr_units
        · exact ⟨[c0], _, by ((repeat' (first | exact all_nil | refine all_cons rfl ?_))), Nat.le_add_left _ _, hTT.symm, hPE.symm, hLE.symm⟩
        · rintro p' ln' m₁ ts9 tp9 nL9 tn9 h9 tk9 hlt9 ⟨pre, tt, hN9, j0, j1, j2, j3⟩ F9 N9
          obtain ⟨m9, F9⟩ := names_ex F9 [("self", .ref mach), ("token", .str ⟨pre.toArray⟩ tt), ("fiter", .ref it)] hN9
          have hc9 := drop_cons hlt9
          have hci9 := chAt_in hlt9
          have hcx9 := hx (x.cps.getD p' 0) (cps_mem hlt9)
          simp only [chAt_nl hlt9] at N9 ⊢
          rw [hci9]
          obtain ⟨c9, hc99⟩ : ∃ c9, c9 = x.cps.getD p' 0 := ⟨_, rfl⟩
          rw [← hc99] at hc9 hcx9 N9 ⊢
          have h92' : (c9 == 92) = false := beq_eq_false_iff_ne.mpr hcx9.2
          have hlt9' := hcx9.1
          rw [hc9] at j1 j2 j3
          refine wpAny_of_eq rfl ?_
          cases h9s : isW c9 with
          | true =>
            simp only [lexT, lexN, h9s, if_true, List.append_nil, List.take_succ_cons, List.take_zero, nls_cons] at j1 j2 j3
            have hln9 : (if c9 = 10 then ln' + 1 else ln') = LE := by
              rw [← j3]
              show _ = ln' + ((if c9 = 10 then 1 else 0) + 0)
              split <;> omega
            (repeat' (first | ((( (fail_if_success with_reducible first | refine st0 ?_ | refine st1 ?_ | refine st2 ?_ | refine st3 ?_))); (fail_if_success with_reducible first | refine st4 ?_ | refine st5 ?_ | refine st7 ?_ | refine st6 ?_ | refine st8 ?_ | refine st9 ?_); (first | ((k_here; (with_reducible show wpAny _ _ (truthy (Value.ref _)) _ _ _); k_dflt (refine' my_len_set (knd := PySem.intKind _ _) (by k_asm) (by k_mem) (by assumption) (by omega) ?_;  k_whole))) | ((with_reducible show wpAny _ _ (truthy (Value.ref _)) _ _ _); ((k_here; k_dflt (refine' my_truthy (by k_asm) (by k_mem) (by omega) ?_;  k_whole); intro _; dsimp only))) | ((with_reducible show wpAny _ _ (inplaceOp Operator.Add (Value.str _ _) (Value.str _ _)) _ _ _); ((k_here; k_dflt (refine' my_cat (by omega) ?_;  k_whole); intro _ _; dsimp only))) | ((with_reducible show wpAny _ _ (compareOp CmpOp.In (Value.str _ _) (Value.str _ _)) _ _ _); ((k_here; k_dflt (refine' my_inW (by omega) (by assumption) ?_;  k_whole)))) | ((with_reducible show wpAny _ _ (compareOp CmpOp.Eq (Value.str _ _) (Value.str _ _)) _ _ _); ((k_here; k_dflt (first | (refine' my_eqC (k := 34) (by rfl) (by assumption) ?_;  k_whole) | (refine' my_eqC (k := 92) (by rfl) (by assumption) ?_;  k_whole))))) | (((k_here; (with_reducible show wpAny _ _ (call (Value.builtin "iter") [Value.ref _, Value.str _ _]) _ _ _); k_dflt (refine' my_citnew (by k_asm) (by k_asm) (by k_mem) ?_;  k_whole); intro _ _ _ _ l1; (try k_lt l1); (try k_sweep)); (have _ := l1); clear l1)) | walk_at "mo"))))
            dsimp only
            (repeat' (first | ((( (fail_if_success with_reducible first | refine st0 ?_ | refine st1 ?_ | refine st2 ?_ | refine st3 ?_))); (fail_if_success with_reducible first | refine st4 ?_ | refine st5 ?_ | refine st7 ?_ | refine st6 ?_ | refine st8 ?_ | refine st9 ?_); (first | ((k_here; (with_reducible show wpAny _ _ (truthy (Value.ref _)) _ _ _); k_dflt (refine' my_len_set (knd := PySem.intKind _ _) (by k_asm) (by k_mem) (by assumption) (by omega) ?_;  k_whole))) | ((with_reducible show wpAny _ _ (truthy (Value.ref _)) _ _ _); ((k_here; k_dflt (refine' my_truthy (by k_asm) (by k_mem) (by omega) ?_;  k_whole); intro _; dsimp only))) | ((with_reducible show wpAny _ _ (inplaceOp Operator.Add (Value.str _ _) (Value.str _ _)) _ _ _); ((k_here; k_dflt (refine' my_cat (by omega) ?_;  k_whole); intro _ _; dsimp only))) | ((with_reducible show wpAny _ _ (compareOp CmpOp.In (Value.str _ _) (Value.str _ _)) _ _ _); ((k_here; k_dflt (refine' my_inW (by omega) (by assumption) ?_;  k_whole)))) | ((with_reducible show wpAny _ _ (compareOp CmpOp.Eq (Value.str _ _) (Value.str _ _)) _ _ _); ((k_here; k_dflt (first | (refine' my_eqC (k := 34) (by rfl) (by assumption) ?_;  k_whole) | (refine' my_eqC (k := 92) (by rfl) (by assumption) ?_;  k_whole))))) | (((k_here; (with_reducible show wpAny _ _ (call (Value.builtin "iter") [Value.ref _, Value.str _ _]) _ _ _); k_dflt (refine' my_citnew (by k_asm) (by k_asm) (by k_mem) ?_;  k_whole); intro _ _ _ _ l1; (try k_lt l1); (try k_sweep)); (have _ := l1); clear l1)) | walk_at "mo"))))
            unfold TurnC
            dsimp only
            (repeat' (first | ((( (fail_if_success with_reducible first | refine st0 ?_ | refine st1 ?_ | refine st2 ?_ | refine st3 ?_))); (fail_if_success with_reducible first | refine st4 ?_ | refine st5 ?_ | refine st7 ?_ | refine st6 ?_ | refine st8 ?_ | refine st9 ?_); (first | ((k_here; (with_reducible show wpAny _ _ (truthy (Value.ref _)) _ _ _); k_dflt (refine' my_len_set (knd := PySem.intKind _ _) (by k_asm) (by k_mem) (by assumption) (by omega) ?_;  k_whole))) | ((with_reducible show wpAny _ _ (truthy (Value.ref _)) _ _ _); ((k_here; k_dflt (refine' my_truthy (by k_asm) (by k_mem) (by omega) ?_;  k_whole); intro _; dsimp only))) | ((with_reducible show wpAny _ _ (inplaceOp Operator.Add (Value.str _ _) (Value.str _ _)) _ _ _); ((k_here; k_dflt (refine' my_cat (by omega) ?_;  k_whole); intro _ _; dsimp only))) | ((with_reducible show wpAny _ _ (compareOp CmpOp.In (Value.str _ _) (Value.str _ _)) _ _ _); ((k_here; k_dflt (refine' my_inW (by omega) (by assumption) ?_;  k_whole)))) | ((with_reducible show wpAny _ _ (compareOp CmpOp.Eq (Value.str _ _) (Value.str _ _)) _ _ _); ((k_here; k_dflt (first | (refine' my_eqC (k := 34) (by rfl) (by assumption) ?_;  k_whole) | (refine' my_eqC (k := 92) (by rfl) (by assumption) ?_;  k_whole))))) | (((k_here; (with_reducible show wpAny _ _ (call (Value.builtin "iter") [Value.ref _, Value.str _ _]) _ _ _); k_dflt (refine' my_citnew (by k_asm) (by k_asm) (by k_mem) ?_;  k_whole); intro _ _ _ _ l1; (try k_lt l1); (try k_sweep)); (have _ := l1); clear l1)) | walk_at "mo"))))
            (rename News _ _ _ _ => kN)
            rw [hln9, j2] at kN
            rw [j1]
            exact hret _ _ _ _ ⟨tt, tp9, nL9, tn9, rfl, rfl⟩ (by k_asm) (news_sub kN (by unfold mst; (((try simp only [List.cons_append, List.nil_append]); (repeat' (first | exact List.forall_mem_nil _ | refine List.forall_mem_cons.mpr ⟨?_, ?_⟩)) <;> (first | k_mem | (intro _ _; k_mem))))))
          | false =>
            simp only [lexT, lexN, h9s, Bool.false_eq_true, if_false, List.take_succ_cons, nls_cons] at j1 j2 j3
            (repeat' (first | ((( (fail_if_success with_reducible first | refine st0 ?_ | refine st1 ?_ | refine st2 ?_ | refine st3 ?_))); (fail_if_success with_reducible first | refine st4 ?_ | refine st5 ?_ | refine st7 ?_ | refine st6 ?_ | refine st8 ?_ | refine st9 ?_); (first | ((k_here; (with_reducible show wpAny _ _ (truthy (Value.ref _)) _ _ _); k_dflt (refine' my_len_set (knd := PySem.intKind _ _) (by k_asm) (by k_mem) (by assumption) (by omega) ?_;  k_whole))) | ((with_reducible show wpAny _ _ (truthy (Value.ref _)) _ _ _); ((k_here; k_dflt (refine' my_truthy (by k_asm) (by k_mem) (by omega) ?_;  k_whole); intro _; dsimp only))) | ((with_reducible show wpAny _ _ (inplaceOp Operator.Add (Value.str _ _) (Value.str _ _)) _ _ _); ((k_here; k_dflt (refine' my_cat (by omega) ?_;  k_whole); intro _ _; dsimp only))) | ((with_reducible show wpAny _ _ (compareOp CmpOp.In (Value.str _ _) (Value.str _ _)) _ _ _); ((k_here; k_dflt (refine' my_inW (by omega) (by assumption) ?_;  k_whole)))) | ((with_reducible show wpAny _ _ (compareOp CmpOp.Eq (Value.str _ _) (Value.str _ _)) _ _ _); ((k_here; k_dflt (first | (refine' my_eqC (k := 34) (by rfl) (by assumption) ?_;  k_whole) | (refine' my_eqC (k := 92) (by rfl) (by assumption) ?_;  k_whole))))) | (((k_here; (with_reducible show wpAny _ _ (call (Value.builtin "iter") [Value.ref _, Value.str _ _]) _ _ _); k_dflt (refine' my_citnew (by k_asm) (by k_asm) (by k_mem) ?_;  k_whole); intro _ _ _ _ l1; (try k_lt l1); (try k_sweep)); (have _ := l1); clear l1)) | walk_at "mo"))))
            dsimp only
            (repeat' (first | ((( (fail_if_success with_reducible first | refine st0 ?_ | refine st1 ?_ | refine st2 ?_ | refine st3 ?_))); (fail_if_success with_reducible first | refine st4 ?_ | refine st5 ?_ | refine st7 ?_ | refine st6 ?_ | refine st8 ?_ | refine st9 ?_); (first | ((k_here; (with_reducible show wpAny _ _ (truthy (Value.ref _)) _ _ _); k_dflt (refine' my_len_set (knd := PySem.intKind _ _) (by k_asm) (by k_mem) (by assumption) (by omega) ?_;  k_whole))) | ((with_reducible show wpAny _ _ (truthy (Value.ref _)) _ _ _); ((k_here; k_dflt (refine' my_truthy (by k_asm) (by k_mem) (by omega) ?_;  k_whole); intro _; dsimp only))) | ((with_reducible show wpAny _ _ (inplaceOp Operator.Add (Value.str _ _) (Value.str _ _)) _ _ _); ((k_here; k_dflt (refine' my_cat (by omega) ?_;  k_whole); intro _ _; dsimp only))) | ((with_reducible show wpAny _ _ (compareOp CmpOp.In (Value.str _ _) (Value.str _ _)) _ _ _); ((k_here; k_dflt (refine' my_inW (by omega) (by assumption) ?_;  k_whole)))) | ((with_reducible show wpAny _ _ (compareOp CmpOp.Eq (Value.str _ _) (Value.str _ _)) _ _ _); ((k_here; k_dflt (first | (refine' my_eqC (k := 34) (by rfl) (by assumption) ?_;  k_whole) | (refine' my_eqC (k := 92) (by rfl) (by assumption) ?_;  k_whole))))) | (((k_here; (with_reducible show wpAny _ _ (call (Value.builtin "iter") [Value.ref _, Value.str _ _]) _ _ _); k_dflt (refine' my_citnew (by k_asm) (by k_asm) (by k_mem) ?_;  k_whole); intro _ _ _ _ l1; (try k_lt l1); (try k_sweep)); (have _ := l1); clear l1)) | walk_at "mo"))))
            refine TurnC.intro (by k_asm) (by k_asm) ⟨pre ++ [c9], _, by ((repeat' (first | exact all_nil | refine all_cons rfl ?_))), ?_, ?_, ?_, ?_⟩
            · rw [List.length_append]
              simp
              omega
            · rw [← j1]
              simp
            · omega
            · rw [← j3]
              split <;> omega
        · rintro m₁ ln' tp9 nL9 tn9 h9 tk9 ⟨pre, tt, hN9, j0, j1, j2, j3⟩ F9 N9
          have hd0 : x.cps.toList.drop x.length = [] := List.drop_length
          rw [hd0] at j1 j2 j3
          simp only [lexT, lexN, List.append_nil, List.take_nil] at j1 j2 j3
          obtain ⟨m9, F9⟩ := names_ex F9 [("token", .str ⟨pre.toArray⟩ tt)] (fun p hp => hN9 p (by simp only [List.mem_cons, List.not_mem_nil, or_false] at hp ⊢; simp [hp]))
          repeat (first | refine wpAny_execs_nil ?_ | dsimp only)
          refine ⟨0, by decide, .inr ⟨rfl, h9, tk9, _, tt, tp9, nL9, tn9, rfl, F9, ?_, ?_⟩⟩
          · rw [eT, ← j1]
            ((repeat' (first | exact all_nil | refine all_cons rfl ?_)))
          · rw [eN, eL, ← j2, ← j3]
            have e : ln' + nls [] = ln' := Int.add_zero _
            rw [e]
            exact N9
    · rintro rfl h' tk' tp' nL' tn' F4 N4
      have hd0 : x.cps.toList.drop x.length = [] := List.drop_length
      rw [hd0] at hret
      dsimp only
      (repeat' (first | ((( (fail_if_success with_reducible first | refine st0 ?_ | refine st1 ?_ | refine st2 ?_ | refine st3 ?_))); (fail_if_success with_reducible first | refine st4 ?_ | refine st5 ?_ | refine st7 ?_ | refine st6 ?_ | refine st8 ?_ | refine st9 ?_); (first | ((k_here; (with_reducible show wpAny _ _ (truthy (Value.ref _)) _ _ _); k_dflt (refine' my_len_set (knd := PySem.intKind _ _) (by k_asm) (by k_mem) (by assumption) (by omega) ?_;  k_whole))) | ((with_reducible show wpAny _ _ (truthy (Value.ref _)) _ _ _); ((k_here; k_dflt (refine' my_truthy (by k_asm) (by k_mem) (by omega) ?_;  k_whole); intro _; dsimp only))) | ((with_reducible show wpAny _ _ (inplaceOp Operator.Add (Value.str _ _) (Value.str _ _)) _ _ _); ((k_here; k_dflt (refine' my_cat (by omega) ?_;  k_whole); intro _ _; dsimp only))) | ((with_reducible show wpAny _ _ (compareOp CmpOp.In (Value.str _ _) (Value.str _ _)) _ _ _); ((k_here; k_dflt (refine' my_inW (by omega) (by assumption) ?_;  k_whole)))) | ((with_reducible show wpAny _ _ (compareOp CmpOp.Eq (Value.str _ _) (Value.str _ _)) _ _ _); ((k_here; k_dflt (first | (refine' my_eqC (k := 34) (by rfl) (by assumption) ?_;  k_whole) | (refine' my_eqC (k := 92) (by rfl) (by assumption) ?_;  k_whole))))) | (((k_here; (with_reducible show wpAny _ _ (call (Value.builtin "iter") [Value.ref _, Value.str _ _]) _ _ _); k_dflt (refine' my_citnew (by k_asm) (by k_asm) (by k_mem) ?_;  k_whole); intro _ _ _ _ l1; (try k_lt l1); (try k_sweep)); (have _ := l1); clear l1)) | walk_at "mo"))))
      exact hret _ _ _ (mst w.params [] np (x.length + tokN []) tp' nL' a b c d (ln + nls (List.take (tokN []) [])) tn' tw lp dm fS Lat rest) ⟨tk, tp', nL', tn', rfl, rfl⟩ (by k_asm) (news_sub (by k_asm) (by simp only [tokN, nls, List.take_nil, List.filter_nil, List.length_nil, Nat.add_zero, Int.natCast_zero, Int.add_zero, mst]; (((try simp only [List.cons_append, List.nil_append]); (repeat' (first | exact List.forall_mem_nil _ | refine List.forall_mem_cons.mpr ⟨?_, ?_⟩)) <;> (first | k_mem | (intro _ _; k_mem))))))
  · refine my_citdone F9 N9 (.tail _ (.tail _ (.tail _ (.head _)))) rfl fun h' F10 N10 => ?_
    obtain ⟨m9, F11⟩ := names_ex F10 [("token", .str ⟨(tokT (x.cps.toList.drop p)).toArray⟩ tt)] hN9
    dsimp only
    (repeat' (first | ((( (fail_if_success with_reducible first | refine st0 ?_ | refine st1 ?_ | refine st2 ?_ | refine st3 ?_))); (fail_if_success with_reducible first | refine st4 ?_ | refine st5 ?_ | refine st7 ?_ | refine st6 ?_ | refine st8 ?_ | refine st9 ?_); (first | ((k_here; (with_reducible show wpAny _ _ (truthy (Value.ref _)) _ _ _); k_dflt (refine' my_len_set (knd := PySem.intKind _ _) (by k_asm) (by k_mem) (by assumption) (by omega) ?_;  k_whole))) | ((with_reducible show wpAny _ _ (truthy (Value.ref _)) _ _ _); ((k_here; k_dflt (refine' my_truthy (by k_asm) (by k_mem) (by omega) ?_;  k_whole); intro _; dsimp only))) | ((with_reducible show wpAny _ _ (inplaceOp Operator.Add (Value.str _ _) (Value.str _ _)) _ _ _); ((k_here; k_dflt (refine' my_cat (by omega) ?_;  k_whole); intro _ _; dsimp only))) | ((with_reducible show wpAny _ _ (compareOp CmpOp.In (Value.str _ _) (Value.str _ _)) _ _ _); ((k_here; k_dflt (refine' my_inW (by omega) (by assumption) ?_;  k_whole)))) | ((with_reducible show wpAny _ _ (compareOp CmpOp.Eq (Value.str _ _) (Value.str _ _)) _ _ _); ((k_here; k_dflt (first | (refine' my_eqC (k := 34) (by rfl) (by assumption) ?_;  k_whole) | (refine' my_eqC (k := 92) (by rfl) (by assumption) ?_;  k_whole))))) | (((k_here; (with_reducible show wpAny _ _ (call (Value.builtin "iter") [Value.ref _, Value.str _ _]) _ _ _); k_dflt (refine' my_citnew (by k_asm) (by k_asm) (by k_mem) ?_;  k_whole); intro _ _ _ _ l1; (try k_lt l1); (try k_sweep)); (have _ := l1); clear l1)) | walk_at "mo"))))
    exact hret _ _ _ _ ⟨tt, tp', nL', tn', rfl, rfl⟩ (by k_asm) (news_sub (by k_asm) (by unfold mst; (((try simp only [List.cons_append, List.nil_append]); (repeat' (first | exact List.forall_mem_nil _ | refine List.forall_mem_cons.mpr ⟨?_, ?_⟩)) <;> (first | k_mem | (intro _ _; k_mem))))))
end Mine
-- C35
namespace Mine
theorem says_push (w : World) (x : Str) (mach dm lp fS Lat : Addr) (rest : Led) (M : Mach w x mach dm lp fS Lat rest) (ps : List Value) (v0 : Value) (np p : Nat) (tp : Tok) (nL : Nat) (a b c d : Tok) (ln : Int) (tn tw : Tok) (hps : ps.length < 1000) :
    SaysC w 10 100 155 [.ref mach, v0] [] (mst w.params ps np p tp nL a b c d ln tn tw lp dm fS Lat rest) (fun v news => v = .none ∧ news = mst w.params (ps ++ [v0]) (np + 1) p tp nL a b c d ln tn tw lp dm fS Lat rest) := by
  ((have hfill : Mine.hd.heap_39 = Mine.hd.heap_39 ∧ PySem.Challenge.rw_sn0098_01 = PySem.Challenge.rw_sn0098_01 := (by k_fill; exact ⟨rfl, rfl⟩)); clear hfill)
  have hinst := M.inst
  have ne1 := M.ne1
  have ne2 := M.ne2
  have ne3 := M.ne3
  have o1 : ∀ q ∈ rest, q.1 ≠ lp := fun q hq => (M.offs q hq).1
  have o2 : ∀ q ∈ rest, q.1 ≠ Lat := fun q hq => (M.offs q hq).2.1
  have o3 : ∀ q ∈ rest, q.1 ≠ dm := fun q hq => (M.offs q hq).2.2
  intro p0 loose mean mg mb dp un gd cn cs ad ccd cl outer A₀ base h₀ L m s Q E B F X N T hk hd hu hret
  unfold mst at N
  k_dflt walk_at "my enter"
  (repeat' (first | ((( (fail_if_success with_reducible first | refine st0 ?_ | refine st1 ?_ | refine st2 ?_ | refine st3 ?_))); (fail_if_success with_reducible first | refine st4 ?_ | refine st5 ?_ | refine st7 ?_ | refine st6 ?_ | refine st8 ?_ | refine st9 ?_); (first | ((k_here; (with_reducible show wpAny _ _ (truthy (Value.ref _)) _ _ _); k_dflt (refine' my_len_set (knd := PySem.intKind _ _) (by k_asm) (by k_mem) (by assumption) (by omega) ?_;  k_whole))) | ((with_reducible show wpAny _ _ (truthy (Value.ref _)) _ _ _); ((k_here; k_dflt (refine' my_truthy (by k_asm) (by k_mem) (by omega) ?_;  k_whole); intro _; dsimp only))) | ((with_reducible show wpAny _ _ (call (Value.builtin "list.append") _) _ _ _); ((k_here; k_dflt (refine' my_append (by k_asm) (by k_asm) (by k_upd) (by (((try walk_at "my clear"); first | omega | (simp only [List.length_append, List.length_cons, List.length_nil]; omega)))) ?_;  k_whole); intro _ _ _; (try dsimp only); (try k_sweep)))) | ((with_reducible show wpAny _ _ (call (Value.builtin "list.append") _) _ _ _); ((k_here; k_dflt (refine' my_append (by k_asm) (by k_asm) (by k_upd) (by first | omega | (simp only [List.length_cons, List.length_nil, List.length_append]; omega)) ?_;  k_whole); intro _ _ _; (try dsimp only); (try k_sweep)))) | ((k_here; (with_reducible show wpAny _ _ (getMethod (Value.ref _) (Str.ofString "read") _) _ _ _); k_dflt (refine' my_fnget (by k_asm) (by k_mem) (by assumption) (by k_mem) (by assumption) (by exact if_pos rfl) (by assumption) (by assumption) (by (intro _ e; cases e)) ?_;  k_whole); intro _; dsimp only)) | ((k_here; (with_reducible show wpAny _ _ (getMethod (Value.ref 172) (Str.ofString "search") _) _ _ _); k_dflt (refine' get_172 (by k_asm) (by k_asm) ?_;  k_whole))) | ((k_here; (with_reducible show wpAny _ _ (getMethod (Value.ref 167) (Str.ofString "search") _) _ _ _); k_dflt (refine' get_167 (by k_asm) (by k_asm) ?_;  k_whole))) | ((k_here; (with_reducible show wpAny _ _ (getMethod (Value.ref _) (Str.ofString "pop") _) _ _ _); k_dflt (refine' my_get_pop (knd := PySem.intKind _ _) (by k_asm) (by k_mem) (by assumption) (by omega) ?_;  k_whole))) | (((k_here; (with_reducible show wpAny _ _ (call (Value.builtin "iter") [Value.ref _, Value.str _ _]) _ _ _); k_dflt (refine' my_citnew (by k_asm) (by k_asm) (by k_mem) ?_;  k_whole); intro _ _ _ _ l1; (try k_lt l1); (try k_sweep)); (have _ := l1); clear l1)) | walk_at "mo"))))
  exact hret _ _ _ _ ⟨rfl, rfl⟩ (by k_asm) (by k_asm)
section
variable {prog : Program} {w : World} {A : Around} {E : Value → Shared → Prop} {s : Shared} {h₀ : Heap} {L : Addr} {m : Str → Option Value} {news news' : Led}
theorem my_pop0 {D : Addr} {v0 : Value} {ps : List Value} {n : Nat} {u : Tok} {Q : Value → Shared → Prop} (F : Fr h₀ L s.heap m) (N : News h₀ L s.heap news) (U : Upd D (PySem.W.listOf (v0 :: ps).toArray n) (PySem.W.listOf ps.toArray (n + 1)) news news') (hz : ps.length < 1000)
    (h : ∀ h', Fr h₀ L h' m → News h₀ L h' news' → Q v0 { s with heap := h' }) : wpAny (model prog w) A (call (.builtin "list.pop") [.ref D, .int 0 u]) Q E s := by
  refine kl_popAt (k := 0) (p := []) (q := ps) F N (by decide) ?_ rfl U ?_ h
  · unfold seqIndex?
    simp
  · rw [sizeLine_eq]
    simp
    omega
end
end Mine
namespace Mine
theorem says_tokP (w : World) (x : Str) (mach dm lp fS Lat : Addr) (rest : Led) (M : Mach w x mach dm lp fS Lat rest) (ps : List Value) (v0 : Value) (np p : Nat) (tp : Tok) (nL : Nat) (a b c d : Tok) (ln : Int) (tn tw : Tok) (hps : ps.length < 1000) :
    SaysC w 10 100 148 [.ref mach] [] (mst w.params (v0 :: ps) np p tp nL a b c d ln tn tw lp dm fS Lat rest) (fun v news => v = v0 ∧ ∃ np', news = mst w.params ps np' p tp nL a b c d ln tn tw lp dm fS Lat rest) := by
  ((have hfill : Mine.hd.heap_39 = Mine.hd.heap_39 ∧ PySem.Challenge.rw_sn0098_01 = PySem.Challenge.rw_sn0098_01 := (by k_fill; exact ⟨rfl, rfl⟩)); clear hfill)
  have hinst := M.inst
  have ne1 := M.ne1
  have ne2 := M.ne2
  have ne3 := M.ne3
  have o1 : ∀ q ∈ rest, q.1 ≠ lp := fun q hq => (M.offs q hq).1
  have o2 : ∀ q ∈ rest, q.1 ≠ Lat := fun q hq => (M.offs q hq).2.1
  have o3 : ∀ q ∈ rest, q.1 ≠ dm := fun q hq => (M.offs q hq).2.2
  intro p0 loose mean mg mb dp un gd cn cs ad ccd cl outer A₀ base h₀ L m s Q E B F X N T hk hd hu hret
  unfold mst at N
  k_dflt walk_at "my enter"
  have hl : (v0 :: ps).length < 1000 + 1 := by simp; omega
  (repeat' (first | ((( (fail_if_success with_reducible first | refine st0 ?_ | refine st1 ?_ | refine st2 ?_ | refine st3 ?_))); (fail_if_success with_reducible first | refine st4 ?_ | refine st5 ?_ | refine st7 ?_ | refine st6 ?_ | refine st8 ?_ | refine st9 ?_); (first | ((k_here; (with_reducible show wpAny _ _ (truthy (Value.ref _)) _ _ _); k_dflt (refine' my_len_set (knd := PySem.intKind _ _) (by k_asm) (by k_mem) (by assumption) (by omega) ?_;  k_whole))) | ((with_reducible show wpAny _ _ (truthy (Value.ref _)) _ _ _); ((k_here; k_dflt (refine' my_truthy (by k_asm) (by k_mem) (by omega) ?_;  k_whole); intro _; dsimp only))) | ((with_reducible show wpAny _ _ (call (Value.builtin "list.append") _) _ _ _); ((k_here; k_dflt (refine' my_append (by k_asm) (by k_asm) (by k_upd) (by (((try walk_at "my clear"); first | omega | (simp only [List.length_append, List.length_cons, List.length_nil]; omega)))) ?_;  k_whole); intro _ _ _; (try dsimp only); (try k_sweep)))) | ((with_reducible show wpAny _ _ (call (Value.builtin "list.append") _) _ _ _); ((k_here; k_dflt (refine' my_append (by k_asm) (by k_asm) (by k_upd) (by first | omega | (simp only [List.length_cons, List.length_nil, List.length_append]; omega)) ?_;  k_whole); intro _ _ _; (try dsimp only); (try k_sweep)))) | ((k_here; (with_reducible show wpAny _ _ (getMethod (Value.ref _) (Str.ofString "read") _) _ _ _); k_dflt (refine' my_fnget (by k_asm) (by k_mem) (by assumption) (by k_mem) (by assumption) (by exact if_pos rfl) (by assumption) (by assumption) (by (intro _ e; cases e)) ?_;  k_whole); intro _; dsimp only)) | ((k_here; (with_reducible show wpAny _ _ (getMethod (Value.ref 172) (Str.ofString "search") _) _ _ _); k_dflt (refine' get_172 (by k_asm) (by k_asm) ?_;  k_whole))) | ((k_here; (with_reducible show wpAny _ _ (getMethod (Value.ref 167) (Str.ofString "search") _) _ _ _); k_dflt (refine' get_167 (by k_asm) (by k_asm) ?_;  k_whole))) | ((k_here; (with_reducible show wpAny _ _ (getMethod (Value.ref _) (Str.ofString "pop") _) _ _ _); k_dflt (refine' my_get_pop (knd := PySem.intKind _ _) (by k_asm) (by k_mem) (by assumption) (by omega) ?_;  k_whole))) | (((k_here; (with_reducible show wpAny _ _ (call (Value.builtin "iter") [Value.ref _, Value.str _ _]) _ _ _); k_dflt (refine' my_citnew (by k_asm) (by k_asm) (by k_mem) ?_;  k_whole); intro _ _ _ _ l1; (try k_lt l1); (try k_sweep)); (have _ := l1); clear l1)) | ((k_here; (with_reducible show wpAny _ _ (call (Value.builtin _) [Value.ref _, Value.int 0 _]) _ _ _); k_dflt (refine' my_pop0 (by k_asm) (by k_asm) (by k_upd) (by omega) ?_;  k_whole); intro _ _ _; (try dsimp only); (try k_sweep))) | walk_at "mo"))))
  · exact hret _ _ _ _ ⟨rfl, _, rfl⟩ (by k_asm) (by k_asm)
  · exact absurd (Nat.succ_pos _) (by assumption : ¬ 0 < (v0 :: ps).length)
end Mine
-- C36
namespace Mine
/-- as SaysP, in one world -/
noncomputable def SaysPA (w : World) (d u : Nat) (f : Addr) (vs : List Value) (news : Led) (R : Value → Led → Prop) : Prop :=
  ∀ (p : Program) (loose : List Str) (mean : ExcName → Option Value) (mg mb : Str → Option Value)
    (dp un : Nat) (gd : Option (List Code)) (cn : Str) (cs : Scope) (a : Addr) (ccd : Value) (cl : List (Str × Addr)) (outer : List Env) (A₀ : Around) (base h₀ : Heap) (L : Addr) (m : Str → Option Value) (s : Shared) (Q E : Value → Shared → Prop),
    Below A₀ base outer h₀ → Fr h₀ L s.heap m → (Mine.hd.heap_39 w.params).In h₀ → News h₀ L s.heap news → Top p loose mean mg mb h₀ → cs.kind = .function → dp + d < recursionLimit → un + u < cLine → 0 < s.toks →
    (∀ v h' tk' dr' news', R v news' → s.toks ≤ tk' → Fr h₀ L h' m → News h₀ L h' news' → Q v { s with heap := h', toks := tk', drawn := dr' }) →
    wpAny (model PySem.Challenge.rw_sn0098_01.row.prog w) (ktrTop dp un gd cn cs L a ccd cl outer) (call (.ref f) vs) Q E s
theorem use_saysPA {d u : Nat} {f : Addr} {vs : List Value} {news : Led} {R : Value → Led → Prop} {w : World} {p : Program} {loose : List Str} {mean : ExcName → Option Value} {mg mb : Str → Option Value}
    {dp un : Nat} {gd : Option (List Code)} {cn : Str} {cs : Scope} {a : Addr} {ccd : Value} {cl : List (Str × Addr)} {outer : List Env} {A₀ : Around} {base h₀ : Heap} {L : Addr} {m : Str → Option Value} {s : Shared} {Q E : Value → Shared → Prop}
    (B : Below A₀ base outer h₀) (F : Fr h₀ L s.heap m) (X : (Mine.hd.heap_39 w.params).In h₀) (N : News h₀ L s.heap news) (T : Top p loose mean mg mb h₀) (hk : cs.kind = .function) (C : SaysPA w d u f vs news R) (hd : dp + d < recursionLimit) (hu : un + u < cLine) (ht : 0 < s.toks)
    (ret : ∀ v h' tk' dr' news', R v news' → s.toks ≤ tk' → Fr h₀ L h' m → News h₀ L h' news' → Q v { s with heap := h', toks := tk', drawn := dr' }) :
    wpAny (model PySem.Challenge.rw_sn0098_01.row.prog w) (ktrTop dp un gd cn cs L a ccd cl outer) (call (.ref f) vs) Q E s := C _ _ _ _ _ _ _ _ _ _ _ _ _ _ _ _ _ _ _ _ _ _ B F X N T hk hd hu ht ret
section
variable {prog : Program} {w : World} {A : Around} {E : Value → Shared → Prop} {s : Shared} {env : Env} {h₀ : Heap} {tgt : Expr} {body : List Stmt} {Q : Flow → Shared → Prop}
noncomputable def TurnP (h₀ : Heap) (L I : Addr) (oI : Obj) (J : (Str → Option Value) → Led → Prop) (s₁ : Shared) (Q : Flow → Shared → Prop) (f : Flow) (s₂ : Shared) : Prop :=
  match f with
  | .ret v => Q (.ret v) s₂
  | .brk => Q .next s₂
  | _ => (Xx5 fun h' tk dr m' nx => Aa5 (s₂ = { s₁ with heap := h', toks := tk, drawn := dr }) (Fr h₀ L h' m') (News h₀ L h' ((I, oI) :: nx)) ((∀ p ∈ nx, p.1 ≠ I)) (J m' nx))
theorem TurnP.intro {L I : Addr} {oI : Obj} {J : (Str → Option Value) → Led → Prop} {m' : Str → Option Value} {nx news' : Led} {s₁ : Shared} {h' : Heap} {tk : Nat} {dr : Drawn} (F : Fr h₀ L h' m') (N : News h₀ L h' news')
    (hn : ∀ p ∈ (I, oI) :: nx, p ∈ news') (ho : ∀ p ∈ nx, p.1 ≠ I) (hj : J m' nx) : TurnP h₀ L I oI J s₁ Q .next { s₁ with heap := h', toks := tk, drawn := dr } := ⟨h', tk, dr, m', nx, rfl, F, news_sub N hn, ho, hj⟩
/-- as loopWT; the drawn part may change, and tokens do not fall -/
theorem loopWP {I : Addr} {oI₀ : Obj} {fp : List Addr} {n : Nat} {P : Nat → Value → Prop} {St : Nat → Heap → Prop} {m₀ : Str → Option Value} {news : Led} (J : Nat → (Str → Option Value) → Led → Prop)
    (W : Walks prog w A I fp [I] n P St) (hIf : I ∈ fp) (hlive : ∀ i h, St i h → ∃ o, h.get? I = some o) (hst : St 0 s.heap) (F : Fr h₀ env.locals s.heap m₀) (N : News h₀ env.locals s.heap ((I, oI₀) :: news)) (hoff : ∀ p ∈ news, p.1 ≠ I)
    (hfpJ : ∀ b ∈ fp, b = I ∨ ∃ o, ∀ i m nx, J i m nx → (b, o) ∈ nx) (hj : J 0 m₀ news)
    (hown : ∀ i v h tk dr (Q : Unit → Shared → Prop), i < n → P i v → St (i + 1) h → Q () { s with heap := h, toks := tk, drawn := dr } → wpAny (model prog w) A (letOwnedTupleGo tgt (.ref I) v) Q E { s with heap := h, toks := tk, drawn := dr })
    (turn : ∀ i v m₁ nx h tk dr oI, i < n → P i v → J i m₁ nx → (∀ p ∈ nx, p.1 ≠ I) → s.toks ≤ tk → Fr h₀ env.locals h m₁ → News h₀ env.locals h ((I, oI) :: nx) →
      wpAny (model prog w) A (assign tgt env v) (fun _ s₂ => wpAny (model prog w) A (execs body env) (TurnP h₀ env.locals I oI (J (i + 1)) s Q) E s₂) E { s with heap := h, toks := tk, drawn := dr })
    (done : ∀ m₁ nx h tk dr, J n m₁ nx → s.toks ≤ tk → Fr h₀ env.locals h m₁ → News h₀ env.locals h nx → Q .next { s with heap := h, toks := tk, drawn := dr }) :
    LoopT prog w A env tgt body Q E (.ref I) s := by
  have hI := N _ (.head _)
  have N' : News h₀ env.locals s.heap news := news_sub N fun p hp => .tail _ hp
  refine ⟨n + 1, fun k s' => (Xx6 fun h' tk dr m' nx i => Aa9 (s' = { s with heap := h', toks := tk, drawn := dr }) (s.toks ≤ tk) (St i h') (Fr h₀ env.locals h' m') (News h₀ env.locals h' nx) ((∀ p ∈ nx, p.1 ≠ I)) (J i m' nx) (i ≤ n) (k = n + 1 - i)),
    ⟨s.heap, s.toks, s.drawn, m₀, news, 0, rfl, Nat.le_refl _, hst, F, N', hoff, hj, Nat.zero_le _, rfl⟩, ?_⟩
  rintro k s' hJz
  refine gz2 k s' ?_
  intro Gz hGz
  obtain ⟨h', tk, dr, m', nx, i, rfl, htk, hst', F', Nx, ho, hJ, hi, rfl⟩ := hJz
  refine hGz _ _ ?_
  clear hGz Gz
  have next : ∀ h₁ : Heap, (∀ b o, b ∉ [I] → h'.get? b = some o → h₁.get? b = some o) → Fr h₀ env.locals h₁ m' ∧ News h₀ env.locals h₁ nx := fun h₁ hk₁ =>
    ⟨⟨F'.ns.at' fun o e => hk₁ _ o (fun q => hI.2.1 (List.mem_singleton.mp q).symm) e, fun b o e => hk₁ b o (fun q => by rw [List.mem_singleton.mp q, hI.2.2] at e; cases e) (F'.keep b o e), F'.above⟩,
      fun p hp => ⟨hk₁ _ _ (fun q => ho p hp (List.mem_singleton.mp q)) (Nx p hp).1, (Nx p hp).2⟩⟩
  refine wpAny_toks ?_
  by_cases hlt : i < n
  · refine W.item i _ _ _ hlt hst' fun v h₁ tk₁ hP hst₁ hk₁ => ?_
    intro ht1
    dsimp only at ht1
    obtain ⟨F₁, N₁⟩ := next h₁ hk₁
    obtain ⟨oI, hoI⟩ := hlive _ _ hst₁
    have N₂ : News h₀ env.locals h₁ ((I, oI) :: nx) := fun p hp => by
      rcases List.mem_cons.mp hp with rfl | hp
      · exact ⟨hoI, hI.2⟩
      · exact N₁ p hp
    refine hown i v h₁ tk₁ dr _ hlt hP hst₁ ?_
    refine wpAny_toks ?_
    refine wpAny_mono (turn i v m' nx h₁ tk₁ dr oI hlt hP hJ ho (Nat.le_trans htk ht1) F₁ N₂) (fun _ s₂ q ht2 => wpAny_toks (wpAny_mono q (fun f s₃ q ht3 => ?_) fun _ _ e _ => e)) fun _ _ e _ => e
    have fin : ((Xx5 fun h' tk dr m' nx => Aa5 (s₃ = { s with heap := h', toks := tk, drawn := dr }) (Fr h₀ env.locals h' m') (News h₀ env.locals h' ((I, oI) :: nx)) ((∀ p ∈ nx, p.1 ≠ I)) (J (i + 1) m' nx))) →
        ∃ m, m < n + 1 - i ∧ (Xx6 fun h' tk dr m' nx i => Aa9 (s₃ = { s with heap := h', toks := tk, drawn := dr }) (s.toks ≤ tk) (St i h') (Fr h₀ env.locals h' m') (News h₀ env.locals h' nx) ((∀ p ∈ nx, p.1 ≠ I)) (J i m' nx) (i ≤ n) (m = n + 1 - i)) := by
      rintro ⟨h3, tk3, dr3, m3, nx3, rfl, F3, Nx3, ho3, hj3⟩
      dsimp only at ht2 ht3
      refine ⟨n + 1 - (i + 1), by omega, h3, tk3, dr3, m3, nx3, i + 1, rfl, by omega, W.frame _ _ _ hst₁ fun b hb o eb => ?_, F3, news_sub Nx3 fun p hp => .tail _ hp, ho3, hj3, hlt, rfl⟩
      rcases hfpJ _ hb with rfl | ⟨o2, ho2⟩
      · rw [hoI] at eb
        cases eb
        exact (Nx3 _ (.head _)).1
      · have h1 := (N₂ _ (List.mem_cons_of_mem _ (ho2 _ _ _ hJ))).1
        dsimp only at h1
        rw [h1] at eb
        cases eb
        exact (Nx3 _ (List.mem_cons_of_mem _ (ho2 _ _ _ hj3))).1
    cases f with
    | ret v => exact q
    | brk => exact q
    | next => exact fin q
    | cont => exact fin q
  · have hin : i = n := by omega
    subst hin
    refine W.done _ _ _ hst' fun h₁ tk₁ hk₁ => ?_
    intro ht1
    dsimp only at ht1
    obtain ⟨F₁, N₁⟩ := next h₁ hk₁
    exact done m' nx h₁ tk₁ dr hJ (Nat.le_trans htk ht1) F₁ N₁
theorem loopLP {l : Addr} {vs : List Value} {nn : Nat} {m₀ : Str → Option Value} {news : Led} (J : Nat → (Str → Option Value) → Led → Prop) (hh : A.handled = none)
    (hm : ∀ i m nx, J i m nx → (l, PySem.W.listOf vs.toArray nn) ∈ nx) (F : Fr h₀ env.locals s.heap m₀) (N : News h₀ env.locals s.heap news) (hj : J 0 m₀ news)
    (hown : ∀ i v I h tk dr (Q : Unit → Shared → Prop), vs[i]? = some v → h.IsListIter I l (i + 1) → Q () { s with heap := h, toks := tk, drawn := dr } → wpAny (model prog w) A (letOwnedTupleGo tgt (.ref I) v) Q E { s with heap := h, toks := tk, drawn := dr })
    (turn : ∀ i v m₁ nx h tk dr I oI, vs[i]? = some v → J i m₁ nx → (∀ p ∈ nx, p.1 ≠ I) → s.toks ≤ tk → Fr h₀ env.locals h m₁ → News h₀ env.locals h ((I, oI) :: nx) →
      wpAny (model prog w) A (assign tgt env v) (fun _ s₂ => wpAny (model prog w) A (execs body env) (TurnP h₀ env.locals I oI (J (i + 1)) s Q) E s₂) E { s with heap := h, toks := tk, drawn := dr })
    (done : ∀ m₁ nx h tk dr, J vs.length m₁ nx → s.toks ≤ tk → Fr h₀ env.locals h m₁ → News h₀ env.locals h nx → Q .next { s with heap := h, toks := tk, drawn := dr }) :
    wpAny (model prog w) A (pyIter (.ref l)) (fun it s₂ => LoopT prog w A env tgt body Q E it s₂) E s := by
  have hls : s.heap.IsList l vs.toArray := News.isList N (hm _ _ _ hj)
  have hlt : l < s.heap.objs.size := Heap.lt_size (N _ (hm _ _ _ hj)).1
  have hne : l ≠ s.heap.objs.size := Nat.ne_of_lt hlt
  refine wpAny_pyIter_list hls ?_
  have W := Walks.list (prog := prog) (w := w) hh s.heap.objs.size l hne vs.toArray
  have hlen : vs.toArray.size = vs.length := by simp
  rw [hlen] at W
  refine loopWP (oI₀ := _) J W (.head _) (fun i h st => let ⟨o, ho, _⟩ := st.1; ⟨o, ho⟩) ⟨⟨_, Heap.get?_push_size _ rfl, rfl, rfl⟩, hls.at fun o e => Heap.get?_push_of_some _ e⟩ (F.push _) (News.push F N _ rfl) (fun p hp => Nat.ne_of_lt (Heap.lt_size (N p hp).1)) ?_ hj ?_ ?_ ?_
  · intro b hb
    rcases List.mem_cons.mp hb with e | hb
    · exact .inl e
    · exact .inr ⟨_, fun i m nx h => (List.mem_singleton.mp hb) ▸ hm i m nx h⟩
  · intro i v h tk dr Q hi hP hst hQ
    exact hown i v _ h tk dr Q (by simpa using hP) hst.1 hQ
  · intro i v m₁ nx h tk dr oI hi hP hJ ho htk F₁ N₁
    exact turn i v m₁ nx h tk dr _ oI (by simpa using hP) hJ ho htk F₁ N₁
  · exact done
theorem loopRangeP {r : Addr} {a₀ b₀ : Int} {t₀ u₀ v₀ : Tok} {n : Nat} {m₀ : Str → Option Value} {news : Led} (J : Nat → (Str → Option Value) → Led → Prop) (hh : A.handled = none)
    (hr : IsRange s.heap r a₀ b₀ 1 t₀ u₀ v₀) (hsmall : Builtin.Range.small a₀ b₀ 1 = true) (hn : Builtin.Range.rangeSize a₀ b₀ 1 = (n : Int)) (F : Fr h₀ env.locals s.heap m₀) (N : News h₀ env.locals s.heap news) (hj : J 0 m₀ news)
    (hown : ∀ it v, letOwnedTupleGo tgt it v = pure ())
    (turn : ∀ i t m₁ nx h tk dr I oI, i < n → J i m₁ nx → (∀ p ∈ nx, p.1 ≠ I) → s.toks ≤ tk → Fr h₀ env.locals h m₁ → News h₀ env.locals h ((I, oI) :: nx) →
      wpAny (model prog w) A (assign tgt env (.int (a₀ + (i : Int)) t)) (fun _ s₂ => wpAny (model prog w) A (execs body env) (TurnP h₀ env.locals I oI (J (i + 1)) s Q) E s₂) E { s with heap := h, toks := tk, drawn := dr })
    (done : ∀ m₁ nx h tk dr, J n m₁ nx → s.toks ≤ tk → Fr h₀ env.locals h m₁ → News h₀ env.locals h nx → Q .next { s with heap := h, toks := tk, drawn := dr }) :
    wpAny (model prog w) A (pyIter (.ref r)) (fun it s₂ => LoopT prog w A env tgt body Q E it s₂) E s := by
  refine wpAny_pyIter_range hr hsmall ?_
  have W := LCg.range_walks (prog := prog) (w := w) (I := s.heap.objs.size) hh a₀ n
  refine loopWP J W (.head _) (fun i h st => ⟨_, st⟩) (by show IsRangeIter _ _ _ _ _; rw [hn]; simpa using Heap.get?_push_size _ rfl) (F.push _) (News.push F N _ rfl) (fun p hp => Nat.ne_of_lt (Heap.lt_size (N p hp).1)) ?_ hj ?_ ?_ done
  · intro b hb
    exact .inl (List.mem_singleton.mp hb)
  · intro i v h tk dr Q hi hP hst hQ
    exact wpAny_of_eq (hown _ _) hQ
  · rintro i v m₁ nx h tk dr oI hi hJz
    refine gz1 nx ?_
    intro Gz hGz
    obtain ⟨t, rfl⟩ := hJz
    refine hGz _ ?_
    clear hGz Gz
    rintro hJ ho htk F₁ N₁
    exact turn i t m₁ nx h tk dr _ oI hi hJ ho htk F₁ N₁
end
end Mine
-- C37
namespace Mine
theorem SaysC.pa {w : World} {d u : Nat} {f : Addr} {vs : List Value} {news : Led} {R : Value → Led → Prop} (C : SaysC w d u f vs [] news R) : SaysPA w d u f vs news R := by
  intro p loose mean mg mb dp un gd cn cs x ccd cl outer A₀ base h₀ L m s Q E B F X N T hk hd hu ht hr
  refine wpAny_toks ?_
  exact C.at p loose mean mg mb dp un gd cn cs x ccd cl outer A₀ base h₀ L m s _ _ B F X N T hk hd hu fun v h' tk' news' r F' N' ht' => hr v h' tk' _ news' r ht' F' N'
theorem Mach.mono {w : World} {x : Str} {mach dm lp fS Lat : Addr} {rest rest' : Led} (M : Mach w x mach dm lp fS Lat rest) (h : ∀ q ∈ rest, q ∈ rest') (ho : ∀ q ∈ rest', q.1 ≠ lp ∧ q.1 ≠ Lat ∧ q.1 ≠ dm) : Mach w x mach dm lp fS Lat rest' where
  inst := h _ M.inst
  strm := by
    refine gz0 fun Gz hGz => ?_
    obtain ⟨oS, dS, odS, fR, oR, a1, a2, a3, a4, a5, a6, a7, a8, fix, a9, a10⟩ := M.strm
    refine hGz ?_
    clear hGz Gz
    exact ⟨oS, dS, odS, fR, oR, h _ a1, a2, a3, a4, h _ a5, a6, h _ a7, a8, fix, a9, fun q hq => h _ (a10 q hq)⟩
  offs := ho
  ne1 := M.ne1
  ne2 := M.ne2
  ne3 := M.ne3
noncomputable def illOf (ns : List Int) : List Int := (doubts ns).filterMap fun q => if pieces ns q.1 > q.2 then some q.1 else none
theorem bare_decs : (List.range 100).all (fun n => Txt.replace (Txt.rstrip (decS (n : Nat))) "_" "" == decS (n : Nat)) = true := by decide +kernel
theorem bare_dec {n : Int} (h0 : 0 ≤ n) (h1 : n < 100) : Txt.replace (Txt.rstrip (decS n)) "_" "" = decS n := by
  have h := List.all_eq_true.mp bare_decs n.toNat (List.mem_range.mpr (by omega))
  have e : ((n.toNat : Nat) : Int) = n := by omega
  rw [e] at h
  exact eq_of_beq h
theorem short_decs : (List.range 100).all (fun n => decide ((decS (n : Nat)).length ≤ 100)) = true := by decide +kernel
theorem short_dec {n : Int} (h0 : 0 ≤ n) (h1 : n < 100) : (decS n).length ≤ 100 := by
  have h := List.all_eq_true.mp short_decs n.toNat (List.mem_range.mpr (by omega))
  have e : ((n.toNat : Nat) : Int) = n := by omega
  rw [e] at h
  exact of_decide_eq_true h
theorem DoubtsAt.get {led : Led} {vs : List Value} {ds : List (Int × Int)} (h : DoubtsAt led vs ds) : ∀ (i : Nat) (v : Value), vs[i]? = some v → (Xx5 fun a c m t1 t2 => Aa3 (v = .ref a) ((a, tob [.int c t1, .int m t2]) ∈ led) (ds[i]? = some (c, m))) := by
  induction h with
  | nil => intro i v hv; simp at hv
  | cons hm _ ih =>
    intro i v hv
    cases i with
    | zero => simp at hv; subst hv; exact ⟨_, _, _, _, _, rfl, hm, rfl⟩
    | succ i => simpa using ih i v (by simpa using hv)
theorem says_ill (w : World) (x : Str) (mach dm lp fS Lat : Addr) (rest : Led) (M : Mach w x mach dm lp fS Lat rest) (np p : Nat) (tp : Tok) (nL : Nat) (a b c d : Tok) (ln : Int) (tn tw : Tok) (l : Addr) (vs : List Value) (n : Nat) (ns : List Int) (T48 : Led)
    (hm : (l, PySem.W.listOf vs.toArray n) ∈ rest) (hi : IntsAre vs ns) (hr : Row ns) (hW : Tabs rest) (h2 : 2 ≤ ns.length) (hsm : ∀ i, ns.getD i 0 < 100) (hw48 : W48 T48) (h48 : ∀ q ∈ T48, q ∈ rest) (hdb : ∀ q ∈ doubts ns, 0 ≤ q.1 ∧ q.1 < 100) (hdl : (doubts ns).length < 1000) :
    SaysPA w 150 1300 361 [.ref mach, .ref l] (mst w.params [] np p tp nL a b c d ln tn tw lp dm fS Lat rest) (fun v news => (Xx4 fun D ys ny np' => Aa3 (v = .ref D) (IntsAre ys (illOf ns)) (news = (D, PySem.W.listOf ys.toArray ny) :: mst w.params [] np' p tp nL a b c d ln tn tw lp dm fS Lat rest))) := by
  ((have hfill : Mine.hd.heap_39 = Mine.hd.heap_39 ∧ PySem.Challenge.rw_sn0098_01 = PySem.Challenge.rw_sn0098_01 := (by k_fill; exact ⟨rfl, rfl⟩)); clear hfill)
  have hfew := hr.few
  intro p0 loose mean mg mb dp un gd cn cs0 ad ccd cl0 outer A₀ base0 h₀ L0 m0 s0 Q E B0 F0 X0 N0 T0 hk0 hd0 hu0 ht0 hret
  refine wpAny_toks ?_
  replace hret : ∀ v h' tk' dr' news', _ → Fr h₀ L0 h' m0 → News h₀ L0 h' news' → s0.toks ≤ tk' → Q v { s0 with heap := h', toks := tk', drawn := dr' } := fun v h' tk' dr' news' r F' N' ht' => hret v h' tk' dr' news' r ht' F' N'
  refine wpAny_call ?_
  k_dflt walk_at "my enter"
  (rename Fr _ _ _ _ => F)
  obtain ⟨m', F1⟩ := names_ex F [("machine", .ref mach), ("row", .ref l)] (by ((repeat' (first | exact all_nil | refine all_cons rfl ?_))))
  clear F
  have hvl := hi.length
  (repeat' (first | ((( (fail_if_success with_reducible first | refine st0 ?_ | refine st1 ?_ | refine st2 ?_ | refine st3 ?_))); (fail_if_success with_reducible first | refine st4 ?_ | refine st5 ?_ | refine st7 ?_ | refine st6 ?_ | refine st8 ?_ | refine st9 ?_); (first | ((with_reducible show wpAny _ _ (call (Value.builtin "list.append") _) _ _ _); ((k_here; k_dflt (refine' my_append (by k_asm) (by k_asm) (by k_upd) (by (((try walk_at "my clear"); first | omega | (simp only [List.length_append, List.length_cons, List.length_nil]; omega)))) ?_;  k_whole); intro _ _ _; (try dsimp only); (try k_sweep)))) | ((with_reducible show wpAny _ _ (call (Value.builtin "list.append") _) _ _ _); ((k_here; k_dflt (refine' my_append (by k_asm) (by k_asm) (by k_upd) (by first | omega | (simp only [List.length_cons, List.length_nil, List.length_append]; omega)) ?_;  k_whole); intro _ _ _; (try dsimp only); (try k_sweep)))) | ((k_here; (with_reducible show wpAny _ _ (getMethod (Value.ref _) (Str.ofString "read") _) _ _ _); k_dflt (refine' my_fnget (by k_asm) (by k_mem) (by assumption) (by k_mem) (by assumption) (by exact if_pos rfl) (by assumption) (by assumption) (by (intro _ e; cases e)) ?_;  k_whole); intro _; dsimp only)) | ((k_here; (with_reducible show wpAny _ _ (getMethod (Value.ref 172) (Str.ofString "search") _) _ _ _); k_dflt (refine' get_172 (by k_asm) (by k_asm) ?_;  k_whole))) | ((k_here; (with_reducible show wpAny _ _ (getMethod (Value.ref 167) (Str.ofString "search") _) _ _ _); k_dflt (refine' get_167 (by k_asm) (by k_asm) ?_;  k_whole))) | ((k_here; (with_reducible show wpAny _ _ (getMethod (Value.ref _) (Str.ofString "pop") _) _ _ _); k_dflt (refine' my_get_pop (knd := PySem.intKind _ _) (by k_asm) (by k_mem) (by assumption) (by omega) ?_;  k_whole))) | ((k_here; (with_reducible show wpAny _ _ (callWith _ (Value.ref _) _ (backTo _ (starEach (_ :: _) _)) []) _ _ _); k_dflt (refine' callWith_F (by exact fnAt_of (by k_asm) (by k_mem) (by assumption)) ?_;  k_whole))) | (((with_reducible show FnAt _ _ ∧ _); refine ⟨by exact fnAt_of (by k_asm) (by k_mem) (by assumption), ?_⟩; try dsimp only [List.nil_append, List.cons_append])) | walk_at "mo"))))
  refine' use_saysP (by k_asm) (by k_asm) (by k_asm) ?uN18 (by k_asm) (by first | exact rfl | assumption) ?uC18 ?uD18 ?uU18 (by dsimp only; omega) ?uR18
  case uN18 => k_asm
  case uC18 => exact (says_doubts l vs n ns _ (.tail _ (.tail _ (.tail _ hm))) hi hr (hW.mono fun q hq => .tail _ (.tail _ (.tail _ hq))) h2 hsm).toP
  case uD18 => ktr_room
  case uU18 => ktr_units
  rintro v h9 tk9 dr9 nZ hJz
  refine gz2 v nZ ?_
  intro Gz hGz
  obtain ⟨Dd, ys, ny, tl, rfl, rfl, hda, hoD, hfr⟩ := hJz
  refine hGz _ _ ?_
  clear hGz Gz
  rintro ht9 F9 N9
  dsimp only at ht9
  dsimp only
  (repeat' (first | ((( (fail_if_success with_reducible first | refine st0 ?_ | refine st1 ?_ | refine st2 ?_ | refine st3 ?_))); (fail_if_success with_reducible first | refine st4 ?_ | refine st5 ?_ | refine st7 ?_ | refine st6 ?_ | refine st8 ?_ | refine st9 ?_); (first | ((with_reducible show wpAny _ _ (call (Value.builtin "list.append") _) _ _ _); ((k_here; k_dflt (refine' my_append (by k_asm) (by k_asm) (by k_upd) (by (((try walk_at "my clear"); first | omega | (simp only [List.length_append, List.length_cons, List.length_nil]; omega)))) ?_;  k_whole); intro _ _ _; (try dsimp only); (try k_sweep)))) | ((with_reducible show wpAny _ _ (call (Value.builtin "list.append") _) _ _ _); ((k_here; k_dflt (refine' my_append (by k_asm) (by k_asm) (by k_upd) (by first | omega | (simp only [List.length_cons, List.length_nil, List.length_append]; omega)) ?_;  k_whole); intro _ _ _; (try dsimp only); (try k_sweep)))) | ((k_here; (with_reducible show wpAny _ _ (getMethod (Value.ref _) (Str.ofString "read") _) _ _ _); k_dflt (refine' my_fnget (by k_asm) (by k_mem) (by assumption) (by k_mem) (by assumption) (by exact if_pos rfl) (by assumption) (by assumption) (by (intro _ e; cases e)) ?_;  k_whole); intro _; dsimp only)) | ((k_here; (with_reducible show wpAny _ _ (getMethod (Value.ref 172) (Str.ofString "search") _) _ _ _); k_dflt (refine' get_172 (by k_asm) (by k_asm) ?_;  k_whole))) | ((k_here; (with_reducible show wpAny _ _ (getMethod (Value.ref 167) (Str.ofString "search") _) _ _ _); k_dflt (refine' get_167 (by k_asm) (by k_asm) ?_;  k_whole))) | ((k_here; (with_reducible show wpAny _ _ (getMethod (Value.ref _) (Str.ofString "pop") _) _ _ _); k_dflt (refine' my_get_pop (knd := PySem.intKind _ _) (by k_asm) (by k_mem) (by assumption) (by omega) ?_;  k_whole))) | ((k_here; (with_reducible show wpAny _ _ (callWith _ (Value.ref _) _ (backTo _ (starEach (_ :: _) _)) []) _ _ _); k_dflt (refine' callWith_F (by exact fnAt_of (by k_asm) (by k_mem) (by assumption)) ?_;  k_whole))) | (((with_reducible show FnAt _ _ ∧ _); refine ⟨by exact fnAt_of (by k_asm) (by k_mem) (by assumption), ?_⟩; try dsimp only [List.nil_append, List.cons_append])) | walk_at "mo"))))
  ((k_here; (with_unfolding_all refine' For_T ?_); k_whole))
  (repeat' (first | ((( (fail_if_success with_reducible first | refine st0 ?_ | refine st1 ?_ | refine st2 ?_ | refine st3 ?_))); (fail_if_success with_reducible first | refine st4 ?_ | refine st5 ?_ | refine st7 ?_ | refine st6 ?_ | refine st8 ?_ | refine st9 ?_); (first | ((with_reducible show wpAny _ _ (call (Value.builtin "list.append") _) _ _ _); ((k_here; k_dflt (refine' my_append (by k_asm) (by k_asm) (by k_upd) (by (((try walk_at "my clear"); first | omega | (simp only [List.length_append, List.length_cons, List.length_nil]; omega)))) ?_;  k_whole); intro _ _ _; (try dsimp only); (try k_sweep)))) | ((with_reducible show wpAny _ _ (call (Value.builtin "list.append") _) _ _ _); ((k_here; k_dflt (refine' my_append (by k_asm) (by k_asm) (by k_upd) (by first | omega | (simp only [List.length_cons, List.length_nil, List.length_append]; omega)) ?_;  k_whole); intro _ _ _; (try dsimp only); (try k_sweep)))) | ((k_here; (with_reducible show wpAny _ _ (getMethod (Value.ref _) (Str.ofString "read") _) _ _ _); k_dflt (refine' my_fnget (by k_asm) (by k_mem) (by assumption) (by k_mem) (by assumption) (by exact if_pos rfl) (by assumption) (by assumption) (by (intro _ e; cases e)) ?_;  k_whole); intro _; dsimp only)) | ((k_here; (with_reducible show wpAny _ _ (getMethod (Value.ref 172) (Str.ofString "search") _) _ _ _); k_dflt (refine' get_172 (by k_asm) (by k_asm) ?_;  k_whole))) | ((k_here; (with_reducible show wpAny _ _ (getMethod (Value.ref 167) (Str.ofString "search") _) _ _ _); k_dflt (refine' get_167 (by k_asm) (by k_asm) ?_;  k_whole))) | ((k_here; (with_reducible show wpAny _ _ (getMethod (Value.ref _) (Str.ofString "pop") _) _ _ _); k_dflt (refine' my_get_pop (knd := PySem.intKind _ _) (by k_asm) (by k_mem) (by assumption) (by omega) ?_;  k_whole))) | ((k_here; (with_reducible show wpAny _ _ (callWith _ (Value.ref _) _ (backTo _ (starEach (_ :: _) _)) []) _ _ _); k_dflt (refine' callWith_F (by exact fnAt_of (by k_asm) (by k_mem) (by assumption)) ?_;  k_whole))) | (((with_reducible show FnAt _ _ ∧ _); refine ⟨by exact fnAt_of (by k_asm) (by k_mem) (by assumption), ?_⟩; try dsimp only [List.nil_append, List.cons_append])) | walk_at "mo"))))
  (rename Fr _ _ _ _ => F2)
  (rename News _ _ _ _ => N2)
  obtain ⟨L, hL⟩ := fr_L F2
  subst hL
  obtain ⟨ds, hds⟩ : ∃ ds, ds = doubts ns := ⟨_, rfl⟩
  rw [← hds] at hda hdb hdl
  have hyl := hda.len
  obtain ⟨rest1, hrest1⟩ : ∃ r : Led, r = (Dd, PySem.W.listOf ys.toArray ny) :: (tl ++ rest) := ⟨_, rfl⟩
  have mD : (Dd, PySem.W.listOf ys.toArray ny) ∈ rest1 := hrest1 ▸ .head _
  have mT : ∀ q ∈ tl, q ∈ rest1 := fun q hq => hrest1 ▸ .tail _ (List.mem_append_left _ hq)
  have mR : ∀ q ∈ rest, q ∈ rest1 := fun q hq => hrest1 ▸ .tail _ (List.mem_append_right _ hq)
  have M1 : Mach w x mach dm lp fS Lat rest1 := M.mono mR (by
    intro q hq
    rw [hrest1] at hq
    simp only [List.mem_cons, List.mem_append] at hq
    rcases hq with rfl | hq | hq
    · exact ⟨Ne.symm (hoD (lp, _) (List.mem_append_right _ (.head _))), Ne.symm (hoD (Lat, _) (List.mem_append_right _ (.tail _ (.head _)))), Ne.symm (hoD (dm, _) (List.mem_append_right _ (.tail _ (.tail _ (.head _)))))⟩
    · exact ⟨Ne.symm (Nat.ne_of_lt (hfr q hq (lp, _) (.head _))), Ne.symm (Nat.ne_of_lt (hfr q hq (Lat, _) (.tail _ (.head _)))), Ne.symm (Nat.ne_of_lt (hfr q hq (dm, _) (.tail _ (.tail _ (.head _)))))⟩
    · exact M.offs q hq)
  have N3 : News _ _ _ (mst w.params [] np p tp nL a b c d ln tn tw lp dm fS Lat rest1) := news_sub N2 (by
    intro q hq
    rw [hrest1] at hq
    unfold mst at hq
    simp only [List.mem_cons, List.mem_append] at hq ⊢
    rcases hq with h | h | h | h | h | h <;> simp [h])
  clear N2
  refine loopLP (l := Dd) (vs := ys) (nn := ny) (fun i m nx => (Xx2 fun (psv : List Value) (np' : Nat) => Aa3 (StrsAre psv ((ds.take i).map fun q => decS q.1)) (nx = mst w.params psv np' p tp nL a b c d ln tn tw lp dm fS Lat rest1) (HasN m [("machine", .ref mach), ("row", .ref l), ("doubts", .ref Dd)]))) ?_ ?_ F2 N3 ?_ ?_ ?_ ?_
  · exact (by rfl)
  · rintro i m nx hJz
    refine gz1 nx ?_
    intro Gz hGz
    obtain ⟨psv, np', _, rfl, _⟩ := hJz
    refine hGz _ ?_
    clear hGz Gz
    exact .tail _ (.tail _ (.tail _ mD))
  · exact ⟨[], np, .nil, rfl, by ((repeat' (first | exact all_nil | refine all_cons rfl ?_)))⟩
  · intro i v I h tk dr Q hv hit hQ
    refine gz0 fun Gz hGz => ?_
    obtain ⟨aa, cw, cm, t1, t2, rfl, hmem, hd⟩ := hda.get i v hv
    refine hGz ?_
    clear hGz Gz
    exact wpAny_letOwnedTupleGo_listiter hit hQ
  · rintro i v m₁ nx h10 tk10 dr10 I oI hv hJz
    refine gz1 nx ?_
    intro Gz hGz
    obtain ⟨psv, np', hps, rfl, hN⟩ := hJz
    refine hGz _ ?_
    clear hGz Gz
    rintro ho htk F10 N10
    refine gz0 fun Gz hGz => ?_
    obtain ⟨aa, cw, cm, t1, t2, rfl, hmem, hd⟩ := hda.get i v hv
    refine hGz ?_
    clear hGz Gz
    obtain ⟨m9, F10⟩ := names_ex F10 [("machine", .ref mach), ("row", .ref l), ("doubts", .ref Dd)] hN
    have hmem1 := mT _ hmem
    have hcb := hdb _ (List.mem_of_getElem? hd)
    dsimp only at hcb
    have hpl := strs_len hps
    rw [List.length_map, List.length_take] at hpl
    have hinst := M1.inst
    unfold mst at N10
    (repeat' (first | ((( (fail_if_success with_reducible first | refine st0 ?_ | refine st1 ?_ | refine st2 ?_ | refine st3 ?_))); (fail_if_success with_reducible first | refine st4 ?_ | refine st5 ?_ | refine st7 ?_ | refine st6 ?_ | refine st8 ?_ | refine st9 ?_); (first | ((with_reducible show wpAny _ _ (call (Value.builtin "list.append") _) _ _ _); ((k_here; k_dflt (refine' my_append (by k_asm) (by k_asm) (by k_upd) (by (((try walk_at "my clear"); first | omega | (simp only [List.length_append, List.length_cons, List.length_nil]; omega)))) ?_;  k_whole); intro _ _ _; (try dsimp only); (try k_sweep)))) | ((with_reducible show wpAny _ _ (call (Value.builtin "list.append") _) _ _ _); ((k_here; k_dflt (refine' my_append (by k_asm) (by k_asm) (by k_upd) (by first | omega | (simp only [List.length_cons, List.length_nil, List.length_append]; omega)) ?_;  k_whole); intro _ _ _; (try dsimp only); (try k_sweep)))) | ((k_here; (with_reducible show wpAny _ _ (getMethod (Value.ref _) (Str.ofString "read") _) _ _ _); k_dflt (refine' my_fnget (by k_asm) (by k_mem) (by assumption) (by k_mem) (by assumption) (by exact if_pos rfl) (by assumption) (by assumption) (by (intro _ e; cases e)) ?_;  k_whole); intro _; dsimp only)) | ((k_here; (with_reducible show wpAny _ _ (getMethod (Value.ref 172) (Str.ofString "search") _) _ _ _); k_dflt (refine' get_172 (by k_asm) (by k_asm) ?_;  k_whole))) | ((k_here; (with_reducible show wpAny _ _ (getMethod (Value.ref 167) (Str.ofString "search") _) _ _ _); k_dflt (refine' get_167 (by k_asm) (by k_asm) ?_;  k_whole))) | ((k_here; (with_reducible show wpAny _ _ (getMethod (Value.ref _) (Str.ofString "pop") _) _ _ _); k_dflt (refine' my_get_pop (knd := PySem.intKind _ _) (by k_asm) (by k_mem) (by assumption) (by omega) ?_;  k_whole))) | ((k_here; (with_reducible show wpAny _ _ (callWith _ (Value.ref _) _ (backTo _ (starEach (_ :: _) _)) []) _ _ _); k_dflt (refine' callWith_F (by exact fnAt_of (by k_asm) (by k_mem) (by assumption)) ?_;  k_whole))) | (((with_reducible show FnAt _ _ ∧ _); refine ⟨by exact fnAt_of (by k_asm) (by k_mem) (by assumption), ?_⟩; try dsimp only [List.nil_append, List.cons_append])) | walk_at "mo"))))
    have M2 : Mach w x mach dm lp fS Lat ((I, oI) :: rest1) := M1.cons (I, oI) (Ne.symm (ho (lp, PySem.W.listOf psv.toArray np') (.head _))) (Ne.symm (ho (Lat, PySem.W.listOf #[.int (p : Nat) tp] nL) (.tail _ (.head _)))) (Ne.symm (ho (dm, machD w.params a b c d ln tn fS tw lp) (.tail _ (.tail _ (.head _)))))
    (rename News _ _ _ _ => N11)
    refine' use_saysAt (by k_asm) (by k_asm) (by k_asm) ?uN19 (by k_asm) (by first | exact rfl | assumption) ?uC19 ?uD19 ?uU19 ?uR19
    case uN19 => exact news_sub (news' := mst w.params psv np' p tp nL a b c d ln tn tw lp dm fS Lat ((I, oI) :: rest1)) N11 (by unfold mst; (((try simp only [List.cons_append, List.nil_append]); (repeat' (first | exact List.forall_mem_nil _ | refine List.forall_mem_cons.mpr ⟨?_, ?_⟩)) <;> (first | k_mem | (intro _ _; k_mem)))))
    case uC19 => exact (says_push w x mach dm lp fS Lat _ M2 psv _ np' p tp nL a b c d ln tn tw (by omega)).at
    case uD19 => ktr_room
    case uU19 => ktr_units
    rintro vZ h11 tk11 nZ hJz
    refine gz2 vZ nZ ?_
    intro Gz hGz
    obtain ⟨rfl, rfl⟩ := hJz
    refine hGz _ _ ?_
    clear hGz Gz
    rintro F11 N12
    dsimp only
    (repeat' (first | ((( (fail_if_success with_reducible first | refine st0 ?_ | refine st1 ?_ | refine st2 ?_ | refine st3 ?_))); (fail_if_success with_reducible first | refine st4 ?_ | refine st5 ?_ | refine st7 ?_ | refine st6 ?_ | refine st8 ?_ | refine st9 ?_); (first | ((with_reducible show wpAny _ _ (call (Value.builtin "list.append") _) _ _ _); ((k_here; k_dflt (refine' my_append (by k_asm) (by k_asm) (by k_upd) (by (((try walk_at "my clear"); first | omega | (simp only [List.length_append, List.length_cons, List.length_nil]; omega)))) ?_;  k_whole); intro _ _ _; (try dsimp only); (try k_sweep)))) | ((with_reducible show wpAny _ _ (call (Value.builtin "list.append") _) _ _ _); ((k_here; k_dflt (refine' my_append (by k_asm) (by k_asm) (by k_upd) (by first | omega | (simp only [List.length_cons, List.length_nil, List.length_append]; omega)) ?_;  k_whole); intro _ _ _; (try dsimp only); (try k_sweep)))) | ((k_here; (with_reducible show wpAny _ _ (getMethod (Value.ref _) (Str.ofString "read") _) _ _ _); k_dflt (refine' my_fnget (by k_asm) (by k_mem) (by assumption) (by k_mem) (by assumption) (by exact if_pos rfl) (by assumption) (by assumption) (by (intro _ e; cases e)) ?_;  k_whole); intro _; dsimp only)) | ((k_here; (with_reducible show wpAny _ _ (getMethod (Value.ref 172) (Str.ofString "search") _) _ _ _); k_dflt (refine' get_172 (by k_asm) (by k_asm) ?_;  k_whole))) | ((k_here; (with_reducible show wpAny _ _ (getMethod (Value.ref 167) (Str.ofString "search") _) _ _ _); k_dflt (refine' get_167 (by k_asm) (by k_asm) ?_;  k_whole))) | ((k_here; (with_reducible show wpAny _ _ (getMethod (Value.ref _) (Str.ofString "pop") _) _ _ _); k_dflt (refine' my_get_pop (knd := PySem.intKind _ _) (by k_asm) (by k_mem) (by assumption) (by omega) ?_;  k_whole))) | ((k_here; (with_reducible show wpAny _ _ (callWith _ (Value.ref _) _ (backTo _ (starEach (_ :: _) _)) []) _ _ _); k_dflt (refine' callWith_F (by exact fnAt_of (by k_asm) (by k_mem) (by assumption)) ?_;  k_whole))) | (((with_reducible show FnAt _ _ ∧ _); refine ⟨by exact fnAt_of (by k_asm) (by k_mem) (by assumption), ?_⟩; try dsimp only [List.nil_append, List.cons_append])) | walk_at "mo"))))
    refine TurnP.intro (nx := mst w.params (psv ++ [.str (decS cw) _]) (np' + 1) p tp nL a b c d ln tn tw lp dm fS Lat rest1) (by k_asm) (by k_asm) (by unfold mst; (((try simp only [List.cons_append, List.nil_append]); (repeat' (first | exact List.forall_mem_nil _ | refine List.forall_mem_cons.mpr ⟨?_, ?_⟩)) <;> (first | k_mem | (intro _ _; k_mem))))) ?_ ⟨_, _, ?_, rfl, by ((repeat' (first | exact all_nil | refine all_cons rfl ?_)))⟩
    · intro q hq
      unfold mst at hq
      simp only [List.mem_cons] at hq
      rcases hq with rfl | rfl | rfl | hq
      · exact ho (lp, PySem.W.listOf psv.toArray np') (.head _)
      · exact ho (Lat, PySem.W.listOf #[.int (p : Nat) tp] nL) (.tail _ (.head _))
      · exact ho (dm, machD w.params a b c d ln tn fS tw lp) (.tail _ (.tail _ (.head _)))
      · exact ho q (.tail _ (.tail _ (.tail _ hq)))
    · rw [List.take_add_one, hd, List.map_append]
      exact strs_app hps (.cons _ _ .nil)
  · rintro m₁ nx h10 tk10 dr10 hJz
    refine gz1 nx ?_
    intro Gz hGz
    obtain ⟨psv, np', hps, rfl, hN⟩ := hJz
    refine hGz _ ?_
    clear hGz Gz
    rintro htk F10 N10
    obtain ⟨m9, F10⟩ := names_ex F10 [("machine", .ref mach), ("row", .ref l), ("doubts", .ref Dd)] hN
    rw [hyl, List.take_length] at hps
    dsimp only at htk
    (repeat' (first | ((( (fail_if_success with_reducible first | refine st0 ?_ | refine st1 ?_ | refine st2 ?_ | refine st3 ?_))); (fail_if_success with_reducible first | refine st4 ?_ | refine st5 ?_ | refine st7 ?_ | refine st6 ?_ | refine st8 ?_ | refine st9 ?_); (first | ((with_reducible show wpAny _ _ (call (Value.builtin "list.append") _) _ _ _); ((k_here; k_dflt (refine' my_append (by k_asm) (by k_asm) (by k_upd) (by (((try walk_at "my clear"); first | omega | (simp only [List.length_append, List.length_cons, List.length_nil]; omega)))) ?_;  k_whole); intro _ _ _; (try dsimp only); (try k_sweep)))) | ((with_reducible show wpAny _ _ (call (Value.builtin "list.append") _) _ _ _); ((k_here; k_dflt (refine' my_append (by k_asm) (by k_asm) (by k_upd) (by first | omega | (simp only [List.length_cons, List.length_nil, List.length_append]; omega)) ?_;  k_whole); intro _ _ _; (try dsimp only); (try k_sweep)))) | ((k_here; (with_reducible show wpAny _ _ (getMethod (Value.ref _) (Str.ofString "read") _) _ _ _); k_dflt (refine' my_fnget (by k_asm) (by k_mem) (by assumption) (by k_mem) (by assumption) (by exact if_pos rfl) (by assumption) (by assumption) (by (intro _ e; cases e)) ?_;  k_whole); intro _; dsimp only)) | ((k_here; (with_reducible show wpAny _ _ (getMethod (Value.ref 172) (Str.ofString "search") _) _ _ _); k_dflt (refine' get_172 (by k_asm) (by k_asm) ?_;  k_whole))) | ((k_here; (with_reducible show wpAny _ _ (getMethod (Value.ref 167) (Str.ofString "search") _) _ _ _); k_dflt (refine' get_167 (by k_asm) (by k_asm) ?_;  k_whole))) | ((k_here; (with_reducible show wpAny _ _ (getMethod (Value.ref _) (Str.ofString "pop") _) _ _ _); k_dflt (refine' my_get_pop (knd := PySem.intKind _ _) (by k_asm) (by k_mem) (by assumption) (by omega) ?_;  k_whole))) | ((k_here; (with_reducible show wpAny _ _ (callWith _ (Value.ref _) _ (backTo _ (starEach (_ :: _) _)) []) _ _ _); k_dflt (refine' callWith_F (by exact fnAt_of (by k_asm) (by k_mem) (by assumption)) ?_;  k_whole))) | (((with_reducible show FnAt _ _ ∧ _); refine ⟨by exact fnAt_of (by k_asm) (by k_mem) (by assumption), ?_⟩; try dsimp only [List.nil_append, List.cons_append])) | walk_at "mo"))))
    (rename Fr _ _ _ _ => F4)
    (rename News _ _ _ _ => N4)
    rename_i Di _ _ _ lDi _
    have hDi : ∀ q ∈ mst w.params psv np' p tp nL a b c d ln tn tw lp dm fS Lat rest1, q.1 < Di := lDi
    ((k_here; (with_unfolding_all refine' For_T ?_); k_whole))
    (repeat' (first | ((( (fail_if_success with_reducible first | refine st0 ?_ | refine st1 ?_ | refine st2 ?_ | refine st3 ?_))); (fail_if_success with_reducible first | refine st4 ?_ | refine st5 ?_ | refine st7 ?_ | refine st6 ?_ | refine st8 ?_ | refine st9 ?_); (first | ((with_reducible show wpAny _ _ (call (Value.builtin "list.append") _) _ _ _); ((k_here; k_dflt (refine' my_append (by k_asm) (by k_asm) (by k_upd) (by (((try walk_at "my clear"); first | omega | (simp only [List.length_append, List.length_cons, List.length_nil]; omega)))) ?_;  k_whole); intro _ _ _; (try dsimp only); (try k_sweep)))) | ((with_reducible show wpAny _ _ (call (Value.builtin "list.append") _) _ _ _); ((k_here; k_dflt (refine' my_append (by k_asm) (by k_asm) (by k_upd) (by first | omega | (simp only [List.length_cons, List.length_nil, List.length_append]; omega)) ?_;  k_whole); intro _ _ _; (try dsimp only); (try k_sweep)))) | ((k_here; (with_reducible show wpAny _ _ (getMethod (Value.ref _) (Str.ofString "read") _) _ _ _); k_dflt (refine' my_fnget (by k_asm) (by k_mem) (by assumption) (by k_mem) (by assumption) (by exact if_pos rfl) (by assumption) (by assumption) (by (intro _ e; cases e)) ?_;  k_whole); intro _; dsimp only)) | ((k_here; (with_reducible show wpAny _ _ (getMethod (Value.ref 172) (Str.ofString "search") _) _ _ _); k_dflt (refine' get_172 (by k_asm) (by k_asm) ?_;  k_whole))) | ((k_here; (with_reducible show wpAny _ _ (getMethod (Value.ref 167) (Str.ofString "search") _) _ _ _); k_dflt (refine' get_167 (by k_asm) (by k_asm) ?_;  k_whole))) | ((k_here; (with_reducible show wpAny _ _ (getMethod (Value.ref _) (Str.ofString "pop") _) _ _ _); k_dflt (refine' my_get_pop (knd := PySem.intKind _ _) (by k_asm) (by k_mem) (by assumption) (by omega) ?_;  k_whole))) | ((k_here; (with_reducible show wpAny _ _ (callWith _ (Value.ref _) _ (backTo _ (starEach (_ :: _) _)) []) _ _ _); k_dflt (refine' callWith_F (by exact fnAt_of (by k_asm) (by k_mem) (by assumption)) ?_;  k_whole))) | (((with_reducible show FnAt _ _ ∧ _); refine ⟨by exact fnAt_of (by k_asm) (by k_mem) (by assumption), ?_⟩; try dsimp only [List.nil_append, List.cons_append])) | walk_at "mo"))))
    (rename Fr _ _ _ _ => F5)
    refine loopLP (l := Dd) (vs := ys) (nn := ny) (fun i m nx => (Xx4 fun (psv : List Value) (np' : Nat) (zs : List Value) (nz : Nat) => Aa4 (StrsAre psv ((ds.drop i).map fun q => decS q.1)) (IntsAre zs ((ds.take i).filterMap fun q => if pieces ns q.1 > q.2 then some q.1 else none)) (nx = (Di, PySem.W.listOf zs.toArray nz) :: mst w.params psv np' p tp nL a b c d ln tn tw lp dm fS Lat rest1) (HasN m [("machine", .ref mach), ("row", .ref l), ("doubts", .ref Dd), ("ill", .ref Di)]))) ?_ ?_ F5 N4 ?_ ?_ ?_ ?_
    · exact (by rfl)
    · rintro i m nx hJz
      refine gz1 nx ?_
      intro Gz hGz
      obtain ⟨psv, np', zs, nz, _, _, rfl, _⟩ := hJz
      refine hGz _ ?_
      clear hGz Gz
      exact .tail _ (.tail _ (.tail _ (.tail _ mD)))
    · exact ⟨psv, np', [], 0, hps, .nil, rfl, by ((repeat' (first | exact all_nil | refine all_cons rfl ?_)))⟩
    · intro i v I h tk dr Q hv hit hQ
      refine gz0 fun Gz hGz => ?_
      obtain ⟨aa, cw, cm, t1, t2, rfl, hmem, hd⟩ := hda.get i v hv
      refine hGz ?_
      clear hGz Gz
      exact wpAny_letOwnedTupleGo_listiter hit hQ
    · rintro i v m₁ nx h11 tk11 dr11 I oI hv hJz
      refine gz1 nx ?_
      intro Gz hGz
      obtain ⟨psv, np', zs, nz, hps, hzs, rfl, hN⟩ := hJz
      refine hGz _ ?_
      clear hGz Gz
      rintro ho htk2 F11 N11
      refine gz0 fun Gz hGz => ?_
      obtain ⟨aa, cw, cm, t1, t2, rfl, hmem, hd⟩ := hda.get i v hv
      refine hGz ?_
      clear hGz Gz
      obtain ⟨m9, F11⟩ := names_ex F11 [("machine", .ref mach), ("row", .ref l), ("doubts", .ref Dd), ("ill", .ref Di)] hN
      have hmem1 := mT _ hmem
      have hcb := hdb _ (List.mem_of_getElem? hd)
      dsimp only at hcb htk2
      have hinst := M1.inst
      have hil : i < ds.length := (List.getElem?_eq_some_iff.mp hd).1
      have hdrop : ds.drop i = (cw, cm) :: ds.drop (i + 1) := by
        rw [List.drop_eq_getElem_cons hil]
        congr 1
        rw [List.getElem?_eq_getElem hil] at hd
        exact Option.some.inj hd
      rw [hdrop, List.map_cons] at hps
      obtain ⟨ts, psv', rfl, hps'⟩ : (Xx2 fun ts psv' => psv = .str (decS cw) ts :: psv' ∧ StrsAre psv' ((ds.drop (i + 1)).map fun q => decS q.1)) := by
        cases hps with
        | cons _ ts h => exact ⟨ts, _, rfl, h⟩
      unfold mst at N11
      have hoI : ∀ (psv3 : List Value) (np3 : Nat) (zs3 : List Value) (nz3 : Nat), ∀ q ∈ (Di, PySem.W.listOf zs3.toArray nz3) :: mst w.params psv3 np3 p tp nL a b c d ln tn tw lp dm fS Lat rest1, q.1 ≠ I := by
        intro psv3 np3 zs3 nz3 q hq
        unfold mst at hq
        simp only [List.mem_cons] at hq
        rcases hq with rfl | rfl | rfl | rfl | hq
        · exact ho (Di, PySem.W.listOf zs.toArray nz) (.head _)
        · exact ho (lp, PySem.W.listOf (Value.str (decS cw) ts :: psv').toArray np') (.tail _ (.head _))
        · exact ho (Lat, PySem.W.listOf #[.int (p : Nat) tp] nL) (.tail _ (.tail _ (.head _)))
        · exact ho (dm, machD w.params a b c d ln tn fS tw lp) (.tail _ (.tail _ (.tail _ (.head _))))
        · exact ho q (.tail _ (.tail _ (.tail _ (.tail _ hq))))
      have hpl := strs_len hps'
      rw [List.length_map, List.length_drop] at hpl
      have hzl : zs.length ≤ ds.length := by
        rw [hzs.length]
        exact Nat.le_trans (List.length_filterMap_le _ _) (by rw [List.length_take]; omega)
      (repeat' (first | ((( (fail_if_success with_reducible first | refine st0 ?_ | refine st1 ?_ | refine st2 ?_ | refine st3 ?_))); (fail_if_success with_reducible first | refine st4 ?_ | refine st5 ?_ | refine st7 ?_ | refine st6 ?_ | refine st8 ?_ | refine st9 ?_); (first | ((with_reducible show wpAny _ _ (call (Value.builtin "list.append") _) _ _ _); ((k_here; k_dflt (refine' my_append (by k_asm) (by k_asm) (by k_upd) (by (((try walk_at "my clear"); first | omega | (simp only [List.length_append, List.length_cons, List.length_nil]; omega)))) ?_;  k_whole); intro _ _ _; (try dsimp only); (try k_sweep)))) | ((with_reducible show wpAny _ _ (call (Value.builtin "list.append") _) _ _ _); ((k_here; k_dflt (refine' my_append (by k_asm) (by k_asm) (by k_upd) (by first | omega | (simp only [List.length_cons, List.length_nil, List.length_append]; omega)) ?_;  k_whole); intro _ _ _; (try dsimp only); (try k_sweep)))) | ((k_here; (with_reducible show wpAny _ _ (getMethod (Value.ref _) (Str.ofString "read") _) _ _ _); k_dflt (refine' my_fnget (by k_asm) (by k_mem) (by assumption) (by k_mem) (by assumption) (by exact if_pos rfl) (by assumption) (by assumption) (by (intro _ e; cases e)) ?_;  k_whole); intro _; dsimp only)) | ((k_here; (with_reducible show wpAny _ _ (getMethod (Value.ref 172) (Str.ofString "search") _) _ _ _); k_dflt (refine' get_172 (by k_asm) (by k_asm) ?_;  k_whole))) | ((k_here; (with_reducible show wpAny _ _ (getMethod (Value.ref 167) (Str.ofString "search") _) _ _ _); k_dflt (refine' get_167 (by k_asm) (by k_asm) ?_;  k_whole))) | ((k_here; (with_reducible show wpAny _ _ (getMethod (Value.ref _) (Str.ofString "pop") _) _ _ _); k_dflt (refine' my_get_pop (knd := PySem.intKind _ _) (by k_asm) (by k_mem) (by assumption) (by omega) ?_;  k_whole))) | ((k_here; (with_reducible show wpAny _ _ (callWith _ (Value.ref _) _ (backTo _ (starEach (_ :: _) _)) []) _ _ _); k_dflt (refine' callWith_F (by exact fnAt_of (by k_asm) (by k_mem) (by assumption)) ?_;  k_whole))) | (((with_reducible show FnAt _ _ ∧ _); refine ⟨by exact fnAt_of (by k_asm) (by k_mem) (by assumption), ?_⟩; try dsimp only [List.nil_append, List.cons_append])) | walk_at "mo"))))
      (rename News _ _ _ _ => N12)
      have eI := ho (lp, PySem.W.listOf (Value.str (decS cw) ts :: psv').toArray np') (.tail _ (.head _))
      have eI2 := ho (Lat, PySem.W.listOf #[.int (p : Nat) tp] nL) (.tail _ (.tail _ (.head _)))
      have eI3 := ho (dm, machD w.params a b c d ln tn fS tw lp) (.tail _ (.tail _ (.tail _ (.head _))))
      have M3 : Mach w x mach dm lp fS Lat ((Di, PySem.W.listOf zs.toArray nz) :: (I, oI) :: rest1) :=
        (M1.cons (I, oI) (Ne.symm eI) (Ne.symm eI2) (Ne.symm eI3)).cons (Di, PySem.W.listOf zs.toArray nz) (Ne.symm (Nat.ne_of_lt (hDi (lp, _) (.head _)))) (Ne.symm (Nat.ne_of_lt (hDi (Lat, _) (.tail _ (.head _))))) (Ne.symm (Nat.ne_of_lt (hDi (dm, _) (.tail _ (.tail _ (.head _))))))
      dsimp only [List.append_nil]
      refine' use_saysPA (by k_asm) (by k_asm) (by k_asm) ?uN20 (by k_asm) (by first | exact rfl | assumption) ?uC20 ?uD20 ?uU20 ?uP20 ?uR20
      case uN20 => exact news_sub (news' := mst w.params (.str (decS cw) ts :: psv') np' p tp nL a b c d ln tn tw lp dm fS Lat ((Di, PySem.W.listOf zs.toArray nz) :: (I, oI) :: rest1)) N12 (by unfold mst; (((try simp only [List.cons_append, List.nil_append]); (repeat' (first | exact List.forall_mem_nil _ | refine List.forall_mem_cons.mpr ⟨?_, ?_⟩)) <;> (first | k_mem | (intro _ _; k_mem)))))
      case uC20 => exact (says_tokP w x mach dm lp fS Lat _ M3 psv' _ np' p tp nL a b c d ln tn tw (by omega)).pa
      case uD20 => ktr_room
      case uU20 => ktr_units
      case uP20 => dsimp only; omega
      rintro vZ h13 tk13 dr13 nZ hJz
      refine gz2 vZ nZ ?_
      intro Gz hGz
      obtain ⟨rfl, np2, rfl⟩ := hJz
      refine hGz _ _ ?_
      clear hGz Gz
      rintro ht13 F13 N13
      dsimp only at ht13
      dsimp only
      (repeat' (first | ((( (fail_if_success with_reducible first | refine st0 ?_ | refine st1 ?_ | refine st2 ?_ | refine st3 ?_))); (fail_if_success with_reducible first | refine st4 ?_ | refine st5 ?_ | refine st7 ?_ | refine st6 ?_ | refine st8 ?_ | refine st9 ?_); (first | ((with_reducible show wpAny _ _ (call (Value.builtin "list.append") _) _ _ _); ((k_here; k_dflt (refine' my_append (by k_asm) (by k_asm) (by k_upd) (by (((try walk_at "my clear"); first | omega | (simp only [List.length_append, List.length_cons, List.length_nil]; omega)))) ?_;  k_whole); intro _ _ _; (try dsimp only); (try k_sweep)))) | ((with_reducible show wpAny _ _ (call (Value.builtin "list.append") _) _ _ _); ((k_here; k_dflt (refine' my_append (by k_asm) (by k_asm) (by k_upd) (by first | omega | (simp only [List.length_cons, List.length_nil, List.length_append]; omega)) ?_;  k_whole); intro _ _ _; (try dsimp only); (try k_sweep)))) | ((k_here; (with_reducible show wpAny _ _ (getMethod (Value.ref _) (Str.ofString "read") _) _ _ _); k_dflt (refine' my_fnget (by k_asm) (by k_mem) (by assumption) (by k_mem) (by assumption) (by exact if_pos rfl) (by assumption) (by assumption) (by (intro _ e; cases e)) ?_;  k_whole); intro _; dsimp only)) | ((k_here; (with_reducible show wpAny _ _ (getMethod (Value.ref 172) (Str.ofString "search") _) _ _ _); k_dflt (refine' get_172 (by k_asm) (by k_asm) ?_;  k_whole))) | ((k_here; (with_reducible show wpAny _ _ (getMethod (Value.ref 167) (Str.ofString "search") _) _ _ _); k_dflt (refine' get_167 (by k_asm) (by k_asm) ?_;  k_whole))) | ((k_here; (with_reducible show wpAny _ _ (getMethod (Value.ref _) (Str.ofString "pop") _) _ _ _); k_dflt (refine' my_get_pop (knd := PySem.intKind _ _) (by k_asm) (by k_mem) (by assumption) (by omega) ?_;  k_whole))) | ((k_here; (with_reducible show wpAny _ _ (callWith _ (Value.ref _) _ (backTo _ (starEach (_ :: _) _)) []) _ _ _); k_dflt (refine' callWith_F (by exact fnAt_of (by k_asm) (by k_mem) (by assumption)) ?_;  k_whole))) | (((with_reducible show FnAt _ _ ∧ _); refine ⟨by exact fnAt_of (by k_asm) (by k_mem) (by assumption), ?_⟩; try dsimp only [List.nil_append, List.cons_append])) | walk_at "mo"))))
      refine' use_saysP (by k_asm) (by k_asm) (by k_asm) ?uN21 (by k_asm) (by first | exact rfl | assumption) ?uC21 ?uD21 ?uU21 (by dsimp only; omega) ?uR21
      case uN21 => exact news_sub (news' := T48 ++ mst w.params psv' np2 p tp nL a b c d ln tn tw lp dm fS Lat ((Di, PySem.W.listOf zs.toArray nz) :: (I, oI) :: rest1)) N13 (fun q hq => (List.mem_append.mp hq).elim (fun hq => .tail _ (.tail _ (.tail _ (.tail _ (.tail _ (mR q (h48 q hq))))))) id)
      case uC21 => exact says_ifs (decS cw) (decS cw) ts cw T48 _ (short_dec hcb.1 hcb.2) (bare_dec hcb.1 hcb.2) (Nat.le_trans (short_dec hcb.1 hcb.2) (by decide)) (KIN.num_reads hcb.1 (by omega)) (.inr hw48)
      case uD21 => ktr_room
      case uU21 => ktr_units
      rintro vZ h14 tk14 dr14 nZ hJz
      refine gz2 vZ nZ ?_
      intro Gz hGz
      obtain ⟨ta, tl', rfl, rfl, _, hwarm, _⟩ := hJz
      refine hGz _ _ ?_
      clear hGz Gz
      rintro ht14 F14 N14
      have hwt := hwarm hw48
      subst hwt
      dsimp only at ht14
      have N15 := news_sub (news' := mst w.params psv' np2 p tp nL a b c d ln tn tw lp dm fS Lat ((Di, PySem.W.listOf zs.toArray nz) :: (I, oI) :: rest1)) N14 (fun q hq => List.mem_append_right _ hq)
      clear N14
      dsimp only
      (repeat' (first | ((( (fail_if_success with_reducible first | refine st0 ?_ | refine st1 ?_ | refine st2 ?_ | refine st3 ?_))); (fail_if_success with_reducible first | refine st4 ?_ | refine st5 ?_ | refine st7 ?_ | refine st6 ?_ | refine st8 ?_ | refine st9 ?_); (first | ((with_reducible show wpAny _ _ (call (Value.builtin "list.append") _) _ _ _); ((k_here; k_dflt (refine' my_append (by k_asm) (by k_asm) (by k_upd) (by (((try walk_at "my clear"); first | omega | (simp only [List.length_append, List.length_cons, List.length_nil]; omega)))) ?_;  k_whole); intro _ _ _; (try dsimp only); (try k_sweep)))) | ((with_reducible show wpAny _ _ (call (Value.builtin "list.append") _) _ _ _); ((k_here; k_dflt (refine' my_append (by k_asm) (by k_asm) (by k_upd) (by first | omega | (simp only [List.length_cons, List.length_nil, List.length_append]; omega)) ?_;  k_whole); intro _ _ _; (try dsimp only); (try k_sweep)))) | ((k_here; (with_reducible show wpAny _ _ (getMethod (Value.ref _) (Str.ofString "read") _) _ _ _); k_dflt (refine' my_fnget (by k_asm) (by k_mem) (by assumption) (by k_mem) (by assumption) (by exact if_pos rfl) (by assumption) (by assumption) (by (intro _ e; cases e)) ?_;  k_whole); intro _; dsimp only)) | ((k_here; (with_reducible show wpAny _ _ (getMethod (Value.ref 172) (Str.ofString "search") _) _ _ _); k_dflt (refine' get_172 (by k_asm) (by k_asm) ?_;  k_whole))) | ((k_here; (with_reducible show wpAny _ _ (getMethod (Value.ref 167) (Str.ofString "search") _) _ _ _); k_dflt (refine' get_167 (by k_asm) (by k_asm) ?_;  k_whole))) | ((k_here; (with_reducible show wpAny _ _ (getMethod (Value.ref _) (Str.ofString "pop") _) _ _ _); k_dflt (refine' my_get_pop (knd := PySem.intKind _ _) (by k_asm) (by k_mem) (by assumption) (by omega) ?_;  k_whole))) | ((k_here; (with_reducible show wpAny _ _ (callWith _ (Value.ref _) _ (backTo _ (starEach (_ :: _) _)) []) _ _ _); k_dflt (refine' callWith_F (by exact fnAt_of (by k_asm) (by k_mem) (by assumption)) ?_;  k_whole))) | (((with_reducible show FnAt _ _ ∧ _); refine ⟨by exact fnAt_of (by k_asm) (by k_mem) (by assumption), ?_⟩; try dsimp only [List.nil_append, List.cons_append])) | walk_at "mo"))))
      refine' use_says (by k_asm) (by k_asm) (by k_asm) ?uN22 (by k_asm) (by first | exact rfl | assumption) ?uC22 ?uD22 ?uU22 ?uR22
      case uN22 => k_asm
      case uC22 => exact says_pieces l vs n ns cw ta _ (.tail _ (.tail _ (.tail _ (.tail _ (.tail _ (mR _ hm)))))) hi hr (by omega) (hW.mono fun q hq => .tail _ (.tail _ (.tail _ (.tail _ (.tail _ (mR _ hq))))))
      case uD22 => ktr_room
      case uU22 => ktr_units
      rintro vZ h16 tk16 nZ hJz
      refine gz2 vZ nZ ?_
      intro Gz hGz
      obtain ⟨rfl, tq, rfl⟩ := hJz
      refine hGz _ _ ?_
      clear hGz Gz
      rintro F16 N16
      dsimp only
      unfold mst at N16
      have k1 : @Ne Nat lp Di := Nat.ne_of_lt (hDi (lp, _) (.head _))
      have k2 : @Ne Nat Lat Di := Nat.ne_of_lt (hDi (Lat, _) (.tail _ (.head _)))
      have k3 : @Ne Nat dm Di := Nat.ne_of_lt (hDi (dm, _) (.tail _ (.tail _ (.head _))))
      have k4 : @Ne Nat I Di := Ne.symm (ho (Di, PySem.W.listOf zs.toArray nz) (.head _))
      have k5 : ∀ q ∈ rest1, q.1 ≠ Di := fun q hq => Nat.ne_of_lt (hDi q (.tail _ (.tail _ (.tail _ hq))))
      (repeat' (first | ((( (fail_if_success with_reducible first | refine st0 ?_ | refine st1 ?_ | refine st2 ?_ | refine st3 ?_))); (fail_if_success with_reducible first | refine st4 ?_ | refine st5 ?_ | refine st7 ?_ | refine st6 ?_ | refine st8 ?_ | refine st9 ?_); (first | ((with_reducible show wpAny _ _ (call (Value.builtin "list.append") _) _ _ _); ((k_here; k_dflt (refine' my_append (by k_asm) (by k_asm) (by k_upd) (by (((try walk_at "my clear"); first | omega | (simp only [List.length_append, List.length_cons, List.length_nil]; omega)))) ?_;  k_whole); intro _ _ _; (try dsimp only); (try k_sweep)))) | ((with_reducible show wpAny _ _ (call (Value.builtin "list.append") _) _ _ _); ((k_here; k_dflt (refine' my_append (by k_asm) (by k_asm) (by k_upd) (by first | omega | (simp only [List.length_cons, List.length_nil, List.length_append]; omega)) ?_;  k_whole); intro _ _ _; (try dsimp only); (try k_sweep)))) | ((k_here; (with_reducible show wpAny _ _ (getMethod (Value.ref _) (Str.ofString "read") _) _ _ _); k_dflt (refine' my_fnget (by k_asm) (by k_mem) (by assumption) (by k_mem) (by assumption) (by exact if_pos rfl) (by assumption) (by assumption) (by (intro _ e; cases e)) ?_;  k_whole); intro _; dsimp only)) | ((k_here; (with_reducible show wpAny _ _ (getMethod (Value.ref 172) (Str.ofString "search") _) _ _ _); k_dflt (refine' get_172 (by k_asm) (by k_asm) ?_;  k_whole))) | ((k_here; (with_reducible show wpAny _ _ (getMethod (Value.ref 167) (Str.ofString "search") _) _ _ _); k_dflt (refine' get_167 (by k_asm) (by k_asm) ?_;  k_whole))) | ((k_here; (with_reducible show wpAny _ _ (getMethod (Value.ref _) (Str.ofString "pop") _) _ _ _); k_dflt (refine' my_get_pop (knd := PySem.intKind _ _) (by k_asm) (by k_mem) (by assumption) (by omega) ?_;  k_whole))) | ((k_here; (with_reducible show wpAny _ _ (callWith _ (Value.ref _) _ (backTo _ (starEach (_ :: _) _)) []) _ _ _); k_dflt (refine' callWith_F (by exact fnAt_of (by k_asm) (by k_mem) (by assumption)) ?_;  k_whole))) | (((with_reducible show FnAt _ _ ∧ _); refine ⟨by exact fnAt_of (by k_asm) (by k_mem) (by assumption), ?_⟩; try dsimp only [List.nil_append, List.cons_append])) | walk_at "mo"))))
      · refine TurnP.intro (nx := (Di, PySem.W.listOf (zs ++ [Value.int cw ta]).toArray (nz + 1)) :: mst w.params psv' np2 p tp nL a b c d ln tn tw lp dm fS Lat rest1) (by k_asm) (by k_asm) (by unfold mst; (((try simp only [List.cons_append, List.nil_append]); (repeat' (first | exact List.forall_mem_nil _ | refine List.forall_mem_cons.mpr ⟨?_, ?_⟩)) <;> (first | k_mem | (intro _ _; k_mem))))) ?_ ⟨psv', np2, zs ++ [Value.int cw ta], nz + 1, hps', ?_, rfl, by ((repeat' (first | exact all_nil | refine all_cons rfl ?_)))⟩
        · exact hoI _ _ _ _
        · rw [List.take_add_one, hd, List.filterMap_append]
          simp only [Option.toList_some, List.filterMap_cons, List.filterMap_nil]
          rw [if_pos (show pieces ns cw > cm by omega)]
          exact IntsAre.append hzs (.cons _ _ .nil)
      · refine TurnP.intro (nx := (Di, PySem.W.listOf zs.toArray nz) :: mst w.params psv' np2 p tp nL a b c d ln tn tw lp dm fS Lat rest1) (by k_asm) (by k_asm) (by unfold mst; (((try simp only [List.cons_append, List.nil_append]); (repeat' (first | exact List.forall_mem_nil _ | refine List.forall_mem_cons.mpr ⟨?_, ?_⟩)) <;> (first | k_mem | (intro _ _; k_mem))))) ?_ ⟨psv', np2, zs, nz, hps', ?_, rfl, by ((repeat' (first | exact all_nil | refine all_cons rfl ?_)))⟩
        · exact hoI _ _ _ _
        · rw [List.take_add_one, hd, List.filterMap_append]
          simp only [Option.toList_some, List.filterMap_cons, List.filterMap_nil]
          rw [if_neg (by omega), List.append_nil]
          exact hzs
    · rintro m₁ nx h11 tk11 dr11 hJz
      refine gz1 nx ?_
      intro Gz hGz
      obtain ⟨psv, np', zs, nz, hps, hzs, rfl, hN⟩ := hJz
      refine hGz _ ?_
      clear hGz Gz
      rintro htk2 F11 N11
      obtain ⟨m9, F11⟩ := names_ex F11 [("machine", .ref mach), ("row", .ref l), ("doubts", .ref Dd), ("ill", .ref Di)] hN
      rw [hyl, List.take_length] at hzs
      rw [hyl, List.drop_length] at hps
      cases hps
      (repeat' (first | ((( (fail_if_success with_reducible first | refine st0 ?_ | refine st1 ?_ | refine st2 ?_ | refine st3 ?_))); (fail_if_success with_reducible first | refine st4 ?_ | refine st5 ?_ | refine st7 ?_ | refine st6 ?_ | refine st8 ?_ | refine st9 ?_); (first | ((with_reducible show wpAny _ _ (call (Value.builtin "list.append") _) _ _ _); ((k_here; k_dflt (refine' my_append (by k_asm) (by k_asm) (by k_upd) (by (((try walk_at "my clear"); first | omega | (simp only [List.length_append, List.length_cons, List.length_nil]; omega)))) ?_;  k_whole); intro _ _ _; (try dsimp only); (try k_sweep)))) | ((with_reducible show wpAny _ _ (call (Value.builtin "list.append") _) _ _ _); ((k_here; k_dflt (refine' my_append (by k_asm) (by k_asm) (by k_upd) (by first | omega | (simp only [List.length_cons, List.length_nil, List.length_append]; omega)) ?_;  k_whole); intro _ _ _; (try dsimp only); (try k_sweep)))) | ((k_here; (with_reducible show wpAny _ _ (getMethod (Value.ref _) (Str.ofString "read") _) _ _ _); k_dflt (refine' my_fnget (by k_asm) (by k_mem) (by assumption) (by k_mem) (by assumption) (by exact if_pos rfl) (by assumption) (by assumption) (by (intro _ e; cases e)) ?_;  k_whole); intro _; dsimp only)) | ((k_here; (with_reducible show wpAny _ _ (getMethod (Value.ref 172) (Str.ofString "search") _) _ _ _); k_dflt (refine' get_172 (by k_asm) (by k_asm) ?_;  k_whole))) | ((k_here; (with_reducible show wpAny _ _ (getMethod (Value.ref 167) (Str.ofString "search") _) _ _ _); k_dflt (refine' get_167 (by k_asm) (by k_asm) ?_;  k_whole))) | ((k_here; (with_reducible show wpAny _ _ (getMethod (Value.ref _) (Str.ofString "pop") _) _ _ _); k_dflt (refine' my_get_pop (knd := PySem.intKind _ _) (by k_asm) (by k_mem) (by assumption) (by omega) ?_;  k_whole))) | ((k_here; (with_reducible show wpAny _ _ (callWith _ (Value.ref _) _ (backTo _ (starEach (_ :: _) _)) []) _ _ _); k_dflt (refine' callWith_F (by exact fnAt_of (by k_asm) (by k_mem) (by assumption)) ?_;  k_whole))) | (((with_reducible show FnAt _ _ ∧ _); refine ⟨by exact fnAt_of (by k_asm) (by k_mem) (by assumption), ?_⟩; try dsimp only [List.nil_append, List.cons_append])) | walk_at "mo"))))
      exact hret _ _ _ _ _ ⟨Di, zs, nz, np', rfl, by rw [illOf, ← hds]; exact hzs, rfl⟩ (by k_asm) (news_sub (by k_asm) (fun q hq => by
        unfold mst at hq ⊢
        simp only [List.mem_cons] at hq ⊢
        rcases hq with h | h | h | h | h
        · exact .inl h
        · exact .inr (.inl h)
        · exact .inr (.inr (.inl h))
        · exact .inr (.inr (.inr (.inl h)))
        · exact .inr (.inr (.inr (.inr (mR q h)))))) (by assumption)
end Mine
-- C38
namespace Mine
section
variable {prog : Program} {w : World} {A : Around} {E : Value → Shared → Prop} {s : Shared}
theorem nextOf_tup_item {it l : Addr} {i : Nat} {items} {x : Value} {Q : Value → Shared → Prop} (hit : s.heap.IsTupleIter it l i)
    (hl : s.heap.IsTuple l items) (hx : items[i]? = some x)
    (hQ : ∀ h', h'.IsTupleIter it l (i + 1) → Heap.SameBut it s.heap h' → Q x { s with heap := h' }) :
    wpAny (model prog w) A (Builtin.SmallTypes.nextOf (.ref it)) Q E s := by
  refine gz0 fun Gz hGz => ?_
  obtain ⟨o, ho, hc, hd⟩ := id hit
  refine hGz ?_
  clear hGz Gz
  refine gz0 fun Gz hGz => ?_
  obtain ⟨ol, hol, _, nl, hdl⟩ := hl
  refine hGz ?_
  clear hGz Gz
  unfold Builtin.SmallTypes.nextOf
  refine wpAny_bind (wpAny_callSpecial?_slot (name := Str.ofString "__next__") hit.typeIs F.slot_tuple_iterator_next
    (wpAny_call_entry F.slot_tuple_iterator_next hit.typeIs F.entry_tuple_iterator_next ?_ (F.args_tuple_iterator_next_1 _)))
  show wpAny _ _ (field (.ref it) 0 >>= _) _ _ s
  refine wpAny_bind (wpAny_field ho hd (x := .ref l) rfl ?_)
  show wpAny _ _ (if (Value.ref l == Value.none) = true then _ else _) _ _ s
  rw [if_neg (show ¬ ((Value.ref l == Value.none) = true) from Bool.false_ne_true)]
  show wpAny _ _ (field (.ref it) 1 >>= _) _ _ s
  refine wpAny_bind (wpAny_field ho hd (x := .int i 0) rfl ?_)
  show wpAny _ _ (seqItems? (.ref l) >>= _) _ _ s
  refine wpAny_bind (wpAny_seqItems hol hdl ?_)
  simp only [Int.toNat_natCast, hx]
  refine wpAny_bind (wpAny_setField ho hd (by simp) (wpAny_pure ⟨x, rfl, wpAny_pure (hQ _ ?_ (Heap.SameBut.update ..))⟩))
  exact ⟨_, Heap.get?_update_self _ ho (Obj.isFreed_of_fields (Obj.data_mapFields hd _)), (Obj.cls_mapFields ..).trans hc, by
    rw [Obj.data_mapFields hd]; simp [rawInt]⟩
theorem nextOf_tup_end {it l : Addr} {i : Nat} {items} {Q : Value → Shared → Prop} (hh : A.handled = none)
    (hit : s.heap.IsTupleIter it l i) (hl : s.heap.IsTuple l items) (hx : items[i]? = none)
    (hE : ∀ h' e, Heap.ExtBut it s.heap h' → (∃ o, h'.get? e = some o ∧ o.cls = .type "StopIteration") → E (.ref e) { s with heap := h' }) :
    wpAny (model prog w) A (Builtin.SmallTypes.nextOf (.ref it)) Q E s := by
  refine gz0 fun Gz hGz => ?_
  obtain ⟨o, ho, hc, hd⟩ := id hit
  refine hGz ?_
  clear hGz Gz
  refine gz0 fun Gz hGz => ?_
  obtain ⟨ol, hol, _, nl, hdl⟩ := hl
  refine hGz ?_
  clear hGz Gz
  unfold Builtin.SmallTypes.nextOf
  refine wpAny_bind (wpAny_callSpecial?_slot (name := Str.ofString "__next__") hit.typeIs F.slot_tuple_iterator_next
    (wpAny_call_entry F.slot_tuple_iterator_next hit.typeIs F.entry_tuple_iterator_next ?_ (F.args_tuple_iterator_next_1 _)))
  show wpAny _ _ (field (.ref it) 0 >>= _) _ _ s
  refine wpAny_bind (wpAny_field ho hd (x := .ref l) rfl ?_)
  show wpAny _ _ (if (Value.ref l == Value.none) = true then _ else _) _ _ s
  rw [if_neg (show ¬ ((Value.ref l == Value.none) = true) from Bool.false_ne_true)]
  show wpAny _ _ (field (.ref it) 1 >>= _) _ _ s
  refine wpAny_bind (wpAny_field ho hd (x := .int i 0) rfl ?_)
  show wpAny _ _ (seqItems? (.ref l) >>= _) _ _ s
  refine wpAny_bind (wpAny_seqItems hol hdl ?_)
  simp only [Int.toNat_natCast, hx]
  refine wpAny_bind (wpAny_rule (wpAny_bind (wpAny_setField ho hd (by simp) ?_)))
  show wpAny _ _ (newExc (.type "StopIteration") [] >>= _) _ _ _
  refine wpAny_bind ?_
  simp only [newExc, newTuple]
  refine wpAny_bind (wpAny_newObj_type ?_ (by size_fits))
  refine wpAny_bind (m := firstArgMember _ _) (wpAny_of_eq (a := Value.none) (by first | rfl | (simp only [firstArgMember]; rfl)) ?_)
  refine wpAny_newObj_type ?_ (by size_fits)
  simp only [raiseNew]
  refine wpAny_bind (wpAny_handled ?_)
  first | rw [show A.in1.handled = none from hh] | rw [hh]
  refine wpAny_bind (wpAny_pure (wpAny_throw ?_))
  exact hE _ _ (((Heap.SameBut.update ..).extBut.push _).push _) ⟨_, Heap.get?_push_size _ rfl, rfl⟩
end
theorem tup_at {h h' : Heap} {a : Addr} {items} (x : h.IsTuple a items) (k : ∀ o, h.get? a = some o → h'.get? a = some o) : h'.IsTuple a items := by
  obtain ⟨o, ho, r⟩ := x; exact ⟨o, k o ho, r⟩
theorem tupit_at {h h' : Heap} {a t : Addr} {i} (x : h.IsTupleIter a t i) (k : ∀ o, h.get? a = some o → h'.get? a = some o) : h'.IsTupleIter a t i := by
  obtain ⟨o, ho, r⟩ := x; exact ⟨o, k o ho, r⟩
theorem draws_tup {prog : Program} {w : World} {A : Around} (hh : A.handled = none) (it l : Addr) (hne : l ≠ it) (items : Array Value) :
    Draws prog w A it [it, l] items.size (fun i v => items[i]? = some v) (fun i h => h.IsTupleIter it l i ∧ h.IsTuple l items) where
  live := fun _ _ st => let ⟨o, ho, _⟩ := st.1; ⟨o, ho⟩
  frame := fun _ _ _ st hk => ⟨tupit_at st.1 fun o e => hk it (by simp) o e, tup_at st.2 fun o e => hk l (by simp) o e⟩
  item := fun i s Q E hi st hQ => by
    refine nextOf_tup_item st.1 st.2 (x := items[i]) (by simp [hi]) fun h' hit' hs' => ?_
    exact hQ _ h' s.toks (by simp [hi]) ⟨hit', st.2.extBut hs'.extBut hne⟩ hs'
  done := fun s Q E st hE => nextOf_tup_end hh st.1 st.2 (by simp) hE
theorem meets_enum_tup (l : Addr) (items : Array Value) (n : Nat) (dct : Option Addr) (sl : Array (Option Value)) :
    Meets (Builtin.«enumerate.__new__» ⟨[.type "enumerate", .ref l], []⟩) (fun _ R s => s.heap.get? l = some { cls := .type "tuple", dict := dct, data := .seq items n, slots := sl } ∧
      R (.ok (.ret (.ref (s.heap.push { cls := .type "tuple_iterator", data := .fields #[.ref l, .int 0 0] }).objs.size)))
        { s with heap := (s.heap.push { cls := .type "tuple_iterator", data := .fields #[.ref l, .int 0 0] }).push { cls := .type "enumerate", data := .fields #[.none, .bool false, .ref s.heap.objs.size, rawInt 0, .none, .none] } }) :=
  .of_wp fun prog w A R s h => by
    refine gz0 fun Gz hGz => ?_
    obtain ⟨hp, g, d, tk, os⟩ := s; obtain ⟨hl, h⟩ := h
    refine hGz ?_
    clear hGz Gz
    have hsub := sub_enumerate
    have hL : Heap.IsTuple (Shared.heap ⟨hp, g, d, tk, os⟩) l items := ⟨_, hl, rfl, n, rfl⟩
    wp_walk using AutoSeq1.wpAny_loadPart' hl
    refine wpAny_stack_any fun st => wpAny_pure ?_
    split
    · rename_i c _ _ _ _ _
      cases (c == Value.type "enumerate")
      · wp_walk using AutoSeq1.wpAny_loadPart' hl, wpAny_pyIter_tuple hL
        exact ⟨_, rfl, h⟩
      · wp_walk using AutoSeq1.wpAny_loadPart' hl, wpAny_pyIter_tuple hL
        exact ⟨_, rfl, h⟩
    · wp_walk using AutoSeq1.wpAny_loadPart' hl, wpAny_pyIter_tuple hL
      exact ⟨_, rfl, h⟩
theorem call_enum_tup {prog : Program} {w : World} {A : Around} {E : Value → Shared → Prop} {s : Shared} {l : Addr} {items : Array Value} {Q : Value → Shared → Prop} (hL : s.heap.IsTuple l items)
    (h : ∀ h', IsEnum h' (s.heap.objs.size + 1) s.heap.objs.size 0 .none → h'.IsTupleIter s.heap.objs.size l 0 → h'.objs.size = s.heap.objs.size + 2 →
      (∀ b o, s.heap.get? b = some o → h'.get? b = some o) → Q (.ref (s.heap.objs.size + 1)) { s with heap := h' }) :
    wpAny (model prog w) A (call (.type "enumerate") [.ref l]) Q E s := by
  refine gz0 fun Gz hGz => ?_
  obtain ⟨⟨c, dct, dt, sl⟩, hl, hc, n, hd⟩ := hL
  refine hGz ?_
  clear hGz Gz
  replace hc : c = .type "tuple" := hc
  replace hd : dt = .seq items n := hd
  subst hc hd
  refine callType_new F.called_enumerate (by decide) (F.typeCall_enumerate_1 _) (F.newCall_enumerate_1 _) (fun obj => F.args_object_init_2 obj _) F.entry_enumerate_new
    (meets_enum_tup l items n dct sl) ⟨hl, ?_⟩
  have hz : (s.heap.push { cls := .type "tuple_iterator", data := .fields #[.ref l, .int 0 0] }).objs.size = s.heap.objs.size + 1 := Heap.size_push ..
  show _ ∧ _
  rw [hz]
  have he : IsEnum ((s.heap.push { cls := .type "tuple_iterator", data := .fields #[.ref l, .int 0 0] }).push
      { cls := .type "enumerate", data := .fields #[.none, .bool false, .ref s.heap.objs.size, rawInt 0, .none, .none] }) (s.heap.objs.size + 1) s.heap.objs.size 0 .none := by
    have := Heap.get?_push_size (s.heap.push { cls := .type "tuple_iterator", data := .fields #[.ref l, .int 0 0] })
      (o := { cls := .type "enumerate", data := .fields #[.none, .bool false, .ref s.heap.objs.size, rawInt 0, .none, .none] }) rfl
    rw [hz] at this; exact this
  refine ⟨⟨_, he, rfl⟩, h _ he ⟨_, Heap.get?_push_of_some _ (Heap.get?_push_size _ rfl), rfl, rfl⟩ (by rw [Heap.size_push, hz]) fun b o x => Heap.get?_push_of_some _ (Heap.get?_push_of_some _ x)⟩
end Mine
-- C39
namespace Mine
open LCg
theorem fr_two {h₀ h h' : Heap} {L e it : Addr} {m : Str → Option Value} (F : Fr h₀ L h m) (hk : ∀ b o, b ≠ e → b ≠ it → h.get? b = some o → h'.get? b = some o) (heL : e ≠ L) (hiL : it ≠ L) (he : h₀.get? e = none) (hi : h₀.get? it = none) : Fr h₀ L h' m :=
  ⟨F.ns.at' fun o q => hk L o (Ne.symm heL) (Ne.symm hiL) q, fun b o q => hk b o (fun z => by rw [z, he] at q; cases q) (fun z => by rw [z, hi] at q; cases q) (F.keep b o q), F.above⟩
section
variable {prog : Program} {w : World} {A : Around} {E : Value → Shared → Prop} {s : Shared} {h₀ : Heap} {L : Addr} {m : Str → Option Value} {env : Env}
/-- what a comprehension over an enumerated tuple asks -/
noncomputable def EnumSrc (prog : Program) (w : World) (A : Around) (h₀ : Heap) (L : Addr) (m : Str → Option Value) (env : Env) (elt : Expr) (x x₂ : Str) (scope : Scope) (cl : List (Str × Addr)) (Q : Value → Shared → Prop) (xv : Value) (s₁ : Shared) : Prop :=
  (Xx7 fun (e it T : Addr) (its : Array Value) (fr : Led) (oT : Obj) (J : Nat → List Value → Prop) => Aa20 (xv = .ref e) (A.handled = none) (Fr h₀ L s₁.heap m) (News h₀ L s₁.heap ((T, oT) :: fr)) (oT.cls = .type "tuple") ((∃ k, oT.data = .seq its k)) (its.size ≤ sizeLine) (IsEnum s₁.heap e it 0 .none) (s₁.heap.IsTupleIter it T 0) (e ≠ it) (e ≠ T) (it ≠ T) (e ≠ L) (it ≠ L) (h₀.get? e = none) (h₀.get? it = none) ((∀ p ∈ fr, p.1 ≠ e ∧ p.1 ≠ it)) (J 0 []) ((∀ i ys v k, i < its.size → J i ys → its[i]? = some v → ∀ oe oit C oC D m₂ h tk (E' : Value → Shared → Prop), NsObj oC m₂ → m₂ x = some (.int (i : Int) k) → m₂ x₂ = some v → Fr h₀ L h m →
      News h₀ L h ((e, oe) :: (it, oit) :: (T, oT) :: (C, oC) :: (D, lst ys) :: fr) →
      wpAny (model prog w) A (eval elt (compEnvC scope cl C env)) (fun y s' => ∃ h' tk', s' = { s₁ with heap := h', toks := tk' } ∧ Fr h₀ L h' m ∧ News h₀ L h' ((e, oe) :: (it, oit) :: (T, oT) :: (C, oC) :: (D, lst ys) :: fr) ∧ J (i + 1) (ys ++ [y])) E' { s₁ with heap := h, toks := tk })) ((∀ D ys h tk, J its.size ys → Fr h₀ L h m → News h₀ L h ((D, lst ys) :: fr) → (∀ p ∈ fr, p.1 ≠ D) → Q (.ref D) { s₁ with heap := h, toks := tk })))
theorem comp_enum {elt iter : Expr} {x x₂ : Str} {px px₂ tp : Pos} {tk} {scope : Scope} {cl : List (Str × Addr)} {pos : Pos} {Q : Value → Shared → Prop} (F₀ : Fr h₀ L s.heap m)
    (hclos : closureFor scope env = pure cl) (hcell : ∀ y ∈ scope.names, y.2 ≠ .cell) (hkind : scope.kind = .function)
    (hnames : ∀ y ∈ scope.names, y.2 = .local → scope.names.lookup y.1 = some .local) (hx : scope.names.lookup x = some .local) (hx₂ : scope.names.lookup x₂ = some .local) (hxx : x ≠ x₂)
    (h : wpAny (model prog w) A (eval iter env) (EnumSrc prog w A h₀ L m env elt x x₂ scope cl Q) E s)
    (hs : ∀ x, foldedSetIterable iter env x = pure x := by intro _; rfl) :
    wpAny (model prog w) A (eval (.ListComp elt [⟨.Tuple [.Name x px, .Name x₂ px₂] tk tp, iter, [], 0⟩] scope pos) env) Q E s := by
  rw [eval_ListComp]
  refine wpAny_comprehension_free (use := none) rfl hs hclos hkind hnames (wpAny_mono h (fun xv s₂ h₁ => ?_) fun _ _ e => e)
  refine gz0 fun Gz hGz => ?_
  obtain ⟨e, it, T, its, fr, oT, J, rfl, hh, F, N, hTc, ⟨kT, hTd⟩, hsz, he, hit, hei, heT, hiT, heL, hiL, he₀, hi₀, offr, hJ, step, fin⟩ := h₁
  refine hGz ?_
  clear hGz Gz
  refine wpAny_pyIter_enum he ?_
  have hT : s₂.heap.get? T = some oT := (N (T, oT) (.head _)).1
  have hTL : T ≠ L := (N (T, oT) (.head _)).2.1
  have hT₀ : h₀.get? T = none := (N (T, oT) (.head _)).2.2
  refine wpAny_newObj_type (wpAny_newFunctionEnv hcell (by intro y hy; simp at hy) (fun h₁ hns₁ hsb₁ => ?_) hkind)
  dsimp only at hns₁ hsb₁ ⊢
  generalize hH2 : s₂.heap.push { cls := .type "list", dict := none, data := .seq ([] : List Value).toArray } = H2 at hns₁ hsb₁ ⊢
  have hC : H2.objs.size = s₂.heap.objs.size + 1 := by rw [← hH2, Heap.size_push]
  have hDC : s₂.heap.objs.size ≠ H2.objs.size := by rw [hC]; exact Nat.ne_of_lt (Nat.lt_succ_self _)
  have below : ∀ b, b < s₂.heap.objs.size → b ≠ H2.objs.size ∧ b ≠ s₂.heap.objs.size := fun b hb => ⟨by rw [hC]; exact Nat.ne_of_lt (Nat.lt_succ_of_lt hb), Nat.ne_of_lt hb⟩
  have old : ∀ b o, s₂.heap.get? b = some o → h₁.get? b = some o := fun b o e => hsb₁.extBut b o (below b (Heap.lt_size e)).1 (Heap.get?_push_of_some _ (hH2 ▸ Heap.get?_push_of_some _ e))
  have hacc : h₁.get? s₂.heap.objs.size = some (lst []) := hsb₁.extBut _ _ hDC (Heap.get?_push_of_some _ (hH2 ▸ Heap.get?_push_size _ rfl))
  have fresh : ∀ a, s₂.heap.objs.size ≤ a → s₂.heap.get? a = none := fun a ha => by
    cases e : s₂.heap.get? a with
    | none => rfl
    | some o' => exact absurd (Heap.lt_size e) (Nat.not_lt.mpr ha)
  have fresh₀ : ∀ a, s₂.heap.objs.size ≤ a → h₀.get? a = none := fun a ha => by
    cases e : h₀.get? a with
    | none => rfl
    | some o' => have := F.keep a o' e; rw [fresh a ha] at this; cases this
  have hD₀ : h₀.get? s₂.heap.objs.size = none := fresh₀ _ (Nat.le_refl _)
  have hC₀ : h₀.get? H2.objs.size = none := fresh₀ _ (by rw [hC]; exact Nat.le_succ _)
  have hLlt : L < s₂.heap.objs.size := F.ns.lt
  have hDL : s₂.heap.objs.size ≠ L := Ne.symm (below L hLlt).2
  have hCL : H2.objs.size ≠ L := Ne.symm (below L hLlt).1
  have heD := below e (Heap.lt_size he)
  have hiD := below it (by obtain ⟨o, ho, _⟩ := hit; exact Heap.lt_size ho)
  have hTD := below T (Heap.lt_size hT)
  have frD : ∀ p ∈ fr, p.1 ≠ H2.objs.size ∧ p.1 ≠ s₂.heap.objs.size := fun p hp => below _ (Heap.lt_size (N p (List.mem_cons_of_mem _ hp)).1)
  have W := WalksT.enumerateD (prog := prog) (w := w) (A := A) (draws_tup (A := A.in1) hh it T (Ne.symm hiT) its) e hei (by simp [hei, heT]) (by simp)
  generalize hD : s₂.heap.objs.size = D at *
  generalize hCC : H2.objs.size = C at *
  have hwr : ∀ b, b ≠ e → b ≠ it → b ∉ [e, it] := fun b h1 h2 q => by
    rcases List.mem_cons.mp q with q | q
    · exact h1 q
    · exact h2 (List.mem_singleton.mp q)
  have loop : ∀ s₃ : Shared, s₃ = { s₂ with heap := h₁, toks := s₂.toks + ([] : List (Str × Value)).length } →
      codeAny (model prog w) A (.compLoop (.ListComp elt [⟨.Tuple [.Name x px, .Name x₂ px₂] tk tp, iter, [], 0⟩] scope pos) 0 (.ref e) (.ref D) (compEnvC scope cl C env)) (compPost (model prog w) A E none Q (.ref D) C) s₃ := by
    rintro s₃ rfl
    refine LCp.codeAny_compLoop_pair
      (fun k s' => (Xx5 fun h' tk i ys m' => Aa9 (s' = { s₂ with heap := h', toks := tk }) (i ≤ its.size) (k = its.size + 1 - i) (ys.length = i) (((∃ old, IsEnum h' e it (i : Int) old) ∧ h'.IsTupleIter it T i ∧ h'.IsTuple T its)) (Fr h₀ L h' m) (h'.Ns C m') (News h₀ L h' ((T, oT) :: (D, lst ys) :: fr)) (J i ys))) ?_ (its.size + 1)
      ⟨h₁, _, 0, [], _, rfl, Nat.zero_le _, rfl, rfl, ⟨⟨_, old _ _ he⟩, tupit_at hit fun o e => old _ _ e, ⟨oT, old _ _ hT, hTc, kT, hTd⟩⟩, F.keeps old, hns₁, fun p hp => ?_, hJ⟩
    · rintro k s' hJz
      refine gz2 k s' ?_
      intro Gz hGz
      obtain ⟨h', tk, i, ys, m', rfl, hi, rfl, hyl, hst', F', hn', N', hJ'⟩ := hJz
      refine hGz _ _ ?_
      clear hGz Gz
      by_cases hlt : i < its.size
      · refine W.item i _ _ _ hlt hst' fun P vals h₂ tk₂ hPv hfr hP hmid hk₂ => ?_
        refine gz0 fun Gz hGz => ?_
        obtain ⟨t, v, hv, rfl⟩ := hPv
        refine hGz ?_
        clear hGz Gz
        have hPwr := W.apart _ _ _ hmid
        have n2 : ∀ b o, b ≠ e → b ≠ it → h'.get? b = some o → h₂.get? b = some o := fun b o h1 h2 q => hk₂ b o (hwr b h1 h2) q
        refine W.go _ _ _ i P _ _ _ hmid fun h₃ hst₃ hk₃ => ?_
        have n3 : ∀ b o, b ≠ e → b ≠ it → h'.get? b = some o → h₃.get? b = some o := fun b o h1 h2 q => hk₃ b o (hwr b h1 h2) (n2 b o h1 h2 q)
        have ht : IsTup h₃ P #[.int (i : Int) t, v] := by
          refine gz0 fun Gz hGz => ?_
          obtain ⟨o, ho, r⟩ := hP
          refine hGz ?_
          clear hGz Gz
          exact ⟨o, hk₃ _ _ hPwr ho, r⟩
        refine assign_Tuple_tuple hh ht rfl rfl fun h₅ hx₅ => ?_
        have n5 : ∀ b o, h₃.get? b = some o → h₅.get? b = some o := fun b o e => hx₅ b o (Nat.ne_of_lt (Heap.lt_size e)) e
        have hnC : h₅.Ns C m' := (hn'.at' fun o q => n3 _ o (Ne.symm heD.1) (Ne.symm hiD.1) q).at' fun o q => n5 _ o q
        refine assignInOrder_cons (wpAny_assign_Name (wpAny_storeName_local (lookup_relabel_local hx) hnC (fun h₆ hn₆ hs₆ => ?_) (by simp [compEnvC, relabel, hkind])))
        refine assignInOrder_cons (wpAny_assign_Name (wpAny_storeName_local (lookup_relabel_local hx₂) hn₆ (fun h₇ hn₇ hs₇ => ?_) (by simp [compEnvC, relabel, hkind])))
        refine assignInOrder_nil ?_
        have n7 : ∀ b o, b ≠ C → h₃.get? b = some o → h₇.get? b = some o := fun b o hb q => hs₇.extBut b o hb (hs₆.extBut b o hb (n5 b o q))
        have hst₇ := W.frame _ _ h₇ hst₃ fun b hb o q => n7 b o (by
          rcases List.mem_cons.mp hb with rfl | hb
          · exact heD.1
          · rcases List.mem_cons.mp hb with rfl | hb
            · exact hiD.1
            · rw [List.mem_singleton.mp hb]; exact hTD.1) q
        refine gz0 fun Gz hGz => ?_
        obtain ⟨⟨oldv, heI⟩, ⟨oit, hoit, hitr⟩, hTt⟩ := hst₇
        refine hGz ?_
        clear hGz Gz
        refine gz0 fun Gz hGz => ?_
        obtain ⟨oC, heC, hoC⟩ := ns_obj hn₇
        refine hGz ?_
        clear hGz Gz
        have F₇ : Fr h₀ L h₇ m := (((fr_two F' n3 heL hiL he₀ hi₀).keeps n5).change hs₆ hCL hC₀).change hs₇ hCL hC₀
        have up : ∀ b o, b ≠ e → b ≠ it → b ≠ C → h'.get? b = some o → h₇.get? b = some o := fun b o h1 h2 h3 q => n7 b o h3 (n3 b o h1 h2 q)
        have off : ∀ p ∈ ((T, oT) :: (D, lst ys) :: fr : Led), p.1 ≠ e ∧ p.1 ≠ it ∧ p.1 ≠ C := fun p hp => by
          rcases List.mem_cons.mp hp with rfl | hp
          · exact ⟨Ne.symm heT, Ne.symm hiT, hTD.1⟩
          · rcases List.mem_cons.mp hp with rfl | hp
            · exact ⟨Ne.symm heD.2, Ne.symm hiD.2, hDC⟩
            · exact ⟨(offr p hp).1, (offr p hp).2, (frD p hp).1⟩
        have N₆ : News h₀ L h₇ ((T, oT) :: (D, lst ys) :: fr) := fun p hp => ⟨up _ _ (off p hp).1 (off p hp).2.1 (off p hp).2.2 (N' p hp).1, (N' p hp).2⟩
        have N₇ : News h₀ L h₇ ((e, { cls := .type "enumerate", dict := none, data := .fields #[.none, .bool false, .ref it, rawInt ((i + 1 : Nat) : Int), .none, oldv], slots := #[] }) :: (it, oit) :: (T, oT) :: (C, oC) :: (D, lst ys) :: fr) := fun p hp => by
          rcases List.mem_cons.mp hp with rfl | hp
          · exact ⟨heI, heL, he₀⟩
          · rcases List.mem_cons.mp hp with rfl | hp
            · exact ⟨hoit, hiL, hi₀⟩
            · rcases List.mem_cons.mp hp with rfl | hp
              · exact N₆ _ (.head _)
              · rcases List.mem_cons.mp hp with rfl | hp
                · exact ⟨heC, hCL, hC₀⟩
                · exact N₆ _ (.tail _ hp)
        refine wpAny_mono (step i ys v t hlt hJ' hv _ _ _ _ _ _ h₇ _ _ hoC (by simp [hxx]) (by simp) F₇ N₇) (fun y s₄ h₄ => ?_) fun _ _ e => e
        refine gz0 fun Gz hGz => ?_
        obtain ⟨h₄, tk₄, rfl, F₄, N₄, hJ₄⟩ := h₄
        refine hGz ?_
        clear hGz Gz
        have zD := (N₄ (D, lst ys) (by simp)).1
        have zC := (N₄ (C, oC) (by simp)).1
        refine append_at (hsz := by show ys.toArray.size ≤ sizeLine; rw [List.size_toArray, hyl]; exact Nat.le_trans hi hsz) zD fun h₈ hs₈ hD₈ => ?_
        have n8 : ∀ b o, b ≠ D → h₄.get? b = some o → h₈.get? b = some o := fun b o hb q => hs₈.extBut b o hb q
        refine ⟨its.size + 1 - (i + 1), by omega, h₈, tk₄, i + 1, ys ++ [y], _, rfl, hlt, rfl, by rw [List.length_append, List.length_singleton, hyl], ⟨⟨oldv, n8 _ _ heD.2 (N₄ (e, _) (.head _)).1⟩, ⟨oit, n8 _ _ hiD.2 (N₄ (it, oit) (by simp)).1, hitr⟩, ⟨oT, n8 _ _ hTD.2 (N₄ (T, oT) (by simp)).1, hTc, kT, hTd⟩⟩,
          F₄.change hs₈ hDL hD₀, (hoC.ns zC).sameBut hs₈ (Ne.symm hDC), fun p hp => ?_, hJ₄⟩
        rcases List.mem_cons.mp hp with rfl | hp
        · exact ⟨n8 _ _ hTD.2 (N₄ (T, oT) (by simp)).1, hTL, hT₀⟩
        · rcases List.mem_cons.mp hp with rfl | hp
          · exact ⟨hD₈.trans (congrArg some (lst_snoc ys y)), hDL, hD₀⟩
          · have z := N₄ p (by simp [hp])
            exact ⟨n8 _ _ (frD p hp).2 z.1, z.2⟩
      · obtain rfl : i = its.size := Nat.le_antisymm hi (Nat.not_lt.mp hlt)
        refine W.done _ _ _ hst' fun h₂ tk₂ hk₂ => ?_
        have n2 : ∀ b o, b ≠ e → b ≠ it → h'.get? b = some o → h₂.get? b = some o := fun b o h1 h2 q => hk₂ b o (hwr b h1 h2) q
        refine ⟨m', hn'.at' fun o q => n2 _ o (Ne.symm heD.1) (Ne.symm hiD.1) q, fun h'' hs'' => ?_⟩
        refine fin D ys h'' tk₂ hJ' ((fr_two F' n2 heL hiL he₀ hi₀).change hs'' hCL hC₀) (fun p hp => ?_) (fun p hp => (frD p hp).2)
        have z := N' p (List.mem_cons_of_mem _ hp)
        have zz : p.1 ≠ e ∧ p.1 ≠ it ∧ p.1 ≠ C := by
          rcases List.mem_cons.mp hp with rfl | hp
          · exact ⟨Ne.symm heD.2, Ne.symm hiD.2, hDC⟩
          · exact ⟨(offr p hp).1, (offr p hp).2, (frD p hp).1⟩
        exact ⟨hs''.extBut _ _ zz.2.2 (n2 _ _ zz.1 zz.2.1 z.1), z.2⟩
    · rcases List.mem_cons.mp hp with rfl | hp
      · exact ⟨old _ _ hT, hTL, hT₀⟩
      · rcases List.mem_cons.mp hp with rfl | hp
        · exact ⟨hacc, hDL, hD₀⟩
        · have z := N p (List.mem_cons_of_mem _ hp)
          exact ⟨old _ _ z.1, z.2⟩
  exact codeAny_compStart_list (loop _ rfl) (W.self 0 _ _ _ ⟨⟨_, old _ _ he⟩, tupit_at hit fun o e => old _ _ e, ⟨oT, old _ _ hT, hTc, kT, hTd⟩⟩ (loop _ rfl))
end
end Mine
-- C40
namespace Mine
theorem EnumSrc.of {prog : Program} {w : World} {A : Around} {h₀ : Heap} {L : Addr} {m : Str → Option Value} {env : Env} {elt : Expr} {x x₂ : Str} {scope : Scope} {cl : List (Str × Addr)} {Q : Value → Shared → Prop} {s₁ : Shared}
    {e it T : Addr} {its : Array Value} {fr : Led} {dT : Option Addr} {kT : Nat} {sT : Array (Option Value)} (J : Nat → List Value → Prop) (hh : A.handled = none) (F : Fr h₀ L s₁.heap m) (N : News h₀ L s₁.heap ((T, { cls := .type "tuple", dict := dT, data := .seq its kT, slots := sT }) :: fr)) (hsz : its.size ≤ sizeLine)
    (he : IsEnum s₁.heap e it 0 .none) (hit : s₁.heap.IsTupleIter it T 0) (ne : e ≠ it ∧ e ≠ T ∧ it ≠ T ∧ e ≠ L ∧ it ≠ L) (h0 : h₀.get? e = none ∧ h₀.get? it = none) (off : ∀ p ∈ fr, p.1 ≠ e ∧ p.1 ≠ it) (hJ : J 0 [])
    (step : ∀ i ys v k, i < its.size → J i ys → its[i]? = some v → ∀ oe oit C oC D m₂ h tk (E' : Value → Shared → Prop), LCg.NsObj oC m₂ → m₂ x = some (.int (i : Int) k) → m₂ x₂ = some v → Fr h₀ L h m →
      News h₀ L h ((e, oe) :: (it, oit) :: (T, { cls := .type "tuple", dict := dT, data := .seq its kT, slots := sT }) :: (C, oC) :: (D, LCg.lst ys) :: fr) →
      wpAny (model prog w) A (eval elt (compEnvC scope cl C env)) (fun y s' => ∃ h' tk', s' = { s₁ with heap := h', toks := tk' } ∧ Fr h₀ L h' m ∧ News h₀ L h' ((e, oe) :: (it, oit) :: (T, { cls := .type "tuple", dict := dT, data := .seq its kT, slots := sT }) :: (C, oC) :: (D, LCg.lst ys) :: fr) ∧ J (i + 1) (ys ++ [y])) E' { s₁ with heap := h, toks := tk })
    (fin : ∀ D ys h tk, J its.size ys → Fr h₀ L h m → News h₀ L h ((D, LCg.lst ys) :: fr) → (∀ p ∈ fr, p.1 ≠ D) → Q (.ref D) { s₁ with heap := h, toks := tk }) :
    EnumSrc prog w A h₀ L m env elt x x₂ scope cl Q (.ref e) s₁ :=
  ⟨e, it, T, its, fr, _, J, rfl, hh, F, N, rfl, ⟨kT, rfl⟩, hsz, he, hit, ne.1, ne.2.1, ne.2.2.1, ne.2.2.2.1, ne.2.2.2.2, h0.1, h0.2, off, hJ, step, fin⟩
theorem call_enum_tup' {prog : Program} {w : World} {A : Around} {E : Value → Shared → Prop} {s : Shared} {l : Addr} {items : Array Value} {Q : Value → Shared → Prop} (hL : s.heap.IsTuple l items)
    (h : ∀ h' e it, IsEnum h' e it 0 .none → h'.IsTupleIter it l 0 → e ≠ it → s.heap.objs.size ≤ e → s.heap.objs.size ≤ it →
      (∀ b o, s.heap.get? b = some o → h'.get? b = some o) → Q (.ref e) { s with heap := h' }) :
    wpAny (model prog w) A (call (.type "enumerate") [.ref l]) Q E s :=
  call_enum_tup hL fun h' he hit hz hk => h h' _ _ he hit (Nat.succ_ne_self _) (Nat.le_succ _) (Nat.le_refl _) hk
theorem my_slice3 {prog : Program} {w : World} {A : Around} {E : Value → Shared → Prop} {s : Shared} {h₀ : Heap} {L l : Addr} {m : Str → Option Value} {news : Led} {value slice : Expr} {vs : List Value} {ns : List Int} {a b c : Int} {ta tb tc : Tok} {ops : List Value} {Q : Value → Shared → Prop} (F : Fr h₀ L s.heap m) (N : News h₀ L s.heap news) (hl : s.heap.IsList l vs.toArray) (hi : IntsAre vs ns) (hn : ns.length ≤ 63) (hc : some c ≠ some 0)
    (h : ∀ D ws ms h', Fr h₀ L h' m → News h₀ L h' ((D, PySem.W.listOf ws.toArray 0) :: news) → (∀ p ∈ news, p.1 < D) → IntsAre ws ms → ms.length ≤ 63 → Q (.ref D) { s with heap := h' })
    (hs : subscripted slice false (.ref l) (.ref s.heap.objs.size) = operate ops (getItem (.ref l) (.ref s.heap.objs.size)) := by with_unfolding_all rfl) (ht : ∀ r, letTemporaryGo value (.ref l) r = pure () := by intro _; with_unfolding_all rfl) :
    wpAny (model prog w) A (subscriptTail value slice (.ref l) (.ref s.heap.objs.size)) Q E { s with heap := s.heap.push { cls := .type "slice", data := .fields #[.int a ta, .int b tb, .int c tc] } } := by
  have hv := hi.length
  refine kmk_slice3_lit (zs := (slicePick vs.toArray (some a) (some b) (some c)).toList) F N hl (.int ..) (.int ..) (.int ..) hc rfl (fun D h' F' N' l1 => h D _ (pickNums ns (some a) (some b) (some c)) h' F' N' l1 (hi.pick _ _ _) ?_) hs ht (by rw [List.size_toArray, sizeLine_eq]; omega)
  rw [← (hi.pick (some a) (some b) (some c)).length]
  have q := slicePick_size_le vs.toArray (some a) (some b) (some c)
  have q2 : (slicePick vs.toArray (some a) (some b) (some c)).size ≤ vs.length := by simpa using q
  rw [Array.length_toList]
  exact Nat.le_trans q2 (hv ▸ hn)
end Mine
namespace Mine
theorem says_cells (w : World) (l : Addr) (vs : List Value) (ns : List Int) (hi : IntsAre vs ns) (hn : ns.length ≤ 63) (fr : Led)
  (p0 : Program) (loose : List Str) (mean : ExcName → Option Value) (mg mb : Str → Option Value)
    (dp un : Nat) (gd : Option (List Code)) (cn : Str) (cs : Scope) (ad : Addr) (ccd : Value) (cl : List (Str × Addr)) (outer : List Env) (A₀ : Around) (base h₀ : Heap) (L : Addr) (m : Str → Option Value) (s : Shared) (Q E : Value → Shared → Prop)
    (B : Below A₀ base outer h₀) (F : Fr h₀ L s.heap m) (X : (Mine.hd.heap_39 w.params).In h₀) (N : News h₀ L s.heap fr) (T : Top p0 loose mean mg mb h₀) (hk : cs.kind = .function) (hd : dp + 20 < recursionLimit) (hu : un + 200 < cLine) (hl : h₀.IsList l vs.toArray)
    (hret : ∀ D ys cells n h' tk', IntsAre ys cells → cells.length = 5 → Fr h₀ L h' m → News h₀ L h' ((D, PySem.W.listOf ys.toArray n) :: fr) → (∀ q ∈ fr, q.1 ≠ D) → Q (.ref D) { s with heap := h', toks := tk' }) :
    wpAny (model PySem.Challenge.rw_sn0098_01.row.prog w) (ktrTop dp un gd cn cs L ad ccd cl outer) (call (.ref 311) [.ref l]) Q E s := by
  ((have hfill : Mine.hd.heap_39 = Mine.hd.heap_39 ∧ PySem.Challenge.rw_sn0098_01 = PySem.Challenge.rw_sn0098_01 := (by k_fill; exact ⟨rfl, rfl⟩)); clear hfill)
  refine wpAny_call ?_
  k_dflt walk_at "my enterC"
  (rename Fr h₀ L _ m => FG9)
  have hl9 := hl.at fun o e => FG9.keep l o e
  (repeat' (first | ((( (fail_if_success with_reducible first | refine st0 ?_ | refine st1 ?_ | refine st2 ?_ | refine st3 ?_))); (fail_if_success with_reducible first | refine st4 ?_ | refine st5 ?_ | refine st7 ?_ | refine st6 ?_ | refine st8 ?_ | refine st9 ?_); (first | (((with_reducible show FnAt _ _ ∧ _); refine ⟨by exact fnAt_of (by k_asm) (by k_mem) (by assumption), ?_⟩; try dsimp only [List.nil_append, List.cons_append])) | walk_at "mo"))))
  ((k_here; k_dflt (refine comp_enum (F₀ := by k_asm) (by with_unfolding_all rfl) (by decide) (by rfl) (by decide) (by rfl) (by rfl) (by decide) ?_)))
  (repeat' (first | ((( (fail_if_success with_reducible first | refine st0 ?_ | refine st1 ?_ | refine st2 ?_ | refine st3 ?_))); (fail_if_success with_reducible first | refine st4 ?_ | refine st5 ?_ | refine st7 ?_ | refine st6 ?_ | refine st8 ?_ | refine st9 ?_); (first | (((with_reducible show FnAt _ _ ∧ _); refine ⟨by exact fnAt_of (by k_asm) (by k_mem) (by assumption), ?_⟩; try dsimp only [List.nil_append, List.cons_append])) | walk_at "mo"))))
  (rename Fr _ _ _ _ => F9)
  (rename News _ _ _ _ => N9)
  have hT9 := (N9 _ (.head _)).1
  have hTb := N9 _ (.head _)
  have hTs := Heap.lt_size hT9
  have hLs := F9.ns.lt
  have hab := F9.above
  have hfs := fun (p : Addr × Obj) hp => Heap.lt_size (N9 p (List.mem_cons_of_mem _ hp)).1
  refine call_enum_tup' (items := _) ⟨_, hT9, rfl, _, rfl⟩ fun h' e it he hit ne h1 h2 hk => ?_
  have F10 := F9.keeps hk
  have N10 : News _ _ h' _ := fun p hp => ⟨hk _ _ (N9 p hp).1, (N9 p hp).2⟩
  clear hk
  dsimp only at hTs hLs h1 h2 F10 hfs ⊢
  have le0 := fun a (ha : _ ≤ a) => Heap.get?_none_of_le (Nat.le_trans hab (Nat.le_of_lt (Nat.lt_of_lt_of_le hLs ha)))
  refine EnumSrc.of (fun i ys => ∃ cells, cells.length = i ∧ IntsAre ys cells) ?_ F10 N10 ?_ he hit ⟨ne, Nat.ne_of_gt (Nat.lt_of_lt_of_le hTs h1), Nat.ne_of_gt (Nat.lt_of_lt_of_le hTs h2), Nat.ne_of_gt (Nat.lt_of_lt_of_le hLs h1), Nat.ne_of_gt (Nat.lt_of_lt_of_le hLs h2)⟩ ⟨le0 _ h1, le0 _ h2⟩ (fun p hp => ⟨Nat.ne_of_lt (Nat.lt_of_lt_of_le (hfs p hp) h1), Nat.ne_of_lt (Nat.lt_of_lt_of_le (hfs p hp) h2)⟩) ⟨[], rfl, .nil⟩ ?_ ?_
  · rfl
  · exact Nat.le_of_ble_eq_true rfl
  · intro i ys v k hi' hJ hv oe oit C oC D m₂ h tk E' a1 a2 a3 F N
    refine gz0 fun Gz hGz => ?_
    obtain ⟨cells, hc, hys⟩ := hJ
    refine hGz ?_
    clear hGz Gz
    obtain ⟨c, t, rfl⟩ : (Xx2 fun c t => v = .int c t) := by
      rcases i with _ | _ | _ | _ | _ | i
      · exact ⟨_, _, (Option.some.inj hv).symm⟩
      · exact ⟨_, _, (Option.some.inj hv).symm⟩
      · exact ⟨_, _, (Option.some.inj hv).symm⟩
      · exact ⟨_, _, (Option.some.inj hv).symm⟩
      · exact ⟨_, _, (Option.some.inj hv).symm⟩
      · exact absurd hi' (by show ¬ (i + 5 < 5); omega)
    clear hv he hit hfs h1 h2 le0 hTs hLs
    dsimp only
    (repeat' (first | ((( (fail_if_success with_reducible first | refine st0 ?_ | refine st1 ?_ | refine st2 ?_ | refine st3 ?_))); (fail_if_success with_reducible first | refine st4 ?_ | refine st5 ?_ | refine st7 ?_ | refine st6 ?_ | refine st8 ?_ | refine st9 ?_ | refine st10 ?_); (first | (((with_reducible show FnAt _ _ ∧ _); refine ⟨by exact fnAt_of (by k_asm) (by k_mem) (by assumption), ?_⟩; try dsimp only [List.nil_append, List.cons_append])) | walk_at "mo"))))
    refine my_slice3 (by k_asm) (by k_asm) (by kmk_list) hi hn (by decide) fun Dz ws ms hz Fz Nz offz hws hms => ?_
    dsimp only
    (repeat' (first | ((( (fail_if_success with_reducible first | refine st0 ?_ | refine st1 ?_ | refine st2 ?_ | refine st3 ?_))); (fail_if_success with_reducible first | refine st4 ?_ | refine st5 ?_ | refine st7 ?_ | refine st6 ?_ | refine st8 ?_ | refine st9 ?_); (first | (((with_reducible show FnAt _ _ ∧ _); refine ⟨by exact fnAt_of (by k_asm) (by k_mem) (by assumption), ?_⟩; try dsimp only [List.nil_append, List.cons_append])) | walk_at "mo"))))
    rotate_left 4
    · exact cells ++ [c + ms.sum]
    · k_asm
    · exact news_sub (by k_asm) (by (((try simp only [List.cons_append, List.nil_append]); (repeat' (first | exact List.forall_mem_nil _ | refine List.forall_mem_cons.mpr ⟨?_, ?_⟩)) <;> (first | k_mem | (intro _ _; k_mem)))))
    · rw [List.length_append, hc]; rfl
    · exact IntsAre.append hys (.cons _ _ .nil)
  · intro D ys h tk hJ F N off
    refine gz0 fun Gz hGz => ?_
    obtain ⟨cells, hc, hys⟩ := hJ
    refine hGz ?_
    clear hGz Gz
    (repeat' (first | ((( (fail_if_success with_reducible first | refine st0 ?_ | refine st1 ?_ | refine st2 ?_ | refine st3 ?_))); (fail_if_success with_reducible first | refine st4 ?_ | refine st5 ?_ | refine st7 ?_ | refine st6 ?_ | refine st8 ?_ | refine st9 ?_); (first | (((with_reducible show FnAt _ _ ∧ _); refine ⟨by exact fnAt_of (by k_asm) (by k_mem) (by assumption), ?_⟩; try dsimp only [List.nil_append, List.cons_append])) | walk_at "mo"))))
    exact hret _ _ cells _ _ _ hys hc (by k_asm) (news_sub (by k_asm) (by (((try simp only [List.cons_append, List.nil_append]); (repeat' (first | exact List.forall_mem_nil _ | refine List.forall_mem_cons.mpr ⟨?_, ?_⟩)) <;> (first | k_mem | (intro _ _; k_mem)))))) (fun q hq => off q (.tail _ hq))
end Mine
-- C41
namespace Mine
noncomputable def coinStep (cs : List Int) (c : Int) : List Int := cs ++ [cs.getD (cs.length - 1) 0 + 1 + c.fmod 6]
noncomputable def coinsOf (cells : List Int) : List Int := (cells.take (3 + (cells.getD 4 0).fmod 2).toNat).foldl coinStep [1]
theorem says_coins (c : Addr) (vs : List Value) (n : Nat) (cells : List Int) (fr : Led) (hm : (c, PySem.W.listOf vs.toArray n) ∈ fr) (hi : IntsAre vs cells) (h5 : cells.length = 5) :
    Says 10 60 318 [.ref c] fr (fun v news => (Xx3 fun D ys k => Aa4 (v = .ref D) (news = (D, PySem.W.listOf ys.toArray k) :: fr) (IntsAre ys (coinsOf cells)) (∀ q ∈ fr, q.1 ≠ D))) := by
  ((have hfill : Mine.hd.heap_39 = Mine.hd.heap_39 ∧ PySem.Challenge.rw_sn0098_01 = PySem.Challenge.rw_sn0098_01 := (by k_fill; exact ⟨rfl, rfl⟩)); clear hfill)
  unfold Says
  intros
  rename_i hret
  refine wpAny_call ?_
  k_dflt walk_at "my enter"
  (rename Fr _ _ _ _ => F)
  obtain ⟨m', F1⟩ := names_ex F [("cells", .ref c)] (by ((repeat' (first | exact all_nil | refine all_cons rfl ?_))))
  clear F
  (repeat' (first | ((( (fail_if_success with_reducible first | refine st0 ?_ | refine st1 ?_ | refine st2 ?_ | refine st3 ?_))); (fail_if_success with_reducible first | refine st4 ?_ | refine st5 ?_ | refine st7 ?_ | refine st6 ?_ | refine st8 ?_ | refine st9 ?_); (first | ((with_reducible show wpAny _ _ (call (Value.builtin "list.append") _) _ _ _); ((k_here; k_dflt (refine' my_append (by k_asm) (by k_asm) (by k_upd) (by (((try walk_at "my clear"); first | omega | (simp only [List.length_append, List.length_cons, List.length_nil]; omega)))) ?_;  k_whole); intro _ _ _; (try dsimp only); (try k_sweep)))) | ((with_reducible show wpAny _ _ (call (Value.builtin "list.append") _) _ _ _); ((k_here; k_dflt (refine' my_append (by k_asm) (by k_asm) (by k_upd) (by first | omega | (simp only [List.length_cons, List.length_nil, List.length_append]; omega)) ?_;  k_whole); intro _ _ _; (try dsimp only); (try k_sweep)))) | ((with_reducible show wpAny _ _ (subscriptTail (PySem.Expr.Name _ _) (PySem.Expr.UnaryOp _ _ _) (Value.ref _) (Value.int _ _)) _ _ _); (((k_here; (with_reducible show wpAny _ _ (subscriptTail _ _ (Value.ref _) (Value.int _ _)) _ _ _); k_dflt (refine' my_item_neg (by k_asm) (by k_mem) (by assumption) (by (((try walk_at "my clear"); first | omega | (simp only [List.length_append, List.length_cons, List.length_nil]; omega)))) (by (((try walk_at "my clear"); first | omega | (simp only [List.length_append, List.length_cons, List.length_nil]; omega)))) (by (((try walk_at "my clear"); first | omega | (simp only [List.length_append, List.length_cons, List.length_nil]; omega)))) ?_;  k_whole); intro _)))) | ((k_here; (with_reducible show wpAny _ _ (getMethod (Value.ref _) (Str.ofString "read") _) _ _ _); k_dflt (refine' my_fnget (by k_asm) (by k_mem) (by assumption) (by k_mem) (by assumption) (by exact if_pos rfl) (by assumption) (by assumption) (by (intro _ e; cases e)) ?_;  k_whole); intro _; dsimp only)) | ((k_here; (with_reducible show wpAny _ _ (getMethod (Value.ref 172) (Str.ofString "search") _) _ _ _); k_dflt (refine' get_172 (by k_asm) (by k_asm) ?_;  k_whole))) | ((k_here; (with_reducible show wpAny _ _ (getMethod (Value.ref 167) (Str.ofString "search") _) _ _ _); k_dflt (refine' get_167 (by k_asm) (by k_asm) ?_;  k_whole))) | ((k_here; (with_reducible show wpAny _ _ (getMethod (Value.ref _) (Str.ofString "pop") _) _ _ _); k_dflt (refine' my_get_pop (knd := PySem.intKind _ _) (by k_asm) (by k_mem) (by assumption) (by omega) ?_;  k_whole))) | ((with_reducible show wpAny _ _ (subscriptTail (PySem.Expr.Name _ _) (PySem.Expr.Slice _ _ _ _) (Value.ref _) (Value.ref _)) _ _ _); ((k_here; (with_reducible show wpAny _ _ (subscriptTail _ (PySem.Expr.Slice (some _) (some _) (some _) _) (Value.ref _) (Value.ref _)) _ _ _); k_dflt (refine' my_slice3 (by k_asm) (by k_asm) (by kmk_list) (by k_asm) (by k_asm) (by decide) ?_;  k_whole); intro _ _ _ _ _ _ _ _ _; (try k_sweep)))) | ((with_reducible show wpAny _ _ (subscriptTail (PySem.Expr.Name _ _) (PySem.Expr.Slice _ _ _ _) (Value.ref _) (Value.ref _)) _ _ _); ((k_here; (with_reducible show wpAny _ _ (subscriptTail _ (PySem.Expr.Slice none none none _) (Value.ref _) (Value.ref _)) _ _ _); k_dflt (refine' my_slice_all (by k_asm) (by k_asm) (by k_mem) (by omega) ?_;  k_whole); intro _ _ _ _ _; (try k_sweep)))) | walk_at "mo"))))
  ((k_here; (with_unfolding_all refine' For_T ?_); k_whole))
  (repeat' (first | ((( (fail_if_success with_reducible first | refine st0 ?_ | refine st1 ?_ | refine st2 ?_ | refine st3 ?_))); (fail_if_success with_reducible first | refine st4 ?_ | refine st5 ?_ | refine st7 ?_ | refine st6 ?_ | refine st8 ?_ | refine st9 ?_); (first | ((with_reducible show wpAny _ _ (call (Value.builtin "list.append") _) _ _ _); ((k_here; k_dflt (refine' my_append (by k_asm) (by k_asm) (by k_upd) (by (((try walk_at "my clear"); first | omega | (simp only [List.length_append, List.length_cons, List.length_nil]; omega)))) ?_;  k_whole); intro _ _ _; (try dsimp only); (try k_sweep)))) | ((with_reducible show wpAny _ _ (call (Value.builtin "list.append") _) _ _ _); ((k_here; k_dflt (refine' my_append (by k_asm) (by k_asm) (by k_upd) (by first | omega | (simp only [List.length_cons, List.length_nil, List.length_append]; omega)) ?_;  k_whole); intro _ _ _; (try dsimp only); (try k_sweep)))) | ((with_reducible show wpAny _ _ (subscriptTail (PySem.Expr.Name _ _) (PySem.Expr.UnaryOp _ _ _) (Value.ref _) (Value.int _ _)) _ _ _); (((k_here; (with_reducible show wpAny _ _ (subscriptTail _ _ (Value.ref _) (Value.int _ _)) _ _ _); k_dflt (refine' my_item_neg (by k_asm) (by k_mem) (by assumption) (by (((try walk_at "my clear"); first | omega | (simp only [List.length_append, List.length_cons, List.length_nil]; omega)))) (by (((try walk_at "my clear"); first | omega | (simp only [List.length_append, List.length_cons, List.length_nil]; omega)))) (by (((try walk_at "my clear"); first | omega | (simp only [List.length_append, List.length_cons, List.length_nil]; omega)))) ?_;  k_whole); intro _)))) | ((k_here; (with_reducible show wpAny _ _ (getMethod (Value.ref _) (Str.ofString "read") _) _ _ _); k_dflt (refine' my_fnget (by k_asm) (by k_mem) (by assumption) (by k_mem) (by assumption) (by exact if_pos rfl) (by assumption) (by assumption) (by (intro _ e; cases e)) ?_;  k_whole); intro _; dsimp only)) | ((k_here; (with_reducible show wpAny _ _ (getMethod (Value.ref 172) (Str.ofString "search") _) _ _ _); k_dflt (refine' get_172 (by k_asm) (by k_asm) ?_;  k_whole))) | ((k_here; (with_reducible show wpAny _ _ (getMethod (Value.ref 167) (Str.ofString "search") _) _ _ _); k_dflt (refine' get_167 (by k_asm) (by k_asm) ?_;  k_whole))) | ((k_here; (with_reducible show wpAny _ _ (getMethod (Value.ref _) (Str.ofString "pop") _) _ _ _); k_dflt (refine' my_get_pop (knd := PySem.intKind _ _) (by k_asm) (by k_mem) (by assumption) (by omega) ?_;  k_whole))) | ((with_reducible show wpAny _ _ (subscriptTail (PySem.Expr.Name _ _) (PySem.Expr.Slice _ _ _ _) (Value.ref _) (Value.ref _)) _ _ _); ((k_here; (with_reducible show wpAny _ _ (subscriptTail _ (PySem.Expr.Slice (some _) (some _) (some _) _) (Value.ref _) (Value.ref _)) _ _ _); k_dflt (refine' my_slice3 (by k_asm) (by k_asm) (by kmk_list) (by k_asm) (by k_asm) (by decide) ?_;  k_whole); intro _ _ _ _ _ _ _ _ _; (try k_sweep)))) | ((with_reducible show wpAny _ _ (subscriptTail (PySem.Expr.Name _ _) (PySem.Expr.Slice _ _ _ _) (Value.ref _) (Value.ref _)) _ _ _); ((k_here; (with_reducible show wpAny _ _ (subscriptTail _ (PySem.Expr.Slice none none none _) (Value.ref _) (Value.ref _)) _ _ _); k_dflt (refine' my_slice_all (by k_asm) (by k_asm) (by k_mem) (by omega) ?_;  k_whole); intro _ _ _ _ _; (try k_sweep)))) | walk_at "mo"))))
  (rename Fr _ _ _ _ => F2)
  (rename News _ _ _ _ => N2)
  (rename IntsAre _ _ => hws)
  rename_i D _ offD _ _ T ws _ _ _ off
  obtain ⟨sl, hsl⟩ : ∃ sl, sl = cells.take (3 + (cells.getD 4 0).fmod 2).toNat := ⟨_, rfl⟩
  have hsz : sl.length ≤ 5 := by rw [hsl, List.length_take, h5]; exact Nat.min_le_right _ _
  have hco : coinsOf cells = sl.foldl coinStep [1] := by rw [hsl]; rfl
  rw [← hsl] at hws
  rw [hco] at hret
  have hwl := hws.length
  refine loopLT (l := T) (vs := ws) (nn := 0) (fun j m nx => (Xx2 fun (ys : List Value) (k : Nat) => Aa4 (nx = (T, PySem.W.listOf ws.toArray 0) :: (D, PySem.W.listOf ys.toArray k) :: fr) (HasN m [("coins", .ref D)]) (IntsAre ys ((sl.take j).foldl coinStep [1])) (ys.length = j + 1))) ?_ ?_ F2 N2 ?_ ?_ ?_ ?_
  · exact (by rfl)
  · rintro j m nx hJz
    refine gz1 nx ?_
    intro Gz hGz
    obtain ⟨ys, k, rfl, _⟩ := hJz
    refine hGz _ ?_
    clear hGz Gz
    exact .head _
  · exact ⟨[_], _, rfl, by ((repeat' (first | exact all_nil | refine all_cons rfl ?_))), .cons _ _ .nil, rfl⟩
  · intro j v I h tk Q hv hit hQ
    exact wpAny_of_eq rfl hQ
  · rintro j v m₂ nx h14 tk14 I2 oI2 hv hJz
    refine gz1 nx ?_
    intro Gz hGz
    obtain ⟨ys, k, rfl, hN2, hys, hyl⟩ := hJz
    refine hGz _ ?_
    clear hGz Gz
    rintro ho2 F14 N14
    obtain ⟨m10, F14⟩ := names_ex F14 [("coins", .ref D)] hN2
    refine gz0 fun Gz hGz => ?_
    obtain ⟨x, tx, rfl, hx⟩ := hws.at j v hv
    refine hGz ?_
    clear hGz Gz
    have hjl : j < sl.length := (List.getElem?_eq_some_iff.mp hx).1
    have hyl2 := hys.length
    have e1 : I2 ≠ D := fun e => ho2 (D, PySem.W.listOf ys.toArray k) (by k_mem) e.symm
    have e2 : T ≠ D := Ne.symm (Nat.ne_of_lt off.1)
    have e3 : ∀ p ∈ fr, p.1 ≠ D := fun p hp => Nat.ne_of_lt (offD p hp)
    (repeat' (first | ((( (fail_if_success with_reducible first | refine st0 ?_ | refine st1 ?_ | refine st2 ?_ | refine st3 ?_))); (fail_if_success with_reducible first | refine st4 ?_ | refine st5 ?_ | refine st7 ?_ | refine st6 ?_ | refine st8 ?_ | refine st9 ?_); (first | ((with_reducible show wpAny _ _ (call (Value.builtin "list.append") _) _ _ _); ((k_here; k_dflt (refine' my_append (by k_asm) (by k_asm) (by k_upd) (by (((try walk_at "my clear"); first | omega | (simp only [List.length_append, List.length_cons, List.length_nil]; omega)))) ?_;  k_whole); intro _ _ _; (try dsimp only); (try k_sweep)))) | ((with_reducible show wpAny _ _ (call (Value.builtin "list.append") _) _ _ _); ((k_here; k_dflt (refine' my_append (by k_asm) (by k_asm) (by k_upd) (by first | omega | (simp only [List.length_cons, List.length_nil, List.length_append]; omega)) ?_;  k_whole); intro _ _ _; (try dsimp only); (try k_sweep)))) | ((with_reducible show wpAny _ _ (subscriptTail (PySem.Expr.Name _ _) (PySem.Expr.UnaryOp _ _ _) (Value.ref _) (Value.int _ _)) _ _ _); (((k_here; (with_reducible show wpAny _ _ (subscriptTail _ _ (Value.ref _) (Value.int _ _)) _ _ _); k_dflt (refine' my_item_neg (by k_asm) (by k_mem) (by assumption) (by (((try walk_at "my clear"); first | omega | (simp only [List.length_append, List.length_cons, List.length_nil]; omega)))) (by (((try walk_at "my clear"); first | omega | (simp only [List.length_append, List.length_cons, List.length_nil]; omega)))) (by (((try walk_at "my clear"); first | omega | (simp only [List.length_append, List.length_cons, List.length_nil]; omega)))) ?_;  k_whole); intro _)))) | ((k_here; (with_reducible show wpAny _ _ (getMethod (Value.ref _) (Str.ofString "read") _) _ _ _); k_dflt (refine' my_fnget (by k_asm) (by k_mem) (by assumption) (by k_mem) (by assumption) (by exact if_pos rfl) (by assumption) (by assumption) (by (intro _ e; cases e)) ?_;  k_whole); intro _; dsimp only)) | ((k_here; (with_reducible show wpAny _ _ (getMethod (Value.ref 172) (Str.ofString "search") _) _ _ _); k_dflt (refine' get_172 (by k_asm) (by k_asm) ?_;  k_whole))) | ((k_here; (with_reducible show wpAny _ _ (getMethod (Value.ref 167) (Str.ofString "search") _) _ _ _); k_dflt (refine' get_167 (by k_asm) (by k_asm) ?_;  k_whole))) | ((k_here; (with_reducible show wpAny _ _ (getMethod (Value.ref _) (Str.ofString "pop") _) _ _ _); k_dflt (refine' my_get_pop (knd := PySem.intKind _ _) (by k_asm) (by k_mem) (by assumption) (by omega) ?_;  k_whole))) | ((with_reducible show wpAny _ _ (subscriptTail (PySem.Expr.Name _ _) (PySem.Expr.Slice _ _ _ _) (Value.ref _) (Value.ref _)) _ _ _); ((k_here; (with_reducible show wpAny _ _ (subscriptTail _ (PySem.Expr.Slice (some _) (some _) (some _) _) (Value.ref _) (Value.ref _)) _ _ _); k_dflt (refine' my_slice3 (by k_asm) (by k_asm) (by kmk_list) (by k_asm) (by k_asm) (by decide) ?_;  k_whole); intro _ _ _ _ _ _ _ _ _; (try k_sweep)))) | ((with_reducible show wpAny _ _ (subscriptTail (PySem.Expr.Name _ _) (PySem.Expr.Slice _ _ _ _) (Value.ref _) (Value.ref _)) _ _ _); ((k_here; (with_reducible show wpAny _ _ (subscriptTail _ (PySem.Expr.Slice none none none _) (Value.ref _) (Value.ref _)) _ _ _); k_dflt (refine' my_slice_all (by k_asm) (by k_asm) (by k_mem) (by omega) ?_;  k_whole); intro _ _ _ _ _; (try k_sweep)))) | walk_at "mo"))))
    refine TurnTo.intro (by k_asm) (by k_asm) (by (((try simp only [List.cons_append, List.nil_append]); (repeat' (first | exact List.forall_mem_nil _ | refine List.forall_mem_cons.mpr ⟨?_, ?_⟩)) <;> (first | k_mem | (intro _ _; k_mem))))) ?_ ⟨ys ++ [_], _, rfl, by ((repeat' (first | exact all_nil | refine all_cons rfl ?_))), ?_, by simp [hyl]⟩
    · exact List.forall_mem_cons.mpr ⟨ho2 _ (.head _), List.forall_mem_cons.mpr ⟨Ne.symm e1, fun p hp => ho2 p (.tail _ (.tail _ hp))⟩⟩
    · rw [List.take_add_one, hx, List.foldl_append]
      refine IntsAre.append hys ?_
      have e : (-1 + ((List.foldl coinStep [1] (sl.take j)).length : Int)).toNat = (List.foldl coinStep [1] (sl.take j)).length - 1 := by
        rw [← hyl2, hyl]; omega
      rw [e]
      exact .cons _ _ .nil
  · rintro m₁ nx h9 tk9 hJz
    refine gz1 nx ?_
    intro Gz hGz
    obtain ⟨ys, k, rfl, hN, hys, hyl⟩ := hJz
    refine hGz _ ?_
    clear hGz Gz
    rintro F9 N9
    rw [hwl, List.take_length] at hys
    obtain ⟨m10, F9⟩ := names_ex F9 [("coins", .ref D)] hN
    (repeat' (first | ((( (fail_if_success with_reducible first | refine st0 ?_ | refine st1 ?_ | refine st2 ?_ | refine st3 ?_))); (fail_if_success with_reducible first | refine st4 ?_ | refine st5 ?_ | refine st7 ?_ | refine st6 ?_ | refine st8 ?_ | refine st9 ?_); (first | ((with_reducible show wpAny _ _ (call (Value.builtin "list.append") _) _ _ _); ((k_here; k_dflt (refine' my_append (by k_asm) (by k_asm) (by k_upd) (by (((try walk_at "my clear"); first | omega | (simp only [List.length_append, List.length_cons, List.length_nil]; omega)))) ?_;  k_whole); intro _ _ _; (try dsimp only); (try k_sweep)))) | ((with_reducible show wpAny _ _ (call (Value.builtin "list.append") _) _ _ _); ((k_here; k_dflt (refine' my_append (by k_asm) (by k_asm) (by k_upd) (by first | omega | (simp only [List.length_cons, List.length_nil, List.length_append]; omega)) ?_;  k_whole); intro _ _ _; (try dsimp only); (try k_sweep)))) | ((with_reducible show wpAny _ _ (subscriptTail (PySem.Expr.Name _ _) (PySem.Expr.UnaryOp _ _ _) (Value.ref _) (Value.int _ _)) _ _ _); (((k_here; (with_reducible show wpAny _ _ (subscriptTail _ _ (Value.ref _) (Value.int _ _)) _ _ _); k_dflt (refine' my_item_neg (by k_asm) (by k_mem) (by assumption) (by (((try walk_at "my clear"); first | omega | (simp only [List.length_append, List.length_cons, List.length_nil]; omega)))) (by (((try walk_at "my clear"); first | omega | (simp only [List.length_append, List.length_cons, List.length_nil]; omega)))) (by (((try walk_at "my clear"); first | omega | (simp only [List.length_append, List.length_cons, List.length_nil]; omega)))) ?_;  k_whole); intro _)))) | ((k_here; (with_reducible show wpAny _ _ (getMethod (Value.ref _) (Str.ofString "read") _) _ _ _); k_dflt (refine' my_fnget (by k_asm) (by k_mem) (by assumption) (by k_mem) (by assumption) (by exact if_pos rfl) (by assumption) (by assumption) (by (intro _ e; cases e)) ?_;  k_whole); intro _; dsimp only)) | ((k_here; (with_reducible show wpAny _ _ (getMethod (Value.ref 172) (Str.ofString "search") _) _ _ _); k_dflt (refine' get_172 (by k_asm) (by k_asm) ?_;  k_whole))) | ((k_here; (with_reducible show wpAny _ _ (getMethod (Value.ref 167) (Str.ofString "search") _) _ _ _); k_dflt (refine' get_167 (by k_asm) (by k_asm) ?_;  k_whole))) | ((k_here; (with_reducible show wpAny _ _ (getMethod (Value.ref _) (Str.ofString "pop") _) _ _ _); k_dflt (refine' my_get_pop (knd := PySem.intKind _ _) (by k_asm) (by k_mem) (by assumption) (by omega) ?_;  k_whole))) | ((with_reducible show wpAny _ _ (subscriptTail (PySem.Expr.Name _ _) (PySem.Expr.Slice _ _ _ _) (Value.ref _) (Value.ref _)) _ _ _); ((k_here; (with_reducible show wpAny _ _ (subscriptTail _ (PySem.Expr.Slice (some _) (some _) (some _) _) (Value.ref _) (Value.ref _)) _ _ _); k_dflt (refine' my_slice3 (by k_asm) (by k_asm) (by kmk_list) (by k_asm) (by k_asm) (by decide) ?_;  k_whole); intro _ _ _ _ _ _ _ _ _; (try k_sweep)))) | ((with_reducible show wpAny _ _ (subscriptTail (PySem.Expr.Name _ _) (PySem.Expr.Slice _ _ _ _) (Value.ref _) (Value.ref _)) _ _ _); ((k_here; (with_reducible show wpAny _ _ (subscriptTail _ (PySem.Expr.Slice none none none _) (Value.ref _) (Value.ref _)) _ _ _); k_dflt (refine' my_slice_all (by k_asm) (by k_asm) (by k_mem) (by omega) ?_;  k_whole); intro _ _ _ _ _; (try k_sweep)))) | walk_at "mo"))))
    exact hret _ _ _ _ ⟨_, _, _, rfl, rfl, hys, fun q hq => Nat.ne_of_lt (offD q hq)⟩ (by k_asm) (news_sub (by k_asm) (by (((try simp only [List.cons_append, List.nil_append]); (repeat' (first | exact List.forall_mem_nil _ | refine List.forall_mem_cons.mpr ⟨?_, ?_⟩)) <;> (first | k_mem | (intro _ _; k_mem))))))
end Mine
-- C42
namespace Mine
open LCg
section
variable {prog : Program} {w : World} {A : Around} {E : Value → Shared → Prop} {s : Shared} {env : Env} {h₀ : Heap} {body : List Stmt} {Q : Flow → Shared → Prop}
theorem loopET {xi xv : Str} {pi pv pt : Pos} {x1} {e it l : Addr} {vs : List Value} {nn : Nat} {m₀ : Str → Option Value} {news : Led} (J : Nat → (Str → Option Value) → Led → Prop) (hh : A.handled = none)
    (hxi : env.kindOf xi = some .local) (hxv : env.kindOf xv = some .local) (hp : (env.scope.kind == .class || (env.scope.kind == .module && env.locals != env.globals)) = false)
    (hm : ∀ i m nx, J i m nx → (l, PySem.W.listOf vs.toArray nn) ∈ nx) (he : IsEnum s.heap e it 0 .none) (hit : s.heap.IsListIter it l 0)
    (hei : e ≠ it) (hel : e ≠ l) (hil : it ≠ l) (heL : e ≠ env.locals) (hiL : it ≠ env.locals) (he₀ : h₀.get? e = none) (hi₀ : h₀.get? it = none)
    (F : Fr h₀ env.locals s.heap m₀) (N : News h₀ env.locals s.heap news) (hoff : ∀ p ∈ news, p.1 ≠ e ∧ p.1 ≠ it) (hj : J 0 m₀ news)
    (turn : ∀ i t v m₁ nx h tk oe oi, vs[i]? = some v → J i m₁ nx → (∀ p ∈ nx, p.1 ≠ e ∧ p.1 ≠ it) → Fr h₀ env.locals h (fun y => if y = xv then some v else if y = xi then some (.int (i : Int) t) else m₁ y) → News h₀ env.locals h ((e, oe) :: (it, oi) :: nx) →
      wpAny (model prog w) A (execs body env) (TurnTo h₀ env.locals e oe (fun m nx' => (∃ nx2, Aa3 (nx' = (it, oi) :: nx2) ((∀ p ∈ nx2, p.1 ≠ it)) (J (i + 1) m nx2))) s Q) E { s with heap := h, toks := tk })
    (done : ∀ m₁ nx h tk, J vs.length m₁ nx → Fr h₀ env.locals h m₁ → News h₀ env.locals h nx → Q .next { s with heap := h, toks := tk }) :
    wpAny (model prog w) A (pyIter (.ref e)) (fun it s₂ => LoopT prog w A env (.Tuple [.Name xi pi, .Name xv pv] x1 pt) body Q E it s₂) E s := by
  refine wpAny_pyIter_enum he ?_
  have hls : s.heap.IsList l vs.toArray := News.isList N (hm _ _ _ hj)
  have W := WalksT.enumerateD (prog := prog) (w := w) (A := A) (Draws.list (A := A.in1) hh it l (Ne.symm hil) vs.toArray) e hei (by simp [hei, hel]) (by simp)
  have hlen : vs.toArray.size = vs.length := by simp
  rw [hlen] at W
  have hwr : ∀ b, b ≠ e → b ≠ it → b ∉ [e, it] := fun b h1 h2 q => by
    rcases List.mem_cons.mp q with q | q
    · exact h1 q
    · exact h2 (List.mem_singleton.mp q)
  have hL₀ : h₀.get? env.locals = none := Heap.get?_none_of_le F.above
  refine ⟨vs.length + 1, fun k s' => (Xx5 fun h' tk m' nx i => Aa8 (s' = { s with heap := h', toks := tk }) (((∃ old, IsEnum h' e it ((i : Nat) : Int) old) ∧ h'.IsListIter it l i ∧ h'.IsList l vs.toArray)) (Fr h₀ env.locals h' m') (News h₀ env.locals h' nx) ((∀ p ∈ nx, p.1 ≠ e ∧ p.1 ≠ it)) (J i m' nx) (i ≤ vs.length) (k = vs.length + 1 - i)),
    ⟨s.heap, s.toks, m₀, news, 0, rfl, ⟨⟨_, he⟩, hit, hls⟩, F, N, hoff, hj, Nat.zero_le _, rfl⟩, ?_⟩
  rintro k s' hJz
  refine gz2 k s' ?_
  intro Gz hGz
  obtain ⟨h', tk, m', nx, i, rfl, hst', F', N', ho, hJ, hi, rfl⟩ := hJz
  refine hGz _ _ ?_
  clear hGz Gz
  by_cases hlt : i < vs.length
  · refine W.item i _ _ _ hlt hst' fun P vals h₂ tk₂ hPv hfr hP hmid hk₂ => ?_
    refine gz0 fun Gz hGz => ?_
    obtain ⟨t, v, hv, rfl⟩ := hPv
    refine hGz ?_
    clear hGz Gz
    have hv : vs[i]? = some v := by simpa using hv
    have hPwr := W.apart _ _ _ hmid
    have n2 : ∀ b o, b ≠ e → b ≠ it → h'.get? b = some o → h₂.get? b = some o := fun b o h1 h2 q => hk₂ b o (hwr b h1 h2) q
    refine W.go _ _ _ i P _ _ _ hmid fun h₃ hst₃ hk₃ => ?_
    have n3 : ∀ b o, b ≠ e → b ≠ it → h'.get? b = some o → h₃.get? b = some o := fun b o h1 h2 q => hk₃ b o (hwr b h1 h2) (n2 b o h1 h2 q)
    have ht : IsTup h₃ P #[.int (i : Int) t, v] := by
      refine gz0 fun Gz hGz => ?_
      obtain ⟨o, ho, r⟩ := hP
      refine hGz ?_
      clear hGz Gz
      exact ⟨o, hk₃ _ _ hPwr ho, r⟩
    refine assign_Tuple_tuple hh ht rfl rfl fun h₅ hx₅ => ?_
    have n5 : ∀ b o, h₃.get? b = some o → h₅.get? b = some o := fun b o e => hx₅ b o (Nat.ne_of_lt (Heap.lt_size e)) e
    have F₅ := (fr_two F' n3 heL hiL he₀ hi₀).keeps n5
    refine assignInOrder_cons (wpAny_assign_Name (wpAny_storeName_local hxi F₅.ns (fun h₆ hn₆ hs₆ => ?_) hp))
    refine assignInOrder_cons (wpAny_assign_Name (wpAny_storeName_local hxv hn₆ (fun h₇ hn₇ hs₇ => ?_) hp))
    refine assignInOrder_nil ?_
    have n7 : ∀ b o, b ≠ env.locals → h₃.get? b = some o → h₇.get? b = some o := fun b o hb q => hs₇.extBut b o hb (hs₆.extBut b o hb (n5 b o q))
    have F₇ : Fr h₀ env.locals h₇ (fun y => if y = xv then some v else if y = xi then some (.int (i : Int) t) else m' y) :=
      ⟨hn₇, fun b o q => hs₇.extBut b o (fun z => by rw [z, hL₀] at q; cases q) (hs₆.extBut b o (fun z => by rw [z, hL₀] at q; cases q) (F₅.keep b o q)), F'.above⟩
    have hml := hm _ _ _ hJ
    have hlL : l ≠ env.locals := (N' _ hml).2.1
    have hst₇ := W.frame _ _ h₇ hst₃ fun b hb o q => n7 b o (by
      rcases List.mem_cons.mp hb with rfl | hb
      · exact heL
      · rcases List.mem_cons.mp hb with rfl | hb
        · exact hiL
        · rw [List.mem_singleton.mp hb]; exact hlL) q
    refine gz0 fun Gz hGz => ?_
    obtain ⟨⟨oldv, heI⟩, ⟨oit, hoit, hitr⟩, hll⟩ := hst₇
    refine hGz ?_
    clear hGz Gz
    have N₇ : News h₀ env.locals h₇ ((e, { cls := .type "enumerate", dict := none, data := .fields #[.none, .bool false, .ref it, rawInt ((i + 1 : Nat) : Int), .none, oldv], slots := #[] }) :: (it, oit) :: nx) := fun p hp => by
      rcases List.mem_cons.mp hp with rfl | hp
      · exact ⟨heI, heL, he₀⟩
      · rcases List.mem_cons.mp hp with rfl | hp
        · exact ⟨hoit, hiL, hi₀⟩
        · exact ⟨n7 _ _ (N' p hp).2.1 (n3 _ _ (ho p hp).1 (ho p hp).2 (N' p hp).1), (N' p hp).2⟩
    refine wpAny_mono (turn i t v m' nx h₇ _ _ oit hv hJ ho F₇ N₇) (fun f s₃ q => ?_) fun _ _ e => e
    have fin : ((Xx4 fun h' tk m' nx' => Aa5 (s₃ = { s with heap := h', toks := tk }) (Fr h₀ env.locals h' m') (News h₀ env.locals h' ((e, { cls := .type "enumerate", dict := none, data := .fields #[.none, .bool false, .ref it, rawInt ((i + 1 : Nat) : Int), .none, oldv], slots := #[] }) :: nx')) ((∀ p ∈ nx', p.1 ≠ e)) (((∃ nx2, Aa3 (nx' = (it, oit) :: nx2) ((∀ p ∈ nx2, p.1 ≠ it)) (J (i + 1) m' nx2)))))) →
        ∃ m, m < vs.length + 1 - i ∧ (Xx5 fun h' tk m' nx i => Aa8 (s₃ = { s with heap := h', toks := tk }) (((∃ old, IsEnum h' e it ((i : Nat) : Int) old) ∧ h'.IsListIter it l i ∧ h'.IsList l vs.toArray)) (Fr h₀ env.locals h' m') (News h₀ env.locals h' nx) ((∀ p ∈ nx, p.1 ≠ e ∧ p.1 ≠ it)) (J i m' nx) (i ≤ vs.length) (m = vs.length + 1 - i)) := by
      rintro ⟨h3, tk3, m3, nx3, er, F3, Nx3, ho3, nx4, rfl, ho4, hj3⟩
      refine ⟨vs.length + 1 - (i + 1), by omega, h3, tk3, m3, nx4, i + 1, er, ⟨⟨oldv, (Nx3 _ (.head _)).1⟩, ⟨oit, (Nx3 (it, oit) (.tail _ (.head _))).1, hitr⟩, ?_⟩, F3, news_sub Nx3 fun p hp => .tail _ (.tail _ hp), fun p hp => ⟨ho3 p (.tail _ hp), ho4 p hp⟩, hj3, hlt, rfl⟩
      exact News.isList Nx3 (.tail _ (.tail _ (hm _ _ _ hj3)))
    cases f with
    | ret v => exact q
    | brk => exact q
    | next => exact fin q
    | cont => exact fin q
  · have hin : i = vs.length := by omega
    subst hin
    refine W.done _ _ _ hst' fun h₂ tk₂ hk₂ => ?_
    have n2 : ∀ b o, b ≠ e → b ≠ it → h'.get? b = some o → h₂.get? b = some o := fun b o h1 h2 q => hk₂ b o (hwr b h1 h2) q
    exact done m' nx h₂ tk₂ hJ (fr_two F' n2 heL hiL he₀ hi₀) fun p hp => ⟨n2 _ _ (ho p hp).1 (ho p hp).2 (N' p hp).1, (N' p hp).2⟩
end
end Mine
-- C43
namespace Mine
open LCg
noncomputable def wordOf (c k : Int) : Str := if k = 0 then decS c ++ "\n" else if k = 1 then Txt.join "_" (signs ("0" ++ decS c)) ++ " " else "\"" ++ decS c ++ " \""
noncomputable def spellOf (cells : List Int) (k : Nat) : Int := ((cells.getD (if 0 < k then k - 1 else 4) 0).fdiv 6).fmod 3
noncomputable def wordsTo (coins cells : List Int) (n : Nat) : List Str := (List.range n).map fun k => wordOf (coins.getD k 0) (spellOf cells k)
noncomputable def turnOf (coins cells : List Int) : Nat := (((cells.getD 4 0).fdiv 6).fmod coins.length).toNat
theorem call_enum' {prog : Program} {w : World} {A : Around} {E : Value → Shared → Prop} {s : Shared} {l : Addr} {items : Array Value} {Q : Value → Shared → Prop} (hL : s.heap.IsList l items)
    (h : ∀ h' e it, IsEnum h' e it 0 .none → h'.IsListIter it l 0 → e ≠ it → s.heap.objs.size ≤ e → s.heap.objs.size ≤ it →
      (∀ b o, s.heap.get? b = some o → h'.get? b = some o) → Q (.ref e) { s with heap := h' }) :
    wpAny (model prog w) A (call (.type "enumerate") [.ref l]) Q E s :=
  call_enumerate_list hL fun h' he hit hz hk => h h' _ _ he hit (Nat.succ_ne_self _) (Nat.le_succ _) (Nat.le_refl _) hk
theorem pick_from {vs : List Value} {x : Int} (h : 0 ≤ x) : (slicePick vs.toArray (some x) none none).toList = vs.drop x.toNat := by
  have e : sliceBounds (some x) none none vs.toArray.size = (((min x.toNat vs.toArray.size : Nat) : Int), ((vs.toArray.size : Nat) : Int), 1) := by
    simp only [sliceBounds, Option.getD_none, show (1 : Int) > 0 by decide, if_true, if_neg (show ¬ (x < 0) by omega)]
    congr 1
    omega
  rw [kmk_pick_nat _ e]
  show (vs.drop (min x.toNat vs.toArray.size)).take (vs.toArray.size - min x.toNat vs.toArray.size) = _
  rw [List.size_toArray, kmk_drop_min, List.take_of_length_le (by rw [List.length_drop]; omega)]
theorem pick_upto {vs : List Value} {y : Int} (h : 0 ≤ y) : (slicePick vs.toArray none (some y) none).toList = vs.take y.toNat := by
  have e : sliceBounds none (some y) none vs.toArray.size = (((0 : Nat) : Int), ((min y.toNat vs.toArray.size : Nat) : Int), 1) := by
    simp only [sliceBounds, Option.getD_none, show (1 : Int) > 0 by decide, if_true, if_neg (show ¬ (y < 0) by omega)]
    congr 1
    congr 1
    omega
  rw [kmk_pick_nat _ e]
  show (vs.drop 0).take (min y.toNat vs.toArray.size - 0) = _
  rw [List.drop_zero, Nat.sub_zero, List.size_toArray, kmk_take_min]
end Mine
namespace Mine
open LCg
theorem short_joins : (List.range 100).all (fun n => decide (("0" ++ decS (n : Nat)).length ≤ 1000) && decide ((Txt.join "_" (signs ("0" ++ decS (n : Nat)))).length ≤ 1000)) = true := by decide +kernel
theorem short_join {n : Int} (h0 : 0 ≤ n) (h1 : n < 100) : ("0" ++ decS n).length ≤ 1000 ∧ (Txt.join "_" (signs ("0" ++ decS n))).length ≤ 1000 := by
  have h := List.all_eq_true.mp short_joins n.toNat (List.mem_range.mpr (by omega))
  have e : ((n.toNat : Nat) : Int) = n := by omega
  rw [e] at h
  simpa using h
theorem word0 {x S : Int} (h : S = 0) : wordOf x S = decS x ++ "\n" := if_pos h
theorem word1 {x S : Int} (h : ¬ S = 0) (h1 : S = 1) : wordOf x S = Txt.join "_" (signs ("0" ++ decS x)) ++ " " := (if_neg h).trans (if_pos h1)
theorem word2 {x S : Int} (h : ¬ S = 0) (h1 : ¬ S = 1) : wordOf x S = "\"" ++ decS x ++ " \"" := (if_neg h).trans (if_neg h1)
theorem word_three (x S : Int) : wordOf x S = wordOf x 0 ∨ wordOf x S = wordOf x 1 ∨ wordOf x S = wordOf x 2 := by
  by_cases h0 : S = 0
  · subst h0; exact .inl rfl
  · by_cases h1 : S = 1
    · subst h1; exact .inr (.inl rfl)
    · exact .inr (.inr ((word2 h0 h1).trans (word2 (x := x) (S := 2) (by decide) (by decide)).symm))
theorem word_lens : (List.range 100).all (fun n => decide ((wordOf (n : Nat) 0).length ≤ 6) && decide ((wordOf (n : Nat) 1).length ≤ 6) && decide ((wordOf (n : Nat) 2).length ≤ 6)) = true := by decide +kernel
theorem word_len {n S : Int} (h0 : 0 ≤ n) (h1 : n < 100) : (wordOf n S).length ≤ 6 := by
  have h := List.all_eq_true.mp word_lens n.toNat (List.mem_range.mpr (by omega))
  have e : ((n.toNat : Nat) : Int) = n := by omega
  rw [e] at h
  simp only [Bool.and_eq_true, decide_eq_true_eq] at h
  rcases word_three n S with q | q | q <;> rw [q]
  · exact h.1.1
  · exact h.1.2
  · exact h.2
theorem sum_le6 : ∀ (l : List Str), (∀ y ∈ l, y.length ≤ 6) → (l.map (·.length)).sum ≤ 6 * l.length
  | [], _ => Nat.le_refl _
  | y :: r, h => by
    have h1 := h y (.head _)
    have h2 := sum_le6 r fun z hz => h z (.tail _ hz)
    simp only [List.map_cons, List.sum_cons, List.length_cons]
    omega
/-- the words as they are laid: begun at the turn -/
noncomputable def laid (coins cells : List Int) : List Str := (wordsTo coins cells coins.length).drop (turnOf coins cells) ++ (wordsTo coins cells coins.length).take (turnOf coins cells)
noncomputable def textOf (coins cells : List Int) : Str := Txt.join "" (laid coins cells) ++ "end"
theorem laid_mem {coins cells : List Int} {y : Str} (h : y ∈ laid coins cells) : ∃ i, y = wordOf (coins.getD i 0) (spellOf cells i) := by
  have h2 : y ∈ wordsTo coins cells coins.length := by
    rcases List.mem_append.mp h with h | h
    · exact List.mem_of_mem_drop h
    · exact List.mem_of_mem_take h
  refine gz0 fun Gz hGz => ?_
  obtain ⟨i, _, rfl⟩ := List.mem_map.mp h2
  refine hGz ?_
  clear hGz Gz
  exact ⟨i, rfl⟩
theorem laid_len (coins cells : List Int) : (laid coins cells).length = coins.length := by
  unfold laid
  rw [List.length_append, List.length_drop, List.length_take]
  simp [wordsTo]
  omega
theorem laid_sum {coins cells : List Int} (hb : ∀ i, 0 ≤ coins.getD i 0 ∧ coins.getD i 0 < 100) : ((laid coins cells).map (·.length)).sum ≤ 6 * coins.length := by
  have h := sum_le6 (laid coins cells) fun y hy => by
    refine gz0 fun Gz hGz => ?_
    obtain ⟨i, rfl⟩ := laid_mem hy
    refine hGz ?_
    clear hGz Gz
    exact word_len (hb i).1 (hb i).2
  rwa [laid_len] at h
theorem says_text (c k : Addr) (vs us : List Value) (nv nu : Nat) (coins cells : List Int) (fr : Led) (hm : (c, PySem.W.listOf vs.toArray nv) ∈ fr) (hi : IntsAre vs coins) (hm2 : (k, PySem.W.listOf us.toArray nu) ∈ fr) (hi2 : IntsAre us cells) (h5 : cells.length = 5)
    (hl : 4 ≤ coins.length ∧ coins.length ≤ 5) (hb : ∀ i, 0 ≤ coins.getD i 0 ∧ coins.getD i 0 < 100) :
    Says 10 60 325 [.ref c, .ref k] fr (fun v news => ∃ t, v = .str (textOf coins cells) t ∧ news = fr) := by
  ((have hfill : Mine.hd.heap_39 = Mine.hd.heap_39 ∧ PySem.Challenge.rw_sn0098_01 = PySem.Challenge.rw_sn0098_01 := (by k_fill; exact ⟨rfl, rfl⟩)); clear hfill)
  unfold Says
  intros
  rename_i hret
  refine wpAny_call ?_
  k_dflt walk_at "my enter"
  (rename Fr _ _ _ _ => F)
  obtain ⟨m', F1⟩ := names_ex F [("coins", .ref c), ("cells", .ref k)] (by ((repeat' (first | exact all_nil | refine all_cons rfl ?_))))
  clear F
  have hvl := hi.length
  have hul := hi2.length
  (repeat' (first | ((( (fail_if_success with_reducible first | refine st0 ?_ | refine st1 ?_ | refine st2 ?_ | refine st3 ?_))); (fail_if_success with_reducible first | refine st4 ?_ | refine st5 ?_ | refine st7 ?_ | refine st6 ?_ | refine st8 ?_ | refine st9 ?_); (first | ((with_reducible show wpAny _ _ (call (Value.builtin "len") _) _ _ _); ((k_here; k_dflt (refine' my_len (by k_asm) (by k_mem) (by omega) ?_;  k_whole); intro _ _))) | ((with_reducible show wpAny _ _ (call (Value.builtin "list.append") _) _ _ _); ((k_here; k_dflt (refine' my_append (by k_asm) (by k_asm) (by k_upd) (by (((try walk_at "my clear"); first | omega | (simp only [List.length_append, List.length_cons, List.length_nil]; omega)))) ?_;  k_whole); intro _ _ _; (try dsimp only); (try k_sweep)))) | ((with_reducible show wpAny _ _ (call (Value.builtin "list.append") _) _ _ _); ((k_here; k_dflt (refine' my_append (by k_asm) (by k_asm) (by k_upd) (by first | omega | (simp only [List.length_cons, List.length_nil, List.length_append]; omega)) ?_;  k_whole); intro _ _ _; (try dsimp only); (try k_sweep)))) | ((k_here; (with_reducible show wpAny _ _ (getMethod (Value.ref _) (Str.ofString "read") _) _ _ _); k_dflt (refine' my_fnget (by k_asm) (by k_mem) (by assumption) (by k_mem) (by assumption) (by exact if_pos rfl) (by assumption) (by assumption) (by (intro _ e; cases e)) ?_;  k_whole); intro _; dsimp only)) | ((k_here; (with_reducible show wpAny _ _ (getMethod (Value.ref 172) (Str.ofString "search") _) _ _ _); k_dflt (refine' get_172 (by k_asm) (by k_asm) ?_;  k_whole))) | ((k_here; (with_reducible show wpAny _ _ (getMethod (Value.ref 167) (Str.ofString "search") _) _ _ _); k_dflt (refine' get_167 (by k_asm) (by k_asm) ?_;  k_whole))) | ((k_here; (with_reducible show wpAny _ _ (getMethod (Value.ref _) (Str.ofString "pop") _) _ _ _); k_dflt (refine' my_get_pop (knd := PySem.intKind _ _) (by k_asm) (by k_mem) (by assumption) (by omega) ?_;  k_whole))) | ((with_reducible show wpAny _ _ (subscriptTail (PySem.Expr.Name _ _) (PySem.Expr.Slice _ _ _ _) (Value.ref _) (Value.ref _)) _ _ _); (((k_here; (with_reducible show wpAny _ _ (subscriptTail _ (PySem.Expr.Slice _ _ none _) (Value.ref _) (Value.ref _)) _ _ _); k_dflt (refine' kmk_slice_lit (by k_asm) (by k_asm) (by kmk_list) (by kmk_part) (by kmk_part) (by first | exact pick_from (by assumption) | exact pick_upto (by assumption)) ?_ (by with_unfolding_all rfl) (by kmk_pure) (by (rw [List.size_toArray, sizeLine_eq]; omega));  ); intro _ _ _ _ l1; (try k_lt l1); (try k_sweep)); (have _ := l1); clear l1))) | ((with_reducible show wpAny _ _ (subscriptTail (PySem.Expr.Name _ _) (PySem.Expr.Slice _ _ _ _) (Value.ref _) (Value.ref _)) _ _ _); ((k_here; (with_reducible show wpAny _ _ (subscriptTail _ (PySem.Expr.Slice (some _) (some _) (some _) _) (Value.ref _) (Value.ref _)) _ _ _); k_dflt (refine' my_slice3 (by k_asm) (by k_asm) (by kmk_list) (by k_asm) (by k_asm) (by decide) ?_;  k_whole); intro _ _ _ _ _ _ _ _ _; (try k_sweep)))) | ((with_reducible show wpAny _ _ (subscriptTail (PySem.Expr.Name _ _) (PySem.Expr.Slice _ _ _ _) (Value.ref _) (Value.ref _)) _ _ _); ((k_here; (with_reducible show wpAny _ _ (subscriptTail _ (PySem.Expr.Slice none none none _) (Value.ref _) (Value.ref _)) _ _ _); k_dflt (refine' my_slice_all (by k_asm) (by k_asm) (by k_mem) (by omega) ?_;  k_whole); intro _ _ _ _ _; (try k_sweep)))) | ((with_reducible show wpAny _ _ (subscriptTail (PySem.Expr.Name _ _) (PySem.Expr.IfExp _ _ _ _) (Value.ref _) (Value.int _ _)) _ _ _); ((k_here; (with_reducible show wpAny _ _ (subscriptTail _ _ (Value.ref _) (Value.int _ _)) _ _ _); k_dflt (refine' my_item_ints (by k_asm) (by k_mem) (by assumption) (by omega) (by omega) (by omega) ?_;  k_whole); intro _))) | ((k_here; (with_reducible show wpAny _ _ (call (Value.builtin "str.join") [Value.str _ _, Value.str _ _]) _ _ _); k_dflt (refine' join_strF (by with_unfolding_all rfl) (by k_asm) (by k_asm) (joinOk_signsN (N := 1000) (S := 10) (by assumption) (by decide) (by decide)) ?_;  k_whole); intro _ _ _ _ _; (try dsimp only); (try k_sweep))) | ((with_reducible show wpAny _ _ (binaryOp Operator.Add (Value.ref _) (Value.ref _)) _ _ _); (((k_here; (with_reducible show wpAny _ _ (binaryOp _ (Value.ref _) (Value.ref _)) _ _ _); k_dflt (refine' kmk_add_lit (by k_asm) (by k_asm) (by kmk_list) (by kmk_list) (by exact rfl) ?_ (by (simp only [List.length_drop, List.length_take, sizeLine_eq]; omega));  ); intro _ _ _ _ l1; (try k_lt l1); (try k_sweep)); (have _ := l1); clear l1))) | walk_at "mo"))))
  ((k_here; (with_unfolding_all refine' For_T ?_); k_whole))
  (repeat' (first | ((( (fail_if_success with_reducible first | refine st0 ?_ | refine st1 ?_ | refine st2 ?_ | refine st3 ?_))); (fail_if_success with_reducible first | refine st4 ?_ | refine st5 ?_ | refine st7 ?_ | refine st6 ?_ | refine st8 ?_ | refine st9 ?_); (first | ((with_reducible show wpAny _ _ (call (Value.builtin "len") _) _ _ _); ((k_here; k_dflt (refine' my_len (by k_asm) (by k_mem) (by omega) ?_;  k_whole); intro _ _))) | ((with_reducible show wpAny _ _ (call (Value.builtin "list.append") _) _ _ _); ((k_here; k_dflt (refine' my_append (by k_asm) (by k_asm) (by k_upd) (by (((try walk_at "my clear"); first | omega | (simp only [List.length_append, List.length_cons, List.length_nil]; omega)))) ?_;  k_whole); intro _ _ _; (try dsimp only); (try k_sweep)))) | ((with_reducible show wpAny _ _ (call (Value.builtin "list.append") _) _ _ _); ((k_here; k_dflt (refine' my_append (by k_asm) (by k_asm) (by k_upd) (by first | omega | (simp only [List.length_cons, List.length_nil, List.length_append]; omega)) ?_;  k_whole); intro _ _ _; (try dsimp only); (try k_sweep)))) | ((k_here; (with_reducible show wpAny _ _ (getMethod (Value.ref _) (Str.ofString "read") _) _ _ _); k_dflt (refine' my_fnget (by k_asm) (by k_mem) (by assumption) (by k_mem) (by assumption) (by exact if_pos rfl) (by assumption) (by assumption) (by (intro _ e; cases e)) ?_;  k_whole); intro _; dsimp only)) | ((k_here; (with_reducible show wpAny _ _ (getMethod (Value.ref 172) (Str.ofString "search") _) _ _ _); k_dflt (refine' get_172 (by k_asm) (by k_asm) ?_;  k_whole))) | ((k_here; (with_reducible show wpAny _ _ (getMethod (Value.ref 167) (Str.ofString "search") _) _ _ _); k_dflt (refine' get_167 (by k_asm) (by k_asm) ?_;  k_whole))) | ((k_here; (with_reducible show wpAny _ _ (getMethod (Value.ref _) (Str.ofString "pop") _) _ _ _); k_dflt (refine' my_get_pop (knd := PySem.intKind _ _) (by k_asm) (by k_mem) (by assumption) (by omega) ?_;  k_whole))) | ((with_reducible show wpAny _ _ (subscriptTail (PySem.Expr.Name _ _) (PySem.Expr.Slice _ _ _ _) (Value.ref _) (Value.ref _)) _ _ _); (((k_here; (with_reducible show wpAny _ _ (subscriptTail _ (PySem.Expr.Slice _ _ none _) (Value.ref _) (Value.ref _)) _ _ _); k_dflt (refine' kmk_slice_lit (by k_asm) (by k_asm) (by kmk_list) (by kmk_part) (by kmk_part) (by first | exact pick_from (by assumption) | exact pick_upto (by assumption)) ?_ (by with_unfolding_all rfl) (by kmk_pure) (by (rw [List.size_toArray, sizeLine_eq]; omega));  ); intro _ _ _ _ l1; (try k_lt l1); (try k_sweep)); (have _ := l1); clear l1))) | ((with_reducible show wpAny _ _ (subscriptTail (PySem.Expr.Name _ _) (PySem.Expr.Slice _ _ _ _) (Value.ref _) (Value.ref _)) _ _ _); ((k_here; (with_reducible show wpAny _ _ (subscriptTail _ (PySem.Expr.Slice (some _) (some _) (some _) _) (Value.ref _) (Value.ref _)) _ _ _); k_dflt (refine' my_slice3 (by k_asm) (by k_asm) (by kmk_list) (by k_asm) (by k_asm) (by decide) ?_;  k_whole); intro _ _ _ _ _ _ _ _ _; (try k_sweep)))) | ((with_reducible show wpAny _ _ (subscriptTail (PySem.Expr.Name _ _) (PySem.Expr.Slice _ _ _ _) (Value.ref _) (Value.ref _)) _ _ _); ((k_here; (with_reducible show wpAny _ _ (subscriptTail _ (PySem.Expr.Slice none none none _) (Value.ref _) (Value.ref _)) _ _ _); k_dflt (refine' my_slice_all (by k_asm) (by k_asm) (by k_mem) (by omega) ?_;  k_whole); intro _ _ _ _ _; (try k_sweep)))) | ((with_reducible show wpAny _ _ (subscriptTail (PySem.Expr.Name _ _) (PySem.Expr.IfExp _ _ _ _) (Value.ref _) (Value.int _ _)) _ _ _); ((k_here; (with_reducible show wpAny _ _ (subscriptTail _ _ (Value.ref _) (Value.int _ _)) _ _ _); k_dflt (refine' my_item_ints (by k_asm) (by k_mem) (by assumption) (by omega) (by omega) (by omega) ?_;  k_whole); intro _))) | ((k_here; (with_reducible show wpAny _ _ (call (Value.builtin "str.join") [Value.str _ _, Value.str _ _]) _ _ _); k_dflt (refine' join_strF (by with_unfolding_all rfl) (by k_asm) (by k_asm) (joinOk_signsN (N := 1000) (S := 10) (by assumption) (by decide) (by decide)) ?_;  k_whole); intro _ _ _ _ _; (try dsimp only); (try k_sweep))) | ((with_reducible show wpAny _ _ (binaryOp Operator.Add (Value.ref _) (Value.ref _)) _ _ _); (((k_here; (with_reducible show wpAny _ _ (binaryOp _ (Value.ref _) (Value.ref _)) _ _ _); k_dflt (refine' kmk_add_lit (by k_asm) (by k_asm) (by kmk_list) (by kmk_list) (by exact rfl) ?_ (by (simp only [List.length_drop, List.length_take, sizeLine_eq]; omega));  ); intro _ _ _ _ l1; (try k_lt l1); (try k_sweep)); (have _ := l1); clear l1))) | walk_at "mo"))))
  (rename Fr _ _ _ _ => F9)
  (rename News _ _ _ _ => N9)
  rename_i D _ lD _
  obtain ⟨L, hL⟩ := fr_L F9
  subst hL
  have hLs := F9.ns.lt
  have hab := F9.above
  have hfs := fun (p : Addr × Obj) hp => Heap.lt_size (N9 p hp).1
  refine call_enum' (items := vs.toArray) (News.isList N9 (.tail _ hm)) fun h' e it he hit ne h1 h2 hk => ?_
  have F10 := F9.keeps hk
  have N10 : News _ _ h' _ := fun p hp => ⟨hk _ _ (N9 p hp).1, (N9 p hp).2⟩
  clear hk
  dsimp only at hLs h1 h2 F10 hfs ⊢
  have le0 := fun a (ha : _ ≤ a) => Heap.get?_none_of_le (Nat.le_trans hab (Nat.le_of_lt (Nat.lt_of_lt_of_le hLs ha)))
  have hcs := hfs _ (.tail _ hm)
  refine loopET (l := c) (vs := vs) (nn := nv) (fun i m nx => (Xx2 fun (ws : List Value) (kk : Nat) => Aa3 (nx = (D, PySem.W.listOf ws.toArray kk) :: fr) (HasN m [("coins", .ref c), ("cells", .ref k), ("words", .ref D)]) (StrsAre ws (wordsTo coins cells i)))) (by rfl) (by rfl) (by rfl) (by rfl) ?_ he hit
    ne (Nat.ne_of_gt (Nat.lt_of_lt_of_le hcs h1)) (Nat.ne_of_gt (Nat.lt_of_lt_of_le hcs h2)) (Nat.ne_of_gt (Nat.lt_of_lt_of_le hLs h1)) (Nat.ne_of_gt (Nat.lt_of_lt_of_le hLs h2)) (le0 _ h1) (le0 _ h2) F10 N10 (fun p hp => ⟨Nat.ne_of_lt (Nat.lt_of_lt_of_le (hfs p hp) h1), Nat.ne_of_lt (Nat.lt_of_lt_of_le (hfs p hp) h2)⟩) ?_ ?_ ?_
  · rintro i m nx hJz
    refine gz1 nx ?_
    intro Gz hGz
    obtain ⟨ws, kk, rfl, _⟩ := hJz
    refine hGz _ ?_
    clear hGz Gz
    exact .tail _ hm
  · exact ⟨[], 0, rfl, by ((repeat' (first | exact all_nil | refine all_cons rfl ?_))), .nil⟩
  · rintro i t v m₁ nx h14 tk14 oe oi hv hJz
    refine gz1 nx ?_
    intro Gz hGz
    obtain ⟨ws, kk, rfl, hN, hws⟩ := hJz
    refine hGz _ ?_
    clear hGz Gz
    rintro ho F14 N14
    refine gz0 fun Gz hGz => ?_
    obtain ⟨x, tx, rfl, hx⟩ := hi.at i v hv
    refine hGz ?_
    clear hGz Gz
    obtain ⟨m10, F14⟩ := names_ex F14 [("coin", .int x tx), ("k", .int i t), ("coins", .ref c), ("cells", .ref k), ("words", .ref D)] (names_for (names_for hN (fun p hp => by
      simp only [List.map_cons, List.map_nil, List.mem_cons, List.not_mem_nil, or_false] at hp
      rcases hp with rfl | rfl | rfl <;> decide)) (fun p hp => by
      simp only [List.map_cons, List.map_nil, List.mem_cons, List.not_mem_nil, or_false] at hp
      rcases hp with rfl | rfl | rfl | rfl <;> decide))
    have hil : i < coins.length := (List.getElem?_eq_some_iff.mp hx).1
    have hbx := hb i
    have hgx : coins.getD i 0 = x := by simp [List.getD, hx]
    rw [hgx] at hbx
    have hwl := strs_len hws
    have hwl2 : (wordsTo coins cells i).length = i := by simp [wordsTo]
    have hw1 : wordsTo coins cells (i + 1) = wordsTo coins cells i ++ [wordOf x (spellOf cells i)] := by
      unfold wordsTo
      rw [List.range_succ, List.map_append, List.map_cons, List.map_nil, hgx]
    obtain ⟨hj1, hj2⟩ := short_join hbx.1 hbx.2
    have q1 : @Ne Nat e D := fun z => (ho (D, PySem.W.listOf ws.toArray kk) (.head _)).1 z.symm
    have q2 : @Ne Nat it D := fun z => (ho (D, PySem.W.listOf ws.toArray kk) (.head _)).2 z.symm
    have q3 : ∀ p ∈ fr, p.1 ≠ D := fun p hp => Nat.ne_of_lt (lD p hp)
    have q4 : ws.length < 100 := by omega
    by_cases hpos : 0 < i
    · have hsp : spellOf cells i = ((cells.getD ((i : Int) - 1).toNat 0).fdiv 6).fmod 3 := by
        have e : ((i : Int) - 1).toNat = i - 1 := by omega
        rw [e]
        unfold spellOf
        rw [if_pos hpos]
      rw [hsp] at hw1
      (repeat' (first | ((( (fail_if_success with_reducible first | refine st0 ?_ | refine st1 ?_ | refine st2 ?_ | refine st3 ?_))); (fail_if_success with_reducible first | refine st4 ?_ | refine st5 ?_ | refine st7 ?_ | refine st6 ?_ | refine st8 ?_ | refine st9 ?_); (first | ((with_reducible show wpAny _ _ (call (Value.builtin "len") _) _ _ _); ((k_here; k_dflt (refine' my_len (by k_asm) (by k_mem) (by omega) ?_;  k_whole); intro _ _))) | ((with_reducible show wpAny _ _ (call (Value.builtin "list.append") _) _ _ _); ((k_here; k_dflt (refine' my_append (by k_asm) (by k_asm) (by k_upd) (by (((try walk_at "my clear"); first | omega | (simp only [List.length_append, List.length_cons, List.length_nil]; omega)))) ?_;  k_whole); intro _ _ _; (try dsimp only); (try k_sweep)))) | ((with_reducible show wpAny _ _ (call (Value.builtin "list.append") _) _ _ _); ((k_here; k_dflt (refine' my_append (by k_asm) (by k_asm) (by k_upd) (by first | omega | (simp only [List.length_cons, List.length_nil, List.length_append]; omega)) ?_;  k_whole); intro _ _ _; (try dsimp only); (try k_sweep)))) | ((k_here; (with_reducible show wpAny _ _ (getMethod (Value.ref _) (Str.ofString "read") _) _ _ _); k_dflt (refine' my_fnget (by k_asm) (by k_mem) (by assumption) (by k_mem) (by assumption) (by exact if_pos rfl) (by assumption) (by assumption) (by (intro _ e; cases e)) ?_;  k_whole); intro _; dsimp only)) | ((k_here; (with_reducible show wpAny _ _ (getMethod (Value.ref 172) (Str.ofString "search") _) _ _ _); k_dflt (refine' get_172 (by k_asm) (by k_asm) ?_;  k_whole))) | ((k_here; (with_reducible show wpAny _ _ (getMethod (Value.ref 167) (Str.ofString "search") _) _ _ _); k_dflt (refine' get_167 (by k_asm) (by k_asm) ?_;  k_whole))) | ((k_here; (with_reducible show wpAny _ _ (getMethod (Value.ref _) (Str.ofString "pop") _) _ _ _); k_dflt (refine' my_get_pop (knd := PySem.intKind _ _) (by k_asm) (by k_mem) (by assumption) (by omega) ?_;  k_whole))) | ((with_reducible show wpAny _ _ (subscriptTail (PySem.Expr.Name _ _) (PySem.Expr.Slice _ _ _ _) (Value.ref _) (Value.ref _)) _ _ _); (((k_here; (with_reducible show wpAny _ _ (subscriptTail _ (PySem.Expr.Slice _ _ none _) (Value.ref _) (Value.ref _)) _ _ _); k_dflt (refine' kmk_slice_lit (by k_asm) (by k_asm) (by kmk_list) (by kmk_part) (by kmk_part) (by first | exact pick_from (by assumption) | exact pick_upto (by assumption)) ?_ (by with_unfolding_all rfl) (by kmk_pure) (by (rw [List.size_toArray, sizeLine_eq]; omega));  ); intro _ _ _ _ l1; (try k_lt l1); (try k_sweep)); (have _ := l1); clear l1))) | ((with_reducible show wpAny _ _ (subscriptTail (PySem.Expr.Name _ _) (PySem.Expr.Slice _ _ _ _) (Value.ref _) (Value.ref _)) _ _ _); ((k_here; (with_reducible show wpAny _ _ (subscriptTail _ (PySem.Expr.Slice (some _) (some _) (some _) _) (Value.ref _) (Value.ref _)) _ _ _); k_dflt (refine' my_slice3 (by k_asm) (by k_asm) (by kmk_list) (by k_asm) (by k_asm) (by decide) ?_;  k_whole); intro _ _ _ _ _ _ _ _ _; (try k_sweep)))) | ((with_reducible show wpAny _ _ (subscriptTail (PySem.Expr.Name _ _) (PySem.Expr.Slice _ _ _ _) (Value.ref _) (Value.ref _)) _ _ _); ((k_here; (with_reducible show wpAny _ _ (subscriptTail _ (PySem.Expr.Slice none none none _) (Value.ref _) (Value.ref _)) _ _ _); k_dflt (refine' my_slice_all (by k_asm) (by k_asm) (by k_mem) (by omega) ?_;  k_whole); intro _ _ _ _ _; (try k_sweep)))) | ((with_reducible show wpAny _ _ (subscriptTail (PySem.Expr.Name _ _) (PySem.Expr.IfExp _ _ _ _) (Value.ref _) (Value.int _ _)) _ _ _); ((k_here; (with_reducible show wpAny _ _ (subscriptTail _ _ (Value.ref _) (Value.int _ _)) _ _ _); k_dflt (refine' my_item_ints (by k_asm) (by k_mem) (by assumption) (by omega) (by omega) (by omega) ?_;  k_whole); intro _))) | ((k_here; (with_reducible show wpAny _ _ (call (Value.builtin "str.join") [Value.str _ _, Value.str _ _]) _ _ _); k_dflt (refine' join_strF (by with_unfolding_all rfl) (by k_asm) (by k_asm) (joinOk_signsN (N := 1000) (S := 10) (by assumption) (by decide) (by decide)) ?_;  k_whole); intro _ _ _ _ _; (try dsimp only); (try k_sweep))) | ((with_reducible show wpAny _ _ (binaryOp Operator.Add (Value.ref _) (Value.ref _)) _ _ _); (((k_here; (with_reducible show wpAny _ _ (binaryOp _ (Value.ref _) (Value.ref _)) _ _ _); k_dflt (refine' kmk_add_lit (by k_asm) (by k_asm) (by kmk_list) (by kmk_list) (by exact rfl) ?_ (by (simp only [List.length_drop, List.length_take, sizeLine_eq]; omega));  ); intro _ _ _ _ l1; (try k_lt l1); (try k_sweep)); (have _ := l1); clear l1))) | walk_at "mo"))))
      all_goals
        refine TurnTo.intro (by k_asm) (by k_asm) (by (((try simp only [List.cons_append, List.nil_append]); (repeat' (first | exact List.forall_mem_nil _ | refine List.forall_mem_cons.mpr ⟨?_, ?_⟩)) <;> (first | k_mem | (intro _ _; k_mem))))) ?_ ⟨_, rfl, ?_, ws ++ [_], _, rfl, by ((repeat' (first | exact all_nil | refine all_cons rfl ?_))), ?_⟩
        · exact List.forall_mem_cons.mpr ⟨Ne.symm ne, List.forall_mem_cons.mpr ⟨Ne.symm q1, fun p hp => (ho p (.tail _ hp)).1⟩⟩
        · exact List.forall_mem_cons.mpr ⟨Ne.symm q2, fun p hp => (ho p (.tail _ hp)).2⟩
        · rw [hw1]
          first
            | (rw [word0 (S := ((cells.getD ((i : Int) - 1).toNat 0).fdiv 6).fmod 3) (by assumption)]; exact strs_app hws (.cons _ _ .nil))
            | (rw [word1 (S := ((cells.getD ((i : Int) - 1).toNat 0).fdiv 6).fmod 3) (by assumption) (by assumption)]; exact strs_app hws (.cons _ _ .nil))
            | (rw [word2 (S := ((cells.getD ((i : Int) - 1).toNat 0).fdiv 6).fmod 3) (by assumption) (by assumption)]; exact strs_app hws (.cons _ _ .nil))
    · have hsp : spellOf cells i = ((cells.getD (Int.toNat 4) 0).fdiv 6).fmod 3 := by
        unfold spellOf
        rw [if_neg hpos]
        rfl
      rw [hsp] at hw1
      (repeat' (first | ((( (fail_if_success with_reducible first | refine st0 ?_ | refine st1 ?_ | refine st2 ?_ | refine st3 ?_))); (fail_if_success with_reducible first | refine st4 ?_ | refine st5 ?_ | refine st7 ?_ | refine st6 ?_ | refine st8 ?_ | refine st9 ?_); (first | ((with_reducible show wpAny _ _ (call (Value.builtin "len") _) _ _ _); ((k_here; k_dflt (refine' my_len (by k_asm) (by k_mem) (by omega) ?_;  k_whole); intro _ _))) | ((with_reducible show wpAny _ _ (call (Value.builtin "list.append") _) _ _ _); ((k_here; k_dflt (refine' my_append (by k_asm) (by k_asm) (by k_upd) (by (((try walk_at "my clear"); first | omega | (simp only [List.length_append, List.length_cons, List.length_nil]; omega)))) ?_;  k_whole); intro _ _ _; (try dsimp only); (try k_sweep)))) | ((with_reducible show wpAny _ _ (call (Value.builtin "list.append") _) _ _ _); ((k_here; k_dflt (refine' my_append (by k_asm) (by k_asm) (by k_upd) (by first | omega | (simp only [List.length_cons, List.length_nil, List.length_append]; omega)) ?_;  k_whole); intro _ _ _; (try dsimp only); (try k_sweep)))) | ((k_here; (with_reducible show wpAny _ _ (getMethod (Value.ref _) (Str.ofString "read") _) _ _ _); k_dflt (refine' my_fnget (by k_asm) (by k_mem) (by assumption) (by k_mem) (by assumption) (by exact if_pos rfl) (by assumption) (by assumption) (by (intro _ e; cases e)) ?_;  k_whole); intro _; dsimp only)) | ((k_here; (with_reducible show wpAny _ _ (getMethod (Value.ref 172) (Str.ofString "search") _) _ _ _); k_dflt (refine' get_172 (by k_asm) (by k_asm) ?_;  k_whole))) | ((k_here; (with_reducible show wpAny _ _ (getMethod (Value.ref 167) (Str.ofString "search") _) _ _ _); k_dflt (refine' get_167 (by k_asm) (by k_asm) ?_;  k_whole))) | ((k_here; (with_reducible show wpAny _ _ (getMethod (Value.ref _) (Str.ofString "pop") _) _ _ _); k_dflt (refine' my_get_pop (knd := PySem.intKind _ _) (by k_asm) (by k_mem) (by assumption) (by omega) ?_;  k_whole))) | ((with_reducible show wpAny _ _ (subscriptTail (PySem.Expr.Name _ _) (PySem.Expr.Slice _ _ _ _) (Value.ref _) (Value.ref _)) _ _ _); (((k_here; (with_reducible show wpAny _ _ (subscriptTail _ (PySem.Expr.Slice _ _ none _) (Value.ref _) (Value.ref _)) _ _ _); k_dflt (refine' kmk_slice_lit (by k_asm) (by k_asm) (by kmk_list) (by kmk_part) (by kmk_part) (by first | exact pick_from (by assumption) | exact pick_upto (by assumption)) ?_ (by with_unfolding_all rfl) (by kmk_pure) (by (rw [List.size_toArray, sizeLine_eq]; omega));  ); intro _ _ _ _ l1; (try k_lt l1); (try k_sweep)); (have _ := l1); clear l1))) | ((with_reducible show wpAny _ _ (subscriptTail (PySem.Expr.Name _ _) (PySem.Expr.Slice _ _ _ _) (Value.ref _) (Value.ref _)) _ _ _); ((k_here; (with_reducible show wpAny _ _ (subscriptTail _ (PySem.Expr.Slice (some _) (some _) (some _) _) (Value.ref _) (Value.ref _)) _ _ _); k_dflt (refine' my_slice3 (by k_asm) (by k_asm) (by kmk_list) (by k_asm) (by k_asm) (by decide) ?_;  k_whole); intro _ _ _ _ _ _ _ _ _; (try k_sweep)))) | ((with_reducible show wpAny _ _ (subscriptTail (PySem.Expr.Name _ _) (PySem.Expr.Slice _ _ _ _) (Value.ref _) (Value.ref _)) _ _ _); ((k_here; (with_reducible show wpAny _ _ (subscriptTail _ (PySem.Expr.Slice none none none _) (Value.ref _) (Value.ref _)) _ _ _); k_dflt (refine' my_slice_all (by k_asm) (by k_asm) (by k_mem) (by omega) ?_;  k_whole); intro _ _ _ _ _; (try k_sweep)))) | ((with_reducible show wpAny _ _ (subscriptTail (PySem.Expr.Name _ _) (PySem.Expr.IfExp _ _ _ _) (Value.ref _) (Value.int _ _)) _ _ _); ((k_here; (with_reducible show wpAny _ _ (subscriptTail _ _ (Value.ref _) (Value.int _ _)) _ _ _); k_dflt (refine' my_item_ints (by k_asm) (by k_mem) (by assumption) (by omega) (by omega) (by omega) ?_;  k_whole); intro _))) | ((k_here; (with_reducible show wpAny _ _ (call (Value.builtin "str.join") [Value.str _ _, Value.str _ _]) _ _ _); k_dflt (refine' join_strF (by with_unfolding_all rfl) (by k_asm) (by k_asm) (joinOk_signsN (N := 1000) (S := 10) (by assumption) (by decide) (by decide)) ?_;  k_whole); intro _ _ _ _ _; (try dsimp only); (try k_sweep))) | ((with_reducible show wpAny _ _ (binaryOp Operator.Add (Value.ref _) (Value.ref _)) _ _ _); (((k_here; (with_reducible show wpAny _ _ (binaryOp _ (Value.ref _) (Value.ref _)) _ _ _); k_dflt (refine' kmk_add_lit (by k_asm) (by k_asm) (by kmk_list) (by kmk_list) (by exact rfl) ?_ (by (simp only [List.length_drop, List.length_take, sizeLine_eq]; omega));  ); intro _ _ _ _ l1; (try k_lt l1); (try k_sweep)); (have _ := l1); clear l1))) | walk_at "mo"))))
      all_goals
        refine TurnTo.intro (by k_asm) (by k_asm) (by (((try simp only [List.cons_append, List.nil_append]); (repeat' (first | exact List.forall_mem_nil _ | refine List.forall_mem_cons.mpr ⟨?_, ?_⟩)) <;> (first | k_mem | (intro _ _; k_mem))))) ?_ ⟨_, rfl, ?_, ws ++ [_], _, rfl, by ((repeat' (first | exact all_nil | refine all_cons rfl ?_))), ?_⟩
        · exact List.forall_mem_cons.mpr ⟨Ne.symm ne, List.forall_mem_cons.mpr ⟨Ne.symm q1, fun p hp => (ho p (.tail _ hp)).1⟩⟩
        · exact List.forall_mem_cons.mpr ⟨Ne.symm q2, fun p hp => (ho p (.tail _ hp)).2⟩
        · rw [hw1]
          first
            | (rw [word0 (S := ((cells.getD (Int.toNat 4) 0).fdiv 6).fmod 3) (by assumption)]; exact strs_app hws (.cons _ _ .nil))
            | (rw [word1 (S := ((cells.getD (Int.toNat 4) 0).fdiv 6).fmod 3) (by assumption) (by assumption)]; exact strs_app hws (.cons _ _ .nil))
            | (rw [word2 (S := ((cells.getD (Int.toNat 4) 0).fdiv 6).fmod 3) (by assumption) (by assumption)]; exact strs_app hws (.cons _ _ .nil))
  · rintro m₁ nx h9 tk9 hJz
    refine gz1 nx ?_
    intro Gz hGz
    obtain ⟨ws, kk, rfl, hN, hws⟩ := hJz
    refine hGz _ ?_
    clear hGz Gz
    rintro F9 N9
    obtain ⟨m10, F9⟩ := names_ex F9 [("coins", .ref c), ("cells", .ref k), ("words", .ref D)] hN
    have hwl := strs_len hws
    have hwl2 : (wordsTo coins cells vs.length).length = coins.length := by simp [wordsTo, hvl]
    have htn : 0 ≤ ((cells.getD (Int.toNat 4) 0).fdiv 6).fmod (vs.length : Int) := Int.fmod_nonneg_of_pos _ (by omega)
    (repeat' (first | ((( (fail_if_success with_reducible first | refine st0 ?_ | refine st1 ?_ | refine st2 ?_ | refine st3 ?_))); (fail_if_success with_reducible first | refine st4 ?_ | refine st5 ?_ | refine st7 ?_ | refine st6 ?_ | refine st8 ?_ | refine st9 ?_); (first | ((with_reducible show wpAny _ _ (call (Value.builtin "len") _) _ _ _); ((k_here; k_dflt (refine' my_len (by k_asm) (by k_mem) (by omega) ?_;  k_whole); intro _ _))) | ((with_reducible show wpAny _ _ (call (Value.builtin "list.append") _) _ _ _); ((k_here; k_dflt (refine' my_append (by k_asm) (by k_asm) (by k_upd) (by (((try walk_at "my clear"); first | omega | (simp only [List.length_append, List.length_cons, List.length_nil]; omega)))) ?_;  k_whole); intro _ _ _; (try dsimp only); (try k_sweep)))) | ((with_reducible show wpAny _ _ (call (Value.builtin "list.append") _) _ _ _); ((k_here; k_dflt (refine' my_append (by k_asm) (by k_asm) (by k_upd) (by first | omega | (simp only [List.length_cons, List.length_nil, List.length_append]; omega)) ?_;  k_whole); intro _ _ _; (try dsimp only); (try k_sweep)))) | ((k_here; (with_reducible show wpAny _ _ (getMethod (Value.ref _) (Str.ofString "read") _) _ _ _); k_dflt (refine' my_fnget (by k_asm) (by k_mem) (by assumption) (by k_mem) (by assumption) (by exact if_pos rfl) (by assumption) (by assumption) (by (intro _ e; cases e)) ?_;  k_whole); intro _; dsimp only)) | ((k_here; (with_reducible show wpAny _ _ (getMethod (Value.ref 172) (Str.ofString "search") _) _ _ _); k_dflt (refine' get_172 (by k_asm) (by k_asm) ?_;  k_whole))) | ((k_here; (with_reducible show wpAny _ _ (getMethod (Value.ref 167) (Str.ofString "search") _) _ _ _); k_dflt (refine' get_167 (by k_asm) (by k_asm) ?_;  k_whole))) | ((k_here; (with_reducible show wpAny _ _ (getMethod (Value.ref _) (Str.ofString "pop") _) _ _ _); k_dflt (refine' my_get_pop (knd := PySem.intKind _ _) (by k_asm) (by k_mem) (by assumption) (by omega) ?_;  k_whole))) | ((with_reducible show wpAny _ _ (subscriptTail (PySem.Expr.Name _ _) (PySem.Expr.Slice _ _ _ _) (Value.ref _) (Value.ref _)) _ _ _); (((k_here; (with_reducible show wpAny _ _ (subscriptTail _ (PySem.Expr.Slice _ _ none _) (Value.ref _) (Value.ref _)) _ _ _); k_dflt (refine' kmk_slice_lit (by k_asm) (by k_asm) (by kmk_list) (by kmk_part) (by kmk_part) (by first | exact pick_from (by assumption) | exact pick_upto (by assumption)) ?_ (by with_unfolding_all rfl) (by kmk_pure) (by (rw [List.size_toArray, sizeLine_eq]; omega));  ); intro _ _ _ _ l1; (try k_lt l1); (try k_sweep)); (have _ := l1); clear l1))) | ((with_reducible show wpAny _ _ (subscriptTail (PySem.Expr.Name _ _) (PySem.Expr.Slice _ _ _ _) (Value.ref _) (Value.ref _)) _ _ _); ((k_here; (with_reducible show wpAny _ _ (subscriptTail _ (PySem.Expr.Slice (some _) (some _) (some _) _) (Value.ref _) (Value.ref _)) _ _ _); k_dflt (refine' my_slice3 (by k_asm) (by k_asm) (by kmk_list) (by k_asm) (by k_asm) (by decide) ?_;  k_whole); intro _ _ _ _ _ _ _ _ _; (try k_sweep)))) | ((with_reducible show wpAny _ _ (subscriptTail (PySem.Expr.Name _ _) (PySem.Expr.Slice _ _ _ _) (Value.ref _) (Value.ref _)) _ _ _); ((k_here; (with_reducible show wpAny _ _ (subscriptTail _ (PySem.Expr.Slice none none none _) (Value.ref _) (Value.ref _)) _ _ _); k_dflt (refine' my_slice_all (by k_asm) (by k_asm) (by k_mem) (by omega) ?_;  k_whole); intro _ _ _ _ _; (try k_sweep)))) | ((with_reducible show wpAny _ _ (subscriptTail (PySem.Expr.Name _ _) (PySem.Expr.IfExp _ _ _ _) (Value.ref _) (Value.int _ _)) _ _ _); ((k_here; (with_reducible show wpAny _ _ (subscriptTail _ _ (Value.ref _) (Value.int _ _)) _ _ _); k_dflt (refine' my_item_ints (by k_asm) (by k_mem) (by assumption) (by omega) (by omega) (by omega) ?_;  k_whole); intro _))) | ((k_here; (with_reducible show wpAny _ _ (call (Value.builtin "str.join") [Value.str _ _, Value.str _ _]) _ _ _); k_dflt (refine' join_strF (by with_unfolding_all rfl) (by k_asm) (by k_asm) (joinOk_signsN (N := 1000) (S := 10) (by assumption) (by decide) (by decide)) ?_;  k_whole); intro _ _ _ _ _; (try dsimp only); (try k_sweep))) | ((with_reducible show wpAny _ _ (binaryOp Operator.Add (Value.ref _) (Value.ref _)) _ _ _); (((k_here; (with_reducible show wpAny _ _ (binaryOp _ (Value.ref _) (Value.ref _)) _ _ _); k_dflt (refine' kmk_add_lit (by k_asm) (by k_asm) (by kmk_list) (by kmk_list) (by exact rfl) ?_ (by (simp only [List.length_drop, List.length_take, sizeLine_eq]; omega));  ); intro _ _ _ _ l1; (try k_lt l1); (try k_sweep)); (have _ := l1); clear l1))) | walk_at "mo"))))
    (rename Fr _ _ _ _ => F3)
    (rename News _ _ _ _ => N3)
    rw [hvl] at hws
    have hst : StrsAre (ws.drop (turnOf coins cells) ++ ws.take (turnOf coins cells)) (laid coins cells) := strs_app (hws.drop' _) (hws.take' _)
    have hsum := laid_sum (cells := cells) hb
    have hlen := laid_len coins cells
    refine join_listW (ys := laid coins cells) (News.isList N3 (.head _)) ?_ (by decide) (by omega) fun t' k' => ?_
    · rw [hvl]
      exact hst
    · have hjl : (Txt.join "" (laid coins cells)).length ≤ 1000 := by
        refine Nat.le_trans (show (Builtin.Str.glued "" (laid coins cells)).length ≤ _ from ?_) (show ((laid coins cells).map (·.length)).sum + (laid coins cells).length * ("" : Str).length ≤ 1000 from ?_)
        · rw [StrLaws.glued_eq_join]
          exact StrLaws.join_length_le _ _
        · have : ("" : Str).length = 0 := rfl
          rw [this]
          omega
      (repeat' (first | ((( (fail_if_success with_reducible first | refine st0 ?_ | refine st1 ?_ | refine st2 ?_ | refine st3 ?_))); (fail_if_success with_reducible first | refine st4 ?_ | refine st5 ?_ | refine st7 ?_ | refine st6 ?_ | refine st8 ?_ | refine st9 ?_); (first | ((with_reducible show wpAny _ _ (call (Value.builtin "len") _) _ _ _); ((k_here; k_dflt (refine' my_len (by k_asm) (by k_mem) (by omega) ?_;  k_whole); intro _ _))) | ((with_reducible show wpAny _ _ (call (Value.builtin "list.append") _) _ _ _); ((k_here; k_dflt (refine' my_append (by k_asm) (by k_asm) (by k_upd) (by (((try walk_at "my clear"); first | omega | (simp only [List.length_append, List.length_cons, List.length_nil]; omega)))) ?_;  k_whole); intro _ _ _; (try dsimp only); (try k_sweep)))) | ((with_reducible show wpAny _ _ (call (Value.builtin "list.append") _) _ _ _); ((k_here; k_dflt (refine' my_append (by k_asm) (by k_asm) (by k_upd) (by first | omega | (simp only [List.length_cons, List.length_nil, List.length_append]; omega)) ?_;  k_whole); intro _ _ _; (try dsimp only); (try k_sweep)))) | ((k_here; (with_reducible show wpAny _ _ (getMethod (Value.ref _) (Str.ofString "read") _) _ _ _); k_dflt (refine' my_fnget (by k_asm) (by k_mem) (by assumption) (by k_mem) (by assumption) (by exact if_pos rfl) (by assumption) (by assumption) (by (intro _ e; cases e)) ?_;  k_whole); intro _; dsimp only)) | ((k_here; (with_reducible show wpAny _ _ (getMethod (Value.ref 172) (Str.ofString "search") _) _ _ _); k_dflt (refine' get_172 (by k_asm) (by k_asm) ?_;  k_whole))) | ((k_here; (with_reducible show wpAny _ _ (getMethod (Value.ref 167) (Str.ofString "search") _) _ _ _); k_dflt (refine' get_167 (by k_asm) (by k_asm) ?_;  k_whole))) | ((k_here; (with_reducible show wpAny _ _ (getMethod (Value.ref _) (Str.ofString "pop") _) _ _ _); k_dflt (refine' my_get_pop (knd := PySem.intKind _ _) (by k_asm) (by k_mem) (by assumption) (by omega) ?_;  k_whole))) | ((with_reducible show wpAny _ _ (subscriptTail (PySem.Expr.Name _ _) (PySem.Expr.Slice _ _ _ _) (Value.ref _) (Value.ref _)) _ _ _); (((k_here; (with_reducible show wpAny _ _ (subscriptTail _ (PySem.Expr.Slice _ _ none _) (Value.ref _) (Value.ref _)) _ _ _); k_dflt (refine' kmk_slice_lit (by k_asm) (by k_asm) (by kmk_list) (by kmk_part) (by kmk_part) (by first | exact pick_from (by assumption) | exact pick_upto (by assumption)) ?_ (by with_unfolding_all rfl) (by kmk_pure) (by (rw [List.size_toArray, sizeLine_eq]; omega));  ); intro _ _ _ _ l1; (try k_lt l1); (try k_sweep)); (have _ := l1); clear l1))) | ((with_reducible show wpAny _ _ (subscriptTail (PySem.Expr.Name _ _) (PySem.Expr.Slice _ _ _ _) (Value.ref _) (Value.ref _)) _ _ _); ((k_here; (with_reducible show wpAny _ _ (subscriptTail _ (PySem.Expr.Slice (some _) (some _) (some _) _) (Value.ref _) (Value.ref _)) _ _ _); k_dflt (refine' my_slice3 (by k_asm) (by k_asm) (by kmk_list) (by k_asm) (by k_asm) (by decide) ?_;  k_whole); intro _ _ _ _ _ _ _ _ _; (try k_sweep)))) | ((with_reducible show wpAny _ _ (subscriptTail (PySem.Expr.Name _ _) (PySem.Expr.Slice _ _ _ _) (Value.ref _) (Value.ref _)) _ _ _); ((k_here; (with_reducible show wpAny _ _ (subscriptTail _ (PySem.Expr.Slice none none none _) (Value.ref _) (Value.ref _)) _ _ _); k_dflt (refine' my_slice_all (by k_asm) (by k_asm) (by k_mem) (by omega) ?_;  k_whole); intro _ _ _ _ _; (try k_sweep)))) | ((with_reducible show wpAny _ _ (subscriptTail (PySem.Expr.Name _ _) (PySem.Expr.IfExp _ _ _ _) (Value.ref _) (Value.int _ _)) _ _ _); ((k_here; (with_reducible show wpAny _ _ (subscriptTail _ _ (Value.ref _) (Value.int _ _)) _ _ _); k_dflt (refine' my_item_ints (by k_asm) (by k_mem) (by assumption) (by omega) (by omega) (by omega) ?_;  k_whole); intro _))) | ((k_here; (with_reducible show wpAny _ _ (call (Value.builtin "str.join") [Value.str _ _, Value.str _ _]) _ _ _); k_dflt (refine' join_strF (by with_unfolding_all rfl) (by k_asm) (by k_asm) (joinOk_signsN (N := 1000) (S := 10) (by assumption) (by decide) (by decide)) ?_;  k_whole); intro _ _ _ _ _; (try dsimp only); (try k_sweep))) | ((with_reducible show wpAny _ _ (binaryOp Operator.Add (Value.ref _) (Value.ref _)) _ _ _); (((k_here; (with_reducible show wpAny _ _ (binaryOp _ (Value.ref _) (Value.ref _)) _ _ _); k_dflt (refine' kmk_add_lit (by k_asm) (by k_asm) (by kmk_list) (by kmk_list) (by exact rfl) ?_ (by (simp only [List.length_drop, List.length_take, sizeLine_eq]; omega));  ); intro _ _ _ _ l1; (try k_lt l1); (try k_sweep)); (have _ := l1); clear l1))) | walk_at "mo"))))
      exact hret _ _ _ _ ⟨_, rfl, rfl⟩ (by k_asm) (news_sub (by k_asm) (by (((try simp only [List.cons_append, List.nil_append]); (repeat' (first | exact List.forall_mem_nil _ | refine List.forall_mem_cons.mpr ⟨?_, ?_⟩)) <;> (first | k_mem | (intro _ _; k_mem))))))
end Mine
-- P2
namespace Mine
noncomputable def gN : List Nat → Nat → Nat
  | [], _ => 0
  | c :: r, a => Nat.add (Nat.div a c) (gN r (Nat.mod a c))
noncomputable def anyLess (D : List Nat) (g a : Nat) : List Nat → Bool
  | [] => false
  | c :: r => bif Nat.ble c a then (bif Nat.blt (Nat.succ (gN D (Nat.sub a c))) g then true else anyLess D g a r) else anyLess D g a r
noncomputable def leastN (D : List Nat) : Nat → Nat → Nat
  | 0, _ => 0
  | k + 1, a => bif anyLess D (gN D a) a D then a else leastN D k (Nat.succ a)
/-- ascending ints of descending numbers -/
noncomputable def ofD (D : List Nat) : List Int := D.reverse.map fun (c : Nat) => (c : Int)
theorem gN_step : ∀ (D : List Nat) (a c : Nat), D.find? (fun c => decide (c ≤ a)) = some c → 0 < c → gN D a = 1 + gN D (a - c)
  | [], a, c, h, _ => by simp at h
  | d :: r, a, c, h, hc => by
    rw [List.find?_cons] at h
    by_cases hd : d ≤ a
    · simp only [hd, decide_true] at h
      have e : d = c := Option.some.inj h
      subst e
      show a / d + gN r (a % d) = 1 + ((a - d) / d + gN r ((a - d) % d))
      rw [Nat.div_eq_sub_div hc hd, Nat.mod_eq_sub_mod hd]
      omega
    · simp only [hd, decide_false] at h
      show a / d + gN r (a % d) = 1 + ((a - c) / d + gN r ((a - c) % d))
      rw [Nat.div_eq_of_lt (by omega), Nat.mod_eq_of_lt (by omega), Nat.div_eq_of_lt (by omega), Nat.mod_eq_of_lt (by omega), gN_step r a c h hc]
      omega
theorem anyLess_iff (D : List Nat) (g a : Nat) : ∀ l : List Nat, anyLess D g a l = true ↔ ∃ c ∈ l, c ≤ a ∧ gN D (a - c) + 1 < g
  | [] => by simp [anyLess]
  | c :: r => by
    have ih := anyLess_iff D g a r
    have e1 : Nat.ble c a = decide (c ≤ a) := by
      by_cases h : c ≤ a
      · rw [decide_eq_true h]; exact Nat.ble_eq_true_of_le h
      · rw [decide_eq_false h]; exact Bool.eq_false_iff.mpr fun e => h (Nat.le_of_ble_eq_true e)
    have e2 : Nat.blt (Nat.succ (gN D (Nat.sub a c))) g = decide (gN D (a - c) + 1 < g) := by
      by_cases h : gN D (a - c) + 1 < g
      · rw [decide_eq_true h]; exact Nat.ble_eq_true_of_le h
      · rw [decide_eq_false h]; exact Bool.eq_false_iff.mpr fun e => h (Nat.le_of_ble_eq_true e)
    simp only [anyLess, List.mem_cons, exists_eq_or_imp, e1, e2]
    by_cases h1 : c ≤ a <;> by_cases h2 : gN D (a - c) + 1 < g <;> simp [h1, h2, ih]
theorem minOf_le : ∀ {l : List Int} {x : Int}, x ∈ l → minOf l ≤ x
  | y :: r, x, h => by
    refine gz0 fun Gz hGz => ?_
    obtain ⟨h1, h2, h3⟩ := foldl_min_le r y
    refine hGz ?_
    clear hGz Gz
    rcases List.mem_cons.mp h with rfl | h
    · exact h1
    · exact h2 x h
theorem minOf_mem : ∀ {l : List Int}, l ≠ [] → minOf l ∈ l
  | [], h => absurd rfl h
  | y :: r, _ => by
    refine gz0 fun Gz hGz => ?_
    obtain ⟨h1, h2, h3⟩ := foldl_min_le r y
    refine hGz ?_
    clear hGz Gz
    show r.foldl min y ∈ y :: r
    rcases h3 with h | h
    · rw [h]; exact .head _
    · exact .tail _ h
theorem fits_ofD (D : List Nat) (a : Nat) : fitsOf (ofD D) a = ofD (D.filter fun c => decide (c ≤ a)) := by
  unfold fitsOf ofD
  rw [List.filter_map, ← List.filter_reverse]
  congr 1
  apply List.filter_congr
  intro c _
  simp
theorem leastGo_eq (D : List Nat) (h1 : 1 ∈ D) (hp : ∀ c ∈ D, 0 < c) : ∀ (k A : Nat) (fw : List Int), 1 ≤ A → fw.length = A → (∀ j, j < A → fw.getD j 0 = (gN D j : Int)) → leastGo (ofD D) k (A : Int) fw fw = (leastN D k A : Int)
  | 0, _, _, _, _, _ => rfl
  | k + 1, A, fw, hA, hl, hf => by
    obtain ⟨c0, hc0⟩ : ∃ c0, D.find? (fun c => decide (c ≤ A)) = some c0 := by
      cases e : D.find? (fun c => decide (c ≤ A)) with
      | some c => exact ⟨c, rfl⟩
      | none => exact absurd hA (by simpa using List.find?_eq_none.mp e 1 h1)
    have hcD := List.mem_of_find?_eq_some hc0
    have hcA : c0 ≤ A := by simpa using List.find?_some hc0
    have hcp := hp c0 hcD
    have hg := gN_step D A c0 hc0 hcp
    obtain ⟨t, ht⟩ : ∃ t, D.filter (fun c => decide (c ≤ A)) = c0 :: t := by
      have e := List.head?_filter (p := fun c => decide (c ≤ A)) (l := D)
      rw [hc0] at e
      cases e2 : D.filter (fun c => decide (c ≤ A)) with
      | nil => rw [e2] at e; cases e
      | cons x r => rw [e2] at e; exact ⟨r, by rw [Option.some.inj e]⟩
    have hfit : fitsOf (ofD D) (A : Int) = ofD (c0 :: t) := by rw [fits_ofD, ht]
    have hlast : (fitsOf (ofD D) (A : Int)).getD (-1 + ((fitsOf (ofD D) (A : Int)).length : Int)).toNat 0 = (c0 : Int) := by
      rw [hfit]
      have e : ofD (c0 :: t) = ofD t ++ [(c0 : Int)] := by simp [ofD]
      rw [e]
      have e2 : (-1 + ((ofD t ++ [(c0 : Int)]).length : Int)).toNat = (ofD t).length := by simp; omega
      rw [e2]
      simp [List.getD]
    have hfm : ∀ c : Nat, (c : Int) ∈ fitsOf (ofD D) (A : Int) ↔ c ∈ D ∧ c ≤ A := by
      intro c
      rw [fits_ofD]
      simp only [ofD, List.mem_map, List.mem_reverse, List.mem_filter, decide_eq_true_eq]
      exact ⟨fun ⟨x, hx, e⟩ => by have e2 : x = c := by omega
                                  exact e2 ▸ hx, fun h => ⟨c, h, rfl⟩⟩
    have hfe : ∀ x ∈ fitsOf (ofD D) (A : Int), (∃ c : Nat, Aa3 (x = c) (c ∈ D) (c ≤ A)) := by
      intro x hx
      rw [fits_ofD] at hx
      simp only [ofD, List.mem_map, List.mem_reverse, List.mem_filter, decide_eq_true_eq] at hx
      refine gz0 fun Gz hGz => ?_
      obtain ⟨c, ⟨q1, q2⟩, rfl⟩ := hx
      refine hGz ?_
      clear hGz Gz
      exact ⟨c, rfl, q1, q2⟩
    have hval : ∀ c : Nat, c ∈ D → c ≤ A → fw.getD ((A : Int) - (c : Int)).toNat 0 = (gN D (A - c) : Int) := by
      intro c q1 q2
      have e : ((A : Int) - (c : Int)).toNat = A - c := by omega
      have := hp c q1
      rw [e, hf _ (by omega)]
    obtain ⟨M, hM⟩ : ∃ M, M = minOf ((fitsOf (ofD D) (A : Int)).map fun c => fw.getD ((A : Int) - c).toNat 0) := ⟨_, rfl⟩
    have hMm : (∃ c, Aa3 (c ∈ D) (c ≤ A) (M = (gN D (A - c) : Int))) := by
      have q : M ∈ (fitsOf (ofD D) (A : Int)).map fun c => fw.getD ((A : Int) - c).toNat 0 := by
        rw [hM]
        refine minOf_mem fun e => ?_
        have := (hfm c0).mpr ⟨hcD, hcA⟩
        rw [List.map_eq_nil_iff.mp e] at this
        cases this
      refine gz0 fun Gz hGz => ?_
      obtain ⟨x, hx, rfl⟩ := List.mem_map.mp q
      refine hGz ?_
      clear hGz Gz
      refine gz0 fun Gz hGz => ?_
      obtain ⟨c, rfl, q1, q2⟩ := hfe x hx
      refine hGz ?_
      clear hGz Gz
      exact ⟨c, q1, q2, hval c q1 q2⟩
    have hMl : ∀ c, c ∈ D → c ≤ A → M ≤ (gN D (A - c) : Int) := by
      intro c q1 q2
      rw [hM, ← hval c q1 q2]
      exact minOf_le (List.mem_map.mpr ⟨_, (hfm c).mpr ⟨q1, q2⟩, rfl⟩)
    have hT := hval c0 hcD hcA
    simp only [leastGo, leastN]
    rw [hlast, hT, ← hM]
    have hany := anyLess_iff D (gN D A) A D
    by_cases hlt : 1 + M < 1 + (gN D (A - c0) : Int)
    · rw [if_pos hlt]
      refine gz0 fun Gz hGz => ?_
      obtain ⟨c, q1, q2, q3⟩ := hMm
      refine hGz ?_
      clear hGz Gz
      rw [hany.mpr ⟨c, q1, q2, by omega⟩]
      rfl
    · rw [if_neg hlt]
      have hno : anyLess D (gN D A) A D = false := by
        cases e : anyLess D (gN D A) A D with
        | false => rfl
        | true =>
          refine gz0 fun Gz hGz => ?_
          obtain ⟨c, q1, q2, q3⟩ := hany.mp e
          refine hGz ?_
          clear hGz Gz
          have := hMl c q1 q2
          omega
      rw [hno]
      have hMe : 1 + M = 1 + (gN D (A - c0) : Int) := by
        have := hMl c0 hcD hcA
        omega
      rw [hMe]
      have := leastGo_eq D h1 hp k (A + 1) (fw ++ [1 + (gN D (A - c0) : Int)]) (by omega) (by simp [hl]) (by
        intro j hj
        by_cases hjA : j < A
        · rw [← hf j hjA]
          simp [List.getD, List.getElem?_append, hl, hjA]
        · have e : j = A := by omega
          subst e
          rw [hg]
          simp [List.getD, List.getElem?_append, hl])
      exact this
noncomputable def leastD (D : List Nat) : Nat := leastN D (D.getD 0 0 + D.getD 1 0 - 1) 1
theorem least_eq (x y : Nat) (r : List Nat) (h1 : 1 ∈ x :: y :: r) (hp : ∀ c ∈ x :: y :: r, 0 < c) : least (ofD (x :: y :: r)) = (leastD (x :: y :: r) : Int) := by
  unfold least leastD
  have e : ofD (x :: y :: r) = ofD r ++ [(y : Int), (x : Int)] := by simp [ofD]
  have hz : ((ofD (x :: y :: r)).getD (-1 + ((ofD (x :: y :: r)).length : Int)).toNat 0 + (ofD (x :: y :: r)).getD (-2 + ((ofD (x :: y :: r)).length : Int)).toNat 0 - 1).toNat = x + y - 1 := by
    rw [e]
    have e1 : (-1 + ((ofD r ++ [(y : Int), (x : Int)]).length : Int)).toNat = (ofD r).length + 1 := by simp; omega
    have e2 : (-2 + ((ofD r ++ [(y : Int), (x : Int)]).length : Int)).toNat = (ofD r).length := by simp; omega
    rw [e1, e2]
    simp [List.getD, List.getElem?_append]
    omega
  rw [hz]
  exact leastGo_eq _ h1 hp _ 1 [0] (Nat.le_refl _) rfl (by
    intro j hj
    have : j = 0 := by omega
    subst this
    have : ∀ D : List Nat, gN D 0 = 0 := by
      intro D
      induction D with
      | nil => rfl
      | cons c r ih => show 0 / c + gN r (0 % c) = 0; simp [ih]
    rw [this]; rfl)
/-- one turn of the loop of one_sum: what it asks -/
noncomputable def stp (P : List Int) (x y : Int) (le : Int) (lx : Int) : Bool := !((le == 0) && ((decide (pieces P ((-x).fmod y) < -((-x).fdiv y))) != (lx == 0)))
theorem oneSum4 (x0 x1 x2 x3 : Int) (h1 : stp [x0] x1 x0 0 (least [x0, x1]) = true) (h2 : stp [x0, x1] x2 x1 (least [x0, x1]) (least [x0, x1, x2]) = true) (h3 : stp [x0, x1, x2] x3 x2 (least [x0, x1, x2]) (least [x0, x1, x2, x3]) = true) :
    oneSum [x0, x1, x2, x3] = true := by
  simp only [stp, Bool.not_eq_true', Bool.and_eq_false_iff] at h1 h2 h3
  have n1 : ¬ ((0 : Int) = 0 ∧ (decide (pieces [x0] ((-x1).fmod x0) < -((-x1).fdiv x0)) != (least [x0, x1] == 0)) = true) := fun ⟨a, b⟩ => by
    rcases h1 with h | h
    · simp at h
    · rw [h] at b; cases b
  have n2 : ¬ (least [x0, x1] = 0 ∧ (decide (pieces [x0, x1] ((-x2).fmod x1) < -((-x2).fdiv x1)) != (least [x0, x1, x2] == 0)) = true) := fun ⟨a, b⟩ => by
    rcases h2 with h | h
    · rw [a] at h; simp at h
    · rw [h] at b; cases b
  have n3 : ¬ (least [x0, x1, x2] = 0 ∧ (decide (pieces [x0, x1, x2] ((-x3).fmod x2) < -((-x3).fdiv x2)) != (least [x0, x1, x2, x3] == 0)) = true) := fun ⟨a, b⟩ => by
    rcases h3 with h | h
    · rw [a] at h; simp at h
    · rw [h] at b; cases b
  show oneGo [x0, x1, x2, x3] 3 1 0 = true
  unfold oneGo
  refine Eq.trans (if_neg n1) ?_
  unfold oneGo
  refine Eq.trans (if_neg n2) ?_
  unfold oneGo
  refine Eq.trans (if_neg n3) ?_
  rfl
theorem oneSum5 (x0 x1 x2 x3 x4 : Int) (h1 : stp [x0] x1 x0 0 (least [x0, x1]) = true) (h2 : stp [x0, x1] x2 x1 (least [x0, x1]) (least [x0, x1, x2]) = true) (h3 : stp [x0, x1, x2] x3 x2 (least [x0, x1, x2]) (least [x0, x1, x2, x3]) = true)
    (h4 : stp [x0, x1, x2, x3] x4 x3 (least [x0, x1, x2, x3]) (least [x0, x1, x2, x3, x4]) = true) : oneSum [x0, x1, x2, x3, x4] = true := by
  simp only [stp, Bool.not_eq_true', Bool.and_eq_false_iff] at h1 h2 h3 h4
  have n1 : ¬ ((0 : Int) = 0 ∧ (decide (pieces [x0] ((-x1).fmod x0) < -((-x1).fdiv x0)) != (least [x0, x1] == 0)) = true) := fun ⟨a, b⟩ => by
    rcases h1 with h | h
    · simp at h
    · rw [h] at b; cases b
  have n2 : ¬ (least [x0, x1] = 0 ∧ (decide (pieces [x0, x1] ((-x2).fmod x1) < -((-x2).fdiv x1)) != (least [x0, x1, x2] == 0)) = true) := fun ⟨a, b⟩ => by
    rcases h2 with h | h
    · rw [a] at h; simp at h
    · rw [h] at b; cases b
  have n3 : ¬ (least [x0, x1, x2] = 0 ∧ (decide (pieces [x0, x1, x2] ((-x3).fmod x2) < -((-x3).fdiv x2)) != (least [x0, x1, x2, x3] == 0)) = true) := fun ⟨a, b⟩ => by
    rcases h3 with h | h
    · rw [a] at h; simp at h
    · rw [h] at b; cases b
  have n4 : ¬ (least [x0, x1, x2, x3] = 0 ∧ (decide (pieces [x0, x1, x2, x3] ((-x4).fmod x3) < -((-x4).fdiv x3)) != (least [x0, x1, x2, x3, x4] == 0)) = true) := fun ⟨a, b⟩ => by
    rcases h4 with h | h
    · rw [a] at h; simp at h
    · rw [h] at b; cases b
  show oneGo [x0, x1, x2, x3, x4] 4 1 0 = true
  unfold oneGo
  refine Eq.trans (if_neg n1) ?_
  unfold oneGo
  refine Eq.trans (if_neg n2) ?_
  unfold oneGo
  refine Eq.trans (if_neg n3) ?_
  unfold oneGo
  refine Eq.trans (if_neg n4) ?_
  rfl
theorem gN_div : ∀ (D : List Nat) (a c : Nat), D.find? (fun c => decide (c ≤ a)) = some c → 0 < c → gN D a = a / c + gN D (a % c)
  | [], a, c, h, _ => by simp at h
  | d :: r, a, c, h, hc => by
    rw [List.find?_cons] at h
    have hlt := Nat.mod_lt a hc
    by_cases hd : d ≤ a
    · simp only [hd, decide_true] at h
      have e : d = c := Option.some.inj h
      subst e
      show a / d + gN r (a % d) = a / d + (a % d / d + gN r (a % d % d))
      rw [Nat.div_eq_of_lt hlt, Nat.mod_eq_of_lt hlt]
      omega
    · simp only [hd, decide_false] at h
      have hca : c ≤ a := by simpa using List.find?_some h
      show a / d + gN r (a % d) = a / c + (a % c / d + gN r (a % c % d))
      rw [Nat.div_eq_of_lt (by omega), Nat.mod_eq_of_lt (by omega), Nat.div_eq_of_lt (show a % c < d by omega), Nat.mod_eq_of_lt (show a % c < d by omega), gN_div r a c h hc]
      omega
theorem gN_zero : ∀ D : List Nat, gN D 0 = 0
  | [] => rfl
  | c :: r => by
    show 0 / c + gN r (0 % c) = 0
    rw [Nat.zero_div, Nat.zero_mod, gN_zero r]
theorem tw_filter {a : Int} : ∀ ns : List Int, ns.Pairwise (· ≤ ·) → ns.takeWhile (fun c => decide (c ≤ a)) = ns.filter (fun c => decide (c ≤ a))
  | [], _ => rfl
  | c :: r, h => by
    have h' := List.pairwise_cons.mp h
    by_cases hc : c ≤ a
    · simp [hc, tw_filter r h'.2]
    · have e : r.filter (fun c => decide (c ≤ a)) = [] := List.filter_eq_nil_iff.mpr fun x hx => by
        have := h'.1 x hx
        simp
        omega
      simp [hc, e]
theorem find_ofD {D : List Nat} {A c0 : Nat} (hc0 : D.find? (fun c => decide (c ≤ A)) = some c0) : ∃ t, fitsOf (ofD D) (A : Int) = ofD t ++ [(c0 : Int)] := by
  obtain ⟨t, ht⟩ : ∃ t, D.filter (fun c => decide (c ≤ A)) = c0 :: t := by
    have e := List.head?_filter (p := fun c => decide (c ≤ A)) (l := D)
    rw [hc0] at e
    cases e2 : D.filter (fun c => decide (c ≤ A)) with
    | nil => rw [e2] at e; cases e
    | cons x r => rw [e2] at e; exact ⟨r, by rw [Option.some.inj e]⟩
  exact ⟨t, by rw [fits_ofD, ht]; simp [ofD]⟩
theorem coin_ofD {D : List Nat} {A c0 : Nat} (hs : (ofD D).Pairwise (· ≤ ·)) (hc0 : D.find? (fun c => decide (c ≤ A)) = some c0) : (ofD D).getD (bis (ofD D) (A : Int) - 1) 0 = (c0 : Int) := by
  obtain ⟨t, ht⟩ := find_ofD hc0
  have e1 : (ofD D).takeWhile (fun c => decide (c ≤ (A : Int))) = ofD t ++ [(c0 : Int)] := by rw [tw_filter _ hs]; exact ht
  have e2 : ofD D = (ofD t ++ [(c0 : Int)]) ++ (ofD D).dropWhile (fun c => decide (c ≤ (A : Int))) := by
    rw [← e1]; exact (List.takeWhile_append_dropWhile ..).symm
  have e3 : bis (ofD D) (A : Int) - 1 = (ofD t).length := by
    unfold bis
    rw [e1]
    simp
  rw [e3, e2]
  simp [List.getD, List.getElem?_append]
theorem pieces_eq (D : List Nat) (hs : (ofD D).Pairwise (· ≤ ·)) (h1 : 1 ∈ D) (hp : ∀ c ∈ D, 0 < c) (a : Nat) : pieces (ofD D) (a : Int) = (gN D a : Int) := by
  have key : ∀ (k a : Nat), a ≤ k → ((toldF (ofD D) k (a : Int)).map (·.2)).sum = (gN D a : Int) := by
    intro k
    induction k with
    | zero =>
      intro a ha
      have : a = 0 := by omega
      subst this
      rw [gN_zero]; rfl
    | succ k ih =>
      intro a ha
      by_cases hz : a = 0
      · subst hz
        rw [gN_zero]; rfl
      · obtain ⟨c0, hc0⟩ : ∃ c0, D.find? (fun c => decide (c ≤ a)) = some c0 := by
          cases e : D.find? (fun c => decide (c ≤ a)) with
          | some c => exact ⟨c, rfl⟩
          | none => exact absurd (show 1 ≤ a by omega) (by simpa using List.find?_eq_none.mp e 1 h1)
        have hcD := List.mem_of_find?_eq_some hc0
        have hcA : c0 ≤ a := by simpa using List.find?_some hc0
        have hcp := hp c0 hcD
        have hlt := Nat.mod_lt a hcp
        simp only [toldF]
        rw [if_neg (by omega), coin_ofD hs hc0, List.map_cons, List.sum_cons]
        have e : (a : Int) % (c0 : Int) = ((a % c0 : Nat) : Int) := by omega
        have e2 : (a : Int) / (c0 : Int) = ((a / c0 : Nat) : Int) := by omega
        rw [e, e2, ih (a % c0) (by omega), gN_div D a c0 hc0 hcp]
        omega
  exact key _ a (by omega)
noncomputable def illN (D : List Nat) (ds : List (Int × Int)) : List Int := ds.filterMap fun q => if (gN D q.1.toNat : Int) > q.2 then some q.1 else none
theorem fm_congr {α β : Type} {f g : α → Option β} : ∀ {l : List α}, (∀ x ∈ l, f x = g x) → l.filterMap f = l.filterMap g
  | [], _ => rfl
  | x :: r, h => by
    rw [List.filterMap_cons, List.filterMap_cons, h x (.head _), fm_congr (l := r) fun y hy => h y (.tail _ hy)]
theorem illN_eq (D : List Nat) (hs : (ofD D).Pairwise (· ≤ ·)) (h1 : 1 ∈ D) (hp : ∀ c ∈ D, 0 < c) (hd : ∀ q ∈ doubts (ofD D), 0 ≤ q.1) : illOf (ofD D) = illN D (doubts (ofD D)) := by
  unfold illOf illN
  refine fm_congr fun q hq => ?_
  have e := pieces_eq D hs h1 hp q.1.toNat
  rw [Int.toNat_of_nonneg (hd q hq)] at e
  rw [e]
noncomputable def leastOf (l : List Int) : Int := if l ≠ [] then minOf l else 0
noncomputable def fine (D : List Nat) : Bool := (doubts (ofD D)).all (fun q => decide (0 ≤ q.1) && decide (q.1 < 100)) && Nat.blt (doubts (ofD D)).length 1000 && (leastOf (illN D (doubts (ofD D))) == (leastD D : Int))
noncomputable def chk4 (a b c : Nat) : Bool :=
  stp [1] (ofD [2 + a, 1] |>.getD 1 0) 1 0 (leastD [2 + a, 1]) &&
  stp (ofD [2 + a, 1]) (3 + a + b : Nat) (2 + a : Nat) (leastD [2 + a, 1]) (leastD [3 + a + b, 2 + a, 1]) &&
  stp (ofD [3 + a + b, 2 + a, 1]) (4 + a + b + c : Nat) (3 + a + b : Nat) (leastD [3 + a + b, 2 + a, 1]) (leastD [4 + a + b + c, 3 + a + b, 2 + a, 1]) &&
  fine [4 + a + b + c, 3 + a + b, 2 + a, 1]
noncomputable def chk5 (a b c d : Nat) : Bool :=
  stp (ofD [4 + a + b + c, 3 + a + b, 2 + a, 1]) (5 + a + b + c + d : Nat) (4 + a + b + c : Nat) (leastD [4 + a + b + c, 3 + a + b, 2 + a, 1]) (leastD [5 + a + b + c + d, 4 + a + b + c, 3 + a + b, 2 + a, 1]) &&
  fine [5 + a + b + c + d, 4 + a + b + c, 3 + a + b, 2 + a, 1]
noncomputable def chkAB (a b : Nat) : Bool := [0, 1, 2, 3, 4, 5].all fun c => chk4 a b c && [0, 1, 2, 3, 4, 5].all fun d => chk5 a b c d
/-- what the walk asks of a row -/
structure RowGood (ns : List Int) : Prop where
  row : ∀ i j, i ≤ j → j < ns.length → ns.getD i 0 ≤ ns.getD j 0
  one : ns.getD 0 0 = 1
  small : ∀ i, ns.getD i 0 < 100
  sum : oneSum ns = true
  ill : leastOf (illOf ns) = least ns
  dbt : ∀ q ∈ doubts ns, 0 ≤ q.1 ∧ q.1 < 100
  dbl : (doubts ns).length < 1000
theorem fine_of {x y : Nat} {r : List Nat} (hs : (ofD (x :: y :: r)).Pairwise (· ≤ ·)) (h1 : 1 ∈ x :: y :: r) (hp : ∀ c ∈ x :: y :: r, 0 < c) (h : fine (x :: y :: r) = true) :
    leastOf (illOf (ofD (x :: y :: r))) = least (ofD (x :: y :: r)) ∧ (∀ q ∈ doubts (ofD (x :: y :: r)), 0 ≤ q.1 ∧ q.1 < 100) ∧ (doubts (ofD (x :: y :: r))).length < 1000 := by
  unfold fine at h
  simp only [Bool.and_eq_true, List.all_eq_true, decide_eq_true_eq, beq_iff_eq] at h
  refine gz0 fun Gz hGz => ?_
  obtain ⟨⟨h2, h3⟩, h4⟩ := h
  refine hGz ?_
  clear hGz Gz
  refine ⟨?_, h2, Nat.le_of_ble_eq_true h3⟩
  rw [illN_eq _ hs h1 hp (fun q hq => (h2 q hq).1), h4, least_eq _ _ _ h1 hp]
noncomputable def n4 (a b c : Nat) : List Int := [1, ((2 + a : Nat) : Int), ((3 + a + b : Nat) : Int), ((4 + a + b + c : Nat) : Int)]
noncomputable def n5 (a b c d : Nat) : List Int := [1, ((2 + a : Nat) : Int), ((3 + a + b : Nat) : Int), ((4 + a + b + c : Nat) : Int), ((5 + a + b + c + d : Nat) : Int)]
theorem getD_sorted : ∀ {ns : List Int}, ns.Pairwise (· ≤ ·) → ∀ i j, i ≤ j → j < ns.length → ns.getD i 0 ≤ ns.getD j 0
  | [], _, i, j, _, hj => by simp at hj
  | c :: r, h, i, j, hij, hj => by
    have h' := List.pairwise_cons.mp h
    cases j with
    | zero =>
      have : i = 0 := by omega
      subst this
      exact Int.le_refl _
    | succ j =>
      have hj' : j < r.length := by simpa using hj
      cases i with
      | zero =>
        have e : (c :: r).getD (j + 1) 0 = r[j] := by simp [List.getD, hj']
        rw [e]
        exact h'.1 _ (List.getElem_mem hj')
      | succ i =>
        simpa using getD_sorted h'.2 i j (by omega) hj'
theorem getD_small : ∀ {ns : List Int}, (∀ x ∈ ns, x < 100) → ∀ i, ns.getD i 0 < 100
  | [], _, i => by simp
  | c :: r, h, 0 => by simpa using h c (.head _)
  | c :: r, h, i + 1 => by simpa using getD_small (ns := r) (fun x hx => h x (.tail _ hx)) i
theorem good4 (a b c : Nat) (ha : a < 6) (hb : b < 6) (hc : c < 6) (h : chk4 a b c = true) : RowGood (n4 a b c) := by
  unfold chk4 at h
  simp only [Bool.and_eq_true] at h
  refine gz0 fun Gz hGz => ?_
  obtain ⟨⟨⟨h1, h2⟩, h3⟩, h4⟩ := h
  refine hGz ?_
  clear hGz Gz
  have hp : (n4 a b c).Pairwise (· ≤ ·) := by
    clear h1 h2 h3 h4
    simp [n4]; omega
  have hsm : ∀ x ∈ n4 a b c, x < 100 := by
    clear h1 h2 h3 h4 hp
    simp [n4]; omega
  rw [← least_eq (2 + a) 1 [] (by simp) (by simp; omega)] at h1 h2
  rw [← least_eq (3 + a + b) (2 + a) [1] (by simp) (by simp; omega)] at h2 h3
  rw [← least_eq (4 + a + b + c) (3 + a + b) [2 + a, 1] (by simp) (by simp; omega)] at h3
  refine gz0 fun Gz hGz => ?_
  obtain ⟨f1, f2, f3⟩ := fine_of (by exact hp) (by simp) (by simp; omega) h4
  refine hGz ?_
  clear hGz Gz
  exact ⟨getD_sorted hp, rfl, getD_small hsm, oneSum4 _ _ _ _ h1 h2 h3, f1, f2, f3⟩
theorem good5 (a b c d : Nat) (ha : a < 6) (hb : b < 6) (hc : c < 6) (hd : d < 6) (h : chk4 a b c = true) (h' : chk5 a b c d = true) : RowGood (n5 a b c d) := by
  unfold chk4 at h
  simp only [Bool.and_eq_true] at h
  refine gz0 fun Gz hGz => ?_
  obtain ⟨⟨⟨h1, h2⟩, h3⟩, _⟩ := h
  refine hGz ?_
  clear hGz Gz
  unfold chk5 at h'
  simp only [Bool.and_eq_true] at h'
  obtain ⟨h4, h5⟩ := h'
  have hp : (n5 a b c d).Pairwise (· ≤ ·) := by
    clear h1 h2 h3 h4 h5
    simp [n5]; omega
  have hsm : ∀ x ∈ n5 a b c d, x < 100 := by
    clear h1 h2 h3 h4 h5 hp
    simp [n5]; omega
  rw [← least_eq (2 + a) 1 [] (by simp) (by simp; omega)] at h1 h2
  rw [← least_eq (3 + a + b) (2 + a) [1] (by simp) (by simp; omega)] at h2 h3
  rw [← least_eq (4 + a + b + c) (3 + a + b) [2 + a, 1] (by simp) (by simp; omega)] at h3 h4
  rw [← least_eq (5 + a + b + c + d) (4 + a + b + c) [3 + a + b, 2 + a, 1] (by simp) (by simp; omega)] at h4
  refine gz0 fun Gz hGz => ?_
  obtain ⟨f1, f2, f3⟩ := fine_of (by exact hp) (by simp) (by simp; omega) h5
  refine hGz ?_
  clear hGz Gz
  exact ⟨getD_sorted hp, rfl, getD_small hsm, oneSum5 _ _ _ _ _ h1 h2 h3 h4, f1, f2, f3⟩
end Mine
-- P3
namespace Mine
theorem chk_0_0 : chkAB 0 0 = true := by decide +kernel
theorem chk_0_1 : chkAB 0 1 = true := by decide +kernel
theorem chk_0_2 : chkAB 0 2 = true := by decide +kernel
theorem chk_0_3 : chkAB 0 3 = true := by decide +kernel
theorem chk_0_4 : chkAB 0 4 = true := by decide +kernel
theorem chk_0_5 : chkAB 0 5 = true := by decide +kernel
theorem chk_1_0 : chkAB 1 0 = true := by decide +kernel
theorem chk_1_1 : chkAB 1 1 = true := by decide +kernel
theorem chk_1_2 : chkAB 1 2 = true := by decide +kernel
theorem chk_1_3 : chkAB 1 3 = true := by decide +kernel
theorem chk_1_4 : chkAB 1 4 = true := by decide +kernel
theorem chk_1_5 : chkAB 1 5 = true := by decide +kernel
theorem chk_2_0 : chkAB 2 0 = true := by decide +kernel
theorem chk_2_1 : chkAB 2 1 = true := by decide +kernel
theorem chk_2_2 : chkAB 2 2 = true := by decide +kernel
theorem chk_2_3 : chkAB 2 3 = true := by decide +kernel
theorem chk_2_4 : chkAB 2 4 = true := by decide +kernel
theorem chk_2_5 : chkAB 2 5 = true := by decide +kernel
theorem chk_3_0 : chkAB 3 0 = true := by decide +kernel
theorem chk_3_1 : chkAB 3 1 = true := by decide +kernel
theorem chk_3_2 : chkAB 3 2 = true := by decide +kernel
theorem chk_3_3 : chkAB 3 3 = true := by decide +kernel
theorem chk_3_4 : chkAB 3 4 = true := by decide +kernel
theorem chk_3_5 : chkAB 3 5 = true := by decide +kernel
theorem chk_4_0 : chkAB 4 0 = true := by decide +kernel
theorem chk_4_1 : chkAB 4 1 = true := by decide +kernel
theorem chk_4_2 : chkAB 4 2 = true := by decide +kernel
theorem chk_4_3 : chkAB 4 3 = true := by decide +kernel
theorem chk_4_4 : chkAB 4 4 = true := by decide +kernel
theorem chk_4_5 : chkAB 4 5 = true := by decide +kernel
theorem chk_5_0 : chkAB 5 0 = true := by decide +kernel
theorem chk_5_1 : chkAB 5 1 = true := by decide +kernel
theorem chk_5_2 : chkAB 5 2 = true := by decide +kernel
theorem chk_5_3 : chkAB 5 3 = true := by decide +kernel
theorem chk_5_4 : chkAB 5 4 = true := by decide +kernel
theorem chk_5_5 : chkAB 5 5 = true := by decide +kernel
end Mine
-- P4
namespace Mine
theorem lexT_app (stop : Nat → Bool) : ∀ (l r : List Nat), l.any stop = true → lexT stop (l ++ r) = lexT stop l
  | [], r, h => by simp at h
  | c :: l, r, h => by
    simp only [List.cons_append, lexT]
    cases hc : stop c with
    | true => rfl
    | false =>
      simp only [List.any_cons, hc, Bool.false_or] at h
      rw [lexT_app stop l r h]
theorem lexN_app (stop : Nat → Bool) : ∀ (l r : List Nat), l.any stop = true → lexN stop (l ++ r) = lexN stop l
  | [], r, h => by simp at h
  | c :: l, r, h => by
    simp only [List.cons_append, lexN]
    cases hc : stop c with
    | true => rfl
    | false =>
      simp only [List.any_cons, hc, Bool.false_or] at h
      rw [lexN_app stop l r h]
noncomputable def closesW : List Nat → Bool
  | [] => false
  | c :: l => if c == 34 then l.any (· == 34) else l.any isW
theorem tok_app {W : List Nat} (r : List Nat) (h : closesW W = true) : tokT (W ++ r) = tokT W ∧ tokN (W ++ r) = tokN W := by
  cases W with
  | nil => cases h
  | cons c l =>
    simp only [closesW] at h
    simp only [List.cons_append, tokT, tokN]
    cases hc : c == 34 with
    | true =>
      rw [hc, if_pos rfl] at h
      rw [if_pos rfl, if_pos rfl, if_pos rfl, if_pos rfl, lexT_app _ l r h, lexN_app _ l r h]
      exact ⟨rfl, rfl⟩
    | false =>
      rw [hc, if_neg Bool.false_ne_true] at h
      rw [if_neg Bool.false_ne_true, if_neg Bool.false_ne_true, if_neg Bool.false_ne_true, if_neg Bool.false_ne_true, lexT_app _ l r h, lexN_app _ l r h]
      exact ⟨rfl, rfl⟩
noncomputable abbrev tokS (W : List Nat) : Str := ⟨(tokT W).toArray⟩
noncomputable def wordOK (n : Nat) (k : Int) : Bool :=
  closesW (wordOf n k).cps.toList && tokN (wordOf n k).cps.toList == (wordOf n k).cps.toList.length && !isW ((wordOf n k).cps.toList.headD 32) && (wordOf n k).cps.toList.all (fun z => Nat.blt z 128 && z != 92) &&
  Nat.ble (tokS (wordOf n k).cps.toList).length 100 && Nat.ble (Txt.replace (Txt.rstrip (tokS (wordOf n k).cps.toList)) "_" "").length 640 && PySem.intText? (Txt.replace (Txt.rstrip (tokS (wordOf n k).cps.toList)) "_" "") == some (n : Int)
theorem words_ok : (List.range 100).all (fun n => wordOK n 0 && wordOK n 1 && wordOK n 2) = true := by decide +kernel
structure WordOK (W : List Nat) (n : Int) : Prop where
  cl : closesW W = true
  all : tokN W = W.length
  hd : isW (W.headD 32) = false
  low : ∀ z ∈ W, z < 128 ∧ z ≠ 92
  short : (tokS W).length ≤ 100
  short2 : (Txt.replace (Txt.rstrip (tokS W)) "_" "").length ≤ 640
  val : PySem.intText? (Txt.replace (Txt.rstrip (tokS W)) "_" "") = some n
theorem word_ok {n : Int} (S : Int) (h0 : 0 ≤ n) (h1 : n < 100) : WordOK (wordOf n S).cps.toList n := by
  have h := List.all_eq_true.mp words_ok n.toNat (List.mem_range.mpr (by omega))
  have e : ((n.toNat : Nat) : Int) = n := by omega
  have key : ∀ k, wordOK n.toNat k = true → WordOK (wordOf n k).cps.toList n := by
    intro k hk
    unfold wordOK at hk
    rw [e] at hk
    simp only [Bool.and_eq_true, beq_iff_eq, List.all_eq_true, Bool.not_eq_true', bne_iff_ne] at hk
    refine gz0 fun Gz hGz => ?_
    obtain ⟨⟨⟨⟨⟨⟨q1, q2⟩, q3⟩, q4⟩, q5⟩, q6⟩, q7⟩ := hk
    refine hGz ?_
    clear hGz Gz
    exact ⟨q1, q2, q3, fun z hz => ⟨Nat.le_of_ble_eq_true (q4 z hz).1, (q4 z hz).2⟩, Nat.le_of_ble_eq_true q5, Nat.le_of_ble_eq_true q6, q7⟩
  simp only [Bool.and_eq_true] at h
  rcases word_three n S with q | q | q <;> rw [q]
  · exact key 0 h.1.1
  · exact key 1 h.1.2
  · exact key 2 h.2
theorem count_nls (x : Str) : Txt.count x "\n" = nls x.cps.toList := by
  have e : ("\n" : Str) = ⟨#[10]⟩ := by rfl
  rw [e, count_cnt]
  generalize x.cps.toList = l
  induction l with
  | nil => rfl
  | cons c r ih => rw [cnt_cons, nls_cons, ih]
theorem nls_app (a b : List Nat) : nls (a ++ b) = nls a + nls b := by
  unfold nls
  rw [List.filter_append, List.length_append]
  omega
theorem join_cps : ∀ l : List Str, (Txt.join "" l).cps.toList = (l.map fun y => y.cps.toList).flatten
  | [] => by
    show (Builtin.Str.glued "" []).cps.toList = _
    rw [StrLaws.glued_eq_join]; rfl
  | [x] => by
    show (Builtin.Str.glued "" [x]).cps.toList = _
    rw [StrLaws.glued_eq_join]
    simp [Str.join]
  | x :: y :: r => by
    have ih := join_cps (y :: r)
    have ih : (Builtin.Str.glued "" (y :: r)).cps.toList = _ := ih
    rw [StrLaws.glued_eq_join] at ih
    show (Builtin.Str.glued "" (x :: y :: r)).cps.toList = _
    rw [StrLaws.glued_eq_join]
    have e : Str.join "" (x :: y :: r) = x ++ "" ++ Str.join "" (y :: r) := rfl
    have e2 : ∀ a b : Str, (a ++ b).cps.toList = a.cps.toList ++ b.cps.toList := fun a b => by
      show (a.cps ++ b.cps).toList = _
      simp
    have e3 : (Str.ofString "").cps.toList = [] := rfl
    rw [e, e2, e2, ih, e3, List.append_nil]
    rfl
/-- the laid words' signs -/
noncomputable def WL (coins cells : List Int) : List (List Nat) := (laid coins cells).map fun y => y.cps.toList
noncomputable def endL : List Nat := [101, 110, 100]
theorem text_cps (coins cells : List Int) : (textOf coins cells).cps.toList = (WL coins cells).flatten ++ endL := by
  have e2 : ∀ a b : Str, (a ++ b).cps.toList = a.cps.toList ++ b.cps.toList := fun a b => by
    show (a.cps ++ b.cps).toList = _
    simp
  unfold textOf
  rw [e2, join_cps]
  rfl
/-- the coins in the order of the words -/
noncomputable def turned (coins cells : List Int) : List Int := coins.drop (turnOf coins cells) ++ coins.take (turnOf coins cells)
theorem laid_word {coins cells : List Int} (ht : turnOf coins cells ≤ coins.length) (j : Nat) (hj : j < coins.length) : ∃ S, (laid coins cells)[j]? = some (wordOf ((turned coins cells).getD j 0) S) := by
  have hg : ∀ i, i < coins.length → (wordsTo coins cells coins.length)[i]? = some (wordOf (coins.getD i 0) (spellOf cells i)) := by
    intro i hi
    simp [wordsTo, hi]
  have hl : (wordsTo coins cells coins.length).length = coins.length := by simp [wordsTo]
  by_cases h : j < coins.length - turnOf coins cells
  · refine ⟨spellOf cells (turnOf coins cells + j), ?_⟩
    have e : (turned coins cells).getD j 0 = coins.getD (turnOf coins cells + j) 0 := by
      unfold turned
      simp only [List.getD]
      rw [List.getElem?_append_left (by rw [List.length_drop]; exact h), List.getElem?_drop]
    unfold laid
    rw [e, List.getElem?_append_left (by rw [List.length_drop, hl]; exact h), List.getElem?_drop, hg _ (by omega)]
  · refine ⟨spellOf cells (j - (coins.length - turnOf coins cells)), ?_⟩
    have e : (turned coins cells).getD j 0 = coins.getD (j - (coins.length - turnOf coins cells)) 0 := by
      unfold turned
      simp only [List.getD]
      rw [List.getElem?_append_right (by rw [List.length_drop]; omega), List.length_drop, List.getElem?_take, if_pos (by omega)]
    unfold laid
    rw [e, List.getElem?_append_right (by rw [List.length_drop, hl]; omega), List.length_drop, hl, List.getElem?_take, if_pos (by omega), hg _ (by omega)]
end Mine
-- P5
namespace Mine
theorem ins_nil (x : Int) : ins [] x = [x] := rfl
theorem ins_cons (c : Int) (r : List Int) (x : Int) : ins (c :: r) x = if c ≤ x then c :: ins r x else x :: c :: r := by
  unfold ins bis
  rw [List.takeWhile_cons]
  by_cases h : c ≤ x
  · simp [h]
  · simp [h]
theorem ins_perm (x : Int) : ∀ ns : List Int, (ins ns x).Perm (x :: ns)
  | [] => by rw [ins_nil]
  | c :: r => by
    rw [ins_cons]
    split
    · exact ((ins_perm x r).cons c).trans (List.Perm.swap ..)
    · exact List.Perm.refl _
theorem ins_sorted (x : Int) : ∀ ns : List Int, ns.Pairwise (· ≤ ·) → (ins ns x).Pairwise (· ≤ ·)
  | [], _ => by rw [ins_nil]; exact List.pairwise_singleton ..
  | c :: r, h => by
    have h' := List.pairwise_cons.mp h
    rw [ins_cons]
    split
    · rename_i hc
      refine List.pairwise_cons.mpr ⟨fun a ha => ?_, ins_sorted x r h'.2⟩
      rcases List.mem_cons.mp ((ins_perm x r).mem_iff.mp ha) with rfl | ha
      · exact hc
      · exact h'.1 a ha
    · rename_i hc
      refine List.pairwise_cons.mpr ⟨fun a ha => ?_, h⟩
      rcases List.mem_cons.mp ha with rfl | ha
      · omega
      · have := h'.1 a ha
        omega
theorem sorted_eq : ∀ (l m : List Int), l.Perm m → l.Pairwise (· ≤ ·) → m.Pairwise (· ≤ ·) → l = m
  | [], m, h, _, _ => (List.nil_perm.mp h).symm
  | a :: l, m, h, h1, h2 => by
    cases m with
    | nil => exact absurd h.length_eq (by simp)
    | cons b m =>
      have p1 := List.pairwise_cons.mp h1
      have p2 := List.pairwise_cons.mp h2
      have hab : a = b := by
        have q1 : a ∈ b :: m := h.mem_iff.mp (.head _)
        have q2 : b ∈ a :: l := h.mem_iff.mpr (.head _)
        rcases List.mem_cons.mp q1 with e | q1
        · exact e
        · rcases List.mem_cons.mp q2 with e | q2
          · exact e.symm
          · have := p1.1 b q2
            have := p2.1 a q1
            omega
      subst hab
      rw [sorted_eq l m ((List.perm_cons a).mp h) p1.2 p2.2]
theorem ins_all : ∀ (l acc : List Int), acc.Pairwise (· ≤ ·) → (l.foldl ins acc).Pairwise (· ≤ ·) ∧ (l.foldl ins acc).Perm (l ++ acc)
  | [], acc, h => ⟨h, List.Perm.refl _⟩
  | x :: l, acc, h => by
    obtain ⟨h1, h2⟩ := ins_all l (ins acc x) (ins_sorted x acc h)
    exact ⟨h1, h2.trans (((ins_perm x acc).append_left l).trans List.perm_middle)⟩
theorem ins_turned {coins : List Int} (k : Nat) (h : coins.Pairwise (· ≤ ·)) : (coins.drop k ++ coins.take k).foldl ins [] = coins := by
  obtain ⟨h1, h2⟩ := ins_all (coins.drop k ++ coins.take k) [] List.Pairwise.nil
  refine sorted_eq _ _ ?_ h1 h
  rw [List.append_nil] at h2
  refine h2.trans (List.perm_append_comm.trans ?_)
  rw [List.take_append_drop]
theorem chk_all : ([0, 1, 2, 3, 4, 5].all fun a => [0, 1, 2, 3, 4, 5].all fun b => chkAB a b) = true := by
  simp only [List.all_cons, List.all_nil, Bool.and_true, chk_0_0, chk_0_1, chk_0_2, chk_0_3, chk_0_4, chk_0_5, chk_1_0, chk_1_1, chk_1_2, chk_1_3, chk_1_4, chk_1_5, chk_2_0, chk_2_1, chk_2_2, chk_2_3, chk_2_4, chk_2_5, chk_3_0, chk_3_1, chk_3_2, chk_3_3, chk_3_4, chk_3_5, chk_4_0, chk_4_1, chk_4_2, chk_4_3, chk_4_4, chk_4_5, chk_5_0, chk_5_1, chk_5_2, chk_5_3, chk_5_4, chk_5_5]
theorem mem6 {a : Nat} (h : a < 6) : a ∈ [0, 1, 2, 3, 4, 5] := by
  simp
  omega
theorem chk_at {a b c : Nat} (ha : a < 6) (hb : b < 6) (hc : c < 6) : chk4 a b c = true ∧ ∀ d, d < 6 → chk5 a b c d = true := by
  have h := List.all_eq_true.mp (List.all_eq_true.mp chk_all a (mem6 ha)) b (mem6 hb)
  unfold chkAB at h
  have h2 := List.all_eq_true.mp h c (mem6 hc)
  rw [Bool.and_eq_true] at h2
  exact ⟨h2.1, fun d hd => List.all_eq_true.mp h2.2 d (mem6 hd)⟩
theorem coins_are {cells : List Int} (h5 : cells.length = 5) : ((Xx3 fun (a b c : Nat) => Aa4 (a < 6) (b < 6) (c < 6) (coinsOf cells = n4 a b c))) ∨ ((Xx4 fun (a b c d : Nat) => Aa5 (a < 6) (b < 6) (c < 6) (d < 6) (coinsOf cells = n5 a b c d))) := by
  obtain ⟨c0, c1, c2, c3, c4, rfl⟩ : (Xx5 fun c0 c1 c2 c3 c4 => cells = [c0, c1, c2, c3, c4]) := by
    match cells, h5 with
    | [c0, c1, c2, c3, c4], _ => exact ⟨c0, c1, c2, c3, c4, rfl⟩
  have r : ∀ c : Int, ∃ a : Nat, a < 6 ∧ c.fmod 6 = a := fun c => by
    have h1 : c.fmod 6 = c % 6 := Int.fmod_eq_emod_of_nonneg _ (by omega)
    exact ⟨(c % 6).toNat, by omega, by omega⟩
  refine gz0 fun Gz hGz => ?_
  obtain ⟨a, ha, ea⟩ := r c0
  refine hGz ?_
  clear hGz Gz
  refine gz0 fun Gz hGz => ?_
  obtain ⟨b, hb, eb⟩ := r c1
  refine hGz ?_
  clear hGz Gz
  refine gz0 fun Gz hGz => ?_
  obtain ⟨c, hc, ec⟩ := r c2
  refine hGz ?_
  clear hGz Gz
  refine gz0 fun Gz hGz => ?_
  obtain ⟨d, hd, ed⟩ := r c3
  refine hGz ?_
  clear hGz Gz
  have h2 : c4.fmod 2 = c4 % 2 := Int.fmod_eq_emod_of_nonneg _ (by omega)
  unfold coinsOf
  by_cases hp : c4 % 2 = 0
  · left
    refine ⟨a, b, c, ha, hb, hc, ?_⟩
    have e : (3 + ([c0, c1, c2, c3, c4].getD 4 0).fmod 2).toNat = 3 := by
      show (3 + c4.fmod 2).toNat = 3
      omega
    rw [e]
    simp only [List.take, List.foldl, coinStep, ea, eb, ec, n4, List.length, List.cons_append, List.nil_append]
    simp [List.getD]
    omega
  · right
    refine ⟨a, b, c, d, ha, hb, hc, hd, ?_⟩
    have e : (3 + ([c0, c1, c2, c3, c4].getD 4 0).fmod 2).toNat = 4 := by
      show (3 + c4.fmod 2).toNat = 4
      omega
    rw [e]
    simp only [List.take, List.foldl, coinStep, ea, eb, ec, ed, n5, List.length, List.cons_append, List.nil_append]
    simp [List.getD]
    omega
theorem coins_good {cells : List Int} (h5 : cells.length = 5) : RowGood (coinsOf cells) ∧ (coinsOf cells).Pairwise (· ≤ ·) ∧ 4 ≤ (coinsOf cells).length ∧ (coinsOf cells).length ≤ 5 ∧ ∀ i, 0 ≤ (coinsOf cells).getD i 0 ∧ (coinsOf cells).getD i 0 < 100 := by
  rcases coins_are h5 with ⟨a, b, c, ha, hb, hc, e⟩ | ⟨a, b, c, d, ha, hb, hc, hd, e⟩
  · rw [e]
    have g := good4 a b c ha hb hc (chk_at ha hb hc).1
    refine ⟨g, by simp [n4]; omega, by simp [n4], by simp [n4], fun i => ⟨?_, g.small i⟩⟩
    rcases i with _ | _ | _ | _ | i <;> simp [n4] <;> omega
  · rw [e]
    have g := good5 a b c d ha hb hc hd (chk_at ha hb hc).1 ((chk_at ha hb hc).2 d hd)
    refine ⟨g, by simp [n5]; omega, by simp [n5], by simp [n5], fun i => ⟨?_, g.small i⟩⟩
    rcases i with _ | _ | _ | _ | _ | i <;> simp [n5] <;> omega
end Mine
-- P6
namespace Mine
theorem text_len {coins cells : List Int} (hl : coins.length ≤ 5) (hb : ∀ i, 0 ≤ coins.getD i 0 ∧ coins.getD i 0 < 100) : (textOf coins cells).length ≤ 100 := by
  have h1 := laid_sum (cells := cells) hb
  have h2 : (textOf coins cells).length = (textOf coins cells).cps.toList.length := by simp [Str.length]
  have h3 : ∀ l : List Str, (l.map fun y => y.cps.toList).flatten.length = (l.map (·.length)).sum := by
    intro l
    induction l with
    | nil => rfl
    | cons x r ih => simp only [List.map_cons, List.flatten_cons, List.length_append, List.sum_cons, ih]; simp [Str.length]
  rw [h2, text_cps, List.length_append]
  have h4 := h3 (laid coins cells)
  unfold WL
  rw [h4]
  simp only [endL, List.length_cons, List.length_nil]
  omega
theorem turn_le {coins cells : List Int} (h : 0 < coins.length) : turnOf coins cells ≤ coins.length := by
  have h1 := Int.fmod_lt_of_pos ((cells.getD 4 0).fdiv 6) (show (0 : Int) < coins.length by omega)
  unfold turnOf
  omega
theorem turned_len (coins cells : List Int) : (turned coins cells).length = coins.length := by
  unfold turned
  rw [List.length_append, List.length_drop, List.length_take]
  omega
theorem turned_mem {coins cells : List Int} {c : Int} (h : c ∈ turned coins cells) : c ∈ coins := by
  rcases List.mem_append.mp h with h | h
  · exact List.mem_of_mem_drop h
  · exact List.mem_of_mem_take h
theorem getD_mem {ns : List Int} {c : Int} (h : c ∈ ns) : ∃ i, ns.getD i 0 = c := by
  refine gz0 fun Gz hGz => ?_
  obtain ⟨i, hi, rfl⟩ := List.mem_iff_getElem.mp h
  refine hGz ?_
  clear hGz Gz
  exact ⟨i, by simp [List.getD, hi]⟩
theorem flat_at (L : List (List Nat)) (e : List Nat) (i : Nat) : (L.flatten ++ e).drop (L.take i).flatten.length = (L.drop i).flatten ++ e := by
  have h : L.flatten = (L.take i).flatten ++ (L.drop i).flatten := by rw [← List.flatten_append, List.take_append_drop]
  rw [h, List.append_assoc, List.drop_left]
/-- what lies at the place of the word i -/
theorem at_word {coins cells : List Int} (hl : 0 < coins.length) (hb : ∀ i, 0 ≤ coins.getD i 0 ∧ coins.getD i 0 < 100) (i : Nat) (hi : i < coins.length) :
    (Xx3 fun W c rst => Aa4 (WordOK W c) ((turned coins cells)[i]? = some c) ((textOf coins cells).cps.toList.drop ((WL coins cells).take i).flatten.length = W ++ rst) (((WL coins cells).take (i + 1)).flatten = ((WL coins cells).take i).flatten ++ W)) := by
  obtain ⟨S, hS⟩ := laid_word (turn_le (cells := cells) hl) i hi
  have hti : i < (turned coins cells).length := by rw [turned_len]; exact hi
  obtain ⟨c, hc⟩ : ∃ c, (turned coins cells)[i]? = some c := ⟨_, List.getElem?_eq_getElem hti⟩
  have hgc : (turned coins cells).getD i 0 = c := by simp [List.getD, hc]
  rw [hgc] at hS
  obtain ⟨j, hj⟩ := getD_mem (turned_mem (List.mem_of_getElem? hc))
  have hcb := hb j
  rw [hj] at hcb
  have hW : (WL coins cells)[i]? = some (wordOf c S).cps.toList := by simp [WL, hS]
  have hil : i < (WL coins cells).length := (List.getElem?_eq_some_iff.mp hW).1
  have hdr : (WL coins cells).drop i = (wordOf c S).cps.toList :: (WL coins cells).drop (i + 1) := by
    rw [List.drop_eq_getElem_cons hil]
    congr 1
    rw [List.getElem?_eq_getElem hil] at hW
    exact Option.some.inj hW
  refine ⟨(wordOf c S).cps.toList, c, ((WL coins cells).drop (i + 1)).flatten ++ endL, word_ok S hcb.1 hcb.2, hc, ?_, ?_⟩
  · rw [text_cps, flat_at, hdr, List.flatten_cons, List.append_assoc]
  · rw [List.take_add_one, hW, List.flatten_append]
    simp
theorem WL_len (coins cells : List Int) : (WL coins cells).length = coins.length := by simp [WL, laid_len]
theorem at_end (coins cells : List Int) : (textOf coins cells).cps.toList.drop ((WL coins cells).take coins.length).flatten.length = endL ∧ nls (textOf coins cells).cps.toList = nls ((WL coins cells).take coins.length).flatten := by
  have h : (WL coins cells).take coins.length = WL coins cells := by rw [← WL_len coins cells, List.take_length]
  rw [text_cps, flat_at, ← WL_len coins cells, List.drop_length, List.take_length, nls_app]
  exact ⟨rfl, by have : nls endL = 0 := by decide
                 omega⟩
theorem text_low {coins cells : List Int} (hb : ∀ i, 0 ≤ coins.getD i 0 ∧ coins.getD i 0 < 100) : ∀ z ∈ (textOf coins cells).cps.toList, z < 128 ∧ z ≠ 92 := by
  intro z hz
  rw [text_cps] at hz
  rcases List.mem_append.mp hz with hz | hz
  · refine gz0 fun Gz hGz => ?_
    obtain ⟨W, hW, hzW⟩ := List.mem_flatten.mp hz
    refine hGz ?_
    clear hGz Gz
    refine gz0 fun Gz hGz => ?_
    obtain ⟨y, hy, rfl⟩ := List.mem_map.mp hW
    refine hGz ?_
    clear hGz Gz
    refine gz0 fun Gz hGz => ?_
    obtain ⟨i, rfl⟩ := laid_mem hy
    refine hGz ?_
    clear hGz Gz
    exact (word_ok _ (hb i).1 (hb i).2).low z hzW
  · simp only [endL, List.mem_cons, List.not_mem_nil, or_false] at hz
    rcases hz with rfl | rfl | rfl <;> decide
theorem drop_lt {x : Str} {p : Nat} {W r : List Nat} (h : x.cps.toList.drop p = W ++ r) (hW : W ≠ []) : p < x.length ∧ x.cps.getD p 0 = W.headD 32 := by
  have hp : p < x.length := by
    rcases Nat.lt_or_ge p x.length with h1 | h1
    · exact h1
    · have h2 : x.cps.toList.drop p = [] := List.drop_of_length_le (by simpa [Str.length] using h1)
      rw [h2] at h
      cases W with
      | nil => exact absurd rfl hW
      | cons a b => cases h
  refine ⟨hp, ?_⟩
  rw [drop_cons hp] at h
  cases W with
  | nil => exact absurd rfl hW
  | cons a b =>
    rw [List.cons_append] at h
    injection h
theorem WordOK.ne {W : List Nat} {c : Int} (h : WordOK W c) : W ≠ [] := by
  intro e
  have := h.cl
  rw [e] at this
  cases this
theorem mst_addr {P : Params} {ps : List Value} {np p : Nat} {tp : Tok} {nL : Nat} {a b c d : Tok} {ln : Int} {tn tw : Tok} {lp dm fS Lat : Addr} {rest : Led} {q : Addr × Obj} (h : q ∈ mst P ps np p tp nL a b c d ln tn tw lp dm fS Lat rest) :
    q.1 = lp ∨ q.1 = Lat ∨ q.1 = dm ∨ q ∈ rest := by
  unfold mst at h
  simp only [List.mem_cons] at h
  rcases h with rfl | rfl | rfl | h
  · exact .inl rfl
  · exact .inr (.inl rfl)
  · exact .inr (.inr (.inl rfl))
  · exact .inr (.inr (.inr h))
theorem mst_has (P : Params) (ps : List Value) (np p : Nat) (tp : Tok) (nL : Nat) (a b c d : Tok) (ln : Int) (tn tw : Tok) (lp dm fS Lat : Addr) (rest : Led) :
    (∃ o, (lp, o) ∈ mst P ps np p tp nL a b c d ln tn tw lp dm fS Lat rest) ∧ (∃ o, (Lat, o) ∈ mst P ps np p tp nL a b c d ln tn tw lp dm fS Lat rest) ∧ ∃ o, (dm, o) ∈ mst P ps np p tp nL a b c d ln tn tw lp dm fS Lat rest :=
  ⟨⟨_, .head _⟩, ⟨_, .tail _ (.head _)⟩, _, .tail _ (.tail _ (.head _))⟩
theorem mst_rest {P : Params} {ps : List Value} {np p : Nat} {tp : Tok} {nL : Nat} {a b c d : Tok} {ln : Int} {tn tw : Tok} {lp dm fS Lat : Addr} {rest : Led} {q : Addr × Obj} (h : q ∈ rest) : q ∈ mst P ps np p tp nL a b c d ln tn tw lp dm fS Lat rest := .tail _ (.tail _ (.tail _ h))
theorem mst_swap {P : Params} {ps : List Value} {np p : Nat} {tp : Tok} {nL : Nat} {a b c d : Tok} {ln : Int} {tn tw : Tok} {lp dm fS Lat : Addr} {rest own : Led} {q : Addr × Obj} : q ∈ mst P ps np p tp nL a b c d ln tn tw lp dm fS Lat (own ++ rest) ↔ q ∈ own ∨ q ∈ mst P ps np p tp nL a b c d ln tn tw lp dm fS Lat rest := by
  unfold mst
  simp only [List.mem_cons, List.mem_append]
  constructor
  · rintro (h | h | h | h | h) <;> simp [h]
  · rintro (h | h | h | h | h) <;> simp [h]
end Mine
-- L2
namespace Mine
theorem warm_ne {P : Addr} {line col : Nat} {qual : Str} {tl : Led} (hw : Warm P line col qual tl) {h₀ h : Heap} {L : Addr} {news : Led} (N : News h₀ L h news) (hs : ∀ r ∈ tl, r ∈ news) {a : Addr} {o : Obj} (ha : (a, o) ∈ news) (hP : P ≠ a) (ho : ∀ vs, o.data ≠ .fields vs) :
    ∀ r ∈ tl, r.1 ≠ a := by
  refine gz0 fun Gz hGz => ?_
  obtain ⟨c', oc, vs, t, rfl, hd, hv⟩ := hw
  refine hGz ?_
  clear hGz Gz
  intro r hr e
  rcases List.mem_cons.mp hr with rfl | hr
  · exact hP e
  · rw [List.mem_singleton.mp hr] at e
    have h1 := (N _ (hs (c', oc) (.tail _ (.head _)))).1
    have h2 := (N _ ha).1
    dsimp only at h1 h2 e
    rw [e, h2] at h1
    rw [Option.some.inj h1] at ho
    exact ho vs hd
theorem SaysAt.pa {w : World} {d u : Nat} {f : Addr} {vs : List Value} {news : Led} {R : Value → Led → Prop} (C : SaysAt w d u f vs news R) : SaysPA w d u f vs news R := by
  intro p loose mean mg mb dp un gd cn cs x ccd cl outer A₀ base h₀ L m s Q E B F X N T hk hd hu ht hr
  refine wpAny_toks ?_
  exact C p loose mean mg mb dp un gd cn cs x ccd cl outer A₀ base h₀ L m s _ _ B F X N T hk hd hu fun v h' tk' news' r F' N' ht' => hr v h' tk' _ news' r ht' F' N'
end Mine
namespace Mine
theorem law_holds : PySem.Challenge.rw_sn0098_01.Holds := by
  w_on
  refine holds_law wsd fun said => ?_
  refine holds_open (q := qv) (loose := lse) (Xt := fun s => xlAt qv [] s && recOk (RowW.records PySem.Challenge.rw_sn0098_01.row.toRowW) s) (XP := XL qv []) (Yf := Hook.obs (kmHook hd.heap_39 las las_eq [83, 76, 301, 48])) (Ya := Hook.val (kmHook hd.heap_39 las las_eq [83, 76, 301, 48])) (YP := Hook.says (kmHook hd.heap_39 las las_eq [83, 76, 301, 48])) (N := 4162) left (Hook.of (kmHook hd.heap_39 las las_eq [83, 76, 301, 48])) (Hook.keeps (kmHook hd.heap_39 las las_eq [83, 76, 301, 48])) (fun s e => xl_of s (Bool.and_eq_true_iff.mp e).1) XL.keeps (by rfl) (by rfl) (by rfl) (fun s e => recFacts_of (Bool.and_eq_true_iff.mp e).2) (by rfl) said (by decide +kernel) ⟨rfl, rfl, rfl, rfl, rfl, by decide +kernel⟩ ?hw ?hc
  case hw => w_witness2
  case hc =>
    clear said
    k_go0
    all_goals try k_fold
    (rename World => w0)
    (rename Shared => sA)
    (rename IntsAre _ _ => hI)
    (rename Heap.IsList (ghostOf _ _) _ _ => hLs)
    (rename Fr _ _ _ _ => F0)
    (rename News _ _ _ _ => N0)
    (repeat' (first | ((( (fail_if_success with_reducible first | refine st0 ?_ | refine st1 ?_ | refine st2 ?_ | refine st3 ?_))); (fail_if_success with_reducible first | refine st4 ?_ | refine st5 ?_ | refine st7 ?_ | refine st6 ?_ | refine st8 ?_ | refine st9 ?_); (first | ((with_reducible show wpAny _ _ (call (Value.builtin "len") _) _ _ _); ((k_here; k_dflt (refine' my_len (by k_asm) (by k_mem) (by omega) ?_;  k_whole); intro _ _))) | ((k_here; (with_reducible show wpAny _ _ (getMethod (Value.ref _) (Str.ofString "read") _) _ _ _); k_dflt (refine' my_fnget (by k_asm) (by k_mem) (by assumption) (by k_mem) (by assumption) (by exact if_pos rfl) (by assumption) (by assumption) (by (intro _ e; cases e)) ?_;  k_whole); intro _; dsimp only)) | ((k_here; (with_reducible show wpAny _ _ (getMethod (Value.ref 172) (Str.ofString "search") _) _ _ _); k_dflt (refine' get_172 (by k_asm) (by k_asm) ?_;  k_whole))) | ((k_here; (with_reducible show wpAny _ _ (getMethod (Value.ref 167) (Str.ofString "search") _) _ _ _); k_dflt (refine' get_167 (by k_asm) (by k_asm) ?_;  k_whole))) | ((k_here; (with_reducible show wpAny _ _ (getMethod (Value.ref _) (Str.ofString "pop") _) _ _ _); k_dflt (refine' my_get_pop (knd := PySem.intKind _ _) (by k_asm) (by k_mem) (by assumption) (by omega) ?_;  k_whole))) | ((k_here; (with_reducible show wpAny _ _ (callWith _ (Value.ref _) _ (backTo _ (starEach (_ :: _) _)) []) _ _ _); k_dflt (refine' callWith_F (by exact fnAt_of (by k_asm) (by k_mem) (by assumption)) ?_;  k_whole))) | (((with_reducible show FnAt _ _ ∧ _); refine ⟨by exact fnAt_of (by k_asm) (by k_mem) (by assumption), ?_⟩; try dsimp only [List.nil_append, List.cons_append])) | ((k_here; (with_reducible show wpAny _ _ (call (Value.builtin "str.count") [Value.str _ _, Value.str _ _]) _ _ _); k_dflt (refine' SC.count ?_); (try dsimp only))) | ((k_here; (with_reducible show wpAny _ _ (compareOp CmpOp.NotEq (Value.ref _) (Value.ref _)) _ _ _); k_dflt (refine' ne_intsK (by kmk_list) (by first | exact IntsAre.nil | assumption) (by kmk_list) (by first | exact IntsAre.nil | assumption) (by first | ktr_units | units_room) ?_;  k_whole); (try simp only [decide_true, Bool.not_true]))) | walk_at "mo"))))
    refine' says_cells _ _ _ _ hI ?zn _ _ _ _ _ _ _ _ _ _ _ _ _ _ _ _ _ _ _ _ _ _ _ ?zB ?zF ?zX ?zN ?zT ?zk ?zd ?zu ?zl ?zr
    case zB => k_asm
    case zF => k_asm
    case zX => k_asm
    case zN => k_asm
    case zT => k_asm
    case zk => rfl
    case zl => k_asm
    case zn => omega
    case zd => ktr_room
    case zu => ktr_units
    rintro D1 ys1 cells n1 h1 tk1 hys1 h5 F1 N1 o1
    clear F0 N0 hLs
    dsimp only
    obtain ⟨m1, F1⟩ := names_ex F1 [] all_nil
    (repeat' (first | ((( (fail_if_success with_reducible first | refine st0 ?_ | refine st1 ?_ | refine st2 ?_ | refine st3 ?_))); (fail_if_success with_reducible first | refine st4 ?_ | refine st5 ?_ | refine st7 ?_ | refine st6 ?_ | refine st8 ?_ | refine st9 ?_); (first | ((with_reducible show wpAny _ _ (call (Value.builtin "len") _) _ _ _); ((k_here; k_dflt (refine' my_len (by k_asm) (by k_mem) (by omega) ?_;  k_whole); intro _ _))) | ((k_here; (with_reducible show wpAny _ _ (getMethod (Value.ref _) (Str.ofString "read") _) _ _ _); k_dflt (refine' my_fnget (by k_asm) (by k_mem) (by assumption) (by k_mem) (by assumption) (by exact if_pos rfl) (by assumption) (by assumption) (by (intro _ e; cases e)) ?_;  k_whole); intro _; dsimp only)) | ((k_here; (with_reducible show wpAny _ _ (getMethod (Value.ref 172) (Str.ofString "search") _) _ _ _); k_dflt (refine' get_172 (by k_asm) (by k_asm) ?_;  k_whole))) | ((k_here; (with_reducible show wpAny _ _ (getMethod (Value.ref 167) (Str.ofString "search") _) _ _ _); k_dflt (refine' get_167 (by k_asm) (by k_asm) ?_;  k_whole))) | ((k_here; (with_reducible show wpAny _ _ (getMethod (Value.ref _) (Str.ofString "pop") _) _ _ _); k_dflt (refine' my_get_pop (knd := PySem.intKind _ _) (by k_asm) (by k_mem) (by assumption) (by omega) ?_;  k_whole))) | ((k_here; (with_reducible show wpAny _ _ (callWith _ (Value.ref _) _ (backTo _ (starEach (_ :: _) _)) []) _ _ _); k_dflt (refine' callWith_F (by exact fnAt_of (by k_asm) (by k_mem) (by assumption)) ?_;  k_whole))) | (((with_reducible show FnAt _ _ ∧ _); refine ⟨by exact fnAt_of (by k_asm) (by k_mem) (by assumption), ?_⟩; try dsimp only [List.nil_append, List.cons_append])) | ((k_here; (with_reducible show wpAny _ _ (call (Value.builtin "str.count") [Value.str _ _, Value.str _ _]) _ _ _); k_dflt (refine' SC.count ?_); (try dsimp only))) | ((k_here; (with_reducible show wpAny _ _ (compareOp CmpOp.NotEq (Value.ref _) (Value.ref _)) _ _ _); k_dflt (refine' ne_intsK (by kmk_list) (by first | exact IntsAre.nil | assumption) (by kmk_list) (by first | exact IntsAre.nil | assumption) (by first | ktr_units | units_room) ?_;  k_whole); (try simp only [decide_true, Bool.not_true]))) | walk_at "mo"))))
    refine' use_says (by k_asm) (by k_asm) (by k_asm) ?uN23 (by k_asm) (by first | exact rfl | assumption) ?uC23 ?uD23 ?uU23 ?uR23
    case uN23 => k_asm
    case uC23 => exact says_coins D1 ys1 n1 cells _ (.head _) hys1 h5
    case uD23 => ktr_room
    case uU23 => ktr_units
    rintro vZ h2 tk2 nZ hJz
    refine gz2 vZ nZ ?_
    intro Gz hGz
    obtain ⟨D2, ys2, n2, rfl, rfl, hys2, o2⟩ := hJz
    refine hGz _ _ ?_
    clear hGz Gz
    rintro F2 N2
    refine gz0 fun Gz hGz => ?_
    obtain ⟨good, hsort, hl4, hl5, hb⟩ := coins_good h5
    refine hGz ?_
    clear hGz Gz
    obtain ⟨coins, hcoins⟩ : ∃ coins, coins = coinsOf cells := ⟨_, rfl⟩
    rw [← hcoins] at good hsort hl4 hl5 hb hys2
    dsimp only
    (repeat' (first | ((( (fail_if_success with_reducible first | refine st0 ?_ | refine st1 ?_ | refine st2 ?_ | refine st3 ?_))); (fail_if_success with_reducible first | refine st4 ?_ | refine st5 ?_ | refine st7 ?_ | refine st6 ?_ | refine st8 ?_ | refine st9 ?_); (first | ((with_reducible show wpAny _ _ (call (Value.builtin "len") _) _ _ _); ((k_here; k_dflt (refine' my_len (by k_asm) (by k_mem) (by omega) ?_;  k_whole); intro _ _))) | ((k_here; (with_reducible show wpAny _ _ (getMethod (Value.ref _) (Str.ofString "read") _) _ _ _); k_dflt (refine' my_fnget (by k_asm) (by k_mem) (by assumption) (by k_mem) (by assumption) (by exact if_pos rfl) (by assumption) (by assumption) (by (intro _ e; cases e)) ?_;  k_whole); intro _; dsimp only)) | ((k_here; (with_reducible show wpAny _ _ (getMethod (Value.ref 172) (Str.ofString "search") _) _ _ _); k_dflt (refine' get_172 (by k_asm) (by k_asm) ?_;  k_whole))) | ((k_here; (with_reducible show wpAny _ _ (getMethod (Value.ref 167) (Str.ofString "search") _) _ _ _); k_dflt (refine' get_167 (by k_asm) (by k_asm) ?_;  k_whole))) | ((k_here; (with_reducible show wpAny _ _ (getMethod (Value.ref _) (Str.ofString "pop") _) _ _ _); k_dflt (refine' my_get_pop (knd := PySem.intKind _ _) (by k_asm) (by k_mem) (by assumption) (by omega) ?_;  k_whole))) | ((k_here; (with_reducible show wpAny _ _ (callWith _ (Value.ref _) _ (backTo _ (starEach (_ :: _) _)) []) _ _ _); k_dflt (refine' callWith_F (by exact fnAt_of (by k_asm) (by k_mem) (by assumption)) ?_;  k_whole))) | (((with_reducible show FnAt _ _ ∧ _); refine ⟨by exact fnAt_of (by k_asm) (by k_mem) (by assumption), ?_⟩; try dsimp only [List.nil_append, List.cons_append])) | ((k_here; (with_reducible show wpAny _ _ (call (Value.builtin "str.count") [Value.str _ _, Value.str _ _]) _ _ _); k_dflt (refine' SC.count ?_); (try dsimp only))) | ((k_here; (with_reducible show wpAny _ _ (compareOp CmpOp.NotEq (Value.ref _) (Value.ref _)) _ _ _); k_dflt (refine' ne_intsK (by kmk_list) (by first | exact IntsAre.nil | assumption) (by kmk_list) (by first | exact IntsAre.nil | assumption) (by first | ktr_units | units_room) ?_;  k_whole); (try simp only [decide_true, Bool.not_true]))) | walk_at "mo"))))
    refine' use_says (by k_asm) (by k_asm) (by k_asm) ?uN24 (by k_asm) (by first | exact rfl | assumption) ?uC24 ?uD24 ?uU24 ?uR24
    case uN24 => k_asm
    case uC24 => exact says_text D2 D1 ys2 ys1 n2 n1 coins cells _ (.head _) hys2 (.tail _ (.head _)) hys1 h5 ⟨hl4, hl5⟩ hb
    case uD24 => ktr_room
    case uU24 => ktr_units
    rintro vZ h3 tk3 nZ hJz
    refine gz2 vZ nZ ?_
    intro Gz hGz
    obtain ⟨tX, rfl, rfl⟩ := hJz
    refine hGz _ _ ?_
    clear hGz Gz
    rintro F3 N3
    have hxl := text_len (cells := cells) hl5 hb
    dsimp only
    (repeat' (first | ((( (fail_if_success with_reducible first | refine st0 ?_ | refine st1 ?_ | refine st2 ?_ | refine st3 ?_))); (fail_if_success with_reducible first | refine st4 ?_ | refine st5 ?_ | refine st7 ?_ | refine st6 ?_ | refine st8 ?_ | refine st9 ?_); (first | ((with_reducible show wpAny _ _ (call (Value.builtin "len") _) _ _ _); ((k_here; k_dflt (refine' my_len (by k_asm) (by k_mem) (by omega) ?_;  k_whole); intro _ _))) | ((k_here; (with_reducible show wpAny _ _ (getMethod (Value.ref _) (Str.ofString "read") _) _ _ _); k_dflt (refine' my_fnget (by k_asm) (by k_mem) (by assumption) (by k_mem) (by assumption) (by exact if_pos rfl) (by assumption) (by assumption) (by (intro _ e; cases e)) ?_;  k_whole); intro _; dsimp only)) | ((k_here; (with_reducible show wpAny _ _ (getMethod (Value.ref 172) (Str.ofString "search") _) _ _ _); k_dflt (refine' get_172 (by k_asm) (by k_asm) ?_;  k_whole))) | ((k_here; (with_reducible show wpAny _ _ (getMethod (Value.ref 167) (Str.ofString "search") _) _ _ _); k_dflt (refine' get_167 (by k_asm) (by k_asm) ?_;  k_whole))) | ((k_here; (with_reducible show wpAny _ _ (getMethod (Value.ref _) (Str.ofString "pop") _) _ _ _); k_dflt (refine' my_get_pop (knd := PySem.intKind _ _) (by k_asm) (by k_mem) (by assumption) (by omega) ?_;  k_whole))) | ((k_here; (with_reducible show wpAny _ _ (callWith _ (Value.ref _) _ (backTo _ (starEach (_ :: _) _)) []) _ _ _); k_dflt (refine' callWith_F (by exact fnAt_of (by k_asm) (by k_mem) (by assumption)) ?_;  k_whole))) | (((with_reducible show FnAt _ _ ∧ _); refine ⟨by exact fnAt_of (by k_asm) (by k_mem) (by assumption), ?_⟩; try dsimp only [List.nil_append, List.cons_append])) | ((k_here; (with_reducible show wpAny _ _ (call (Value.builtin "str.count") [Value.str _ _, Value.str _ _]) _ _ _); k_dflt (refine' SC.count ?_); (try dsimp only))) | ((k_here; (with_reducible show wpAny _ _ (compareOp CmpOp.NotEq (Value.ref _) (Value.ref _)) _ _ _); k_dflt (refine' ne_intsK (by kmk_list) (by first | exact IntsAre.nil | assumption) (by kmk_list) (by first | exact IntsAre.nil | assumption) (by first | ktr_units | units_room) ?_;  k_whole); (try simp only [decide_true, Bool.not_true]))) | walk_at "mo"))))
    refine' use_saysPA (by k_asm) (by k_asm) (by k_asm) ?uN25 (by k_asm) (by first | exact rfl | assumption) ?uC25 ?uD25 ?uU25 ?uP25 ?uR25
    case uN25 => exact news_sub (news' := (301, tabObj #[]) :: [(D2, PySem.W.listOf ys2.toArray n2), (D1, PySem.W.listOf ys1.toArray n1), (83, tabObj #[]), (76, tabObj #[]), (48, tabObj #[])]) (by k_asm) (by (((try simp only [List.cons_append, List.nil_append]); (repeat' (first | exact List.forall_mem_nil _ | refine List.forall_mem_cons.mpr ⟨?_, ?_⟩)) <;> (first | k_mem | (intro _ _; k_mem)))))
    case uC25 => exact (says_machine _ _ _ _ (by
      intro p hp
      simp only [List.mem_cons, List.not_mem_nil, or_false] at hp
      rcases hp with rfl | rfl | rfl | rfl | rfl
      · exact fun e => o2 (301, tabObj #[]) (by k_mem) e.symm
      · exact fun e => o1 (301, tabObj #[]) (by k_mem) e.symm
      · decide
      · decide
      · decide) (by omega)).pa
    case uP25 => dsimp only; omega
    case uD25 => ktr_room
    case uU25 => ktr_units
    rintro vZ h4 tk4 dr4 nZ hJz
    refine gz2 vZ nZ ?_
    intro Gz hGz
    obtain ⟨mach, dm, lp, fS, Lat, fixM, tp, nL, ka, kb, kc, kd, tn, tw, rfl, rfl, M, ⟨pz, h301⟩, ofix, oms⟩ := hJz
    refine hGz _ _ ?_
    clear hGz Gz
    rintro ht4 F4 N4
    dsimp only at ht4
    obtain ⟨rest0, hrest0⟩ : ∃ r : Led, r = fixM ++ [(D2, PySem.W.listOf ys2.toArray n2), (D1, PySem.W.listOf ys1.toArray n1), (83, tabObj #[]), (76, tabObj #[])] := ⟨_, rfl⟩
    have mC : (D2, PySem.W.listOf ys2.toArray n2) ∈ rest0 := hrest0 ▸ List.mem_append_right _ (by k_mem)
    have m83 : (83, tabObj #[]) ∈ rest0 := hrest0 ▸ List.mem_append_right _ (by k_mem)
    have m76 : (76, tabObj #[]) ∈ rest0 := hrest0 ▸ List.mem_append_right _ (by k_mem)
    have m301 : (301, tabObj pz) ∈ rest0 := hrest0 ▸ List.mem_append_left _ h301
    have h48 : ∀ p ∈ ([(D2, PySem.W.listOf ys2.toArray n2), (D1, PySem.W.listOf ys1.toArray n1), (83, tabObj #[]), (76, tabObj #[]), (48, tabObj #[])] : Led), p.1 < lp ∧ p.1 < Lat ∧ p.1 < dm := oms
    have hoff0 : ∀ q ∈ rest0, q.1 ≠ lp ∧ q.1 ≠ Lat ∧ q.1 ≠ dm := by
      intro q hq
      rw [hrest0] at hq
      rcases List.mem_append.mp hq with hq | hq
      · exact M.offs q hq
      · have := oms q (by
          simp only [List.mem_cons, List.not_mem_nil, or_false] at hq ⊢
          rcases hq with h | h | h | h <;> solve_by_elim (maxDepth := 14) only [h, Or.inl, Or.inr])
        exact ⟨Nat.ne_of_lt this.1, Nat.ne_of_lt this.2.1, Nat.ne_of_lt this.2.2⟩
    have M0 := M.mono (rest' := rest0) (fun q hq => hrest0 ▸ List.mem_append_left _ hq) hoff0
    have hr48 : ∀ q ∈ rest0, q.1 ≠ 48 := by
      intro q hq
      rw [hrest0] at hq
      rcases List.mem_append.mp hq with hq | hq
      · rcases ofix q hq with e | e
        · rw [e]; decide
        · exact Nat.ne_of_gt (e (48, tabObj #[]) (by k_mem))
      · simp only [List.mem_cons, List.not_mem_nil, or_false] at hq
        rcases hq with rfl | rfl | rfl | rfl
        · exact fun e => o2 (48, tabObj #[]) (by k_mem) e.symm
        · exact fun e => o1 (48, tabObj #[]) (by k_mem) e.symm
        · decide
        · decide
    obtain ⟨ms0, hms0⟩ : ∃ ms, ms = mst w0.params [] 0 0 tp nL ka kb kc kd 1 tn tw lp dm fS Lat rest0 := ⟨_, rfl⟩
    have N5 := news_sub (news' := (48, tabObj #[]) :: ms0) N4 (by
      intro q hq
      rw [hms0, hrest0] at hq
      unfold mst at hq ⊢
      simp only [List.mem_cons, List.mem_append, List.not_mem_nil, or_false] at hq ⊢
      rcases hq with h | h | h | h | h | h | h | h | h <;> solve_by_elim (maxDepth := 14) only [h, Or.inl, Or.inr])
    have mC0 : (D2, PySem.W.listOf ys2.toArray n2) ∈ ms0 := hms0 ▸ .tail _ (.tail _ (.tail _ mC))
    clear N4
    have hyl2 := hys2.length
    dsimp only
    (repeat' (first | ((( (fail_if_success with_reducible first | refine st0 ?_ | refine st1 ?_ | refine st2 ?_ | refine st3 ?_))); (fail_if_success with_reducible first | refine st4 ?_ | refine st5 ?_ | refine st7 ?_ | refine st6 ?_ | refine st8 ?_ | refine st9 ?_); (first | ((with_reducible show wpAny _ _ (call (Value.builtin "len") _) _ _ _); ((k_here; k_dflt (refine' my_len (by k_asm) (by k_mem) (by omega) ?_;  k_whole); intro _ _))) | ((k_here; (with_reducible show wpAny _ _ (getMethod (Value.ref _) (Str.ofString "read") _) _ _ _); k_dflt (refine' my_fnget (by k_asm) (by k_mem) (by assumption) (by k_mem) (by assumption) (by exact if_pos rfl) (by assumption) (by assumption) (by (intro _ e; cases e)) ?_;  k_whole); intro _; dsimp only)) | ((k_here; (with_reducible show wpAny _ _ (getMethod (Value.ref 172) (Str.ofString "search") _) _ _ _); k_dflt (refine' get_172 (by k_asm) (by k_asm) ?_;  k_whole))) | ((k_here; (with_reducible show wpAny _ _ (getMethod (Value.ref 167) (Str.ofString "search") _) _ _ _); k_dflt (refine' get_167 (by k_asm) (by k_asm) ?_;  k_whole))) | ((k_here; (with_reducible show wpAny _ _ (getMethod (Value.ref _) (Str.ofString "pop") _) _ _ _); k_dflt (refine' my_get_pop (knd := PySem.intKind _ _) (by k_asm) (by k_mem) (by assumption) (by omega) ?_;  k_whole))) | ((k_here; (with_reducible show wpAny _ _ (callWith _ (Value.ref _) _ (backTo _ (starEach (_ :: _) _)) []) _ _ _); k_dflt (refine' callWith_F (by exact fnAt_of (by k_asm) (by k_mem) (by assumption)) ?_;  k_whole))) | (((with_reducible show FnAt _ _ ∧ _); refine ⟨by exact fnAt_of (by k_asm) (by k_mem) (by assumption), ?_⟩; try dsimp only [List.nil_append, List.cons_append])) | ((k_here; (with_reducible show wpAny _ _ (call (Value.builtin "str.count") [Value.str _ _, Value.str _ _]) _ _ _); k_dflt (refine' SC.count ?_); (try dsimp only))) | ((k_here; (with_reducible show wpAny _ _ (compareOp CmpOp.NotEq (Value.ref _) (Value.ref _)) _ _ _); k_dflt (refine' ne_intsK (by kmk_list) (by first | exact IntsAre.nil | assumption) (by kmk_list) (by first | exact IntsAre.nil | assumption) (by first | ktr_units | units_room) ?_;  k_whole); (try simp only [decide_true, Bool.not_true]))) | walk_at "mo"))))
    ((k_here; (with_unfolding_all refine' For_T ?_); k_whole))
    refine wpAny_toks ?_
    (repeat' (first | ((( (fail_if_success with_reducible first | refine st0 ?_ | refine st1 ?_ | refine st2 ?_ | refine st3 ?_))); (fail_if_success with_reducible first | refine st4 ?_ | refine st5 ?_ | refine st7 ?_ | refine st6 ?_ | refine st8 ?_ | refine st9 ?_); (first | ((with_reducible show wpAny _ _ (call (Value.builtin "len") _) _ _ _); ((k_here; k_dflt (refine' my_len (by k_asm) (by k_mem) (by omega) ?_;  k_whole); intro _ _))) | ((k_here; (with_reducible show wpAny _ _ (getMethod (Value.ref _) (Str.ofString "read") _) _ _ _); k_dflt (refine' my_fnget (by k_asm) (by k_mem) (by assumption) (by k_mem) (by assumption) (by exact if_pos rfl) (by assumption) (by assumption) (by (intro _ e; cases e)) ?_;  k_whole); intro _; dsimp only)) | ((k_here; (with_reducible show wpAny _ _ (getMethod (Value.ref 172) (Str.ofString "search") _) _ _ _); k_dflt (refine' get_172 (by k_asm) (by k_asm) ?_;  k_whole))) | ((k_here; (with_reducible show wpAny _ _ (getMethod (Value.ref 167) (Str.ofString "search") _) _ _ _); k_dflt (refine' get_167 (by k_asm) (by k_asm) ?_;  k_whole))) | ((k_here; (with_reducible show wpAny _ _ (getMethod (Value.ref _) (Str.ofString "pop") _) _ _ _); k_dflt (refine' my_get_pop (knd := PySem.intKind _ _) (by k_asm) (by k_mem) (by assumption) (by omega) ?_;  k_whole))) | ((k_here; (with_reducible show wpAny _ _ (callWith _ (Value.ref _) _ (backTo _ (starEach (_ :: _) _)) []) _ _ _); k_dflt (refine' callWith_F (by exact fnAt_of (by k_asm) (by k_mem) (by assumption)) ?_;  k_whole))) | (((with_reducible show FnAt _ _ ∧ _); refine ⟨by exact fnAt_of (by k_asm) (by k_mem) (by assumption), ?_⟩; try dsimp only [List.nil_append, List.cons_append])) | ((k_here; (with_reducible show wpAny _ _ (call (Value.builtin "str.count") [Value.str _ _, Value.str _ _]) _ _ _); k_dflt (refine' SC.count ?_); (try dsimp only))) | ((k_here; (with_reducible show wpAny _ _ (compareOp CmpOp.NotEq (Value.ref _) (Value.ref _)) _ _ _); k_dflt (refine' ne_intsK (by kmk_list) (by first | exact IntsAre.nil | assumption) (by kmk_list) (by first | exact IntsAre.nil | assumption) (by first | ktr_units | units_room) ?_;  k_whole); (try simp only [decide_true, Bool.not_true]))) | walk_at "mo"))))
    (rename Fr _ _ _ _ => F6)
    (rename News _ _ _ _ => N6)
    (rename IsRange _ _ _ _ _ _ _ _ => hrange)
    rename_i R _ lR _ _ _ _ _ _ _ _ _ _ _ _ hkeep hge
    clear hkeep
    dsimp only at hge
    obtain ⟨B, hB⟩ : ∃ B : List Addr, B = R :: lp :: Lat :: dm :: rest0.map (·.1) := ⟨_, rfl⟩
    have hlR : ∀ q ∈ ms0, q.1 < R := mem_allLt lR.2
    have hRne : ∀ q ∈ rest0, q.1 ≠ R := fun q hq => Nat.ne_of_lt (hlR q (by rw [hms0]; exact mst_rest hq))
    refine gz0 fun Gz hGz => ?_
    obtain ⟨⟨oh1, hh1⟩, ⟨oh2, hh2⟩, oh3, hh3⟩ := mst_has w0.params [] 0 0 tp nL ka kb kc kd 1 tn tw lp dm fS Lat rest0
    refine hGz ?_
    clear hGz Gz
    rw [← hms0] at hh1 hh2 hh3
    have hRlp : lp ≠ R := Nat.ne_of_lt (hlR _ hh1)
    have hRLat : Lat ≠ R := Nat.ne_of_lt (hlR _ hh2)
    have hRdm : dm ≠ R := Nat.ne_of_lt (hlR _ hh3)
    have h48t := h48 (48, tabObj #[]) (by k_mem)
    have hB48 : ∀ b ∈ B, b ≠ 48 := by
      intro b hb'
      rw [hB] at hb'
      rcases List.mem_cons.mp hb' with rfl | hb'
      · exact Nat.ne_of_gt lR.1
      rcases List.mem_cons.mp hb' with rfl | hb'
      · exact Nat.ne_of_gt h48t.1
      rcases List.mem_cons.mp hb' with rfl | hb'
      · exact Nat.ne_of_gt h48t.2.1
      rcases List.mem_cons.mp hb' with rfl | hb'
      · exact Nat.ne_of_gt h48t.2.2
      · refine gz0 fun Gz hGz => ?_
        obtain ⟨q, hq, rfl⟩ := List.mem_map.mp hb'
        refine hGz ?_
        clear hGz Gz
        exact hr48 q hq
    have hBlp : lp ∈ B := by rw [hB]; k_mem
    have hBLat : Lat ∈ B := by rw [hB]; k_mem
    have hBdm : dm ∈ B := by rw [hB]; k_mem
    have hBR : R ∈ B := by rw [hB]; k_mem
    have hBr : ∀ q ∈ rest0, q.1 ∈ B := fun q hq => by rw [hB]; exact .tail _ (.tail _ (.tail _ (.tail _ (List.mem_map_of_mem hq))))
    obtain ⟨L, hL⟩ := fr_L F6
    rw [hms0] at N6
    refine loopRangeP (n := coins.length) (fun i m nx => (Xx6 fun (vr : List Value) (nr : Nat) (T48 : Led) (tp : Tok) (nL : Nat) (tn : Tok) => Aa6 (nx = (R, PySem.W.listOf vr.toArray nr) :: (T48 ++ mst w0.params [] 0 (((WL coins cells).take i).flatten.length) tp nL ka kb kc kd (1 + nls ((WL coins cells).take i).flatten) tn tw lp dm fS Lat rest0)) (IntsAre vr (((turned coins cells).take i).foldl ins [])) ((T48 = [(48, tabObj #[])] ∨ W48 T48)) ((0 < i → W48 T48)) ((∀ r ∈ T48, r.1 = 48 ∨ ∀ b ∈ B, @LT.lt Nat _ b r.1)) (HasN m [("coins", .ref D2), ("text", .str (textOf coins cells) tX), ("machine", .ref mach), ("row", .ref R)]))) ?_ hrange ?_ ?_ F6 N6 ?_ ?_ ?_ ?_
    · exact (by rfl)
    · exact small_one (by omega) (by omega) (by omega) (by omega)
    · unfold Builtin.Range.rangeSize
      rw [if_pos (by decide)]
      split <;> omega
    · exact ⟨[], 0, [(48, tabObj #[])], tp, nL, tn, rfl, .nil, .inl rfl, (fun h => absurd h (Nat.lt_irrefl 0)), (fun r hr => by rw [List.mem_singleton.mp hr]; exact .inl rfl), by ((repeat' (first | exact all_nil | refine all_cons rfl ?_)))⟩
    · intros; rfl
    · rintro i t m₁ nx h10 tk10 dr10 I oI hi hJz
      refine gz1 nx ?_
      intro Gz hGz
      obtain ⟨vr, nr, T48, tp1, nL1, tn1, rfl, hvr, hT, hW, hBT, hN⟩ := hJz
      refine hGz _ ?_
      clear hGz Gz
      rintro ho htk F10 N10
      dsimp only at htk
      obtain ⟨m9, F10⟩ := names_ex F10 [("coins", .ref D2), ("text", .str (textOf coins cells) tX), ("machine", .ref mach), ("row", .ref R)] hN
      refine gz0 fun Gz hGz => ?_
      obtain ⟨W, c, rst, wok, hc, hdr, htk1⟩ := at_word (cells := cells) (by omega : 0 < coins.length) hb i hi
      refine hGz ?_
      clear hGz Gz
      obtain ⟨p, hp⟩ : ∃ p, p = ((WL coins cells).take i).flatten.length := ⟨_, rfl⟩
      obtain ⟨ln, hln⟩ : ∃ ln, ln = 1 + nls ((WL coins cells).take i).flatten := ⟨_, rfl⟩
      rw [← hp] at hdr
      rw [← hp, ← hln] at N10 ho
      obtain ⟨hpx, hhd⟩ := drop_lt hdr wok.ne
      have htok := tok_app rst wok.cl
      have hIR : @Ne Nat R I := ho (R, PySem.W.listOf vr.toArray nr) (.head _)
      refine gz0 fun Gz hGz => ?_
      obtain ⟨⟨oi1, hi1⟩, ⟨oi2, hi2⟩, oi3, hi3⟩ := mst_has w0.params [] 0 p tp1 nL1 ka kb kc kd ln tn1 tw lp dm fS Lat rest0
      refine hGz ?_
      clear hGz Gz
      have hIlp : @Ne Nat lp I := ho _ (.tail _ (List.mem_append_right _ hi1))
      have hILat : @Ne Nat Lat I := ho _ (.tail _ (List.mem_append_right _ hi2))
      have hIdm : @Ne Nat dm I := ho _ (.tail _ (List.mem_append_right _ hi3))
      have hIr : ∀ q ∈ rest0, q.1 ≠ I := fun q hq => ho q (.tail _ (List.mem_append_right _ (mst_rest hq)))
      have hIT : ∀ q ∈ T48, q.1 ≠ I := fun q hq => ho q (.tail _ (List.mem_append_left _ hq))
      obtain ⟨o48, hT48⟩ : ∃ o, (48, o) ∈ T48 := by
        rcases hT with rfl | ⟨_, _, _, _, rfl, _⟩
        · exact ⟨_, .head _⟩
        · exact ⟨_, .head _⟩
      have hI48 : @Ne Nat 48 I := hIT _ hT48
      have hTne : ∀ r ∈ T48, ∀ b ∈ B, r.1 ≠ b := fun r hr b hb' => by
        rcases hBT r hr with e | e
        · rw [e]; exact Ne.symm (hB48 b hb')
        · exact Nat.ne_of_gt (e b hb')
      have M1 : Mach w0 (textOf coins cells) mach dm lp fS Lat ((I, oI) :: (R, PySem.W.listOf vr.toArray nr) :: (T48 ++ rest0)) := M0.mono (fun q hq => .tail _ (.tail _ (List.mem_append_right _ hq))) (by
        intro q hq
        rcases List.mem_cons.mp hq with rfl | hq
        · exact ⟨Ne.symm hIlp, Ne.symm hILat, Ne.symm hIdm⟩
        rcases List.mem_cons.mp hq with rfl | hq
        · exact ⟨Ne.symm hRlp, Ne.symm hRLat, Ne.symm hRdm⟩
        rcases List.mem_append.mp hq with hq | hq
        · exact ⟨hTne q hq lp hBlp, hTne q hq Lat hBLat, hTne q hq dm hBdm⟩
        · exact hoff0 q hq)
      have hinst := M1.inst
      replace N10 := news_sub (news' := mst w0.params [] 0 p tp1 nL1 ka kb kc kd ln tn1 tw lp dm fS Lat (((I, oI) :: (R, PySem.W.listOf vr.toArray nr) :: T48) ++ rest0)) N10 (by
        intro q hq
        rcases mst_swap.mp hq with hq | hq
        · rcases List.mem_cons.mp hq with rfl | hq
          · exact .head _
          rcases List.mem_cons.mp hq with rfl | hq
          · exact .tail _ (.head _)
          · exact .tail _ (.tail _ (List.mem_append_left _ hq))
        · exact .tail _ (.tail _ (List.mem_append_right _ hq)))
      unfold mst at N10
      simp only [List.cons_append] at N10
      (repeat' (first | ((( (fail_if_success with_reducible first | refine st0 ?_ | refine st1 ?_ | refine st2 ?_ | refine st3 ?_))); (fail_if_success with_reducible first | refine st4 ?_ | refine st5 ?_ | refine st7 ?_ | refine st6 ?_ | refine st8 ?_ | refine st9 ?_); (first | ((with_reducible show wpAny _ _ (call (Value.builtin "len") _) _ _ _); ((k_here; k_dflt (refine' my_len (by k_asm) (by k_mem) (by omega) ?_;  k_whole); intro _ _))) | ((k_here; (with_reducible show wpAny _ _ (getMethod (Value.ref _) (Str.ofString "read") _) _ _ _); k_dflt (refine' my_fnget (by k_asm) (by k_mem) (by assumption) (by k_mem) (by assumption) (by exact if_pos rfl) (by assumption) (by assumption) (by (intro _ e; cases e)) ?_;  k_whole); intro _; dsimp only)) | ((k_here; (with_reducible show wpAny _ _ (getMethod (Value.ref 172) (Str.ofString "search") _) _ _ _); k_dflt (refine' get_172 (by k_asm) (by k_asm) ?_;  k_whole))) | ((k_here; (with_reducible show wpAny _ _ (getMethod (Value.ref 167) (Str.ofString "search") _) _ _ _); k_dflt (refine' get_167 (by k_asm) (by k_asm) ?_;  k_whole))) | ((k_here; (with_reducible show wpAny _ _ (getMethod (Value.ref _) (Str.ofString "pop") _) _ _ _); k_dflt (refine' my_get_pop (knd := PySem.intKind _ _) (by k_asm) (by k_mem) (by assumption) (by omega) ?_;  k_whole))) | ((k_here; (with_reducible show wpAny _ _ (callWith _ (Value.ref _) _ (backTo _ (starEach (_ :: _) _)) []) _ _ _); k_dflt (refine' callWith_F (by exact fnAt_of (by k_asm) (by k_mem) (by assumption)) ?_;  k_whole))) | (((with_reducible show FnAt _ _ ∧ _); refine ⟨by exact fnAt_of (by k_asm) (by k_mem) (by assumption), ?_⟩; try dsimp only [List.nil_append, List.cons_append])) | ((k_here; (with_reducible show wpAny _ _ (call (Value.builtin "str.count") [Value.str _ _, Value.str _ _]) _ _ _); k_dflt (refine' SC.count ?_); (try dsimp only))) | ((k_here; (with_reducible show wpAny _ _ (compareOp CmpOp.NotEq (Value.ref _) (Value.ref _)) _ _ _); k_dflt (refine' ne_intsK (by kmk_list) (by first | exact IntsAre.nil | assumption) (by kmk_list) (by first | exact IntsAre.nil | assumption) (by first | ktr_units | units_room) ?_;  k_whole); (try simp only [decide_true, Bool.not_true]))) | walk_at "mo"))))
      dsimp only [List.append_nil]
      refine' use_saysPA (by k_asm) (by k_asm) (by k_asm) ?uN26 (by k_asm) (by first | exact rfl | assumption) ?uC26 ?uD26 ?uU26 ?uP26 ?uR26
      case uN26 => exact news_sub (news' := mst w0.params [] 0 p tp1 nL1 ka kb kc kd ln tn1 tw lp dm fS Lat ((I, oI) :: (R, PySem.W.listOf vr.toArray nr) :: (T48 ++ rest0))) (by k_asm) (fun q hq => by unfold mst at hq; exact hq)
      case uC26 => exact (says_tok w0 (textOf coins cells) mach dm lp fS Lat _ M1 0 p tp1 nL1 ka kb kc kd ln tn1 tw (Nat.le_of_lt hpx) (text_low hb) (by omega) (fun _ => by rw [hhd]; exact wok.hd)).pa
      case uD26 => ktr_room
      case uU26 => ktr_units
      case uP26 => dsimp only; omega
      rintro vZ h11 tk11 dr11 nZ hJz
      refine gz2 vZ nZ ?_
      intro Gz hGz
      obtain ⟨ts, tp2, nL2, tn2, rfl, rfl⟩ := hJz
      refine hGz _ _ ?_
      clear hGz Gz
      rintro ht11 F11 N11
      dsimp only at ht11
      rw [hdr, htok.2, wok.all, List.take_left] at N11
      rw [hdr, htok.1]
      dsimp only
      (repeat' (first | ((( (fail_if_success with_reducible first | refine st0 ?_ | refine st1 ?_ | refine st2 ?_ | refine st3 ?_))); (fail_if_success with_reducible first | refine st4 ?_ | refine st5 ?_ | refine st7 ?_ | refine st6 ?_ | refine st8 ?_ | refine st9 ?_); (first | ((with_reducible show wpAny _ _ (call (Value.builtin "len") _) _ _ _); ((k_here; k_dflt (refine' my_len (by k_asm) (by k_mem) (by omega) ?_;  k_whole); intro _ _))) | ((k_here; (with_reducible show wpAny _ _ (getMethod (Value.ref _) (Str.ofString "read") _) _ _ _); k_dflt (refine' my_fnget (by k_asm) (by k_mem) (by assumption) (by k_mem) (by assumption) (by exact if_pos rfl) (by assumption) (by assumption) (by (intro _ e; cases e)) ?_;  k_whole); intro _; dsimp only)) | ((k_here; (with_reducible show wpAny _ _ (getMethod (Value.ref 172) (Str.ofString "search") _) _ _ _); k_dflt (refine' get_172 (by k_asm) (by k_asm) ?_;  k_whole))) | ((k_here; (with_reducible show wpAny _ _ (getMethod (Value.ref 167) (Str.ofString "search") _) _ _ _); k_dflt (refine' get_167 (by k_asm) (by k_asm) ?_;  k_whole))) | ((k_here; (with_reducible show wpAny _ _ (getMethod (Value.ref _) (Str.ofString "pop") _) _ _ _); k_dflt (refine' my_get_pop (knd := PySem.intKind _ _) (by k_asm) (by k_mem) (by assumption) (by omega) ?_;  k_whole))) | ((k_here; (with_reducible show wpAny _ _ (callWith _ (Value.ref _) _ (backTo _ (starEach (_ :: _) _)) []) _ _ _); k_dflt (refine' callWith_F (by exact fnAt_of (by k_asm) (by k_mem) (by assumption)) ?_;  k_whole))) | (((with_reducible show FnAt _ _ ∧ _); refine ⟨by exact fnAt_of (by k_asm) (by k_mem) (by assumption), ?_⟩; try dsimp only [List.nil_append, List.cons_append])) | ((k_here; (with_reducible show wpAny _ _ (call (Value.builtin "str.count") [Value.str _ _, Value.str _ _]) _ _ _); k_dflt (refine' SC.count ?_); (try dsimp only))) | ((k_here; (with_reducible show wpAny _ _ (compareOp CmpOp.NotEq (Value.ref _) (Value.ref _)) _ _ _); k_dflt (refine' ne_intsK (by kmk_list) (by first | exact IntsAre.nil | assumption) (by kmk_list) (by first | exact IntsAre.nil | assumption) (by first | ktr_units | units_room) ?_;  k_whole); (try simp only [decide_true, Bool.not_true]))) | walk_at "mo"))))
      refine' use_saysP (by k_asm) (by k_asm) (by k_asm) ?uN27 (by k_asm) (by first | exact rfl | assumption) ?uC27 ?uD27 ?uU27 (by dsimp only; omega) ?uR27
      case uN27 => exact news_sub (news' := T48 ++ ((I, oI) :: (R, PySem.W.listOf vr.toArray nr) :: mst w0.params [] 0 (p + W.length) tp2 nL2 ka kb kc kd (ln + nls W) tn2 tw lp dm fS Lat rest0)) (by k_asm) (by
        intro q hq
        refine mst_swap (own := (I, oI) :: (R, PySem.W.listOf vr.toArray nr) :: T48).mpr ?_
        rcases List.mem_append.mp hq with hq | hq
        · exact .inl (.tail _ (.tail _ hq))
        rcases List.mem_cons.mp hq with rfl | hq
        · exact .inl (.head _)
        rcases List.mem_cons.mp hq with rfl | hq
        · exact .inl (.tail _ (.head _))
        · exact .inr hq)
      case uC27 => exact says_ifs (tokS W) _ ts c T48 _ wok.short rfl wok.short2 wok.val (hT.imp (fun e => ⟨e, by
        intro q hq
        rcases List.mem_cons.mp hq with rfl | hq
        · exact Ne.symm hI48
        rcases List.mem_cons.mp hq with rfl | hq
        · exact hB48 R hBR
        rcases mst_addr hq with e | e | e | hq
        · rw [e]; exact hB48 lp hBlp
        · rw [e]; exact hB48 Lat hBLat
        · rw [e]; exact hB48 dm hBdm
        · exact hr48 q hq⟩) id)
      case uD27 => ktr_room
      case uU27 => ktr_units
      rintro vZ h12 tk12 dr12 nZ hJz
      refine gz2 vZ nZ ?_
      intro Gz hGz
      obtain ⟨tc, T48', rfl, rfl, hw', hwarm, hnew⟩ := hJz
      refine hGz _ _ ?_
      clear hGz Gz
      rintro ht12 F12 N12
      dsimp only at ht12
      have hT2 : ∀ r ∈ T48', r.1 = 48 ∨ (∀ b ∈ B, @LT.lt Nat _ b r.1) := by
        intro r hr
        rcases hnew r hr with h | h | h
        · exact hBT r h
        · exact .inl h
        · right
          intro b hb'
          rw [hB] at hb'
          refine gz0 fun Gz hGz => ?_
          obtain ⟨⟨oj1, hj1⟩, ⟨oj2, hj2⟩, oj3, hj3⟩ := mst_has w0.params [] 0 (p + W.length) tp2 nL2 ka kb kc kd (ln + nls W) tn2 tw lp dm fS Lat rest0
          refine hGz ?_
          clear hGz Gz
          rcases List.mem_cons.mp hb' with rfl | hb'
          · exact h (b, _) (.tail _ (.head _))
          rcases List.mem_cons.mp hb' with rfl | hb'
          · exact h _ (.tail _ (.tail _ hj1))
          rcases List.mem_cons.mp hb' with rfl | hb'
          · exact h _ (.tail _ (.tail _ hj2))
          rcases List.mem_cons.mp hb' with rfl | hb'
          · exact h _ (.tail _ (.tail _ hj3))
          · refine gz0 fun Gz hGz => ?_
            obtain ⟨q, hq, rfl⟩ := List.mem_map.mp hb'
            refine hGz ?_
            clear hGz Gz
            exact h q (.tail _ (.tail _ (mst_rest hq)))
      have hTI : ∀ r ∈ T48', r.1 ≠ I := by
        intro r hr
        rcases hnew r hr with h | h | h
        · exact hIT r h
        · rw [h]; exact hI48
        · exact Nat.ne_of_gt (h (I, oI) (.head _))
      have hTR : ∀ r ∈ T48', r.1 ≠ R := by
        intro r hr
        rcases hT2 r hr with e | e
        · rw [e]; exact Ne.symm (hB48 R hBR)
        · exact Nat.ne_of_gt (e R hBR)
      have hsrt := ins_all ((turned coins cells).take i) [] List.Pairwise.nil
      have hvl2 := hsrt.2.length_eq
      rw [List.append_nil, List.length_take, turned_len] at hvl2
      dsimp only
      (repeat' (first | ((( (fail_if_success with_reducible first | refine st0 ?_ | refine st1 ?_ | refine st2 ?_ | refine st3 ?_))); (fail_if_success with_reducible first | refine st4 ?_ | refine st5 ?_ | refine st7 ?_ | refine st6 ?_ | refine st8 ?_ | refine st9 ?_); (first | ((with_reducible show wpAny _ _ (call (Value.builtin "len") _) _ _ _); ((k_here; k_dflt (refine' my_len (by k_asm) (by k_mem) (by omega) ?_;  k_whole); intro _ _))) | ((k_here; (with_reducible show wpAny _ _ (getMethod (Value.ref _) (Str.ofString "read") _) _ _ _); k_dflt (refine' my_fnget (by k_asm) (by k_mem) (by assumption) (by k_mem) (by assumption) (by exact if_pos rfl) (by assumption) (by assumption) (by (intro _ e; cases e)) ?_;  k_whole); intro _; dsimp only)) | ((k_here; (with_reducible show wpAny _ _ (getMethod (Value.ref 172) (Str.ofString "search") _) _ _ _); k_dflt (refine' get_172 (by k_asm) (by k_asm) ?_;  k_whole))) | ((k_here; (with_reducible show wpAny _ _ (getMethod (Value.ref 167) (Str.ofString "search") _) _ _ _); k_dflt (refine' get_167 (by k_asm) (by k_asm) ?_;  k_whole))) | ((k_here; (with_reducible show wpAny _ _ (getMethod (Value.ref _) (Str.ofString "pop") _) _ _ _); k_dflt (refine' my_get_pop (knd := PySem.intKind _ _) (by k_asm) (by k_mem) (by assumption) (by omega) ?_;  k_whole))) | ((k_here; (with_reducible show wpAny _ _ (callWith _ (Value.ref _) _ (backTo _ (starEach (_ :: _) _)) []) _ _ _); k_dflt (refine' callWith_F (by exact fnAt_of (by k_asm) (by k_mem) (by assumption)) ?_;  k_whole))) | (((with_reducible show FnAt _ _ ∧ _); refine ⟨by exact fnAt_of (by k_asm) (by k_mem) (by assumption), ?_⟩; try dsimp only [List.nil_append, List.cons_append])) | ((k_here; (with_reducible show wpAny _ _ (call (Value.builtin "str.count") [Value.str _ _, Value.str _ _]) _ _ _); k_dflt (refine' SC.count ?_); (try dsimp only))) | ((k_here; (with_reducible show wpAny _ _ (compareOp CmpOp.NotEq (Value.ref _) (Value.ref _)) _ _ _); k_dflt (refine' ne_intsK (by kmk_list) (by first | exact IntsAre.nil | assumption) (by kmk_list) (by first | exact IntsAre.nil | assumption) (by first | ktr_units | units_room) ?_;  k_whole); (try simp only [decide_true, Bool.not_true]))) | walk_at "mo"))))
      refine' use_says (by k_asm) (by k_asm) (by k_asm) ?uN28 (by k_asm) (by first | exact rfl | assumption) ?uC28 ?uD28 ?uU28 ?uR28
      case uN28 => exact news_sub (news' := (R, PySem.W.listOf vr.toArray nr) :: ((I, oI) :: (T48' ++ mst w0.params [] 0 (p + W.length) tp2 nL2 ka kb kc kd (ln + nls W) tn2 tw lp dm fS Lat rest0))) (by k_asm) (by
        intro q hq
        rcases List.mem_cons.mp hq with rfl | hq
        · exact List.mem_append_right _ (.tail _ (.head _))
        rcases List.mem_cons.mp hq with rfl | hq
        · exact List.mem_append_right _ (.head _)
        rcases List.mem_append.mp hq with hq | hq
        · exact List.mem_append_left _ hq
        · exact List.mem_append_right _ (.tail _ (.tail _ hq)))
      case uC28 => exact says_ins R vr nr _ c tc _ hvr (by omega) (getD_sorted hsrt.1) (by
        intro q hq
        rcases List.mem_cons.mp hq with rfl | hq
        · exact Ne.symm hIR
        rcases List.mem_append.mp hq with hq | hq
        · exact hTR q hq
        rcases mst_addr hq with e | e | e | hq
        · rw [e]; exact hRlp
        · rw [e]; exact hRLat
        · rw [e]; exact hRdm
        · exact hRne q hq)
      case uD28 => ktr_room
      case uU28 => ktr_units
      rintro vZ h13 tk13 nZ hJz
      refine gz2 vZ nZ ?_
      intro Gz hGz
      obtain ⟨rfl, vr', nr', hvr', rfl⟩ := hJz
      refine hGz _ _ ?_
      clear hGz Gz
      rintro F13 N13
      dsimp only
      (repeat' (first | ((( (fail_if_success with_reducible first | refine st0 ?_ | refine st1 ?_ | refine st2 ?_ | refine st3 ?_))); (fail_if_success with_reducible first | refine st4 ?_ | refine st5 ?_ | refine st7 ?_ | refine st6 ?_ | refine st8 ?_ | refine st9 ?_); (first | ((with_reducible show wpAny _ _ (call (Value.builtin "len") _) _ _ _); ((k_here; k_dflt (refine' my_len (by k_asm) (by k_mem) (by omega) ?_;  k_whole); intro _ _))) | ((k_here; (with_reducible show wpAny _ _ (getMethod (Value.ref _) (Str.ofString "read") _) _ _ _); k_dflt (refine' my_fnget (by k_asm) (by k_mem) (by assumption) (by k_mem) (by assumption) (by exact if_pos rfl) (by assumption) (by assumption) (by (intro _ e; cases e)) ?_;  k_whole); intro _; dsimp only)) | ((k_here; (with_reducible show wpAny _ _ (getMethod (Value.ref 172) (Str.ofString "search") _) _ _ _); k_dflt (refine' get_172 (by k_asm) (by k_asm) ?_;  k_whole))) | ((k_here; (with_reducible show wpAny _ _ (getMethod (Value.ref 167) (Str.ofString "search") _) _ _ _); k_dflt (refine' get_167 (by k_asm) (by k_asm) ?_;  k_whole))) | ((k_here; (with_reducible show wpAny _ _ (getMethod (Value.ref _) (Str.ofString "pop") _) _ _ _); k_dflt (refine' my_get_pop (knd := PySem.intKind _ _) (by k_asm) (by k_mem) (by assumption) (by omega) ?_;  k_whole))) | ((k_here; (with_reducible show wpAny _ _ (callWith _ (Value.ref _) _ (backTo _ (starEach (_ :: _) _)) []) _ _ _); k_dflt (refine' callWith_F (by exact fnAt_of (by k_asm) (by k_mem) (by assumption)) ?_;  k_whole))) | (((with_reducible show FnAt _ _ ∧ _); refine ⟨by exact fnAt_of (by k_asm) (by k_mem) (by assumption), ?_⟩; try dsimp only [List.nil_append, List.cons_append])) | ((k_here; (with_reducible show wpAny _ _ (call (Value.builtin "str.count") [Value.str _ _, Value.str _ _]) _ _ _); k_dflt (refine' SC.count ?_); (try dsimp only))) | ((k_here; (with_reducible show wpAny _ _ (compareOp CmpOp.NotEq (Value.ref _) (Value.ref _)) _ _ _); k_dflt (refine' ne_intsK (by kmk_list) (by first | exact IntsAre.nil | assumption) (by kmk_list) (by first | exact IntsAre.nil | assumption) (by first | ktr_units | units_room) ?_;  k_whole); (try simp only [decide_true, Bool.not_true]))) | walk_at "mo"))))
      refine TurnP.intro (nx := (R, PySem.W.listOf vr'.toArray nr') :: (T48' ++ mst w0.params [] 0 (p + W.length) tp2 nL2 ka kb kc kd (ln + nls W) tn2 tw lp dm fS Lat rest0)) (by k_asm) (by k_asm) ?_ ?_ ⟨vr', nr', T48', tp2, nL2, tn2, ?_, ?_, .inr hw', fun _ => hw', hT2, by ((repeat' (first | exact all_nil | refine all_cons rfl ?_)))⟩
      · intro q hq
        rcases List.mem_cons.mp hq with rfl | hq
        · exact .tail _ (.head _)
        rcases List.mem_cons.mp hq with rfl | hq
        · exact .head _
        · exact .tail _ (.tail _ hq)
      · intro q hq
        rcases List.mem_cons.mp hq with rfl | hq
        · exact hIR
        rcases List.mem_append.mp hq with hq | hq
        · exact hTI q hq
        rcases mst_addr hq with e | e | e | hq
        · rw [e]; exact hIlp
        · rw [e]; exact hILat
        · rw [e]; exact hIdm
        · exact hIr q hq
      · rw [htk1, List.length_append, nls_app, ← hp, hln, Int.add_assoc]
      · rw [List.take_add_one, hc, List.foldl_append]
        exact hvr'
    · rintro m₁ nx h10 tk10 dr10 hJz
      refine gz1 nx ?_
      intro Gz hGz
      obtain ⟨vr, nr, T48, tp1, nL1, tn1, rfl, hvr, _, hW, hBT, hN⟩ := hJz
      refine hGz _ ?_
      clear hGz Gz
      rintro htk F10 N10
      dsimp only at htk
      obtain ⟨m9, F10⟩ := names_ex F10 [("coins", .ref D2), ("text", .str (textOf coins cells) tX), ("machine", .ref mach), ("row", .ref R)] hN
      have w48 := hW (by omega)
      have hrow : ((turned coins cells).take coins.length).foldl ins [] = coins := by
        rw [← turned_len coins cells, List.take_length]
        exact ins_turned _ hsort
      rw [hrow] at hvr
      obtain ⟨hdr, hnls⟩ := at_end coins cells
      obtain ⟨p, hp⟩ : ∃ p, p = ((WL coins cells).take coins.length).flatten.length := ⟨_, rfl⟩
      obtain ⟨ln, hln⟩ : ∃ ln, ln = 1 + nls ((WL coins cells).take coins.length).flatten := ⟨_, rfl⟩
      rw [← hp] at hdr
      rw [← hp, ← hln] at N10
      have mC1 : (D2, PySem.W.listOf ys2.toArray n2) ∈ mst w0.params [] 0 p tp1 nL1 ka kb kc kd ln tn1 tw lp dm fS Lat rest0 := mst_rest mC
      have hvrl := hvr.length
      (repeat' (first | ((( (fail_if_success with_reducible first | refine st0 ?_ | refine st1 ?_ | refine st2 ?_ | refine st3 ?_))); (fail_if_success with_reducible first | refine st4 ?_ | refine st5 ?_ | refine st7 ?_ | refine st6 ?_ | refine st8 ?_ | refine st9 ?_); (first | ((with_reducible show wpAny _ _ (call (Value.builtin "len") _) _ _ _); ((k_here; k_dflt (refine' my_len (by k_asm) (by k_mem) (by omega) ?_;  k_whole); intro _ _))) | ((k_here; (with_reducible show wpAny _ _ (getMethod (Value.ref _) (Str.ofString "read") _) _ _ _); k_dflt (refine' my_fnget (by k_asm) (by k_mem) (by assumption) (by k_mem) (by assumption) (by exact if_pos rfl) (by assumption) (by assumption) (by (intro _ e; cases e)) ?_;  k_whole); intro _; dsimp only)) | ((k_here; (with_reducible show wpAny _ _ (getMethod (Value.ref 172) (Str.ofString "search") _) _ _ _); k_dflt (refine' get_172 (by k_asm) (by k_asm) ?_;  k_whole))) | ((k_here; (with_reducible show wpAny _ _ (getMethod (Value.ref 167) (Str.ofString "search") _) _ _ _); k_dflt (refine' get_167 (by k_asm) (by k_asm) ?_;  k_whole))) | ((k_here; (with_reducible show wpAny _ _ (getMethod (Value.ref _) (Str.ofString "pop") _) _ _ _); k_dflt (refine' my_get_pop (knd := PySem.intKind _ _) (by k_asm) (by k_mem) (by assumption) (by omega) ?_;  k_whole))) | ((k_here; (with_reducible show wpAny _ _ (callWith _ (Value.ref _) _ (backTo _ (starEach (_ :: _) _)) []) _ _ _); k_dflt (refine' callWith_F (by exact fnAt_of (by k_asm) (by k_mem) (by assumption)) ?_;  k_whole))) | (((with_reducible show FnAt _ _ ∧ _); refine ⟨by exact fnAt_of (by k_asm) (by k_mem) (by assumption), ?_⟩; try dsimp only [List.nil_append, List.cons_append])) | ((k_here; (with_reducible show wpAny _ _ (call (Value.builtin "str.count") [Value.str _ _, Value.str _ _]) _ _ _); k_dflt (refine' SC.count ?_); (try dsimp only))) | ((k_here; (with_reducible show wpAny _ _ (compareOp CmpOp.NotEq (Value.ref _) (Value.ref _)) _ _ _); k_dflt (refine' ne_intsK (by kmk_list) (by first | exact IntsAre.nil | assumption) (by kmk_list) (by first | exact IntsAre.nil | assumption) (by first | ktr_units | units_room) ?_;  k_whole); (try simp only [decide_true, Bool.not_true]))) | walk_at "mo"))))
      obtain ⟨rest1, hrest1⟩ : ∃ r : Led, r = fixM ++ [(D2, PySem.W.listOf ys2.toArray n2), (D1, PySem.W.listOf ys1.toArray n1)] := ⟨_, rfl⟩
      have hsub1 : ∀ q ∈ rest1, q ∈ rest0 := by
        intro q hq
        rw [hrest1] at hq
        rw [hrest0]
        rcases List.mem_append.mp hq with hq | hq
        · exact List.mem_append_left _ hq
        · refine List.mem_append_right _ ?_
          simp only [List.mem_cons, List.not_mem_nil, or_false] at hq ⊢
          rcases hq with h | h <;> solve_by_elim (maxDepth := 14) only [h, Or.inl, Or.inr]
      have M1r := M.mono (rest' := rest1) (fun q hq => hrest1 ▸ List.mem_append_left _ hq) (fun q hq => hoff0 q (hsub1 q hq))
      have hr76 : ∀ q ∈ rest1, q.1 ≠ 76 ∧ q.1 ≠ 83 := by
        intro q hq
        rw [hrest1] at hq
        rcases List.mem_append.mp hq with hq | hq
        · rcases ofix q hq with e | e
          · rw [e]; decide
          · exact ⟨Nat.ne_of_gt (e (76, tabObj #[]) (by k_mem)), Nat.ne_of_gt (e (83, tabObj #[]) (by k_mem))⟩
        · simp only [List.mem_cons, List.not_mem_nil, or_false] at hq
          rcases hq with rfl | rfl
          · exact ⟨fun e => o2 (76, tabObj #[]) (by k_mem) e.symm, fun e => o2 (83, tabObj #[]) (by k_mem) e.symm⟩
          · exact ⟨fun e => o1 (76, tabObj #[]) (by k_mem) e.symm, fun e => o1 (83, tabObj #[]) (by k_mem) e.symm⟩
      have h76 := h48 (76, tabObj #[]) (by k_mem)
      have h83 := h48 (83, tabObj #[]) (by k_mem)
      have hf76 : ∀ q ∈ (R, PySem.W.listOf vr.toArray nr) :: (T48 ++ mst w0.params [] 0 p tp1 nL1 ka kb kc kd ln tn1 tw lp dm fS Lat rest1), q.1 ≠ 76 ∧ q.1 ≠ 83 := by
        intro q hq
        rcases List.mem_cons.mp hq with rfl | hq
        · exact ⟨Nat.ne_of_gt (hlR (76, tabObj #[]) (by rw [hms0]; exact mst_rest m76)), Nat.ne_of_gt (hlR (83, tabObj #[]) (by rw [hms0]; exact mst_rest m83))⟩
        rcases List.mem_append.mp hq with hq | hq
        · rcases hBT q hq with e | e
          · rw [e]; decide
          · exact ⟨Nat.ne_of_gt (e 76 (hBr _ m76)), Nat.ne_of_gt (e 83 (hBr _ m83))⟩
        rcases mst_addr hq with e | e | e | hq
        · rw [e]; exact ⟨Nat.ne_of_gt h76.1, Nat.ne_of_gt h83.1⟩
        · rw [e]; exact ⟨Nat.ne_of_gt h76.2.1, Nat.ne_of_gt h83.2.1⟩
        · rw [e]; exact ⟨Nat.ne_of_gt h76.2.2, Nat.ne_of_gt h83.2.2⟩
        · exact hr76 q hq
      have hRow : Row coins := ⟨good.row, good.one, by omega, by omega, fun i _ => Int.le_trans (Int.le_of_lt (good.small i)) (by decide)⟩
      refine' use_saysP (by k_asm) (by k_asm) (by k_asm) ?uN29 (by k_asm) (by first | exact rfl | assumption) ?uC29 ?uD29 ?uU29 (by dsimp only; omega) ?uR29
      case uN29 => exact news_sub (news' := [(76, tabObj #[])] ++ ([(83, tabObj #[])] ++ ((R, PySem.W.listOf vr.toArray nr) :: (T48 ++ mst w0.params [] 0 p tp1 nL1 ka kb kc kd ln tn1 tw lp dm fS Lat rest1)))) (by k_asm) (by
        intro q hq
        rcases List.mem_append.mp hq with hq | hq
        · rw [List.mem_singleton.mp hq]; exact .tail _ (List.mem_append_right _ (mst_rest m76))
        rcases List.mem_append.mp hq with hq | hq
        · rw [List.mem_singleton.mp hq]; exact .tail _ (List.mem_append_right _ (mst_rest m83))
        rcases List.mem_cons.mp hq with rfl | hq
        · exact .head _
        rcases List.mem_append.mp hq with hq | hq
        · exact .tail _ (List.mem_append_left _ hq)
        · refine .tail _ (List.mem_append_right _ ?_)
          unfold mst at hq ⊢
          simp only [List.mem_cons] at hq ⊢
          rcases hq with h | h | h | h
          · solve_by_elim (maxDepth := 14) only [h, Or.inl, Or.inr]
          · solve_by_elim (maxDepth := 14) only [h, Or.inl, Or.inr]
          · solve_by_elim (maxDepth := 14) only [h, Or.inl, Or.inr]
          · have h := hsub1 q h
            solve_by_elim (maxDepth := 14) only [h, Or.inl, Or.inr])
      case uC29 => exact (says_one R vr nr coins [(76, tabObj #[])] [(83, tabObj #[])] _ (.head _) hvr hRow (by omega) (.inl ⟨rfl, fun q hq => by
        rcases List.mem_append.mp hq with hq | hq
        · rw [List.mem_singleton.mp hq]; decide
        · exact (hf76 q hq).1⟩) (.inl ⟨rfl, fun q hq => by
        rcases List.mem_append.mp hq with hq | hq
        · rw [List.mem_singleton.mp hq]; decide
        · exact (hf76 q hq).2⟩)).toP
      case uD29 => ktr_room
      case uU29 => ktr_units
      rintro vZ h11 tk11 dr11 nZ hJz
      refine gz2 vZ nZ ?_
      intro Gz hGz
      obtain ⟨rfl, T1', T2', rfl, w1, w2⟩ := hJz
      refine hGz _ _ ?_
      clear hGz Gz
      rintro ht11 F11 N11
      rw [good.sum]
      dsimp only at ht11
      dsimp only
      (repeat' (first | ((( (fail_if_success with_reducible first | refine st0 ?_ | refine st1 ?_ | refine st2 ?_ | refine st3 ?_))); (fail_if_success with_reducible first | refine st4 ?_ | refine st5 ?_ | refine st7 ?_ | refine st6 ?_ | refine st8 ?_ | refine st9 ?_); (first | ((with_reducible show wpAny _ _ (call (Value.builtin "len") _) _ _ _); ((k_here; k_dflt (refine' my_len (by k_asm) (by k_mem) (by omega) ?_;  k_whole); intro _ _))) | ((k_here; (with_reducible show wpAny _ _ (getMethod (Value.ref _) (Str.ofString "read") _) _ _ _); k_dflt (refine' my_fnget (by k_asm) (by k_mem) (by assumption) (by k_mem) (by assumption) (by exact if_pos rfl) (by assumption) (by assumption) (by (intro _ e; cases e)) ?_;  k_whole); intro _; dsimp only)) | ((k_here; (with_reducible show wpAny _ _ (getMethod (Value.ref 172) (Str.ofString "search") _) _ _ _); k_dflt (refine' get_172 (by k_asm) (by k_asm) ?_;  k_whole))) | ((k_here; (with_reducible show wpAny _ _ (getMethod (Value.ref 167) (Str.ofString "search") _) _ _ _); k_dflt (refine' get_167 (by k_asm) (by k_asm) ?_;  k_whole))) | ((k_here; (with_reducible show wpAny _ _ (getMethod (Value.ref _) (Str.ofString "pop") _) _ _ _); k_dflt (refine' my_get_pop (knd := PySem.intKind _ _) (by k_asm) (by k_mem) (by assumption) (by omega) ?_;  k_whole))) | ((k_here; (with_reducible show wpAny _ _ (callWith _ (Value.ref _) _ (backTo _ (starEach (_ :: _) _)) []) _ _ _); k_dflt (refine' callWith_F (by exact fnAt_of (by k_asm) (by k_mem) (by assumption)) ?_;  k_whole))) | (((with_reducible show FnAt _ _ ∧ _); refine ⟨by exact fnAt_of (by k_asm) (by k_mem) (by assumption), ?_⟩; try dsimp only [List.nil_append, List.cons_append])) | ((k_here; (with_reducible show wpAny _ _ (call (Value.builtin "str.count") [Value.str _ _, Value.str _ _]) _ _ _); k_dflt (refine' SC.count ?_); (try dsimp only))) | ((k_here; (with_reducible show wpAny _ _ (compareOp CmpOp.NotEq (Value.ref _) (Value.ref _)) _ _ _); k_dflt (refine' ne_intsK (by kmk_list) (by first | exact IntsAre.nil | assumption) (by kmk_list) (by first | exact IntsAre.nil | assumption) (by first | ktr_units | units_room) ?_;  k_whole); (try simp only [decide_true, Bool.not_true]))) | walk_at "mo"))))
      have N11b := N11
      have hsT1 : ∀ r ∈ T1', r ∈ T1' ++ (T2' ++ ((R, PySem.W.listOf vr.toArray nr) :: (T48 ++ mst w0.params [] 0 p tp1 nL1 ka kb kc kd ln tn1 tw lp dm fS Lat rest1))) := fun r hr => List.mem_append_left _ hr
      have hsT2 : ∀ r ∈ T2', r ∈ T1' ++ (T2' ++ ((R, PySem.W.listOf vr.toArray nr) :: (T48 ++ mst w0.params [] 0 p tp1 nL1 ka kb kc kd ln tn1 tw lp dm fS Lat rest1))) := fun r hr => List.mem_append_right _ (List.mem_append_left _ hr)
      have hsM : ∀ r ∈ mst w0.params [] 0 p tp1 nL1 ka kb kc kd ln tn1 tw lp dm fS Lat rest1, r ∈ T1' ++ (T2' ++ ((R, PySem.W.listOf vr.toArray nr) :: (T48 ++ mst w0.params [] 0 p tp1 nL1 ka kb kc kd ln tn1 tw lp dm fS Lat rest1))) := fun r hr => List.mem_append_right _ (List.mem_append_right _ (.tail _ (List.mem_append_right _ hr)))
      have hTw : ∀ r, r ∈ T1' ∨ r ∈ T2' → r.1 ≠ lp ∧ r.1 ≠ Lat ∧ r.1 ≠ dm := by
        intro r hr
        have a1 := hsM (lp, PySem.W.listOf ([] : List Value).toArray 0) (.head _)
        have a2 := hsM (Lat, PySem.W.listOf #[.int (p : Nat) tp1] nL1) (.tail _ (.head _))
        have a3 := hsM (dm, machD w0.params ka kb kc kd ln tn1 fS tw lp) (.tail _ (.tail _ (.head _)))
        rcases hr with hr | hr
        · exact ⟨warm_ne w1 N11b hsT1 a1 (Nat.ne_of_lt h76.1) (fun _ e => nomatch e) r hr, warm_ne w1 N11b hsT1 a2 (Nat.ne_of_lt h76.2.1) (fun _ e => nomatch e) r hr, warm_ne w1 N11b hsT1 a3 (Nat.ne_of_lt h76.2.2) (fun _ e => nomatch e) r hr⟩
        · exact ⟨warm_ne w2 N11b hsT2 a1 (Nat.ne_of_lt h83.1) (fun _ e => nomatch e) r hr, warm_ne w2 N11b hsT2 a2 (Nat.ne_of_lt h83.2.1) (fun _ e => nomatch e) r hr, warm_ne w2 N11b hsT2 a3 (Nat.ne_of_lt h83.2.2) (fun _ e => nomatch e) r hr⟩
      obtain ⟨rest2, hrest2⟩ : ∃ r : Led, r = T1' ++ (T2' ++ ((R, PySem.W.listOf vr.toArray nr) :: (T48 ++ rest1))) := ⟨_, rfl⟩
      have mR2 : (R, PySem.W.listOf vr.toArray nr) ∈ rest2 := hrest2 ▸ List.mem_append_right _ (List.mem_append_right _ (.head _))
      have m1r2 : ∀ q ∈ rest1, q ∈ rest2 := fun q hq => hrest2 ▸ List.mem_append_right _ (List.mem_append_right _ (.tail _ (List.mem_append_right _ hq)))
      have m48r2 : ∀ q ∈ T48, q ∈ rest2 := fun q hq => hrest2 ▸ List.mem_append_right _ (List.mem_append_right _ (.tail _ (List.mem_append_left _ hq)))
      have mT1r2 : ∀ q ∈ T1', q ∈ rest2 := fun q hq => hrest2 ▸ List.mem_append_left _ hq
      have mT2r2 : ∀ q ∈ T2', q ∈ rest2 := fun q hq => hrest2 ▸ List.mem_append_right _ (List.mem_append_left _ hq)
      have M2 : Mach w0 (textOf coins cells) mach dm lp fS Lat rest2 := M1r.mono m1r2 (by
        intro q hq
        rw [hrest2] at hq
        rcases List.mem_append.mp hq with hq | hq
        · exact hTw q (.inl hq)
        rcases List.mem_append.mp hq with hq | hq
        · exact hTw q (.inr hq)
        rcases List.mem_cons.mp hq with rfl | hq
        · exact ⟨Ne.symm hRlp, Ne.symm hRLat, Ne.symm hRdm⟩
        rcases List.mem_append.mp hq with hq | hq
        · rcases hBT q hq with e | e
          · rw [e]; exact ⟨Ne.symm (hB48 lp hBlp), Ne.symm (hB48 Lat hBLat), Ne.symm (hB48 dm hBdm)⟩
          · exact ⟨Nat.ne_of_gt (e lp hBlp), Nat.ne_of_gt (e Lat hBLat), Nat.ne_of_gt (e dm hBdm)⟩
        · exact hoff0 q (hsub1 q hq))
      have hTabs : Tabs rest2 := ⟨T1', T2', w1, w2, mT1r2, mT2r2⟩
      refine' use_saysPA (by k_asm) (by k_asm) (by k_asm) ?uN30 (by k_asm) (by first | exact rfl | assumption) ?uC30 ?uD30 ?uU30 ?uP30 ?uR30
      case uN30 => exact news_sub (news' := mst w0.params [] 0 p tp1 nL1 ka kb kc kd ln tn1 tw lp dm fS Lat rest2) (by k_asm) (by
        intro q hq
        unfold mst at hq ⊢
        rw [hrest2] at hq
        simp only [List.mem_cons, List.mem_append] at hq ⊢
        rcases hq with h | h | h | h | h | h | h | h <;> solve_by_elim (maxDepth := 14) only [h, Or.inl, Or.inr])
      case uC30 => exact says_ill w0 (textOf coins cells) mach dm lp fS Lat rest2 M2 0 p tp1 nL1 ka kb kc kd ln tn1 tw R vr nr coins T48 mR2 hvr hRow hTabs (by omega) good.small w48 m48r2 good.dbt good.dbl
      case uD30 => ktr_room
      case uU30 => ktr_units
      case uP30 => dsimp only; omega
      rintro vZ h12 tk12 dr12 nZ hJz
      refine gz2 vZ nZ ?_
      intro Gz hGz
      obtain ⟨Di, ys, ny, np', rfl, hys, rfl⟩ := hJz
      refine hGz _ _ ?_
      clear hGz Gz
      rintro ht12 F12 N12
      dsimp only at ht12
      dsimp only
      have hysl := hys.length
      iterate 4 ((( (fail_if_success with_reducible first | refine st0 ?_ | refine st1 ?_ | refine st2 ?_ | refine st3 ?_))); (first | ((with_reducible show wpAny _ _ (call (Value.builtin "len") _) _ _ _); ((k_here; k_dflt (refine' my_len (by k_asm) (by k_mem) (by omega) ?_;  k_whole); intro _ _))) | ((k_here; (with_reducible show wpAny _ _ (getMethod (Value.ref _) (Str.ofString "read") _) _ _ _); k_dflt (refine' my_fnget (by k_asm) (by k_mem) (by assumption) (by k_mem) (by assumption) (by exact if_pos rfl) (by assumption) (by assumption) (by (intro _ e; cases e)) ?_;  k_whole); intro _; dsimp only)) | ((k_here; (with_reducible show wpAny _ _ (getMethod (Value.ref 172) (Str.ofString "search") _) _ _ _); k_dflt (refine' get_172 (by k_asm) (by k_asm) ?_;  k_whole))) | ((k_here; (with_reducible show wpAny _ _ (getMethod (Value.ref 167) (Str.ofString "search") _) _ _ _); k_dflt (refine' get_167 (by k_asm) (by k_asm) ?_;  k_whole))) | ((k_here; (with_reducible show wpAny _ _ (getMethod (Value.ref _) (Str.ofString "pop") _) _ _ _); k_dflt (refine' my_get_pop (knd := PySem.intKind _ _) (by k_asm) (by k_mem) (by assumption) (by omega) ?_;  k_whole))) | ((k_here; (with_reducible show wpAny _ _ (callWith _ (Value.ref _) _ (backTo _ (starEach (_ :: _) _)) []) _ _ _); k_dflt (refine' callWith_F (by exact fnAt_of (by k_asm) (by k_mem) (by assumption)) ?_;  k_whole))) | (((with_reducible show FnAt _ _ ∧ _); refine ⟨by exact fnAt_of (by k_asm) (by k_mem) (by assumption), ?_⟩; try dsimp only [List.nil_append, List.cons_append])) | ((k_here; (with_reducible show wpAny _ _ (call (Value.builtin "str.count") [Value.str _ _, Value.str _ _]) _ _ _); k_dflt (refine' SC.count ?_); (try dsimp only))) | ((k_here; (with_reducible show wpAny _ _ (compareOp CmpOp.NotEq (Value.ref _) (Value.ref _)) _ _ _); k_dflt (refine' ne_intsK (by kmk_list) (by first | exact IntsAre.nil | assumption) (by kmk_list) (by first | exact IntsAre.nil | assumption) (by first | ktr_units | units_room) ?_;  k_whole); (try simp only [decide_true, Bool.not_true]))) | walk_at "mo"))
      (rename Fr _ _ _ _ => F13)
      obtain ⟨m13, F13⟩ := names_ex F13 [("text", .str (textOf coins cells) tX), ("machine", .ref mach), ("row", .ref R), ("ill", .ref Di)] (by ((repeat' (first | exact all_nil | refine all_cons rfl ?_))))
      refine wpAny_toks ?_
      refine wpAny_mono (Q := fun v s' => (Xx3 fun t h' tk' => Aa4 (v = .int (least coins) t) (s' = { heap := h', gens := sA.gens, drawn := dr12, toks := tk', os := sA.os }) (Fr (ghostOf sA.heap [(87, 83), (80, 76), (305, 301), (52, 48)]) sA.heap.objs.size h' (kstB m13 [("text", .str (textOf coins cells) tX), ("machine", .ref mach), ("row", .ref R), ("ill", .ref Di)])) (News (ghostOf sA.heap [(87, 83), (80, 76), (305, 301), (52, 48)]) sA.heap.objs.size h' (mst w0.params [] np' p tp1 nL1 ka kb kc kd ln tn1 tw lp dm fS Lat rest2)))) ?_ ?_ (fun _ _ e => e)
      · iterate 8 ((( (fail_if_success with_reducible first | refine st0 ?_ | refine st1 ?_ | refine st2 ?_ | refine st3 ?_))); (first | ((with_reducible show wpAny _ _ (call (Value.builtin "len") _) _ _ _); ((k_here; k_dflt (refine' my_len (by k_asm) (by k_mem) (by omega) ?_;  k_whole); intro _ _))) | ((k_here; (with_reducible show wpAny _ _ (getMethod (Value.ref _) (Str.ofString "read") _) _ _ _); k_dflt (refine' my_fnget (by k_asm) (by k_mem) (by assumption) (by k_mem) (by assumption) (by exact if_pos rfl) (by assumption) (by assumption) (by (intro _ e; cases e)) ?_;  k_whole); intro _; dsimp only)) | ((k_here; (with_reducible show wpAny _ _ (getMethod (Value.ref 172) (Str.ofString "search") _) _ _ _); k_dflt (refine' get_172 (by k_asm) (by k_asm) ?_;  k_whole))) | ((k_here; (with_reducible show wpAny _ _ (getMethod (Value.ref 167) (Str.ofString "search") _) _ _ _); k_dflt (refine' get_167 (by k_asm) (by k_asm) ?_;  k_whole))) | ((k_here; (with_reducible show wpAny _ _ (getMethod (Value.ref _) (Str.ofString "pop") _) _ _ _); k_dflt (refine' my_get_pop (knd := PySem.intKind _ _) (by k_asm) (by k_mem) (by assumption) (by omega) ?_;  k_whole))) | ((k_here; (with_reducible show wpAny _ _ (callWith _ (Value.ref _) _ (backTo _ (starEach (_ :: _) _)) []) _ _ _); k_dflt (refine' callWith_F (by exact fnAt_of (by k_asm) (by k_mem) (by assumption)) ?_;  k_whole))) | (((with_reducible show FnAt _ _ ∧ _); refine ⟨by exact fnAt_of (by k_asm) (by k_mem) (by assumption), ?_⟩; try dsimp only [List.nil_append, List.cons_append])) | ((k_here; (with_reducible show wpAny _ _ (call (Value.builtin "str.count") [Value.str _ _, Value.str _ _]) _ _ _); k_dflt (refine' SC.count ?_); (try dsimp only))) | ((k_here; (with_reducible show wpAny _ _ (compareOp CmpOp.NotEq (Value.ref _) (Value.ref _)) _ _ _); k_dflt (refine' ne_intsK (by kmk_list) (by first | exact IntsAre.nil | assumption) (by kmk_list) (by first | exact IntsAre.nil | assumption) (by first | ktr_units | units_room) ?_;  k_whole); (try simp only [decide_true, Bool.not_true]))) | walk_at "mo"))
        by_cases hill : illOf coins = []
        · rw [if_neg (show ¬ ((!decide (illOf coins = [])) = true) by simp [hill])]
          (first | ((with_reducible show wpAny _ _ (call (Value.builtin "len") _) _ _ _); ((k_here; k_dflt (refine' my_len (by k_asm) (by k_mem) (by omega) ?_;  k_whole); intro _ _))) | ((k_here; (with_reducible show wpAny _ _ (getMethod (Value.ref _) (Str.ofString "read") _) _ _ _); k_dflt (refine' my_fnget (by k_asm) (by k_mem) (by assumption) (by k_mem) (by assumption) (by exact if_pos rfl) (by assumption) (by assumption) (by (intro _ e; cases e)) ?_;  k_whole); intro _; dsimp only)) | ((k_here; (with_reducible show wpAny _ _ (getMethod (Value.ref 172) (Str.ofString "search") _) _ _ _); k_dflt (refine' get_172 (by k_asm) (by k_asm) ?_;  k_whole))) | ((k_here; (with_reducible show wpAny _ _ (getMethod (Value.ref 167) (Str.ofString "search") _) _ _ _); k_dflt (refine' get_167 (by k_asm) (by k_asm) ?_;  k_whole))) | ((k_here; (with_reducible show wpAny _ _ (getMethod (Value.ref _) (Str.ofString "pop") _) _ _ _); k_dflt (refine' my_get_pop (knd := PySem.intKind _ _) (by k_asm) (by k_mem) (by assumption) (by omega) ?_;  k_whole))) | ((k_here; (with_reducible show wpAny _ _ (callWith _ (Value.ref _) _ (backTo _ (starEach (_ :: _) _)) []) _ _ _); k_dflt (refine' callWith_F (by exact fnAt_of (by k_asm) (by k_mem) (by assumption)) ?_;  k_whole))) | (((with_reducible show FnAt _ _ ∧ _); refine ⟨by exact fnAt_of (by k_asm) (by k_mem) (by assumption), ?_⟩; try dsimp only [List.nil_append, List.cons_append])) | ((k_here; (with_reducible show wpAny _ _ (call (Value.builtin "str.count") [Value.str _ _, Value.str _ _]) _ _ _); k_dflt (refine' SC.count ?_); (try dsimp only))) | ((k_here; (with_reducible show wpAny _ _ (compareOp CmpOp.NotEq (Value.ref _) (Value.ref _)) _ _ _); k_dflt (refine' ne_intsK (by kmk_list) (by first | exact IntsAre.nil | assumption) (by kmk_list) (by first | exact IntsAre.nil | assumption) (by first | ktr_units | units_room) ?_;  k_whole); (try simp only [decide_true, Bool.not_true]))) | walk_at "mo")
          have h0 : least coins = 0 := by rw [← good.ill]; simp [leastOf, hill]
          exact ⟨_, _, _, by rw [h0], rfl, by k_asm, news_sub (by k_asm) (fun q hq => .tail _ (.tail _ hq))⟩
        · rw [if_pos (show (!decide (illOf coins = [])) = true by simp [hill])]
          have hilp : 0 < (illOf coins).length := List.length_pos_iff.mpr hill
          iterate 6 ((( (fail_if_success with_reducible first | refine st0 ?_ | refine st1 ?_ | refine st2 ?_ | refine st3 ?_))); (first | ((with_reducible show wpAny _ _ (call (Value.builtin "len") _) _ _ _); ((k_here; k_dflt (refine' my_len (by k_asm) (by k_mem) (by omega) ?_;  k_whole); intro _ _))) | ((k_here; (with_reducible show wpAny _ _ (getMethod (Value.ref _) (Str.ofString "read") _) _ _ _); k_dflt (refine' my_fnget (by k_asm) (by k_mem) (by assumption) (by k_mem) (by assumption) (by exact if_pos rfl) (by assumption) (by assumption) (by (intro _ e; cases e)) ?_;  k_whole); intro _; dsimp only)) | ((k_here; (with_reducible show wpAny _ _ (getMethod (Value.ref 172) (Str.ofString "search") _) _ _ _); k_dflt (refine' get_172 (by k_asm) (by k_asm) ?_;  k_whole))) | ((k_here; (with_reducible show wpAny _ _ (getMethod (Value.ref 167) (Str.ofString "search") _) _ _ _); k_dflt (refine' get_167 (by k_asm) (by k_asm) ?_;  k_whole))) | ((k_here; (with_reducible show wpAny _ _ (getMethod (Value.ref _) (Str.ofString "pop") _) _ _ _); k_dflt (refine' my_get_pop (knd := PySem.intKind _ _) (by k_asm) (by k_mem) (by assumption) (by omega) ?_;  k_whole))) | ((k_here; (with_reducible show wpAny _ _ (callWith _ (Value.ref _) _ (backTo _ (starEach (_ :: _) _)) []) _ _ _); k_dflt (refine' callWith_F (by exact fnAt_of (by k_asm) (by k_mem) (by assumption)) ?_;  k_whole))) | (((with_reducible show FnAt _ _ ∧ _); refine ⟨by exact fnAt_of (by k_asm) (by k_mem) (by assumption), ?_⟩; try dsimp only [List.nil_append, List.cons_append])) | ((k_here; (with_reducible show wpAny _ _ (call (Value.builtin "str.count") [Value.str _ _, Value.str _ _]) _ _ _); k_dflt (refine' SC.count ?_); (try dsimp only))) | ((k_here; (with_reducible show wpAny _ _ (compareOp CmpOp.NotEq (Value.ref _) (Value.ref _)) _ _ _); k_dflt (refine' ne_intsK (by kmk_list) (by first | exact IntsAre.nil | assumption) (by kmk_list) (by first | exact IntsAre.nil | assumption) (by first | ktr_units | units_room) ?_;  k_whole); (try simp only [decide_true, Bool.not_true]))) | walk_at "mo"))
          refine my_min (l := Di) (vs := ys) (ns := illOf coins) (n := ny) (by k_asm) (by k_asm) (by k_mem) hys hilp rfl fun h15 V tV k15 F15 N15 hV1 hV2 => ?_
          have hV : V = least coins := by
            rw [← good.ill]
            unfold leastOf
            rw [if_pos hill, minOf_is hV1 hV2]
          exact ⟨tV, _, _, by rw [hV], rfl, F15, news_sub N15 (fun q hq => .tail _ (.tail _ hq))⟩
      rintro _ _ ⟨tV, h14, tk14, rfl, rfl, F14, N14⟩ ht14
      dsimp only at ht14
      (repeat' (first | ((( (fail_if_success with_reducible first | refine st0 ?_ | refine st1 ?_ | refine st2 ?_ | refine st3 ?_))); (fail_if_success with_reducible first | refine st4 ?_ | refine st5 ?_ | refine st7 ?_ | refine st6 ?_ | refine st8 ?_ | refine st9 ?_); (first | ((with_reducible show wpAny _ _ (call (Value.builtin "len") _) _ _ _); ((k_here; k_dflt (refine' my_len (by k_asm) (by k_mem) (by omega) ?_;  k_whole); intro _ _))) | ((k_here; (with_reducible show wpAny _ _ (getMethod (Value.ref _) (Str.ofString "read") _) _ _ _); k_dflt (refine' my_fnget (by k_asm) (by k_mem) (by assumption) (by k_mem) (by assumption) (by exact if_pos rfl) (by assumption) (by assumption) (by (intro _ e; cases e)) ?_;  k_whole); intro _; dsimp only)) | ((k_here; (with_reducible show wpAny _ _ (getMethod (Value.ref 172) (Str.ofString "search") _) _ _ _); k_dflt (refine' get_172 (by k_asm) (by k_asm) ?_;  k_whole))) | ((k_here; (with_reducible show wpAny _ _ (getMethod (Value.ref 167) (Str.ofString "search") _) _ _ _); k_dflt (refine' get_167 (by k_asm) (by k_asm) ?_;  k_whole))) | ((k_here; (with_reducible show wpAny _ _ (getMethod (Value.ref _) (Str.ofString "pop") _) _ _ _); k_dflt (refine' my_get_pop (knd := PySem.intKind _ _) (by k_asm) (by k_mem) (by assumption) (by omega) ?_;  k_whole))) | ((k_here; (with_reducible show wpAny _ _ (callWith _ (Value.ref _) _ (backTo _ (starEach (_ :: _) _)) []) _ _ _); k_dflt (refine' callWith_F (by exact fnAt_of (by k_asm) (by k_mem) (by assumption)) ?_;  k_whole))) | (((with_reducible show FnAt _ _ ∧ _); refine ⟨by exact fnAt_of (by k_asm) (by k_mem) (by assumption), ?_⟩; try dsimp only [List.nil_append, List.cons_append])) | ((k_here; (with_reducible show wpAny _ _ (call (Value.builtin "str.count") [Value.str _ _, Value.str _ _]) _ _ _); k_dflt (refine' SC.count ?_); (try dsimp only))) | ((k_here; (with_reducible show wpAny _ _ (compareOp CmpOp.NotEq (Value.ref _) (Value.ref _)) _ _ _); k_dflt (refine' ne_intsK (by kmk_list) (by first | exact IntsAre.nil | assumption) (by kmk_list) (by first | exact IntsAre.nil | assumption) (by first | ktr_units | units_room) ?_;  k_whole); (try simp only [decide_true, Bool.not_true]))) | walk_at "mo"))))
      refine' use_saysP (by k_asm) (by k_asm) (by k_asm) ?uN31 (by k_asm) (by first | exact rfl | assumption) ?uC31 ?uD31 ?uU31 (by dsimp only; omega) ?uR31
      case uN31 => k_asm
      case uC31 => exact (says_least R vr nr coins _ (mst_rest mR2) hvr hRow (by omega)).toP
      case uD31 => ktr_room
      case uU31 => ktr_units
      rintro vZ h15 tk15 dr15 nZ hJz
      refine gz2 vZ nZ ?_
      intro Gz hGz
      obtain ⟨rfl, tL, rfl⟩ := hJz
      refine hGz _ _ ?_
      clear hGz Gz
      rintro ht15 F15 N15
      dsimp only at ht15
      dsimp only
      iterate 2 ((( (fail_if_success with_reducible first | refine st0 ?_ | refine st1 ?_ | refine st2 ?_ | refine st3 ?_))); (first | ((with_reducible show wpAny _ _ (call (Value.builtin "len") _) _ _ _); ((k_here; k_dflt (refine' my_len (by k_asm) (by k_mem) (by omega) ?_;  k_whole); intro _ _))) | ((k_here; (with_reducible show wpAny _ _ (getMethod (Value.ref _) (Str.ofString "read") _) _ _ _); k_dflt (refine' my_fnget (by k_asm) (by k_mem) (by assumption) (by k_mem) (by assumption) (by exact if_pos rfl) (by assumption) (by assumption) (by (intro _ e; cases e)) ?_;  k_whole); intro _; dsimp only)) | ((k_here; (with_reducible show wpAny _ _ (getMethod (Value.ref 172) (Str.ofString "search") _) _ _ _); k_dflt (refine' get_172 (by k_asm) (by k_asm) ?_;  k_whole))) | ((k_here; (with_reducible show wpAny _ _ (getMethod (Value.ref 167) (Str.ofString "search") _) _ _ _); k_dflt (refine' get_167 (by k_asm) (by k_asm) ?_;  k_whole))) | ((k_here; (with_reducible show wpAny _ _ (getMethod (Value.ref _) (Str.ofString "pop") _) _ _ _); k_dflt (refine' my_get_pop (knd := PySem.intKind _ _) (by k_asm) (by k_mem) (by assumption) (by omega) ?_;  k_whole))) | ((k_here; (with_reducible show wpAny _ _ (callWith _ (Value.ref _) _ (backTo _ (starEach (_ :: _) _)) []) _ _ _); k_dflt (refine' callWith_F (by exact fnAt_of (by k_asm) (by k_mem) (by assumption)) ?_;  k_whole))) | (((with_reducible show FnAt _ _ ∧ _); refine ⟨by exact fnAt_of (by k_asm) (by k_mem) (by assumption), ?_⟩; try dsimp only [List.nil_append, List.cons_append])) | ((k_here; (with_reducible show wpAny _ _ (call (Value.builtin "str.count") [Value.str _ _, Value.str _ _]) _ _ _); k_dflt (refine' SC.count ?_); (try dsimp only))) | ((k_here; (with_reducible show wpAny _ _ (compareOp CmpOp.NotEq (Value.ref _) (Value.ref _)) _ _ _); k_dflt (refine' ne_intsK (by kmk_list) (by first | exact IntsAre.nil | assumption) (by kmk_list) (by first | exact IntsAre.nil | assumption) (by first | ktr_units | units_room) ?_;  k_whole); (try simp only [decide_true, Bool.not_true]))) | walk_at "mo"))
      rw [if_neg (show ¬ ((least coins != least coins) = true) by simp)]
      have hinst := M2.inst
      unfold mst at N15
      have e1 : tokT endL = endL := by decide
      have e2 : tokN endL = 3 := by decide
      have e3 : (⟨endL.toArray⟩ : Str) = "end" := by rfl
      have e4 : nls endL = 0 := by decide
      have e5 : (⟨(tokT []).toArray⟩ : Str) = "" := by rfl
      obtain ⟨hpx, hhd⟩ := drop_lt (W := endL) (r := []) (by rw [List.append_nil]; exact hdr) (by decide)
      have hxp : (textOf coins cells).length = p + 3 := by
        have q := congrArg List.length hdr
        rw [List.length_drop] at q
        have q2 : (textOf coins cells).cps.toList.length = (textOf coins cells).length := by simp [Str.length]
        rw [q2] at q
        simp only [endL, List.length_cons, List.length_nil] at q
        omega
      have hdr3 : (textOf coins cells).cps.toList.drop (p + 3) = [] := List.drop_of_length_le (by
        have q2 : (textOf coins cells).cps.toList.length = (textOf coins cells).length := by simp [Str.length]
        omega)
      (repeat' (first | ((( (fail_if_success with_reducible first | refine st0 ?_ | refine st1 ?_ | refine st2 ?_ | refine st3 ?_))); (fail_if_success with_reducible first | refine st4 ?_ | refine st5 ?_ | refine st7 ?_ | refine st6 ?_ | refine st8 ?_ | refine st9 ?_); (first | ((with_reducible show wpAny _ _ (call (Value.builtin "len") _) _ _ _); ((k_here; k_dflt (refine' my_len (by k_asm) (by k_mem) (by omega) ?_;  k_whole); intro _ _))) | ((k_here; (with_reducible show wpAny _ _ (getMethod (Value.ref _) (Str.ofString "read") _) _ _ _); k_dflt (refine' my_fnget (by k_asm) (by k_mem) (by assumption) (by k_mem) (by assumption) (by exact if_pos rfl) (by assumption) (by assumption) (by (intro _ e; cases e)) ?_;  k_whole); intro _; dsimp only)) | ((k_here; (with_reducible show wpAny _ _ (getMethod (Value.ref 172) (Str.ofString "search") _) _ _ _); k_dflt (refine' get_172 (by k_asm) (by k_asm) ?_;  k_whole))) | ((k_here; (with_reducible show wpAny _ _ (getMethod (Value.ref 167) (Str.ofString "search") _) _ _ _); k_dflt (refine' get_167 (by k_asm) (by k_asm) ?_;  k_whole))) | ((k_here; (with_reducible show wpAny _ _ (getMethod (Value.ref _) (Str.ofString "pop") _) _ _ _); k_dflt (refine' my_get_pop (knd := PySem.intKind _ _) (by k_asm) (by k_mem) (by assumption) (by omega) ?_;  k_whole))) | ((k_here; (with_reducible show wpAny _ _ (callWith _ (Value.ref _) _ (backTo _ (starEach (_ :: _) _)) []) _ _ _); k_dflt (refine' callWith_F (by exact fnAt_of (by k_asm) (by k_mem) (by assumption)) ?_;  k_whole))) | (((with_reducible show FnAt _ _ ∧ _); refine ⟨by exact fnAt_of (by k_asm) (by k_mem) (by assumption), ?_⟩; try dsimp only [List.nil_append, List.cons_append])) | ((k_here; (with_reducible show wpAny _ _ (call (Value.builtin "str.count") [Value.str _ _, Value.str _ _]) _ _ _); k_dflt (refine' SC.count ?_); (try dsimp only))) | ((k_here; (with_reducible show wpAny _ _ (compareOp CmpOp.NotEq (Value.ref _) (Value.ref _)) _ _ _); k_dflt (refine' ne_intsK (by kmk_list) (by first | exact IntsAre.nil | assumption) (by kmk_list) (by first | exact IntsAre.nil | assumption) (by first | ktr_units | units_room) ?_;  k_whole); (try simp only [decide_true, Bool.not_true]))) | walk_at "mo"))))
      dsimp only [List.append_nil]
      refine' use_saysPA (by k_asm) (by k_asm) (by k_asm) ?uN32 (by k_asm) (by first | exact rfl | assumption) ?uC32 ?uD32 ?uU32 ?uP32 ?uR32
      case uN32 => exact news_sub (news' := mst w0.params [] np' p tp1 nL1 ka kb kc kd ln tn1 tw lp dm fS Lat rest2) (by k_asm) (fun q hq => by unfold mst at hq; exact hq)
      case uC32 => exact (says_tok w0 (textOf coins cells) mach dm lp fS Lat _ M2 np' p tp1 nL1 ka kb kc kd ln tn1 tw (by omega) (text_low hb) (by omega) (fun _ => by rw [hhd]; decide)).pa
      case uD32 => ktr_room
      case uU32 => ktr_units
      case uP32 => dsimp only; omega
      rintro vZ h16 tk16 dr16 nZ hJz
      refine gz2 vZ nZ ?_
      intro Gz hGz
      obtain ⟨ts6, tp6, nL6, tn6, rfl, rfl⟩ := hJz
      refine hGz _ _ ?_
      clear hGz Gz
      rintro ht16 F16 N16
      dsimp only at ht16
      rw [hdr, e2, show endL.take 3 = endL from rfl, e4, Int.add_zero] at N16
      rw [hdr, e1, e3]
      unfold mst at N16
      dsimp only
      (repeat' (first | ((( (fail_if_success with_reducible first | refine st0 ?_ | refine st1 ?_ | refine st2 ?_ | refine st3 ?_))); (fail_if_success with_reducible first | refine st4 ?_ | refine st5 ?_ | refine st7 ?_ | refine st6 ?_ | refine st8 ?_ | refine st9 ?_); (first | ((with_reducible show wpAny _ _ (call (Value.builtin "len") _) _ _ _); ((k_here; k_dflt (refine' my_len (by k_asm) (by k_mem) (by omega) ?_;  k_whole); intro _ _))) | ((k_here; (with_reducible show wpAny _ _ (getMethod (Value.ref _) (Str.ofString "read") _) _ _ _); k_dflt (refine' my_fnget (by k_asm) (by k_mem) (by assumption) (by k_mem) (by assumption) (by exact if_pos rfl) (by assumption) (by assumption) (by (intro _ e; cases e)) ?_;  k_whole); intro _; dsimp only)) | ((k_here; (with_reducible show wpAny _ _ (getMethod (Value.ref 172) (Str.ofString "search") _) _ _ _); k_dflt (refine' get_172 (by k_asm) (by k_asm) ?_;  k_whole))) | ((k_here; (with_reducible show wpAny _ _ (getMethod (Value.ref 167) (Str.ofString "search") _) _ _ _); k_dflt (refine' get_167 (by k_asm) (by k_asm) ?_;  k_whole))) | ((k_here; (with_reducible show wpAny _ _ (getMethod (Value.ref _) (Str.ofString "pop") _) _ _ _); k_dflt (refine' my_get_pop (knd := PySem.intKind _ _) (by k_asm) (by k_mem) (by assumption) (by omega) ?_;  k_whole))) | ((k_here; (with_reducible show wpAny _ _ (callWith _ (Value.ref _) _ (backTo _ (starEach (_ :: _) _)) []) _ _ _); k_dflt (refine' callWith_F (by exact fnAt_of (by k_asm) (by k_mem) (by assumption)) ?_;  k_whole))) | (((with_reducible show FnAt _ _ ∧ _); refine ⟨by exact fnAt_of (by k_asm) (by k_mem) (by assumption), ?_⟩; try dsimp only [List.nil_append, List.cons_append])) | ((k_here; (with_reducible show wpAny _ _ (call (Value.builtin "str.count") [Value.str _ _, Value.str _ _]) _ _ _); k_dflt (refine' SC.count ?_); (try dsimp only))) | ((k_here; (with_reducible show wpAny _ _ (compareOp CmpOp.NotEq (Value.ref _) (Value.ref _)) _ _ _); k_dflt (refine' ne_intsK (by kmk_list) (by first | exact IntsAre.nil | assumption) (by kmk_list) (by first | exact IntsAre.nil | assumption) (by first | ktr_units | units_room) ?_;  k_whole); (try simp only [decide_true, Bool.not_true]))) | walk_at "mo"))))
      dsimp only [List.append_nil]
      refine' use_saysPA (by k_asm) (by k_asm) (by k_asm) ?uN33 (by k_asm) (by first | exact rfl | assumption) ?uC33 ?uD33 ?uU33 ?uP33 ?uR33
      case uN33 => exact news_sub (news' := mst w0.params [] np' (p + 3) tp6 nL6 ka kb kc kd ln tn6 tw lp dm fS Lat rest2) (by k_asm) (fun q hq => by unfold mst at hq; exact hq)
      case uC33 => exact (says_tok w0 (textOf coins cells) mach dm lp fS Lat _ M2 np' (p + 3) tp6 nL6 ka kb kc kd ln tn6 tw (by omega) (text_low hb) (by omega) (fun h => absurd h (by omega))).pa
      case uD33 => ktr_room
      case uU33 => ktr_units
      case uP33 => dsimp only; omega
      rintro vZ h17 tk17 dr17 nZ hJz
      refine gz2 vZ nZ ?_
      intro Gz hGz
      obtain ⟨ts7, tp7, nL7, tn7, rfl, rfl⟩ := hJz
      refine hGz _ _ ?_
      clear hGz Gz
      rintro ht17 F17 N17
      dsimp only at ht17
      rw [hdr3, show tokN [] = 0 from rfl, show List.take 0 ([] : List Nat) = [] from rfl, show nls [] = 0 from rfl, Int.add_zero, Nat.add_zero] at N17
      rw [hdr3, e5]
      unfold mst at N17
      have hcount : ln = 1 + Txt.count (textOf coins cells) "\n" := by rw [count_nls, hnls, hln]
      dsimp only
      have g83 : ∃ ps, (83, tabObj ps) ∈ rest2 := by
        refine gz0 fun Gz hGz => ?_
        obtain ⟨_, _, _, _, rfl, _⟩ := w2
        refine hGz ?_
        clear hGz Gz
        exact ⟨_, mT2r2 _ (.head _)⟩
      have g76 : ∃ ps, (76, tabObj ps) ∈ rest2 := by
        refine gz0 fun Gz hGz => ?_
        obtain ⟨_, _, _, _, rfl, _⟩ := w1
        refine hGz ?_
        clear hGz Gz
        exact ⟨_, mT1r2 _ (.head _)⟩
      have g48 : ∃ ps, (48, tabObj ps) ∈ rest2 := by
        refine gz0 fun Gz hGz => ?_
        obtain ⟨_, _, _, _, rfl, _⟩ := w48
        refine hGz ?_
        clear hGz Gz
        exact ⟨_, m48r2 _ (.head _)⟩
      have g301 : (301, tabObj pz) ∈ rest2 := m1r2 _ (hrest1 ▸ List.mem_append_left _ h301)
      obtain ⟨p83, g83⟩ := g83
      obtain ⟨p76, g76⟩ := g76
      obtain ⟨p48, g48⟩ := g48
      iterate 26 ((( (fail_if_success with_reducible first | refine st0 ?_ | refine st1 ?_ | refine st2 ?_ | refine st3 ?_))); (first | ((with_reducible show wpAny _ _ (call (Value.builtin "len") _) _ _ _); ((k_here; k_dflt (refine' my_len (by k_asm) (by k_mem) (by omega) ?_;  k_whole); intro _ _))) | ((k_here; (with_reducible show wpAny _ _ (getMethod (Value.ref _) (Str.ofString "read") _) _ _ _); k_dflt (refine' my_fnget (by k_asm) (by k_mem) (by assumption) (by k_mem) (by assumption) (by exact if_pos rfl) (by assumption) (by assumption) (by (intro _ e; cases e)) ?_;  k_whole); intro _; dsimp only)) | ((k_here; (with_reducible show wpAny _ _ (getMethod (Value.ref 172) (Str.ofString "search") _) _ _ _); k_dflt (refine' get_172 (by k_asm) (by k_asm) ?_;  k_whole))) | ((k_here; (with_reducible show wpAny _ _ (getMethod (Value.ref 167) (Str.ofString "search") _) _ _ _); k_dflt (refine' get_167 (by k_asm) (by k_asm) ?_;  k_whole))) | ((k_here; (with_reducible show wpAny _ _ (getMethod (Value.ref _) (Str.ofString "pop") _) _ _ _); k_dflt (refine' my_get_pop (knd := PySem.intKind _ _) (by k_asm) (by k_mem) (by assumption) (by omega) ?_;  k_whole))) | ((k_here; (with_reducible show wpAny _ _ (callWith _ (Value.ref _) _ (backTo _ (starEach (_ :: _) _)) []) _ _ _); k_dflt (refine' callWith_F (by exact fnAt_of (by k_asm) (by k_mem) (by assumption)) ?_;  k_whole))) | (((with_reducible show FnAt _ _ ∧ _); refine ⟨by exact fnAt_of (by k_asm) (by k_mem) (by assumption), ?_⟩; try dsimp only [List.nil_append, List.cons_append])) | ((k_here; (with_reducible show wpAny _ _ (call (Value.builtin "str.count") [Value.str _ _, Value.str _ _]) _ _ _); k_dflt (refine' SC.count ?_); (try dsimp only))) | ((k_here; (with_reducible show wpAny _ _ (compareOp CmpOp.NotEq (Value.ref _) (Value.ref _)) _ _ _); k_dflt (refine' ne_intsK (by kmk_list) (by first | exact IntsAre.nil | assumption) (by kmk_list) (by first | exact IntsAre.nil | assumption) (by first | ktr_units | units_room) ?_;  k_whole); (try simp only [decide_true, Bool.not_true]))) | walk_at "mo"))
      rw [show (ln == 1 + Txt.count (textOf coins cells) "\n") = true from beq_iff_eq.mpr hcount]
      have N18 : News _ _ h17 (mst w0.params [] np' (p + 3) tp7 nL7 ka kb kc kd ln tn7 tw lp dm fS Lat rest2) := N17
      refine ⟨?_, GrownAt.of N18 (mst_rest g83), GrownAt.of N18 (mst_rest g76), GrownAt.of N18 (mst_rest g301), GrownAt.of N18 (mst_rest g48), True.intro⟩
      refine goodW_bool (by k_asm) (by assumption) (fun _ => rfl) ?_
      first | exact rfl | (with_unfolding_all exact rfl)
end Mine
theorem PySem.Challenge.cw_sn0098_01_holds : PySem.Challenge.rw_sn0098_01.Holds :=
  Mine.law_holds
