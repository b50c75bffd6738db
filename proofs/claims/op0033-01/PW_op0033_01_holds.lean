import PyProof.Rows.All
import Wide.All
import OpenK.AllK
import Wide.FinOn
import PySem.Challenge.RW_op0033_01
/-! text Hd -/
section
open PySem PySem.W PyProof.Rows
set_option Elab.async false
set_option linter.unusedVariables false
namespace Mine
set_option maxRecDepth 100000
set_option maxHeartbeats 8000000
/-- a def's parameters, body and scope (of a class: of its first statement) -/
def fnOf : Stmt → Option (Arguments × List Stmt × Scope)
  | .FunctionDef _ a b _ _ _ s _ _ _ => some (a, b, s)
  | .ClassDef _ _ _ (.FunctionDef _ a b _ _ _ s _ _ _ :: _) _ _ _ _ _ _ _ => some (a, b, s)
  | _ => none
/-- what the top laid, as the walk needs it; the defs' parameters, bodies and scopes are taken from the row's program -/
noncomputable def hd.heap_39 : Params → Frag := by
  refine (?F : ∀ (a1 a4 a25 a27 a28 a30 a31 a32 a33 a34 a35 a36 a37 a38 a39 a40 ai : Arguments) (b1 b4 b25 b27 b28 b30 b31 b32 b33 b34 b35 b36 b37 b38 b39 b40 bi : List Stmt) (s1 s4 s25 s27 s28 s30 s31 s32 s33 s34 s35 s36 s37 s38 s39 s40 si : Scope),
    PySem.Challenge.pw_op0033_01.main.body[1]?.bind fnOf = some (a1, b1, s1) →
    PySem.Challenge.pw_op0033_01.main.body[4]?.bind fnOf = some (a4, b4, s4) →
    PySem.Challenge.pw_op0033_01.main.body[25]?.bind fnOf = some (a25, b25, s25) →
    PySem.Challenge.pw_op0033_01.main.body[27]?.bind fnOf = some (a27, b27, s27) →
    PySem.Challenge.pw_op0033_01.main.body[28]?.bind fnOf = some (a28, b28, s28) →
    PySem.Challenge.pw_op0033_01.main.body[30]?.bind fnOf = some (a30, b30, s30) →
    PySem.Challenge.pw_op0033_01.main.body[31]?.bind fnOf = some (a31, b31, s31) →
    PySem.Challenge.pw_op0033_01.main.body[32]?.bind fnOf = some (a32, b32, s32) →
    PySem.Challenge.pw_op0033_01.main.body[33]?.bind fnOf = some (a33, b33, s33) →
    PySem.Challenge.pw_op0033_01.main.body[34]?.bind fnOf = some (a34, b34, s34) →
    PySem.Challenge.pw_op0033_01.main.body[35]?.bind fnOf = some (a35, b35, s35) →
    PySem.Challenge.pw_op0033_01.main.body[36]?.bind fnOf = some (a36, b36, s36) →
    PySem.Challenge.pw_op0033_01.main.body[37]?.bind fnOf = some (a37, b37, s37) →
    PySem.Challenge.pw_op0033_01.main.body[38]?.bind fnOf = some (a38, b38, s38) →
    PySem.Challenge.pw_op0033_01.main.body[39]?.bind fnOf = some (a39, b39, s39) →
    PySem.Challenge.pw_op0033_01.main.body[40]?.bind fnOf = some (a40, b40, s40) →
    PySem.Challenge.pw_op0033_01.main.body[2]?.bind fnOf = some (ai, bi, si) →
    Params → Frag) _ _ _ _ _ _ _ _ _ _ _ _ _ _ _ _ _ _ _ _ _ _ _ _ _ _ _ _ _ _ _ _ _ _ _ _ _ _ _ _ _ _ _ _ _ _ _ _ _ _ _ rfl rfl rfl rfl rfl rfl rfl rfl rfl rfl rfl rfl rfl rfl rfl rfl rfl 
  exact fun a1 a4 a25 a27 a28 a30 a31 a32 a33 a34 a35 a36 a37 a38 a39 a40 ai b1 b4 b25 b27 b28 b30 b31 b32 b33 b34 b35 b36 b37 b38 b39 b40 bi s1 s4 s25 s27 s28 s30 s31 s32 s33 s34 s35 s36 s37 s38 s39 s40 si _ _ _ _ _ _ _ _ _ _ _ _ _ _ _ _ _ P =>
    (nat_lit 2, { cls := Value.none, data := Data.dict #[] }) ::
    (nat_lit 3, { cls := Value.type "dict", data := Data.dict (List.toArray ({ hash := PyData.keyHash P (Str.ofString "__name__"), key := Value.str (Str.ofString "__name__") 165, val := Value.str (Str.ofString "law_op0033_01") 331 } :: { hash := PyData.keyHash P (Str.ofString "__doc__"), key := Value.str (Str.ofString "__doc__") 166, val := Value.none } :: { hash := PyData.keyHash P (Str.ofString "__package__"), key := Value.str (Str.ofString "__package__") 167, val := Value.none } :: { hash := PyData.keyHash P (Str.ofString "__loader__"), key := Value.str (Str.ofString "__loader__") 168, val := Value.builtin "__main__.__loader__#opaque" } :: { hash := PyData.keyHash P (Str.ofString "__spec__"), key := Value.str (Str.ofString "__spec__") 169, val := Value.none } :: { hash := PyData.keyHash P (Str.ofString "__annotations__"), key := Value.str (Str.ofString "__annotations__") 170, val := Value.ref 6 } :: { hash := PyData.keyHash P (Str.ofString "__builtins__"), key := Value.str (Str.ofString "__builtins__") 171, val := Value.ref 4 } :: { hash := PyData.keyHash P (Str.ofString "__file__"), key := Value.str (Str.ofString "__file__") 173, val := Value.str (Str.ofString "/claim/cut.py") 172 } :: { hash := PyData.keyHash P (Str.ofString "__cached__"), key := Value.str (Str.ofString "__cached__") 174, val := Value.none } :: { hash := PyData.keyHash P (Str.ofString "read_uint1"), key := Value.str (Str.ofString "read_uint1") 196, val := Value.ref 21 } :: { hash := PyData.keyHash P (Str.ofString "_Example"), key := Value.str (Str.ofString "_Example") 225, val := Value.ref 38 } :: { hash := PyData.keyHash P (Str.ofString "S_IFMT"), key := Value.str (Str.ofString "S_IFMT") 234, val := Value.ref 49 } :: { hash := PyData.keyHash P (Str.ofString "S_IFDIR"), key := Value.str (Str.ofString "S_IFDIR") 236, val := Value.int 16384 235 } :: { hash := PyData.keyHash P (Str.ofString "S_IFCHR"), key := Value.str (Str.ofString "S_IFCHR") 238, val := Value.int 8192 237 } :: { hash := PyData.keyHash P (Str.ofString "S_IFBLK"), key := Value.str (Str.ofString "S_IFBLK") 240, val := Value.int 24576 239 } :: { hash := PyData.keyHash P (Str.ofString "S_IFREG"), key := Value.str (Str.ofString "S_IFREG") 242, val := Value.int 32768 241 } :: { hash := PyData.keyHash P (Str.ofString "S_IFIFO"), key := Value.str (Str.ofString "S_IFIFO") 244, val := Value.int 4096 243 } :: { hash := PyData.keyHash P (Str.ofString "S_IFLNK"), key := Value.str (Str.ofString "S_IFLNK") 246, val := Value.int 40960 245 } :: { hash := PyData.keyHash P (Str.ofString "S_IFSOCK"), key := Value.str (Str.ofString "S_IFSOCK") 248, val := Value.int 49152 247 } :: { hash := PyData.keyHash P (Str.ofString "S_ISUID"), key := Value.str (Str.ofString "S_ISUID") 250, val := Value.int 2048 249 } :: { hash := PyData.keyHash P (Str.ofString "S_ISGID"), key := Value.str (Str.ofString "S_ISGID") 252, val := Value.int 1024 251 } :: { hash := PyData.keyHash P (Str.ofString "S_ISVTX"), key := Value.str (Str.ofString "S_ISVTX") 254, val := Value.int 512 253 } :: { hash := PyData.keyHash P (Str.ofString "S_IRUSR"), key := Value.str (Str.ofString "S_IRUSR") 256, val := Value.int 256 255 } :: { hash := PyData.keyHash P (Str.ofString "S_IWUSR"), key := Value.str (Str.ofString "S_IWUSR") 258, val := Value.int 128 257 } :: { hash := PyData.keyHash P (Str.ofString "S_IXUSR"), key := Value.str (Str.ofString "S_IXUSR") 260, val := Value.int 64 259 } :: { hash := PyData.keyHash P (Str.ofString "S_IRGRP"), key := Value.str (Str.ofString "S_IRGRP") 262, val := Value.int 32 261 } :: { hash := PyData.keyHash P (Str.ofString "S_IWGRP"), key := Value.str (Str.ofString "S_IWGRP") 264, val := Value.int 16 263 } :: { hash := PyData.keyHash P (Str.ofString "S_IXGRP"), key := Value.str (Str.ofString "S_IXGRP") 266, val := Value.int 8 265 } :: { hash := PyData.keyHash P (Str.ofString "S_IROTH"), key := Value.str (Str.ofString "S_IROTH") 268, val := Value.int 4 267 } :: { hash := PyData.keyHash P (Str.ofString "S_IWOTH"), key := Value.str (Str.ofString "S_IWOTH") 270, val := Value.int 2 269 } :: { hash := PyData.keyHash P (Str.ofString "S_IXOTH"), key := Value.str (Str.ofString "S_IXOTH") 272, val := Value.int 1 271 } :: { hash := PyData.keyHash P (Str.ofString "_filemode_table"), key := Value.str (Str.ofString "_filemode_table") 298, val := Value.ref 82 } :: { hash := PyData.keyHash P (Str.ofString "filemode"), key := Value.str (Str.ofString "filemode") 310, val := Value.ref 89 } :: { hash := PyData.keyHash P (Str.ofString "unorderable_list_difference"), key := Value.str (Str.ofString "unorderable_list_difference") 322, val := Value.ref 96 } :: { hash := PyData.keyHash P (Str.ofString "three_way_cmp"), key := Value.str (Str.ofString "three_way_cmp") 330, val := Value.ref 103 } :: { hash := PyData.keyHash P (Str.ofString "_law_stream"), key := Value.str (Str.ofString "_law_stream") 344, val := Value.ref 110 } :: { hash := PyData.keyHash P (Str.ofString "_law_row"), key := Value.str (Str.ofString "_law_row") 356, val := Value.ref 117 } :: { hash := PyData.keyHash P (Str.ofString "_law_sons"), key := Value.str (Str.ofString "_law_sons") 366, val := Value.ref 124 } :: { hash := PyData.keyHash P (Str.ofString "_law_sons_due"), key := Value.str (Str.ofString "_law_sons_due") 372, val := Value.ref 129 } :: { hash := PyData.keyHash P (Str.ofString "_law_tree"), key := Value.str (Str.ofString "_law_tree") 378, val := Value.ref 134 } :: { hash := PyData.keyHash P (Str.ofString "_law_told"), key := Value.str (Str.ofString "_law_told") 390, val := Value.ref 141 } :: { hash := PyData.keyHash P (Str.ofString "_law_due"), key := Value.str (Str.ofString "_law_due") 403, val := Value.ref 148 } :: { hash := PyData.keyHash P (Str.ofString "_law_text"), key := Value.str (Str.ofString "_law_text") 412, val := Value.ref 155 } :: { hash := PyData.keyHash P (Str.ofString "_law_order_is_told"), key := Value.str (Str.ofString "_law_order_is_told") 423, val := Value.ref 162 } :: { hash := PyData.keyHash P (Str.ofString "_law_bags_are_told"), key := Value.str (Str.ofString "_law_bags_are_told") 429, val := Value.ref 167 } :: { hash := PyData.keyHash P (Str.ofString "law"), key := Value.str (Str.ofString "law") 435, val := Value.ref 172 } :: [])) 46 }) ::
    (nat_lit 20, { cls := Value.type "code", data := Data.fields #[Value.str (Str.ofString "read_uint1") 189, Value.str (Str.ofString "read_uint1") 190, Value.str (Str.ofString "/claim/cut.py") 191, Value.int 2 0, Value.int 1 0, Value.int 0 0, Value.int 0 0, Value.int 3 0, Value.ref 15, Value.bool true, Value.int 181 0, Value.ref 16, Value.none, Value.ref 17, Value.ref 18, Value.ref 19, Value.int 194 0, Value.int 2 0, Value.str (Str.ofString "/claim/cut.py") 195] }) ::
    (nat_lit 21, { cls := Value.type "function", data := Data.func { name := Str.ofString "read_uint1", qualname := Str.ofString "read_uint1", params := a1, body := .stmts b1, scope := s1, globals := 3, closure := [], defaults := Value.none, kwdefaults := Value.none, pyModule := Value.str (Str.ofString "cpy313.pickletools") 187, code := Value.ref 20 } }) ::
    (nat_lit 34, { cls := Value.type "code", data := Data.fields #[Value.str (Str.ofString "__init__") 209, Value.str (Str.ofString "_Example.__init__") 210, Value.str (Str.ofString "/claim/cut.py") 211, Value.int 9 0, Value.int 2 0, Value.int 0 0, Value.int 0 0, Value.int 3 0, Value.ref 29, Value.bool true, Value.int 181 0, Value.ref 30, Value.none, Value.ref 31, Value.ref 32, Value.ref 33, Value.int 214 0, Value.int 9 0, Value.str (Str.ofString "/claim/cut.py") 215] }) ::
    (nat_lit 35, { cls := Value.type "function", data := Data.func { name := Str.ofString "__init__", qualname := Str.ofString "_Example.__init__", params := ai, body := .stmts bi, scope := si, globals := 3, closure := [], defaults := Value.none, kwdefaults := Value.none, pyModule := Value.str (Str.ofString "cpy313.pickletools") 187, code := Value.ref 34 } }) ::
    (nat_lit 37, { cls := Value.type "dict", data := Data.dict #[{ hash := PyData.keyHash P (Str.ofString "__module__"), key := Value.str (Str.ofString "__module__") 204, val := Value.str (Str.ofString "cpy313.pickletools") 187 }, { hash := PyData.keyHash P (Str.ofString "__firstlineno__"), key := Value.str (Str.ofString "__firstlineno__") 208, val := Value.int 7 207 }, { hash := PyData.keyHash P (Str.ofString "__init__"), key := Value.str (Str.ofString "__init__") 216, val := Value.ref 35 }, { hash := PyData.keyHash P (Str.ofString "__static_attributes__"), key := Value.str (Str.ofString "__static_attributes__") 218, val := Value.ref 36 }, { hash := PyData.keyHash P (Str.ofString "__dict__"), key := Value.str (Str.ofString "__dict__") 220, val := Value.ref 39 }, { hash := PyData.keyHash P (Str.ofString "__weakref__"), key := Value.str (Str.ofString "__weakref__") 222, val := Value.ref 40 }, { hash := PyData.keyHash P (Str.ofString "__doc__"), key := Value.str (Str.ofString "__doc__") 223, val := Value.none }] 4 }) ::
    (nat_lit 38, { cls := Value.type "type", data := Data.cls { name := Str.ofString "_Example", bases := [Value.type "object"], mro := [Value.ref 38, Value.type "object"], ns := 37, qualname := Str.ofString "_Example" }, slots := #[none, none, some (Value.str (Str.ofString "_Example") 197), some (Value.str (Str.ofString "_Example") 205), some (Value.builtin "object.__new__"), some (Value.bool true)] }) ::
    (nat_lit 48, { cls := Value.type "code", data := Data.fields #[Value.str (Str.ofString "S_IFMT") 228, Value.str (Str.ofString "S_IFMT") 229, Value.str (Str.ofString "/claim/cut.py") 230, Value.int 12 0, Value.int 1 0, Value.int 0 0, Value.int 0 0, Value.int 3 0, Value.ref 43, Value.bool true, Value.int 181 0, Value.ref 44, Value.none, Value.ref 45, Value.ref 46, Value.ref 47, Value.int 232 0, Value.int 12 0, Value.str (Str.ofString "/claim/cut.py") 233] }) ::
    (nat_lit 49, { cls := Value.type "function", data := Data.func { name := Str.ofString "S_IFMT", qualname := Str.ofString "S_IFMT", params := a4, body := .stmts b4, scope := s4, globals := 3, closure := [], defaults := Value.none, kwdefaults := Value.none, pyModule := Value.str (Str.ofString "cpy313.stat") 226, code := Value.ref 48 } }) ::
    (nat_lit 50, { cls := Value.type "tuple", data := Data.seq #[Value.int 40960 245, Value.str (Str.ofString "l") 273] }) ::
    (nat_lit 51, { cls := Value.type "tuple", data := Data.seq #[Value.int 49152 247, Value.str (Str.ofString "s") 274] }) ::
    (nat_lit 52, { cls := Value.type "tuple", data := Data.seq #[Value.int 32768 241, Value.str (Str.ofString "-") 275] }) ::
    (nat_lit 53, { cls := Value.type "tuple", data := Data.seq #[Value.int 24576 239, Value.str (Str.ofString "b") 276] }) ::
    (nat_lit 54, { cls := Value.type "tuple", data := Data.seq #[Value.int 16384 235, Value.str (Str.ofString "d") 277] }) ::
    (nat_lit 55, { cls := Value.type "tuple", data := Data.seq #[Value.int 8192 237, Value.str (Str.ofString "c") 278] }) ::
    (nat_lit 56, { cls := Value.type "tuple", data := Data.seq #[Value.int 4096 243, Value.str (Str.ofString "p") 279] }) ::
    (nat_lit 57, { cls := Value.type "tuple", data := Data.seq #[Value.ref 50, Value.ref 51, Value.ref 52, Value.ref 53, Value.ref 54, Value.ref 55, Value.ref 56] }) ::
    (nat_lit 58, { cls := Value.type "tuple", data := Data.seq #[Value.int 256 255, Value.str (Str.ofString "r") 280] }) ::
    (nat_lit 59, { cls := Value.type "tuple", data := Data.seq #[Value.ref 58] }) ::
    (nat_lit 60, { cls := Value.type "tuple", data := Data.seq #[Value.int 128 257, Value.str (Str.ofString "w") 281] }) ::
    (nat_lit 61, { cls := Value.type "tuple", data := Data.seq #[Value.ref 60] }) ::
    (nat_lit 62, { cls := Value.type "tuple", data := Data.seq #[Value.int 2112 282, Value.str (Str.ofString "s") 283] }) ::
    (nat_lit 63, { cls := Value.type "tuple", data := Data.seq #[Value.int 2048 249, Value.str (Str.ofString "S") 284] }) ::
    (nat_lit 64, { cls := Value.type "tuple", data := Data.seq #[Value.int 64 259, Value.str (Str.ofString "x") 285] }) ::
    (nat_lit 65, { cls := Value.type "tuple", data := Data.seq #[Value.ref 62, Value.ref 63, Value.ref 64] }) ::
    (nat_lit 66, { cls := Value.type "tuple", data := Data.seq #[Value.int 32 261, Value.str (Str.ofString "r") 286] }) ::
    (nat_lit 67, { cls := Value.type "tuple", data := Data.seq #[Value.ref 66] }) ::
    (nat_lit 68, { cls := Value.type "tuple", data := Data.seq #[Value.int 16 263, Value.str (Str.ofString "w") 287] }) ::
    (nat_lit 69, { cls := Value.type "tuple", data := Data.seq #[Value.ref 68] }) ::
    (nat_lit 70, { cls := Value.type "tuple", data := Data.seq #[Value.int 1032 288, Value.str (Str.ofString "s") 289] }) ::
    (nat_lit 71, { cls := Value.type "tuple", data := Data.seq #[Value.int 1024 251, Value.str (Str.ofString "S") 290] }) ::
    (nat_lit 72, { cls := Value.type "tuple", data := Data.seq #[Value.int 8 265, Value.str (Str.ofString "x") 291] }) ::
    (nat_lit 73, { cls := Value.type "tuple", data := Data.seq #[Value.ref 70, Value.ref 71, Value.ref 72] }) ::
    (nat_lit 74, { cls := Value.type "tuple", data := Data.seq #[Value.int 4 267, Value.str (Str.ofString "r") 292] }) ::
    (nat_lit 75, { cls := Value.type "tuple", data := Data.seq #[Value.ref 74] }) ::
    (nat_lit 76, { cls := Value.type "tuple", data := Data.seq #[Value.int 2 269, Value.str (Str.ofString "w") 293] }) ::
    (nat_lit 77, { cls := Value.type "tuple", data := Data.seq #[Value.ref 76] }) ::
    (nat_lit 78, { cls := Value.type "tuple", data := Data.seq #[Value.int 513 294, Value.str (Str.ofString "t") 295] }) ::
    (nat_lit 79, { cls := Value.type "tuple", data := Data.seq #[Value.int 512 253, Value.str (Str.ofString "T") 296] }) ::
    (nat_lit 80, { cls := Value.type "tuple", data := Data.seq #[Value.int 1 271, Value.str (Str.ofString "x") 297] }) ::
    (nat_lit 81, { cls := Value.type "tuple", data := Data.seq #[Value.ref 78, Value.ref 79, Value.ref 80] }) ::
    (nat_lit 82, { cls := Value.type "tuple", data := Data.seq #[Value.ref 57, Value.ref 59, Value.ref 61, Value.ref 65, Value.ref 67, Value.ref 69, Value.ref 73, Value.ref 75, Value.ref 77, Value.ref 81] }) ::
    (nat_lit 88, { cls := Value.type "code", data := Data.fields #[Value.str (Str.ofString "filemode") 299, Value.str (Str.ofString "filemode") 300, Value.str (Str.ofString "/claim/cut.py") 301, Value.int 34 0, Value.int 1 0, Value.int 0 0, Value.int 0 0, Value.int 3 0, Value.ref 83, Value.bool true, Value.int 181 0, Value.ref 84, Value.none, Value.ref 85, Value.ref 86, Value.ref 87, Value.int 308 0, Value.int 34 0, Value.str (Str.ofString "/claim/cut.py") 309] }) ::
    (nat_lit 89, { cls := Value.type "function", data := Data.func { name := Str.ofString "filemode", qualname := Str.ofString "filemode", params := a25, body := .stmts b25, scope := s25, globals := 3, closure := [], defaults := Value.none, kwdefaults := Value.none, pyModule := Value.str (Str.ofString "cpy313.stat") 226, code := Value.ref 88 } }) ::
    (nat_lit 95, { cls := Value.type "code", data := Data.fields #[Value.str (Str.ofString "unorderable_list_difference") 313, Value.str (Str.ofString "unorderable_list_difference") 314, Value.str (Str.ofString "/claim/cut.py") 315, Value.int 52 0, Value.int 2 0, Value.int 0 0, Value.int 0 0, Value.int 3 0, Value.ref 90, Value.bool true, Value.int 181 0, Value.ref 91, Value.none, Value.ref 92, Value.ref 93, Value.ref 94, Value.int 320 0, Value.int 52 0, Value.str (Str.ofString "/claim/cut.py") 321] }) ::
    (nat_lit 96, { cls := Value.type "function", data := Data.func { name := Str.ofString "unorderable_list_difference", qualname := Str.ofString "unorderable_list_difference", params := a27, body := .stmts b27, scope := s27, globals := 3, closure := [], defaults := Value.none, kwdefaults := Value.none, pyModule := Value.str (Str.ofString "cpy313.unittest.util") 311, code := Value.ref 95 } }) ::
    (nat_lit 102, { cls := Value.type "code", data := Data.fields #[Value.str (Str.ofString "three_way_cmp") 323, Value.str (Str.ofString "three_way_cmp") 324, Value.str (Str.ofString "/claim/cut.py") 325, Value.int 61 0, Value.int 2 0, Value.int 0 0, Value.int 0 0, Value.int 3 0, Value.ref 97, Value.bool true, Value.int 181 0, Value.ref 98, Value.none, Value.ref 99, Value.ref 100, Value.ref 101, Value.int 328 0, Value.int 61 0, Value.str (Str.ofString "/claim/cut.py") 329] }) ::
    (nat_lit 103, { cls := Value.type "function", data := Data.func { name := Str.ofString "three_way_cmp", qualname := Str.ofString "three_way_cmp", params := a28, body := .stmts b28, scope := s28, globals := 3, closure := [], defaults := Value.none, kwdefaults := Value.none, pyModule := Value.str (Str.ofString "cpy313.unittest.util") 311, code := Value.ref 102 } }) ::
    (nat_lit 109, { cls := Value.type "code", data := Data.fields #[Value.str (Str.ofString "_law_stream") 333, Value.str (Str.ofString "_law_stream") 334, Value.str (Str.ofString "/claim/cut.py") 335, Value.int 64 0, Value.int 2 0, Value.int 0 0, Value.int 0 0, Value.int 3 0, Value.ref 104, Value.bool true, Value.int 181 0, Value.ref 105, Value.none, Value.ref 106, Value.ref 107, Value.ref 108, Value.int 342 0, Value.int 64 0, Value.str (Str.ofString "/claim/cut.py") 343] }) ::
    (nat_lit 110, { cls := Value.type "function", data := Data.func { name := Str.ofString "_law_stream", qualname := Str.ofString "_law_stream", params := a30, body := .stmts b30, scope := s30, globals := 3, closure := [], defaults := Value.none, kwdefaults := Value.none, pyModule := Value.str (Str.ofString "law_op0033_01") 331, code := Value.ref 109 } }) ::
    (nat_lit 116, { cls := Value.type "code", data := Data.fields #[Value.str (Str.ofString "_law_row") 345, Value.str (Str.ofString "_law_row") 346, Value.str (Str.ofString "/claim/cut.py") 347, Value.int 73 0, Value.int 2 0, Value.int 0 0, Value.int 0 0, Value.int 3 0, Value.ref 111, Value.bool true, Value.int 181 0, Value.ref 112, Value.none, Value.ref 113, Value.ref 114, Value.ref 115, Value.int 354 0, Value.int 73 0, Value.str (Str.ofString "/claim/cut.py") 355] }) ::
    (nat_lit 117, { cls := Value.type "function", data := Data.func { name := Str.ofString "_law_row", qualname := Str.ofString "_law_row", params := a31, body := .stmts b31, scope := s31, globals := 3, closure := [], defaults := Value.none, kwdefaults := Value.none, pyModule := Value.str (Str.ofString "law_op0033_01") 331, code := Value.ref 116 } }) ::
    (nat_lit 123, { cls := Value.type "code", data := Data.fields #[Value.str (Str.ofString "_law_sons") 357, Value.str (Str.ofString "_law_sons") 358, Value.str (Str.ofString "/claim/cut.py") 359, Value.int 81 0, Value.int 1 0, Value.int 0 0, Value.int 0 0, Value.int 3 0, Value.ref 118, Value.bool true, Value.int 181 0, Value.ref 119, Value.none, Value.ref 120, Value.ref 121, Value.ref 122, Value.int 364 0, Value.int 81 0, Value.str (Str.ofString "/claim/cut.py") 365] }) ::
    (nat_lit 124, { cls := Value.type "function", data := Data.func { name := Str.ofString "_law_sons", qualname := Str.ofString "_law_sons", params := a32, body := .stmts b32, scope := s32, globals := 3, closure := [], defaults := Value.none, kwdefaults := Value.none, pyModule := Value.str (Str.ofString "law_op0033_01") 331, code := Value.ref 123 } }) ::
    (nat_lit 128, { cls := Value.type "code", data := Data.fields #[Value.str (Str.ofString "_law_sons_due") 367, Value.str (Str.ofString "_law_sons_due") 368, Value.str (Str.ofString "/claim/cut.py") 369, Value.int 87 0, Value.int 1 0, Value.int 0 0, Value.int 0 0, Value.int 3 0, Value.ref 125, Value.bool true, Value.int 181 0, Value.ref 126, Value.none, Value.none, Value.none, Value.ref 127, Value.int 370 0, Value.int 87 0, Value.str (Str.ofString "/claim/cut.py") 371] }) ::
    (nat_lit 129, { cls := Value.type "function", data := Data.func { name := Str.ofString "_law_sons_due", qualname := Str.ofString "_law_sons_due", params := a33, body := .stmts b33, scope := s33, globals := 3, closure := [], defaults := Value.none, kwdefaults := Value.none, pyModule := Value.str (Str.ofString "law_op0033_01") 331, code := Value.ref 128 } }) ::
    (nat_lit 133, { cls := Value.type "code", data := Data.fields #[Value.str (Str.ofString "_law_tree") 373, Value.str (Str.ofString "_law_tree") 374, Value.str (Str.ofString "/claim/cut.py") 375, Value.int 90 0, Value.int 1 0, Value.int 0 0, Value.int 0 0, Value.int 3 0, Value.ref 130, Value.bool true, Value.int 181 0, Value.ref 131, Value.none, Value.none, Value.none, Value.ref 132, Value.int 376 0, Value.int 90 0, Value.str (Str.ofString "/claim/cut.py") 377] }) ::
    (nat_lit 134, { cls := Value.type "function", data := Data.func { name := Str.ofString "_law_tree", qualname := Str.ofString "_law_tree", params := a34, body := .stmts b34, scope := s34, globals := 3, closure := [], defaults := Value.none, kwdefaults := Value.none, pyModule := Value.str (Str.ofString "law_op0033_01") 331, code := Value.ref 133 } }) ::
    (nat_lit 140, { cls := Value.type "code", data := Data.fields #[Value.str (Str.ofString "_law_told") 379, Value.str (Str.ofString "_law_told") 380, Value.str (Str.ofString "/claim/cut.py") 381, Value.int 93 0, Value.int 1 0, Value.int 0 0, Value.int 0 0, Value.int 3 0, Value.ref 135, Value.bool true, Value.int 181 0, Value.ref 136, Value.none, Value.ref 137, Value.ref 138, Value.ref 139, Value.int 388 0, Value.int 93 0, Value.str (Str.ofString "/claim/cut.py") 389] }) ::
    (nat_lit 141, { cls := Value.type "function", data := Data.func { name := Str.ofString "_law_told", qualname := Str.ofString "_law_told", params := a35, body := .stmts b35, scope := s35, globals := 3, closure := [], defaults := Value.none, kwdefaults := Value.none, pyModule := Value.str (Str.ofString "law_op0033_01") 331, code := Value.ref 140 } }) ::
    (nat_lit 147, { cls := Value.type "code", data := Data.fields #[Value.str (Str.ofString "_law_due") 391, Value.str (Str.ofString "_law_due") 392, Value.str (Str.ofString "/claim/cut.py") 393, Value.int 105 0, Value.int 1 0, Value.int 0 0, Value.int 0 0, Value.int 3 0, Value.ref 142, Value.bool true, Value.int 181 0, Value.ref 143, Value.none, Value.ref 144, Value.ref 145, Value.ref 146, Value.int 401 0, Value.int 105 0, Value.str (Str.ofString "/claim/cut.py") 402] }) ::
    (nat_lit 148, { cls := Value.type "function", data := Data.func { name := Str.ofString "_law_due", qualname := Str.ofString "_law_due", params := a36, body := .stmts b36, scope := s36, globals := 3, closure := [], defaults := Value.none, kwdefaults := Value.none, pyModule := Value.str (Str.ofString "law_op0033_01") 331, code := Value.ref 147 } }) ::
    (nat_lit 154, { cls := Value.type "code", data := Data.fields #[Value.str (Str.ofString "_law_text") 404, Value.str (Str.ofString "_law_text") 405, Value.str (Str.ofString "/claim/cut.py") 406, Value.int 118 0, Value.int 1 0, Value.int 0 0, Value.int 0 0, Value.int 3 0, Value.ref 149, Value.bool true, Value.int 181 0, Value.ref 150, Value.none, Value.ref 151, Value.ref 152, Value.ref 153, Value.int 410 0, Value.int 118 0, Value.str (Str.ofString "/claim/cut.py") 411] }) ::
    (nat_lit 155, { cls := Value.type "function", data := Data.func { name := Str.ofString "_law_text", qualname := Str.ofString "_law_text", params := a37, body := .stmts b37, scope := s37, globals := 3, closure := [], defaults := Value.none, kwdefaults := Value.none, pyModule := Value.str (Str.ofString "law_op0033_01") 331, code := Value.ref 154 } }) ::
    (nat_lit 161, { cls := Value.type "code", data := Data.fields #[Value.str (Str.ofString "_law_order_is_told") 413, Value.str (Str.ofString "_law_order_is_told") 414, Value.str (Str.ofString "/claim/cut.py") 415, Value.int 123 0, Value.int 2 0, Value.int 0 0, Value.int 0 0, Value.int 3 0, Value.ref 156, Value.bool true, Value.int 181 0, Value.ref 157, Value.none, Value.ref 158, Value.ref 159, Value.ref 160, Value.int 421 0, Value.int 123 0, Value.str (Str.ofString "/claim/cut.py") 422] }) ::
    (nat_lit 162, { cls := Value.type "function", data := Data.func { name := Str.ofString "_law_order_is_told", qualname := Str.ofString "_law_order_is_told", params := a38, body := .stmts b38, scope := s38, globals := 3, closure := [], defaults := Value.none, kwdefaults := Value.none, pyModule := Value.str (Str.ofString "law_op0033_01") 331, code := Value.ref 161 } }) ::
    (nat_lit 166, { cls := Value.type "code", data := Data.fields #[Value.str (Str.ofString "_law_bags_are_told") 424, Value.str (Str.ofString "_law_bags_are_told") 425, Value.str (Str.ofString "/claim/cut.py") 426, Value.int 132 0, Value.int 2 0, Value.int 0 0, Value.int 0 0, Value.int 3 0, Value.ref 163, Value.bool true, Value.int 181 0, Value.ref 164, Value.none, Value.none, Value.none, Value.ref 165, Value.int 427 0, Value.int 132 0, Value.str (Str.ofString "/claim/cut.py") 428] }) ::
    (nat_lit 167, { cls := Value.type "function", data := Data.func { name := Str.ofString "_law_bags_are_told", qualname := Str.ofString "_law_bags_are_told", params := a39, body := .stmts b39, scope := s39, globals := 3, closure := [], defaults := Value.none, kwdefaults := Value.none, pyModule := Value.str (Str.ofString "law_op0033_01") 331, code := Value.ref 166 } }) ::
    (nat_lit 171, { cls := Value.type "code", data := Data.fields #[Value.str (Str.ofString "law") 430, Value.str (Str.ofString "law") 431, Value.str (Str.ofString "/claim/cut.py") 432, Value.int 140 0, Value.int 1 0, Value.int 0 0, Value.int 0 0, Value.int 3 0, Value.ref 168, Value.bool true, Value.int 181 0, Value.ref 169, Value.none, Value.none, Value.none, Value.ref 170, Value.int 433 0, Value.int 140 0, Value.str (Str.ofString "/claim/cut.py") 434] }) ::
    (nat_lit 172, { cls := Value.type "function", data := Data.func { name := Str.ofString "law", qualname := Str.ofString "law", params := a40, body := .stmts b40, scope := s40, globals := 3, closure := [], defaults := Value.none, kwdefaults := Value.none, pyModule := Value.str (Str.ofString "law_op0033_01") 331, code := Value.ref 171 } }) :: []
def hd.adds : List Nat := [2, 3, 20, 21, 34, 35, 37, 38, 48, 49, 50, 51, 52, 53, 54, 55, 56, 57, 58, 59, 60, 61, 62, 63, 64, 65, 66, 67, 68, 69, 70, 71, 72, 73, 74, 75, 76, 77, 78, 79, 80, 81, 82, 88, 89, 95, 96, 102, 103, 109, 110, 116, 117, 123, 124, 128, 129, 133, 134, 140, 141, 147, 148, 154, 155, 161, 162, 166, 167, 171, 172]
/-- the heap that the top leaves behind, object by object -/
noncomputable def hd.heap1 : Params → Heap := by
  refine (?F : ∀ (a1 a4 a25 a27 a28 a30 a31 a32 a33 a34 a35 a36 a37 a38 a39 a40 ai : Arguments) (b1 b4 b25 b27 b28 b30 b31 b32 b33 b34 b35 b36 b37 b38 b39 b40 bi : List Stmt) (s1 s4 s25 s27 s28 s30 s31 s32 s33 s34 s35 s36 s37 s38 s39 s40 si : Scope),
    PySem.Challenge.pw_op0033_01.main.body[1]?.bind fnOf = some (a1, b1, s1) →
    PySem.Challenge.pw_op0033_01.main.body[4]?.bind fnOf = some (a4, b4, s4) →
    PySem.Challenge.pw_op0033_01.main.body[25]?.bind fnOf = some (a25, b25, s25) →
    PySem.Challenge.pw_op0033_01.main.body[27]?.bind fnOf = some (a27, b27, s27) →
    PySem.Challenge.pw_op0033_01.main.body[28]?.bind fnOf = some (a28, b28, s28) →
    PySem.Challenge.pw_op0033_01.main.body[30]?.bind fnOf = some (a30, b30, s30) →
    PySem.Challenge.pw_op0033_01.main.body[31]?.bind fnOf = some (a31, b31, s31) →
    PySem.Challenge.pw_op0033_01.main.body[32]?.bind fnOf = some (a32, b32, s32) →
    PySem.Challenge.pw_op0033_01.main.body[33]?.bind fnOf = some (a33, b33, s33) →
    PySem.Challenge.pw_op0033_01.main.body[34]?.bind fnOf = some (a34, b34, s34) →
    PySem.Challenge.pw_op0033_01.main.body[35]?.bind fnOf = some (a35, b35, s35) →
    PySem.Challenge.pw_op0033_01.main.body[36]?.bind fnOf = some (a36, b36, s36) →
    PySem.Challenge.pw_op0033_01.main.body[37]?.bind fnOf = some (a37, b37, s37) →
    PySem.Challenge.pw_op0033_01.main.body[38]?.bind fnOf = some (a38, b38, s38) →
    PySem.Challenge.pw_op0033_01.main.body[39]?.bind fnOf = some (a39, b39, s39) →
    PySem.Challenge.pw_op0033_01.main.body[40]?.bind fnOf = some (a40, b40, s40) →
    PySem.Challenge.pw_op0033_01.main.body[2]?.bind fnOf = some (ai, bi, si) →
    Params → Heap) _ _ _ _ _ _ _ _ _ _ _ _ _ _ _ _ _ _ _ _ _ _ _ _ _ _ _ _ _ _ _ _ _ _ _ _ _ _ _ _ _ _ _ _ _ _ _ _ _ _ _ rfl rfl rfl rfl rfl rfl rfl rfl rfl rfl rfl rfl rfl rfl rfl rfl rfl 
  exact fun a1 a4 a25 a27 a28 a30 a31 a32 a33 a34 a35 a36 a37 a38 a39 a40 ai b1 b4 b25 b27 b28 b30 b31 b32 b33 b34 b35 b36 b37 b38 b39 b40 bi s1 s4 s25 s27 s28 s30 s31 s32 s33 s34 s35 s36 s37 s38 s39 s40 si _ _ _ _ _ _ _ _ _ _ _ _ _ _ _ _ _ P => { objs := List.toArray (
    boot_o_0 P ::
    boot_o_1 P ::
    boot_o_2 P ::
    { cls := Value.type "dict", data := Data.dict (List.toArray ({ hash := PyData.keyHash P (Str.ofString "__name__"), key := Value.str (Str.ofString "__name__") 165, val := Value.str (Str.ofString "law_op0033_01") 331 } :: { hash := PyData.keyHash P (Str.ofString "__doc__"), key := Value.str (Str.ofString "__doc__") 166, val := Value.none } :: { hash := PyData.keyHash P (Str.ofString "__package__"), key := Value.str (Str.ofString "__package__") 167, val := Value.none } :: { hash := PyData.keyHash P (Str.ofString "__loader__"), key := Value.str (Str.ofString "__loader__") 168, val := Value.builtin "__main__.__loader__#opaque" } :: { hash := PyData.keyHash P (Str.ofString "__spec__"), key := Value.str (Str.ofString "__spec__") 169, val := Value.none } :: { hash := PyData.keyHash P (Str.ofString "__annotations__"), key := Value.str (Str.ofString "__annotations__") 170, val := Value.ref 6 } :: { hash := PyData.keyHash P (Str.ofString "__builtins__"), key := Value.str (Str.ofString "__builtins__") 171, val := Value.ref 4 } :: { hash := PyData.keyHash P (Str.ofString "__file__"), key := Value.str (Str.ofString "__file__") 173, val := Value.str (Str.ofString "/claim/cut.py") 172 } :: { hash := PyData.keyHash P (Str.ofString "__cached__"), key := Value.str (Str.ofString "__cached__") 174, val := Value.none } :: { hash := PyData.keyHash P (Str.ofString "read_uint1"), key := Value.str (Str.ofString "read_uint1") 196, val := Value.ref 21 } :: { hash := PyData.keyHash P (Str.ofString "_Example"), key := Value.str (Str.ofString "_Example") 225, val := Value.ref 38 } :: { hash := PyData.keyHash P (Str.ofString "S_IFMT"), key := Value.str (Str.ofString "S_IFMT") 234, val := Value.ref 49 } :: { hash := PyData.keyHash P (Str.ofString "S_IFDIR"), key := Value.str (Str.ofString "S_IFDIR") 236, val := Value.int 16384 235 } :: { hash := PyData.keyHash P (Str.ofString "S_IFCHR"), key := Value.str (Str.ofString "S_IFCHR") 238, val := Value.int 8192 237 } :: { hash := PyData.keyHash P (Str.ofString "S_IFBLK"), key := Value.str (Str.ofString "S_IFBLK") 240, val := Value.int 24576 239 } :: { hash := PyData.keyHash P (Str.ofString "S_IFREG"), key := Value.str (Str.ofString "S_IFREG") 242, val := Value.int 32768 241 } :: { hash := PyData.keyHash P (Str.ofString "S_IFIFO"), key := Value.str (Str.ofString "S_IFIFO") 244, val := Value.int 4096 243 } :: { hash := PyData.keyHash P (Str.ofString "S_IFLNK"), key := Value.str (Str.ofString "S_IFLNK") 246, val := Value.int 40960 245 } :: { hash := PyData.keyHash P (Str.ofString "S_IFSOCK"), key := Value.str (Str.ofString "S_IFSOCK") 248, val := Value.int 49152 247 } :: { hash := PyData.keyHash P (Str.ofString "S_ISUID"), key := Value.str (Str.ofString "S_ISUID") 250, val := Value.int 2048 249 } :: { hash := PyData.keyHash P (Str.ofString "S_ISGID"), key := Value.str (Str.ofString "S_ISGID") 252, val := Value.int 1024 251 } :: { hash := PyData.keyHash P (Str.ofString "S_ISVTX"), key := Value.str (Str.ofString "S_ISVTX") 254, val := Value.int 512 253 } :: { hash := PyData.keyHash P (Str.ofString "S_IRUSR"), key := Value.str (Str.ofString "S_IRUSR") 256, val := Value.int 256 255 } :: { hash := PyData.keyHash P (Str.ofString "S_IWUSR"), key := Value.str (Str.ofString "S_IWUSR") 258, val := Value.int 128 257 } :: { hash := PyData.keyHash P (Str.ofString "S_IXUSR"), key := Value.str (Str.ofString "S_IXUSR") 260, val := Value.int 64 259 } :: { hash := PyData.keyHash P (Str.ofString "S_IRGRP"), key := Value.str (Str.ofString "S_IRGRP") 262, val := Value.int 32 261 } :: { hash := PyData.keyHash P (Str.ofString "S_IWGRP"), key := Value.str (Str.ofString "S_IWGRP") 264, val := Value.int 16 263 } :: { hash := PyData.keyHash P (Str.ofString "S_IXGRP"), key := Value.str (Str.ofString "S_IXGRP") 266, val := Value.int 8 265 } :: { hash := PyData.keyHash P (Str.ofString "S_IROTH"), key := Value.str (Str.ofString "S_IROTH") 268, val := Value.int 4 267 } :: { hash := PyData.keyHash P (Str.ofString "S_IWOTH"), key := Value.str (Str.ofString "S_IWOTH") 270, val := Value.int 2 269 } :: { hash := PyData.keyHash P (Str.ofString "S_IXOTH"), key := Value.str (Str.ofString "S_IXOTH") 272, val := Value.int 1 271 } :: { hash := PyData.keyHash P (Str.ofString "_filemode_table"), key := Value.str (Str.ofString "_filemode_table") 298, val := Value.ref 82 } :: { hash := PyData.keyHash P (Str.ofString "filemode"), key := Value.str (Str.ofString "filemode") 310, val := Value.ref 89 } :: { hash := PyData.keyHash P (Str.ofString "unorderable_list_difference"), key := Value.str (Str.ofString "unorderable_list_difference") 322, val := Value.ref 96 } :: { hash := PyData.keyHash P (Str.ofString "three_way_cmp"), key := Value.str (Str.ofString "three_way_cmp") 330, val := Value.ref 103 } :: { hash := PyData.keyHash P (Str.ofString "_law_stream"), key := Value.str (Str.ofString "_law_stream") 344, val := Value.ref 110 } :: { hash := PyData.keyHash P (Str.ofString "_law_row"), key := Value.str (Str.ofString "_law_row") 356, val := Value.ref 117 } :: { hash := PyData.keyHash P (Str.ofString "_law_sons"), key := Value.str (Str.ofString "_law_sons") 366, val := Value.ref 124 } :: { hash := PyData.keyHash P (Str.ofString "_law_sons_due"), key := Value.str (Str.ofString "_law_sons_due") 372, val := Value.ref 129 } :: { hash := PyData.keyHash P (Str.ofString "_law_tree"), key := Value.str (Str.ofString "_law_tree") 378, val := Value.ref 134 } :: { hash := PyData.keyHash P (Str.ofString "_law_told"), key := Value.str (Str.ofString "_law_told") 390, val := Value.ref 141 } :: { hash := PyData.keyHash P (Str.ofString "_law_due"), key := Value.str (Str.ofString "_law_due") 403, val := Value.ref 148 } :: { hash := PyData.keyHash P (Str.ofString "_law_text"), key := Value.str (Str.ofString "_law_text") 412, val := Value.ref 155 } :: { hash := PyData.keyHash P (Str.ofString "_law_order_is_told"), key := Value.str (Str.ofString "_law_order_is_told") 423, val := Value.ref 162 } :: { hash := PyData.keyHash P (Str.ofString "_law_bags_are_told"), key := Value.str (Str.ofString "_law_bags_are_told") 429, val := Value.ref 167 } :: { hash := PyData.keyHash P (Str.ofString "law"), key := Value.str (Str.ofString "law") 435, val := Value.ref 172 } :: [])) 46 } ::
    boot_o_4 P ::
    boot_o_5 P ::
    boot_o_6 P ::
    boot_o_7 P ::
    boot_o_8 P ::
    boot_o_9 P ::
    boot_o_10 P ::
    { cls := Value.type "tuple", data := Data.seq #[] } ::
    { cls := Value.none, data := Data.fields #[Value.int 2 0, Value.int 0 0, Value.ref 20, Value.int 7 0, Value.int 0 0, Value.ref 27, Value.int 12 0, Value.int 0 0, Value.ref 48, Value.int 34 0, Value.int 0 0, Value.ref 88, Value.int 52 0, Value.int 0 0, Value.ref 95, Value.int 61 0, Value.int 0 0, Value.ref 102, Value.int 64 0, Value.int 0 0, Value.ref 109, Value.int 73 0, Value.int 0 0, Value.ref 116, Value.int 81 0, Value.int 0 0, Value.ref 123, Value.int 87 0, Value.int 0 0, Value.ref 128, Value.int 90 0, Value.int 0 0, Value.ref 133, Value.int 93 0, Value.int 0 0, Value.ref 140, Value.int 105 0, Value.int 0 0, Value.ref 147, Value.int 118 0, Value.int 0 0, Value.ref 154, Value.int 123 0, Value.int 0 0, Value.ref 161, Value.int 132 0, Value.int 0 0, Value.ref 166, Value.int 140 0, Value.int 0 0, Value.ref 171] } ::
    { cls := Value.type "code", data := Data.fields #[Value.str (Str.ofString "<module>") 182, Value.str (Str.ofString "<module>") 183, Value.str (Str.ofString "/claim/cut.py") 184, Value.int 1 0, Value.int 0 0, Value.int 0 0, Value.int 0 0, Value.int 0 0, Value.ref 11, Value.bool false, Value.int 181 0, Value.ref 12, Value.none, Value.none, Value.none, Value.none, Value.int 185 0, Value.int 1 0, Value.str (Str.ofString "/claim/cut.py") 186] } ::
    { cls := Value.type "frame", slots := #[some (Value.ref 13), some (Value.ref 3), some (Value.ref 3), none, some (Value.str (Str.ofString "__main__") 164), none, some (Value.ref 0)] } ::
    { cls := Value.type "tuple", data := Data.seq #[] } ::
    { cls := Value.none, data := Data.fields #[] } ::
    { cls := Value.type "tuple", data := Data.seq #[Value.str (Str.ofString "f") 192, Value.str (Str.ofString "data") 193] } ::
    { cls := Value.type "tuple", data := Data.seq #[] } ::
    { cls := Value.none, data := Data.func { name := Str.ofString "read_uint1", qualname := Str.ofString "read_uint1", params := a1, body := .stmts b1, scope := s1, globals := 0, closure := [], defaults := Value.none, kwdefaults := Value.none } } ::
    { cls := Value.type "code", data := Data.fields #[Value.str (Str.ofString "read_uint1") 189, Value.str (Str.ofString "read_uint1") 190, Value.str (Str.ofString "/claim/cut.py") 191, Value.int 2 0, Value.int 1 0, Value.int 0 0, Value.int 0 0, Value.int 3 0, Value.ref 15, Value.bool true, Value.int 181 0, Value.ref 16, Value.none, Value.ref 17, Value.ref 18, Value.ref 19, Value.int 194 0, Value.int 2 0, Value.str (Str.ofString "/claim/cut.py") 195] } ::
    { cls := Value.type "function", data := Data.func { name := Str.ofString "read_uint1", qualname := Str.ofString "read_uint1", params := a1, body := .stmts b1, scope := s1, globals := 3, closure := [], defaults := Value.none, kwdefaults := Value.none, pyModule := Value.str (Str.ofString "cpy313.pickletools") 187, code := Value.ref 20 } } ::
    { cls := Value.type "tuple", data := Data.seq #[] } ::
    { cls := Value.type "builtin_function_or_method", data := Data.fields #[Value.builtin "type.__prepare__", Value.type "type"] } ::
    { cls := Value.type "dict", data := Data.dict #[{ hash := PyData.keyHash P (Str.ofString "__module__"), key := Value.str (Str.ofString "__module__") 204, val := Value.str (Str.ofString "cpy313.pickletools") 187 }, { hash := PyData.keyHash P (Str.ofString "__qualname__"), key := Value.str (Str.ofString "__qualname__") 206, val := Value.str (Str.ofString "_Example") 205 }, { hash := PyData.keyHash P (Str.ofString "__firstlineno__"), key := Value.str (Str.ofString "__firstlineno__") 208, val := Value.int 7 207 }, { hash := PyData.keyHash P (Str.ofString "__init__"), key := Value.str (Str.ofString "__init__") 216, val := Value.ref 35 }, { hash := PyData.keyHash P (Str.ofString "__static_attributes__"), key := Value.str (Str.ofString "__static_attributes__") 218, val := Value.ref 36 }] 5 } ::
    { cls := Value.type "tuple", data := Data.seq #[] } ::
    { cls := Value.none, data := Data.fields #[Value.int 9 0, Value.int 4 0, Value.ref 34] } ::
    { cls := Value.type "code", data := Data.fields #[Value.str (Str.ofString "_Example") 199, Value.str (Str.ofString "_Example") 200, Value.str (Str.ofString "/claim/cut.py") 201, Value.int 7 0, Value.int 0 0, Value.int 0 0, Value.int 0 0, Value.int 0 0, Value.ref 25, Value.bool false, Value.int 181 0, Value.ref 26, Value.none, Value.none, Value.none, Value.none, Value.int 202 0, Value.int 7 0, Value.str (Str.ofString "/claim/cut.py") 203] } ::
    { cls := Value.type "frame", slots := #[some (Value.ref 27), some (Value.ref 3), some (Value.ref 24), none, some (Value.str (Str.ofString "cpy313.pickletools") 187), none, some (Value.ref 0)] } ::
    { cls := Value.type "tuple", data := Data.seq #[] } ::
    { cls := Value.none, data := Data.fields #[] } ::
    { cls := Value.type "tuple", data := Data.seq #[Value.str (Str.ofString "self") 212, Value.str (Str.ofString "value") 213] } ::
    { cls := Value.type "tuple", data := Data.seq #[] } ::
    { cls := Value.none, data := Data.func { name := Str.ofString "__init__", qualname := Str.ofString "_Example.__init__", params := ai, body := .stmts bi, scope := si, globals := 0, closure := [], defaults := Value.none, kwdefaults := Value.none } } ::
    { cls := Value.type "code", data := Data.fields #[Value.str (Str.ofString "__init__") 209, Value.str (Str.ofString "_Example.__init__") 210, Value.str (Str.ofString "/claim/cut.py") 211, Value.int 9 0, Value.int 2 0, Value.int 0 0, Value.int 0 0, Value.int 3 0, Value.ref 29, Value.bool true, Value.int 181 0, Value.ref 30, Value.none, Value.ref 31, Value.ref 32, Value.ref 33, Value.int 214 0, Value.int 9 0, Value.str (Str.ofString "/claim/cut.py") 215] } ::
    { cls := Value.type "function", data := Data.func { name := Str.ofString "__init__", qualname := Str.ofString "_Example.__init__", params := ai, body := .stmts bi, scope := si, globals := 3, closure := [], defaults := Value.none, kwdefaults := Value.none, pyModule := Value.str (Str.ofString "cpy313.pickletools") 187, code := Value.ref 34 } } ::
    { cls := Value.type "tuple", data := Data.seq #[Value.str (Str.ofString "value") 217] } ::
    { cls := Value.type "dict", data := Data.dict #[{ hash := PyData.keyHash P (Str.ofString "__module__"), key := Value.str (Str.ofString "__module__") 204, val := Value.str (Str.ofString "cpy313.pickletools") 187 }, { hash := PyData.keyHash P (Str.ofString "__firstlineno__"), key := Value.str (Str.ofString "__firstlineno__") 208, val := Value.int 7 207 }, { hash := PyData.keyHash P (Str.ofString "__init__"), key := Value.str (Str.ofString "__init__") 216, val := Value.ref 35 }, { hash := PyData.keyHash P (Str.ofString "__static_attributes__"), key := Value.str (Str.ofString "__static_attributes__") 218, val := Value.ref 36 }, { hash := PyData.keyHash P (Str.ofString "__dict__"), key := Value.str (Str.ofString "__dict__") 220, val := Value.ref 39 }, { hash := PyData.keyHash P (Str.ofString "__weakref__"), key := Value.str (Str.ofString "__weakref__") 222, val := Value.ref 40 }, { hash := PyData.keyHash P (Str.ofString "__doc__"), key := Value.str (Str.ofString "__doc__") 223, val := Value.none }] 4 } ::
    { cls := Value.type "type", data := Data.cls { name := Str.ofString "_Example", bases := [Value.type "object"], mro := [Value.ref 38, Value.type "object"], ns := 37, qualname := Str.ofString "_Example" }, slots := #[none, none, some (Value.str (Str.ofString "_Example") 197), some (Value.str (Str.ofString "_Example") 205), some (Value.builtin "object.__new__"), some (Value.bool true)] } ::
    { cls := Value.type "getset_descriptor", data := Data.fields #[Value.str (Str.ofString "__dict__") 219, Value.ref 38, Value.builtin "function.__dict__", Value.builtin "function.__dict__#set"] } ::
    { cls := Value.type "getset_descriptor", data := Data.fields #[Value.str (Str.ofString "__weakref__") 221, Value.ref 38, Value.builtin "ExceptionGroup.__weakref__", Value.none] } ::
    { cls := Value.type "super", data := Data.fields #[Value.ref 38, Value.ref 38, Value.ref 38] } ::
    { cls := Value.type "builtin_function_or_method", data := Data.fields #[Value.builtin "object.__init_subclass__", Value.ref 38] } ::
    { cls := Value.type "tuple", data := Data.seq #[] } ::
    { cls := Value.none, data := Data.fields #[] } ::
    { cls := Value.type "tuple", data := Data.seq #[Value.str (Str.ofString "mode") 231] } ::
    { cls := Value.type "tuple", data := Data.seq #[] } ::
    { cls := Value.none, data := Data.func { name := Str.ofString "S_IFMT", qualname := Str.ofString "S_IFMT", params := a4, body := .stmts b4, scope := s4, globals := 0, closure := [], defaults := Value.none, kwdefaults := Value.none } } ::
    { cls := Value.type "code", data := Data.fields #[Value.str (Str.ofString "S_IFMT") 228, Value.str (Str.ofString "S_IFMT") 229, Value.str (Str.ofString "/claim/cut.py") 230, Value.int 12 0, Value.int 1 0, Value.int 0 0, Value.int 0 0, Value.int 3 0, Value.ref 43, Value.bool true, Value.int 181 0, Value.ref 44, Value.none, Value.ref 45, Value.ref 46, Value.ref 47, Value.int 232 0, Value.int 12 0, Value.str (Str.ofString "/claim/cut.py") 233] } ::
    { cls := Value.type "function", data := Data.func { name := Str.ofString "S_IFMT", qualname := Str.ofString "S_IFMT", params := a4, body := .stmts b4, scope := s4, globals := 3, closure := [], defaults := Value.none, kwdefaults := Value.none, pyModule := Value.str (Str.ofString "cpy313.stat") 226, code := Value.ref 48 } } ::
    { cls := Value.type "tuple", data := Data.seq #[Value.int 40960 245, Value.str (Str.ofString "l") 273] } ::
    { cls := Value.type "tuple", data := Data.seq #[Value.int 49152 247, Value.str (Str.ofString "s") 274] } ::
    { cls := Value.type "tuple", data := Data.seq #[Value.int 32768 241, Value.str (Str.ofString "-") 275] } ::
    { cls := Value.type "tuple", data := Data.seq #[Value.int 24576 239, Value.str (Str.ofString "b") 276] } ::
    { cls := Value.type "tuple", data := Data.seq #[Value.int 16384 235, Value.str (Str.ofString "d") 277] } ::
    { cls := Value.type "tuple", data := Data.seq #[Value.int 8192 237, Value.str (Str.ofString "c") 278] } ::
    { cls := Value.type "tuple", data := Data.seq #[Value.int 4096 243, Value.str (Str.ofString "p") 279] } ::
    { cls := Value.type "tuple", data := Data.seq #[Value.ref 50, Value.ref 51, Value.ref 52, Value.ref 53, Value.ref 54, Value.ref 55, Value.ref 56] } ::
    { cls := Value.type "tuple", data := Data.seq #[Value.int 256 255, Value.str (Str.ofString "r") 280] } ::
    { cls := Value.type "tuple", data := Data.seq #[Value.ref 58] } ::
    { cls := Value.type "tuple", data := Data.seq #[Value.int 128 257, Value.str (Str.ofString "w") 281] } ::
    { cls := Value.type "tuple", data := Data.seq #[Value.ref 60] } ::
    { cls := Value.type "tuple", data := Data.seq #[Value.int 2112 282, Value.str (Str.ofString "s") 283] } ::
    { cls := Value.type "tuple", data := Data.seq #[Value.int 2048 249, Value.str (Str.ofString "S") 284] } ::
    { cls := Value.type "tuple", data := Data.seq #[Value.int 64 259, Value.str (Str.ofString "x") 285] } ::
    { cls := Value.type "tuple", data := Data.seq #[Value.ref 62, Value.ref 63, Value.ref 64] } ::
    { cls := Value.type "tuple", data := Data.seq #[Value.int 32 261, Value.str (Str.ofString "r") 286] } ::
    { cls := Value.type "tuple", data := Data.seq #[Value.ref 66] } ::
    { cls := Value.type "tuple", data := Data.seq #[Value.int 16 263, Value.str (Str.ofString "w") 287] } ::
    { cls := Value.type "tuple", data := Data.seq #[Value.ref 68] } ::
    { cls := Value.type "tuple", data := Data.seq #[Value.int 1032 288, Value.str (Str.ofString "s") 289] } ::
    { cls := Value.type "tuple", data := Data.seq #[Value.int 1024 251, Value.str (Str.ofString "S") 290] } ::
    { cls := Value.type "tuple", data := Data.seq #[Value.int 8 265, Value.str (Str.ofString "x") 291] } ::
    { cls := Value.type "tuple", data := Data.seq #[Value.ref 70, Value.ref 71, Value.ref 72] } ::
    { cls := Value.type "tuple", data := Data.seq #[Value.int 4 267, Value.str (Str.ofString "r") 292] } ::
    { cls := Value.type "tuple", data := Data.seq #[Value.ref 74] } ::
    { cls := Value.type "tuple", data := Data.seq #[Value.int 2 269, Value.str (Str.ofString "w") 293] } ::
    { cls := Value.type "tuple", data := Data.seq #[Value.ref 76] } ::
    { cls := Value.type "tuple", data := Data.seq #[Value.int 513 294, Value.str (Str.ofString "t") 295] } ::
    { cls := Value.type "tuple", data := Data.seq #[Value.int 512 253, Value.str (Str.ofString "T") 296] } ::
    { cls := Value.type "tuple", data := Data.seq #[Value.int 1 271, Value.str (Str.ofString "x") 297] } ::
    { cls := Value.type "tuple", data := Data.seq #[Value.ref 78, Value.ref 79, Value.ref 80] } ::
    { cls := Value.type "tuple", data := Data.seq #[Value.ref 57, Value.ref 59, Value.ref 61, Value.ref 65, Value.ref 67, Value.ref 69, Value.ref 73, Value.ref 75, Value.ref 77, Value.ref 81] } ::
    { cls := Value.type "tuple", data := Data.seq #[] } ::
    { cls := Value.none, data := Data.fields #[] } ::
    { cls := Value.type "tuple", data := Data.seq #[Value.str (Str.ofString "mode") 302, Value.str (Str.ofString "perm") 303, Value.str (Str.ofString "index") 304, Value.str (Str.ofString "table") 305, Value.str (Str.ofString "bit") 306, Value.str (Str.ofString "char") 307] } ::
    { cls := Value.type "tuple", data := Data.seq #[] } ::
    { cls := Value.none, data := Data.func { name := Str.ofString "filemode", qualname := Str.ofString "filemode", params := a25, body := .stmts b25, scope := s25, globals := 0, closure := [], defaults := Value.none, kwdefaults := Value.none } } ::
    { cls := Value.type "code", data := Data.fields #[Value.str (Str.ofString "filemode") 299, Value.str (Str.ofString "filemode") 300, Value.str (Str.ofString "/claim/cut.py") 301, Value.int 34 0, Value.int 1 0, Value.int 0 0, Value.int 0 0, Value.int 3 0, Value.ref 83, Value.bool true, Value.int 181 0, Value.ref 84, Value.none, Value.ref 85, Value.ref 86, Value.ref 87, Value.int 308 0, Value.int 34 0, Value.str (Str.ofString "/claim/cut.py") 309] } ::
    { cls := Value.type "function", data := Data.func { name := Str.ofString "filemode", qualname := Str.ofString "filemode", params := a25, body := .stmts b25, scope := s25, globals := 3, closure := [], defaults := Value.none, kwdefaults := Value.none, pyModule := Value.str (Str.ofString "cpy313.stat") 226, code := Value.ref 88 } } ::
    { cls := Value.type "tuple", data := Data.seq #[] } ::
    { cls := Value.none, data := Data.fields #[] } ::
    { cls := Value.type "tuple", data := Data.seq #[Value.str (Str.ofString "expected") 316, Value.str (Str.ofString "actual") 317, Value.str (Str.ofString "missing") 318, Value.str (Str.ofString "item") 319] } ::
    { cls := Value.type "tuple", data := Data.seq #[] } ::
    { cls := Value.none, data := Data.func { name := Str.ofString "unorderable_list_difference", qualname := Str.ofString "unorderable_list_difference", params := a27, body := .stmts b27, scope := s27, globals := 0, closure := [], defaults := Value.none, kwdefaults := Value.none } } ::
    { cls := Value.type "code", data := Data.fields #[Value.str (Str.ofString "unorderable_list_difference") 313, Value.str (Str.ofString "unorderable_list_difference") 314, Value.str (Str.ofString "/claim/cut.py") 315, Value.int 52 0, Value.int 2 0, Value.int 0 0, Value.int 0 0, Value.int 3 0, Value.ref 90, Value.bool true, Value.int 181 0, Value.ref 91, Value.none, Value.ref 92, Value.ref 93, Value.ref 94, Value.int 320 0, Value.int 52 0, Value.str (Str.ofString "/claim/cut.py") 321] } ::
    { cls := Value.type "function", data := Data.func { name := Str.ofString "unorderable_list_difference", qualname := Str.ofString "unorderable_list_difference", params := a27, body := .stmts b27, scope := s27, globals := 3, closure := [], defaults := Value.none, kwdefaults := Value.none, pyModule := Value.str (Str.ofString "cpy313.unittest.util") 311, code := Value.ref 95 } } ::
    { cls := Value.type "tuple", data := Data.seq #[] } ::
    { cls := Value.none, data := Data.fields #[] } ::
    { cls := Value.type "tuple", data := Data.seq #[Value.str (Str.ofString "x") 326, Value.str (Str.ofString "y") 327] } ::
    { cls := Value.type "tuple", data := Data.seq #[] } ::
    { cls := Value.none, data := Data.func { name := Str.ofString "three_way_cmp", qualname := Str.ofString "three_way_cmp", params := a28, body := .stmts b28, scope := s28, globals := 0, closure := [], defaults := Value.none, kwdefaults := Value.none } } ::
    { cls := Value.type "code", data := Data.fields #[Value.str (Str.ofString "three_way_cmp") 323, Value.str (Str.ofString "three_way_cmp") 324, Value.str (Str.ofString "/claim/cut.py") 325, Value.int 61 0, Value.int 2 0, Value.int 0 0, Value.int 0 0, Value.int 3 0, Value.ref 97, Value.bool true, Value.int 181 0, Value.ref 98, Value.none, Value.ref 99, Value.ref 100, Value.ref 101, Value.int 328 0, Value.int 61 0, Value.str (Str.ofString "/claim/cut.py") 329] } ::
    { cls := Value.type "function", data := Data.func { name := Str.ofString "three_way_cmp", qualname := Str.ofString "three_way_cmp", params := a28, body := .stmts b28, scope := s28, globals := 3, closure := [], defaults := Value.none, kwdefaults := Value.none, pyModule := Value.str (Str.ofString "cpy313.unittest.util") 311, code := Value.ref 102 } } ::
    { cls := Value.type "tuple", data := Data.seq #[] } ::
    { cls := Value.none, data := Data.fields #[] } ::
    { cls := Value.type "tuple", data := Data.seq #[Value.str (Str.ofString "octets") 336, Value.str (Str.ofString "at") 337, Value.str (Str.ofString "tape") 338, Value.str (Str.ofString "_law_read") 339] } ::
    { cls := Value.type "tuple", data := Data.seq #[Value.str (Str.ofString "octets") 340, Value.str (Str.ofString "at") 341] } ::
    { cls := Value.none, data := Data.func { name := Str.ofString "_law_stream", qualname := Str.ofString "_law_stream", params := a30, body := .stmts b30, scope := s30, globals := 0, closure := [], defaults := Value.none, kwdefaults := Value.none } } ::
    { cls := Value.type "code", data := Data.fields #[Value.str (Str.ofString "_law_stream") 333, Value.str (Str.ofString "_law_stream") 334, Value.str (Str.ofString "/claim/cut.py") 335, Value.int 64 0, Value.int 2 0, Value.int 0 0, Value.int 0 0, Value.int 3 0, Value.ref 104, Value.bool true, Value.int 181 0, Value.ref 105, Value.none, Value.ref 106, Value.ref 107, Value.ref 108, Value.int 342 0, Value.int 64 0, Value.str (Str.ofString "/claim/cut.py") 343] } ::
    { cls := Value.type "function", data := Data.func { name := Str.ofString "_law_stream", qualname := Str.ofString "_law_stream", params := a30, body := .stmts b30, scope := s30, globals := 3, closure := [], defaults := Value.none, kwdefaults := Value.none, pyModule := Value.str (Str.ofString "law_op0033_01") 331, code := Value.ref 109 } } ::
    { cls := Value.type "tuple", data := Data.seq #[] } ::
    { cls := Value.none, data := Data.fields #[] } ::
    { cls := Value.type "tuple", data := Data.seq #[Value.str (Str.ofString "kind") 348, Value.str (Str.ofString "rights") 349, Value.str (Str.ofString "row") 350, Value.str (Str.ofString "turn") 351, Value.str (Str.ofString "digit") 352, Value.str (Str.ofString "last") 353] } ::
    { cls := Value.type "tuple", data := Data.seq #[] } ::
    { cls := Value.none, data := Data.func { name := Str.ofString "_law_row", qualname := Str.ofString "_law_row", params := a31, body := .stmts b31, scope := s31, globals := 0, closure := [], defaults := Value.none, kwdefaults := Value.none } } ::
    { cls := Value.type "code", data := Data.fields #[Value.str (Str.ofString "_law_row") 345, Value.str (Str.ofString "_law_row") 346, Value.str (Str.ofString "/claim/cut.py") 347, Value.int 73 0, Value.int 2 0, Value.int 0 0, Value.int 0 0, Value.int 3 0, Value.ref 111, Value.bool true, Value.int 181 0, Value.ref 112, Value.none, Value.ref 113, Value.ref 114, Value.ref 115, Value.int 354 0, Value.int 73 0, Value.str (Str.ofString "/claim/cut.py") 355] } ::
    { cls := Value.type "function", data := Data.func { name := Str.ofString "_law_row", qualname := Str.ofString "_law_row", params := a31, body := .stmts b31, scope := s31, globals := 3, closure := [], defaults := Value.none, kwdefaults := Value.none, pyModule := Value.str (Str.ofString "law_op0033_01") 331, code := Value.ref 116 } } ::
    { cls := Value.type "tuple", data := Data.seq #[] } ::
    { cls := Value.none, data := Data.fields #[] } ::
    { cls := Value.type "tuple", data := Data.seq #[Value.str (Str.ofString "rows") 360, Value.str (Str.ofString "sons") 361, Value.str (Str.ofString "row") 362, Value.str (Str.ofString "turn") 363] } ::
    { cls := Value.type "tuple", data := Data.seq #[] } ::
    { cls := Value.none, data := Data.func { name := Str.ofString "_law_sons", qualname := Str.ofString "_law_sons", params := a32, body := .stmts b32, scope := s32, globals := 0, closure := [], defaults := Value.none, kwdefaults := Value.none } } ::
    { cls := Value.type "code", data := Data.fields #[Value.str (Str.ofString "_law_sons") 357, Value.str (Str.ofString "_law_sons") 358, Value.str (Str.ofString "/claim/cut.py") 359, Value.int 81 0, Value.int 1 0, Value.int 0 0, Value.int 0 0, Value.int 3 0, Value.ref 118, Value.bool true, Value.int 181 0, Value.ref 119, Value.none, Value.ref 120, Value.ref 121, Value.ref 122, Value.int 364 0, Value.int 81 0, Value.str (Str.ofString "/claim/cut.py") 365] } ::
    { cls := Value.type "function", data := Data.func { name := Str.ofString "_law_sons", qualname := Str.ofString "_law_sons", params := a32, body := .stmts b32, scope := s32, globals := 3, closure := [], defaults := Value.none, kwdefaults := Value.none, pyModule := Value.str (Str.ofString "law_op0033_01") 331, code := Value.ref 123 } } ::
    { cls := Value.type "tuple", data := Data.seq #[] } ::
    { cls := Value.none, data := Data.fields #[] } ::
    { cls := Value.none, data := Data.func { name := Str.ofString "_law_sons_due", qualname := Str.ofString "_law_sons_due", params := a33, body := .stmts b33, scope := s33, globals := 0, closure := [], defaults := Value.none, kwdefaults := Value.none } } ::
    { cls := Value.type "code", data := Data.fields #[Value.str (Str.ofString "_law_sons_due") 367, Value.str (Str.ofString "_law_sons_due") 368, Value.str (Str.ofString "/claim/cut.py") 369, Value.int 87 0, Value.int 1 0, Value.int 0 0, Value.int 0 0, Value.int 3 0, Value.ref 125, Value.bool true, Value.int 181 0, Value.ref 126, Value.none, Value.none, Value.none, Value.ref 127, Value.int 370 0, Value.int 87 0, Value.str (Str.ofString "/claim/cut.py") 371] } ::
    { cls := Value.type "function", data := Data.func { name := Str.ofString "_law_sons_due", qualname := Str.ofString "_law_sons_due", params := a33, body := .stmts b33, scope := s33, globals := 3, closure := [], defaults := Value.none, kwdefaults := Value.none, pyModule := Value.str (Str.ofString "law_op0033_01") 331, code := Value.ref 128 } } ::
    { cls := Value.type "tuple", data := Data.seq #[] } ::
    { cls := Value.none, data := Data.fields #[] } ::
    { cls := Value.none, data := Data.func { name := Str.ofString "_law_tree", qualname := Str.ofString "_law_tree", params := a34, body := .stmts b34, scope := s34, globals := 0, closure := [], defaults := Value.none, kwdefaults := Value.none } } ::
    { cls := Value.type "code", data := Data.fields #[Value.str (Str.ofString "_law_tree") 373, Value.str (Str.ofString "_law_tree") 374, Value.str (Str.ofString "/claim/cut.py") 375, Value.int 90 0, Value.int 1 0, Value.int 0 0, Value.int 0 0, Value.int 3 0, Value.ref 130, Value.bool true, Value.int 181 0, Value.ref 131, Value.none, Value.none, Value.none, Value.ref 132, Value.int 376 0, Value.int 90 0, Value.str (Str.ofString "/claim/cut.py") 377] } ::
    { cls := Value.type "function", data := Data.func { name := Str.ofString "_law_tree", qualname := Str.ofString "_law_tree", params := a34, body := .stmts b34, scope := s34, globals := 3, closure := [], defaults := Value.none, kwdefaults := Value.none, pyModule := Value.str (Str.ofString "law_op0033_01") 331, code := Value.ref 133 } } ::
    { cls := Value.type "tuple", data := Data.seq #[] } ::
    { cls := Value.none, data := Data.fields #[] } ::
    { cls := Value.type "tuple", data := Data.seq #[Value.str (Str.ofString "octets") 382, Value.str (Str.ofString "at") 383, Value.str (Str.ofString "tape") 384, Value.str (Str.ofString "trees") 385, Value.str (Str.ofString "ends") 386, Value.str (Str.ofString "err") 387] } ::
    { cls := Value.type "tuple", data := Data.seq #[] } ::
    { cls := Value.none, data := Data.func { name := Str.ofString "_law_told", qualname := Str.ofString "_law_told", params := a35, body := .stmts b35, scope := s35, globals := 0, closure := [], defaults := Value.none, kwdefaults := Value.none } } ::
    { cls := Value.type "code", data := Data.fields #[Value.str (Str.ofString "_law_told") 379, Value.str (Str.ofString "_law_told") 380, Value.str (Str.ofString "/claim/cut.py") 381, Value.int 93 0, Value.int 1 0, Value.int 0 0, Value.int 0 0, Value.int 3 0, Value.ref 135, Value.bool true, Value.int 181 0, Value.ref 136, Value.none, Value.ref 137, Value.ref 138, Value.ref 139, Value.int 388 0, Value.int 93 0, Value.str (Str.ofString "/claim/cut.py") 389] } ::
    { cls := Value.type "function", data := Data.func { name := Str.ofString "_law_told", qualname := Str.ofString "_law_told", params := a35, body := .stmts b35, scope := s35, globals := 3, closure := [], defaults := Value.none, kwdefaults := Value.none, pyModule := Value.str (Str.ofString "law_op0033_01") 331, code := Value.ref 140 } } ::
    { cls := Value.type "tuple", data := Data.seq #[] } ::
    { cls := Value.none, data := Data.fields #[] } ::
    { cls := Value.type "tuple", data := Data.seq #[Value.str (Str.ofString "octets") 394, Value.str (Str.ofString "ends") 395, Value.str (Str.ofString "height") 396, Value.str (Str.ofString "least") 397, Value.str (Str.ofString "place") 398, Value.str (Str.ofString "trees") 399, Value.str (Str.ofString "octet") 400] } ::
    { cls := Value.type "tuple", data := Data.seq #[] } ::
    { cls := Value.none, data := Data.func { name := Str.ofString "_law_due", qualname := Str.ofString "_law_due", params := a36, body := .stmts b36, scope := s36, globals := 0, closure := [], defaults := Value.none, kwdefaults := Value.none } } ::
    { cls := Value.type "code", data := Data.fields #[Value.str (Str.ofString "_law_due") 391, Value.str (Str.ofString "_law_due") 392, Value.str (Str.ofString "/claim/cut.py") 393, Value.int 105 0, Value.int 1 0, Value.int 0 0, Value.int 0 0, Value.int 3 0, Value.ref 142, Value.bool true, Value.int 181 0, Value.ref 143, Value.none, Value.ref 144, Value.ref 145, Value.ref 146, Value.int 401 0, Value.int 105 0, Value.str (Str.ofString "/claim/cut.py") 402] } ::
    { cls := Value.type "function", data := Data.func { name := Str.ofString "_law_due", qualname := Str.ofString "_law_due", params := a36, body := .stmts b36, scope := s36, globals := 3, closure := [], defaults := Value.none, kwdefaults := Value.none, pyModule := Value.str (Str.ofString "law_op0033_01") 331, code := Value.ref 147 } } ::
    { cls := Value.type "tuple", data := Data.seq #[] } ::
    { cls := Value.none, data := Data.fields #[] } ::
    { cls := Value.type "tuple", data := Data.seq #[Value.str (Str.ofString "octets") 407, Value.str (Str.ofString "texts") 408, Value.str (Str.ofString "octet") 409] } ::
    { cls := Value.type "tuple", data := Data.seq #[] } ::
    { cls := Value.none, data := Data.func { name := Str.ofString "_law_text", qualname := Str.ofString "_law_text", params := a37, body := .stmts b37, scope := s37, globals := 0, closure := [], defaults := Value.none, kwdefaults := Value.none } } ::
    { cls := Value.type "code", data := Data.fields #[Value.str (Str.ofString "_law_text") 404, Value.str (Str.ofString "_law_text") 405, Value.str (Str.ofString "/claim/cut.py") 406, Value.int 118 0, Value.int 1 0, Value.int 0 0, Value.int 0 0, Value.int 3 0, Value.ref 149, Value.bool true, Value.int 181 0, Value.ref 150, Value.none, Value.ref 151, Value.ref 152, Value.ref 153, Value.int 410 0, Value.int 118 0, Value.str (Str.ofString "/claim/cut.py") 411] } ::
    { cls := Value.type "function", data := Data.func { name := Str.ofString "_law_text", qualname := Str.ofString "_law_text", params := a37, body := .stmts b37, scope := s37, globals := 3, closure := [], defaults := Value.none, kwdefaults := Value.none, pyModule := Value.str (Str.ofString "law_op0033_01") 331, code := Value.ref 154 } } ::
    { cls := Value.type "tuple", data := Data.seq #[] } ::
    { cls := Value.none, data := Data.fields #[] } ::
    { cls := Value.type "tuple", data := Data.seq #[Value.str (Str.ofString "forests") 416, Value.str (Str.ofString "texts") 417, Value.str (Str.ofString "at") 418, Value.str (Str.ofString "marks") 419, Value.str (Str.ofString "due") 420] } ::
    { cls := Value.type "tuple", data := Data.seq #[] } ::
    { cls := Value.none, data := Data.func { name := Str.ofString "_law_order_is_told", qualname := Str.ofString "_law_order_is_told", params := a38, body := .stmts b38, scope := s38, globals := 0, closure := [], defaults := Value.none, kwdefaults := Value.none } } ::
    { cls := Value.type "code", data := Data.fields #[Value.str (Str.ofString "_law_order_is_told") 413, Value.str (Str.ofString "_law_order_is_told") 414, Value.str (Str.ofString "/claim/cut.py") 415, Value.int 123 0, Value.int 2 0, Value.int 0 0, Value.int 0 0, Value.int 3 0, Value.ref 156, Value.bool true, Value.int 181 0, Value.ref 157, Value.none, Value.ref 158, Value.ref 159, Value.ref 160, Value.int 421 0, Value.int 123 0, Value.str (Str.ofString "/claim/cut.py") 422] } ::
    { cls := Value.type "function", data := Data.func { name := Str.ofString "_law_order_is_told", qualname := Str.ofString "_law_order_is_told", params := a38, body := .stmts b38, scope := s38, globals := 3, closure := [], defaults := Value.none, kwdefaults := Value.none, pyModule := Value.str (Str.ofString "law_op0033_01") 331, code := Value.ref 161 } } ::
    { cls := Value.type "tuple", data := Data.seq #[] } ::
    { cls := Value.none, data := Data.fields #[] } ::
    { cls := Value.none, data := Data.func { name := Str.ofString "_law_bags_are_told", qualname := Str.ofString "_law_bags_are_told", params := a39, body := .stmts b39, scope := s39, globals := 0, closure := [], defaults := Value.none, kwdefaults := Value.none } } ::
    { cls := Value.type "code", data := Data.fields #[Value.str (Str.ofString "_law_bags_are_told") 424, Value.str (Str.ofString "_law_bags_are_told") 425, Value.str (Str.ofString "/claim/cut.py") 426, Value.int 132 0, Value.int 2 0, Value.int 0 0, Value.int 0 0, Value.int 3 0, Value.ref 163, Value.bool true, Value.int 181 0, Value.ref 164, Value.none, Value.none, Value.none, Value.ref 165, Value.int 427 0, Value.int 132 0, Value.str (Str.ofString "/claim/cut.py") 428] } ::
    { cls := Value.type "function", data := Data.func { name := Str.ofString "_law_bags_are_told", qualname := Str.ofString "_law_bags_are_told", params := a39, body := .stmts b39, scope := s39, globals := 3, closure := [], defaults := Value.none, kwdefaults := Value.none, pyModule := Value.str (Str.ofString "law_op0033_01") 331, code := Value.ref 166 } } ::
    { cls := Value.type "tuple", data := Data.seq #[] } ::
    { cls := Value.none, data := Data.fields #[] } ::
    { cls := Value.none, data := Data.func { name := Str.ofString "law", qualname := Str.ofString "law", params := a40, body := .stmts b40, scope := s40, globals := 0, closure := [], defaults := Value.none, kwdefaults := Value.none } } ::
    { cls := Value.type "code", data := Data.fields #[Value.str (Str.ofString "law") 430, Value.str (Str.ofString "law") 431, Value.str (Str.ofString "/claim/cut.py") 432, Value.int 140 0, Value.int 1 0, Value.int 0 0, Value.int 0 0, Value.int 3 0, Value.ref 168, Value.bool true, Value.int 181 0, Value.ref 169, Value.none, Value.none, Value.none, Value.ref 170, Value.int 433 0, Value.int 140 0, Value.str (Str.ofString "/claim/cut.py") 434] } ::
    { cls := Value.type "function", data := Data.func { name := Str.ofString "law", qualname := Str.ofString "law", params := a40, body := .stmts b40, scope := s40, globals := 3, closure := [], defaults := Value.none, kwdefaults := Value.none, pyModule := Value.str (Str.ofString "law_op0033_01") 331, code := Value.ref 171 } } :: []) }
/-- the statements of the top that the walk may lean on, as they stand in the row's program -/
noncomputable def hd.q : Program := by
  refine (?F : ∀ (c1 c2 c4 c5 c6 c7 c8 c9 c10 c11 c12 c13 c14 c15 c16 c17 c18 c19 c20 c21 c22 c23 c24 c25 c27 c28 c30 c31 c32 c33 c34 c35 c36 c37 c38 c39 c40 : Stmt),
    PySem.Challenge.pw_op0033_01.main.body[1]? = some c1 →
    PySem.Challenge.pw_op0033_01.main.body[2]? = some c2 →
    PySem.Challenge.pw_op0033_01.main.body[4]? = some c4 →
    PySem.Challenge.pw_op0033_01.main.body[5]? = some c5 →
    PySem.Challenge.pw_op0033_01.main.body[6]? = some c6 →
    PySem.Challenge.pw_op0033_01.main.body[7]? = some c7 →
    PySem.Challenge.pw_op0033_01.main.body[8]? = some c8 →
    PySem.Challenge.pw_op0033_01.main.body[9]? = some c9 →
    PySem.Challenge.pw_op0033_01.main.body[10]? = some c10 →
    PySem.Challenge.pw_op0033_01.main.body[11]? = some c11 →
    PySem.Challenge.pw_op0033_01.main.body[12]? = some c12 →
    PySem.Challenge.pw_op0033_01.main.body[13]? = some c13 →
    PySem.Challenge.pw_op0033_01.main.body[14]? = some c14 →
    PySem.Challenge.pw_op0033_01.main.body[15]? = some c15 →
    PySem.Challenge.pw_op0033_01.main.body[16]? = some c16 →
    PySem.Challenge.pw_op0033_01.main.body[17]? = some c17 →
    PySem.Challenge.pw_op0033_01.main.body[18]? = some c18 →
    PySem.Challenge.pw_op0033_01.main.body[19]? = some c19 →
    PySem.Challenge.pw_op0033_01.main.body[20]? = some c20 →
    PySem.Challenge.pw_op0033_01.main.body[21]? = some c21 →
    PySem.Challenge.pw_op0033_01.main.body[22]? = some c22 →
    PySem.Challenge.pw_op0033_01.main.body[23]? = some c23 →
    PySem.Challenge.pw_op0033_01.main.body[24]? = some c24 →
    PySem.Challenge.pw_op0033_01.main.body[25]? = some c25 →
    PySem.Challenge.pw_op0033_01.main.body[27]? = some c27 →
    PySem.Challenge.pw_op0033_01.main.body[28]? = some c28 →
    PySem.Challenge.pw_op0033_01.main.body[30]? = some c30 →
    PySem.Challenge.pw_op0033_01.main.body[31]? = some c31 →
    PySem.Challenge.pw_op0033_01.main.body[32]? = some c32 →
    PySem.Challenge.pw_op0033_01.main.body[33]? = some c33 →
    PySem.Challenge.pw_op0033_01.main.body[34]? = some c34 →
    PySem.Challenge.pw_op0033_01.main.body[35]? = some c35 →
    PySem.Challenge.pw_op0033_01.main.body[36]? = some c36 →
    PySem.Challenge.pw_op0033_01.main.body[37]? = some c37 →
    PySem.Challenge.pw_op0033_01.main.body[38]? = some c38 →
    PySem.Challenge.pw_op0033_01.main.body[39]? = some c39 →
    PySem.Challenge.pw_op0033_01.main.body[40]? = some c40 →
    Program) _ _ _ _ _ _ _ _ _ _ _ _ _ _ _ _ _ _ _ _ _ _ _ _ _ _ _ _ _ _ _ _ _ _ _ _ _ rfl rfl rfl rfl rfl rfl rfl rfl rfl rfl rfl rfl rfl rfl rfl rfl rfl rfl rfl rfl rfl rfl rfl rfl rfl rfl rfl rfl rfl rfl rfl rfl rfl rfl rfl rfl rfl 
  exact fun c1 c2 c4 c5 c6 c7 c8 c9 c10 c11 c12 c13 c14 c15 c16 c17 c18 c19 c20 c21 c22 c23 c24 c25 c27 c28 c30 c31 c32 c33 c34 c35 c36 c37 c38 c39 c40 _ _ _ _ _ _ _ _ _ _ _ _ _ _ _ _ _ _ _ _ _ _ _ _ _ _ _ _ _ _ _ _ _ _ _ _ _ =>
    { PySem.Challenge.pw_op0033_01 with main := { PySem.Challenge.pw_op0033_01.main with body := c1 :: c2 :: c4 :: c5 :: c6 :: c7 :: c8 :: c9 :: c10 :: c11 :: c12 :: c13 :: c14 :: c15 :: c16 :: c17 :: c18 :: c19 :: c20 :: c21 :: c22 :: c23 :: c24 :: c25 :: c27 :: c28 :: c30 :: c31 :: c32 :: c33 :: c34 :: c35 :: c36 :: c37 :: c38 :: c39 :: c40 :: [] } }
def hd.l : List Str := ["_filemode_table"]
theorem hd.e (P : Params) : hd.adds = (hd.heap_39 P).map (·.1) := by kernel_rfl
noncomputable abbrev hd.H : Hook := kmHook hd.heap_39 hd.adds hd.e [105]
noncomputable def hd.X (s : Shared) : Bool := xlAt hd.q [] s && recOk (RowW.records PySem.Challenge.rw_op0033_01.row.toRowW) s
theorem hd.op (w : World) : (fencedOpening treeTable PySem.Challenge.pw_op0033_01 w 2290).map (fun s => (s.heap, s.gens, s.drawn, s.toks)) = some (boot_heap w.params, Array.mk [], boot_drawn, boot_toks) :=
  boot_open (by kernel_rfl) (by decide) (fun _ => by kernel_rfl) w
theorem hd.size (w : World) : ((boot_heap w.params).isNs mainGlobals && (Array.mk ([] : List GenState)).size == 0, (boot_heap w.params).objs.size, (boot_heap w.params).nsMap mainGlobals "__annotations__") = (true, 11, some (Value.ref 6)) := by kernel_rfl
noncomputable def hd.run (w : World) (os : OsState) : Option Shared := Fast.tw14082659384304107361 Fast.tw14364793385576792824 PySem.Challenge.pw_op0033_01 w 11 (some (Value.ref 6)) 1100 ⟨boot_heap w.params, Array.mk [], boot_drawn, boot_toks, os⟩ (topStub PySem.Challenge.pw_op0033_01)
theorem hd.run_eq (w : World) (os : OsState) : topRun treeTable PySem.Challenge.pw_op0033_01 w 11 (some (Value.ref 6)) 1100 ⟨boot_heap w.params, Array.mk [], boot_drawn, boot_toks, os⟩ (topStub PySem.Challenge.pw_op0033_01) = hd.run w os :=
  congrFun (congrFun (congrFun (congrFun (congrFun (congrFun (congrFun (congr Fast.te14082659384304107361 Fast.te14364793385576792824) _) _) _) _) _) _) _
noncomputable abbrev hd.st (w : World) (os : OsState) : Shared := ⟨hd.heap1 w.params, Array.mk [], {}, 436, os⟩
theorem hd.run1 (w : World) (os : OsState) : hd.run w os = some (hd.st w os) := by kernel_rfl
theorem hd.l1 (w : World) (os : OsState) : (staticsOk (Fast.tw5923862056798008813 PySem.Challenge.pw_op0033_01.main.body) (boot_heap w.params) (hd.st w os).heap && namesBound PySem.Challenge.pw_op0033_01 (hd.st w os).heap && gensDone (hd.st w os) && laidKept (boot_heap w.params) (hd.st w os).heap) = true := by kernel_rfl
theorem hd.l2 (w : World) (os : OsState) : Hook.obs hd.H (hd.st w os) = Hook.val hd.H w := by kernel_rfl
theorem hd.l3 (w : World) (os : OsState) : seen ((recsOf hd.q).map (·.name)) (ownsOf hd.q) [] { hd.st w os with gens := #[] } = expectedOf hd.q := by kernel_rfl
theorem hd.l4 (w : World) (os : OsState) : (hd.st w os).heap.bltView = bltViewBooted := by kernel_rfl
theorem hd.l5 (w : World) (os : OsState) : ((hd.st w os).heap.keysOk (looseW hd.q hd.l) ((recsOf hd.q).map (·.name)) ((litsOf hd.q).map (·.1)) ((clssOf hd.q (looseW hd.q hd.l)).map (·.name)) && (hd.st w os).heap.accountedOkI (Fast.tw5923862056798008813 PySem.Challenge.pw_op0033_01.main.body) && (hd.st w os).heap.isNs mainGlobals && (hd.st w os).heap.isNs builtinsNs && tablesOk hd.q (hd.st w os).heap && hd.X (hd.st w os) && (if true then (hd.st w os).gens.size == 0 else !leftWithCleanup (hd.st w os).gens)) = true := by kernel_rfl
theorem hd.l6 (w : World) (os : OsState) : tabsOk hd.q (hd.st w os) = true := by kernel_rfl
theorem hd.l7 (w : World) (os : OsState) : pinSeenD hd.q (drecsOf hd.q) (hd.st w os) = pinGoodD (drecsOf hd.q) := by kernel_rfl
theorem hd.l8 (w : World) (os : OsState) : plainSeenE hd.q (looseW hd.q hd.l) (hd.st w os) = plainGoodE hd.q (looseW hd.q hd.l) := by kernel_rfl
theorem hd.l9 (w : World) (os : OsState) : plainSeenD hd.q hd.l (hd.st w os) = plainGoodD hd.q hd.l := by kernel_rfl
theorem hd.l10 (w : World) (os : OsState) : wideSeen hd.q (hd.st w os) = wideGood hd.q := by kernel_rfl
theorem hd.l11 (w : World) (os : OsState) : clsSeenW hd.q hd.l (hd.st w os) = clsGoodW hd.q hd.l := by kernel_rfl
theorem hd.left : LeftO PySem.Challenge.pw_op0033_01 hd.q hd.l hd.X (Hook.obs hd.H) (Hook.val hd.H) 2290 :=
  LeftO.of_pieces hd.op hd.size (fun w os => (hd.run_eq w os).trans (hd.run1 w os)) (M := 1100) rfl fun w => funext fun os => by
    rw [Fast.te5923862056798008813]
    unfold openSeen openGood
    exact looks_pair (hd.l1 w os) (looks_pair (looks_pair (hd.l3 w os) (looks_pair (hd.l4 w os) (looks_pair (hd.l5 w os) (looks_pair (hd.l6 w os) (looks_pair (hd.l7 w os) (looks_pair (hd.l8 w os) (looks_pair (hd.l9 w os) (looks_pair (hd.l10 w os) (hd.l11 w os))))))))) (hd.l2 w os))
theorem hd.s1 : namesResolve PySem.Challenge.rw_op0033_01.row.prog = true := by kernel_rfl
theorem hd.s2 : noRoadLSs { strict := !(Fast.tw5923862056798008813 PySem.Challenge.rw_op0033_01.row.prog.main.body).all cThrough.contains, foot := none, bare := (["vars", "dir", "locals"] : List Str).filter (readsOut PySem.Challenge.rw_op0033_01.row.prog PySem.Challenge.rw_op0033_01.row.prog.main.body) } PySem.Challenge.rw_op0033_01.row.prog.main.body = true := by kernel_rfl
theorem hd.s3 : namesMeet PySem.Challenge.rw_op0033_01.row.prog PySem.Challenge.rw_op0033_01.row.prog.main.body (fun _ n => attrL n) = true := by kernel_rfl
theorem hd.s4 : looksOpen PySem.Challenge.rw_op0033_01.row.prog = true := by
  unfold looksOpen
  rw [Fast.te5923862056798008813]
  repeat' (with_reducible refine look_both ?_ ?_)
  all_goals first | with_reducible exact hd.s1 | with_reducible exact hd.s2 | with_reducible exact hd.s3 | kernel_rfl
theorem hd.s5 : PySem.Challenge.rw_op0033_01.row.wellSaid = true := by
  unfold OpenRow.wellSaid OpenRow.partSaid
  repeat' (with_reducible refine look_both ?_ ?_)
  all_goals first | with_reducible exact hd.s4 | kernel_rfl
theorem hd.s6 : noRoadLSs { strict := true, foot := some PySem.Challenge.rw_op0033_01.bound', writes := PySem.Challenge.rw_op0033_01.writes, may := PySem.Challenge.rw_op0033_01.may } PySem.Challenge.rw_op0033_01.footing = true := by kernel_rfl
theorem hd.said : PySem.Challenge.rw_op0033_01.wellSaid = true := by
  unfold OpenLaw.wellSaid
  repeat' (with_reducible refine look_both ?_ ?_)
  all_goals first | with_reducible exact hd.s5 | with_reducible exact hd.s6 | kernel_rfl
theorem hd.ok : (chainsOk hd.q && opensWell PySem.Challenge.rw_op0033_01.row.prog && (frees PySem.Challenge.rw_op0033_01.row.toRowW && PySem.Challenge.rw_op0033_01.row.within.isEmpty)) = true := by kernel_rfl
theorem hd.bare : PySem.Challenge.rw_op0033_01.row.prog.bare := ⟨rfl, rfl, rfl, rfl, rfl, by decide +kernel⟩
theorem hd.wit : PySem.Challenge.rw_op0033_01.row.toRowW.promised := ⟨[.list []], by decide +kernel, by decide +kernel⟩
theorem hd {d : DefRec} {kwd : List (Str × Expr)} (hdef : defOf hd.q "law" = some (d, kwd)) (hp : PySem.Challenge.pw_op0033_01.theDef "law" = some (d.params, d.body, d.scope)) (hk : kwWritten? d.params.kwonlyargs d.params.kw_defaults = some kwd)
    (call : WalkO hd.q hd.l (XL hd.q []) (kmHook hd.heap_39 hd.adds hd.e [105]).says PySem.Challenge.rw_op0033_01.row.toRowW d kwd fun f vs => PySem.call f vs) : PySem.Challenge.rw_op0033_01.Holds :=
  holds_law hd.said fun said => holds_open (Xt := hd.X) hd.left (Hook.of hd.H) (Hook.keeps hd.H) (fun s e => xl_of s (Bool.and_eq_true_iff.mp e).1) XL.keeps hdef hp hk (fun s e => recFacts_of (Bool.and_eq_true_iff.mp e).2) rfl said hd.ok hd.bare hd.wit call
end Mine
end

/-! text Base -/
section
open PySem PySem.W PyProof.Rows PySem.Spec PySem.Calls
set_option Elab.async false
set_option maxRecDepth 100000
namespace Mine

/-! views: a part of the heap that stays -/
theorem view (h : Heap) (p : Addr → Prop) : ∃ g : Heap, g.StaysIn h ∧ (∀ a o, p a → h.get? a = some o → g.get? a = some o) ∧ ∀ a o, g.get? a = some o → p a := by
  classical
  refine ⟨hideAll h ((List.range h.objs.size).filter (fun a => decide (¬ p a))), fun a o e => of_hideAll _ e, fun a o hp e => hideAll_get _ e ?_, fun a o e => ?_⟩
  · simp [hp]
  · apply Classical.byContradiction
    intro hn
    have e' := of_hideAll _ e
    have hl := Heap.lt_size e'
    rw [hideAll_none _ (by simp [hn, hl])] at e
    cases e

/-- from (view g, heap h) to (view g', heap h'): what X names may have turned, all else is kept; what is new in the view is new -/
structure GrowX (X : Addr → Prop) (g h g' h' : Heap) : Prop where
  gg : g.StaysIn g'
  gh : g'.StaysIn h'
  hh : ∀ a o, ¬ X a → h.get? a = some o → h'.get? a = some o
  al : ∀ a, h.get? a ≠ none → h'.get? a ≠ none
  fr : ∀ a o, g'.get? a = some o → g.get? a = none → h.get? a = none

noncomputable def No : Addr → Prop := fun _ => False
abbrev Grow (g h g' h' : Heap) : Prop := GrowX No g h g' h'

theorem staysIn_trans {a b c : Heap} (x : a.StaysIn b) (y : b.StaysIn c) : a.StaysIn c := fun p o e => y p o (x p o e)
theorem staysIn_refl (a : Heap) : a.StaysIn a := fun _ _ e => e

section
variable {X : Addr → Prop} {g h g' h' g'' h'' : Heap}
theorem GrowX.refl (S : g.StaysIn h) : GrowX X g h g h := ⟨fun _ _ e => e, S, fun _ _ _ e => e, fun _ e => e, fun a o e n => by rw [e] at n; cases n⟩
theorem GrowX.trans (x : GrowX X g h g' h') (y : GrowX X g' h' g'' h'') : GrowX X g h g'' h'' where
  gg := staysIn_trans x.gg y.gg
  gh := y.gh
  hh := fun a o n e => y.hh a o n (x.hh a o n e)
  al := fun a e => y.al a (x.al a e)
  fr := fun a o e n => by
    cases q : g'.get? a with
    | some o' => exact x.fr a o' q n
    | none =>
      have := y.fr a o e q
      apply Classical.byContradiction
      intro hn
      exact x.al a hn this
theorem GrowX.wide {Y : Addr → Prop} (x : GrowX X g h g' h') (hy : ∀ a, X a → Y a) : GrowX Y g h g' h' :=
  ⟨x.gg, x.gh, fun a o n e => x.hh a o (fun q => n (hy a q)) e, x.al, x.fr⟩
theorem GrowX.off (x : GrowX X g h g' h') {a : Addr} {o : Obj} (n : g.get? a = none) (e : h.get? a = some o) : g'.get? a = none := by
  cases q : g'.get? a with
  | none => rfl
  | some o' => have := x.fr a o' q n; rw [e] at this; cases this
theorem Grow.keep (x : Grow g h g' h') : h.StaysIn h' := fun a o e => x.hh a o (fun q => q) e

/-- after a step that keeps all: freeze what is new, but what M names -/
theorem grow_of (M : Addr → Prop) (S : g.StaysIn h) (k : h.StaysIn h') : ∃ g', Grow g h g' h' ∧ ∀ a o, h'.get? a = some o → h.get? a = none → ¬ M a → g'.get? a = some o := by
  obtain ⟨g', v1, v2, v3⟩ := view h' (fun a => g.get? a ≠ none ∨ (h.get? a = none ∧ ¬ M a))
  refine ⟨g', ⟨fun a o e => v2 a o (.inl (by rw [e]; nofun)) (k a o (S a o e)), v1, fun a o _ e => k a o e, fun a e => ?_, fun a o e n => ?_⟩, fun a o e n m => v2 a o (.inr ⟨n, m⟩) e⟩
  · cases q : h.get? a with
    | none => exact absurd q e
    | some o => rw [k a o q]; nofun
  · rcases v3 a o e with q | q
    · exact absurd n q
    · exact q.1
/-- the same where X may have turned -/
theorem growX_of (M : Addr → Prop) (S : g.StaysIn h) (k : ∀ a o, ¬ X a → h.get? a = some o → h'.get? a = some o) (al : ∀ a, h.get? a ≠ none → h'.get? a ≠ none) (off : ∀ a o, X a → g.get? a ≠ some o) :
    ∃ g', GrowX X g h g' h' ∧ ∀ a o, h'.get? a = some o → h.get? a = none → ¬ M a → g'.get? a = some o := by
  obtain ⟨g', v1, v2, v3⟩ := view h' (fun a => g.get? a ≠ none ∨ (h.get? a = none ∧ ¬ M a))
  refine ⟨g', ⟨fun a o e => v2 a o (.inl (by rw [e]; nofun)) (k a o (fun q => off a o q e) (S a o e)), v1, k, al, fun a o e n => ?_⟩, fun a o e n m => v2 a o (.inr ⟨n, m⟩) e⟩
  rcases v3 a o e with q | q
  · exact absurd n q
  · exact q.1

theorem get_none_size (h : Heap) : h.get? h.objs.size = none := Heap.get?_none_of_le (Nat.le_refl _)
theorem staysIn_push (h : Heap) (o : Obj) : h.StaysIn (h.push o) := fun _ _ e => Heap.get?_push_of_some _ e

theorem grow_push (S : g.StaysIn h) (o : Obj) (hf : o.isFreed = false) : ∃ g', Grow g h g' (h.push o) ∧ g'.get? h.objs.size = some o := by
  obtain ⟨g', G, k⟩ := grow_of (fun _ => False) S (staysIn_push h o)
  exact ⟨g', G, k _ _ (Heap.get?_push_size _ hf) (get_none_size h) fun q => q⟩
theorem grow_push_mut (S : g.StaysIn h) (o : Obj) : Grow g h g (h.push o) :=
  ⟨fun _ _ e => e, fun a o e => Heap.get?_push_of_some _ (S a o e), fun a o _ e => Heap.get?_push_of_some _ e, fun a e => by
    cases q : h.get? a with
    | none => exact absurd q e
    | some o' => rw [Heap.get?_push_of_some _ q]; nofun, fun a o e n => by rw [e] at n; cases n⟩
end

/-! data -/
noncomputable def Rd (g : Heap) (v : Value) (d : PyData) : Prop := ∃ as, Reads g v d as
noncomputable def RdAll (g : Heap) (vs : List Value) (ds : List PyData) : Prop := vs.length = ds.length ∧ ∀ (i : Nat) v d, vs[i]? = some v → ds[i]? = some d → Rd g v d

section
variable {g g' : Heap} {v : Value} {d : PyData} {vs ws : List Value} {ds es : List PyData}
theorem Rd.mono (x : Rd g v d) (k : g.StaysIn g') : Rd g' v d := let ⟨as, r⟩ := x; ⟨as, Reads.keeps k r⟩
theorem RdAll.mono (x : RdAll g vs ds) (k : g.StaysIn g') : RdAll g' vs ds := ⟨x.1, fun i v d a b => (x.2 i v d a b).mono k⟩
theorem RdAll.nil : RdAll g [] [] := ⟨rfl, fun i v d a _ => by simp at a⟩
theorem RdAll.cons (x : Rd g v d) (y : RdAll g vs ds) : RdAll g (v :: vs) (d :: ds) := by
  refine ⟨by simp [y.1], fun i u e a b => ?_⟩
  cases i with
  | zero => simp at a b; subst a b; exact x
  | succ i => simp at a b; exact y.2 i u e a b
theorem RdAll.head (x : RdAll g (v :: vs) (d :: ds)) : Rd g v d := x.2 0 v d rfl rfl
theorem RdAll.tail (x : RdAll g (v :: vs) (d :: ds)) : RdAll g vs ds := ⟨by simpa using x.1, fun i u e a b => x.2 (i + 1) u e (by simpa using a) (by simpa using b)⟩
theorem RdAll.toReads : ∀ {vs : List Value} {ds : List PyData}, RdAll g vs ds → ∃ as, ReadsAll g vs ds as
  | [], [], _ => ⟨_, .nil⟩
  | [], _ :: _, x => by simp [RdAll] at x
  | _ :: _, [], x => by simp [RdAll] at x
  | _ :: _, _ :: _, x => let ⟨_, r⟩ := x.head; let ⟨_, s⟩ := x.tail.toReads; ⟨_, .cons r s⟩
theorem RdAll.ofReads : ∀ {vs : List Value} {ds : List PyData} {as : List Addr}, ReadsAll g vs ds as → RdAll g vs ds
  | _, _, _, .nil => .nil
  | _, _, _, .cons r s => .cons ⟨_, r⟩ (RdAll.ofReads s)
theorem RdAll.append (x : RdAll g vs ds) (y : RdAll g ws es) : RdAll g (vs ++ ws) (ds ++ es) := by
  refine ⟨by simp [x.1, y.1], fun i u e a b => ?_⟩
  by_cases hi : i < vs.length
  · rw [List.getElem?_append_left hi] at a
    rw [List.getElem?_append_left (by rw [← x.1]; exact hi)] at b
    exact x.2 i u e a b
  · rw [List.getElem?_append_right (by omega)] at a
    rw [List.getElem?_append_right (by rw [← x.1]; omega), ← x.1] at b
    exact y.2 _ u e a b
theorem RdAll.snoc (x : RdAll g vs ds) (y : Rd g v d) : RdAll g (vs ++ [v]) (ds ++ [d]) := x.append (.cons y .nil)
theorem RdAll.take (x : RdAll g vs ds) (n : Nat) : RdAll g (vs.take n) (ds.take n) := by
  refine ⟨by simp [x.1], fun i u e a b => ?_⟩
  rw [List.getElem?_take] at a b
  split at a
  · rename_i h; rw [if_pos h] at b; exact x.2 i u e a b
  · cases a
theorem RdAll.drop (x : RdAll g vs ds) (n : Nat) : RdAll g (vs.drop n) (ds.drop n) := by
  refine ⟨by simp [x.1], fun i u e a b => ?_⟩
  rw [List.getElem?_drop] at a b
  exact x.2 _ u e a b
theorem RdAll.get (x : RdAll g vs ds) {i : Nat} {d : PyData} (h : ds[i]? = some d) : ∃ v, vs[i]? = some v ∧ Rd g v d := by
  have hl : i < ds.length := (List.getElem?_eq_some_iff.mp h).1
  have hv : i < vs.length := by rw [x.1]; exact hl
  exact ⟨vs[i], by simp [hv], x.2 i _ d (by simp [hv]) h⟩
theorem RdAll.getv (x : RdAll g vs ds) {i : Nat} {v : Value} (h : vs[i]? = some v) : ∃ d, ds[i]? = some d ∧ Rd g v d := by
  have hl : i < vs.length := (List.getElem?_eq_some_iff.mp h).1
  have hv : i < ds.length := by rw [← x.1]; exact hl
  exact ⟨ds[i], by simp [hv], x.2 i v _ h (by simp [hv])⟩
theorem RdAll.reverse (x : RdAll g vs ds) : RdAll g vs.reverse ds.reverse := by
  refine ⟨by simp [x.1], fun i u e a b => ?_⟩
  have h1 : i < vs.length := by have := (List.getElem?_eq_some_iff.mp a).1; simpa using this
  have h2 : i < ds.length := by rw [← x.1]; exact h1
  rw [List.getElem?_reverse h1] at a
  rw [List.getElem?_reverse h2, ← x.1] at b
  exact x.2 _ u e a b
theorem Rd.list {a : Addr} (hl : g.IsList a vs.toArray) (x : RdAll g vs ds) : Rd g (.ref a) (.list ds) := by
  obtain ⟨o, ho, hc, n, hd⟩ := hl
  obtain ⟨as, r⟩ := x.toReads
  exact ⟨_, .list ho hc hd (by simpa using r)⟩
theorem Rd.tuple {a : Addr} (hl : g.IsTuple a vs.toArray) (x : RdAll g vs ds) : Rd g (.ref a) (.tuple ds) := by
  obtain ⟨o, ho, hc, n, hd⟩ := hl
  obtain ⟨as, r⟩ := x.toReads
  exact ⟨_, .tuple ho hc hd (by simpa using r)⟩
theorem Rd.list_inv (x : Rd g v (.list ds)) : ∃ a vs, v = .ref a ∧ g.IsList a vs.toArray ∧ RdAll g vs ds := by
  obtain ⟨as, r⟩ := x
  cases r with
  | list ho hc hd hr => exact ⟨_, _, rfl, ⟨_, ho, hc, _, by simpa using hd⟩, .ofReads hr⟩
theorem Rd.tuple_inv (x : Rd g v (.tuple ds)) : ∃ a vs, v = .ref a ∧ g.IsTuple a vs.toArray ∧ RdAll g vs ds := by
  obtain ⟨as, r⟩ := x
  cases r with
  | tuple ho hc hd hr => exact ⟨_, _, rfl, ⟨_, ho, hc, _, by simpa using hd⟩, .ofReads hr⟩
theorem Rd.int (i : Int) (t : Tok) : Rd g (.int i t) (.int i) := ⟨_, .int i t⟩
theorem Rd.bool (b : Bool) : Rd g (.bool b) (.bool b) := ⟨_, .bool b⟩
theorem Rd.str (x : Str) (t : Tok) : Rd g (.str x t) (.str x) := ⟨_, .str x t⟩
theorem Rd.int_inv {i : Int} (x : Rd g v (.int i)) : ∃ t, v = .int i t := by obtain ⟨_, r⟩ := x; cases r; exact ⟨_, rfl⟩
theorem Rd.str_inv {i : Str} (x : Rd g v (.str i)) : ∃ t, v = .str i t := by obtain ⟨_, r⟩ := x; cases r; exact ⟨_, rfl⟩
theorem Rd.bool_inv {i : Bool} (x : Rd g v (.bool i)) : v = .bool i := by obtain ⟨_, r⟩ := x; cases r; rfl
end

/-! what the top laid -/
noncomputable abbrev KF (w : World) : Frag := Mine.hd.heap_39 w.params

structure Ws where
  w : World
  mg : Str → Option Value
  mb : Str → Option Value

structure Wd (ω : Ws) (g : Heap) : Prop where
  kin : (KF ω.w).In g
  gl : Heap.Ns g mainGlobals ω.mg
  bl : Heap.Ns g builtinsNs ω.mb
  bt : ∀ x : Str, x ≠ "__name__" → ω.mb x = bootBuiltins x
  lim : Heap.NoLimit g
  hd : CodeHd g 109 105
  bm : Heap.BuiltinsAt g ω.mg 105

section
variable {ω : Ws} {g g' h : Heap}
theorem Wd.mono (W : Wd ω g) (k : g.StaysIn g') : Wd ω g' := ⟨W.kin.keeps k, W.gl.keeps k, W.bl.keeps k, W.bt, W.lim.keeps k, W.hd.keeps k, W.bm.keeps k⟩

variable {M : Model} {A : Around} {E : Value → Shared → Prop} {env : Env} {x : Str} {v : Value} {s : Shared} {pos : Pos} {Q : Value → Shared → Prop}
theorem Wd.ldG (W : Wd ω g) (S : g.StaysIn s.heap) (q : Q v s) (e : nsIn (KF ω.w) mainGlobals x = some (some v) := by rfl) (hg : env.globals = mainGlobals := by rfl)
    (hk : env.scope.kind = .function := by rfl) (hx : env.kindOf x = some .globalImplicit := by rfl) (hd : (x == ("__debug__" : Str)) = false := by decide) :
    wpAny M A (eval (.Name x pos) env) Q E s :=
  Name_function_global hk hx (loadGlobal_global (env := env) (by rw [hg]; exact W.gl.keeps S) (mg_of W.kin W.gl e) q) hd
theorem Wd.ldB (W : Wd ω g) (S : g.StaysIn s.heap) (q : Q v s) (hv : bootBuiltins x = some v) (e : nsIn (KF ω.w) mainGlobals x = some none := by rfl) (hg : env.globals = mainGlobals := by rfl) (hb : env.builtins = builtinsNs := by rfl)
    (hk : env.scope.kind = .function := by rfl) (hx : env.kindOf x = some .globalImplicit := by rfl) (hn : x ≠ "__name__" := by decide) (hd : (x == ("__debug__" : Str)) = false := by decide) :
    wpAny M A (eval (.Name x pos) env) Q E s :=
  Name_function_global hk hx (loadGlobal_builtin (env := env) (by rw [hg]; exact W.gl.keeps S) (mg_none_of W.kin W.gl e) (by rw [hb]; exact W.bl.keeps S) ((W.bt x hn).trans hv) q) hd
end

/-! a frame -/
noncomputable def upd (vm : Str → Option Value) (x : Str) (v : Value) : Str → Option Value := fun y => if y = x then some v else vm y

structure Fm (ω : Ws) (g : Heap) (env : Env) (vm : Str → Option Value) (h : Heap) : Prop where
  wd : Wd ω g
  sub : g.StaysIn h
  ns : ∃ m, h.Ns env.locals m ∧ ∀ x v, env.kindOf x = some .local → vm x = some v → m x = some v
  cell : ∀ n c, env.cells.lookup n = some c → h.IsCell c (vm n)
  inj : ∀ n n' c, env.cells.lookup n = some c → env.cells.lookup n' = some c → n = n'
  offL : g.get? env.locals = none
  offC : ∀ n c, env.cells.lookup n = some c → env.kindOf n = some .cell → g.get? c = none
  inF : ∀ n c, env.cells.lookup n = some c → env.kindOf n ≠ some .cell → g.IsCell c (vm n)

theorem ns_ne_cell {h : Heap} {L c : Addr} {m : Str → Option Value} {v : Option Value} (n : h.Ns L m) (k : h.IsCell c v) : c ≠ L := by
  obtain ⟨o, es, ep, ho, hd, _⟩ := n
  obtain ⟨o', ho', hd'⟩ := k
  rintro rfl
  rw [ho] at ho'; cases ho'
  rw [hd] at hd'; cases hd'
theorem ns_ne_list {h : Heap} {L c : Addr} {m : Str → Option Value} {v : Array Value} (n : h.Ns L m) (k : h.IsList c v) : c ≠ L := by
  obtain ⟨o, es, ep, ho, hd, _⟩ := n
  obtain ⟨o', ho', _, _, hd'⟩ := k
  rintro rfl
  rw [ho] at ho'; cases ho'
  rw [hd] at hd'; cases hd'
theorem cell_ne_list {h : Heap} {L c : Addr} {m : Option Value} {v : Array Value} (n : h.IsCell L m) (k : h.IsList c v) : c ≠ L := by
  obtain ⟨o, ho, hd⟩ := n
  obtain ⟨o', ho', _, _, hd'⟩ := k
  rintro rfl
  rw [ho] at ho'; cases ho'
  rw [hd] at hd'; cases hd'

/-- the objects that the frame stores into -/
noncomputable def Own (env : Env) (a : Addr) : Prop := a = env.locals ∨ ∃ n, env.cells.lookup n = some a ∧ env.kindOf n = some .cell
/-- only the frame's own objects may differ -/
noncomputable def FrOnly (env : Env) (h h' : Heap) : Prop := ∀ a, ¬ Own env a → h'.get? a = h.get? a

section
variable {prog : Program} {ω : Ws} {M : Model} {A : Around} {E : Value → Shared → Prop} {g h : Heap} {env : Env} {vm : Str → Option Value} {x : Str} {v : Value} {gn : Array GenState} {dr : Drawn} {tk : Nat} {os : OsState}

theorem Fm.ne_locals (F : Fm ω g env vm h) {n : Str} {c : Addr} (e : env.cells.lookup n = some c) : c ≠ env.locals :=
  let ⟨_, hn, _⟩ := F.ns; ns_ne_cell hn (F.cell n c e)

theorem Fm.grow {X : Addr → Prop} {g' h' : Heap} (F : Fm ω g env vm h) (G : GrowX X g h g' h') (hO : ∀ a, Own env a → ¬ X a) : Fm ω g' env vm h' where
  wd := F.wd.mono G.gg
  sub := G.gh
  ns := let ⟨m, ⟨o, es, ep, ho, r⟩, q⟩ := F.ns; ⟨m, ⟨o, es, ep, G.hh _ _ (hO _ (.inl rfl)) ho, r⟩, q⟩
  cell := fun n c e => by
    by_cases hk : env.kindOf n = some .cell
    · obtain ⟨o, ho, hd⟩ := F.cell n c e
      exact ⟨o, G.hh _ _ (hO _ (.inr ⟨n, e, hk⟩)) ho, hd⟩
    · exact ((F.inF n c e hk).keeps G.gg).keeps G.gh
  inj := F.inj
  offL := let ⟨_, ⟨_, _, _, ho, _⟩, _⟩ := F.ns; G.off F.offL ho
  offC := fun n c e hk => let ⟨_, ho, _⟩ := F.cell n c e; G.off (F.offC n c e hk) ho
  inF := fun n c e hk => (F.inF n c e hk).keeps G.gg
theorem Fm.grow0 {g' h' : Heap} (F : Fm ω g env vm h) (G : Grow g h g' h') : Fm ω g' env vm h' := F.grow G fun _ _ q => q

theorem Fm.ldL {pos : Pos} {s : Shared} {Q : Value → Shared → Prop} (F : Fm ω g env vm s.heap) (hv : vm x = some v) (q : Q v s) (hk : env.scope.kind = .function := by rfl) (hx : env.kindOf x = some .local := by rfl)
    (hd : (x == ("__debug__" : Str)) = false := by decide) : wpAny M A (eval (.Name x pos) env) Q E s := by
  obtain ⟨m, hn, e⟩ := F.ns
  exact wpAny_Name (wpAny_loadName_local hk hx hn (e x v hx hv) q) hd
theorem Fm.ldC {pos : Pos} {s : Shared} {c : Addr} {Q : Value → Shared → Prop} (F : Fm ω g env vm s.heap) (hv : vm x = some v) (q : Q v s) (hk : env.scope.kind = .function := by rfl) (hx : env.kindOf x = some .cell := by rfl) (hc : env.cells.lookup x = some c := by rfl)
    (hd : (x == ("__debug__" : Str)) = false := by decide) : wpAny M A (eval (.Name x pos) env) Q E s :=
  wpAny_Name (wpAny_loadName_cell hk hx hc (hv ▸ F.cell x c hc) q) hd
theorem Fm.ldF {pos : Pos} {s : Shared} {c : Addr} {Q : Value → Shared → Prop} (F : Fm ω g env vm s.heap) (hv : vm x = some v) (q : Q v s) (hk : env.scope.kind = .function := by rfl) (hx : env.kindOf x = some .free := by rfl) (hc : env.cells.lookup x = some c := by rfl)
    (hd : (x == ("__debug__" : Str)) = false := by decide) (hn : (x == ("__classdict__" : Str)) = false := by decide) : wpAny M A (eval (.Name x pos) env) Q E s :=
  wpAny_Name (wpAny_loadName_free hk hx hc (hv ▸ F.cell x c hc) q hn) hd

theorem Fm.stL {Q : Unit → Shared → Prop} (F : Fm ω g env vm h) (q : ∀ h', Fm ω g env (upd vm x v) h' → FrOnly env h h' → Q () ⟨h', gn, dr, tk + 1, os⟩)
    (hk : env.scope.kind = .function := by rfl) (hx : env.kindOf x = some .local := by rfl) (hnc : env.cells.lookup x = none := by rfl) : wpAny M A (storeName env x v) Q E ⟨h, gn, dr, tk, os⟩ := by
  obtain ⟨m, hn, e⟩ := F.ns
  refine wpAny_storeName_local hx hn (fun h' hn' hs => q h' ⟨F.wd, fun a o ho => (hs.2 a fun e => by rw [e, F.offL] at ho; cases ho).trans (F.sub a o ho), ⟨_, hn', fun y u hy hu => ?_⟩, fun n c hc => ?_, F.inj, F.offL, F.offC, fun n c hc hkk => ?_⟩ fun a ha => hs.2 a fun q => ha (.inl q)) (by rw [hk]; rfl)
  · unfold upd at hu; by_cases hyx : y = x
    · simpa [hyx] using hu
    · simp only [hyx, if_false] at hu ⊢; exact e y u hy hu
  · have hne : n ≠ x := fun q => by rw [q, hnc] at hc; cases hc
    have := (F.cell n c hc).sameBut hs (F.ne_locals hc)
    unfold upd; rw [if_neg hne]; exact this
  · have hne : n ≠ x := fun q => by rw [q, hnc] at hc; cases hc
    unfold upd; rw [if_neg hne]; exact F.inF n c hc hkk
theorem Fm.stC {c : Addr} {Q : Unit → Shared → Prop} (F : Fm ω g env vm h) (q : ∀ h', Fm ω g env (upd vm x v) h' → FrOnly env h h' → Q () ⟨h', gn, dr, tk, os⟩)
    (hk : env.scope.kind = .function := by rfl) (hx : env.kindOf x = some .cell := by rfl) (hc : env.cells.lookup x = some c := by rfl) : wpAny M A (storeName env x v) Q E ⟨h, gn, dr, tk, os⟩ := by
  obtain ⟨m, hn, e⟩ := F.ns
  refine wpAny_storeName_cell hk hx hc (F.cell x c hc) (fun h' hc' hs => q h' ⟨F.wd, fun a o ho => (hs.2 a fun e => by rw [e, F.offC x c hc hx] at ho; cases ho).trans (F.sub a o ho), ⟨m, hn.sameBut hs (Ne.symm (F.ne_locals hc)), fun y u hy hu => ?_⟩, fun n c' h' => ?_, F.inj, F.offL, F.offC, fun n c' h' hkk => ?_⟩ fun a ha => hs.2 a fun q => ha (.inr ⟨x, q ▸ hc, hx⟩))
  · have : y ≠ x := fun q => by rw [q, hx] at hy; cases hy
    unfold upd at hu; rw [if_neg this] at hu; exact e y u hy hu
  · by_cases hne : n = x
    · subst hne; rw [hc] at h'; cases h'; unfold upd; simpa using hc'
    · unfold upd; rw [if_neg hne]
      exact (F.cell n c' h').sameBut hs fun q => hne (F.inj n x c (q ▸ h') hc)
  · have hne : n ≠ x := fun q => hkk (by rw [q]; exact hx)
    unfold upd; rw [if_neg hne]; exact F.inF n c' h' hkk
end

section
variable {ω : Ws} {M : Model} {A : Around} {E : Value → Shared → Prop} {g h : Heap} {env : Env} {vm : Str → Option Value} {x : Str} {v : Value} {gn : Array GenState} {dr : Drawn} {tk : Nat} {os : OsState}
/-- a store, the names' map a variable -/
theorem Fm.stLV {Q : Unit → Shared → Prop} (F : Fm ω g env vm h) (q : ∀ h', let vm' := upd vm x v; Fm ω g env vm' h' → FrOnly env h h' → Q () ⟨h', gn, dr, tk + 1, os⟩)
    (hk : env.scope.kind = .function := by rfl) (hx : env.kindOf x = some .local := by rfl) (hnc : env.cells.lookup x = none := by rfl) : wpAny M A (storeName env x v) Q E ⟨h, gn, dr, tk, os⟩ := F.stL q hk hx hnc
theorem Fm.stCV {c : Addr} {Q : Unit → Shared → Prop} (F : Fm ω g env vm h) (q : ∀ h', let vm' := upd vm x v; Fm ω g env vm' h' → FrOnly env h h' → Q () ⟨h', gn, dr, tk, os⟩)
    (hk : env.scope.kind = .function := by rfl) (hx : env.kindOf x = some .cell := by rfl) (hc : env.cells.lookup x = some c := by rfl) : wpAny M A (storeName env x v) Q E ⟨h, gn, dr, tk, os⟩ := F.stC q hk hx hc
end

section
variable {ω : Ws} {M : Model} {A : Around} {E : Value → Shared → Prop} {g : Heap} {vm : Str → Option Value} {env : Env} {x : Str} {v : Value} {s : Shared} {pos : Pos} {Q : Value → Shared → Prop}
theorem Fm.ldG (F : Fm ω g env vm s.heap) (q : Q v s) (e : nsIn (KF ω.w) mainGlobals x = some (some v) := by rfl) (hg : env.globals = mainGlobals := by rfl)
    (hk : env.scope.kind = .function := by rfl) (hx : env.kindOf x = some .globalImplicit := by rfl) (hd : (x == ("__debug__" : Str)) = false := by decide) :
    wpAny M A (eval (.Name x pos) env) Q E s := F.wd.ldG F.sub q e hg hk hx hd
theorem Fm.ldB (F : Fm ω g env vm s.heap) (q : Q v s) (hv : bootBuiltins x = some v) (e : nsIn (KF ω.w) mainGlobals x = some none := by rfl) (hg : env.globals = mainGlobals := by rfl) (hb : env.builtins = builtinsNs := by rfl)
    (hk : env.scope.kind = .function := by rfl) (hx : env.kindOf x = some .globalImplicit := by rfl) (hn : x ≠ "__name__" := by decide) (hd : (x == ("__debug__" : Str)) = false := by decide) :
    wpAny M A (eval (.Name x pos) env) Q E s := F.wd.ldB F.sub q hv e hg hb hk hx hn hd
end

end Mine
end

/-! text Call -/
section
open PySem PySem.W PyProof.Rows PySem.Spec PySem.Calls
set_option Elab.async false
set_option maxRecDepth 100000
namespace Mine

theorem bindL_eq (k : Str → Option NameKind) : ∀ (binds : List (Str × Value)) (m : Str → Option Value) (x : Str), k x = some .local → bindL k binds m x = (binds.reverse.lookup x).or (m x)
  | [], m, x, _ => by simp [bindL]
  | (n, v) :: r, m, x, hx => by
    unfold bindL
    rw [bindL_eq k r _ x hx, List.reverse_cons, List.lookup_append]
    by_cases hn : x = n
    · subst hn; simp [hx]
    · have : (x == n) = false := by simp [hn]
      split
      · simp [hn, List.lookup_cons, this]
      · simp [List.lookup_cons, this]
theorem bindC_eq (k : Str → Option NameKind) : ∀ (binds : List (Str × Value)) (m : Str → Option Value) (x : Str), k x ≠ some .local → bindC k binds m x = (binds.reverse.lookup x).or (m x)
  | [], m, x, _ => by simp [bindC]
  | (n, v) :: r, m, x, hx => by
    unfold bindC
    rw [bindC_eq k r _ x hx, List.reverse_cons, List.lookup_append]
    by_cases hn : x = n
    · subst hn; simp [hx]
    · have : (x == n) = false := by simp [hn]
      split
      · simp [List.lookup_cons, this]
      · simp [hn, List.lookup_cons, this]

section
variable {prog : Program} {ω : Ws} {A : Around} {E : Value → Shared → Prop} {g h : Heap} {gn : Array GenState} {dr : Drawn} {tk : Nat} {os : OsState} {Q : Value → Shared → Prop}
  {name qual : Str} {params : Arguments} {body : List Stmt} {scope : Scope} {dV kV doc pm cdv ct oc : Value} {an od : Option Addr} {osl : Array (Option Value)} {f : Addr} {args : List Value} {binds : List (Str × Value)}

abbrev envF (qual : Str) (scope : Scope) (L f : Addr) (cdv : Value) : Env := envX qual scope L f cdv (cellsFrom (L + 1) scope.names [])

/-- a call of a def of the top -/
theorem code_def1 {R : Result → Shared → Prop} (W : Wd ω g) (S : g.StaysIn h) (hroom : A.depth < recursionLimit)
    (hk : (KF ω.w).lookup f = some ⟨oc, od, .func (fnX name qual params body scope [] dV kV doc pm an cdv ct), osl⟩) (hcd : codeIn (KF ω.w) cdv qual = true)
    (hbind : bindArgs (fnX name qual params body scope [] dV kV doc pm an cdv ct) ⟨args, []⟩ = pure binds)
    (hkind : (binds.all fun y => scope.names.lookup y.1 == some .local || scope.names.lookup y.1 == some .cell) = true)
    (hkc : ∀ y ∈ scope.names, y.2 = .cell → scope.names.lookup y.1 = some .cell)
    (hq : ∀ L h₁ tk₁, Fm ω g (envF qual scope L f cdv) (fun x => binds.reverse.lookup x) h₁ → h.StaysIn h₁ → (∀ a, Own (envF qual scope L f cdv) a → h.get? a = none) →
      wpAny (model prog ω.w) (A.deeper (envF qual scope L f cdv)) (execs body (envF qual scope L f cdv))
        (fun fl s' => R (.ok (.ret (match fl with | .ret v => v | _ => .none))) s')
        (fun e s' => wpAny (model prog ω.w) (A.deeper (envF qual scope L f cdv)) (leaving (envF qual scope L f cdv) e) (fun _ s'' => R (.error e) s'') (fun e' s'' => R (.error e') s'') s') ⟨h₁, gn, dr, tk₁, os⟩)
    (hco : scope.isCoroutine = false := by rfl) (hgen : scope.isGenerator = false := by rfl) (hkf : scope.kind = .function := by rfl) :
    codeAny (model prog ω.w) A (.call (.ref f) ⟨args, []⟩) R ⟨h, gn, dr, tk, os⟩ := by
  have X := W.kin.keeps S
  refine codeAny_call_function hroom (X _ _ hk) rfl hco hgen rfl (codeRec_of X hcd) ?_
  rw [hbind]
  refine wpAny_pure (wpAny_newFunctionEnv_cells hkf (kindsX hkind _) fun env he s' x => ?_)
  subst he
  refine ⟨(W.lim.keeps S).keeps x.toInCall.keep, codeAny_func ?_⟩
  obtain ⟨h₁, tk', rfl, hkp⟩ := x.done
  have hkp' : h.StaysIn h₁ := hkp
  have hne : ∀ n c, (cellsFrom (h.objs.size + 1) scope.names []).lookup n = some c → h.get? c = none := fun n c e => Heap.get?_none_of_le (Nat.le_of_lt (x.above n c (mem_of_lookup e)))
  have isc : ∀ (names : List (Str × NameKind)) (n0 : Nat) (acc : List (Str × Addr)) (n : Str) (c : Addr), (n, c) ∈ cellsFrom n0 names acc → (n, c) ∈ acc ∨ (n, NameKind.cell) ∈ names := by
    intro names
    induction names with
    | nil => intro n0 acc n c hm; exact .inl hm
    | cons p r ih =>
      obtain ⟨y, kd⟩ := p
      intro n0 acc n c hm
      unfold cellsFrom at hm
      split at hm
      · rename_i hkd
        rcases ih _ _ _ _ hm with q | q
        · rcases List.mem_cons.mp q with q | q
          · cases q; have : kd = .cell := by simpa using hkd
            subst this; exact .inr (.head _)
          · exact .inl q
        · exact .inr (.tail _ q)
      · rcases ih _ _ _ _ hm with q | q
        · exact .inl q
        · exact .inr (.tail _ q)
  have kn : ∀ n c, (cellsFrom (h.objs.size + 1) scope.names []).lookup n = some c → scope.names.lookup n = some .cell := fun n c e => by
    rcases isc _ _ _ _ _ (mem_of_lookup e) with q | q
    · cases q
    · exact hkc _ q rfl
  refine hq h.objs.size h₁ tk' ⟨W, staysIn_trans S hkp', ⟨_, x.toInCall.ns, fun y u hy hu => ?_⟩, fun n c e => ?_, fun n n' c e e' => name_of_addr x.apart (mem_of_lookup e) (mem_of_lookup e'), ?_, fun n c e _ => ?_, fun n c e hnk => ?_⟩ hkp' (fun a ow => ow.elim (fun e => e ▸ get_none_size h) fun ⟨n, e, _⟩ => hne n a e)
  · refine (bindL_eq _ _ _ _ hy).trans ?_; rw [show binds.reverse.lookup y = some u from hu]; rfl
  · have hc := x.cell n c e
    have hkn := kn n c e
    have e3 := bindC_eq (envF qual scope h.objs.size f cdv).kindOf binds (fun _ => none) n (by show scope.names.lookup n ≠ _; rw [hkn]; decide)
    have e2 : ((binds.reverse.lookup n).or none) = binds.reverse.lookup n := by cases binds.reverse.lookup n <;> rfl
    have hc' : h₁.IsCell c (bindC (envF qual scope h.objs.size f cdv).kindOf binds (fun _ => none) n) := hc
    rw [e3, e2] at hc'
    exact hc'
  · cases q : g.get? h.objs.size with
    | none => rfl
    | some o => have := S _ _ q; rw [get_none_size] at this; cases this
  · cases q : g.get? c with
    | none => rfl
    | some o => have := S _ _ q; rw [hne n c e] at this; cases this
  · exact absurd (kn n c e) hnk
/-- a call of a def of the top -/
theorem call_def (W : Wd ω g) (S : g.StaysIn h) (hroom : A.depth < recursionLimit)
    (hk : (KF ω.w).lookup f = some ⟨oc, od, .func (fnX name qual params body scope [] dV kV doc pm an cdv ct), osl⟩) (hcd : codeIn (KF ω.w) cdv qual = true)
    (hbind : bindArgs (fnX name qual params body scope [] dV kV doc pm an cdv ct) ⟨args, []⟩ = pure binds)
    (hkind : (binds.all fun y => scope.names.lookup y.1 == some .local || scope.names.lookup y.1 == some .cell) = true)
    (hkc : ∀ y ∈ scope.names, y.2 = .cell → scope.names.lookup y.1 = some .cell)
    (hq : ∀ L h₁ tk₁, Fm ω g (envF qual scope L f cdv) (fun x => binds.reverse.lookup x) h₁ → h.StaysIn h₁ → (∀ a, Own (envF qual scope L f cdv) a → h.get? a = none) →
      wpAny (model prog ω.w) (A.deeper (envF qual scope L f cdv)) (execs body (envF qual scope L f cdv))
        (fun fl s' => Q (match fl with | .ret v => v | _ => .none) s')
        (fun e s' => wpAny (model prog ω.w) (A.deeper (envF qual scope L f cdv)) (leaving (envF qual scope L f cdv) e) (fun _ s'' => E e s'') (fun e' s'' => E e' s'') s') ⟨h₁, gn, dr, tk₁, os⟩)
    (hco : scope.isCoroutine = false := by rfl) (hgen : scope.isGenerator = false := by rfl) (hkf : scope.kind = .function := by rfl) :
    wpAny (model prog ω.w) A (call (.ref f) args) Q E ⟨h, gn, dr, tk, os⟩ :=
  wpAny_call (code_def1 W S hroom hk hcd hbind hkind hkc hq hco hgen hkf)
end

/-- room -/
structure Rm (A : Around) (n : Nat) : Prop where
  hd : A.handled = none
  dp : A.depth + n ≤ 900
  un : A.units + 10 * n ≤ 9000
section
variable {A : Around} {n k : Nat}
theorem Rm.deeper (R : Rm A n) (env : Env) (h : k + 1 ≤ n) : Rm (A.deeper env) k := ⟨R.hd, by have := R.dp; simp only [Around.deeper]; omega, by have := R.un; simp only [Around.deeper]; omega⟩
theorem Rm.in1 (R : Rm A n) (h : k + 1 ≤ n) : Rm A.in1 k := ⟨R.hd, by have := R.dp; simp only [Around.in1]; omega, by have := R.un; simp only [Around.in1]; omega⟩
theorem Rm.le (R : Rm A n) (h : k ≤ n) : Rm A k := ⟨R.hd, by have := R.dp; omega, by have := R.un; omega⟩
theorem Rm.room (R : Rm A n) : A.depth < recursionLimit := by have := R.dp; simp only [recursionLimit]; omega
theorem Rm.units (R : Rm A n) (h : 64 ≤ 10 * n + 800) : A.units + 64 < cLine := by have := R.un; rw [cLine_is]; omega
theorem Rm.unit (R : Rm A n) : A.units < cLine := by have := R.un; rw [cLine_is]; omega
end

/-- the posts are variables -/
theorem enter {α : Type} {M : Model} {A : Around} {t : Sem α} {Q : α → Shared → Prop} {E : Value → Shared → Prop} {s : Shared} (h : ∀ (Q' : α → Shared → Prop) (E' : Value → Shared → Prop), (∀ v s', Q v s' → Q' v s') → (∀ v s', E v s' → E' v s') → wpAny M A t Q' E' s) : wpAny M A t Q E s := h Q E (fun _ _ x => x) (fun _ _ x => x)
section
variable {prog : Program} {ω : Ws} {A : Around} {E : Value → Shared → Prop} {g h : Heap} {gn : Array GenState} {dr : Drawn} {tk : Nat} {os : OsState} {Q : Value → Shared → Prop}
  {name qual : Str} {params : Arguments} {body : List Stmt} {scope : Scope} {dV kV doc pm cdv ct oc : Value} {an od : Option Addr} {osl : Array (Option Value)} {f : Addr} {args : List Value} {binds : List (Str × Value)} {n k : Nat}
/-- a call of a def: around, frame, posts are variables -/
theorem call_defV (W : Wd ω g) (S : g.StaysIn h) (R : Rm A n) 
    (hk : (KF ω.w).lookup f = some ⟨oc, od, .func (fnX name qual params body scope [] dV kV doc pm an cdv ct), osl⟩) (hcd : codeIn (KF ω.w) cdv qual = true)
    (hbind : bindArgs (fnX name qual params body scope [] dV kV doc pm an cdv ct) ⟨args, []⟩ = pure binds)
    (hkind : (binds.all fun y => scope.names.lookup y.1 == some .local || scope.names.lookup y.1 == some .cell) = true)
    (hkc : ∀ y ∈ scope.names, y.2 = .cell → scope.names.lookup y.1 = some .cell) (hn : k + 1 ≤ n)
    (hq : ∀ L h₁ tk₁ A' E' Q', let env := envF qual scope L f cdv; let vm : Str → Option Value := fun x => binds.reverse.lookup x; (∀ v s', Q v s' → Q' (Flow.ret v) s') → Rm A' k → (∀ fs, A.frames = some fs → A'.frames = some (env :: fs)) → Fm ω g env vm h₁ → h.StaysIn h₁ → (∀ a, Own env a → h.get? a = none) →
      wpAny (model prog ω.w) A' (execs body env) Q' E' ⟨h₁, gn, dr, tk₁, os⟩)
    (hco : scope.isCoroutine = false := by rfl) (hgen : scope.isGenerator = false := by rfl) (hkf : scope.kind = .function := by rfl) :
    wpAny (model prog ω.w) A (call (.ref f) args) Q E ⟨h, gn, dr, tk, os⟩ :=
  call_def W S R.room hk hcd hbind hkind hkc (fun L h₁ tk₁ F hk hO => hq L h₁ tk₁ _ _ _ (fun _ _ x => x) (R.deeper _ hn) (fun _ e => Around.frames_deeper e) F hk hO) hco hgen hkf
end
section
variable {prog : Program} {ω : Ws} {A : Around} {E : Value → Shared → Prop} {g h : Heap} {gn : Array GenState} {dr : Drawn} {tk : Nat} {os : OsState} {Q : Value → Shared → Prop}
  {name qual : Str} {params : Arguments} {body : List Stmt} {scope : Scope} {dV kV doc pm cdv ct oc : Value} {an od : Option Addr} {osl : Array (Option Value)} {f : Addr} {args : List Value} {binds : List (Str × Value)} {n k : Nat}
/-- the same for a def that raises -/
theorem call_defR (W : Wd ω g) (S : g.StaysIn h) (R : Rm A n) 
    (hk : (KF ω.w).lookup f = some ⟨oc, od, .func (fnX name qual params body scope [] dV kV doc pm an cdv ct), osl⟩) (hcd : codeIn (KF ω.w) cdv qual = true)
    (hbind : bindArgs (fnX name qual params body scope [] dV kV doc pm an cdv ct) ⟨args, []⟩ = pure binds)
    (hkind : (binds.all fun y => scope.names.lookup y.1 == some .local || scope.names.lookup y.1 == some .cell) = true)
    (hkc : ∀ y ∈ scope.names, y.2 = .cell → scope.names.lookup y.1 = some .cell) (hn : k + 1 ≤ n)
    (hq : ∀ L h₁ tk₁ A' E' Q', let env := envF qual scope L f cdv; let vm : Str → Option Value := fun x => binds.reverse.lookup x; (∀ v s', Q v s' → Q' (Flow.ret v) s') → (∀ e s', wpAny (model prog ω.w) A' (leaving env e) (fun _ s'' => E e s'') (fun e' s'' => E e' s'') s' → E' e s') → Rm A' k → (∀ fs, A.frames = some fs → A'.frames = some (env :: fs)) → Fm ω g env vm h₁ → h.StaysIn h₁ → (∀ a, Own env a → h.get? a = none) →
      wpAny (model prog ω.w) A' (execs body env) Q' E' ⟨h₁, gn, dr, tk₁, os⟩)
    (hco : scope.isCoroutine = false := by rfl) (hgen : scope.isGenerator = false := by rfl) (hkf : scope.kind = .function := by rfl) :
    wpAny (model prog ω.w) A (call (.ref f) args) Q E ⟨h, gn, dr, tk, os⟩ :=
  call_def W S R.room hk hcd hbind hkind hkc (fun L h₁ tk₁ F hk hO => hq L h₁ tk₁ _ _ _ (fun _ _ x => x) (fun _ _ x => x) (R.deeper _ hn) (fun _ e => Around.frames_deeper e) F hk hO) hco hgen hkf
end
end Mine
end

/-! text Loop -/
section
open PySem PySem.W PyProof.Rows PySem.Spec PySem.Calls
set_option Elab.async false
set_option maxRecDepth 100000
set_option linter.unusedVariables false
namespace Mine

section
variable {X : Addr → Prop} {g h g' h' h'' : Heap}
theorem GrowX.step (x : GrowX X g h g' h') (S : g'.StaysIn h'') (hh : ∀ a o, ¬ X a → h.get? a ≠ none → h'.get? a = some o → h''.get? a = some o) (al : ∀ a, h.get? a ≠ none → h'.get? a ≠ none → h''.get? a ≠ none) : GrowX X g h g' h'' :=
  ⟨x.gg, S, fun a o n e => hh a o n (by rw [e]; nofun) (x.hh a o n e), fun a n => al a n (x.al a n), x.fr⟩
theorem Grow.same (S : g.StaysIn h) (k : h.StaysIn h') : GrowX X g h g h' :=
  ⟨fun _ _ e => e, staysIn_trans S k, fun a o _ e => k a o e, fun a n => by
    cases q : h.get? a with
    | none => exact absurd q n
    | some o => rw [k a o q]; nofun, fun a o e n => by rw [e] at n; cases n⟩
theorem none_of_sub (S : g.StaysIn h) {a : Addr} (e : h.get? a = none) : g.get? a = none := by
  cases q : g.get? a with
  | none => rfl
  | some o => rw [S a o q] at e; cases e
/-- freeze one object more -/
theorem GrowX.freeze (x : GrowX X g h g' h') {D : Addr} {o : Obj} (e : h'.get? D = some o) (n : h.get? D = none) : ∃ g'', GrowX X g h g'' h' ∧ g'.StaysIn g'' ∧ g''.get? D = some o ∧ ∀ a p, g''.get? a = some p → a ≠ D → g'.get? a = some p := by
  obtain ⟨g'', v1, v2, v3⟩ := view h' (fun a => g'.get? a ≠ none ∨ a = D)
  have s : g'.StaysIn g'' := fun a p q => v2 a p (.inl (by rw [q]; nofun)) (x.gh a p q)
  have back : ∀ a p, g''.get? a = some p → a ≠ D → g'.get? a = some p := fun a p q hne => by
    rcases v3 a p q with r | r
    · cases r' : g'.get? a with
      | none => exact absurd r' r
      | some p' => have := x.gh a p' r'; rw [v1 a p q] at this; rw [Option.some.inj this]
    · exact absurd r hne
  refine ⟨g'', ⟨staysIn_trans x.gg s, v1, x.hh, x.al, fun a p q r => ?_⟩, s, v2 D o (.inr rfl) e, back⟩
  by_cases hD : a = D
  · rw [hD]; exact n
  · exact x.fr a p (back a p q hD) r
end

noncomputable def OwnK (env : Env) (K : Addr → Prop) (a : Addr) : Prop := Own env a ∨ K a
theorem Fm.own_alive {ω : Ws} {g h : Heap} {env : Env} {vm : Str → Option Value} (F : Fm ω g env vm h) {a : Addr} (o : Own env a) : h.get? a ≠ none := by
  rcases o with rfl | ⟨n, e, _⟩
  · obtain ⟨m, ⟨o, _, _, ho, _⟩, _⟩ := F.ns; rw [ho]; nofun
  · obtain ⟨o, ho, _⟩ := F.cell n a e; rw [ho]; nofun
theorem Fm.own_off {ω : Ws} {g h : Heap} {env : Env} {vm : Str → Option Value} (F : Fm ω g env vm h) {a : Addr} (o : Own env a) : g.get? a = none := by
  rcases o with rfl | ⟨n, e, hk⟩
  · exact F.offL
  · exact F.offC n a e hk
theorem FrOnly.other {env : Env} {h h' : Heap} (x : FrOnly env h h') {a : Addr} (n : ¬ Own env a) : h'.get? a = h.get? a := x a n
/-- the frame at another heap that keeps the frame's objects -/
theorem Fm.at {ω : Ws} {g g' h h' : Heap} {env : Env} {vm : Str → Option Value} (F : Fm ω g env vm h) (gg : g.StaysIn g') (S : g'.StaysIn h') (k : ∀ a o, Own env a → h.get? a = some o → h'.get? a = some o) (off : ∀ a, Own env a → g'.get? a = none) : Fm ω g' env vm h' where
  wd := F.wd.mono gg
  sub := S
  ns := let ⟨m, ⟨o, es, ep, ho, r⟩, q⟩ := F.ns; ⟨m, ⟨o, es, ep, k _ _ (.inl rfl) ho, r⟩, q⟩
  cell := fun n c e => by
    by_cases hk : env.kindOf n = some .cell
    · obtain ⟨o, ho, hd⟩ := F.cell n c e
      exact ⟨o, k _ _ (.inr ⟨n, e, hk⟩) ho, hd⟩
    · exact ((F.inF n c e hk).keeps gg).keeps S
  inj := F.inj
  offL := off _ (.inl rfl)
  offC := fun n c e hk => off _ (.inr ⟨n, e, hk⟩)
  inF := fun n c e hk => (F.inF n c e hk).keeps gg

/-! sources -/
structure It (prog : Program) (w : World) (A : Around) (g : Heap) (xv : Value) (n : Nat) (P : Nat → Value → Prop) : Prop where
  go : ∀ {h : Heap} {gn : Array GenState} {dr : Drawn} {tk : Nat} {os : OsState} {Q : Value → Shared → Prop} {E : Value → Shared → Prop}, g.StaysIn h →
    (∀ I fp wr St h' tk', Walks prog w A I fp wr n P St → St 0 h' → (∀ i k, St i k → ∀ b ∈ wr, k.get? b ≠ none) → h.StaysIn h' → (∀ b ∈ wr, h.get? b = none) → (∀ b ∈ fp, b ∈ wr ∨ ∃ o, g.get? b = some o) → Q (.ref I) ⟨h', gn, dr, tk', os⟩) →
    wpAny (model prog w) A (pyIter xv) Q E ⟨h, gn, dr, tk, os⟩

section
variable {prog : Program} {w : World} {A : Around} {g : Heap}
theorem It.list {a : Addr} {items : Array Value} (hh : A.handled = none) (hl : g.IsList a items) : It prog w A g (.ref a) items.size (fun i v => items[i]? = some v) where
  go := fun {h gn dr tk os Q E} S q => by
    have hl' : h.IsList a items := hl.at fun o e => S a o e
    obtain ⟨o, ho, _⟩ := id hl'
    obtain ⟨o₂, ho₂, _⟩ := id hl
    have hne : a ≠ h.objs.size := Nat.ne_of_lt (Heap.lt_size ho)
    refine wpAny_pyIter_list hl' (q h.objs.size [h.objs.size, a] [h.objs.size] _ _ tk (Walks.list hh h.objs.size a hne items) ⟨⟨_, Heap.get?_push_size _ rfl, rfl, rfl⟩, hl'.at fun o e => Heap.get?_push_of_some _ e⟩ ?_ (staysIn_push _ _) ?_ ?_)
    · rintro i k ⟨⟨oi, hoi, _⟩, _⟩ b hb
      rw [List.mem_singleton.mp hb, hoi]; nofun
    · intro b hb; rw [List.mem_singleton.mp hb]; exact get_none_size h
    · intro b hb
      rcases List.mem_cons.mp hb with e | hb
      · exact .inl (by simp [e])
      · rw [List.mem_singleton.mp hb]; exact .inr ⟨_, ho₂⟩
theorem It.tuple {a : Addr} {items : Array Value} (hh : A.handled = none) (hl : g.IsTuple a items) : It prog w A g (.ref a) items.size (fun i v => items[i]? = some v) where
  go := fun {h gn dr tk os Q E} S q => by
    have hl' : h.IsTuple a items := hl.at fun o e => S a o e
    obtain ⟨o, ho, _⟩ := id hl'
    obtain ⟨o₂, ho₂, _⟩ := id hl
    have hne : a ≠ h.objs.size := Nat.ne_of_lt (Heap.lt_size ho)
    refine wpAny_pyIter_tuple hl' (q h.objs.size [h.objs.size, a] [h.objs.size] _ _ tk (Walks.tuple hh h.objs.size a hne items) ⟨⟨_, Heap.get?_push_size _ rfl, rfl, rfl⟩, hl'.at fun o e => Heap.get?_push_of_some _ e⟩ ?_ (staysIn_push _ _) ?_ ?_)
    · rintro i k ⟨⟨oi, hoi, _⟩, _⟩ b hb
      rw [List.mem_singleton.mp hb, hoi]; nofun
    · intro b hb; rw [List.mem_singleton.mp hb]; exact get_none_size h
    · intro b hb
      rcases List.mem_cons.mp hb with e | hb
      · exact .inl (by simp [e])
      · rw [List.mem_singleton.mp hb]; exact .inr ⟨_, ho₂⟩
theorem It.range {r : Addr} {a b c : Int} {t u v : Tok} {n : Nat} (hh : A.handled = none) (hr : IsRange g r a b c t u v) (hs : Builtin.Range.small a b c = true) (hn : (Builtin.Range.rangeSize a b c : Int) = n) :
    It prog w A g (.ref r) n (fun i v => ∃ t, v = .int (a + i * c) t) where
  go := fun {h gn dr tk os Q E} S q => by
    refine wpAny_pyIter_range (S _ _ hr) hs (q h.objs.size [h.objs.size] [h.objs.size] _ _ tk (Walks.range hh h.objs.size a c n) ?_ ?_ (staysIn_push _ _) ?_ ?_)
    · have := Heap.get?_push_size h (o := { cls := .type "range_iterator", data := .fields #[rawInt a, rawInt (Builtin.Range.rangeSize a b c), rawInt c] }) rfl
      show _ = _
      rw [this, hn]; simp
    · intro i k st b hb
      rw [List.mem_singleton.mp hb, show k.get? h.objs.size = _ from st]; nofun
    · intro b hb; rw [List.mem_singleton.mp hb]; exact get_none_size h
    · intro b hb; exact .inl hb
end

section
variable {prog : Program} {ω : Ws} {A : Around} {E : Value → Shared → Prop} {g h : Heap} {gn : Array GenState} {dr : Drawn} {tk : Nat} {os : OsState} {env : Env} {vm : Str → Option Value} {x : Str} {px : Pos} {body : List Stmt}
  {n : Nat} {P : Nat → Value → Prop} {xv : Value} {Q : Flow → Shared → Prop}
/-- a for loop whose names and heap are spoken of together -/
theorem for_loopV (IT : It prog ω.w A g xv n P) (F : Fm ω g env vm h) (K : Addr → Prop) (V : Nat → (Str → Option Value) → Heap → Heap → Prop)
    (hK : ∀ a, K a → h.get? a ≠ none ∧ ¬ Own env a ∧ g.get? a = none)
    (stab : ∀ i vm' g' h₁ h₂, V i vm' g' h₁ → (∀ a o, K a → h₁.get? a = some o → h₂.get? a = some o) → V i vm' g' h₂)
    (hV : V 0 vm g h)
    (turn : ∀ i v vm' g' h' tk' E', i < n → P i v → V i vm' g' h' → Fm ω g' env (upd vm' x v) h' → GrowX (OwnK env K) g h g' h' →
      wpAny (model prog ω.w) A (execs body env) (fun f s' => match f with
        | .next | .cont => ∃ vm'' g'' h'' tk'', s' = ⟨h'', gn, dr, tk'', os⟩ ∧ V (i + 1) vm'' g'' h'' ∧ Fm ω g'' env vm'' h'' ∧ GrowX (OwnK env K) g' h' g'' h''
        | .brk => Q .next s'
        | .ret u => Q (.ret u) s') E' ⟨h', gn, dr, tk', os⟩)
    (done : ∀ vm' g' h' tk', V n vm' g' h' → Fm ω g' env vm' h' → GrowX (OwnK env K) g h g' h' → Q .next ⟨h', gn, dr, tk', os⟩)
    (hk : env.scope.kind = .function := by rfl) (hx : env.kindOf x = some .local := by rfl) (hnc : env.cells.lookup x = none := by rfl) :
    wpAny (model prog ω.w) A (pyIter xv) (fun it s₂ => codeAny (model prog ω.w) A (.forLoop (.Name x px) it body [] env) (fun r s' => match r with | .ok f => Q f s' | .error e => cameBackBy (model prog ω.w) A env E e s') s₂) E ⟨h, gn, dr, tk, os⟩ := by
  refine IT.go F.sub fun I fp wr St h₁ tk₁ W st live k₁ hwr hfp => ?_
  have ownWr : ∀ a, a ∈ wr → ¬ Own env a := fun a ha o => F.own_alive o (hwr a ha)
  have kWr : ∀ a, a ∈ wr → ¬ K a := fun a ha o => (hK a o).1 (hwr a ha)
  let Inv1 : Nat → Shared → Prop := fun k s' => ∃ i vm' g' h' tk', s' = ⟨h', gn, dr, tk', os⟩ ∧ St i h' ∧ V i vm' g' h' ∧ Fm ω g' env vm' h' ∧ GrowX (OwnK env K) g h g' h' ∧ (∀ b ∈ wr, g'.get? b = none) ∧ i ≤ n ∧ k = n + 1 - i
  refine codeAny_forLoop Inv1 ?_ (n + 1)
    ⟨0, vm, g, h₁, tk₁, rfl, st, stab _ _ _ _ _ hV fun a o _ e => k₁ a o e, F.grow0 (Grow.same F.sub k₁), Grow.same F.sub k₁, fun b hb => none_of_sub F.sub (hwr b hb), Nat.zero_le _, rfl⟩
  rintro k s' ⟨i, vm', g', h', tk', rfl, st', hV', F', G', off', hi, rfl⟩
  have sub₂ : ∀ h₂ : Heap, (∀ b o, b ∉ wr → h'.get? b = some o → h₂.get? b = some o) → g'.StaysIn h₂ := fun h₂ k₂ a o e => k₂ a o (fun q => by rw [off' a q] at e; cases e) (F'.sub a o e)
  have fm₂ : ∀ h₂ : Heap, (∀ b o, b ∉ wr → h'.get? b = some o → h₂.get? b = some o) → Fm ω g' env vm' h₂ := fun h₂ k₂ => F'.at (staysIn_refl _) (sub₂ h₂ k₂) (fun a o ow e => k₂ a o (fun q => ownWr a q ow) e) fun a ow => F'.own_off ow
  have gr₂ : ∀ h₂ : Heap, (∀ b o, b ∉ wr → h'.get? b = some o → h₂.get? b = some o) → GrowX (OwnK env K) g h g' h₂ := fun h₂ k₂ =>
    G'.step (sub₂ h₂ k₂) (fun a o _ n e => k₂ a o (fun q => n (hwr a q)) e) fun a n e => by
      cases q : h'.get? a with
      | none => exact absurd q e
      | some o => rw [k₂ a o (fun q => n (hwr a q)) q]; nofun
  by_cases hlt : i < n
  · refine W.item i _ _ _ hlt st' fun v h₂ tk₂ hP st₂ k₂ => ?_
    have F₂ := fm₂ h₂ k₂
    refine wpAny_assign_Name (F₂.stL (fun h₃ F₃ fo => ?_) hk hx hnc)
    have oth : ∀ a, ¬ Own env a → h₃.get? a = h₂.get? a := fun a na => fo.other na
    have G₃ : GrowX (OwnK env K) g h g' h₃ := (gr₂ h₂ k₂).step F₃.sub (fun a o na _ e => (oth a fun q => na (.inl q)).trans e) fun a _ e => by
      by_cases ow : Own env a
      · exact F₃.own_alive ow
      · rw [oth a ow]; exact e
    have J₃ : V i vm' g' h₃ := stab _ _ _ _ _ hV' fun a o ka e => (oth a (hK a ka).2.1).trans (k₂ a o (fun q => kWr a q ka) e)
    have st₃ : St (i + 1) h₃ := W.frame _ _ _ st₂ fun b hb o e => by
      rcases hfp b hb with q | ⟨o', q⟩
      · exact (oth b (ownWr b q)).trans e
      · exact (oth b fun ow => by rw [F.own_off ow] at q; cases q).trans e
    have live₃ := live _ _ st₃
    refine wpAny_mono (turn i v vm' g' h₃ _ _ hlt hP J₃ F₃ G₃) (fun f s₄ h₄ => ?_) fun _ _ e => e
    have fin : (∃ vm'' g'' h'' tk'', s₄ = ⟨h'', gn, dr, tk'', os⟩ ∧ V (i + 1) vm'' g'' h'' ∧ Fm ω g'' env vm'' h'' ∧ GrowX (OwnK env K) g' h₃ g'' h'') → ∃ m, m < n + 1 - i ∧ ∃ i vm' g' h' tk', s₄ = ⟨h', gn, dr, tk', os⟩ ∧ St i h' ∧ V i vm' g' h' ∧ Fm ω g' env vm' h' ∧ GrowX (OwnK env K) g h g' h' ∧ (∀ b ∈ wr, g'.get? b = none) ∧ i ≤ n ∧ m = n + 1 - i := by
      rintro ⟨vm'', g'', h'', tk'', rfl, hV'', F'', G''⟩
      refine ⟨n + 1 - (i + 1), by omega, i + 1, vm'', g'', h'', tk'', rfl, ?_, hV'', F'', G₃.trans G'', fun b hb => ?_, hlt, rfl⟩
      · refine W.frame _ _ _ st₃ fun b hb o e => ?_
        rcases hfp b hb with q | ⟨o', q⟩
        · exact G''.hh b o (fun y => y.elim (ownWr b q) (kWr b q)) e
        · have e1 := G₃.gg b o' q
          have e2 := F₃.sub b o' e1
          rw [e] at e2
          rw [Option.some.inj e2]
          exact F''.sub b o' (G''.gg b o' e1)
      · cases q : g''.get? b with
        | none => rfl
        | some o => exact absurd (G''.fr b o q (off' b hb)) (live₃ b hb)
    cases f with
    | ret u => exact h₄
    | brk => exact h₄
    | next => exact fin h₄
    | cont => exact fin h₄
  · have hin : i = n := by omega
    subst hin
    refine W.done _ _ _ st' fun h₂ tk₂ k₂ => wpAny_execs_nil ?_
    exact done vm' g' h₂ tk₂ (stab _ _ _ _ _ hV' fun a o ka e => k₂ a o (fun q => kWr a q ka) e) (fm₂ h₂ k₂) (gr₂ h₂ k₂)
end

/-! a for loop -/
section
variable {prog : Program} {ω : Ws} {A : Around} {E : Value → Shared → Prop} {g h : Heap} {gn : Array GenState} {dr : Drawn} {tk : Nat} {os : OsState} {env : Env} {vm : Str → Option Value} {x : Str} {px : Pos} {body : List Stmt}
  {n : Nat} {P : Nat → Value → Prop} {xv : Value} {Q : Flow → Shared → Prop}

theorem for_loop (IT : It prog ω.w A g xv n P) (F : Fm ω g env vm h) (K : Addr → Prop) (V : Nat → (Str → Option Value) → Prop) (J : Nat → Heap → Heap → Prop)
    (hK : ∀ a, K a → h.get? a ≠ none ∧ ¬ Own env a ∧ g.get? a = none)
    (stab : ∀ i g' h₁ h₂, J i g' h₁ → (∀ a o, K a → h₁.get? a = some o → h₂.get? a = some o) → J i g' h₂)
    (hV : V 0 vm) (hJ : J 0 g h)
    (turn : ∀ i v vm' g' h' tk' E', i < n → P i v → V i vm' → J i g' h' → Fm ω g' env (upd vm' x v) h' → GrowX (OwnK env K) g h g' h' →
      wpAny (model prog ω.w) A (execs body env) (fun f s' => match f with
        | .next | .cont => ∃ vm'' g'' h'' tk'', s' = ⟨h'', gn, dr, tk'', os⟩ ∧ V (i + 1) vm'' ∧ J (i + 1) g'' h'' ∧ Fm ω g'' env vm'' h'' ∧ GrowX (OwnK env K) g' h' g'' h''
        | .brk => Q .next s'
        | .ret u => Q (.ret u) s') E' ⟨h', gn, dr, tk', os⟩)
    (done : ∀ vm' g' h' tk', V n vm' → J n g' h' → Fm ω g' env vm' h' → GrowX (OwnK env K) g h g' h' → Q .next ⟨h', gn, dr, tk', os⟩)
    (hk : env.scope.kind = .function := by rfl) (hx : env.kindOf x = some .local := by rfl) (hnc : env.cells.lookup x = none := by rfl) :
    wpAny (model prog ω.w) A (pyIter xv) (fun it s₂ => codeAny (model prog ω.w) A (.forLoop (.Name x px) it body [] env) (fun r s' => match r with | .ok f => Q f s' | .error e => cameBackBy (model prog ω.w) A env E e s') s₂) E ⟨h, gn, dr, tk, os⟩ := by
  refine for_loopV IT F K (fun i vm' g' h' => V i vm' ∧ J i g' h') hK (fun i vm' g' h₁ h₂ a k => ⟨a.1, stab i g' h₁ h₂ a.2 k⟩) ⟨hV, hJ⟩ (fun i v vm' g' h' tk' E' hi hp a F' G' => wpAny_mono (turn i v vm' g' h' tk' E' hi hp a.1 a.2 F' G') (fun f s' q => ?_) fun _ _ e => e) (fun vm' g' h' tk' a F' G' => done vm' g' h' tk' a.1 a.2 F' G') hk hx hnc
  cases f with
  | ret u => exact q
  | brk => exact q
  | next => obtain ⟨a, b, c, d, e, v, j, r⟩ := q; exact ⟨a, b, c, d, e, ⟨v, j⟩, r⟩
  | cont => obtain ⟨a, b, c, d, e, v, j, r⟩ := q; exact ⟨a, b, c, d, e, ⟨v, j⟩, r⟩
end

end Mine
end

/-! text Comp -/
section
open PySem PySem.W PyProof.Rows PySem.Spec PySem.Calls
set_option Elab.async false
set_option maxRecDepth 100000
set_option linter.unusedVariables false
namespace Mine

/-- what a comprehension has gathered -/
inductive Coll (T : Nat → Value → Heap → Prop) (keep : Nat → Bool) (g : Heap) : Nat → List Value → Prop
  | nil : Coll T keep g 0 []
  | skip {i ys} : Coll T keep g i ys → keep i = false → Coll T keep g (i + 1) ys
  | snoc {i ys y} : Coll T keep g i ys → keep i = true → T i y g → Coll T keep g (i + 1) (ys ++ [y])
theorem Coll.mono {T : Nat → Value → Heap → Prop} {keep : Nat → Bool} {g g' : Heap} (hm : ∀ i y g g', g.StaysIn g' → T i y g → T i y g') (k : g.StaysIn g') {i : Nat} {ys : List Value} (c : Coll T keep g i ys) : Coll T keep g' i ys := by
  induction c with
  | nil => exact .nil
  | skip _ h ih => exact .skip ih h
  | snoc _ h t ih => exact .snoc ih h (hm _ _ _ _ k t)
theorem Coll.length_le {T : Nat → Value → Heap → Prop} {keep : Nat → Bool} {g : Heap} {i : Nat} {ys : List Value} (c : Coll T keep g i ys) : ys.length ≤ i := by
  induction c with
  | nil => simp
  | skip _ _ ih => omega
  | snoc _ _ _ ih => simp; omega
/-- data, all kept -/
theorem Coll.rdAll {d : Nat → PyData} {g : Heap} {n : Nat} {ys : List Value} (c : Coll (fun i y g => Rd g y (d i)) (fun _ => true) g n ys) : RdAll g ys ((List.range n).map d) := by
  induction c with
  | nil => exact .nil
  | skip _ h _ => cases h
  | snoc _ _ t ih => rw [List.range_succ, List.map_append]; exact ih.snoc t
/-- data, some kept -/
theorem Coll.rdFilter {d : Nat → PyData} {keep : Nat → Bool} {g : Heap} {n : Nat} {ys : List Value} (c : Coll (fun i y g => Rd g y (d i)) keep g n ys) : RdAll g ys (((List.range n).filter keep).map d) := by
  induction c with
  | nil => exact .nil
  | skip _ h ih => rw [List.range_succ, List.filter_append, List.map_append]; simpa [h] using ih
  | snoc _ h t ih => rw [List.range_succ, List.filter_append, List.map_append]; simpa [h] using ih.snoc t
theorem Coll.all {T : Nat → Value → Heap → Prop} {g : Heap} {n : Nat} {ys : List Value} (c : Coll T (fun _ => true) g n ys) : ys.length = n ∧ ∀ i y, ys[i]? = some y → T i y g := by
  induction c with
  | nil => exact ⟨rfl, fun i y e => by simp at e⟩
  | skip _ h _ => cases h
  | @snoc i ys y _ _ t ih =>
    refine ⟨by simp [ih.1], fun j u e => ?_⟩
    by_cases hj : j < ys.length
    · rw [List.getElem?_append_left hj] at e; exact ih.2 j u e
    · rw [List.getElem?_append_right (by omega)] at e
      have hj' := (List.getElem?_eq_some_iff.mp e).1
      simp at hj'
      have : j = i := by omega
      subst this
      rw [ih.1] at e
      simp at e; subst e; exact t

/-- what the comprehension's block sees: the cells it closes over, its variable -/
noncomputable def vmF (vm : Str → Option Value) (cl : List (Str × Addr)) : Str → Option Value := fun y => match cl.lookup y with | some _ => vm y | none => none

section
variable {prog : Program} {ω : Ws} {A : Around} {E : Value → Shared → Prop} {g h : Heap} {gn : Array GenState} {dr : Drawn} {tk : Nat} {os : OsState} {env : Env} {vm : Str → Option Value} {x : Str} {px : Pos}
  {n : Nat} {P : Nat → Value → Prop} {xv : Value} {Q : Value → Shared → Prop} {elt iter : Expr} {ifs : List Expr} {scope : Scope} {pos : Pos} {cl : List (Str × Addr)}

/-- the tests, then the element -/
noncomputable def CompTurn (prog : Program) (w : World) (A : Around) (cenv : Env) (gn : Array GenState) (dr : Drawn) (os : OsState) (K : Addr → Prop) (ifs : List Expr) (elt : Expr) (b : Bool) (J' : Heap → Heap → Prop) (T' : Value → Heap → Prop) (g h : Heap) (tk : Nat) (E' : Value → Shared → Prop) : Prop :=
  wpAny (model prog w) A (forIn ifs true fun c r => if r = true then do let ok ← PySem.isTrue c cenv (eval c cenv); pure (ForInStep.yield ok) else pure (ForInStep.yield r))
    (fun ok s₃ => ok = b ∧ ∃ g₃ h₃ tk₃, s₃ = ⟨h₃, gn, dr, tk₃, os⟩ ∧ GrowX K g h g₃ h₃ ∧ match b with
      | true => wpAny (model prog w) A (eval elt cenv) (fun y s₄ => ∃ g₄ h₄ tk₄, s₄ = ⟨h₄, gn, dr, tk₄, os⟩ ∧ GrowX K g₃ h₃ g₄ h₄ ∧ J' g₄ h₄ ∧ T' y g₄) E' s₃
      | false => J' g₃ h₃) E' ⟨h, gn, dr, tk, os⟩

theorem comp_blockF (IT : It prog ω.w A g xv n P) (F : Fm ω g env vm h) (K : Addr → Prop) (J : Nat → Heap → Heap → Prop) (T : Nat → Value → Heap → Prop) (keep : Nat → Bool) {use : Option (Value → Sem Unit)}
    (hn : n ≤ 100000)
    (hm : ∀ i y g g', g.StaysIn g' → T i y g → T i y g')
    (hK : ∀ a, K a → h.get? a ≠ none ∧ g.get? a = none)
    (hF : ∀ i g' h', J i g' h' → GrowX K g h g' h' → Fm ω g' env vm h')
    (stab : ∀ i g₁ g₂ h₁ h₂, g₁.StaysIn g₂ → J i g₁ h₁ → (∀ a o, K a → h₁.get? a = some o → h₂.get? a = some o) → J i g₂ h₂)
    (hJ : J 0 g h) (hxcl : cl.lookup x = none) (hsub : ∀ m c, cl.lookup m = some c → env.cells.lookup m = some c ∧ env.kindOf m = some .cell)
    (hcl : (cl.all fun p => (relabel scope env).names.lookup p.1 == some .cell) = true)
    (hcell : ∀ y ∈ scope.names, y.2 ≠ .cell) (hkind : scope.kind = .function) (hx : scope.names.lookup x = some .local)
    (turn : ∀ i v C D g' h' tk', i < n → P i v → J i g' h' → GrowX K g h g' h' → h.get? C = none → Fm ω g' (compEnvC scope cl C env) (upd (vmF vm cl) x v) h' → Fm ω g' env vm h' →
      CompTurn prog ω.w A (compEnvC scope cl C env) gn dr os K ifs elt (keep i) (J (i + 1)) (T i) g' h' tk' (notedBy (model prog ω.w) A (compEnvC scope cl C env) fun e s' => compPost (model prog ω.w) A E use Q (.ref D) C (.error e) s'))
    (done : ∀ C D ys g' h' tk', GrowX K g h g' h' → J n g' h' → h.get? D = none → h.get? C = none → g'.get? C = none → (∃ m, h'.Ns C m) → g'.IsList D ys.toArray → Coll T keep g' n ys → Fm ω g' env vm h' →
      compPost (model prog ω.w) A E use Q (.ref D) C (.ok .next) ⟨h', gn, dr, tk', os⟩) :
    wpAny (model prog ω.w) A (pyIter xv) (fun it s₂ => wpAny (model prog ω.w) A (newList []) (fun acc s₃ =>
      wpAny (model prog ω.w) A (newFunctionEnv scope env.globals cl [] env.qual none .none (some env)) (fun cenv s₄ =>
        codeAny (model prog ω.w) A (.compStart (.ListComp elt [⟨.Name x px, iter, ifs, 0⟩] scope pos) 0 it acc { cenv with scope := relabel scope env }) (compPost (model prog ω.w) A E use Q acc cenv.locals) s₄) E s₃) E s₂) E ⟨h, gn, dr, tk, os⟩ := by
  refine IT.go F.sub fun I fp wr St h₁ tk₁ W st live k₁ hwr hfp => ?_
  refine wpAny_newObj_type (wpAny_newFunctionEnv hcell (by intro y hy; simp at hy) (fun h₂ hns₂ hsb₂ => ?_) hkind)
  dsimp only at hns₂ hsb₂ ⊢
  generalize hH2 : h₁.push { cls := .type "list", dict := none, data := .seq ([] : List Value).toArray } = H2 at hns₂ hsb₂ ⊢
  have kH : h₁.StaysIn H2 := by rw [← hH2]; exact staysIn_push _ _
  have sz : H2.objs.size = h₁.objs.size + 1 := by rw [← hH2, Heap.size_push]
  have hDC : h₁.objs.size ≠ H2.objs.size := by omega
  have kH₂ : H2.StaysIn h₂ := fun a o e => hsb₂.extBut a o (Nat.ne_of_lt (Heap.lt_size e)) (Heap.get?_push_of_some _ e)
  have k₂ : h.StaysIn h₂ := staysIn_trans (staysIn_trans k₁ kH) kH₂
  have dead : ∀ a, h₁.objs.size ≤ a → h.get? a = none := fun a ha => by
    cases q : h.get? a with
    | none => rfl
    | some o => exact absurd (Heap.lt_size (k₁ a o q)) (Nat.not_lt.mpr ha)
  have dead₁ : ∀ a, h₁.objs.size ≤ a → h₁.get? a = none := fun a ha => Heap.get?_none_of_le ha
  have hPL : h₂.PlainList h₁.objs.size #[] := ⟨_, kH₂ _ _ (by rw [← hH2]; exact Heap.get?_push_size _ rfl)⟩
  generalize hD : h₁.objs.size = D at *
  generalize hC : H2.objs.size = C at *
  have hDd : h.get? D = none := dead D (Nat.le_refl _)
  have hCd : h.get? C = none := dead C (by omega)
  have hDw : ∀ a ∈ wr, a ≠ D := fun a ha q => live _ _ st a ha (by rw [q]; exact dead₁ D (Nat.le_refl _))
  have hCw : ∀ a ∈ wr, a ≠ C := fun a ha q => live _ _ st a ha (by rw [q]; exact dead₁ C (by omega))
  have hg0 : ∀ a, h.get? a = none → g.get? a = none := fun a e => none_of_sub F.sub e
  -- what the loop may turn besides K
  have loop : ∀ s₃ : Shared, s₃ = ⟨h₂, gn, dr, tk₁ + ([] : List (Str × Value)).length, os⟩ →
      codeAny (model prog ω.w) A (.compLoop (.ListComp elt [⟨.Name x px, iter, ifs, 0⟩] scope pos) 0 (.ref I) (.ref D) (compEnvC scope cl C env)) (compPost (model prog ω.w) A E use Q (.ref D) C) s₃ := by
    rintro s₃ rfl
    let Inv1 : Nat → Shared → Prop := fun k s' => ∃ i ys g' h' tk' m', s' = ⟨h', gn, dr, tk', os⟩ ∧ St i h' ∧ h'.PlainList D ys.toArray ∧ h'.Ns C m' ∧ Coll T keep g' i ys ∧ J i g' h' ∧ GrowX K g h g' h' ∧ (∀ b ∈ wr, g'.get? b = none) ∧ g'.get? D = none ∧ g'.get? C = none ∧ i ≤ n ∧ k = n + 1 - i
    refine codeAny_compLoop_tests Inv1 ?_ (n + 1)
      ⟨0, [], g, h₂, _, _, rfl, W.frame _ _ _ st fun b hb o e => kH₂ b o (kH b o e), hPL, hns₂, .nil, stab _ _ _ _ _ (staysIn_refl g) hJ fun a o _ e => k₂ a o e, Grow.same F.sub k₂, fun b hb => hg0 b (hwr b hb), hg0 D hDd, hg0 C hCd, Nat.zero_le _, rfl⟩
    rintro k s' ⟨i, ys, g', h', tk', m', rfl, st', hpl', hns', cc', hJ', G', off', offD, offC, hi, rfl⟩
    have F' : Fm ω g' env vm h' := hF _ _ _ hJ' G'
    -- a change outside of what was alive ahead
    have chg : ∀ h₃ : Heap, (∀ b o, h.get? b ≠ none → h'.get? b = some o → h₃.get? b = some o) → (∀ b o, g'.get? b = some o → h₃.get? b = some o) → GrowX K g h g' h₃ := fun h₃ k₃ s₃ =>
      G'.step s₃ (fun a o _ na e => k₃ a o na e) fun a na e => by
        cases q : h'.get? a with
        | none => exact absurd q e
        | some o => rw [k₃ a o na q]; nofun
    by_cases hlt : i < n
    · refine W.item i _ _ _ hlt st' fun v h₃ tk₃ hP st₃ k₃ => ?_
      have s₃ : g'.StaysIn h₃ := fun a o e => k₃ a o (fun q => by rw [off' a q] at e; cases e) (F'.sub a o e)
      have G₃ : GrowX K g h g' h₃ := chg h₃ (fun b o na e => k₃ b o (fun q => na (hwr b q)) e) s₃
      have ns₃ : h₃.Ns C m' := hns'.at' fun o e => k₃ _ o (fun q => hCw _ q rfl) e
      refine wpAny_assign_Name (wpAny_storeName_local (env := compEnvC scope cl C env) (lookup_relabel_local hx) ns₃ (fun h₄ ns₄ hs₄ => ?_) (by show (scope.kind == .class || (scope.kind == .module && C != env.globals)) = false; rw [hkind]; rfl))
      have hs₄' : Heap.SameBut C h₃ h₄ := hs₄
      have s₄ : g'.StaysIn h₄ := fun a o e => (hs₄'.2 a fun q => by rw [q, offC] at e; cases e).trans (s₃ a o e)
      have G₄ : GrowX K g h g' h₄ := G₃.step s₄ (fun a o _ na e => (hs₄'.2 a fun q => na (by rw [q]; exact hCd)).trans e) fun a na e => by rw [hs₄'.2 a fun q => na (by rw [q]; exact hCd)]; exact e
      have J₄ : J i g' h₄ := stab _ _ _ _ _ (staysIn_refl _) hJ' fun a o ka e => (hs₄'.2 a fun q => (hK a ka).1 (by rw [q]; exact hCd)).trans (k₃ a o (fun q => (hK a ka).1 (hwr a q)) e)
      have F₄ : Fm ω g' env vm h₄ := hF _ _ _ J₄ G₄
      have st₄ : St (i + 1) h₄ := W.frame _ _ _ st₃ fun b hb o e => (hs₄'.2 b fun q => by
        rcases hfp b hb with r | ⟨o', r⟩
        · exact hCw b r q
        · rw [q, hg0 C hCd] at r; cases r).trans e
      have pl₄ : h₄.PlainList D ys.toArray := (hpl'.at fun o e => k₃ _ o (fun q => hDw _ q rfl) e).at fun o e => (hs₄'.2 D hDC).trans e
      have live₄ := live _ _ st₄
      have FC : Fm ω g' (compEnvC scope cl C env) (upd (vmF vm cl) x v) h₄ := by
        refine ⟨F₄.wd, s₄, ⟨_, ns₄, fun y u hy hu => ?_⟩, fun m c e => ?_, fun a b c e e' => F.inj a b c (hsub _ _ e).1 (hsub _ _ e').1, offC, fun m c e _ => F₄.offC m c (hsub _ _ e).1 (hsub _ _ e).2, fun m c e hnk => ?_⟩
        · unfold upd at hu
          by_cases hyx : y = x
          · simpa [hyx] using hu
          · simp only [hyx, if_false] at hu
            unfold vmF at hu
            split at hu
            · rename_i c hc
              have := List.all_eq_true.mp hcl (y, c) (mem_of_lookup hc)
              have hy' : (relabel scope env).names.lookup y = some .local := hy
              simp [hy'] at this
            · cases hu
        · have e' : cl.lookup m = some c := e
          have hmx : m ≠ x := fun q => by rw [q, hxcl] at e'; cases e'
          have := F₄.cell m c (hsub _ _ e').1
          unfold upd vmF
          rw [if_neg hmx, e']
          exact this
        · have := List.all_eq_true.mp hcl (m, c) (mem_of_lookup e)
          exact absurd (show (relabel scope env).names.lookup m = some .cell by simpa using this) hnk
      refine wpAny_mono (turn i v C D g' h₄ _ hlt hP J₄ G₄ hCd FC F₄) (fun ok s₅ h₅ => ?_) fun _ _ e => e
      obtain ⟨hok, g₅, h₅, tk₅, rfl, G₅, rest⟩ := h₅
      have offS : ∀ {ga ha gb hb : Heap}, GrowX K ga ha gb hb → (∀ b, ga.get? b = none → ha.get? b ≠ none → gb.get? b = none) := fun {ga ha gb hb} G b e1 e2 => by
        cases q : gb.get? b with
        | none => rfl
        | some o => exact absurd (G.fr b o q e1) e2
      have aliveD : h₄.get? D ≠ none := by obtain ⟨_, e⟩ := pl₄; rw [e]; nofun
      have aliveC : h₄.get? C ≠ none := by obtain ⟨_, _, _, e, _⟩ := ns₄; rw [show h₄.get? C = _ from e]; nofun
      have nKD : ¬ K D := fun q => (hK D q).1 hDd
      have nKC : ¬ K C := fun q => (hK C q).1 hCd
      have nKw : ∀ b ∈ wr, ¬ K b := fun b hb q => (hK b q).1 (hwr b hb)
      have stF : ∀ {ga ha gb hb : Heap} {j : Nat}, g.StaysIn ga → ga.StaysIn ha → GrowX K ga ha gb hb → St j ha → St j hb := fun {ga ha gb hb j} s0 s1 G s => W.frame _ _ _ s fun b hb' o e => by
        rcases hfp b hb' with r | ⟨o', r⟩
        · exact G.hh b o (nKw b r) e
        · have e2 := s1 b o' (s0 b o' r)
          rw [e] at e2; rw [Option.some.inj e2]
          exact G.gh b o' (G.gg b o' (s0 b o' r))
      cases hb : keep i with
      | false =>
        rw [hb] at rest hok
        dsimp only at rest
        rw [hok]
        simp only [Bool.false_eq_true, if_false]
        refine ⟨n + 1 - (i + 1), by omega, i + 1, ys, g₅, h₅, tk₅, _, rfl, stF G₄.gg s₄ G₅ st₄, hpl'.elim fun nn _ => ?_, ns₄.at' fun o e => G₅.hh _ o nKC e, .skip (cc'.mono hm G₅.gg) hb, rest, G₄.trans G₅, fun b hb' => offS G₅ b (off' b hb') (live₄ b hb'), offS G₅ D offD aliveD, offS G₅ C offC aliveC, hlt, rfl⟩
        exact pl₄.at fun o e => G₅.hh _ o nKD e
      | true =>
        rw [hb] at rest hok
        dsimp only at rest
        rw [hok]
        simp only [if_true]
        refine wpAny_mono rest (fun y s₆ h₆ => ?_) fun _ _ e => e
        obtain ⟨g₆, h₆, tk₆, rfl, G₆, J₆, T₆⟩ := h₆
        have off₅D := offS G₅ D offD aliveD
        have off₅C := offS G₅ C offC aliveC
        have al₅D : h₅.get? D ≠ none := G₅.al D aliveD
        have al₅C : h₅.get? C ≠ none := G₅.al C aliveC
        have off₆D := offS G₆ D off₅D al₅D
        have off₆C := offS G₆ C off₅C al₅C
        have off₆w : ∀ b ∈ wr, g₆.get? b = none := fun b hb' => offS G₆ b (offS G₅ b (off' b hb') (live₄ b hb')) (G₅.al b (live₄ b hb'))
        have pl₆ : h₆.PlainList D ys.toArray := (pl₄.at fun o e => G₅.hh _ o nKD e).at fun o e => G₆.hh _ o nKD e
        have hsz : ys.toArray.size ≤ sizeLine := by have := cc'.length_le; rw [sizeLine_eq]; simp; omega
        have G06 : GrowX K g h g₆ h₆ := (G₄.trans G₅).trans G₆
        refine wpAny_list_append_plain (hsz := hsz) pl₆ fun h₇ pl₇ hs₇ => ?_
        have hs₇' : Heap.SameBut D h₆ h₇ := hs₇
        have s₇ : g₆.StaysIn h₇ := fun a o e => (hs₇'.2 a fun q => by rw [q, off₆D] at e; cases e).trans (G₆.gh a o e)
        have ns₇ := ((ns₄.at' fun o e => G₅.hh _ o nKC e).at' fun o e => G₆.hh _ o nKC e).sameBut hs₇' (Ne.symm hDC)
        refine ⟨n + 1 - (i + 1), by omega, i + 1, ys ++ [y], g₆, h₇, _, _, rfl, ?_, by simpa using pl₇, ns₇, .snoc (cc'.mono hm (staysIn_trans G₅.gg G₆.gg)) hb T₆, ?_, ?_, off₆w, off₆D, off₆C, hlt, rfl⟩
        · refine W.frame _ _ _ (stF (staysIn_trans G₄.gg G₅.gg) G₅.gh G₆ (stF G₄.gg s₄ G₅ st₄)) fun b hb' o e => (hs₇'.2 b fun q => ?_).trans e
          rcases hfp b hb' with r | ⟨o', r⟩
          · exact hDw b r q
          · rw [q, hg0 D hDd] at r; cases r
        · exact stab _ _ _ _ _ (staysIn_refl _) J₆ fun a o ka e => (hs₇'.2 a fun q => (hK a ka).1 (by rw [q]; exact hDd)).trans e
        · exact G06.step s₇ (fun a o _ na e => (hs₇'.2 a fun q => na (by rw [q]; exact hDd)).trans e) fun a na e => by rw [hs₇'.2 a fun q => na (by rw [q]; exact hDd)]; exact e
    · have hin : i = n := by omega
      subst hin
      refine W.done _ _ _ st' fun h₃ tk₃ k₃ => ?_
      have s₃ : g'.StaysIn h₃ := fun a o e => k₃ a o (fun q => by rw [off' a q] at e; cases e) (F'.sub a o e)
      have G₃ : GrowX K g h g' h₃ := chg h₃ (fun b o na e => k₃ b o (fun q => na (hwr b q)) e) s₃
      have ns₃ : h₃.Ns C m' := hns'.at' fun o e => k₃ _ o (fun q => hCw _ q rfl) e
      have pl₃ : h₃.PlainList D ys.toArray := hpl'.at fun o e => k₃ _ o (fun q => hDw _ q rfl) e
      obtain ⟨nn, hobj⟩ := pl₃
      obtain ⟨g₄, G₄, sg, hgD, back⟩ := G₃.freeze hobj hDd
      have offC₄ : g₄.get? C = none := by
        cases q : g₄.get? C with
        | none => rfl
        | some o => rw [back C o q (Ne.symm hDC)] at offC; cases offC
      have J₉ : J i g₄ h₃ := stab _ _ _ _ _ sg hJ' fun a o ka e => k₃ a o (fun q => (hK a ka).1 (hwr a q)) e
      exact done C D ys g₄ h₃ tk₃ G₄ J₉ hDd hCd offC₄ ⟨_, ns₃⟩ ⟨_, hgD, rfl, _, rfl⟩ (cc'.mono hm sg) (hF _ _ _ J₉ G₄)
  exact codeAny_compStart_list (loop _ rfl) (W.self 0 _ _ _ (W.frame _ _ _ st fun b hb o e => kH₂ b o (kH b o e)) (loop _ rfl))
theorem comp_block (IT : It prog ω.w A g xv n P) (F : Fm ω g env vm h) (K : Addr → Prop) (J : Nat → Heap → Heap → Prop) (T : Nat → Value → Heap → Prop) (keep : Nat → Bool) {use : Option (Value → Sem Unit)}
    (hn : n ≤ 100000)
    (hm : ∀ i y g g', g.StaysIn g' → T i y g → T i y g')
    (hK : ∀ a, K a → h.get? a ≠ none ∧ ¬ Own env a ∧ g.get? a = none)
    (stab : ∀ i g₁ g₂ h₁ h₂, g₁.StaysIn g₂ → J i g₁ h₁ → (∀ a o, K a → h₁.get? a = some o → h₂.get? a = some o) → J i g₂ h₂)
    (hJ : J 0 g h) (hxcl : cl.lookup x = none) (hsub : ∀ m c, cl.lookup m = some c → env.cells.lookup m = some c ∧ env.kindOf m = some .cell)
    (hcl : (cl.all fun p => (relabel scope env).names.lookup p.1 == some .cell) = true)
    (hcell : ∀ y ∈ scope.names, y.2 ≠ .cell) (hkind : scope.kind = .function) (hx : scope.names.lookup x = some .local)
    (turn : ∀ i v C D g' h' tk', i < n → P i v → J i g' h' → GrowX K g h g' h' → h.get? C = none → Fm ω g' (compEnvC scope cl C env) (upd (vmF vm cl) x v) h' → Fm ω g' env vm h' →
      CompTurn prog ω.w A (compEnvC scope cl C env) gn dr os K ifs elt (keep i) (J (i + 1)) (T i) g' h' tk' (notedBy (model prog ω.w) A (compEnvC scope cl C env) fun e s' => compPost (model prog ω.w) A E use Q (.ref D) C (.error e) s'))
    (done : ∀ C D ys g' h' tk', GrowX K g h g' h' → J n g' h' → h.get? D = none → h.get? C = none → g'.get? C = none → (∃ m, h'.Ns C m) → g'.IsList D ys.toArray → Coll T keep g' n ys → Fm ω g' env vm h' →
      compPost (model prog ω.w) A E use Q (.ref D) C (.ok .next) ⟨h', gn, dr, tk', os⟩) :
    wpAny (model prog ω.w) A (pyIter xv) (fun it s₂ => wpAny (model prog ω.w) A (newList []) (fun acc s₃ =>
      wpAny (model prog ω.w) A (newFunctionEnv scope env.globals cl [] env.qual none .none (some env)) (fun cenv s₄ =>
        codeAny (model prog ω.w) A (.compStart (.ListComp elt [⟨.Name x px, iter, ifs, 0⟩] scope pos) 0 it acc { cenv with scope := relabel scope env }) (compPost (model prog ω.w) A E use Q acc cenv.locals) s₄) E s₃) E s₂) E ⟨h, gn, dr, tk, os⟩ :=
  comp_blockF IT F K J T keep hn hm (fun a ka => ⟨(hK a ka).1, (hK a ka).2.2⟩) (fun _ _ _ _ G => F.grow G fun a ow q => (hK a q).2.1 ow) stab hJ hxcl hsub hcl hcell hkind hx turn done
end

end Mine
end

/-! text Comp2 -/
section
open PySem PySem.W PyProof.Rows PySem.Spec PySem.Calls
set_option Elab.async false
set_option maxRecDepth 100000
set_option linter.unusedVariables false
namespace Mine
section
variable {prog : Program} {ω : Ws} {A : Around} {E : Value → Shared → Prop} {g h : Heap} {gn : Array GenState} {dr : Drawn} {tk : Nat} {os : OsState} {env : Env} {vm : Str → Option Value} {x : Str} {px : Pos}
  {n : Nat} {P : Nat → Value → Prop} {xv : Value} {Q : Value → Shared → Prop} {elt iter : Expr} {ifs : List Expr} {scope : Scope} {pos : Pos} {cl : List (Str × Addr)}

/-- the goal behind the source -/
abbrev CompGoal (prog : Program) (w : World) (A : Around) (E : Value → Shared → Prop) (env : Env) (elt iter : Expr) (x : Str) (px : Pos) (ifs : List Expr) (scope : Scope) (pos : Pos) (cl : List (Str × Addr)) (use : Option (Value → Sem Unit)) (Q : Value → Shared → Prop) (xv : Value) (s : Shared) : Prop :=
  wpAny (model prog w) A (pyIter xv) (fun it s₂ => wpAny (model prog w) A (newList []) (fun acc s₃ =>
      wpAny (model prog w) A (newFunctionEnv scope env.globals cl [] env.qual none .none (some env)) (fun cenv s₄ =>
        codeAny (model prog w) A (.compStart (.ListComp elt [⟨.Name x px, iter, ifs, 0⟩] scope pos) 0 it acc { cenv with scope := relabel scope env }) (compPost (model prog w) A E use Q acc cenv.locals) s₄) E s₃) E s₂) E s

theorem ListComp_ {s : Shared} (hclos : closureFor scope env = pure cl) (h : wpAny (model prog ω.w) A (eval iter env) (fun xv s₁ => CompGoal prog ω.w A E env elt iter x px ifs scope pos cl none Q xv s₁) E s)
    (hkind : scope.kind = .function := by rfl) (hnames : ∀ y ∈ scope.names, y.2 = .local → scope.names.lookup y.1 = some .local := by decide) (hs : ∀ v, foldedSetIterable iter env v = pure v := by intro _; rfl) :
    wpAny (model prog ω.w) A (eval (.ListComp elt [⟨.Name x px, iter, ifs, 0⟩] scope pos) env) Q E s := by
  rw [eval_ListComp]
  exact wpAny_comprehension_free rfl hs hclos hkind hnames h

theorem Assign_ListComp {s : Shared} {y : Str} {py spos : Pos} {Q : Flow → Shared → Prop} (hclos : closureFor scope env = pure cl)
    (h : wpAny (model prog ω.w) A (eval iter env) (fun xv s₁ => CompGoal prog ω.w A E env elt iter x px ifs scope pos cl (some (assign (.Name y py) env)) (fun _ s' => Q .next s') xv s₁) E s)
    (hsw : swapsWith (.ListComp elt [⟨.Name x px, iter, ifs, 0⟩] scope pos) (some (.Name y py)) spos.line env = pure true := by rfl)
    (hkind : scope.kind = .function := by rfl) (hnames : ∀ y ∈ scope.names, y.2 = .local → scope.names.lookup y.1 = some .local := by decide) (hs : ∀ v, foldedSetIterable iter env v = pure v := by intro _; rfl) :
    wpAny (model prog ω.w) A (exec (.Assign [.Name y py] (.ListComp elt [⟨.Name x px, iter, ifs, 0⟩] scope pos) spos) env) Q E s := by
  rw [exec_Assign_Name_used y py _ spos hsw]
  refine wpAny_bind (wpAny_standAt ?_)
  refine wpAny_bind ?_
  simp only [evalThenUse]
  exact wpAny_bind (wpAny_mono (wpAny_comprehension_free rfl hs hclos hkind hnames h) (fun _ s' hq => wpAny_pure (wpAny_pure hq)) fun _ _ e => e)

theorem compTurn_nil {cenv : Env} {K : Addr → Prop} {J' : Heap → Heap → Prop} {T' : Value → Heap → Prop} {tk : Nat} (S : g.StaysIn h)
    {E' : Value → Shared → Prop} (t : wpAny (model prog ω.w) A (eval elt cenv) (fun y s₄ => ∃ g₄ h₄ tk₄, s₄ = ⟨h₄, gn, dr, tk₄, os⟩ ∧ GrowX K g h g₄ h₄ ∧ J' g₄ h₄ ∧ T' y g₄) E' ⟨h, gn, dr, tk, os⟩) :
    CompTurn prog ω.w A cenv gn dr os K [] elt true J' T' g h tk E' := by
  unfold CompTurn
  rw [List.forIn_nil]
  exact wpAny_pure ⟨rfl, g, h, tk, rfl, GrowX.refl S, t⟩
theorem compTurn_one {cenv : Env} {K : Addr → Prop} {J' : Heap → Heap → Prop} {T' : Value → Heap → Prop} {tk : Nat} {c : Expr} {b : Bool}
    {E' : Value → Shared → Prop} (t : wpAny (model prog ω.w) A (PySem.isTrue c cenv (eval c cenv)) (fun ok s₃ => ok = b ∧ ∃ g₃ h₃ tk₃, s₃ = ⟨h₃, gn, dr, tk₃, os⟩ ∧ GrowX K g h g₃ h₃ ∧ match b with
      | true => wpAny (model prog ω.w) A (eval elt cenv) (fun y s₄ => ∃ g₄ h₄ tk₄, s₄ = ⟨h₄, gn, dr, tk₄, os⟩ ∧ GrowX K g₃ h₃ g₄ h₄ ∧ J' g₄ h₄ ∧ T' y g₄) E' s₃
      | false => J' g₃ h₃) E' ⟨h, gn, dr, tk, os⟩) :
    CompTurn prog ω.w A cenv gn dr os K [c] elt b J' T' g h tk E' := by
  unfold CompTurn
  rw [List.forIn_cons]
  simp only [if_true]
  refine wpAny_bind (wpAny_bind (wpAny_mono t (fun ok s₃ r => wpAny_pure ?_) fun _ _ e => e))
  dsimp only
  rw [List.forIn_nil]
  exact wpAny_pure r

/-- the same, the posts variables -/
theorem compTurn_nilV {cenv : Env} {K : Addr → Prop} {J' : Heap → Heap → Prop} {T' : Value → Heap → Prop} {tk : Nat} (S : g.StaysIn h)
    {E' : Value → Shared → Prop} (t : ∀ (Q' : Value → Shared → Prop) (E₂ : Value → Shared → Prop), (∀ g₄ h₄ tk₄ y, GrowX K g h g₄ h₄ → J' g₄ h₄ → T' y g₄ → Q' y ⟨h₄, gn, dr, tk₄, os⟩) → wpAny (model prog ω.w) A (eval elt cenv) Q' E₂ ⟨h, gn, dr, tk, os⟩) :
    CompTurn prog ω.w A cenv gn dr os K [] elt true J' T' g h tk E' :=
  compTurn_nil S (t _ _ fun g₄ h₄ tk₄ y a b c => ⟨g₄, h₄, tk₄, rfl, a, b, c⟩)
theorem compTurn_oneV {cenv : Env} {K : Addr → Prop} {J' : Heap → Heap → Prop} {T' : Value → Heap → Prop} {tk : Nat} {c : Expr} {b : Bool}
    {E' : Value → Shared → Prop} (t : ∀ (Q' : Bool → Shared → Prop) (E₂ : Value → Shared → Prop), (∀ g₃ h₃ tk₃, GrowX K g h g₃ h₃ → (b = true → ∀ (Q₂ : Value → Shared → Prop) (E₃ : Value → Shared → Prop), (∀ g₄ h₄ tk₄ y, GrowX K g₃ h₃ g₄ h₄ → J' g₄ h₄ → T' y g₄ → Q₂ y ⟨h₄, gn, dr, tk₄, os⟩) → wpAny (model prog ω.w) A (eval elt cenv) Q₂ E₃ ⟨h₃, gn, dr, tk₃, os⟩) → (b = false → J' g₃ h₃) → Q' b ⟨h₃, gn, dr, tk₃, os⟩) → wpAny (model prog ω.w) A (PySem.isTrue c cenv (eval c cenv)) Q' E₂ ⟨h, gn, dr, tk, os⟩) :
    CompTurn prog ω.w A cenv gn dr os K [c] elt b J' T' g h tk E' :=
  compTurn_one (t _ _ fun g₃ h₃ tk₃ G tt ff => ⟨rfl, g₃, h₃, tk₃, rfl, G, by
    cases b with
    | true => exact tt rfl _ _ fun g₄ h₄ tk₄ y a b c => ⟨g₄, h₄, tk₄, rfl, a, b, c⟩
    | false => exact ff rfl⟩)

/-- the comprehension's value -/
theorem comp_valE (IT : It prog ω.w A g xv n P) (F : Fm ω g env vm h) (K : Addr → Prop) (J : Nat → Heap → Heap → Prop) (T : Nat → Value → Heap → Prop) (keep : Nat → Bool)
    (hn : n ≤ 100000)
    (hm : ∀ i y g g', g.StaysIn g' → T i y g → T i y g')
    (hK : ∀ a, K a → h.get? a ≠ none ∧ ¬ Own env a ∧ g.get? a = none)
    (stab : ∀ i g₁ g₂ h₁ h₂, g₁.StaysIn g₂ → J i g₁ h₁ → (∀ a o, K a → h₁.get? a = some o → h₂.get? a = some o) → J i g₂ h₂)
    (hJ : J 0 g h)
    (turn : ∀ i v C D g' h' tk', i < n → P i v → J i g' h' → GrowX K g h g' h' → h.get? C = none → let cenv := compEnvC scope cl C env; let cvm := upd (vmF vm cl) x v; Fm ω g' cenv cvm h' → Fm ω g' env vm h' →
      CompTurn prog ω.w A cenv gn dr os K ifs elt (keep i) (J (i + 1)) (T i) g' h' tk' (notedBy (model prog ω.w) A (compEnvC scope cl C env) fun e s' => compPost (model prog ω.w) A E none Q (.ref D) C (.error e) s'))
    (done : ∀ D ys g' h' tk', GrowX K g h g' h' → J n g' h' → h.get? D = none → g'.IsList D ys.toArray → Coll T keep g' n ys → Fm ω g' env vm h' → Q (.ref D) ⟨h', gn, dr, tk', os⟩)
    (hsub : ∀ m c, cl.lookup m = some c → env.cells.lookup m = some c ∧ env.kindOf m = some .cell)
    (hxcl : cl.lookup x = none := by rfl)
    (hcl : (cl.all fun p => (relabel scope env).names.lookup p.1 == some .cell) = true := by rfl)
    (hcell : ∀ y ∈ scope.names, y.2 ≠ .cell := by decide) (hkind : scope.kind = .function := by rfl) (hx : scope.names.lookup x = some .local := by rfl) :
    CompGoal prog ω.w A E env elt iter x px ifs scope pos cl none Q xv ⟨h, gn, dr, tk, os⟩ := by
  refine comp_block IT F K J T keep hn hm hK stab hJ hxcl hsub hcl hcell hkind hx turn fun C D ys g' h' tk' G hJn hD hC offC ⟨m, ns⟩ hl cc F' => ⟨m, ns, fun h'' hs => ?_⟩
  have hs' : Heap.SameBut C h' h'' := hs
  have s'' : g'.StaysIn h'' := fun a o e => (hs'.2 a fun q => by rw [q, offC] at e; cases e).trans (F'.sub a o e)
  have nKC : ¬ K C := fun q => (hK C q).1 hC
  have G'' : GrowX K g h g' h'' := G.step s'' (fun a o _ na e => (hs'.2 a fun q => na (by rw [q]; exact hC)).trans e) fun a na e => by rw [hs'.2 a fun q => na (by rw [q]; exact hC)]; exact e
  exact done D ys g' h'' tk' G'' (stab _ _ _ _ _ (staysIn_refl _) hJn fun a o ka e => (hs'.2 a fun q => nKC (q ▸ ka)).trans e) hD hl cc (F.grow G'' fun a ow q => (hK _ q).2.1 ow)

/-- the comprehension's value -/
theorem comp_val (IT : It prog ω.w A g xv n P) (F : Fm ω g env vm h) (K : Addr → Prop) (J : Nat → Heap → Heap → Prop) (T : Nat → Value → Heap → Prop) (keep : Nat → Bool)
    (hn : n ≤ 100000)
    (hm : ∀ i y g g', g.StaysIn g' → T i y g → T i y g')
    (hK : ∀ a, K a → h.get? a ≠ none ∧ ¬ Own env a ∧ g.get? a = none)
    (stab : ∀ i g₁ g₂ h₁ h₂, g₁.StaysIn g₂ → J i g₁ h₁ → (∀ a o, K a → h₁.get? a = some o → h₂.get? a = some o) → J i g₂ h₂)
    (hJ : J 0 g h)
    (turn : ∀ i v C g' h' tk' E', i < n → P i v → J i g' h' → GrowX K g h g' h' → h.get? C = none → let cenv := compEnvC scope cl C env; let cvm := upd (vmF vm cl) x v; Fm ω g' cenv cvm h' → Fm ω g' env vm h' →
      CompTurn prog ω.w A cenv gn dr os K ifs elt (keep i) (J (i + 1)) (T i) g' h' tk' E')
    (done : ∀ D ys g' h' tk', GrowX K g h g' h' → J n g' h' → h.get? D = none → g'.IsList D ys.toArray → Coll T keep g' n ys → Fm ω g' env vm h' → Q (.ref D) ⟨h', gn, dr, tk', os⟩)
    (hsub : ∀ m c, cl.lookup m = some c → env.cells.lookup m = some c ∧ env.kindOf m = some .cell)
    (hxcl : cl.lookup x = none := by rfl)
    (hcl : (cl.all fun p => (relabel scope env).names.lookup p.1 == some .cell) = true := by rfl)
    (hcell : ∀ y ∈ scope.names, y.2 ≠ .cell := by decide) (hkind : scope.kind = .function := by rfl) (hx : scope.names.lookup x = some .local := by rfl) :
    CompGoal prog ω.w A E env elt iter x px ifs scope pos cl none Q xv ⟨h, gn, dr, tk, os⟩ :=
  comp_valE IT F K J T keep hn hm hK stab hJ (fun i v C D g' h' tk' => turn i v C g' h' tk' _) done hsub hxcl hcl hcell hkind hx

/-- the comprehension stored into a local name -/
theorem comp_st {y : Str} {py : Pos} {Q : Shared → Prop} (IT : It prog ω.w A g xv n P) (F : Fm ω g env vm h) (K : Addr → Prop) (J : Nat → Heap → Heap → Prop) (T : Nat → Value → Heap → Prop) (keep : Nat → Bool)
    (hn : n ≤ 100000)
    (hm : ∀ i y g g', g.StaysIn g' → T i y g → T i y g')
    (hK : ∀ a, K a → h.get? a ≠ none ∧ ¬ Own env a ∧ g.get? a = none)
    (stab : ∀ i g₁ g₂ h₁ h₂, g₁.StaysIn g₂ → J i g₁ h₁ → (∀ a o, K a → h₁.get? a = some o → h₂.get? a = some o) → J i g₂ h₂)
    (hJ : J 0 g h)
    (turn : ∀ i v C g' h' tk' E', i < n → P i v → J i g' h' → GrowX K g h g' h' → h.get? C = none → let cenv := compEnvC scope cl C env; let cvm := upd (vmF vm cl) x v; Fm ω g' cenv cvm h' → Fm ω g' env vm h' →
      CompTurn prog ω.w A cenv gn dr os K ifs elt (keep i) (J (i + 1)) (T i) g' h' tk' E')
    (done : ∀ D ys g' h' tk', GrowX (OwnK env K) g h g' h' → J n g' h' → h.get? D = none → g'.IsList D ys.toArray → Coll T keep g' n ys → Fm ω g' env (upd vm y (.ref D)) h' → Q ⟨h', gn, dr, tk', os⟩)
    (hsub : ∀ m c, cl.lookup m = some c → env.cells.lookup m = some c ∧ env.kindOf m = some .cell)
    (hxcl : cl.lookup x = none := by rfl)
    (hcl : (cl.all fun p => (relabel scope env).names.lookup p.1 == some .cell) = true := by rfl)
    (hcell : ∀ y ∈ scope.names, y.2 ≠ .cell := by decide) (hkind : scope.kind = .function := by rfl) (hx : scope.names.lookup x = some .local := by rfl)
    (hek : env.scope.kind = .function := by rfl) (hey : env.kindOf y = some .local := by rfl) (hnc : env.cells.lookup y = none := by rfl) :
    CompGoal prog ω.w A E env elt iter x px ifs scope pos cl (some (assign (.Name y py) env)) (fun _ s' => Q s') xv ⟨h, gn, dr, tk, os⟩ := by
  refine comp_block IT F K J T keep hn hm hK stab hJ hxcl hsub hcl hcell hkind hx (fun i v C D g' h' tk' => turn i v C g' h' tk' _) fun C D ys g' h' tk' G hJn hD hC offC ⟨m, ns⟩ hl cc F' => ?_
  refine wpAny_assign_Name (F'.stL (fun h₂ F₂ fo => ?_) hek hey hnc)
  have hCo : ¬ Own env C := fun o => F.own_alive o hC
  have ns₂ : h₂.Ns C m := ns.at' fun o e => (fo.other hCo).trans e
  refine ⟨m, ns₂, fun h'' hs => ?_⟩
  have hs' : Heap.SameBut C h₂ h'' := hs
  have s'' : g'.StaysIn h'' := fun a o e => (hs'.2 a fun q => by rw [q, offC] at e; cases e).trans (F₂.sub a o e)
  have nKC : ¬ K C := fun q => (hK C q).1 hC
  have G₂ : GrowX (OwnK env K) g h g' h₂ := (G.wide fun a q => Or.inr q).step F₂.sub (fun a o na _ e => (fo.other fun q => na (.inl q)).trans e) fun a _ e => by
    by_cases ow : Own env a
    · exact F₂.own_alive ow
    · rw [fo.other ow]; exact e
  have G'' : GrowX (OwnK env K) g h g' h'' := G₂.step s'' (fun a o _ na e => (hs'.2 a fun q => na (by rw [q]; exact hC)).trans e) fun a na e => by rw [hs'.2 a fun q => na (by rw [q]; exact hC)]; exact e
  refine done D ys g' h'' _ G'' (stab _ _ _ _ _ (staysIn_refl _) hJn fun a o ka e => (hs'.2 a fun q => nKC (q ▸ ka)).trans ((fo.other (hK a ka).2.1).trans e)) hD hl cc
    (F₂.at (staysIn_refl _) s'' (fun a o ow e => (hs'.2 a fun q => hCo (q ▸ ow)).trans e) fun a ow => F₂.own_off ow)

noncomputable def JT : Nat → Heap → Heap → Prop := fun _ _ _ => True
theorem noK {h : Heap} {env : Env} {g : Heap} : ∀ a, No a → h.get? a ≠ none ∧ ¬ Own env a ∧ g.get? a = none := fun _ q => q.elim
end
end Mine
end

/-! text Ops -/
section
open PySem PySem.W PyProof.Rows PySem.Spec PySem.Calls
set_option Elab.async false
set_option maxRecDepth 100000
set_option linter.unusedVariables false
namespace Mine
section
variable {prog : Program} {ω : Ws} {A : Around} {E : Value → Shared → Prop} {g h : Heap} {gn : Array GenState} {dr : Drawn} {tk : Nat} {os : OsState} {env : Env} {vm : Str → Option Value} {Q : Value → Shared → Prop}

theorem Fm.kin (F : Fm ω g env vm h) : (KF ω.w).In h := F.wd.kin.keeps F.sub

theorem c_int {i : Int} {k : Nat} {pos : Pos} (q : ∀ t tk', Q (.int i t) ⟨h, gn, dr, tk', os⟩) : wpAny (model prog ω.w) A (eval (.Constant (.int i) k pos) env) Q E ⟨h, gn, dr, tk, os⟩ := wpAny_Constant_int (q _ _)
theorem c_str {x : Str} {k : Nat} {pos : Pos} (q : ∀ t tk', Q (.str x t) ⟨h, gn, dr, tk', os⟩) : wpAny (model prog ω.w) A (eval (.Constant (.str x) k pos) env) Q E ⟨h, gn, dr, tk, os⟩ := wpAny_Constant_str (q _ _)
theorem c_bool {b : Bool} {k : Nat} {pos : Pos} (q : Q (.bool b) ⟨h, gn, dr, tk, os⟩) : wpAny (model prog ω.w) A (eval (.Constant (.bool b) k pos) env) Q E ⟨h, gn, dr, tk, os⟩ := wpAny_pure q
section
variable {a b : Int} {t u : Tok}
theorem b_add (q : ∀ t tk', Q (.int (a + b) t) ⟨h, gn, dr, tk', os⟩) : wpAny (model prog ω.w) A (binaryOp .Add (.int a t) (.int b u)) Q E ⟨h, gn, dr, tk, os⟩ := add_int (q _ _)
theorem b_sub (q : ∀ t tk', Q (.int (a - b) t) ⟨h, gn, dr, tk', os⟩) : wpAny (model prog ω.w) A (binaryOp .Sub (.int a t) (.int b u)) Q E ⟨h, gn, dr, tk, os⟩ := sub_int (q _ _)
theorem b_and (q : ∀ t tk', Q (.int (Builtin.bitAnd a b) t) ⟨h, gn, dr, tk', os⟩) : wpAny (model prog ω.w) A (binaryOp .BitAnd (.int a t) (.int b u)) Q E ⟨h, gn, dr, tk, os⟩ := and_int (q _ _)
theorem b_mul (q : ∀ t tk', Q (.int (a * b) t) ⟨h, gn, dr, tk', os⟩) (ok : IntMulOk a b) : wpAny (model prog ω.w) A (binaryOp .Mult (.int a t) (.int b u)) Q E ⟨h, gn, dr, tk, os⟩ := mul_int (q _ _) ok
theorem b_fdiv (hb : b ≠ 0) (hp : Builtin.divisionGoesByPylong a b = false) (q : ∀ t tk', Q (.int (a.fdiv b) t) ⟨h, gn, dr, tk', os⟩) : wpAny (model prog ω.w) A (binaryOp .FloorDiv (.int a t) (.int b u)) Q E ⟨h, gn, dr, tk, os⟩ := floordiv_int hb (q _ _) (.inl hp)
theorem b_mod (hb : b ≠ 0) (q : ∀ t tk', Q (.int (a.fmod b) t) ⟨h, gn, dr, tk', os⟩) : wpAny (model prog ω.w) A (binaryOp .Mod (.int a t) (.int b u)) Q E ⟨h, gn, dr, tk, os⟩ := mod_int' hb (q _ _)
theorem k_eq (q : Q (.bool (a == b)) ⟨h, gn, dr, tk, os⟩) : wpAny (model prog ω.w) A (compareOp .Eq (.int a t) (.int b u)) Q E ⟨h, gn, dr, tk, os⟩ := eq_int q
theorem k_ne (q : Q (.bool (a != b)) ⟨h, gn, dr, tk, os⟩) : wpAny (model prog ω.w) A (compareOp .NotEq (.int a t) (.int b u)) Q E ⟨h, gn, dr, tk, os⟩ := ne_int q
theorem k_lt (q : Q (.bool (decide (a < b))) ⟨h, gn, dr, tk, os⟩) : wpAny (model prog ω.w) A (compareOp .Lt (.int a t) (.int b u)) Q E ⟨h, gn, dr, tk, os⟩ := lt_int q
theorem k_gt (q : Q (.bool (decide (b < a))) ⟨h, gn, dr, tk, os⟩) : wpAny (model prog ω.w) A (compareOp .Gt (.int a t) (.int b u)) Q E ⟨h, gn, dr, tk, os⟩ := gt_int q
end
theorem b_cat {x y : Str} {t u : Tok} (q : ∀ t tk', Q (.str (x ++ y) t) ⟨h, gn, dr, tk', os⟩) (hs : x.length + y.length ≤ sizeLine) : wpAny (model prog ω.w) A (binaryOp .Add (.str x t) (.str y u)) Q E ⟨h, gn, dr, tk, os⟩ := add_str (fun t' tk' => q t' tk') hs
theorem k_eqs {x y : Str} {t u : Tok} (q : Q (.bool (x == y)) ⟨h, gn, dr, tk, os⟩) : wpAny (model prog ω.w) A (compareOp .Eq (.str x t) (.str y u)) Q E ⟨h, gn, dr, tk, os⟩ := eq_str q
theorem t_bool {b : Bool} {Q : Bool → Shared → Prop} (q : Q b ⟨h, gn, dr, tk, os⟩) : wpAny (model prog ω.w) A (truthy (.bool b)) Q E ⟨h, gn, dr, tk, os⟩ := wpAny_truthy_bool q

/-- a frozen sequence made -/
theorem n_list {vs : List Value} (S : g.StaysIn h) (q : ∀ D g' h', Grow g h g' h' → g'.IsList D vs.toArray → h.get? D = none → Q (.ref D) ⟨h', gn, dr, tk, os⟩) (hs : vs.length ≤ 10000) : wpAny (model prog ω.w) A (newList vs) Q E ⟨h, gn, dr, tk, os⟩ := by
  refine wpAny_newObj_type ?_ (by unfold sizeOk; show vs.toArray.size ≤ sizeLine; rw [sizeLine_eq]; simp; omega)
  obtain ⟨g', G, e⟩ := grow_push S { cls := .type "list", dict := none, data := .seq vs.toArray } rfl
  exact q _ g' _ G ⟨_, e, rfl, _, rfl⟩ (get_none_size h)
/-- a list made that will be turned -/
theorem n_listM {vs : List Value} (S : g.StaysIn h) (q : ∀ D h', Grow g h g h' → h'.PlainList D vs.toArray → h.get? D = none → g.get? D = none → Q (.ref D) ⟨h', gn, dr, tk, os⟩) (hs : vs.length ≤ 10000) : wpAny (model prog ω.w) A (newList vs) Q E ⟨h, gn, dr, tk, os⟩ := by
  refine wpAny_newObj_type ?_ (by unfold sizeOk; show vs.toArray.size ≤ sizeLine; rw [sizeLine_eq]; simp; omega)
  exact q _ _ (grow_push_mut S _) ⟨_, Heap.get?_push_size _ rfl⟩ (get_none_size h) (none_of_sub S (get_none_size h))
theorem n_tuple {vs : List Value} (S : g.StaysIn h) (q : ∀ D g' h', Grow g h g' h' → g'.IsTuple D vs.toArray → h.get? D = none → Q (.ref D) ⟨h', gn, dr, tk, os⟩) (hs : vs.length ≤ 10000) (hne : vs ≠ []) : wpAny (model prog ω.w) A (newTuple vs) Q E ⟨h, gn, dr, tk, os⟩ := by
  refine wpAny_newTuple ?_ (by rw [sizeLine_eq]; omega)
  obtain ⟨g', G, e⟩ := grow_push S { cls := .type "tuple", dict := none, data := .seq vs.toArray } rfl
  exact q _ g' _ G ⟨_, e, rfl, _, rfl⟩ (get_none_size h)

/-- items -/
theorem s_list {value slice : Expr} {l : Addr} {vs : List Value} {k : Int} {u : Tok} {v : Value} (hl : h.IsList l vs.toArray) (h0 : 0 ≤ k) (hx : vs[k.toNat]? = some v) (q : Q v ⟨h, gn, dr, tk, os⟩)
    (hs : subscripted slice false (.ref l) (.int k u) = operate [.ref l, .int k u] (getItem (.ref l) (.int k u)) := by with_unfolding_all rfl) (hb : vs.length ≤ 100000 := by assumption) :
    wpAny (model prog ω.w) A (subscriptTail value slice (.ref l) (.int k u)) Q E ⟨h, gn, dr, tk, os⟩ :=
  item_litK hl h0 (by have := (List.getElem?_eq_some_iff.mp hx).1; omega) hx q hs
/-- the same, by a natural number -/
theorem s_listN {value slice : Expr} {l : Addr} {vs : List Value} {k : Nat} {u : Tok} {v : Value} (hl : h.IsList l vs.toArray) (hx : vs[k]? = some v) (q : Q v ⟨h, gn, dr, tk, os⟩)
    (hs : subscripted slice false (.ref l) (.int (k : Int) u) = operate [.ref l, .int (k : Int) u] (getItem (.ref l) (.int (k : Int) u)) := by with_unfolding_all rfl) (hb : vs.length ≤ 100000 := by assumption) :
    wpAny (model prog ω.w) A (subscriptTail value slice (.ref l) (.int (k : Int) u)) Q E ⟨h, gn, dr, tk, os⟩ := s_list hl (Int.natCast_nonneg k) hx q hs hb
theorem s_tuple {value slice : Expr} {l : Addr} {vs : List Value} {k : Int} {u : Tok} {v : Value} (hl : h.IsTuple l vs.toArray) (h0 : 0 ≤ k) (hx : vs[k.toNat]? = some v) (q : Q v ⟨h, gn, dr, tk, os⟩)
    (hs : subscripted slice false (.ref l) (.int k u) = operate [.ref l, .int k u] (getItem (.ref l) (.int k u)) := by with_unfolding_all rfl) (hb : vs.length ≤ 100000 := by decide) :
    wpAny (model prog ω.w) A (subscriptTail value slice (.ref l) (.int k u)) Q E ⟨h, gn, dr, tk, os⟩ := by
  have hl' := (List.getElem?_eq_some_iff.mp hx).1
  refine item_tupleT (j := k.toNat) hl (by omega) (by omega) ?_ hx q hs
  unfold seqIndex?
  simp only [show ¬ k < 0 by omega, if_false]
  rw [if_pos (by simp only [Bool.and_eq_true, decide_eq_true_eq]; omega)]
theorem s_str {value slice : Expr} {x : Str} {t : Tok} {i : Int} {u : Tok} (h0 : 0 ≤ i) (h1 : i < x.length) (hb : x.length ≤ 100000) (q : ∀ t' tk', Q (.str (Txt.item x i) t') ⟨h, gn, dr, tk', os⟩)
    (hs : subscripted slice false (.str x t) (.int i u) = operate [.str x t, .int i u] (getItem (.str x t) (.int i u)) := by with_unfolding_all rfl)
    (ht : ∀ r, letTemporaryGo value (.str x t) r = pure () := by intro _; with_unfolding_all rfl) : wpAny (model prog ω.w) A (subscriptTail value slice (.str x t) (.int i u)) Q E ⟨h, gn, dr, tk, os⟩ :=
  item_str (by unfold fitsSsize; simp; omega) (by omega) h1 (fun _ => q _ _) hs ht

/-- ranges -/
theorem r_range1 {n : Int} {t : Tok} (S : g.StaysIn h) (q : ∀ r g' h' tk' t1 t2 t3, Grow g h g' h' → IsRange g' r 0 n 1 t1 t2 t3 → Q (.ref r) ⟨h', gn, dr, tk', os⟩) : wpAny (model prog ω.w) A (call (.type "range") [.int n t]) Q E ⟨h, gn, dr, tk, os⟩ := by
  refine call_range_1 ?_
  obtain ⟨g', G, e⟩ := grow_push S { cls := .type "range", data := .fields #[.int 0 tk, .int n t, .int 1 (tk + 1)] } rfl
  exact q _ g' _ _ _ _ _ G e
theorem r_range3 {a b c : Int} {t u v : Tok} (hc : c ≠ 0) (hp : Builtin.divisionGoesByPylong (b - a) c = false) (S : g.StaysIn h) (q : ∀ r g' h' tk' t1 t2 t3, Grow g h g' h' → IsRange g' r a b c t1 t2 t3 → Q (.ref r) ⟨h', gn, dr, tk', os⟩) : wpAny (model prog ω.w) A (call (.type "range") [.int a t, .int b u, .int c v]) Q E ⟨h, gn, dr, tk, os⟩ := by
  refine call_range_3 hc ?_ (.inl hp)
  obtain ⟨g', G, e⟩ := grow_push S { cls := .type "range", data := .fields #[.int a t, .int b u, .int c v] } rfl
  exact q _ g' _ _ _ _ _ G e
theorem It.range1 {r : Addr} {n : Nat} {t u v : Tok} (hh : A.handled = none) (hr : IsRange g r 0 n 1 t u v) (hn : n ≤ 100000) : It prog ω.w A g (.ref r) n (fun i v => ∃ t, v = .int i t) := by
  have e : (Builtin.Range.rangeSize 0 (n : Int) 1 : Int) = n := by simp [Builtin.Range.rangeSize]; omega
  have := It.range (prog := prog) (w := ω.w) hh hr (by unfold Builtin.Range.small Builtin.Range.rangeFitsLong; rw [e]; simp; omega) e
  simpa using this

/-- slices -/
theorem sl_bytes {value slice : Expr} {b : Array UInt8} {t : Tok} {l u : Value} {lo hi : Option Int} (hl : IsPart l lo) (hu : IsPart u hi) (hz : b.size ≤ 10000)
    (q : ∀ t' tk', Q (.bytes (KBy.picked b lo hi) t') ⟨h.push { cls := .type "slice", data := .fields #[l, u, .none] }, gn, dr, tk', os⟩)
    (hs : subscripted slice false (.bytes b t) (.ref h.objs.size) = operate [.ref h.objs.size, .bytes b t] (getItem (.bytes b t) (.ref h.objs.size)) := by with_unfolding_all rfl)
    (ht : ∀ r, letTemporaryGo value (.bytes b t) r = pure () := by intro _; with_unfolding_all rfl) :
    wpAny (model prog ω.w) A (subscriptTail value slice (.bytes b t) (.ref h.objs.size)) Q E ⟨h.push { cls := .type "slice", data := .fields #[l, u, .none] }, gn, dr, tk, os⟩ :=
  tail_of_ItemOn ⟨"bytes", _, FB.slot_bytes_getitem.lookup, typeIs_bytes _ _ _, getItem_meets (typeIs_bytes _ _ _) (by decide) FB.slot_bytes_getitem FB.entry_bytes_getitem (FB.args_bytes_getitem_2 _ _) (KBc.meets_slice2 b t _ hl hu)
    ⟨Heap.IsSliceOf.new _ _ _ _, Nat.le_trans (KBc.size_picked_le b lo hi) (by rw [sizeLine_eq]; omega), fun t' k => q _ _⟩⟩ hs ht
theorem l_bytes {b : Array UInt8} {t : Tok} (hz : b.size ≤ 10000) (q : ∀ t' tk', Q (.int b.size t') ⟨h, gn, dr, tk', os⟩) : wpAny (model prog ω.w) A (call (.builtin "len") [.bytes b t]) Q E ⟨h, gn, dr, tk, os⟩ := len_bytes (by omega) (q _ _)

end
theorem leK {a n m : Nat} (h : a ≤ n) (d : n ≤ m := by decide) : a ≤ m := Nat.le_trans h d
theorem leE {a n m : Nat} (h : a = n) (d : n ≤ m := by decide) : a ≤ m := Nat.le_trans (Nat.le_of_eq h) d
theorem leZ {a n : Nat} (h : a ≤ n) (d : n ≤ 100000 := by decide) : (a : Int) < 2 ^ 63 := by have : a ≤ 100000 := Nat.le_trans h d; omega
theorem dt_le {α : Type} (xs : List α) (i j n : Nat) (h : xs.length ≤ n) (hn : n ≤ 1000) : (xs.drop i).length + (xs.take j).length ≤ 100000 := by
  rw [List.length_drop, List.length_take]; omega
/-! the same, the tokens as they come -/
section
variable {prog : Program} {ω : Ws} {A : Around} {E : Value → Shared → Prop} {g h : Heap} {gn : Array GenState} {dr : Drawn} {tk : Nat} {os : OsState} {env : Env} {vm : Str → Option Value} {Q : Value → Shared → Prop}
theorem c_intD {i : Int} {k : Nat} {pos : Pos} (q : Q (.int i tk) ⟨h, gn, dr, tk + 1, os⟩) : wpAny (model prog ω.w) A (eval (.Constant (.int i) k pos) env) Q E ⟨h, gn, dr, tk, os⟩ := wpAny_Constant_int q
theorem c_strD {x : Str} {k : Nat} {pos : Pos} (q : Q (.str x tk) ⟨h, gn, dr, tk + 1, os⟩) : wpAny (model prog ω.w) A (eval (.Constant (.str x) k pos) env) Q E ⟨h, gn, dr, tk, os⟩ := wpAny_Constant_str q
variable {a b : Int} {t u : Tok}
theorem b_addD (q : Q (.int (a + b) tk) ⟨h, gn, dr, tk + 1, os⟩) : wpAny (model prog ω.w) A (binaryOp .Add (.int a t) (.int b u)) Q E ⟨h, gn, dr, tk, os⟩ := add_int q
theorem b_subD (q : Q (.int (a - b) tk) ⟨h, gn, dr, tk + 1, os⟩) : wpAny (model prog ω.w) A (binaryOp .Sub (.int a t) (.int b u)) Q E ⟨h, gn, dr, tk, os⟩ := sub_int q
theorem b_mulD (q : Q (.int (a * b) tk) ⟨h, gn, dr, tk + 1, os⟩) (ok : IntMulOk a b) : wpAny (model prog ω.w) A (binaryOp .Mult (.int a t) (.int b u)) Q E ⟨h, gn, dr, tk, os⟩ := mul_int q ok
theorem b_fdivD (hb : b ≠ 0) (hp : Builtin.divisionGoesByPylong a b = false) (q : Q (.int (a.fdiv b) tk) ⟨h, gn, dr, tk + 1, os⟩) : wpAny (model prog ω.w) A (binaryOp .FloorDiv (.int a t) (.int b u)) Q E ⟨h, gn, dr, tk, os⟩ := floordiv_int hb q (.inl hp)
theorem b_modD (hb : b ≠ 0) (q : Q (.int (a.fmod b) tk) ⟨h, gn, dr, tk + 1, os⟩) : wpAny (model prog ω.w) A (binaryOp .Mod (.int a t) (.int b u)) Q E ⟨h, gn, dr, tk, os⟩ := mod_int' hb q
theorem b_andD (q : Q (.int (Builtin.bitAnd a b) tk) ⟨h, gn, dr, tk + 1, os⟩) : wpAny (model prog ω.w) A (binaryOp .BitAnd (.int a t) (.int b u)) Q E ⟨h, gn, dr, tk, os⟩ := and_int q
theorem u_negD (q : Q (.int (-a) tk) ⟨h, gn, dr, tk + 1, os⟩) : wpAny (model prog ω.w) A (unaryOp .USub (.int a t)) Q E ⟨h, gn, dr, tk, os⟩ := neg_int q
end
end Mine
end

/-! text Tape -/
section
open PySem PySem.W PyProof.Rows PySem.Spec PySem.Calls
set_option Elab.async false
set_option maxRecDepth 100000
set_option linter.unusedVariables false
namespace Mine
section
variable {prog : Program} {ω : Ws} {A : Around} {E : Value → Shared → Prop} {g h : Heap} {gn : Array GenState} {dr : Drawn} {tk : Nat} {os : OsState} {Q : Value → Shared → Prop}
  {name qual : Str} {params : Arguments} {body : List Stmt} {scope : Scope} {dV kV doc pm cdv ct : Value} {an : Option Addr} {f : Addr} {args : List Value} {binds : List (Str × Value)} {cl : List (Str × Addr)} {o : Obj}

/-- a call of a def made in a body -/
theorem call_clos (W : Wd ω g) (S : g.StaysIn h) (hroom : A.depth < recursionLimit)
    (ho : g.get? f = some o) (hd : o.data = .func (fnX name qual params body scope cl dV kV doc pm an cdv ct)) (hcd : g.CodeRec cdv qual)
    (hbind : bindArgs (fnX name qual params body scope cl dV kV doc pm an cdv ct) ⟨args, []⟩ = pure binds)
    (hloc : ∀ y ∈ binds, scope.names.lookup y.1 = some .local) (hcell : ∀ y ∈ scope.names, y.2 ≠ .cell)
    (vm : Str → Option Value) (hvm : ∀ x u, scope.names.lookup x = some .local → vm x = some u → binds.reverse.lookup x = some u) (hcl : ∀ n c, cl.lookup n = some c → g.IsCell c (vm n) ∧ scope.names.lookup n ≠ some .cell)
    (hinj : ∀ n n' c, cl.lookup n = some c → cl.lookup n' = some c → n = n')
    (hq : ∀ L h₁ tk₁, Fm ω g (envX qual scope L f cdv cl) vm h₁ → h.StaysIn h₁ → (∀ a, Own (envX qual scope L f cdv cl) a → h.get? a = none) →
      wpAny (model prog ω.w) (A.deeper (envX qual scope L f cdv cl)) (execs body (envX qual scope L f cdv cl))
        (fun fl s' => Q (match fl with | .ret v => v | _ => .none) s')
        (fun e s' => wpAny (model prog ω.w) (A.deeper (envX qual scope L f cdv cl)) (leaving (envX qual scope L f cdv cl) e) (fun _ s'' => E e s'') (fun e' s'' => E e' s'') s') ⟨h₁, gn, dr, tk₁, os⟩)
    (hco : scope.isCoroutine = false := by rfl) (hgen : scope.isGenerator = false := by rfl) (hkf : scope.kind = .function := by rfl) :
    wpAny (model prog ω.w) A (call (.ref f) args) Q E ⟨h, gn, dr, tk, os⟩ := by
  refine wpAny_call ?_
  refine codeAny_call_function hroom (S _ _ ho) hd hco hgen rfl (hcd.keeps S) ?_
  rw [hbind]
  refine wpAny_pure (wpAny_newFunctionEnv hcell hloc (fun h₁ hns hsb => ?_) hkf)
  have hk : h.StaysIn h₁ := fun a o e => hsb.extBut a o (Nat.ne_of_lt (Heap.lt_size e)) (Heap.get?_push_of_some _ e)
  refine ⟨(W.lim.keeps S).keeps hk, codeAny_func ?_⟩
  refine hq h.objs.size h₁ _ ⟨W, staysIn_trans S hk, ⟨_, hns, fun y u hy hu => hvm y u hy hu⟩, fun n c e => ((hcl n c e).1.keeps S).keeps hk, hinj, none_of_sub S (get_none_size h), fun n c e hkc => absurd hkc (hcl n c e).2, fun n c e _ => (hcl n c e).1⟩ hk (fun a ow => ow.elim (fun e => e ▸ get_none_size h) fun ⟨n, e, hkc⟩ => absurd hkc (hcl n a e).2)
end

/-- octets -/
noncomputable def bz (os : List Nat) : Array UInt8 := (os.map fun n => n.toUInt8).toArray
theorem bz_size (os : List Nat) : (bz os).size = os.length := by simp [bz]
theorem bz_picked {oc : List Nat} {p : Nat} (hp : p ≤ oc.length) : KBy.picked (bz oc) (some (p : Int)) (some ((p : Int) + 1)) = bz ((oc.drop p).take 1) := by
  rw [KBc.picked_eq, bz_size]
  have e1 : clipAt oc.length (p : Int) = p := by rw [clipAt_nat]; omega
  have e2 : clipAt oc.length ((p : Int) + 1) = min (p + 1) oc.length := by have := clipAt_nat oc.length (p + 1); rw [← this]; rfl
  simp only [Option.elim, e1, e2, bz]
  congr 1
  rw [List.map_take, List.map_drop]
  by_cases h : p < oc.length
  · rw [show min (p + 1) oc.length - p = 1 by omega]
  · have : p = oc.length := by omega
    subst this
    simp

/-- what the tape's read does -/
noncomputable def ReadOk (prog : Program) (ω : Ws) (g : Heap) (f a : Addr) (oc : List Nat) : Prop :=
  ∀ {g' h : Heap} {gn : Array GenState} {dr : Drawn} {tk : Nat} {os : OsState} {A : Around} {Q E : Value → Shared → Prop} {p : Nat} {t t' : Tok}, g.StaysIn g' → g'.StaysIn h → Wd ω g' → Rm A 3 →
    h.IsList a #[.int p t] → g'.get? a = none → p ≤ oc.length →
    (∀ h'' tk'' t'' t3, GrowX (· = a) g' h g' h'' → h''.IsList a #[.int (p + ((oc.drop p).take 1).length : Nat) t''] → Q (.bytes (bz ((oc.drop p).take 1)) t3) ⟨h'', gn, dr, tk'', os⟩) →
    wpAny (model prog ω.w) A (call (.ref f) [.int 1 t']) Q E ⟨h, gn, dr, tk, os⟩

/-- the tape at x, its place kept at a -/
structure Tape (prog : Program) (ω : Ws) (g : Heap) (x a : Addr) (oc : List Nat) : Prop where
  ex : ∃ dx f es n, g.get? x = some (instObj 38 dx) ∧ g.get? dx = some (dictOf es n) ∧ getL "read" es = some (some (.ref f)) ∧ FnAt f g ∧ ReadOk prog ω g f a oc
theorem ReadOk.mono {prog : Program} {ω : Ws} {g g' : Heap} {f a : Addr} {oc : List Nat} (R : ReadOk prog ω g f a oc) (k : g.StaysIn g') : ReadOk prog ω g' f a oc :=
  fun kk => R (staysIn_trans k kk)
theorem Tape.mono {prog : Program} {ω : Ws} {g g' : Heap} {x a : Addr} {oc : List Nat} (T : Tape prog ω g x a oc) (k : g.StaysIn g') : Tape prog ω g' x a oc := by
  obtain ⟨dx, f, es, n, e1, e2, e3, ⟨oc', od, fd, sl, e4⟩, e5⟩ := T.ex
  exact ⟨dx, f, es, n, k _ _ e1, k _ _ e2, e3, ⟨oc', od, fd, sl, k _ _ e4⟩, e5.mono k⟩

/-- every object but those at S -/
noncomputable def allOf (h : Heap) (S : List Addr) : List (Addr × Obj) := (List.range h.objs.size).filterMap fun a => if a ∈ S then none else (h.get? a).map fun o => (a, o)
theorem mem_allOf {h : Heap} {S : List Addr} {a : Addr} {o : Obj} : (a, o) ∈ allOf h S ↔ h.get? a = some o ∧ a ∉ S := by
  unfold allOf
  rw [List.mem_filterMap]
  constructor
  · rintro ⟨b, _, e⟩
    split at e
    · cases e
    · rename_i hb
      obtain ⟨p, hp, e⟩ := Option.map_eq_some_iff.mp e
      cases e
      exact ⟨hp, hb⟩
  · rintro ⟨e, hn⟩
    exact ⟨a, List.mem_range.mpr (Heap.lt_size e), by rw [if_neg hn, e]; rfl⟩

section
variable {prog : Program} {ω : Ws} {A : Around} {E : Value → Shared → Prop} {g h : Heap} {gn : Array GenState} {dr : Drawn} {tk : Nat} {os : OsState}
theorem empty_get (a : Addr) : (({} : Heap)).get? a = none := Heap.get?_none_of_le (Nat.zero_le _)

/-- an attribute stored into an instance of _Example -/
theorem set_attr {x dx L : Addr} {m : Str → Option Value} {es es' : List DictEntry} {n n' : Nat} {name : Str} {v : Value} {Q : Unit → Shared → Prop} (X : (KF ω.w).In h) (hx : h.get? x = some (instObj 38 dx)) (hd : h.get? dx = some (dictOf es n)) (hL : h.Ns L m) (hne : dx ≠ L)
    (ht : takerIn (KF ω.w) 38 name = some none) (hl : (getL name es).isSome = true)
    (e : (putL name (PyData.keyHash ω.w.params name) (.str name (tk + 1)) v es, putN name es n) = (es', n')) (hz : es'.length ≤ 1000)
    (q : ∀ h', (∀ b o, b ≠ dx → b ≠ L → h.get? b = some o → h'.get? b = some o) → h'.Ns L m → h'.get? dx = some (dictOf es' n') → Q () ⟨h', gn, dr, tk + 2, os⟩) :
    wpAny (model prog ω.w) A (setAttr (.ref x) name v) Q E ⟨h, gn, dr, tk, os⟩ := by
  have F0 : Fr {} L h m := ⟨hL, fun b o e => (by rw [empty_get] at e; cases e), Nat.zero_le _⟩
  have N0 : News {} L h ((dx, dictOf es n) :: allOf h [L, dx]) := fun p hp => by
    rcases List.mem_cons.mp hp with rfl | hp
    · exact ⟨hd, hne, empty_get _⟩
    · obtain ⟨a, o⟩ := p
      have := mem_allOf.mp hp
      exact ⟨this.1, fun q => this.2 (by simp [show a = L from q]), empty_get _⟩
  obtain ⟨e1, e2⟩ := Prod.mk.inj e
  have I0 : W.InstAt h x (instObj 38 dx) 38 (some (dictOf es n)) := ⟨hx, rfl, rfl, hd⟩
  refine set_plain X I0 (by rfl) (osa_dict (s := ⟨h, gn, dr, tk + 1, os⟩) (pre := []) (post := allOf h [L, dx]) F0 N0 X I0 rfl (by rfl) ht (by rfl) hl (fun _ hp => by cases hp) (fun p hp q => (mem_allOf.mp (show (p.1, p.2) ∈ _ from hp)).2 (by simp [q])) (by rw [putName_dict, e1, e2]) rfl hz fun h' F' N' => ?_)
  exact q h' (fun b o h1 h2 eb => (N' (b, o) (List.mem_append_right _ (.tail _ (mem_allOf.mpr ⟨eb, by simp [h1, h2]⟩)))).1) F'.ns (N' (dx, _) (List.mem_append_right _ (.head _))).1

/-- _Example(v) -/
theorem example_ok {Q : Value → Shared → Prop} (W : Wd ω g) (S : g.StaysIn h) (R : Rm A 4) {v : Value}
    (q : ∀ x dx h' tk' t, h.StaysIn h' → h.get? x = none → h.get? dx = none → x ≠ dx → h'.get? x = some (instObj 38 dx) → h'.get? dx = some (dictOf [⟨PyData.keyHash ω.w.params "value", .str "value" t, v⟩] 1) → Q (.ref x) ⟨h', gn, dr, tk', os⟩) :
    wpAny (model prog ω.w) A (call (.ref 38) [v]) Q E ⟨h, gn, dr, tk, os⟩ := by
  have X : (KF ω.w).In h := W.kin.keeps S
  refine wpAny_call ?_
  refine make_core (init := .ref 35) (makes_of X (by rfl)) (looks_findIn X (by rfl)) (fun self => bind_fn X self (by rfl)) (.inl (by decide)) ?_
  have S₂ : h.StaysIn ((h.push emptyDict).push (instObj 38 h.objs.size)) := staysIn_trans (staysIn_push _ _) (staysIn_push _ _)
  have hx : ((h.push emptyDict).push (instObj 38 h.objs.size)).get? (h.objs.size + 1) = some (instObj 38 h.objs.size) := by
    have := Heap.get?_push_size (h.push emptyDict) (o := instObj 38 h.objs.size) rfl
    rwa [Heap.size_push] at this
  have hdx : ((h.push emptyDict).push (instObj 38 h.objs.size)).get? h.objs.size = some (dictOf [] 0) := Heap.get?_push_of_some _ (Heap.get?_push_size _ rfl)
  generalize (h.push emptyDict).push (instObj 38 h.objs.size) = H at *
  have fx : h.get? (h.objs.size + 1) = none := Heap.get?_none_of_le (by omega)
  have fdx : h.get? h.objs.size = none := get_none_size h
  have hne : h.objs.size + 1 ≠ h.objs.size := by omega
  generalize h.objs.size + 1 = x at *
  generalize h.objs.size = dx at *
  refine code_def1 (binds := [("self", .ref x), ("value", v)]) W (staysIn_trans S S₂) (by have := R.dp; rw [depth_under_make]; simp only [recursionLimit]; omega) rfl rfl rfl rfl (by decide) ?_
  intro L h₁ tk₁ F hk hO
  have hL : H.get? L = none := hO _ (.inl rfl)
  refine wpAny_execs_cons ?_
  refine plainObj_wpAny_Assign_Attribute ?_
  refine F.ldL rfl ?_
  refine F.ldL rfl ?_
  obtain ⟨m, hns, hm⟩ := F.ns
  have ndx : dx ≠ L := fun q => by rw [q, hL] at hdx; cases hdx
  refine set_attr (m := m) F.kin (hk _ _ hx) (hk _ _ hdx) hns ndx (by rfl) rfl rfl (show 1 ≤ 1000 by decide) ?_
  intro h₂ k₂ n₂ d₂
  refine wpAny_execs_nil ?_
  refine ⟨rfl, q x dx h₂ _ _ (fun b o e => k₂ b o (fun q => by rw [q, fdx] at e; cases e) (fun q => ?_) (hk _ _ (S₂ _ _ e))) fx fdx hne (k₂ _ _ hne (fun q => ?_) (hk _ _ hx)) d₂⟩
  · have e2 := S₂ _ _ e; rw [q, hL] at e2; cases e2
  · rw [q, hL] at hx; cases hx

/-- the table of _law_stream's code: bare, or with the code of _law_read -/
noncomputable def Tb (g h : Heap) : Prop := g.get? 105 = none ∧ (h.get? 105 = some (tabObj #[]) ∨ ∃ c', h.get? 105 = some (tabObj #[rawInt 67, rawInt 4, .ref c']) ∧ g.CodeRec (.ref c') "_law_stream.<locals>._law_read")

/-- the def statement's function -/
theorem read_made {Q : Value → Shared → Prop} {env : Env} {params : Arguments} {body : List Stmt} {scope : Scope} {clos : List (Str × Addr)} {e1 e2 : Nat} (W : Wd ω g) (S : g.StaysIn h) (T : Tb g h) (hcl : closureFor scope env = pure clos) (hge : env.globals = mainGlobals) (hcode : env.code = .ref 109)
    (q : ∀ f c' doc pm ctv h' tk', (∀ b o, b ≠ 105 → h.get? b = some o → h'.get? b = some o) → h.get? f = none → h'.get? f = some (fnMade "_law_read" "_law_stream.<locals>._law_read" params body scope clos doc pm c' ctv) → (g.CodeRec (.ref c') "_law_stream.<locals>._law_read" ∨ h.get? c' = none ∧ h'.CodeRec (.ref c') "_law_stream.<locals>._law_read") →
      h'.get? 105 = some (tabObj #[rawInt 67, rawInt 4, .ref c']) → Q (.ref f) ⟨h', gn, dr, tk', os⟩) :
    wpAny (model prog ω.w) A (makeFunction "_law_read" "_law_stream.<locals>._law_read" params (.stmts body) scope env [] [] [] ⟨67, 4, e1, e2⟩ 67) Q E ⟨h, gn, dr, tk, os⟩ := by
  obtain ⟨off, T | ⟨c', T, hc⟩⟩ := T
  · refine makeFunction_K hcl hge (W.gl.keeps S) hcode (W.hd.keeps S) T trivial rfl (by decide) (W.bm.keeps S) fun c' ctv doc h' tk' hx hge1 hlt hrec htab => ?_
    refine q _ c' doc _ ctv _ _ (fun b o hb e => Heap.get?_push_of_some _ (hx b o hb e)) (Heap.get?_none_of_le (Nat.le_of_lt (Nat.lt_of_le_of_lt hge1 hlt))) (Heap.get?_push_size _ rfl) (.inr ⟨Heap.get?_none_of_le hge1, hrec.push _⟩) (Heap.get?_push_of_some _ htab)
  · refine makeFunction_hit hcl hge (W.gl.keeps S) hcode (W.hd.keeps S) T trivial rfl (W.bm.keeps S) fun ctv doc h' tk' hk hsz => ?_
    refine q _ c' doc _ ctv _ _ (fun b o _ e => Heap.get?_push_of_some _ (hk b o e)) (Heap.get?_none_of_le hsz) (Heap.get?_push_size _ rfl) (.inl hc) (Heap.get?_push_of_some _ (hk _ _ T))

theorem stream_ok {Q : Value → Shared → Prop} (W : Wd ω g) (S : g.StaysIn h) (R : Rm A 10) {oc : List Nat} {tb : Tok} {a : Addr} (T : Tb g h) (hoc : oc.length ≤ 1000)
    (q : ∀ x g' h' tk', GrowX (· = 105) g h g' h' → Tape prog ω g' x a oc → Tb g' h' → Q (.ref x) ⟨h', gn, dr, tk', os⟩) :
    wpAny (model prog ω.w) A (call (.ref 110) [.bytes (bz oc) tb, .ref a]) Q E ⟨h, gn, dr, tk, os⟩ := by
  refine call_defV (k := 9) (binds := [("octets", .bytes (bz oc) tb), ("at", .ref a)]) W S R rfl rfl rfl rfl (by decide) (by decide) ?_
  intro L h₁ tk₁ A₁ E₁ Q₁ env vm₀ hQ R' hA' F hk hO
  refine wpAny_execs_cons ?_
  refine wpAny_Assign_Name ?_
  refine Call_ ?_
  refine F.ldG (v := .ref 38) ?_
  refine callWith_K F.kin rfl ?_
  refine spliced_more ?_
  refine F.ldC rfl ?_
  refine spliced_none ?_
  refine ⟨F.kin, ?_⟩
  refine example_ok F.wd F.sub (R'.le (by decide)) ?_
  intro x dx h₂ tk₂ t k₂ nx ndx hxd hx hdx
  have F₂ := F.grow0 (Grow.same F.sub k₂)
  refine F₂.stLV ?_
  intro h₃ _ F₃ fo
  have e105 : h.get? 105 ≠ none := by rcases T.2 with e | ⟨c, e, _⟩ <;> rw [e] <;> nofun
  have T₃ : Tb g h₃ := by
    refine ⟨T.1, ?_⟩
    rw [fo 105 fun o => e105 (hO _ o)]
    rcases T.2 with e | ⟨c, e, r⟩
    · exact .inl (k₂ _ _ (hk _ _ e))
    · exact .inr ⟨c, k₂ _ _ (hk _ _ e), r⟩
  refine wpAny_execs_cons ?_
  refine nestDef_K rfl rfl rfl ?_
  refine read_made W F₃.sub T₃ rfl rfl rfl ?_
  intro f c' doc pm ctv h₄ tk₄ k₄ nf hf hrec htab
  have al₁ : h₁.get? 105 ≠ none := by
    cases e : h.get? 105 with
    | none => exact absurd e e105
    | some o => rw [hk _ _ e]; nofun
  have nown : ∀ b, h₁.get? b = none → ∀ {P : Prop}, Own _ b → P := fun b e P ow => absurd e (F.own_alive ow)
  have n105 : ∀ b, h₁.get? b = none → b ≠ 105 := fun b e q => al₁ (q ▸ e)
  have F₄ := F₃.at (staysIn_refl g) (h' := h₄) (fun b o e => k₄ b o (fun q => by rw [q, T.1] at e; cases e) (F₃.sub b o e)) (fun b o ow e => k₄ b o (fun q => e105 (hO _ (q ▸ ow))) e) (fun b ow => F₃.own_off ow)
  refine F₄.stLV ?_
  intro h₅ _ F₅ fo₅
  have hx₃ := (fo x fun o => nown x nx o).trans hx
  have hdx₃ := (fo dx fun o => nown dx ndx o).trans hdx
  have hx₄ := k₄ _ _ (n105 x nx) hx₃
  have hdx₄ := k₄ _ _ (n105 dx ndx) hdx₃
  have hx₅ := (fo₅ x fun o => nown x nx o).trans hx₄
  have hdx₅ := (fo₅ dx fun o => nown dx ndx o).trans hdx₄
  have hf₅ := (fo₅ f fun o => F₃.own_alive o nf).trans hf
  refine wpAny_execs_cons ?_
  refine plainObj_wpAny_Assign_Attribute ?_
  refine F₅.ldL rfl ?_
  refine F₅.ldL rfl ?_
  obtain ⟨m, hns, hm⟩ := F₅.ns
  refine set_attr (m := m) F₅.kin hx₅ hdx₅ hns (fun q => nown dx ndx (.inl q)) (by rfl) rfl rfl (show 2 ≤ 1000 by decide) ?_
  intro h₆ k₆ n₆ d₆
  refine wpAny_execs_cons ?_
  refine wpAny_Return_some ?_
  refine wpAny_Name (wpAny_loadName_local rfl rfl n₆ (hm _ _ rfl rfl) ?_) rfl
  have kall : ∀ b o, ¬ b = 105 → h.get? b = some o → h₆.get? b = some o := fun b o hb e => by
    have no : ∀ {P : Prop}, Own _ b → P := fun ow => absurd (hO b ow) (by rw [e]; nofun)
    have e1 := hk _ _ e
    exact k₆ b o (fun q => by rw [q, ndx] at e1; cases e1) (fun q => no (.inl q)) ((fo₅ b fun o => no o).trans (k₄ b o hb ((fo b fun o => no o).trans (k₂ _ _ e1))))
  have no105 : ∀ {P : Prop}, Own _ 105 → P := fun ow => absurd (hO 105 ow) e105
  have htab₆ : h₆.get? 105 = some (tabObj #[rawInt 67, rawInt 4, .ref c']) := k₆ _ _ (fun q => al₁ (q ▸ ndx)) (fun q => no105 (.inl q)) ((fo₅ 105 fun o => no105 o).trans htab)
  obtain ⟨g', G, fz⟩ := growX_of (X := (· = 105)) (fun _ => False) S kall (fun b e => by
    by_cases hb : b = 105
    · rw [hb, htab₆]; nofun
    · cases e' : h.get? b with
      | none => exact absurd e' e
      | some o => rw [kall b o hb e']; nofun) (fun b o hb e => by rw [hb, T.1] at e; cases e)
  have fz' : ∀ b o, h₆.get? b = some o → h.get? b = none → g'.get? b = some o := fun b o e n => fz b o e n fun q => q
  have dead : ∀ b, h₁.get? b = none → h.get? b = none := fun b e => none_of_sub hk e
  have hcr : g'.CodeRec (.ref c') "_law_stream.<locals>._law_read" := by
    rcases hrec with r | ⟨n, r⟩
    · exact r.keeps G.gg
    · obtain ⟨c, o, vs, t5, e0, e1, e2, e3⟩ := r
      cases e0
      have nh : h.get? c' = none := by
        cases q : h.get? c' with
        | none => rfl
        | some o =>
          have q1 := k₂ _ _ (hk _ _ q)
          rw [← fo c' fun ow => absurd (hO _ ow) (by rw [q]; nofun), n] at q1
          cases q1
      refine ⟨c', o, vs, t5, rfl, fz' _ _ (k₆ _ _ (fun q => ?_) (fun q => ?_) ((fo₅ _ fun ow => F₃.own_alive ow n).trans e1)) nh, e2, e3⟩
      · rw [q, hdx₃] at n; cases n
      · exact F₃.own_alive (.inl q) n
  have c1 : g'.IsCell (L + 1) (some (.bytes (bz oc) tb)) := by
    obtain ⟨o, e, d⟩ := F₅.cell "octets" (L + 1) rfl
    have hn := hO (L + 1) (.inr ⟨"octets", rfl, rfl⟩)
    exact ⟨o, fz' _ _ (k₆ _ _ (fun q => nown dx ndx (q ▸ .inr ⟨"octets", rfl, rfl⟩)) (Nat.succ_ne_self L) e) hn, d⟩
  have c2 : g'.IsCell (L + 1 + 1) (some (.ref a)) := by
    obtain ⟨o, e, d⟩ := F₅.cell "at" (L + 1 + 1) rfl
    have hn := hO (L + 1 + 1) (.inr ⟨"at", rfl, rfl⟩)
    exact ⟨o, fz' _ _ (k₆ _ _ (fun q => nown dx ndx (q ▸ .inr ⟨"at", rfl, rfl⟩)) (Nat.ne_of_gt (Nat.lt_succ_of_lt (Nat.lt_succ_self L))) e) hn, d⟩
  have nhf : h.get? f = none := by
    cases q : h.get? f with
    | none => rfl
    | some o =>
      have q1 := k₂ _ _ (hk _ _ q)
      rw [← fo f fun ow => absurd (hO _ ow) (by rw [q]; nofun), nf] at q1
      cases q1
  have hfg := fz' _ _ (k₆ _ _ (fun q => by rw [q, hdx₃] at nf; cases nf) (fun q => F₃.own_alive (.inl q) nf) hf₅) nhf
  have hxg := fz' _ _ (k₆ _ _ hxd (fun q => nown x nx (.inl q)) hx₅) (dead x nx)
  have hdxg := fz' _ _ d₆ (dead dx ndx)
  refine hQ _ _ ?_
  refine q x g' h₆ _ G ⟨dx, f, _, _, hxg, hdxg, rfl, ⟨_, _, _, _, hfg⟩, ?_⟩ ⟨?_, .inr ⟨c', htab₆, hcr⟩⟩
  · intro g₁ H gn₁ dr₁ tk₁' os₁ A₁ Q₁ E₁ p t₁ t₂ kg S₁ W₁ R₁ hat off hp q₁
    refine call_clos (binds := [("count", .int 1 t₂)]) W₁ S₁ R₁.room (kg _ _ hfg) rfl (hcr.keeps kg) rfl (locs rfl) (by decide) (fun y => if y = "octets" then some (.bytes (bz oc) tb) else if y = "at" then some (.ref a) else [(("count" : Str), Value.int 1 t₂)].reverse.lookup y) ?_ ?_ ?_ ?_
    · intro y u hy hu
      by_cases h1 : y = "octets"
      · subst h1; cases hy
      by_cases h2 : y = "at"
      · subst h2; cases hy
      simpa [h1, h2] using hu
    · intro n c e
      by_cases h1 : n = "octets"
      · subst h1
        cases (show some (L + 1) = some c from e)
        exact ⟨c1.keeps kg, by decide⟩
      by_cases h2 : n = "at"
      · subst h2
        cases (show some (L + 1 + 1) = some c from e)
        exact ⟨c2.keeps kg, by decide⟩
      · have e' : List.lookup n [(("octets" : Str), L + 1), (("at" : Str), L + 1 + 1)] = some c := e
        have m1 := mem_of_lookup e'
        simp [h1, h2] at m1
    · intro n n' c e e'
      have e1 : List.lookup n [(("octets" : Str), L + 1), (("at" : Str), L + 1 + 1)] = some c := e
      have e2 : List.lookup n' [(("octets" : Str), L + 1), (("at" : Str), L + 1 + 1)] = some c := e'
      have m1 := mem_of_lookup e1
      have m2 := mem_of_lookup e2
      simp at m1 m2
      rcases m1 with ⟨rfl, rfl⟩ | ⟨rfl, rfl⟩ <;> rcases m2 with ⟨rfl, q⟩ | ⟨rfl, q⟩
      · rfl
      · exact absurd q.symm (Nat.succ_ne_self _)
      · exact absurd q (Nat.succ_ne_self _)
      · rfl
    · intro L' H₁ tk' F' hk' hO'
      have nat : ∀ {P : Prop}, Own _ a → P := fun ow => by
        obtain ⟨o, e, _⟩ := hat
        exact absurd (hO' _ ow) (by rw [e]; nofun)
      have hat₁ : H₁.IsList a #[.int p t₁] := hat.at fun o e => hk' _ _ e
      refine wpAny_execs_cons ?_
      refine wpAny_Assign_Name ?_
      refine Subscript_ ?_
      refine F'.ldF rfl ?_
      refine wpAny_Slice ?_
      refine wpAny_evalPart_some ?_
      refine Subscript_ ?_
      refine F'.ldF rfl ?_
      refine c_intD ?_
      refine s_list (vs := [.int p t₁]) hat₁ (by decide) rfl ?_ (by rfl) (show 1 ≤ 100000 by decide)
      refine wpAny_evalPart_some ?_
      refine wpAny_BinOp ?_
      refine Subscript_ ?_
      refine F'.ldF rfl ?_
      refine c_intD ?_
      refine s_list (vs := [.int p t₁]) hat₁ (by decide) rfl ?_ (by rfl) (show 1 ≤ 100000 by decide)
      refine F'.ldL rfl ?_
      refine b_addD ?_
      refine wpAny_evalPart_none ?_
      refine sl_bytes (.int _ _) (.int _ _) (by rw [bz_size]; omega) ?_
      intro t₃ tk₃
      rw [bz_picked hp]
      refine (F'.grow0 (grow_push_mut F'.sub _)).stL ?_
      intro H₃ F₃' fo₃
      have hat₃ : H₃.IsList a #[.int p t₁] := hat₁.at fun o e => (fo₃ a fun o => nat o).trans (Heap.get?_push_of_some _ e)
      refine wpAny_execs_cons ?_
      refine wpAny_AugAssign_SubscriptAny ?_
      refine F₃'.ldF rfl ?_
      refine c_intD ?_
      refine wpAny_getItem_list hat₃ (by decide) (by decide) rfl ?_
      refine Call_ ?_
      refine F₃'.ldB ?_ Boot.len
      refine PyProof.Rows.callWith_builtin1 ?_
      refine spliced_more ?_
      refine F₃'.ldL rfl ?_
      refine spliced_none ?_
      refine l_bytes (by rw [bz_size]; simp; omega) ?_
      intro _ _
      refine iadd_int ?_
      refine wpAny_setItem_list hat₃ (by decide) (by decide) (show (0 : Int) < 1 by decide) ?_
      intro H₄ hat₄ sb₄
      have F₄' := F₃'.at (staysIn_refl _) (h' := H₄) (fun b o e => (sb₄.2 b fun q => by rw [q, off] at e; cases e).trans (F₃'.sub b o e)) (fun b o ow e => (sb₄.2 b fun q => nat (q ▸ ow)).trans e) (fun b ow => F₃'.own_off ow)
      refine wpAny_execs_cons ?_
      refine wpAny_Return_some ?_
      refine F₄'.ldL rfl ?_
      refine q₁ H₄ _ _ _ ⟨staysIn_refl _, F₄'.sub, fun b o hb e => ?_, fun b e => ?_, fun b o e n => by rw [e] at n; cases n⟩ (by rw [bz_size] at hat₄; simpa using hat₄)
      · exact (sb₄.2 b hb).trans ((fo₃ b fun ow => absurd (hO' _ ow) (by rw [e]; nofun)).trans (Heap.get?_push_of_some _ (hk' _ _ e)))
      · by_cases hb : b = a
        · obtain ⟨o, e', _⟩ := hat₄
          rw [hb, e']; nofun
        · cases e' : H.get? b with
          | none => exact absurd e' e
          | some o => rw [(sb₄.2 b hb).trans ((fo₃ b fun ow => absurd (hO' _ ow) (by rw [e']; nofun)).trans (Heap.get?_push_of_some _ (hk' _ _ e')))]; nofun
  · cases q : g'.get? 105 with
    | none => rfl
    | some o => exact absurd (G.fr _ _ q T.1) e105
end
end Mine
end

/-! text Read -/
section
open PySem PySem.W PyProof.Rows PySem.Spec PySem.Calls
set_option Elab.async false
set_option maxRecDepth 100000
set_option linter.unusedVariables false
namespace Mine
section
variable {prog : Program} {ω : Ws} {A : Around} {E : Value → Shared → Prop} {g h : Heap} {gn : Array GenState} {dr : Drawn} {tk : Nat} {os : OsState}

theorem meth_own {x dx : Addr} {es : List DictEntry} {n : Nat} {v : Value} {pl : Sem Bool} {Q : Value × List Value → Shared → Prop} (X : (KF ω.w).In h) (hx : h.get? x = some (instObj 38 dx)) (hd : h.get? dx = some (dictOf es n)) (hl : getL "read" es = some (some v)) (hv : handedIn v = true)
    (q : ∀ tk', Q (v, []) ⟨h, gn, dr, tk', os⟩) : wpAny (model prog ω.w) A (getMethod (.ref x) "read" pl) Q E ⟨h, gn, dr, tk, os⟩ := by
  have I0 : W.InstAt h x (instObj 38 dx) 38 (some (dictOf es n)) := ⟨hx, rfl, rfl, hd⟩
  have sp : ∀ (nm : Str) (r : Option Value), findIn (KF ω.w) (.ref 38) nm = some r → Looks (model prog ω.w) h (specialOf (.ref x) nm) r := fun nm r e => I0.type.andThen (looks_findIn X e)
  have hga : findIn (KF ω.w) (.ref 38) "__getattribute__" = some (some (.builtin "object.__getattribute__")) := by rfl
  have get : wpAny (model prog ω.w) A (getAttr (.ref x) "read") (fun v s' => wpAny (model prog ω.w) A (pure (v, [])) Q E s') E ⟨h, gn, dr, tk, os⟩ :=
    get_value X I0 hga (findObj_own (attr := none) (by rfl) (by rfl) (by rfl) (by rw [lookIn_dict]; exact hl)) hv (wpAny_pure (q _))
  unfold getMethod
  refine wpAny_bind ((sp _ _ hga).at ?_)
  dsimp only
  rw [if_neg (by decide +kernel)]
  refine wpAny_bind ((sp "__getattr__" none (by rfl)).at ?_)
  rw [if_neg (by decide)]
  refine wpAny_bind ((sp "read" none (by rfl)).at ?_)
  exact wpAny_bind get

/-- what a raise leaves: all but fields, and but X, up to slots -/
noncomputable def UpX (X : Addr → Prop) (h h' : Heap) : Prop := ∀ b o, ¬ X b → h.get? b = some o → (∀ vs, o.data ≠ .fields vs) → ∃ sl, h'.get? b = some { o with slots := sl }
theorem UpX.list {X : Addr → Prop} {h h' : Heap} {a : Addr} {items : Array Value} (u : UpX X h h') (n : ¬ X a) (hl : h.IsList a items) : h'.IsList a items := by
  obtain ⟨o, ho, hc, m, hd⟩ := hl
  obtain ⟨sl, e⟩ := u a o n ho fun vs q => by rw [hd] at q; cases q
  exact ⟨_, e, hc, m, hd⟩
theorem up_list {h h' : Heap} {a : Addr} {items : Array Value} (u : h.UpToSlots h') (hl : h.IsList a items) : h'.IsList a items := by
  obtain ⟨o, ho, hc, m, hd⟩ := hl
  obtain ⟨sl, e⟩ := u a o ho fun vs q => by rw [hd] at q; cases q
  exact ⟨_, e, hc, m, hd⟩

theorem growA {a : Addr} {h h' : Heap} (S : g.StaysIn h') (k : ∀ b o, ¬ b = a → h.get? b = some o → h'.get? b = some o) {items : Array Value} (hl : h'.IsList a items) : GrowX (· = a) g h g h' :=
  ⟨staysIn_refl g, S, k, fun b e => by
    by_cases hb : b = a
    · obtain ⟨o, e', _⟩ := hl; rw [hb, e']; nofun
    · cases q : h.get? b with
      | none => exact absurd q e
      | some o => rw [k b o hb q]; nofun, fun b o e n => by rw [e] at n; cases n⟩
theorem frames_keep {g h h' : Heap} : ∀ {l : List Env}, h.FunFrames g l → (∀ L o, L ∈ l.filterMap (·.frame) → h.get? L = some o → (∀ vs, o.data ≠ .fields vs) → ∃ sl, h'.get? L = some { o with slots := sl }) → h'.FunFrames g l
  | [], _, _ => trivial
  | env :: rest, ⟨hk, ⟨L, o, hf, hn, ho, hd⟩, hr⟩, k => by
    obtain ⟨sl, e⟩ := k L o (by rw [List.filterMap_cons, hf]; exact .head _) ho hd
    refine ⟨hk, ⟨L, _, hf, hn, e, hd⟩, frames_keep hr fun L' o' hm => k L' o' ?_⟩
    rw [List.filterMap_cons, hf]; exact .tail _ hm

abbrev msg : Str := "not enough data in stream to read uint1"

/-- the exception that flies off the tape's end -/
structure Flew (g : Heap) (fs : List Env) (a : Addr) (p : Nat) (h : Heap) (e : Addr) (h' : Heap) : Prop where
  ex : ∃ tt tm t, Heap.FlyingW g fs e (.type "ValueError") (.ref tt) h' ∧ h'.TupAt tt [.str msg tm] ∧ g.get? tt = none ∧ h'.IsList a #[.int p t]
  up : UpX (· = a) h h'

theorem read1_ok {Q : Value → Shared → Prop} {x a : Addr} {oc : List Nat} {p : Nat} {t : Tok} {fs : List Env} (T : Tape prog ω g x a oc) (W : Wd ω g) (S : g.StaysIn h) (R : Rm A 8) (hfr : A.frames = some fs) (hff : h.FunFrames g fs) (hna : a ∉ fs.filterMap (·.frame))
    (hat : h.IsList a #[.int p t]) (off : g.get? a = none) (hp : p ≤ oc.length) (hoc : ∀ o ∈ oc, o < 256)
    (k1 : ∀ o h' tk' t' t'', oc[p]? = some o → GrowX (· = a) g h g h' → h'.IsList a #[.int (p + 1 : Nat) t''] → Q (.int (o : Nat) t') ⟨h', gn, dr, tk', os⟩)
    (k2 : oc[p]? = none → ∀ e h' tk', Flew g fs a p h e h' → E (.ref e) ⟨h', gn, dr, tk', os⟩) :
    wpAny (model prog ω.w) A (call (.ref 21) [.ref x]) Q E ⟨h, gn, dr, tk, os⟩ := by
  obtain ⟨dx, f, es, n, e1, e2, e3, e4, RO⟩ := T.ex
  have nat : ∀ {env : Env}, (∀ b, Own env b → h.get? b = none) → ∀ {P : Prop}, Own env a → P := fun hO P ow => by
    obtain ⟨o, e, _⟩ := hat
    exact absurd (hO _ ow) (by rw [e]; nofun)
  refine call_defR (k := 7) (binds := [("f", .ref x)]) W S R rfl rfl rfl rfl (by decide) (by decide) ?_
  intro L h₁ tk₁ A₁ E₁ Q₁ env vm₀ hQ hE R' hfA F hk hO
  refine wpAny_execs_cons ?_
  refine wpAny_Assign_Name ?_
  refine MethodCall_ ?_
  refine F.ldL rfl ?_
  refine meth_own F.kin (F.sub _ _ e1) (F.sub _ _ e2) e3 rfl ?_
  intro tk₂
  have fn : ∀ k : Heap, g.StaysIn k → FnAt f k := fun k s => let ⟨a1, a2, a3, a4, q⟩ := e4; ⟨a1, a2, a3, a4, s _ _ q⟩
  refine callWith_F (fn _ F.sub) ?_
  refine spliced_more ?_
  refine c_intD ?_
  refine spliced_none ?_
  refine ⟨fn _ F.sub, ?_⟩
  refine RO (staysIn_refl g) F.sub F.wd (R'.le (by decide)) (hat.at fun o e => hk _ _ e) off hp ?_
  intro h₂ tk₃ t₃ t₄ G₂ hat₂
  have F₂ := F.grow G₂ fun b ow q => nat hO (q ▸ ow)
  refine F₂.stL ?_
  intro h₃ F₃ fo₃
  have hat₃ := hat₂.at (h' := h₃) fun o e => (fo₃ a fun ow => nat hO ow).trans e
  have k₃ : ∀ b o, ¬ b = a → h.get? b = some o → h₃.get? b = some o := fun b o hb e => (fo₃ b fun ow => absurd (hO _ ow) (by rw [e]; nofun)).trans (G₂.hh b o hb (hk _ _ e))
  refine wpAny_execs_cons ?_
  refine wpAny_If ?_
  refine isTrue_plain ?_
  refine F₃.ldL rfl ?_
  refine truthy_bytes (by rw [bz_size]; simp; omega) ?_
  rw [bz_size]
  cases ho : oc[p]? with
  | some o =>
    have hlt := (List.getElem?_eq_some_iff.mp ho).1
    have ht : (oc.drop p).take 1 = [o] := by
      rw [List.drop_eq_getElem_cons hlt]
      have := (List.getElem?_eq_some_iff.mp ho).2
      simp [this]
    rw [ht] at hat₃ F₃ ⊢
    rw [if_pos (show ((([o].length : Nat) : Int) != 0) = true by rfl)]
    refine wpAny_execs_cons ?_
    refine wpAny_Return_some ?_
    refine Subscript_ ?_
    refine F₃.ldL rfl ?_
    refine c_intD ?_
    refine bytes_item_K (x := [o.toUInt8]) (show 1 ≤ 1099511627776 by decide) (by decide) (show (0 : Int) < 1 by decide) rfl ?_
    have e5 : (([o.toUInt8].getD (0 : Int).toNat 0).toNat : Int) = (o : Nat) := by
      have := hoc o (List.mem_of_getElem? ho)
      show ((o.toUInt8).toNat : Int) = _
      rw [Nat.toUInt8_eq, UInt8.toNat_ofNat']
      omega
    rw [e5]
    refine hQ _ _ ?_
    refine k1 o h₃ _ _ _ ho (growA F₃.sub k₃ hat₃) hat₃
  | none =>
    have hlt := List.getElem?_eq_none_iff.mp ho
    have ht : (oc.drop p).take 1 = [] := by rw [List.drop_eq_nil_of_le hlt]; rfl
    rw [ht] at hat₃ F₃ ⊢
    rw [if_neg (by decide)]
    refine wpAny_execs_nil ?_
    refine wpAny_execs_cons ?_
    refine Raise_madeB PySem.F.excCall_ValueError PySem.F.excRaise_ValueError R'.hd ?_
    refine F₃.ldB ?_ Boot.ValueError
    refine ⟨rfl, ?_⟩
    refine spliced_more ?_
    refine c_str ?_; intro t₆ tk₆
    refine spliced_none ?_
    refine ⟨show 1 ≤ sizeLine by decide, ?_⟩
    intro h₄ e hx
    obtain ⟨m, hns, _⟩ := F₃.ns
    have ff₃ := frames_keep hff fun L' o hm ho hd => ⟨o.slots, k₃ _ _ (fun q => hna (q ▸ hm)) ho⟩
    refine hE _ _ ?_
    refine wpAny_leaves_madeW (base := g) (hfA _ hfr) rfl F₃.sub (.cons (L := L) (show ScopeKind.function ≠ .module by decide) rfl hns F₃.offL ff₃) hx.of ?_
    intro h₅ tt fl ta nt up
    have hat₅ := up_list up (hat₃.at fun o e' => hx.keeps _ _ e')
    refine k2 ho e h₅ _ ⟨⟨tt, t₆, _, fl, ta, nt, hat₅⟩, fun b o hb e' hnf => ?_⟩
    · exact up b o (hx.keeps _ _ (k₃ b o hb e')) hnf
end
end Mine
end

/-! text Fly -/
section
open PySem PySem.W PyProof.Rows PySem.Spec PySem.Calls
set_option Elab.async false
set_option maxRecDepth 100000
set_option linter.unusedVariables false
namespace Mine
section
variable {M : Model} {A : Around} {E : Value → Shared → Prop} {h : Heap} {gn : Array GenState} {dr : Drawn} {tk : Nat} {os : OsState}

/-- an exception that bears any mark leaves a frame -/
theorem leave_any {base : Heap} {env : Env} {outer : List Env} {L e : Addr} {cls a0 fl : Value} {Q : Unit → Shared → Prop} (hfr : A.frames = some (env :: outer)) (hl : h.FunFrames base (env :: outer)) (hf : env.frame = some L) (ht : h.TracedAtW base e cls a0 fl) (hkb : base.StaysIn h) (hen : base.get? e = none)
    (q : ∀ h', Heap.FlyingW base outer e cls a0 h' → h.UpToSlots h' → Q () ⟨h', gn, dr, tk, os⟩) : wpAny M A (leaving env (.ref e)) Q E ⟨h, gn, dr, tk, os⟩ := by
  by_cases hfl : fl = rawInt L
  · subst hfl
    unfold leaving
    refine wpAny_bind (wpAny_noteFrame_againW hf ht ?_)
    refine wpAny_landsW (base := base) (l := env :: outer) (L := L) ⟨hkb, hen, hl, ht⟩ fun h' ⟨k1, k2, ⟨_, _, k3⟩, k4⟩ u => q h' ⟨k1, k2, k3, k4⟩ u
  · obtain ⟨oe, vs, T, oT, ts, he, ⟨hcls, h0⟩, hd, h1, hnT, hTe, hT, hdT, h3⟩ := ht
    subst hcls
    have other : ∀ b, b ≠ T → (h.update T (Obj.mapFields (·.setIfInBounds 3 Value.none))).get? b = h.get? b := fun b hb => Heap.get?_update_other _ _ (Ne.symm hb)
    have noRec : ∀ b o, h.get? b = some o → (∀ vs, o.data ≠ .fields vs) → b ≠ T := fun b o hb hnf q => by
      rw [q, hT] at hb; injection hb with hb; subst hb; exact hnf ts hdT
    unfold leaving noteFrame
    simp only [hf]
    refine wpAny_bind (wpAny_bind (wpAny_field he hd h1 ?_))
    rw [if_pos (show (Value.ref T != Value.none) = true from by simp)]
    refine wpAny_bind (wpAny_field hT hdT h3 ?_)
    rw [if_neg (show ¬ ((fl == rawInt L) = true) from by simpa using hfl)]
    refine wpAny_bind (wpAny_setField hT hdT (Array.getElem?_eq_some_iff.mp h3).1 ?_)
    refine wpAny_newEntryW (base := base) (outer := outer) hfr (hl.of_keeps fun b o hb hnf => ⟨o, (other b (noRec b o hb hnf)).trans hb, rfl⟩) hf ((other e (Ne.symm hTe)).trans he)
      (fun b o hb => (other b fun q => by rw [q, hnT] at hb; cases hb).trans (hkb b o hb)) hen hd (Array.getElem?_eq_some_iff.mp h1).1 h0 fun h' ⟨x1, ⟨_, _, x2⟩, x3, x4⟩ => ?_
    exact q h' ⟨x1, hen, x2, x3⟩ fun b o hb hnf => x4 b o ((other b (noRec b o hb hnf)).trans hb) hnf

/-- passOn: the mark is set, the exception goes on -/
theorem pass_on {α : Type} {base : Heap} {e : Addr} {cls a0 fl : Value} {what : String} {cenv : Env} {Q : α → Shared → Prop} (ht : h.TracedAtW base e cls a0 fl) (hkb : base.StaysIn h) 
    (q : ∀ h' fl', h'.TracedAtW base e cls a0 fl' → base.StaysIn h' → (∀ b o, h.get? b = some o → (∀ vs, o.data ≠ .fields vs) → h'.get? b = some o) → E (.ref e) ⟨h', gn, dr, tk, os⟩) : wpAny M A (PySem.passOn what (.ref e) cenv : Sem α) Q E ⟨h, gn, dr, tk, os⟩ := by
  obtain ⟨oe, vs, T, oT, ts, he, hcls, hd, h1, hnT, hTe, hT, hdT, h3⟩ := ht
  unfold PySem.passOn
  refine wpAny_bind (wpAny_field he hd h1 ?_)
  rw [if_neg (show ¬ ((Value.ref T == Value.none) = true) from by simp)]
  unfold setFlight
  refine wpAny_bind (wpAny_bind (wpAny_field he hd h1 ?_))
  rw [if_pos (show (Value.ref T != Value.none) = true from by simp)]
  refine wpAny_setField hT hdT (Array.getElem?_eq_some_iff.mp h3).1 ?_
  refine wpAny_throw ?_
  have other : ∀ b x, b ≠ T → (h.update T (Obj.mapFields (·.setIfInBounds 3 x))).get? b = h.get? b := fun b x hb => Heap.get?_update_other _ _ (Ne.symm hb)
  refine q _ (cenv.frame.elim .none fun f => rawInt f) ⟨oe, vs, T, _, _, (other e _ (Ne.symm hTe)).trans he, hcls, hd, h1, hnT, hTe, Heap.get?_update_self _ hT (Obj.isFreed_of_fields (Obj.data_mapFields hdT _)), Obj.data_mapFields hdT _, ?_⟩ (fun b o hb => (other b _ fun q => by rw [q, hnT] at hb; cases hb).trans (hkb b o hb)) fun b o hb hnf => (other b _ fun q => ?_).trans hb
  · have hsz := (Array.getElem?_eq_some_iff.mp h3).1
    simp [hsz]
  · rw [q, hT] at hb; injection hb with hb; subst hb; exact hnf ts hdT
end
end Mine
end

/-! text Tree -/
section
open PySem PySem.W PyProof.Rows PySem.Spec PySem.Calls
set_option Elab.async false
set_option maxRecDepth 100000
set_option linter.unusedVariables false
namespace Mine

/-! the parse, plainly -/
noncomputable def pmany (f : List Nat → Option (PyData × List Nat)) : Nat → List Nat → Option (List PyData × List Nat)
  | 0, r => some ([], r)
  | k + 1, r => match f r with
    | some (t, r') => match pmany f k r' with
      | some (ts, r'') => some (t :: ts, r'')
      | none => none
    | none => none
noncomputable def ptree : Nat → List Nat → Option (PyData × List Nat)
  | 0, _ => none
  | _ + 1, [] => none
  | n + 1, o :: r => match pmany (ptree n) o r with
    | some (ts, r') => some (.list ts, r')
    | none => none

theorem pmany_last (f : List Nat → Option (PyData × List Nat)) : ∀ (k : Nat) (r : List Nat), pmany f (k + 1) r = match pmany f k r with
    | some (ts, r') => (match f r' with
      | some (t, r'') => some (ts ++ [t], r'')
      | none => none)
    | none => none
  | 0, r => by
    simp only [pmany]
    cases f r with
    | none => rfl
    | some p => rfl
  | k + 1, r => by
    have ih := fun r' => pmany_last f k r'
    show (match f r with
      | some (t, r') => (match pmany f (k + 1) r' with | some (ts, r'') => some (t :: ts, r'') | none => none)
      | none => none) = match (match f r with
        | some (t, r') => (match pmany f k r' with | some (ts, r'') => some (t :: ts, r'') | none => none)
        | none => none) with
      | some (ts, r') => (match f r' with | some (t, r'') => some (ts ++ [t], r'') | none => none)
      | none => none
    cases f r with
    | none => rfl
    | some p =>
      obtain ⟨t, r'⟩ := p
      dsimp only
      rw [ih r']
      cases pmany f k r' with
      | none => rfl
      | some q =>
        obtain ⟨ts, r''⟩ := q
        dsimp only
        cases f r'' with
        | none => rfl
        | some s => rfl
theorem pmany_none (f : List Nat → Option (PyData × List Nat)) {i : Nat} {r : List Nat} (h : pmany f i r = none) : ∀ k, pmany f (i + k) r = none
  | 0 => h
  | k + 1 => by rw [← Nat.add_assoc, pmany_last, pmany_none f h k]
/-- the i-th tree -/
noncomputable def dAt (f : List Nat → Option (PyData × List Nat)) (r : List Nat) (i : Nat) : PyData := match pmany f (i + 1) r with
  | some (ts, _) => ts.getLast?.getD .none
  | none => .none
theorem pmany_len (f : List Nat → Option (PyData × List Nat)) (hf : ∀ r t r', f r = some (t, r') → r'.length < r.length) : ∀ (k : Nat) (r : List Nat) ts r', pmany f k r = some (ts, r') → r'.length + k ≤ r.length
  | 0, r, ts, r', h => by simp [pmany] at h; obtain ⟨_, rfl⟩ := h; simp
  | k + 1, r, ts, r', h => by
    simp only [pmany] at h
    split at h
    · rename_i t r1 h1
      split at h
      · rename_i ts1 r2 h2
        simp at h; obtain ⟨_, rfl⟩ := h
        have := pmany_len f hf k r1 _ _ h2
        have := hf _ _ _ h1
        omega
      · cases h
    · cases h
theorem ptree_len : ∀ (n : Nat) (r : List Nat) t r', ptree n r = some (t, r') → r'.length < r.length
  | 0, r, t, r', h => by simp [ptree] at h
  | n + 1, [], t, r', h => by simp [ptree] at h
  | n + 1, o :: r, t, r', h => by
    simp only [ptree] at h
    split at h
    · rename_i ts r1 h1
      simp at h; obtain ⟨_, rfl⟩ := h
      have := pmany_len (ptree n) (ptree_len n) o r _ _ h1
      simp; omega
    · cases h
/-- the rest is a rest -/
theorem pmany_rest (f : List Nat → Option (PyData × List Nat)) (hf : ∀ r t r', f r = some (t, r') → ∃ w, r = w ++ r') : ∀ (k : Nat) (r : List Nat) ts r', pmany f k r = some (ts, r') → ∃ w, r = w ++ r'
  | 0, r, ts, r', h => by simp [pmany] at h; obtain ⟨_, rfl⟩ := h; exact ⟨[], rfl⟩
  | k + 1, r, ts, r', h => by
    simp only [pmany] at h
    split at h
    · rename_i t r1 h1
      split at h
      · rename_i ts1 r2 h2
        simp at h; obtain ⟨_, rfl⟩ := h
        obtain ⟨w2, e2⟩ := pmany_rest f hf k r1 _ _ h2
        obtain ⟨w1, e1⟩ := hf _ _ _ h1
        exact ⟨w1 ++ w2, by rw [e1, e2, List.append_assoc]⟩
      · cases h
    · cases h
theorem ptree_rest : ∀ (n : Nat) (r : List Nat) t r', ptree n r = some (t, r') → ∃ w, r = w ++ r'
  | 0, r, t, r', h => by simp [ptree] at h
  | n + 1, [], t, r', h => by simp [ptree] at h
  | n + 1, o :: r, t, r', h => by
    simp only [ptree] at h
    split at h
    · rename_i ts r1 h1
      simp at h; obtain ⟨_, rfl⟩ := h
      obtain ⟨w, e⟩ := pmany_rest (ptree n) (ptree_rest n) o r _ _ h1
      exact ⟨o :: w, by rw [e]; rfl⟩
    · cases h

noncomputable def TreeOk (prog : Program) (ω : Ws) (n : Nat) : Prop :=
  ∀ {g h : Heap} {gn : Array GenState} {dr : Drawn} {tk : Nat} {os : OsState} {A : Around} {Q E : Value → Shared → Prop} {x a : Addr} {oc : List Nat} {p : Nat} {t : Tok} {fs : List Env}, Tape prog ω g x a oc → Wd ω g → g.StaysIn h → Rm A (3 * n + 10) → A.frames = some fs → h.FunFrames g fs → a ∉ fs.filterMap (·.frame) →
    h.IsList a #[.int p t] → g.get? a = none → p ≤ oc.length → (∀ o ∈ oc, o < 256) → oc.length ≤ 1000 → oc.length - p < n →
    (∀ d r' v g' h' tk' t'', ptree n (oc.drop p) = some (d, r') → GrowX (· = a) g h g' h' → Rd g' v d → h'.IsList a #[.int (oc.length - r'.length : Nat) t''] → Q v ⟨h', gn, dr, tk', os⟩) →
    (ptree n (oc.drop p) = none → ∀ e h' tk', Flew g fs a oc.length h e h' → E (.ref e) ⟨h', gn, dr, tk', os⟩) →
    wpAny (model prog ω.w) A (call (.ref 134) [.ref x]) Q E ⟨h, gn, dr, tk, os⟩
end Mine
end

/-! text Tree2 -/
section
open PySem PySem.W PyProof.Rows PySem.Spec PySem.Calls
set_option Elab.async false
set_option maxRecDepth 100000
set_option linter.unusedVariables false
namespace Mine
theorem drop_rest {oc r' : List Nat} {p : Nat} (hp : p ≤ oc.length) (h : ∃ w, oc.drop p = w ++ r') : oc.drop (oc.length - r'.length) = r' := by
  obtain ⟨w, e⟩ := h
  have hl : oc.length - p = w.length + r'.length := by rw [← List.length_drop, e]; simp
  have e3 : oc.drop (oc.length - r'.length) = (oc.drop p).drop w.length := by rw [List.drop_drop]; congr 1; omega
  rw [e3, e]; simp

section
variable {ω : Ws} {g h : Heap} {env : Env} {vm : Str → Option Value} {fs : List Env} {a : Addr}
theorem frames_push (F : Fm ω g env vm h) (ff : h.FunFrames g fs) (hk : env.scope.kind = .function := by rfl) (hf : env.frame = some env.locals := by rfl) : h.FunFrames g (env :: fs) := by
  obtain ⟨m, hns, _⟩ := F.ns
  exact .cons (by rw [hk]; decide) hf hns F.offL ff
theorem na_push (_F : Fm ω g env vm h) (hna : a ∉ fs.filterMap (·.frame)) (ne : a ≠ env.locals) (hf : env.frame = some env.locals := by rfl) : a ∉ (env :: fs).filterMap (·.frame) := by
  rw [List.filterMap_cons, hf]
  intro hm
  rcases List.mem_cons.mp hm with q | q
  · exact ne q
  · exact hna q
end

theorem frames_grow {X : Addr → Prop} {g h g' h' : Heap} (G : GrowX X g h g' h') : ∀ {l : List Env}, h.FunFrames g l → (∀ L, L ∈ l.filterMap (·.frame) → ¬ X L) → h'.FunFrames g' l
  | [], _, _ => trivial
  | env :: rest, ⟨hk, ⟨L, o, hf, hn, ho, hd⟩, hr⟩, k => by
    refine ⟨hk, ⟨L, o, hf, G.off hn ho, G.hh L o (k L (by rw [List.filterMap_cons, hf]; exact .head _)) ho, hd⟩, frames_grow G hr fun L' hm => k L' ?_⟩
    rw [List.filterMap_cons, hf]; exact .tail _ hm
theorem frames_base {g g' h : Heap} (k : g.StaysIn g') : ∀ {l : List Env}, h.FunFrames g' l → h.FunFrames g l
  | [], _ => trivial
  | env :: rest, ⟨hk, ⟨L, o, hf, hn, ho, hd⟩, hr⟩ => ⟨hk, ⟨L, o, hf, none_of_sub k hn, ho, hd⟩, frames_base k hr⟩
theorem flyingW_base {g g' h : Heap} {l : List Env} {e : Addr} {c a0 : Value} (k : g.StaysIn g') (f : Heap.FlyingW g' l e c a0 h) : Heap.FlyingW g l e c a0 h := by
  obtain ⟨f1, f2, f3, oe, vs, T, oT, ts, a1, a2, a3, a4, a5, r⟩ := f
  exact ⟨staysIn_trans k f1, none_of_sub k f2, frames_base k f3, oe, vs, T, oT, ts, a1, a2, a3, a4, none_of_sub k a5, r⟩
theorem traced_same {base h h' : Heap} {e : Addr} {c a0 fl : Value} (t : h.TracedAtW base e c a0 fl) (k : ∀ b o vs, h.get? b = some o → o.data = .fields vs → h'.get? b = some o) : h'.TracedAtW base e c a0 fl := by
  obtain ⟨oe, vs, T, oT, ts, a1, a2, a3, a4, a5, a6, a7, a8, a9⟩ := t
  exact ⟨oe, vs, T, oT, ts, k _ _ _ a1 a3, a2, a3, a4, a5, a6, k _ _ _ a7 a8, a8, a9⟩
theorem UpX.ns {X : Addr → Prop} {h h' : Heap} {a : Addr} {m : Str → Option Value} (u : UpX X h h') (n : ¬ X a) (hn : h.Ns a m) : h'.Ns a m := by
  obtain ⟨o, es, ep, ho, hd, r⟩ := hn
  obtain ⟨sl, hs⟩ := u a o n ho fun vs q => by rw [hd] at q; cases q
  exact ⟨_, es, ep, hs, hd, r⟩
theorem noteFrame_comp (e : Value) (scope : Scope) (cl : List (Str × Addr)) (C : Addr) (env : Env) : noteFrame e (compEnvC scope cl C env) = noteFrame e env := rfl
theorem ns_ne_fields {h : Heap} {C b : Addr} {m : Str → Option Value} {o : Obj} {vs : Array Value} (n : h.Ns C m) (e : h.get? b = some o) (d : o.data = .fields vs) : b ≠ C := by
  obtain ⟨o', es, ep, ho, hd, _⟩ := n
  rintro rfl
  rw [e] at ho; cases ho
  rw [d] at hd; cases hd

theorem tree_step {prog : Program} {ω : Ws} (n : Nat) (ih : TreeOk prog ω n) : TreeOk prog ω (n + 1) := by
  intro g h gn dr tk os A Q E x a oc p t fs T W S R hfr hff hna hat off hp hoc hlen hfuel k1 k2
  have nat : ∀ {env : Env}, (∀ b, Own env b → h.get? b = none) → ∀ {P : Prop}, Own env a → P := fun hO P ow => by
    obtain ⟨o, e, _⟩ := hat
    exact absurd (hO _ ow) (by rw [e]; nofun)
  refine call_defR (k := 3 * n + 12) (binds := [("tape", .ref x)]) W S R rfl rfl rfl rfl (by decide) (by omega) ?_
  intro L h₁ tk₁ A₁ E₁ Q₁ env vm₀ hQ hE R' hfA F hk hO
  have hL : h.get? L = none := hO _ (.inl rfl)
  have hat₁ : h₁.IsList a #[.int p t] := hat.at fun o e => hk _ _ e
  have ff₁ := frames_push F (frames_keep (h' := h₁) hff fun L' o hm ho hd => ⟨o.slots, hk _ _ ho⟩)
  have na₁ := na_push F hna fun q => nat hO (.inl q)
  refine wpAny_execs_cons ?_
  refine wpAny_Assign_Name ?_
  refine Call_ ?_
  refine F.ldG (v := .ref 21) ?_
  refine callWith_K F.kin rfl ?_
  refine spliced_more ?_
  refine F.ldC rfl ?_
  refine spliced_none ?_
  refine ⟨F.kin, ?_⟩
  refine read1_ok T F.wd F.sub (R'.le (by omega)) (hfA _ hfr) ff₁ na₁ hat₁ off hp hoc ?_ ?_
  · intro o h₂ tk₂ t₂ t₃ ho G₂ hat₂
    have hlt := (List.getElem?_eq_some_iff.mp ho).1
    have F₂ := F.grow G₂ fun b ow q => nat hO (q ▸ ow)
    refine F₂.stLV ?_
    intro h₃ _ F₃ fo₃
    have hat₃ := hat₂.at (h' := h₃) fun o e => (fo₃ a fun ow => nat hO ow).trans e
    have k₃ : ∀ b o, ¬ b = a → h.get? b = some o → h₃.get? b = some o := fun b o hb e => (fo₃ b fun ow => absurd (hO _ ow) (by rw [e]; nofun)).trans (G₂.hh b o hb (hk _ _ e))
    have G₃ : GrowX (· = a) g h g h₃ := growA F₃.sub k₃ hat₃
    refine wpAny_execs_cons ?_
    refine wpAny_Return_some ?_
    refine ListComp_ rfl ?_
    refine Call_ ?_
    refine F₃.ldB ?_ boot_range
    refine PyProof.Rows.callWith_type1 ?_
    refine spliced_more ?_
    refine F₃.ldL rfl ?_
    refine spliced_none ?_
    refine r_range1 F₃.sub ?_
    intro r g₄ h₄ tk₄ t4 t5 t6 G₄ hr
    have F₄ := F₃.grow0 G₄
    have hat₄ : h₄.IsList a #[.int (p + 1 : Nat) t₃] := hat₃.at fun o e => G₄.keep _ _ e
    have off₄ : g₄.get? a = none := by obtain ⟨o, e, _⟩ := hat₃; exact G₄.off off e
    have G₀₄ : GrowX (· = a) g h g₄ h₄ := G₃.trans (G₄.wide fun _ q => q.elim)
    have hdrop : oc.drop p = o :: oc.drop (p + 1) := by
      rw [List.drop_eq_getElem_cons hlt]
      rw [(List.getElem?_eq_some_iff.mp ho).2]
    have hpt : ptree (n + 1) (oc.drop p) = match pmany (ptree n) o (oc.drop (p + 1)) with | some (ts, r') => some (.list ts, r') | none => none := by rw [hdrop]; rfl
    generalize hrr : oc.drop (p + 1) = rr at *
    have ho256 : o < 256 := hoc o (List.mem_of_getElem? ho)
    refine comp_valE (It.range1 (n := o) R'.hd hr (by omega)) F₄ (· = a) (fun i g' h' => ∃ pi ti, h'.IsList a #[.int (pi : Nat) ti] ∧ pi ≤ oc.length ∧ p + 1 ≤ pi ∧ pmany (ptree n) i rr = some ((List.range i).map (dAt (ptree n) rr), oc.drop pi))
      (fun i y g => Rd g y (dAt (ptree n) rr i)) (fun _ => true) (by omega) (fun _ _ _ _ k r => r.mono k) ?hK ?stab ⟨p + 1, t₃, hat₄, hlt, Nat.le_refl _, by rw [hrr]; rfl⟩ ?turn ?done ?hsub
    case hK =>
      rintro b rfl
      refine ⟨?_, fun ow => nat hO ow, off₄⟩
      obtain ⟨o, e, _⟩ := hat₄; rw [e]; nofun
    case stab =>
      rintro i g₁ g₂ H₁ H₂ _ ⟨pi, ti, hl, r⟩ k
      exact ⟨pi, ti, hl.at fun o e => k _ _ rfl e, r⟩
    case hsub =>
      intro nm c e
      by_cases hn : nm = "tape"
      · subst hn; exact ⟨e, rfl⟩
      · have m1 := mem_of_lookup (show List.lookup nm [(("tape" : Str), L + 1)] = some c from e)
        simp [hn] at m1
    case done =>
      rintro D ys g₅ h₅ tk₅ G₅ ⟨pi, ti, hl, hpi, _, hpm⟩ hD hlD cc F₅
      refine hQ _ _ ?_
      refine k1 (.list ((List.range o).map (dAt (ptree n) rr))) (oc.drop pi) _ g₅ h₅ _ ti ?_ (G₀₄.trans G₅) (.list hlD cc.rdAll) ?_
      · rw [hpt, hpm]
      · rw [List.length_drop, show oc.length - (oc.length - pi) = pi by omega]; exact hl
    case turn =>
      rintro i v C D g₅ h₅ tk₅ hi hv ⟨pi, ti, hl, hpi, hpi', hpm⟩ G₅ hC cenv cvm FC F₅
      refine compTurn_nil F₅.sub ?_
      refine Call_ ?_
      refine FC.ldG (v := .ref 134) ?_
      refine callWith_K FC.kin rfl ?_
      refine spliced_more ?_
      refine FC.ldC rfl ?_
      refine spliced_none ?_
      refine ⟨FC.kin, ?_⟩
      have G₀₅ := G₀₄.trans G₅
      have off₅ : g₅.get? a = none := by obtain ⟨o, e, _⟩ := hat₄; exact G₅.off off₄ e
      have ff₅ := frames_push F₅ (frames_grow G₀₅ hff fun L' hm q => hna (q ▸ hm))
      refine ih (T.mono G₀₅.gg) FC.wd FC.sub (R'.le (by omega)) (hfA _ hfr) ff₅ na₁ hl off₅ hpi hoc hlen (by omega) ?_ ?_
      · intro d r₂ y g₆ h₆ tk₆ t₇ hpt₆ G₆ hrd hl₆
        have hd6 := drop_rest (oc := oc) (p := pi) hpi (ptree_rest n _ _ _ hpt₆)
        have hlast : pmany (ptree n) (i + 1) rr = some ((List.range i).map (dAt (ptree n) rr) ++ [d], r₂) := by rw [pmany_last, hpm]; dsimp only; rw [hpt₆]
        have hdi : dAt (ptree n) rr i = d := by unfold dAt; rw [hlast]; simp
        have hlen6 := ptree_len n _ _ _ hpt₆
        rw [List.length_drop] at hlen6
        refine ⟨g₆, h₆, tk₆, rfl, G₆, ⟨_, t₇, hl₆, by omega, by omega, ?_⟩, hdi ▸ hrd⟩
        rw [hlast, hd6, List.range_succ, List.map_append, List.map_singleton, hdi]
      · intro hnone e h₆ tk₆ fl
        obtain ⟨⟨tt, tm, t', hfl, ta, nt, hl₆⟩, up⟩ := fl
        show wpAny _ _ (noteFrame (.ref e) (compEnvC _ _ _ _)) _ _ _
        rw [noteFrame_comp]
        refine wpAny_looks_onW (base := g₅) (hfA _ hfr) rfl hfl ?_
        intro h₇ held up₇
        obtain ⟨mC, nsC, _⟩ := FC.ns
        have aC : a ≠ C := fun q => by obtain ⟨o, e1, _⟩ := hat₄; rw [q, hC] at e1; cases e1
        have ns₇ : h₇.Ns C mC := up₇.ns (up.ns (Ne.symm aC) nsC)
        refine ⟨mC, ns₇, fun h₈ sb₈ cenv' hc' => ?_⟩
        have sb : Heap.SameBut C h₇ h₈ := sb₈
        obtain ⟨s₇, en₇, ff₇, tr₇⟩ := held
        have tr₈ := traced_same (h' := h₈) tr₇ fun b o vs e1 d => (sb.2 b (ns_ne_fields ns₇ e1 d)).trans e1
        have s₈ : g₅.StaysIn h₈ := fun b o e1 => (sb.2 b fun q => by
          have := FC.offL
          rw [show (compEnvC _ _ C _).locals = C from rfl, ← q] at this
          rw [this] at e1; cases e1).trans (s₇ b o e1)
        refine pass_on (base := g₅) tr₈ s₈ ?_
        intro h₉ fl' tr₉ s₉ k₉
        have fC : ∀ L', L' ∈ List.filterMap (·.frame) (_ :: fs) → L' ≠ C := fun L' hm q => by
          obtain ⟨_, o, e1, _⟩ := ff₇.mem hm
          obtain ⟨o2, es2, ep2, e2, d2, _⟩ := ns₇
          rcases List.mem_cons.mp (show L' ∈ L :: fs.filterMap (·.frame) from hm) with r | r
          · exact F₄.own_alive (.inl rfl) (show Heap.get? _ L = none by rw [show L = C from r.symm.trans q]; exact hC)
          · obtain ⟨_, o3, e3, _⟩ := hff.mem r
            have := G₀₄.hh L' o3 (fun s => hna (s ▸ r)) e3
            rw [q, hC] at this; cases this
        have ff₈ := frames_keep (h' := h₈) ff₇ fun L' o hm ho hd => ⟨o.slots, (sb.2 L' (fC L' hm)).trans ho⟩
        have ff₉ := frames_keep (h' := h₉) ff₈ fun L' o hm ho hd => ⟨o.slots, k₉ L' o ho hd⟩
        refine hE _ _ ?_
        refine leave_any (base := g₅) (hfA _ hfr) ff₉ rfl tr₉ s₉ en₇ ?_
        intro h₁₀ fl₁₀ up₁₀
        have step : ∀ b o, b ≠ C → h₇.get? b = some o → (∀ vs, o.data ≠ .fields vs) → ∃ sl, h₁₀.get? b = some { o with slots := sl } := fun b o hb e1 hnf => up₁₀ b o (k₉ b o ((sb.2 b hb).trans e1) hnf) hnf
        have hl₁₀ : h₁₀.IsList a #[.int oc.length t'] := by
          obtain ⟨o, e1, c1, m1, d1⟩ := up_list up₇ hl₆
          obtain ⟨sl, e2⟩ := step a o aC e1 fun vs q => by rw [d1] at q; cases q
          exact ⟨_, e2, c1, m1, d1⟩
        have ta₁₀ : h₁₀.TupAt tt [.str msg tm] := by
          obtain ⟨o, m1, e1, c1, d1⟩ := ta.of_slots up₇
          obtain ⟨sl, e2⟩ := step tt o (fun q => by
            obtain ⟨o2, es2, ep2, e2, d2, _⟩ := ns₇
            rw [← q, e1] at e2; cases e2; rw [d1] at d2; cases d2) e1 fun vs q => by rw [d1] at q; cases q
          exact ⟨_, m1, e2, c1, d1⟩
        refine k2 ?_ e h₁₀ _ ⟨⟨tt, tm, t', flyingW_base G₀₅.gg fl₁₀, ta₁₀, none_of_sub G₀₅.gg nt, hl₁₀⟩, fun b o hb e1 hnf => ?_⟩
        · rw [hpt]
          have hlast : pmany (ptree n) (i + 1) rr = none := by rw [pmany_last, hpm]; dsimp only; rw [hnone]
          have := pmany_none (ptree n) hlast (o - (i + 1))
          rw [show i + 1 + (o - (i + 1)) = o by omega] at this
          rw [this]
        · have e2 := G₀₅.hh b o hb e1
          obtain ⟨sl, e3⟩ := up b o hb e2 hnf
          obtain ⟨sl2, e4⟩ := up₇ b _ e3 hnf
          obtain ⟨sl3, e5⟩ := step b _ (fun q => by have := G₀₄.hh b o hb e1; rw [q, hC] at this; cases this) e4 hnf
          exact ⟨sl3, e5⟩
  · intro hnone e h₂ tk₂ fl
    obtain ⟨⟨tt, tm, t', hfl, ta, nt, hl⟩, up⟩ := fl
    have hpe : p = oc.length := by have := List.getElem?_eq_none_iff.mp hnone; omega
    refine hE _ _ ?_
    refine wpAny_leaves_onW (base := g) (hfA _ hfr) rfl hfl ?_
    intro h₃ hfl₃ up₃
    refine k2 ?_ e h₃ _ ⟨⟨tt, tm, t', hfl₃, ta.of_slots up₃, nt, up_list up₃ (hpe ▸ hl)⟩, fun b o hb e' hnf => ?_⟩
    · rw [List.drop_eq_nil_of_le (by omega)]; rfl
    · obtain ⟨sl, e1⟩ := up b o hb (hk _ _ e') hnf
      obtain ⟨sl2, e2⟩ := up₃ b _ e1 hnf
      exact ⟨sl2, e2⟩

theorem tree_ok {prog : Program} {ω : Ws} : ∀ n, TreeOk prog ω n
  | 0 => by
    intro T W S R hfr hff hna hat off hp hoc hlen hfuel
    omega
  | n + 1 => tree_step n (tree_ok n)
end Mine
end

/-! text Told -/
section
open PySem PySem.W PyProof.Rows PySem.Spec PySem.Calls
set_option Elab.async false
set_option maxRecDepth 100000
set_option linter.unusedVariables false
namespace Mine

/-- the parse so far -/
inductive Told (oc : List Nat) : List PyData → List Nat → Nat → Prop
  | nil : Told oc [] [0] 0
  | snoc {ts es p t r} : Told oc ts es p → ptree 13 (oc.drop p) = some (t, r) → Told oc (ts ++ [t]) (es ++ [oc.length - r.length]) (oc.length - r.length)
theorem Told.le {oc : List Nat} {ts es p} (x : Told oc ts es p) : p ≤ oc.length ∧ ts.length ≤ p ∧ es.length = ts.length + 1 := by
  induction x with
  | nil => simp
  | @snoc ts es p t r x h ih =>
    have := ptree_len _ _ _ _ h
    rw [List.length_drop] at this
    simp; omega
noncomputable def toldD (ts : List PyData) (es : List Nat) (n : Nat) : PyData := .list [.list ts, .list (es.map fun e => .int (e : Nat)), .int (n : Nat), .tuple [.str msg]]

section
variable {prog : Program} {ω : Ws} {A : Around} {E : Value → Shared → Prop} {g h : Heap} {gn : Array GenState} {dr : Drawn} {tk : Nat} {os : OsState}
theorem g_app {l : Addr} {items : Array Value} {pl : Sem Bool} {Q : Value × List Value → Shared → Prop} {s : Shared} (hl : s.heap.PlainList l items) (q : Q (.builtin "list.append", [.ref l]) s) :
    wpAny (model prog ω.w) A (getMethod (.ref l) "append" pl) Q E s :=
  getMethod_list_of slot_list_append rfl hl.isList (let ⟨n, e⟩ := hl; ⟨_, e, rfl⟩) q

/-- a turned list: the view stays -/
theorem growL {l : Addr} {h h' : Heap} (S : g.StaysIn h) (off : g.get? l = none) (hs : Heap.SameBut l h h') (al : h'.get? l ≠ none) : GrowX (· = l) g h g h' :=
  ⟨staysIn_refl g, fun a o e => (hs.2 a fun q => by rw [q, off] at e; cases e).trans (S a o e), fun a o n e => (hs.2 a n).trans e, fun a n => by
    by_cases ha : a = l
    · rw [ha]; exact al
    · rw [hs.2 a ha]; exact n, fun a o e n => by rw [e] at n; cases n⟩
theorem plain_al {h : Heap} {l : Addr} {items : Array Value} (x : h.PlainList l items) : h.get? l ≠ none := by obtain ⟨n, e⟩ := x; rw [e]; nofun

/-- what turns outside of what was alive -/
theorem GrowX.later {X Y : Addr → Prop} {g h g' h' g'' h'' : Heap} (x : GrowX X g h g' h') (y : GrowX Y g' h' g'' h'') (hy : ∀ a, Y a → X a ∨ h.get? a = none) : GrowX X g h g'' h'' where
  gg := staysIn_trans x.gg y.gg
  gh := y.gh
  hh := fun a o n e => y.hh a o (fun q => (hy a q).elim n fun r => by rw [e] at r; cases r) (x.hh a o n e)
  al := fun a e => y.al a (x.al a e)
  fr := fun a o e n => by
    cases q : g'.get? a with
    | some o' => exact x.fr a o' q n
    | none =>
      have := y.fr a o e q
      apply Classical.byContradiction
      intro hn
      exact x.al a hn this

theorem Fm.upX {X : Addr → Prop} {g g' h h' : Heap} {env : Env} {vm : Str → Option Value} (F : Fm ω g env vm h) (gg : g.StaysIn g') (S : g'.StaysIn h') (u : UpX X h h') (hX : ∀ a, Own env a → ¬ X a) (off : ∀ a, Own env a → g'.get? a = none) : Fm ω g' env vm h' where
  wd := F.wd.mono gg
  sub := S
  ns := let ⟨m, hn, q⟩ := F.ns; ⟨m, u.ns (hX _ (.inl rfl)) hn, q⟩
  cell := fun n c e => by
    by_cases hk : env.kindOf n = some .cell
    · obtain ⟨o, ho, hd⟩ := F.cell n c e
      obtain ⟨sl, hs⟩ := u c o (hX _ (.inr ⟨n, e, hk⟩)) ho fun vs q => by rw [hd] at q; cases q
      exact ⟨_, hs, hd⟩
    · exact ((F.inF n c e hk).keeps gg).keeps S
  inj := F.inj
  offL := off _ (.inl rfl)
  offC := fun n c e hk => off _ (.inr ⟨n, e, hk⟩)
  inF := fun n c e hk => (F.inF n c e hk).keeps gg
theorem frames_to {g g' h : Heap} : ∀ {l : List Env}, h.FunFrames g l → (∀ L, L ∈ l.filterMap (·.frame) → g'.get? L = none) → h.FunFrames g' l
  | [], _, _ => trivial
  | env :: rest, ⟨hk, ⟨L, o, hf, hn, ho, hd⟩, hr⟩, k => by
    refine ⟨hk, ⟨L, o, hf, k L (by rw [List.filterMap_cons, hf]; exact .head _), ho, hd⟩, frames_to hr fun L' hm => k L' ?_⟩
    rw [List.filterMap_cons, hf]; exact .tail _ hm

theorem own1 {env : Env} {a : Addr} (ow : Own env a) (h : env.cells = [] := by rfl) : a = env.locals := by
  rcases ow with q | ⟨n, e, _⟩
  · exact q
  · rw [h] at e; cases e
/-- slots of the frames -/
noncomputable def InFr (fs : List Env) (a : Addr) : Prop := a ∈ fs.filterMap (·.frame)
noncomputable def SlotsOnly (fs : List Env) (h h' : Heap) : Prop := ∀ L o, InFr fs L → h.get? L = some o → ∃ sl, h'.get? L = some { o with slots := sl }

/-- a list whose first item is a plain list -/
noncomputable def PL0 (g : Heap) (v : Value) : Prop := ∃ D ta vs rest, v = .ref D ∧ g.IsList D (Value.ref ta :: rest).toArray ∧ g.PlainList ta (vs : List Value).toArray
theorem PL0.mono {g g' : Heap} {v : Value} (x : PL0 g v) (k : g.StaysIn g') : PL0 g' v := let ⟨D, ta, vs, rest, e, a, b⟩ := x; ⟨D, ta, vs, rest, e, a.at fun o e => k _ _ e, b.at fun o e => k _ _ e⟩

theorem told_ok {Q : Value → Shared → Prop} {oc : List Nat} {tb : Tok} {fs : List Env} (W : Wd ω g) (S : g.StaysIn h) (R : Rm A 60) (hfr : A.frames = some fs) (hff : h.FunFrames g fs) (h105 : ¬ InFr fs 105) (hfns : ∀ L, InFr fs L → ∃ m, h.Ns L m) (T : Tb g h) (h12 : oc.length = 12) (hoc : ∀ o ∈ oc, o < 256)
    (q : ∀ ts es p v g' h' tk', Told oc ts es p → ptree 13 (oc.drop p) = none → GrowX (fun b => b = 105 ∨ InFr fs b) g h g' h' → SlotsOnly fs h h' → Rd g' v (toldD ts es 12) → PL0 g' v → Tb g' h' → Q v ⟨h', gn, dr, tk', os⟩) :
    wpAny (model prog ω.w) A (call (.ref 141) [.bytes (bz oc) tb]) Q E ⟨h, gn, dr, tk, os⟩ := by
  refine call_defV (k := 59) (binds := [("octets", .bytes (bz oc) tb)]) W S R rfl rfl rfl rfl (by decide) (by decide) ?_
  intro L h₁ tk₁ A₁ E₁ Q₁ env vm₀ hQ R' hA' F hk hO
  have hL : h.get? L = none := hO _ (.inl rfl)
  refine wpAny_execs_cons ?_
  refine wpAny_Assign_Name ?_
  refine List_ ?_
  refine spliced_more ?_
  refine c_intD ?_
  refine spliced_none ?_
  refine n_listM F.sub ?_ (by simp)
  intro a h₂ G₂ hat₂ na₁ oa
  have F₂ := F.grow0 G₂
  refine F₂.stLV ?_
  intro h₃ _ F₃ fo₃
  refine wpAny_execs_cons ?_
  refine wpAny_Assign_Name ?_
  refine Call_ ?_
  refine F₃.ldG (v := .ref 110) ?_
  refine callWith_K F₃.kin rfl ?_
  refine spliced_more ?_
  refine F₃.ldL rfl ?_
  refine spliced_more ?_
  refine F₃.ldL rfl ?_
  refine spliced_none ?_
  refine ⟨F₃.kin, ?_⟩
  have aL : a ≠ L := fun q => F.own_alive (.inl rfl) (show Heap.get? _ L = none by rw [← q]; exact na₁)
  have k₃ : h.StaysIn h₃ := fun b o e => (fo₃ b fun ow => by have e2 : _ = L := own1 ow; rw [e2, hL] at e; cases e).trans (G₂.keep _ _ (hk _ _ e))
  have e105 : h.get? 105 ≠ none := by rcases T.2 with e | ⟨c, e, _⟩ <;> rw [e] <;> nofun
  have T₃ : Tb g h₃ := ⟨T.1, T.2.imp (fun e => k₃ _ _ e) fun ⟨c, e, r⟩ => ⟨c, k₃ _ _ e, r⟩⟩
  have hat₃ : h₃.PlainList a [.int 0 _].toArray := hat₂.at fun o e => (fo₃ a fun ow => aL (own1 ow)).trans e
  refine stream_ok F₃.wd F₃.sub (R'.le (by decide)) T₃ (by omega) ?_
  intro x g₄ h₄ tk₄ G₄ TP T₄
  have na : h.get? a = none := none_of_sub hk na₁
  have L105 : L ≠ 105 := fun q => e105 (q ▸ hL)
  have a105 : a ≠ 105 := fun q => e105 (q ▸ na)
  have F₄ := F₃.grow G₄ fun b ow q => L105 ((own1 ow).symm.trans q)
  have oa₄ : g₄.get? a = none := by obtain ⟨n, e⟩ := hat₃; exact G₄.off oa e
  have hat₄ : h₄.PlainList a [.int 0 _].toArray := hat₃.at fun o e => G₄.hh _ _ a105 e
  have G04 : GrowX (· = 105) g h g₄ h₄ := (Grow.same S k₃).trans G₄
  refine F₄.stLV ?_
  intro h₅ _ F₅ fo₅
  refine wpAny_execs_cons ?_
  refine wpAny_Assign_Name ?_
  refine List_ ?_
  refine spliced_none ?_
  refine n_listM F₅.sub ?_ (by decide)
  intro ta h₆ G₆ hta₆ nta₅ ota
  have F₆ := F₅.grow0 G₆
  refine F₆.stLV ?_
  intro h₇ _ F₇ fo₇
  refine wpAny_execs_cons ?_
  refine wpAny_Assign_Name ?_
  refine List_ ?_
  refine spliced_more ?_
  refine c_intD ?_
  refine spliced_none ?_
  refine n_listM F₇.sub ?_ (by simp)
  intro ea h₈ G₈ hea₈ nea₇ oea
  have F₈ := F₇.grow0 G₈
  refine F₈.stLV ?_
  intro h₉ vm₉ F₉ fo₉
  have nta : h.get? ta = none := by
    cases e : h.get? ta with
    | none => rfl
    | some o =>
      have e1 := (fo₅ ta fun ow => by have e2 : _ = L := own1 ow; rw [e2, hL] at e; cases e).trans (G04.hh ta o (fun q => (by rw [q] at nta₅; exact (by
        have := T₄.2
        rcases this with e | ⟨c, e, _⟩ <;> rw [← fo₅ 105 (fun ow => L105 (own1 ow).symm)] at e <;> rw [nta₅] at e <;> cases e))) e)
      rw [nta₅] at e1; cases e1
  have taL : ta ≠ L := fun q => F₅.own_alive (.inl rfl) (show Heap.get? _ L = none by rw [← q]; exact nta₅)
  have eaL : ea ≠ L := fun q => F₇.own_alive (.inl rfl) (show Heap.get? _ L = none by rw [← q]; exact nea₇)
  have hta₇ := hta₆.at (h' := h₇) fun o e => (fo₇ ta fun ow => taL (own1 ow)).trans e
  have taea : ta ≠ ea := fun q => plain_al hta₇ (by rw [q]; exact nea₇)
  have hat₅ := hat₄.at (h' := h₅) fun o e => (fo₅ a fun ow => aL (own1 ow)).trans e
  have ata : a ≠ ta := fun q => plain_al hat₅ (by rw [q]; exact nta₅)
  have hat₇ := (hat₅.at (h' := h₆) fun o e => G₆.keep _ _ e).at (h' := h₇) fun o e => (fo₇ a fun ow => aL (own1 ow)).trans e
  have aea : a ≠ ea := fun q => plain_al hat₇ (by rw [q]; exact nea₇)
  have k₄₉ : ∀ b o, b ≠ L → h₄.get? b = some o → h₉.get? b = some o := fun b o hb e => (fo₉ b fun ow => hb (own1 ow)).trans (G₈.keep _ _ ((fo₇ b fun ow => hb (own1 ow)).trans (G₆.keep _ _ ((fo₅ b fun ow => hb (own1 ow)).trans e))))
  have G09 : GrowX (· = 105) g h g₄ h₉ := G04.step F₉.sub (fun b o _ n e => k₄₉ b o (fun q => n (by rw [q]; exact hL)) e) fun b n e => by
    cases e' : h₄.get? b with
    | none => exact absurd e' e
    | some o => rw [k₄₉ b o (fun q => n (by rw [q]; exact hL)) e']; nofun
  have nea : h.get? ea = none := by
    cases e : h.get? ea with
    | none => rfl
    | some o =>
      exfalso
      have h1 := G04.al ea (by rw [e]; nofun)
      cases e1 : h₄.get? ea with
      | none => exact h1 e1
      | some o1 =>
        have := (fo₇ ea fun ow => eaL (own1 ow)).trans (G₆.keep _ _ ((fo₅ ea fun ow => eaL (own1 ow)).trans e1))
        rw [nea₇] at this; cases this
  have T₉ : Tb g₄ h₉ := ⟨T₄.1, T₄.2.imp (fun e => k₄₉ _ _ (Ne.symm L105) e) fun ⟨c, e, r⟩ => ⟨c, k₄₉ _ _ (Ne.symm L105) e, r⟩⟩
  have hat₉ := hat₄.at (h' := h₉) fun o e => k₄₉ a o aL e
  have hta₉ := hta₇.at (h' := h₉) fun o e => (fo₉ ta fun ow => taL (own1 ow)).trans (G₈.keep _ _ e)
  have hea₉ := hea₈.at (h' := h₉) fun o e => (fo₉ ea fun ow => eaL (own1 ow)).trans e
  refine wpAny_execs_cons ?_
  refine wpAny_While ?_
  let Inv1 : Nat → Shared → Prop := fun k s => ∃ ts es p vs ws t g' h' tk', s = ⟨h', gn, dr, tk', os⟩ ∧ Told oc ts es p ∧ Fm ω g' env vm₉ h' ∧ GrowX (· = 105) g h g' h' ∧ Tape prog ω g' x a oc ∧ Tb g' h' ∧ h'.PlainList ta vs.toArray ∧ RdAll g' vs ts ∧ h'.PlainList ea ws.toArray ∧ RdAll g' ws (es.map fun e => .int (e : Nat)) ∧ h'.IsList a #[.int (p : Nat) t] ∧ g'.get? a = none ∧ g'.get? ta = none ∧ g'.get? ea = none ∧ k = 13 - ts.length
  refine codeAny_whileLoop Inv1 ?_ 13
    ⟨[], [0], 0, [], _, _, g₄, h₉, _, rfl, .nil, F₉, G09, TP, T₉, hta₉, .nil, hea₉, .cons (.int 0 _) .nil, by simpa using hat₉.isList, oa₄, ota, oea, rfl⟩
  rintro k s ⟨ts, es, p, vs, ws, t, g', h', tk', rfl, TD, F', G', TP', T', hta, rvs, hea, rws, hat, oa', ota', oea', rfl⟩
  obtain ⟨hp, htp, hes⟩ := TD.le
  refine wpAny_isTrue_Compare1 ?_
  refine Call_ ?_
  refine F'.ldB ?_ Boot.len
  refine PyProof.Rows.callWith_builtin1 ?_
  refine spliced_more ?_
  refine F'.ldL rfl ?_
  refine spliced_none ?_
  refine PyProof.Rows.len_list hta.isList (by rw [List.size_toArray, rvs.1]; omega) ?_
  refine c_intD ?_
  refine k_lt ?_
  refine t_bool ?_
  have hlt : decide (((vs.toArray.size : Nat) : Int) < 13) = true := by rw [List.size_toArray, rvs.1]; simp; omega
  rw [hlt, if_pos rfl]
  refine enter fun Q₂ E₂ hQ₂ hE₂ => ?_
  have ff' := frames_push F' (frames_grow G' hff fun L' hm q => h105 (q ▸ hm))
  have nafs : a ∉ fs.filterMap (·.frame) := fun hm => by obtain ⟨_, o, e1, _⟩ := hff.mem hm; rw [na] at e1; cases e1
  have na' := na_push F' nafs aL
  refine wpAny_execs_cons ?_
  refine wpAny_Try_except ?_
  refine wpAny_execs_cons ?_
  refine wpAny_Expr_any ?_
  refine MethodCall_ ?_
  refine F'.ldL rfl ?_
  refine g_app hta ?_
  refine callWith_method1 ?_
  refine spliced_more ?_
  refine Call_ ?_
  refine F'.ldG (v := .ref 134) ?_
  refine callWith_K F'.kin rfl ?_
  refine spliced_more ?_
  refine F'.ldL rfl ?_
  refine spliced_none ?_
  refine ⟨F'.kin, ?_⟩
  cases hpt : ptree 13 (oc.drop p) with
  | some dr' =>
    refine tree_ok 13 TP' F'.wd F'.sub (R'.le (by decide)) (hA' _ hfr) ff' na' hat oa' hp hoc (by omega) (by omega) ?_ (fun hn => by rw [hpt] at hn; cases hn)
    intro d r' v g₁ h₁' tk₁' t'' hsome G₁ rv hat₁
    have hta₁ := hta.at (h' := h₁') fun o e => G₁.hh _ _ (Ne.symm ata) e
    have hea₁ := hea.at (h' := h₁') fun o e => G₁.hh _ _ (Ne.symm aea) e
    refine spliced_none ?_
    refine wpAny_list_append_plain (hsz := by rw [sizeLine_eq, List.size_toArray, rvs.1]; omega) hta₁ ?_
    intro h₂' hta₂ sb₂
    have ota₁ : g₁.get? ta = none := by obtain ⟨n, e⟩ := hta; exact G₁.off ota' e
    have oea₁ : g₁.get? ea = none := by obtain ⟨n, e⟩ := hea; exact G₁.off oea' e
    have oa₁ : g₁.get? a = none := by obtain ⟨o, e, _⟩ := hat; exact G₁.off oa' e
    have G₂' := growL G₁.gh ota₁ sb₂ (plain_al hta₂)
    have F₁' := F'.grow G₁ fun b ow q => aL (q.symm.trans (own1 ow))
    have F₂' := F₁'.grow G₂' fun b ow q => taL (q.symm.trans (own1 ow))
    refine wpAny_execs_nil ?_
    refine wpAny_execs_nil ?_
    refine wpAny_execs_cons ?_
    refine wpAny_Expr_any ?_
    refine MethodCall_ ?_
    refine F₂'.ldL rfl ?_
    have hea₂ := hea₁.at (h' := h₂') fun o e => (sb₂.2 ea (Ne.symm taea)).trans e
    have hat₂' := hat₁.at (h' := h₂') fun o e => (sb₂.2 a ata).trans e
    refine g_app hea₂ ?_
    refine callWith_method1 ?_
    refine spliced_more ?_
    refine Subscript_ ?_
    refine F₂'.ldL rfl ?_
    refine c_intD ?_
    refine s_list (vs := [.int _ t'']) hat₂' (by decide) rfl ?_ (by rfl) (show 1 ≤ 100000 by decide)
    refine spliced_none ?_
    refine wpAny_list_append_plain (hsz := by rw [sizeLine_eq, List.size_toArray, rws.1, List.length_map]; omega) hea₂ ?_
    intro h₃' hea₃ sb₃
    have G₃' := growL G₂'.gh oea₁ sb₃ (plain_al hea₃)
    have F₃' := F₂'.grow G₃' fun b ow q => eaL (q.symm.trans (own1 ow))
    refine wpAny_execs_nil ?_
    have n105 : ∀ {b}, h.get? b = none → (105 : Addr) ≠ b := fun hb q => e105 (q ▸ hb)
    refine hQ₂ _ _ ⟨13 - (ts ++ [d]).length, by simp; omega, ts ++ [d], es ++ [oc.length - r'.length], _, vs ++ [v], ws ++ [_], t'', g₁, h₃', _, rfl, .snoc TD hsome, F₃', ((G'.later G₁ fun b q => .inr (q ▸ na)).later G₂' fun b q => .inr (q ▸ nta)).later G₃' fun b q => .inr (q ▸ nea), TP'.mono G₁.gg, ⟨?_, ?_⟩, ?_, (rvs.mono G₁.gg).snoc rv, by simpa using hea₃, ?_, ?_, oa₁, ota₁, oea₁, rfl⟩
    · cases q : g₁.get? 105 with
      | none => rfl
      | some o => exact absurd (G₁.fr _ _ q T'.1) (by rcases T'.2 with e | ⟨c, e, _⟩ <;> rw [e] <;> nofun)
    · have kk : ∀ o, h'.get? 105 = some o → h₃'.get? 105 = some o := fun o e => (sb₃.2 105 (n105 nea)).trans ((sb₂.2 105 (n105 nta)).trans (G₁.hh _ _ (n105 na) e))
      exact T'.2.imp (fun e => kk _ e) fun ⟨c, e, r⟩ => ⟨c, kk _ e, r.keeps G₁.gg⟩
    · have := hta₂.at (h' := h₃') fun o e => (sb₃.2 ta taea).trans e
      simpa using this
    · rw [List.map_append]; exact (rws.mono G₁.gg).snoc (.int _ _)
    · exact hat₂'.at fun o e => (sb₃.2 a aea).trans e
  | none =>
    obtain ⟨gB, vB1, vB2, vB3⟩ := view h' (fun b => b ≠ a ∧ ¬ InFr (env :: fs) b)
    have inB : ∀ b o, b ≠ a → b ≠ L → ¬ InFr fs b → h'.get? b = some o → gB.get? b = some o := fun b o h1 h2 h3 e => vB2 b o ⟨h1, fun hm => (List.mem_cons.mp (show b ∈ L :: fs.filterMap (·.frame) from hm)).elim h2 h3⟩ e
    have offB : ∀ b, InFr (env :: fs) b → gB.get? b = none := fun b hm => by
      cases e : gB.get? b with
      | none => rfl
      | some o => exact absurd hm (vB3 b o e).2
    have oaB : gB.get? a = none := by
      cases e : gB.get? a with
      | none => rfl
      | some o => exact absurd rfl (vB3 a o e).1
    have offF : ∀ b, InFr (env :: fs) b → g'.get? b = none := fun b hm => by
      cases e : g'.get? b with
      | none => rfl
      | some o => obtain ⟨hn, _⟩ := ff'.mem hm; rw [hn] at e; cases e
    have sB : g'.StaysIn gB := fun b o e => vB2 b o ⟨fun q => (by rw [q, oa'] at e; cases e), fun hm => (by rw [offF b hm] at e; cases e)⟩ (F'.sub b o e)
    have offLB : gB.get? L = none := offB L (.head _)
    refine tree_ok 13 (TP'.mono sB) (F'.wd.mono sB) vB1 (R'.le (by decide)) (hA' _ hfr) (frames_to ff' offB) na' hat oaB hp hoc (by omega) (by omega) (fun _ _ _ _ _ _ _ hs => by rw [hpt] at hs; cases hs) ?_
    intro _ e h₂' tk₂' fl
    obtain ⟨⟨tt, tm, t', hfl, tat, nt, hat₂⟩, up⟩ := fl
    refine wpAny_looks_onW (base := gB) (hA' _ hfr) rfl hfl ?_
    intro h₃' held up₃
    refine wpAny_landsW (base := gB) held ?_
    intro h₄' hfl₄ up₄
    have up04 : UpX (· = a) h' h₄' := fun b o hb e1 hnf => by
      obtain ⟨s1, e2⟩ := up b o hb e1 hnf
      obtain ⟨s2, e3⟩ := up₃ b _ e2 hnf
      obtain ⟨s3, e4⟩ := up₄ b _ e3 hnf
      exact ⟨s3, e4⟩
    have F₄' := F'.upX sB hfl₄.1 up04 (fun b ow q => aL (q.symm.trans (own1 ow))) (fun b ow => by rw [show b = L from own1 ow]; exact offLB)
    refine wpAny_handleBy_builtin_as (X := "ValueError") (T := "ValueError") (b := true) PySem.F.isExc_ValueError (by rw [isSubtype_type]; kernel_rfl) (by rw [isSubtype_type]; kernel_rfl) ?_
    refine F₄'.ldB ?_ Boot.ValueError
    refine ⟨rfl, hfl₄.there, ?_⟩
    rw [if_pos rfl]
    refine lands_againW hfl₄ ?_
    intro h₅' hfl₅ up₅
    have up05 : UpX (· = a) h' h₅' := fun b o hb e1 hnf => by
      obtain ⟨s3, e4⟩ := up04 b o hb e1 hnf
      obtain ⟨s4, e5⟩ := up₅ b _ e4 hnf
      exact ⟨s4, e5⟩
    have F₅' := F'.upX sB hfl₅.1 up05 (fun b ow q => aL (q.symm.trans (own1 ow))) (fun b ow => by rw [show b = L from own1 ow]; exact offLB)
    have hat₅' := up_list up₅ (up_list up₄ (up_list up₃ hat₂))
    have tat₅ := ((tat.of_slots up₃).of_slots up₄).of_slots up₅
    refine F₅'.stLV ?_
    intro h₆' _ F₆' fo₆
    obtain ⟨oe, ves, hoe, hoec, hoed, hoe0⟩ := hfl₅.first
    obtain ⟨m₅, ns₅, _⟩ := F₅'.ns
    have eL : e ≠ L := ns_ne_fields ns₅ hoe hoed
    have hoe₆ := (fo₆ e fun ow => eL (own1 ow)).trans hoe
    have hat₆ := hat₅'.at (h' := h₆') fun o e1 => (fo₆ a fun ow => aL (own1 ow)).trans e1
    refine wpAny_execs_cons ?_
    refine wpAny_Return_some ?_
    refine List_ ?_
    refine spliced_more ?_
    refine F₆'.ldL rfl ?_
    refine spliced_more ?_
    refine F₆'.ldL rfl ?_
    refine spliced_more ?_
    refine Subscript_ ?_
    refine F₆'.ldL rfl ?_
    refine c_intD ?_
    refine s_list (vs := [.int _ t']) hat₆ (by decide) rfl ?_ (by rfl) (show 1 ≤ 100000 by decide)
    refine spliced_more ?_
    refine Attribute_name ?_
    refine F₆'.ldL rfl ?_
    refine args_attr PySem.F.excAttr_ValueError hoe₆ hoec hoed hoe0 ?_
    refine spliced_none ?_
    refine n_listM F₆'.sub ?_ (by simp)
    intro D h₇' G₇' hD nD oD
    obtain ⟨m₇, ns₇, _⟩ := (F₆'.grow0 G₇').ns
    refine wpAny_nameGoes rfl ns₇ rfl ?_
    intro h₈' m₈ ns₈ sb₈
    have sb : Heap.SameBut L h₇' h₈' := sb₈
    have k58 : ∀ b o, b ≠ L → h₅'.get? b = some o → h₈'.get? b = some o := fun b o hb e1 => (sb.2 b hb).trans (G₇'.keep _ _ ((fo₆ b fun ow => hb (own1 ow)).trans e1))
    have kB8 : ∀ b o, b ≠ a → b ≠ L → ¬ InFr fs b → h'.get? b = some o → h₈'.get? b = some o := fun b o h1 h2 h3 e1 => k58 b o h2 (hfl₅.1 b o (inB b o h1 h2 h3 e1))
    have LL : ∀ {b}, h.get? b ≠ none → b ≠ L := fun hb q => hb (by rw [q]; exact hL)
    have aa : ∀ {b}, h.get? b ≠ none → b ≠ a := fun hb q => hb (by rw [q]; exact na)
    have kall : ∀ b o, ¬ (b = 105 ∨ InFr fs b) → h.get? b = some o → h₈'.get? b = some o := fun b o hn e1 => by
      have al : h.get? b ≠ none := by rw [e1]; nofun
      exact kB8 b o (aa al) (LL al) (fun q => hn (.inr q)) (G'.hh b o (fun q => hn (.inl q)) e1)
    have slots : SlotsOnly fs h h₈' := fun L' o hm e1 => by
      have al : h.get? L' ≠ none := by rw [e1]; nofun
      obtain ⟨_, o', e2, hnf⟩ := hff.mem hm
      rw [e1] at e2; cases e2
      obtain ⟨sl, e3⟩ := up05 L' o (aa al) (G'.hh L' o (fun q => h105 (q ▸ hm)) e1) hnf
      exact ⟨sl, k58 L' _ (LL al) e3⟩
    have k105 : ∀ o, h'.get? 105 = some o → h₈'.get? 105 = some o := fun o e1 => kB8 105 o (aa e105) (LL e105) h105 e1
    have al105 : h₈'.get? 105 ≠ none := by
      rcases T'.2 with e1 | ⟨c, e1, _⟩ <;> rw [k105 _ e1] <;> nofun
    obtain ⟨gF, GF, fz⟩ := growX_of (X := fun b => b = 105 ∨ InFr fs b) (fun _ => False) S kall (fun b e1 => by
      by_cases hb : b = 105
      · rw [hb]; exact al105
      · cases e2 : h.get? b with
        | none => exact absurd e2 e1
        | some o =>
          by_cases hf : InFr fs b
          · obtain ⟨sl, e3⟩ := slots b o hf e2; rw [e3]; nofun
          · rw [kall b o (fun q => q.elim hb hf) e2]; nofun) (fun b o hb e1 => by
      rcases hb with rfl | hb
      · rw [T.1] at e1; cases e1
      · obtain ⟨hn, _⟩ := hff.mem hb; rw [hn] at e1; cases e1)
    have fz' : ∀ b o, h₈'.get? b = some o → h.get? b = none → gF.get? b = some o := fun b o e1 n => fz b o e1 n fun q => q
    have nfr : ∀ {b}, h.get? b = none → ¬ InFr fs b := fun hb hm => by obtain ⟨_, o, e2, _⟩ := hff.mem hm; rw [hb] at e2; cases e2
    have sF : g'.StaysIn gF := fun b o e1 => by
      cases e2 : g.get? b with
      | some o2 => rw [G'.gg b o2 e2] at e1; cases e1; exact GF.gg b o e2
      | none =>
        have hn := G'.fr b o e1 e2
        refine fz' b o (kB8 b o (fun q => by rw [q, oa'] at e1; cases e1) (fun q => by rw [q] at e1; have := F'.offL; rw [show g'.get? L = none from this] at e1; cases e1) (nfr hn) (F'.sub b o e1)) hn
    have hp12 : ((oc.length : Nat) : Int) = (12 : Nat) := by rw [h12]
    have plta : gF.PlainList ta vs.toArray := by
      obtain ⟨n, e1⟩ := hta
      exact ⟨n, fz' ta _ (kB8 ta _ (Ne.symm ata) taL (nfr nta) e1) nta⟩
    have lta : gF.IsList ta vs.toArray := plta.isList
    have lea : gF.IsList ea ws.toArray := by
      obtain ⟨n, e1⟩ := hea
      exact ⟨_, fz' ea _ (kB8 ea _ (Ne.symm aea) eaL (nfr nea) e1) nea, rfl, n, rfl⟩
    have hnF : ∀ b, gB.get? b = none → h.get? b ≠ none → b ≠ a → b ≠ L → ¬ InFr fs b → b ≠ 105 → False := fun b e1 e2 h1 h2 h3 h4 => by
      cases e3 : h.get? b with
      | none => exact e2 e3
      | some o => rw [inB b o h1 h2 h3 (G'.hh b o h4 e3)] at e1; cases e1
    have ltt : gF.IsTuple tt [Value.str msg tm].toArray := by
      obtain ⟨o, n, e1, c1, d1⟩ := tat₅
      have ttL : tt ≠ L := fun q => by
        obtain ⟨o2, es2, ep2, e2, d2, _⟩ := ns₅
        have e3 : h₅'.get? L = some o2 := e2
        rw [← q, e1] at e3; cases e3; rw [d1] at d2; cases d2
      have ntt : h.get? tt = none := by
        cases e3 : h.get? tt with
        | none => rfl
        | some o3 =>
          exfalso
          have al : h.get? tt ≠ none := by rw [e3]; nofun
          by_cases hf : InFr fs tt
          · obtain ⟨m4, o4, es4, ep4, e4, d4, _⟩ := hfns tt hf
            have e4' : h.get? tt = some o4 := e4
            obtain ⟨sl, e5⟩ := up05 tt o4 (aa al) (G'.hh tt o4 (fun q => h105 (q ▸ hf)) e4') (fun vs q => by rw [d4] at q; cases q)
            rw [e1] at e5; cases e5
            rw [show o4.data = _ from d4] at d1; cases d1
          · by_cases h5 : tt = 105
            · have hh : h'.get? 105 ≠ none := by rcases T'.2 with e1 | ⟨c, e1, _⟩ <;> rw [e1] <;> nofun
              cases e6 : h'.get? 105 with
              | none => exact hh e6
              | some o6 =>
                have := inB 105 o6 (h5 ▸ aa al) (h5 ▸ ttL) (h5 ▸ hf) e6
                rw [h5, this] at nt; cases nt
            · exact hnF tt nt al (aa al) ttL hf h5
      exact ⟨o, fz' tt o (k58 tt o ttL e1) ntt, c1, n, d1⟩
    have DL : D ≠ L := fun q => F₆'.own_alive (.inl rfl) (show Heap.get? _ L = none by rw [← q]; exact nD)
    have nDh : h.get? D = none := by
      cases e3 : h.get? D with
      | none => rfl
      | some o3 =>
        exfalso
        have al : h.get? D ≠ none := by rw [e3]; nofun
        by_cases hf : InFr fs D
        · obtain ⟨sl, e5⟩ := slots D o3 hf e3
          obtain ⟨_, o', e2, hnf⟩ := hff.mem hf
          obtain ⟨sl2, e6⟩ := up05 D o' (aa al) (G'.hh D o' (fun q => h105 (q ▸ hf)) e2) hnf
          have := (fo₆ D fun ow => DL (own1 ow)).trans e6
          rw [nD] at this; cases this
        · have hh' : ∃ o6, h'.get? D = some o6 := by
            cases e6 : h'.get? D with
            | none => exact absurd e6 (G'.al D al)
            | some o6 => exact ⟨o6, rfl⟩
          obtain ⟨o6, e6⟩ := hh'
          have := (fo₆ D fun ow => DL (own1 ow)).trans (hfl₅.1 D o6 (inB D o6 (aa al) DL hf e6))
          rw [nD] at this; cases this
    have lD : gF.IsList D [.ref ta, .ref ea, .int (oc.length : Nat) t', .ref tt].toArray := by
      obtain ⟨n, e1⟩ := hD
      exact ⟨_, fz' D _ ((sb.2 D DL).trans e1) nDh, rfl, n, rfl⟩
    refine hQ₂ _ _ (hQ _ _ ?_)
    refine q ts es p (.ref D) gF h₈' _ TD hpt GF slots ?_ ⟨D, ta, vs, _, rfl, lD, plta⟩ ⟨GF.off T.1 (o := (h.get? 105).getD default) (by
      cases e3 : h.get? 105 with
      | none => exact absurd e3 e105
      | some o => rfl), T'.2.imp (fun e1 => k105 _ e1) fun ⟨c, e1, r⟩ => ⟨c, k105 _ e1, r.keeps sF⟩⟩
    refine .list lD (.cons (.list lta (rvs.mono sF)) (.cons (.list lea (rws.mono sF)) (.cons ?_ (.cons (.tuple ltt (.cons (.str _ _) .nil)) .nil))))
    rw [hp12]; exact .int _ _

end
end Mine
end

/-! text Pair -/
section
open PySem PySem.W PyProof.Rows PySem.Spec PySem.Calls
open AutoSeq1 (wpAny_loadPart')
set_option Elab.async false
set_option maxRecDepth 100000
set_option linter.unusedVariables false
namespace Mine

section
variable {prog : Program} {w : World} {A : Around} {E : Value → Shared → Prop} {s : Shared}
theorem nextOf_tuple_item {it l : Addr} {i : Nat} {items} {x : Value} {Q : Value → Shared → Prop} (hit : s.heap.IsTupleIter it l i)
    (hl : s.heap.IsTuple l items) (hx : items[i]? = some x)
    (hQ : ∀ h', h'.IsTupleIter it l (i + 1) → Heap.SameBut it s.heap h' → Q x { s with heap := h' }) :
    wpAny (model prog w) A (Builtin.SmallTypes.nextOf (.ref it)) Q E s := by
  obtain ⟨o, ho, hc, hd⟩ := id hit
  obtain ⟨ol, hol, _, nl, hdl⟩ := hl
  unfold Builtin.SmallTypes.nextOf
  refine wpAny_bind (wpAny_callSpecial?_slot (name := Str.ofString "__next__") hit.typeIs F.slot_tuple_iterator_next
    (wpAny_call_entry F.slot_tuple_iterator_next hit.typeIs F.entry_tuple_iterator_next ?_ (F.args_tuple_iterator_next_1 _)))
  show wpAny _ _ (field (.ref it) 0 >>= _) _ _ s
  refine wpAny_bind (wpAny_field ho hd (x := .ref l) rfl ?_)
  show wpAny _ _ (if (Value.ref l == Value.none) = true then _ else _) _ _ s
  rw [if_neg (show ¬ ((Value.ref l == Value.none) = true) from Bool.false_ne_true)]
  show wpAny _ _ (field (.ref it) 1 >>= _) _ _ s
  refine wpAny_bind (wpAny_field ho hd (x := .int i 0) rfl ?_)
  show wpAny _ _ (seqItems? (.ref l) >>= _) _ _ s
  refine wpAny_bind (wpAny_seqItems hol hdl ?_)
  simp only [Int.toNat_natCast, hx]
  refine wpAny_bind (wpAny_setField ho hd (by simp) (wpAny_pure ⟨x, rfl, wpAny_pure (hQ _ ?_ (Heap.SameBut.update ..))⟩))
  exact ⟨_, Heap.get?_update_self _ ho (Obj.isFreed_of_fields (Obj.data_mapFields hd _)), (Obj.cls_mapFields ..).trans hc, by
    rw [Obj.data_mapFields hd]; simp [rawInt]⟩
theorem nextOf_tuple_end {it l : Addr} {i : Nat} {items} {Q : Value → Shared → Prop} (hh : A.handled = none)
    (hit : s.heap.IsTupleIter it l i) (hl : s.heap.IsTuple l items) (hx : items[i]? = none)
    (hE : ∀ h' e, Heap.ExtBut it s.heap h' → (∃ o, h'.get? e = some o ∧ o.cls = .type "StopIteration") → E (.ref e) { s with heap := h' }) :
    wpAny (model prog w) A (Builtin.SmallTypes.nextOf (.ref it)) Q E s := by
  obtain ⟨o, ho, hc, hd⟩ := id hit
  obtain ⟨ol, hol, _, nl, hdl⟩ := hl
  unfold Builtin.SmallTypes.nextOf
  refine wpAny_bind (wpAny_callSpecial?_slot (name := Str.ofString "__next__") hit.typeIs F.slot_tuple_iterator_next
    (wpAny_call_entry F.slot_tuple_iterator_next hit.typeIs F.entry_tuple_iterator_next ?_ (F.args_tuple_iterator_next_1 _)))
  show wpAny _ _ (field (.ref it) 0 >>= _) _ _ s
  refine wpAny_bind (wpAny_field ho hd (x := .ref l) rfl ?_)
  show wpAny _ _ (if (Value.ref l == Value.none) = true then _ else _) _ _ s
  rw [if_neg (show ¬ ((Value.ref l == Value.none) = true) from Bool.false_ne_true)]
  show wpAny _ _ (field (.ref it) 1 >>= _) _ _ s
  refine wpAny_bind (wpAny_field ho hd (x := .int i 0) rfl ?_)
  show wpAny _ _ (seqItems? (.ref l) >>= _) _ _ s
  refine wpAny_bind (wpAny_seqItems hol hdl ?_)
  simp only [Int.toNat_natCast, hx]
  refine wpAny_bind (wpAny_rule (wpAny_bind (wpAny_setField ho hd (by simp) ?_)))
  show wpAny _ _ (newExc (.type "StopIteration") [] >>= _) _ _ _
  refine wpAny_bind ?_
  simp only [newExc, newTuple]
  refine wpAny_bind (wpAny_newObj_type ?_ (by size_fits))
  refine wpAny_bind (m := firstArgMember _ _) (wpAny_of_eq (a := Value.none) (by first | rfl | (simp only [firstArgMember]; rfl)) ?_)
  refine wpAny_newObj_type ?_ (by size_fits)
  simp only [raiseNew]
  refine wpAny_bind (wpAny_handled ?_)
  first | rw [show A.in1.handled = none from hh] | rw [hh]
  refine wpAny_bind (wpAny_pure (wpAny_throw ?_))
  exact hE _ _ (((Heap.SameBut.update ..).extBut.push _).push _) ⟨_, Heap.get?_push_size _ rfl, rfl⟩
end
theorem draws_tuple {prog : Program} {w : World} {A : Around} (hh : A.handled = none) (it l : Addr) (hne : l ≠ it) (items : Array Value) :
    Draws prog w A it [it, l] items.size (fun i v => items[i]? = some v) (fun i h => h.IsTupleIter it l i ∧ h.IsTuple l items) where
  live := fun _ _ st => let ⟨o, ho, _⟩ := st.1; ⟨o, ho⟩
  frame := fun _ _ _ st hk => ⟨let ⟨o, ho, r⟩ := st.1; ⟨o, hk it (by simp) o ho, r⟩, let ⟨o, ho, r⟩ := st.2; ⟨o, hk l (by simp) o ho, r⟩⟩
  item := fun i s Q E hi st hQ => by
    refine nextOf_tuple_item st.1 st.2 (x := items[i]) (by simp [hi]) fun h' hit' hs' => ?_
    exact hQ _ h' s.toks (by simp [hi]) ⟨hit', st.2.extBut hs'.extBut hne⟩ hs'
  done := fun s Q E st hE => nextOf_tuple_end hh st.1 st.2 (by simp) hE

theorem meets_enumT (l : Addr) (items : Array Value) (n : Nat) (dct : Option Addr) (sl : Array (Option Value)) :
    Meets (Builtin.«enumerate.__new__» ⟨[.type "enumerate", .ref l], []⟩) (fun _ R s => s.heap.get? l = some { cls := .type "tuple", dict := dct, data := .seq items n, slots := sl } ∧
      R (.ok (.ret (.ref (s.heap.push { cls := .type "tuple_iterator", data := .fields #[.ref l, .int 0 0] }).objs.size)))
        { s with heap := (s.heap.push { cls := .type "tuple_iterator", data := .fields #[.ref l, .int 0 0] }).push { cls := .type "enumerate", data := .fields #[.none, .bool false, .ref s.heap.objs.size, rawInt 0, .none, .none] } }) :=
  .of_wp fun prog w A R s h => by
    obtain ⟨hp, g, d, tk, os⟩ := s; obtain ⟨hl, h⟩ := h
    have hsub := sub_enumerate
    have hL : Heap.IsTuple (Shared.heap ⟨hp, g, d, tk, os⟩) l items := ⟨_, hl, rfl, n, rfl⟩
    wp_walk using wpAny_loadPart' hl
    refine wpAny_stack_any fun st => wpAny_pure ?_
    split
    · rename_i c _ _ _ _ _
      cases (c == Value.type "enumerate")
      · wp_walk using wpAny_loadPart' hl, wpAny_pyIter_tuple hL
        exact ⟨_, rfl, h⟩
      · wp_walk using wpAny_loadPart' hl, wpAny_pyIter_tuple hL
        exact ⟨_, rfl, h⟩
    · wp_walk using wpAny_loadPart' hl, wpAny_pyIter_tuple hL
      exact ⟨_, rfl, h⟩

theorem call_enum_tuple {prog : Program} {w : World} {A : Around} {E : Value → Shared → Prop} {s : Shared} {l : Addr} {items : Array Value} {Q : Value → Shared → Prop} (hL : s.heap.IsTuple l items)
    (h : ∀ h', IsEnum h' (s.heap.objs.size + 1) s.heap.objs.size 0 .none → h'.IsTupleIter s.heap.objs.size l 0 →
      (∀ b o, s.heap.get? b = some o → h'.get? b = some o) → Q (.ref (s.heap.objs.size + 1)) { s with heap := h' }) :
    wpAny (model prog w) A (call (.type "enumerate") [.ref l]) Q E s := by
  obtain ⟨⟨c, dct, dt, sl⟩, hl, hc, n, hd⟩ := hL
  replace hc : c = .type "tuple" := hc
  replace hd : dt = .seq items n := hd
  subst hc hd
  refine callType_new F.called_enumerate (by decide) (F.typeCall_enumerate_1 _) (F.newCall_enumerate_1 _) (fun obj => F.args_object_init_2 obj _) F.entry_enumerate_new
    (meets_enumT l items n dct sl) ⟨hl, ?_⟩
  have hz : (s.heap.push { cls := .type "tuple_iterator", data := .fields #[.ref l, .int 0 0] }).objs.size = s.heap.objs.size + 1 := Heap.size_push ..
  show _ ∧ _
  rw [hz]
  have he : IsEnum ((s.heap.push { cls := .type "tuple_iterator", data := .fields #[.ref l, .int 0 0] }).push
      { cls := .type "enumerate", data := .fields #[.none, .bool false, .ref s.heap.objs.size, rawInt 0, .none, .none] }) (s.heap.objs.size + 1) s.heap.objs.size 0 .none := by
    have := Heap.get?_push_size (s.heap.push { cls := .type "tuple_iterator", data := .fields #[.ref l, .int 0 0] })
      (o := { cls := .type "enumerate", data := .fields #[.none, .bool false, .ref s.heap.objs.size, rawInt 0, .none, .none] }) rfl
    rw [hz] at this; exact this
  refine ⟨⟨_, he, rfl⟩, h _ he ⟨_, Heap.get?_push_of_some _ (Heap.get?_push_size _ rfl), rfl, rfl⟩ fun b o x => Heap.get?_push_of_some _ (Heap.get?_push_of_some _ x)⟩

/-! sources of pairs -/
structure WP (prog : Program) (w : World) (A : Around) (I : Addr) (fp wr : List Addr) (n : Nat) (Pt : Nat → Array Value → Prop) (St : Nat → Heap → Prop) : Prop where
  frame : ∀ i h h', St i h → (∀ b ∈ fp, ∀ o, h.get? b = some o → h'.get? b = some o) → St i h'
  item : ∀ (elts : List Expr) (k : Nat) (pos : Pos) i (s : Shared) (Q : Option Value → Shared → Prop) (E : Value → Shared → Prop), i < n → St i s.heap →
    (∀ T vals h₁ tk₁, (∀ (Q' : Unit → Shared → Prop) (E' : Value → Shared → Prop), (∀ h', Pt i vals → h'.IsTuple T vals → St (i + 1) h' → (∀ b o, b ∉ wr → s.heap.get? b = some o → h'.get? b = some o) → Q' () { s with heap := h', toks := tk₁ }) →
      wpAny (model prog w) A (letOwnedTupleGo (.Tuple elts k pos) (.ref I) (.ref T)) Q' E' { s with heap := h₁, toks := tk₁ }) → Q (some (.ref T)) { s with heap := h₁, toks := tk₁ }) →
    wpAny (model prog w) A (pyNext (.ref I)) Q E s
  done : ∀ (s : Shared) (Q : Option Value → Shared → Prop) (E : Value → Shared → Prop), St n s.heap →
    (∀ h' tk, (∀ b o, b ∉ wr → s.heap.get? b = some o → h'.get? b = some o) → Q none { s with heap := h', toks := tk }) → wpAny (model prog w) A (pyNext (.ref I)) Q E s
theorem WP.ofT {prog : Program} {w : World} {A : Around} {I : Addr} {fp wr : List Addr} {n : Nat} {Pt : Nat → Array Value → Prop} {St : Nat → Heap → Prop} {Mid : Nat → Addr → Heap → Prop} (W : WalksT prog w A I fp wr n Pt St Mid) : WP prog w A I fp wr n Pt St where
  frame := W.frame
  item := fun elts k pos i s Q E hi st q => W.item i s Q E hi st fun T vals h' tk hp _ ht hm hk => q T vals h' tk fun Q' E' q' => W.go elts k pos i T _ Q' E' hm fun h'' st' hk' => by
    refine q' h'' hp ?_ st' fun b o hb e => hk' b o hb (hk b o hb e)
    obtain ⟨o, ho, r⟩ := ht
    exact ⟨o, hk' T o (W.apart i T _ hm) ho, r⟩
  done := W.done
structure ItP (prog : Program) (w : World) (A : Around) (g : Heap) (xv : Value) (n : Nat) (Pt : Nat → Array Value → Prop) : Prop where
  go : ∀ {h : Heap} {gn : Array GenState} {dr : Drawn} {tk : Nat} {os : OsState} {Q : Value → Shared → Prop} {E : Value → Shared → Prop}, g.StaysIn h →
    (∀ I fp wr St h' tk', WP prog w A I fp wr n Pt St → St 0 h' → (∀ i k, St i k → ∀ b ∈ wr, k.get? b ≠ none) → h.StaysIn h' → (∀ b ∈ wr, g.get? b = none ∧ h'.get? b ≠ none) → (∀ b ∈ fp, b ∈ wr ∨ ∃ o, g.get? b = some o) → (∀ b ∈ wr, h.get? b = none) → Q (.ref I) ⟨h', gn, dr, tk', os⟩) →
    wpAny (model prog w) A (pyIter xv) Q E ⟨h, gn, dr, tk, os⟩
theorem letOwned_tuple {prog : Program} {w : World} {A : Around} {E : Value → Shared → Prop} {s : Shared} {elts : List Expr} {x1} {pos : Pos} {I l T : Addr} {i : Nat} {Q : Unit → Shared → Prop} (hit : s.heap.IsTupleIter I l i) (hQ : Q () s) :
    wpAny (model prog w) A (letOwnedTupleGo (.Tuple elts x1 pos) (.ref I) (.ref T)) Q E s := by
  obtain ⟨o, ho, hc, hd⟩ := hit
  unfold letOwnedTupleGo
  refine wpAny_bind (wpAny_load ho ?_)
  rw [hc, hd]
  show wpAny _ A (if (["enumerate", "zip", "dict_itemiterator", "dict_reverseitemiterator", "odict_iterator", "itertools.zip_longest", "itertools.pairwise"].contains "tuple_iterator" &&
      (#[.ref l, .int i 0] : Array Value)[0]? == some (rawInt T)) = true then _ else _) Q E s
  rw [if_neg (by
    intro h
    rw [show (["enumerate", "zip", "dict_itemiterator", "dict_reverseitemiterator", "odict_iterator", "itertools.zip_longest", "itertools.pairwise"].contains "tuple_iterator") = false from by decide, Bool.false_and] at h
    cases h)]
  exact wpAny_pure hQ
noncomputable def refOf : Option Value → Option Addr
  | some (.ref T) => some T
  | _ => none
/-- a tuple of pairs -/
theorem ItP.tuple {prog : Program} {w : World} {A : Around} {g : Heap} {a : Addr} {items : Array Value} {Pt : Nat → Array Value → Prop} (hh : A.handled = none) (hl : g.IsTuple a items) (hp : ∀ i, i < items.size → ∃ T vals, items[i]? = some (.ref T) ∧ g.IsTuple T vals ∧ Pt i vals) : ItP prog w A g (.ref a) items.size Pt where
  go := fun {h gn dr tk os Q E} S q => by
    have hl' : h.IsTuple a items := hl.at fun o e => S a o e
    obtain ⟨o, ho, _⟩ := id hl'
    obtain ⟨o₂, ho₂, _⟩ := id hl
    have hne : a ≠ h.objs.size := Nat.ne_of_lt (Heap.lt_size ho)
    have nI : g.get? h.objs.size = none := none_of_sub S (get_none_size h)
    refine wpAny_pyIter_tuple hl' (q h.objs.size ([h.objs.size, a] ++ (List.range items.size).filterMap fun i => refOf (items[i]?)) [h.objs.size] (fun i k => k.IsTupleIter h.objs.size a i ∧ k.IsTuple a items ∧ ∀ (i : Nat) (T : Addr), items[i]? = some (Value.ref T) → ∀ vals, g.IsTuple T vals → k.IsTuple T vals) _ tk ⟨?_, ?_, ?_⟩ ⟨⟨_, Heap.get?_push_size _ rfl, rfl, rfl⟩, hl'.push _, ?_⟩ ?_ (staysIn_push _ _) ?_ ?_ ?_)
    · rintro i k k' ⟨⟨o, ho, r⟩, ⟨o2, ho2, r2⟩, st⟩ hk
      refine ⟨⟨o, hk _ (by simp) _ ho, r⟩, ⟨o2, hk _ (by simp) _ ho2, r2⟩, fun j T e vals hg => ?_⟩
      obtain ⟨o3, ho3, r3⟩ := st j T e vals hg
      refine ⟨o3, hk T ?_ o3 ho3, r3⟩
      refine List.mem_append_right _ (List.mem_filterMap.mpr ⟨j, List.mem_range.mpr (Array.getElem?_eq_some_iff.mp e).1, ?_⟩)
      rw [e]; rfl
    · rintro elts k pos i s Q E hi ⟨s1, s2, s3⟩ q
      obtain ⟨T, vals, e, hT, hP⟩ := hp i hi
      refine wpAny_pyNext_tuple_item s1 s2 e fun h' hit' hs' => ?_
      have TI : T ≠ h.objs.size := fun q => by obtain ⟨o, ho, _⟩ := hT; rw [q, nI] at ho; cases ho
      refine q T vals h' s.toks fun Q' E' q' => letOwned_tuple hit' (q' h' hP ((s3 i T e vals hT).extBut hs'.extBut TI) ⟨hit', s2.extBut hs'.extBut hne, fun j T' e' vals' hg => (s3 j T' e' vals' hg).extBut hs'.extBut fun q => ?_⟩ fun b o hb e => hs'.extBut b o (fun q => hb (by simp [q])) e)
      obtain ⟨o, ho, _⟩ := hg; rw [q, nI] at ho; cases ho
    · rintro s Q E ⟨s1, s2, s3⟩ q
      exact wpAny_pyNext_tuple_end hh s1 s2 (by simp) fun h' he' => q h' s.toks fun b o hb e => he' b o (fun q => hb (by simp [q])) e
    · intro i T e vals hg
      obtain ⟨o3, ho3, r3⟩ := hg
      exact ⟨o3, Heap.get?_push_of_some _ (S _ _ ho3), r3⟩
    · rintro i k ⟨⟨o, ho, _⟩, _⟩ b hb
      rw [List.mem_singleton.mp hb, ho]; nofun
    · intro b hb; rw [List.mem_singleton.mp hb]; exact ⟨nI, by rw [Heap.get?_push_size _ rfl]; nofun⟩
    · intro b hb
      rcases List.mem_append.mp hb with hb | hb
      · rcases List.mem_cons.mp hb with e | hb
        · exact .inl (by simp [e])
        · rw [List.mem_singleton.mp hb]; exact .inr ⟨_, ho₂⟩
      · obtain ⟨i, hi, e⟩ := List.mem_filterMap.mp hb
        obtain ⟨T, vals, e2, ⟨o3, ho3, _⟩, _⟩ := hp i (List.mem_range.mp hi)
        rw [e2] at e
        cases (show some T = some b from e)
        exact .inr ⟨o3, ho3⟩
    · intro b hb; rw [List.mem_singleton.mp hb]; exact get_none_size h
end Mine
end

/-! text Pair2 -/
section
open PySem PySem.W PyProof.Rows PySem.Spec PySem.Calls
set_option Elab.async false
set_option maxRecDepth 100000
set_option linter.unusedVariables false
namespace Mine
noncomputable def P2t (P2 : Nat → Value → Value → Prop) : Nat → Array Value → Prop := fun i vals => ∃ v1 v2, vals = #[v1, v2] ∧ P2 i v1 v2
theorem WP.mono {prog : Program} {w : World} {A : Around} {I : Addr} {fp wr : List Addr} {n : Nat} {Pt Pt' : Nat → Array Value → Prop} {St : Nat → Heap → Prop} (W : WP prog w A I fp wr n Pt St) (h : ∀ i vals, Pt i vals → Pt' i vals) : WP prog w A I fp wr n Pt' St where
  frame := W.frame
  item := fun elts k pos i s Q E hi st q => W.item elts k pos i s Q E hi st fun T vals h₁ tk₁ go => q T vals h₁ tk₁ fun Q' E' q' => go Q' E' fun h' hp => q' h' (h i vals hp)
  done := W.done

section
variable {prog : Program} {ω : Ws} {A : Around} {E : Value → Shared → Prop} {g h h₀ : Heap} {gn : Array GenState} {dr : Drawn} {tk : Nat} {os : OsState} {env : Env} {vm : Str → Option Value} {x y : Str} {px py pos : Pos} {kk : Nat} {body orelse : List Stmt}
  {n : Nat} {P2 : Nat → Value → Value → Prop} {Q : Flow → Shared → Prop} {I : Addr} {fp wr : List Addr} {St : Nat → Heap → Prop}

theorem for_pair0 (W : WP prog ω.w A I fp wr n (P2t P2) St) (F : Fm ω g env vm h) (K : Addr → Prop) (V : Nat → (Str → Option Value) → Prop) (J : Nat → Heap → Heap → Prop) (hh : A.handled = none)
    (S₀ : g.StaysIn h₀) (k₀ : h₀.StaysIn h) (hwr : ∀ b ∈ wr, g.get? b = none ∧ ¬ Own env b ∧ ¬ K b ∧ h₀.get? b = none) (live : ∀ i k, St i k → ∀ b ∈ wr, k.get? b ≠ none) (hfp : ∀ b ∈ fp, b ∈ wr ∨ ∃ o, g.get? b = some o)
    (hK : ∀ a, K a → ¬ Own env a)
    (stab : ∀ i g' h₁ h₂, J i g' h₁ → (∀ a o, K a → h₁.get? a = some o → h₂.get? a = some o) → J i g' h₂)
    (st : St 0 h) (hV : V 0 vm) (hJ : J 0 g h)
    (turn : ∀ i v1 v2 vm' g' h' tk' E', i < n → P2 i v1 v2 → V i vm' → J i g' h' → Fm ω g' env (upd (upd vm' x v1) y v2) h' → GrowX (OwnK env K) g h₀ g' h' →
      wpAny (model prog ω.w) A (execs body env) (fun f s' => match f with
        | .next | .cont => ∃ vm'' g'' h'' tk'', s' = ⟨h'', gn, dr, tk'', os⟩ ∧ V (i + 1) vm'' ∧ J (i + 1) g'' h'' ∧ Fm ω g'' env vm'' h'' ∧ GrowX (OwnK env K) g' h' g'' h''
        | .brk => Q .next s'
        | .ret u => Q (.ret u) s') E' ⟨h', gn, dr, tk', os⟩)
    (done : ∀ vm' g' h' tk' E', V n vm' → J n g' h' → Fm ω g' env vm' h' → GrowX (OwnK env K) g h₀ g' h' → wpAny (model prog ω.w) A (execs orelse env) Q E' ⟨h', gn, dr, tk', os⟩)
    (hk : env.scope.kind = .function := by rfl) (hx : env.kindOf x = some .local := by rfl) (hnc : env.cells.lookup x = none := by rfl) (hy : env.kindOf y = some .local := by rfl) (hncy : env.cells.lookup y = none := by rfl) :
    codeAny (model prog ω.w) A (.forLoop (.Tuple [.Name x px, .Name y py] kk pos) (.ref I) body orelse env) (fun r s' => match r with | .ok f => Q f s' | .error e => cameBackBy (model prog ω.w) A env E e s') ⟨h, gn, dr, tk, os⟩ := by
  let Inv1 : Nat → Shared → Prop := fun k s' => ∃ i vm' g' h' tk', s' = ⟨h', gn, dr, tk', os⟩ ∧ St i h' ∧ V i vm' ∧ J i g' h' ∧ Fm ω g' env vm' h' ∧ GrowX (OwnK env K) g h₀ g' h' ∧ (∀ b ∈ wr, g'.get? b = none) ∧ i ≤ n ∧ k = n + 1 - i
  refine codeAny_forLoop_any Inv1 ?_ (n + 1)
    ⟨0, vm, g, h, tk, rfl, st, hV, hJ, F, Grow.same S₀ k₀, fun b hb => (hwr b hb).1, Nat.zero_le _, rfl⟩
  rintro k s' ⟨i, vm', g', h', tk', rfl, st', hV', hJ', F', G', off', hi, rfl⟩
  have sub₂ : ∀ h₂ : Heap, (∀ b o, b ∉ wr → h'.get? b = some o → h₂.get? b = some o) → g'.StaysIn h₂ := fun h₂ k₂ a o e => k₂ a o (fun q => by rw [off' a q] at e; cases e) (F'.sub a o e)
  have fm₂ : ∀ h₂ : Heap, (∀ b o, b ∉ wr → h'.get? b = some o → h₂.get? b = some o) → Fm ω g' env vm' h₂ := fun h₂ k₂ => F'.at (staysIn_refl _) (sub₂ h₂ k₂) (fun a o ow e => k₂ a o (fun q => (hwr a q).2.1 ow) e) fun a ow => F'.own_off ow
  have gr₂ : ∀ h₂ : Heap, (∀ b o, b ∉ wr → h'.get? b = some o → h₂.get? b = some o) → GrowX (OwnK env K) g h₀ g' h₂ := fun h₂ k₂ =>
    G'.step (sub₂ h₂ k₂) (fun a o _ n e => k₂ a o (fun q => n (hwr a q).2.2.2) e) fun a n e => by
      cases q : h'.get? a with
      | none => exact absurd q e
      | some o => rw [k₂ a o (fun q => n (hwr a q).2.2.2) q]; nofun
  by_cases hlt : i < n
  · refine W.item [.Name x px, .Name y py] kk pos i _ _ _ hlt st' fun T vals h₁ tk₁ go => ?_
    refine go _ _ fun h₂ hP ht₂ st₂ k₂ => ?_
    have k₂' : ∀ b o, b ∉ wr → h'.get? b = some o → h₂.get? b = some o := k₂
    obtain ⟨v1, v2, rfl, hP⟩ := hP
    refine wpAny_assign_Tuple hh ht₂ rfl rfl fun h₃ hx₃ => ?_
    have hx₃' : Heap.ExtBut h₂.objs.size h₂ h₃ := hx₃
    have k₃ : h₂.StaysIn h₃ := fun b o e => hx₃' b o (Nat.ne_of_lt (Heap.lt_size e)) e
    have F₂ := fm₂ h₂ k₂'
    have F₃ := F₂.grow0 (Grow.same F₂.sub k₃)
    have G₃ : GrowX (OwnK env K) g h₀ g' h₃ := (gr₂ h₂ k₂').trans (Grow.same F₂.sub k₃)
    show wpAny _ A (do holding [v2] (assign (.Name x px) env v1); do holding [] (assign (.Name y py) env v2); pure ()) _ _ _
    refine wpAny_bind (wpAny_holding (wpAny_assign_Name (F₃.stL (fun h₄ F₄ fo₄ => ?_) hk hx hnc)))
    refine wpAny_bind (wpAny_holding (wpAny_assign_Name (F₄.stL (fun h₅ F₅ fo₅ => wpAny_pure ?_) hk hy hncy)))
    have oth : ∀ a, ¬ Own env a → h₅.get? a = h₃.get? a := fun a na => (fo₅ a na).trans (fo₄ a na)
    have G₅ : GrowX (OwnK env K) g h₀ g' h₅ := G₃.step F₅.sub (fun a o na _ e => (oth a fun q => na (.inl q)).trans e) fun a _ e => by
      by_cases ow : Own env a
      · exact F₅.own_alive ow
      · rw [oth a ow]; exact e
    have J₅ : J i g' h₅ := stab _ _ _ _ hJ' fun a o ka e => (oth a (hK a ka)).trans (k₃ a o (k₂' a o (fun q => (hwr a q).2.2.1 ka) e))
    have st₅ : St (i + 1) h₅ := W.frame _ _ _ st₂ fun b hb o e => by
      rcases hfp b hb with q | ⟨o', q⟩
      · exact (oth b (hwr b q).2.1).trans (k₃ b o e)
      · exact (oth b fun ow => by rw [F.own_off ow] at q; cases q).trans (k₃ b o e)
    have live₅ := live _ _ st₅
    refine wpAny_mono (turn i v1 v2 vm' g' h₅ _ _ hlt hP hV' J₅ F₅ G₅) (fun f s₄ h₄ => ?_) fun _ _ e => e
    have fin : (∃ vm'' g'' h'' tk'', s₄ = ⟨h'', gn, dr, tk'', os⟩ ∧ V (i + 1) vm'' ∧ J (i + 1) g'' h'' ∧ Fm ω g'' env vm'' h'' ∧ GrowX (OwnK env K) g' h₅ g'' h'') → ∃ m, m < n + 1 - i ∧ ∃ i vm' g' h' tk', s₄ = ⟨h', gn, dr, tk', os⟩ ∧ St i h' ∧ V i vm' ∧ J i g' h' ∧ Fm ω g' env vm' h' ∧ GrowX (OwnK env K) g h₀ g' h' ∧ (∀ b ∈ wr, g'.get? b = none) ∧ i ≤ n ∧ m = n + 1 - i := by
      rintro ⟨vm'', g'', h'', tk'', rfl, hV'', hJ'', F'', G''⟩
      refine ⟨n + 1 - (i + 1), by omega, i + 1, vm'', g'', h'', tk'', rfl, ?_, hV'', hJ'', F'', G₅.trans G'', fun b hb => ?_, hlt, rfl⟩
      · refine W.frame _ _ _ st₅ fun b hb o e => ?_
        rcases hfp b hb with q | ⟨o', q⟩
        · exact G''.hh b o (fun y => y.elim (hwr b q).2.1 (hwr b q).2.2.1) e
        · have e1 := G₅.gg b o' q
          have e2 := F₅.sub b o' e1
          rw [e] at e2
          rw [Option.some.inj e2]
          exact F''.sub b o' (G''.gg b o' e1)
      · cases q : g''.get? b with
        | none => rfl
        | some o => exact absurd (G''.fr b o q (off' b hb)) (live₅ b hb)
    cases f with
    | ret u => exact h₄
    | brk => exact h₄
    | next => exact fin h₄
    | cont => exact fin h₄
  · have hin : i = n := by omega
    subst hin
    refine W.done _ _ _ st' fun h₂ tk₂ k₂ => ?_
    have k₂' : ∀ b o, b ∉ wr → h'.get? b = some o → h₂.get? b = some o := k₂
    have lv : ∀ a, a ∈ wr → ¬ K a := fun a ha => (hwr a ha).2.2.1
    refine done vm' g' h₂ tk₂ _ hV' (stab _ _ _ _ hJ' fun a o ka e => k₂' a o (fun q => lv a q ka) e) (fm₂ h₂ k₂') (gr₂ h₂ k₂')
end
end Mine
end

/-! text Fmode -/
section
open PySem PySem.W PyProof.Rows PySem.Spec PySem.Calls
set_option Elab.async false
set_option maxRecDepth 100000
set_option linter.unusedVariables false
namespace Mine
noncomputable def fmTab : List (List (Int × Str)) := [[(40960, "l"), (49152, "s"), (32768, "-"), (24576, "b"), (16384, "d"), (8192, "c"), (4096, "p")], [(256, "r")], [(128, "w")], [(2112, "s"), (2048, "S"), (64, "x")], [(32, "r")], [(16, "w")], [(1032, "s"), (1024, "S"), (8, "x")], [(4, "r")], [(2, "w")], [(513, "t"), (512, "T"), (1, "x")]]
noncomputable def fmD : PyData := .tuple (fmTab.map fun row => .tuple (row.map fun p => .tuple [.int p.1, .str p.2]))
section
variable {prog : Program} {ω : Ws} {A : Around} {E : Value → Shared → Prop} {g h : Heap} {gn : Array GenState} {dr : Drawn} {tk : Nat} {os : OsState}
theorem kf_tup {a : Addr} {vs : List Value} {od : Option Addr} {n : Nat} {sl : Array (Option Value)} (W : Wd ω g) (e : (KF ω.w).lookup a = some ⟨.type "tuple", od, .seq vs.toArray n, sl⟩) : g.IsTuple a vs.toArray := ⟨_, W.kin _ _ e, rfl, _, rfl⟩
theorem fm_tab (W : Wd ω g) : Rd g (.ref 82) fmD := by
  unfold fmD fmTab
  simp only [List.map_cons, List.map_nil]
  refine Rd.tuple (kf_tup W rfl) ?_
  repeat first | exact .nil | refine .cons ?_ ?_ | exact .int _ _ | exact .str _ _ | refine Rd.tuple (kf_tup W rfl) ?_

theorem ap_call {env : Env} {vm : Str → Option Value} {l : Addr} {vs : List Value} {v : Value} {Q : Value → Shared → Prop} (F : Fm ω g env vm h) (off : g.get? l = none) (hl : h.PlainList l vs.toArray) (hne : ¬ Own env l) (hsz : vs.length ≤ 100000)
    (q : ∀ h', Fm ω g env vm h' → GrowX (· = l) g h g h' → h'.PlainList l (vs ++ [v]).toArray → Q .none ⟨h', gn, dr, tk, os⟩) : wpAny (model prog ω.w) A (call (.builtin "list.append") [.ref l, v]) Q E ⟨h, gn, dr, tk, os⟩ := by
  refine wpAny_list_append_plain (hsz := by rw [sizeLine_eq, List.size_toArray]; omega) hl fun h' hl' sb => ?_
  have G := growL F.sub off sb (plain_al hl')
  exact q h' (F.grow G fun b ow e => hne (e ▸ ow)) G (by simpa using hl')

theorem upd_ne {vm : Str → Option Value} {x y : Str} {u : Value} {w : Option Value} (e : vm y = w) (h : y ≠ x := by decide) : upd vm x u y = w := by unfold upd; rw [if_neg h]; exact e
/-- texts -/
noncomputable def Strs (vs : List Value) (xs : List Str) : Prop := ∃ l, vs = strValues l ∧ l.map (·.1) = xs
theorem Strs.nil : Strs [] [] := ⟨[], rfl, rfl⟩
theorem Strs.snoc {vs : List Value} {xs : List Str} {x : Str} {t : Tok} (h : Strs vs xs) : Strs (vs ++ [.str x t]) (xs ++ [x]) := by
  obtain ⟨l, rfl, rfl⟩ := h
  exact ⟨l ++ [(x, t)], by simp [strValues], by simp⟩
theorem Strs.length {vs : List Value} {xs : List Str} (h : Strs vs xs) : vs.length = xs.length := by
  obtain ⟨l, rfl, rfl⟩ := h; simp [strValues]

noncomputable def fmHit (i : Nat) (m bit : Int) : Bool := if i = 0 then Builtin.bitAnd m 61440 == bit else Builtin.bitAnd m bit == bit
noncomputable def fmChar (m : Int) (i : Nat) : Str := match ((fmTab[i]?).getD []).find? (fun p => fmHit i m p.1) with
  | some p => p.2
  | none => if i = 0 then "?" else "-"
noncomputable def fmRow (m : Int) : Str := Txt.join "" ((List.range 10).map (fmChar m))

/-- what turned was new -/
theorem growBack {X : Addr → Prop} {h₃ g' h' : Heap} (S : g.StaysIn h) (k : h.StaysIn h₃) (G : GrowX X g h₃ g' h') (hX : ∀ b, X b → h.get? b = none) : Grow g h g h' :=
  ⟨staysIn_refl g, staysIn_trans G.gg G.gh, fun b o _ e => G.hh b o (fun q => by rw [hX b q] at e; cases e) (k b o e), fun b e => G.al b (by
    cases q : h.get? b with
    | none => exact absurd q e
    | some o => rw [k b o q]; nofun), fun b o e n => by rw [e] at n; cases n⟩
theorem fmChar_len (m : Int) (i : Nat) : (fmChar m i).length ≤ 1 := by
  unfold fmChar
  have all : ∀ row ∈ fmTab, ∀ p ∈ row, p.2.length ≤ 1 := by decide +kernel
  split
  · rename_i p hp
    have hm := List.mem_of_find?_eq_some hp
    cases e : fmTab[i]? with
    | none => rw [e] at hm; cases hm
    | some row => rw [e] at hm; exact all row (List.mem_of_getElem? e) p hm
  · split <;> decide +kernel
theorem join_ok1 {xs : List Str} (h : ∀ y ∈ xs, y.length ≤ 1) (hl : xs.length ≤ 10000) : JoinOk "" xs = true := by
  unfold JoinOk
  rw [Bool.not_eq_true']
  exact StrLaws.joinFits h (by show _ + _ * 0 ≤ _; omega)

theorem ifmt_ok {Q : Value → Shared → Prop} {m : Int} {t : Tok} (W : Wd ω g) (S : g.StaysIn h) (R : Rm A 2)
    (q : ∀ h' tk' t', Grow g h g h' → Q (.int (Builtin.bitAnd m 61440) t') ⟨h', gn, dr, tk', os⟩) : wpAny (model prog ω.w) A (call (.ref 49) [.int m t]) Q E ⟨h, gn, dr, tk, os⟩ := by
  refine call_defV (k := 1) (binds := [("mode", .int m t)]) W S R rfl rfl rfl rfl (by decide) (by decide) ?_
  intro L h₁ tk₁ A' E' Q' env vm₀ hQ R' _ F hk hO
  refine wpAny_execs_cons ?_
  refine wpAny_Return_some ?_
  refine wpAny_BinOp ?_
  refine F.ldL rfl ?_
  refine c_intD ?_
  refine b_andD ?_
  exact hQ _ _ (q _ _ _ (Grow.same S hk))

theorem find_take {α : Type} (p : α → Bool) : ∀ (l : List α) (j : Nat) (x : α), l[j]? = some x → (l.take j).find? p = none → p x = true → l.find? p = some x
  | [], _, _, h, _, _ => by simp at h
  | y :: l, 0, x, h, _, hp => by simp at h; subst h; simp [hp]
  | y :: l, j + 1, x, h, hn, hp => by
    simp at h
    rw [List.take_succ_cons, List.find?_cons] at hn
    split at hn
    · cases hn
    · rename_i hy
      rw [List.find?_cons, hy]
      exact find_take p l j x h hn hp

theorem filemode_ok {Q : Value → Shared → Prop} {m : Int} {t : Tok} (W : Wd ω g) (S : g.StaysIn h) (R : Rm A 8)
    (q : ∀ h' tk' t', Grow g h g h' → Q (.str (fmRow m) t') ⟨h', gn, dr, tk', os⟩) : wpAny (model prog ω.w) A (call (.ref 89) [.int m t]) Q E ⟨h, gn, dr, tk, os⟩ := by
  refine call_defV (k := 7) (binds := [("mode", .int m t)]) W S R rfl rfl rfl rfl (by decide) (by decide) ?_
  intro L h₁ tk₁ A₁ E₁ Q₁ env vm₀ hQ R' _ F hk hO
  have hL : h.get? L = none := hO _ (.inl rfl)
  obtain ⟨_, tabs, e82, htab, rtab⟩ := (fm_tab (g := g) W).tuple_inv
  cases e82
  refine wpAny_execs_cons ?_
  refine wpAny_Assign_Name ?_
  refine List_ ?_
  refine spliced_none ?_
  refine n_listM F.sub ?_ (by decide)
  intro P h₂ G₂ hP nP oP
  have F₂ := F.grow0 G₂
  refine F₂.stLV ?_
  intro h₃ _ F₃ fo₃
  have PL : P ≠ L := fun q => F.own_alive (.inl rfl) (show Heap.get? _ L = none by rw [← q]; exact nP)
  have hP₃ := hP.at (h' := h₃) fun o e => (fo₃ P fun ow => PL (own1 ow)).trans e
  refine wpAny_execs_cons ?_
  refine wpAny_For ?_
  refine Call_ ?_
  refine F₃.ldB ?_ boot_enumerate
  refine PyProof.Rows.callWith_type1 ?_
  refine spliced_more ?_
  refine F₃.ldG (v := .ref 82) ?_
  refine spliced_none ?_
  refine call_enum_tuple (htab.at fun o e => F₃.sub _ _ e) ?_
  intro h₄ he hit k₄
  refine wpAny_pyIter_enum he ?_
  have k₄' : h₃.StaysIn h₄ := k₄
  have nI : h₃.get? h₃.objs.size = none := get_none_size _
  have nE : h₃.get? (h₃.objs.size + 1) = none := Heap.get?_none_of_le (Nat.le_succ _)
  have n82 : (82 : Addr) ≠ h₃.objs.size := fun q => by
    obtain ⟨o, e, _⟩ := htab
    have := F₃.sub _ _ e; rw [q, nI] at this; cases this
  have n82e : (82 : Addr) ≠ h₃.objs.size + 1 := fun q => by
    obtain ⟨o, e, _⟩ := htab
    have := F₃.sub _ _ e; rw [q, nE] at this; cases this
  have hne : h₃.objs.size + 1 ≠ h₃.objs.size := Nat.succ_ne_self _
  simp only [] at he hit
  have he' : IsEnum h₄ (h₃.objs.size + 1) h₃.objs.size 0 .none := he
  have hit' : h₄.IsTupleIter h₃.objs.size 82 0 := hit
  generalize h₃.objs.size + 1 = e at *
  generalize h₃.objs.size = it at *
  have hP3 : h₃.get? P ≠ none := plain_al hP₃
  have Pe : P ≠ e := fun q => hP3 (by rw [q]; exact nE)
  have Pi : P ≠ it := fun q => hP3 (by rw [q]; exact nI)
  have F₄ := F₃.grow0 (Grow.same F₃.sub k₄')
  have wp := fun (A' : Around) (hA : A'.handled = none) => (WP.ofT (WalksT.enumerateD (draws_tuple (prog := prog) (w := ω.w) (A := A'.in1) hA it 82 n82 tabs.toArray) e hne (by simp [hne, Ne.symm n82e]) (by simp))).mono (Pt' := P2t fun i v1 v2 => (∃ t, v1 = .int (i : Nat) t) ∧ tabs[i]? = some v2) (fun i vals ⟨t, x, h1, h2⟩ => ⟨_, _, h2, ⟨t, rfl⟩, by simpa using h1⟩)
  have hlen : tabs.length = 10 := rtab.1
  refine for_pair0 (h₀ := h₃) (wp _ R'.hd) F₄ (· = P) (fun i vm' => vm' "mode" = some (.int m t) ∧ vm' "perm" = some (.ref P)) (fun i g' h' => ∃ vs, h'.PlainList P vs.toArray ∧ Strs vs ((List.range i).map (fmChar m))) R'.hd F₃.sub k₄' ?_ ?_ ?_ ?_ ?_ ?_ ⟨rfl, rfl⟩ ⟨[], hP₃.at fun o e => k₄' _ _ e, .nil⟩ ?_ ?_
  · intro b hb
    have hb' : b = e ∨ b = it := by simpa using hb
    rcases hb' with rfl | rfl
    · exact ⟨none_of_sub F₃.sub nE, fun ow => F₃.own_alive ow nE, Ne.symm Pe, nE⟩
    · exact ⟨none_of_sub F₃.sub nI, fun ow => F₃.own_alive ow nI, Ne.symm Pi, nI⟩
  · rintro i k ⟨⟨old, s1⟩, ⟨o, s2, _⟩, _⟩ b hb
    have hb' : b = e ∨ b = it := by simpa using hb
    rcases hb' with rfl | rfl
    · rw [s1]; nofun
    · rw [s2]; nofun
  · intro b hb
    have hb' : b = e ∨ b = it ∨ b = 82 := by simpa using hb
    rcases hb' with rfl | rfl | rfl
    · exact .inl (by simp)
    · exact .inl (by simp)
    · obtain ⟨o, e, _⟩ := htab; exact .inr ⟨o, e⟩
  · rintro b rfl ow; exact PL (own1 ow)
  · rintro i g' H₁ H₂ ⟨vs, hl, r⟩ kk
    exact ⟨vs, hl.at fun o e => kk _ _ rfl e, r⟩
  · exact ⟨⟨_, he'⟩, hit', (htab.at fun o e => F₃.sub _ _ e).at fun o e => k₄' _ _ e⟩
  · rintro i v1 v2 vm' g' h' tk' E' hi ⟨⟨t1, rfl⟩, hv2⟩ ⟨hvm, hvp⟩ ⟨vs, hl, hs⟩ F' G'
    have oP' : g'.get? P = none := by
      have : g.get? P = none := oP
      cases e1 : h₃.get? P with
      | none => exact absurd e1 hP3
      | some o => exact G'.off this e1
    have hi' : i < 10 := by simpa [hlen] using hi
    obtain ⟨d, hd, rd⟩ := rtab.getv hv2
    have hrow : d = .tuple (((fmTab[i]?).getD []).map fun p => .tuple [.int p.1, .str p.2]) := by
      rw [List.getElem?_map] at hd
      cases e1 : fmTab[i]? with
      | none => rw [e1] at hd; cases hd
      | some row => rw [e1] at hd; cases hd; rfl
    subst hrow
    generalize hrw : (fmTab[i]?).getD [] = row at *
    obtain ⟨ta, pvs, rfl, htup, rrow⟩ := rd.tuple_inv
    have htup' := htup.at (h' := g') fun o e => G'.gg _ _ e
    refine enter fun Q₂ E₂ hQ₂ hE₂ => ?_
    refine wpAny_execs_cons ?_
    refine wpAny_For ?_
    refine F'.ldL rfl ?_
    refine (ItP.tuple (prog := prog) (w := ω.w) (A := A₁) (Pt := P2t fun j v1 v2 => ∃ p t1 t2, row[j]? = some p ∧ v1 = .int p.1 t1 ∧ v2 = .str p.2 t2) R'.hd htup' ?_).go F'.sub ?_
    · intro j hj
      have hj' : j < pvs.length := by simpa using hj
      obtain ⟨d, hd, rd⟩ := rrow.getv (List.getElem?_eq_getElem hj')
      rw [List.getElem?_map] at hd
      cases e1 : row[j]? with
      | none => rw [e1] at hd; cases hd
      | some p =>
        rw [e1] at hd; cases hd
        obtain ⟨T, vals, e2, hT, rT⟩ := rd.tuple_inv
        have : vals.length = 2 := rT.1
        match vals, this, rT, hT with
        | [u1, u2], _, rT, hT =>
          obtain ⟨t1, rfl⟩ := rT.head.int_inv
          obtain ⟨t2, rfl⟩ := rT.tail.head.str_inv
          refine ⟨T, _, by simp [hj', e2], hT.at fun o e => G'.gg _ _ e, _, _, rfl, p, t1, t2, e1, rfl, rfl⟩
    intro I fp wr St h₅ tk₅ wp5 st5 live5 k₅ hwr5 hfp5 hnew5
    have F₅ := F'.grow0 (Grow.same F'.sub k₅)
    have hl₅ := hl.at (h' := h₅) fun o e => k₅ _ _ e
    have fin : ∀ (env : Env) (s' : Shared) (c : Str) vm'' g'' h'' tk'' vs'', s' = ⟨h'', gn, dr, tk'', os⟩ → c = fmChar m i → vm'' "mode" = some (.int m t) → vm'' "perm" = some (.ref P) → h''.PlainList P (vs'' : List Value).toArray → Strs vs'' ((List.range i).map (fmChar m) ++ [c]) → Fm ω g'' env vm'' h'' → GrowX (OwnK env (· = P)) g' h' g'' h'' → ∃ vm'' g'' h'' tk'', s' = ⟨h'', gn, dr, tk'', os⟩ ∧ (vm'' "mode" = some (.int m t) ∧ vm'' "perm" = some (.ref P)) ∧ (∃ vs, h''.PlainList P vs.toArray ∧ Strs vs ((List.range (i + 1)).map (fmChar m))) ∧ Fm ω g'' env vm'' h'' ∧ GrowX (OwnK env (· = P)) g' h' g'' h'' := by
      intro env s' c vm'' g'' h'' tk'' vs'' e1 e2 e3 e4 e5 e6 e7 e8
      refine ⟨vm'', g'', h'', tk'', e1, ⟨e3, e4⟩, ⟨vs'', e5, ?_⟩, e7, e8⟩
      rw [List.range_succ, List.map_append, List.map_singleton, ← e2]; exact e6
    refine for_pair0 (h₀ := h') wp5 F₅ (· = P) (fun j vm' => vm' "mode" = some (.int m t) ∧ vm' "perm" = some (.ref P) ∧ vm' "index" = some (.int (i : Nat) t1)) (fun j g'' h'' => (h''.PlainList P vs.toArray ∧ g''.get? P = none) ∧ (row.take j).find? (fun p => fmHit i m p.1) = none) R'.hd F'.sub k₅ ?_ live5 hfp5 ?_ ?_ st5 ⟨?_, ?_, rfl⟩ ⟨⟨hl₅, oP'⟩, rfl⟩ ?_ ?_
    · intro b hb
      have hbn := hnew5 b hb
      exact ⟨(hwr5 b hb).1, fun ow => F'.own_alive ow hbn, fun q => plain_al hl (q ▸ hbn), hbn⟩
    · rintro b rfl ow; exact PL (own1 ow)
    · rintro j g'' H₁ H₂ ⟨⟨hl, hn⟩, r⟩ kk
      exact ⟨⟨hl.at fun o e => kk _ _ rfl e, hn⟩, r⟩
    · exact hvm
    · exact hvp
    · rintro j w1 w2 vm6 g6 h6 tk6 E6 hj ⟨p, t2, t3, hp, rfl, rfl⟩ ⟨vm1, vm2, vm3⟩ ⟨⟨hl6, oP6⟩, hnone⟩ F6 G6
      replace vm1 := fun u1 u2 => upd_ne (x := "char") (u := u2) (upd_ne (x := "bit") (u := u1) vm1)
      replace vm2 := fun u1 u2 => upd_ne (x := "char") (u := u2) (upd_ne (x := "bit") (u := u1) vm2)
      replace vm3 := fun u1 u2 => upd_ne (x := "char") (u := u2) (upd_ne (x := "bit") (u := u1) vm3)
      have take1 : row.take (j + 1) = row.take j ++ [p] := by
        rw [List.take_add_one, hp]; rfl
      have hchar : fmHit i m p.1 = true → p.2 = fmChar m i := fun hh => by
        have := find_take (fun p => fmHit i m p.1) row j p hp hnone hh
        unfold fmChar; rw [hrw, this]
      have hnext : fmHit i m p.1 = false → (row.take (j + 1)).find? (fun p => fmHit i m p.1) = none := fun hh => by
        rw [take1, List.find?_append, hnone]; simp [hh]
      have hstr : Strs (vs ++ [.str p.2 t3]) ((List.range i).map (fmChar m) ++ [p.2]) := hs.snoc
      have hvl : vs.length ≤ 100000 := by rw [hs.length]; simp; omega
      refine enter fun Q₃ E₃ hQ₃ hE₃ => ?_
      refine wpAny_execs_cons ?_
      refine wpAny_If ?_
      refine wpAny_isTrue_Compare1 ?_
      refine F6.ldL (vm3 _ _) ?_
      refine c_intD ?_
      refine k_eq ?_
      refine t_bool ?_
      by_cases hi0 : i = 0
      · rw [if_pos (by simp [hi0])]
        refine wpAny_execs_cons ?_
        refine wpAny_If ?_
        refine wpAny_isTrue_Compare1 ?_
        refine Call_ ?_
        refine F6.ldG (v := .ref 49) ?_
        refine callWith_K F6.kin rfl ?_
        refine spliced_more ?_
        refine F6.ldL (vm1 _ _) ?_
        refine spliced_none ?_
        refine ⟨F6.kin, ?_⟩
        refine ifmt_ok F6.wd F6.sub (R'.le (by decide)) ?_
        intro h7 tk7 t7 G7
        have F7 := F6.grow0 G7
        refine F7.ldL rfl ?_
        refine k_eq ?_
        refine t_bool ?_
        have hl7 := hl6.at (h' := h7) fun o e => G7.keep _ _ e
        have hf : fmHit i m p.1 = (Builtin.bitAnd m 61440 == p.1) := by unfold fmHit; rw [if_pos hi0]
        cases hb : (Builtin.bitAnd m 61440 == p.1) with
        | true =>
          rw [if_pos rfl]
          refine wpAny_execs_cons ?_
          refine wpAny_Expr_any ?_
          refine MethodCall_ ?_
          refine F7.ldL (vm2 _ _) ?_
          refine g_app hl7 ?_
          refine callWith_method1 ?_
          refine spliced_more ?_
          refine F7.ldL rfl ?_
          refine spliced_none ?_
          refine ap_call F7 oP6 hl7 (fun ow => PL (own1 ow)) hvl ?_
          intro h8 F8 G8 hl8
          refine wpAny_execs_cons ?_
          refine wpAny_Break (hQ₃ _ _ ?_)
          repeat refine wpAny_execs_nil ?_
          refine hQ₂ _ _ ?_
          exact fin _ _ p.2 _ g6 h8 _ _ rfl (hchar (hf.trans hb)) (vm1 _ _) (vm2 _ _) hl8 hstr F8 ((G6.trans (G7.wide fun _ q => q.elim)).trans (G8.wide fun _ q => .inr q))
        | false =>
          rw [if_neg (by decide)]
          repeat refine wpAny_execs_nil ?_
          exact hQ₃ _ _ ⟨_, g6, h7, _, rfl, ⟨vm1 _ _, vm2 _ _, vm3 _ _⟩, ⟨⟨hl7, oP6⟩, hnext (hf.trans hb)⟩, F7, G7.wide fun _ q => q.elim⟩
      · rw [if_neg (by simp; omega)]
        refine wpAny_execs_cons ?_
        refine wpAny_If ?_
        refine wpAny_isTrue_Compare1 ?_
        refine wpAny_BinOp ?_
        refine F6.ldL (vm1 _ _) ?_
        refine F6.ldL rfl ?_
        refine b_andD ?_
        refine F6.ldL rfl ?_
        refine k_eq ?_
        refine t_bool ?_
        have hf : fmHit i m p.1 = (Builtin.bitAnd m p.1 == p.1) := by unfold fmHit; rw [if_neg hi0]
        cases hb : (Builtin.bitAnd m p.1 == p.1) with
        | true =>
          rw [if_pos rfl]
          refine wpAny_execs_cons ?_
          refine wpAny_Expr_any ?_
          refine MethodCall_ ?_
          refine F6.ldL (vm2 _ _) ?_
          refine g_app hl6 ?_
          refine callWith_method1 ?_
          refine spliced_more ?_
          refine F6.ldL rfl ?_
          refine spliced_none ?_
          refine ap_call F6 oP6 hl6 (fun ow => PL (own1 ow)) hvl ?_
          intro h8 F8 G8 hl8
          refine wpAny_execs_cons ?_
          refine wpAny_Break (hQ₃ _ _ ?_)
          repeat refine wpAny_execs_nil ?_
          refine hQ₂ _ _ ?_
          exact fin _ _ p.2 _ g6 h8 _ _ rfl (hchar (hf.trans hb)) (vm1 _ _) (vm2 _ _) hl8 hstr F8 (G6.trans (G8.wide fun _ q => .inr q))
        | false =>
          rw [if_neg (by decide)]
          repeat refine wpAny_execs_nil ?_
          exact hQ₃ _ _ ⟨_, g6, h6, _, rfl, ⟨vm1 _ _, vm2 _ _, vm3 _ _⟩, ⟨⟨hl6, oP6⟩, hnext (hf.trans hb)⟩, F6, GrowX.refl F6.sub⟩
    · rintro vm6 g6 h6 tk6 E6 ⟨vm1, vm2, vm3⟩ ⟨⟨hl6, oP6⟩, hnone⟩ F6 G6
      have hvl : vs.length ≤ 100000 := by rw [hs.length]; simp; omega
      have hall : row.take pvs.toArray.size = row := by
        apply List.take_of_length_le
        have := rrow.1
        simp at this; simp; omega
      rw [hall] at hnone
      have hchar : fmChar m i = (if i = 0 then ("?" : Str) else ("-" : Str)) := by unfold fmChar; rw [hrw, hnone]
      refine wpAny_execs_cons ?_
      refine wpAny_If ?_
      refine wpAny_isTrue_Compare1 ?_
      refine F6.ldL vm3 ?_
      refine c_intD ?_
      refine k_eq ?_
      refine t_bool ?_
      by_cases hi0 : i = 0
      · rw [if_pos (by simp [hi0])]
        refine wpAny_execs_cons ?_
        refine wpAny_Expr_any ?_
        refine MethodCall_ ?_
        refine F6.ldL vm2 ?_
        refine g_app hl6 ?_
        refine callWith_method1 ?_
        refine spliced_more ?_
        refine c_strD ?_
        refine spliced_none ?_
        refine ap_call F6 oP6 hl6 (fun ow => PL (own1 ow)) hvl ?_
        intro h8 F8 G8 hl8
        repeat refine wpAny_execs_nil ?_
        refine hQ₂ _ _ ?_
        exact fin _ _ "?" _ g6 h8 _ _ rfl (by rw [hchar, if_pos hi0]) vm1 vm2 hl8 hs.snoc F8 (G6.trans (G8.wide fun _ q => .inr q))
      · rw [if_neg (by simp; omega)]
        refine wpAny_execs_cons ?_
        refine wpAny_Expr_any ?_
        refine MethodCall_ ?_
        refine F6.ldL vm2 ?_
        refine g_app hl6 ?_
        refine callWith_method1 ?_
        refine spliced_more ?_
        refine c_strD ?_
        refine spliced_none ?_
        refine ap_call F6 oP6 hl6 (fun ow => PL (own1 ow)) hvl ?_
        intro h8 F8 G8 hl8
        repeat refine wpAny_execs_nil ?_
        refine hQ₂ _ _ ?_
        exact fin _ _ "-" _ g6 h8 _ _ rfl (by rw [hchar, if_neg hi0]) vm1 vm2 hl8 hs.snoc F8 (G6.trans (G8.wide fun _ q => .inr q))
  · rintro vm6 g6 h6 tk6 E6 ⟨vm1, vm2⟩ ⟨vs, hl, hs⟩ F6 G6
    refine wpAny_execs_nil ?_
    refine wpAny_execs_cons ?_
    refine wpAny_Return_some ?_
    refine MethodCall_ ?_
    refine c_strD ?_
    refine GM.join ?_
    refine callWith_method1 ?_
    refine spliced_more ?_
    refine F6.ldL vm2 ?_
    refine spliced_none ?_
    obtain ⟨l, rfl, hl2⟩ := hs
    refine SC.join hl.isList hl2 ?_ ?_
    · exact join_ok1 (by intro y hy; obtain ⟨i, _, rfl⟩ := List.mem_map.mp hy; exact fmChar_len m i) (by simp [hlen])
    intro t' k'
    have hlen10 : tabs.toArray.size = 10 := by simpa using hlen
    rw [hlen10]
    have kh3 : h.StaysIn h₃ := fun b o e => (fo₃ b fun ow => by have e2 : _ = L := own1 ow; rw [e2, hL] at e; cases e).trans (G₂.keep _ _ (hk _ _ e))
    have nPh : h.get? P = none := none_of_sub hk nP
    refine hQ _ _ ?_
    exact q _ _ _ (growBack S kh3 G6 fun b ow => ow.elim (fun ow => by have e2 : b = L := own1 ow; rw [e2]; exact hL) fun e2 => by rw [show b = P from e2]; exact nPh)
end
end Mine
end

/-! text Row -/
section
open PySem PySem.W PyProof.Rows PySem.Spec PySem.Calls
set_option Elab.async false
set_option maxRecDepth 100000
set_option linter.unusedVariables false
namespace Mine
section
variable {prog : Program} {ω : Ws} {A : Around} {E : Value → Shared → Prop} {g h : Heap} {gn : Array GenState} {dr : Drawn} {tk : Nat} {os : OsState} {env : Env} {vm : Str → Option Value}
theorem noPyl {x y : Int} (h : y.natAbs < 1073741824) : Builtin.divisionGoesByPylong x y = false := PyProof.noPylong_small h
theorem if_str {c : Bool} {a b : Str} {k k' : Nat} {p p' : Pos} {Q : Value → Shared → Prop} (q : ∀ t tk', Q (.str (if c then a else b) t) ⟨h, gn, dr, tk', os⟩) :
    if c = true then wpAny (model prog ω.w) A (eval (.Constant (.str a) k p) env) Q E ⟨h, gn, dr, tk, os⟩ else wpAny (model prog ω.w) A (eval (.Constant (.str b) k' p') env) Q E ⟨h, gn, dr, tk, os⟩ := by
  cases c
  · rw [if_neg (by decide)]; exact c_str fun t tk' => q t tk'
  · rw [if_pos rfl]; exact c_str fun t tk' => q t tk'
theorem if_int {c : Bool} {a b : Int} {k k' : Nat} {p p' : Pos} {Q : Value → Shared → Prop} (q : ∀ t tk', Q (.int (if c then a else b) t) ⟨h, gn, dr, tk', os⟩) :
    if c = true then wpAny (model prog ω.w) A (eval (.Constant (.int a) k p) env) Q E ⟨h, gn, dr, tk, os⟩ else wpAny (model prog ω.w) A (eval (.Constant (.int b) k' p') env) Q E ⟨h, gn, dr, tk, os⟩ := by
  cases c
  · rw [if_neg (by decide)]; exact c_int fun t tk' => q t tk'
  · rw [if_pos rfl]; exact c_int fun t tk' => q t tk'

/-! _law_row -/
noncomputable def sz (i : Nat) : Int := match i with | 0 => 64 | 1 => 8 | _ => 1
noncomputable def sg (i : Nat) : Int := match i with | 0 => 2048 | 1 => 1024 | _ => 512
noncomputable def let4 (i : Nat) : Str := match i with | 0 => "-xSs" | 1 => "-xSs" | _ => "-xTt"
noncomputable def dgt (r : Int) (i : Nat) : Int := (r.fdiv (sz i)).fmod 8
noncomputable def lst (r : Int) (i : Nat) : Int := (dgt r i).fmod 2 + 2 * (r.fdiv (sg i)).fmod 2
noncomputable def rowStep (r : Int) (i : Nat) (acc : Str) : Str :=
  ((acc ++ (if decide (3 < dgt r i) then ("r" : Str) else ("-" : Str))) ++ (if (((dgt r i).fdiv 2).fmod 2 == 1) then ("w" : Str) else ("-" : Str))) ++ Txt.item (let4 i) (lst r i)
noncomputable def rowTo (r : Int) (k : Str) : Nat → Str
  | 0 => k
  | i + 1 => rowStep r i (rowTo r k i)
noncomputable def lrow (kind r : Int) : Str := rowTo r (Txt.item "?pc?d?b?-?l?s???" kind) 3

theorem fm2 (a : Int) : 0 ≤ a.fmod 2 ∧ a.fmod 2 < 2 := ⟨Int.fmod_nonneg_of_pos a (by decide), Int.fmod_lt_of_pos a (by decide)⟩
theorem len_app (a b : Str) : (a ++ b).length = a.length + b.length := by
  show (a.cps ++ b.cps).size = _; simp [Str.length]
theorem len_it (a : Str) (i : Int) : (Txt.item a i).length = 1 := rfl
theorem len_rowTo (r : Int) (k : Str) : ∀ i, (rowTo r k i).length = k.length + 3 * i
  | 0 => rfl
  | i + 1 => by
    show (rowStep r i (rowTo r k i)).length = _
    unfold rowStep
    rw [len_app, len_app, len_app, len_it, len_rowTo r k i]
    have h1 : ∀ (c : Bool) (a b : Str), a.length = 1 → b.length = 1 → (if c = true then a else b).length = 1 := fun c a b ha hb => by cases c <;> simp [ha, hb]
    rw [h1 _ _ _ rfl rfl, h1 _ _ _ rfl rfl]; omega

theorem hit3 {α : Type} (f : Nat → α) {i : Nat} (hi : i < 3) {a b c : α} (ha : f 0 = a) (hb : f 1 = b) (hc : f 2 = c) : [a, b, c][i]? = some (f i) := by
  match i, hi with
  | 0, _ => simp [ha]
  | 1, _ => simp [hb]
  | 2, _ => simp [hc]
theorem sz_ok {i : Nat} (hi : i < 3) : sz i ≠ 0 ∧ (sz i).natAbs < 1073741824 := by
  match i, hi with
  | 0, _ => decide
  | 1, _ => decide
  | 2, _ => decide
theorem sg_ok {i : Nat} (hi : i < 3) : sg i ≠ 0 ∧ (sg i).natAbs < 1073741824 := by
  match i, hi with
  | 0, _ => decide
  | 1, _ => decide
  | 2, _ => decide
theorem let4_len {i : Nat} (hi : i < 3) : (let4 i).length = 4 := by
  match i, hi with
  | 0, _ => rfl
  | 1, _ => rfl
  | 2, _ => rfl
theorem st_grow {K : Addr → Prop} {h' : Heap} (S : g.StaysIn h) (F : Fm ω g env vm h') (fo : FrOnly env h h') : GrowX (OwnK env K) g h g h' :=
  ⟨staysIn_refl g, F.sub, fun b o n e => (fo b fun q => n (.inl q)).trans e, fun b e => by
    by_cases ow : Own env b
    · exact F.own_alive ow
    · rw [fo b ow]; exact e, fun b o e n => by rw [e] at n; cases n⟩
theorem growBack3 {X : Addr → Prop} {g₃ h₃ g' h' : Heap} (S : g.StaysIn h) (k : h.StaysIn h₃) (sg : g.StaysIn g₃) (G : GrowX X g₃ h₃ g' h') (hX : ∀ b, X b → h.get? b = none) : Grow g h g h' :=
  ⟨staysIn_refl g, staysIn_trans (staysIn_trans sg G.gg) G.gh, fun b o _ e => G.hh b o (fun q => by rw [hX b q] at e; cases e) (k b o e), fun b e => G.al b (by
    cases q : h.get? b with
    | none => exact absurd q e
    | some o => rw [k b o q]; nofun), fun b o e n => by rw [e] at n; cases n⟩
theorem GrowX.ownK {K : Addr → Prop} {g' h' : Heap} (G : Grow g h g' h') : GrowX (OwnK env K) g h g' h' := G.wide fun _ q => q.elim

theorem row_ok {Q : Value → Shared → Prop} {kd r : Int} {t t' : Tok} (W : Wd ω g) (S : g.StaysIn h) (R : Rm A 3) (hk0 : 0 ≤ kd) (hk1 : kd < 16)
    (q : ∀ h' tk' t', Grow g h g h' → Q (.str (lrow kd r) t') ⟨h', gn, dr, tk', os⟩) : wpAny (model prog ω.w) A (call (.ref 117) [.int kd t, .int r t']) Q E ⟨h, gn, dr, tk, os⟩ := by
  refine call_defV (k := 2) (binds := [("kind", .int kd t), ("rights", .int r t')]) W S R rfl rfl rfl rfl (by decide) (by decide) ?_
  intro L h₁ tk₁ A' E' Q' env vm₀ hQ R' _ F hk hO
  have hL : h.get? L = none := hO _ (.inl rfl)
  refine wpAny_execs_cons ?_
  refine wpAny_Assign_Name ?_
  refine Subscript_ ?_
  refine c_strD ?_
  refine F.ldL rfl ?_
  refine s_str hk0 hk1 (by decide) ?_
  intro _ _
  refine F.stLV ?_
  intro h₂ _ F₂ fo₂
  refine wpAny_execs_cons ?_
  refine wpAny_For ?_
  refine Call_ ?_
  refine F₂.ldB ?_ boot_range
  refine PyProof.Rows.callWith_type1 ?_
  refine spliced_more ?_
  refine c_intD ?_
  refine spliced_none ?_
  refine r_range1 F₂.sub ?_
  intro rg g₃ h₃ tk₃ t1 t2 t3 G₃ hr
  have F₃ := F₂.grow0 G₃
  have kh3 : h.StaysIn h₃ := fun b o e => G₃.keep _ _ ((fo₂ b fun ow => by have e2 : _ = L := own1 ow; rw [e2, hL] at e; cases e).trans (hk _ _ e))
  refine for_loop (It.range1 (ω := ω) (n := 3) R'.hd hr (by decide)) F₃ No (fun i vm' => (vm' "rights" = some (.int r t')) ∧ ∃ tr, vm' "row" = some (.str (rowTo r (Txt.item "?pc?d?b?-?l?s???" kd) i) tr)) (fun _ _ _ => True) noK (fun _ _ _ _ _ _ => trivial) ⟨rfl, _, rfl⟩ trivial ?_ ?_
  · rintro i v vm' g' h' tk' E' hi ⟨ti, rfl⟩ ⟨v1, tr, v2⟩ _ F' G'
    have v1' := fun u => upd_ne (x := "turn") (u := u) v1
    have v2' := fun u => upd_ne (x := "turn") (u := u) v2
    have hsz := sz_ok hi
    refine enter fun Q₁ E₁ hQ₁ hE₁ => ?_
    have hsg := sg_ok hi
    have hlt4 := let4_len hi
    refine wpAny_execs_cons ?_
    refine wpAny_Assign_Name ?_
    refine wpAny_BinOp ?_
    refine wpAny_BinOp ?_
    refine F'.ldL (v1' _) ?_
    refine Subscript_ ?_
    refine Tuple_ ?_
    refine spliced_more ?_
    refine c_int ?_; intro ta _
    refine spliced_more ?_
    refine c_int ?_; intro tb _
    refine spliced_more ?_
    refine c_int ?_; intro tc _
    refine spliced_none ?_
    refine n_tuple F'.sub ?_ (by simp) (by simp)
    intro D g₁ h₁' G₁ hD nD
    have F₁ := F'.grow0 G₁
    refine F₁.ldL rfl ?_
    refine s_tuple (hD.at fun o e => F₁.sub _ _ e) (by omega) (hit3 (fun i => .int (sz i) (match i with | 0 => ta | 1 => tb | _ => tc)) hi rfl rfl rfl) ?_ (by with_unfolding_all rfl) (by simp)
    refine b_fdivD hsz.1 (noPyl hsz.2) ?_
    refine c_intD ?_
    refine b_modD (by decide) ?_
    refine F₁.stLV ?_
    intro h₂' _ F₂' fo₂'
    refine wpAny_execs_cons ?_
    refine wpAny_Assign_Name ?_
    refine wpAny_BinOp ?_
    refine wpAny_BinOp ?_
    refine F₂'.ldL rfl ?_
    refine c_intD ?_
    refine b_modD (by decide) ?_
    refine wpAny_BinOp ?_
    refine c_intD ?_
    refine wpAny_BinOp ?_
    refine wpAny_BinOp ?_
    refine F₂'.ldL (upd_ne (v1' _)) ?_
    refine Subscript_ ?_
    refine Tuple_ ?_
    refine spliced_more ?_
    refine c_int ?_; intro ta2 _
    refine spliced_more ?_
    refine c_int ?_; intro tb2 _
    refine spliced_more ?_
    refine c_int ?_; intro tc2 _
    refine spliced_none ?_
    refine n_tuple F₂'.sub ?_ (by simp) (by simp)
    intro D₃ g₃' h₃' G₃' hD₃ nD₃
    have F₃' := F₂'.grow0 G₃'
    refine F₃'.ldL rfl ?_
    refine s_tuple (hD₃.at fun o e => F₃'.sub _ _ e) (by omega) (hit3 (fun i => .int (sg i) (match i with | 0 => ta2 | 1 => tb2 | _ => tc2)) hi rfl rfl rfl) ?_ (by with_unfolding_all rfl) (by simp)
    refine b_fdivD hsg.1 (noPyl hsg.2) ?_
    refine c_intD ?_
    refine b_modD (by decide) ?_
    refine b_mulD ?_ (.of_left (by decide))
    refine b_addD ?_
    refine F₃'.stLV ?_
    intro h₄' _ F₄' fo₄'
    refine wpAny_execs_cons ?_
    refine wpAny_Assign_Name ?_
    refine wpAny_BinOp ?_
    refine wpAny_BinOp ?_
    refine F₄'.ldL (upd_ne (upd_ne (v2' _))) ?_
    refine IfExp_ ?_
    refine wpAny_isTrue_Compare1 ?_
    refine F₄'.ldL rfl ?_
    refine c_intD ?_
    refine k_gt ?_
    refine t_bool ?_
    refine if_str ?_; intro _ _
    have hlr := len_rowTo r (Txt.item "?pc?d?b?-?l?s???" kd) i
    rw [len_it] at hlr
    have h1 : ∀ (c : Bool) (a b : Str), a.length = 1 → b.length = 1 → (if c = true then a else b).length = 1 := fun c a b ha hb => by cases c <;> simp [ha, hb]
    refine b_cat ?_ (by rw [sizeLine_eq, hlr, h1 _ _ _ rfl rfl]; omega)
    intro _ _
    refine IfExp_ ?_
    refine wpAny_isTrue_Compare1 ?_
    refine wpAny_BinOp ?_
    refine wpAny_BinOp ?_
    refine F₄'.ldL rfl ?_
    refine c_intD ?_
    refine b_fdivD (by decide) (noPyl (by decide)) ?_
    refine c_intD ?_
    refine b_modD (by decide) ?_
    refine c_intD ?_
    refine k_eq ?_
    refine t_bool ?_
    refine if_str ?_; intro _ _
    refine b_cat ?_ (by rw [sizeLine_eq, len_app, hlr, h1 _ _ _ rfl rfl, h1 _ _ _ rfl rfl]; omega)
    intro _ _
    refine F₄'.stLV ?_
    intro h₅' _ F₅' fo₅'
    refine wpAny_execs_cons ?_
    refine wpAny_Assign_Name ?_
    refine wpAny_BinOp ?_
    refine F₅'.ldL rfl ?_
    refine Subscript_ ?_
    refine Subscript_ ?_
    refine Tuple_ ?_
    refine spliced_more ?_
    refine c_str ?_; intro ta3 _
    refine spliced_more ?_
    refine c_str ?_; intro tb3 _
    refine spliced_more ?_
    refine c_str ?_; intro tc3 _
    refine spliced_none ?_
    refine n_tuple F₅'.sub ?_ (by simp) (by simp)
    intro D₆ g₆ h₆ G₆ hD₆ nD₆
    have F₆ := F₅'.grow0 G₆
    refine F₆.ldL rfl ?_
    refine s_tuple (hD₆.at fun o e => F₆.sub _ _ e) (by omega) (hit3 (fun i => .str (let4 i) (match i with | 0 => ta3 | 1 => tb3 | _ => tc3)) hi rfl rfl rfl) ?_ (by with_unfolding_all rfl) (by simp)
    refine F₆.ldL rfl ?_
    have hl0 := fm2 (dgt r i)
    have hl1 := fm2 (r.fdiv (sg i))
    refine s_str (show 0 ≤ lst r i by unfold lst; omega) (show lst r i < (let4 i).length by rw [hlt4]; unfold lst; omega) (by rw [hlt4]; omega) ?_
    intro _ _
    refine b_cat ?_ (by rw [sizeLine_eq, len_app, len_app, hlr, h1 _ _ _ rfl rfl, h1 _ _ _ rfl rfl, len_it]; omega)
    intro _ _
    refine F₆.stLV ?_
    intro h₇ _ F₇ fo₇
    refine wpAny_execs_nil ?_
    refine hQ₁ _ _ ⟨_, g₆, h₇, _, rfl, ⟨upd_ne (upd_ne (upd_ne (upd_ne (v1' _)))), _, rfl⟩, trivial, F₇, ?_⟩
    exact ((((((G₁.ownK.trans (st_grow F₁.sub F₂' fo₂')).trans G₃'.ownK).trans (st_grow F₃'.sub F₄' fo₄')).trans (st_grow F₄'.sub F₅' fo₅')).trans G₆.ownK).trans (st_grow F₆.sub F₇ fo₇))
  · rintro vm' g' h' tk' ⟨v1, tr, v2⟩ _ F' G'
    refine wpAny_execs_cons ?_
    refine wpAny_Return_some ?_
    refine F'.ldL v2 ?_
    exact hQ _ _ (q _ _ _ (growBack3 S kh3 G₃.gg G' fun b ow => ow.elim (fun ow => by have e2 : b = L := own1 ow; rw [e2]; exact hL) fun q => q.elim))
end
end Mine
end

/-! text Sons -/
section
open PySem PySem.W PyProof.Rows PySem.Spec PySem.Calls
set_option Elab.async false
set_option maxRecDepth 100000
set_option linter.unusedVariables false
namespace Mine
section
variable {prog : Program} {ω : Ws} {A : Around} {E : Value → Shared → Prop} {g h : Heap} {gn : Array GenState} {dr : Drawn} {tk : Nat} {os : OsState} {env : Env} {vm : Str → Option Value}
noncomputable def sonAt (row : Str) (i : Nat) : Int := (if (Txt.item row (2 + 3 * (i : Nat)) == ("w" : Str)) then 1 else 0) + (if Txt.contains "xst" (Txt.item row (3 + 3 * (i : Nat))) then 1 else 0)
noncomputable def sonsL (rows : List Str) : List Int := rows.flatMap fun row => (List.range 3).map (sonAt row)
theorem sonsL_len : ∀ rows : List Str, (sonsL rows).length = 3 * rows.length
  | [] => rfl
  | r :: rs => by
    have := sonsL_len rs
    unfold sonsL at this ⊢
    rw [List.flatMap_cons, List.length_append, this]; simp; omega
noncomputable def intD (ns : List Int) : List PyData := ns.map .int

theorem RdAll.ints {vs : List Value} {ns : List Int} (x : RdAll g vs (intD ns)) (g' : Heap) : RdAll g' vs (intD ns) := by
  refine ⟨x.1, fun i v d a b => ?_⟩
  have r := x.2 i v d a b
  unfold intD at b
  rw [List.getElem?_map] at b
  cases e : ns[i]? with
  | none => rw [e] at b; cases b
  | some k =>
    rw [e] at b; cases b
    obtain ⟨t, rfl⟩ := r.int_inv
    exact .int _ _
theorem intD_snoc (ns : List Int) (k : Int) : intD (ns ++ [k]) = intD ns ++ [.int k] := by simp [intD]

theorem sons_ok {Q : Value → Shared → Prop} {rows : List Str} {v : Value} (W : Wd ω g) (S : g.StaysIn h) (R : Rm A 3) (hr : Rd g v (.list (rows.map .str))) (hlen : ∀ x ∈ rows, x.length = 10) (hn : rows.length ≤ 100)
    (q : ∀ u g' h' tk', Grow g h g' h' → Rd g' u (.list (intD (sonsL rows))) → Q u ⟨h', gn, dr, tk', os⟩) : wpAny (model prog ω.w) A (call (.ref 124) [v]) Q E ⟨h, gn, dr, tk, os⟩ := by
  obtain ⟨ra, rvs, rfl, hrl, rrows⟩ := hr.list_inv
  refine call_defV (k := 2) (binds := [("rows", .ref ra)]) W S R rfl rfl rfl rfl (by decide) (by decide) ?_
  intro L h₁ tk₁ A₁ E₁ Q₁ env vm₀ hQ R' hA' F hk hO
  have hL : h.get? L = none := hO _ (.inl rfl)
  refine wpAny_execs_cons ?_
  refine wpAny_Assign_Name ?_
  refine List_ ?_
  refine spliced_none ?_
  refine n_listM F.sub ?_ (by decide)
  intro P h₂ G₂ hP nP oP
  have F₂ := F.grow0 G₂
  refine F₂.stLV ?_
  intro h₃ _ F₃ fo₃
  have PL : P ≠ L := fun q => F.own_alive (.inl rfl) (show Heap.get? _ L = none by rw [← q]; exact nP)
  have hP₃ := hP.at (h' := h₃) fun o e => (fo₃ P fun ow => PL (own1 ow)).trans e
  have kh3 : h.StaysIn h₃ := fun b o e => (fo₃ b fun ow => by have e2 : _ = L := own1 ow; rw [e2, hL] at e; cases e).trans (G₂.keep _ _ (hk _ _ e))
  have nPh : h.get? P = none := none_of_sub hk nP
  have hrlen : rvs.length = rows.length := by simpa using rrows.1
  refine wpAny_execs_cons ?_
  refine wpAny_For ?_
  refine F₃.ldL rfl ?_
  refine for_loop (It.list (prog := prog) (w := ω.w) R'.hd hrl) F₃ (· = P) (fun i vm' => vm' "sons" = some (.ref P)) (fun i g' h' => ∃ vs, h'.PlainList P vs.toArray ∧ RdAll g vs (intD (sonsL (rows.take i)))) ?_ ?_ rfl ⟨[], hP₃, .nil⟩ ?_ ?_
  · rintro b rfl
    exact ⟨plain_al hP₃, fun ow => PL (own1 ow), oP⟩
  · rintro i g' H₁ H₂ ⟨vs, hl, r⟩ kk
    exact ⟨vs, hl.at fun o e => kk _ _ rfl e, r⟩
  · rintro i v vm' g' h' tk' E' hi hv hvm ⟨vs, hl, hvs⟩ F' G'
    have hv' : rvs[i]? = some v := by simpa using hv
    obtain ⟨d, hd, rd⟩ := rrows.getv hv'
    rw [List.getElem?_map] at hd
    cases hrow : rows[i]? with
    | none => rw [hrow] at hd; cases hd
    | some row =>
    rw [hrow] at hd; cases hd
    obtain ⟨trow, rfl⟩ := rd.str_inv
    have hrl10 := hlen row (List.mem_of_getElem? hrow)
    have hi' : i < 100 := by have := (List.getElem?_eq_some_iff.mp hrow).1; omega
    have oP' : g'.get? P = none := by
      cases e1 : h₃.get? P with
      | none => exact absurd e1 (plain_al hP₃)
      | some o => exact G'.off oP e1
    have htake : rows.take (i + 1) = rows.take i ++ [row] := by rw [List.take_add_one, hrow]; rfl
    refine enter fun Q₂ E₂ hQ₂ hE₂ => ?_
    refine wpAny_execs_cons ?_
    refine wpAny_For ?_
    refine Call_ ?_
    refine F'.ldB ?_ boot_range
    refine PyProof.Rows.callWith_type1 ?_
    refine spliced_more ?_
    refine c_intD ?_
    refine spliced_none ?_
    refine r_range1 F'.sub ?_
    intro rg g₄ h₄ tk₄ t1 t2 t3 G₄ hrg
    have F₄ := F'.grow0 G₄
    have hl₄ := hl.at (h' := h₄) fun o e => G₄.keep _ _ e
    have oP₄ : g₄.get? P = none := by obtain ⟨n, e⟩ := hl; exact G₄.off oP' e
    refine for_loop (It.range1 (ω := ω) (n := 3) R'.hd hrg (by decide)) F₄ (· = P) (fun j vm' => vm' "sons" = some (.ref P) ∧ vm' "row" = some (.str row trow)) (fun j g' h' => ∃ vs, h'.PlainList P vs.toArray ∧ RdAll g vs (intD (sonsL (rows.take i) ++ (List.range j).map (sonAt row)))) ?_ ?_ ⟨upd_ne hvm, rfl⟩ ⟨vs, hl₄, by simpa using hvs⟩ ?_ ?_
    · rintro b rfl
      exact ⟨plain_al hl₄, fun ow => PL (own1 ow), oP₄⟩
    · rintro j g' H₁ H₂ ⟨vs, hl, r⟩ kk
      exact ⟨vs, hl.at fun o e => kk _ _ rfl e, r⟩
    · rintro j u vm5 g5 h5 tk5 E5 hj ⟨tj, rfl⟩ ⟨v1, v2⟩ ⟨vs5, hl5, hvs5⟩ F5 G5
      have v1' := fun u => upd_ne (x := "turn") (u := u) v1
      have v2' := fun u => upd_ne (x := "turn") (u := u) v2
      have oP5 : g5.get? P = none := by obtain ⟨n, e⟩ := hl₄; exact G5.off oP₄ e
      refine enter fun Q₃ E₃ hQ₃ hE₃ => ?_
      refine wpAny_execs_cons ?_
      refine wpAny_Expr_any ?_
      refine MethodCall_ ?_
      refine F5.ldL (v1' _) ?_
      refine g_app hl5 ?_
      refine callWith_method1 ?_
      refine spliced_more ?_
      refine wpAny_BinOp ?_
      refine IfExp_ ?_
      refine wpAny_isTrue_Compare1 ?_
      refine Subscript_ ?_
      refine F5.ldL (v2' _) ?_
      refine wpAny_BinOp ?_
      refine c_intD ?_
      refine wpAny_BinOp ?_
      refine c_intD ?_
      refine F5.ldL rfl ?_
      refine b_mulD ?_ (.of_left (by decide))
      refine b_addD ?_
      refine s_str (by omega) (by rw [hrl10]; omega) (by omega) ?_
      intro _ _
      refine c_strD ?_
      refine k_eqs ?_
      refine t_bool ?_
      refine if_int ?_; intro _ _
      refine IfExp_ ?_
      refine wpAny_isTrue_Compare1 ?_
      refine Subscript_ ?_
      refine F5.ldL (v2' _) ?_
      refine wpAny_BinOp ?_
      refine c_intD ?_
      refine wpAny_BinOp ?_
      refine c_intD ?_
      refine F5.ldL rfl ?_
      refine b_mulD ?_ (.of_left (by decide))
      refine b_addD ?_
      refine s_str (by omega) (by rw [hrl10]; omega) (by omega) ?_
      intro _ _
      refine c_strD ?_
      refine SB.contains ?_
      refine t_bool ?_
      refine if_int ?_; intro _ _
      refine b_addD ?_
      refine spliced_none ?_
      have hvl : vs5.length ≤ 100000 := by
        have := hvs5.1
        rw [intD, List.length_map, List.length_append, sonsL_len, List.length_map, List.length_range, List.length_take] at this
        omega
      refine ap_call F5 oP5 hl5 (fun ow => PL (own1 ow)) hvl ?_
      intro h6 F6 G6 hl6
      refine wpAny_execs_nil ?_
      refine hQ₃ _ _ ⟨_, g5, h6, _, rfl, ⟨v1' _, v2' _⟩, ⟨_, hl6, ?_⟩, F6, G6.wide fun _ q => .inr q⟩
      rw [List.range_succ, List.map_append, List.map_singleton, ← List.append_assoc, intD_snoc]
      exact hvs5.snoc (.int _ _)
    · rintro vm5 g5 h5 tk5 ⟨v1, v2⟩ ⟨vs5, hl5, hvs5⟩ F5 G5
      refine wpAny_execs_nil ?_
      refine hQ₂ _ _ ⟨vm5, g5, h5, _, rfl, v1, ⟨vs5, hl5, ?_⟩, F5, G₄.ownK.trans G5⟩
      rw [htake]
      simpa [sonsL] using hvs5
  · rintro vm5 g5 h5 tk5 v1 ⟨vs5, hl5, hvs5⟩ F5 G5
    refine wpAny_execs_cons ?_
    refine wpAny_Return_some ?_
    refine F5.ldL v1 ?_
    have GB := growBack3 S kh3 (staysIn_refl g) G5 fun b ow => ow.elim (fun ow => by have e2 : b = L := own1 ow; rw [e2]; exact hL) fun q => (show b = P from q) ▸ nPh
    obtain ⟨n, e⟩ := hl5
    obtain ⟨g6, G6, s6, e6, _⟩ := GB.freeze e nPh
    refine hQ _ _ ?_
    refine q _ g6 h5 _ G6 (.list ⟨_, e6, rfl, n, rfl⟩ ?_)
    have : rows.take rvs.toArray.size = rows := List.take_of_length_le (by simp [hrlen])
    rw [this] at hvs5
    exact hvs5.ints g6
end
end Mine
end

/-! text Two -/
section
open PySem PySem.W PyProof.Rows PySem.Spec PySem.Calls
set_option Elab.async false
set_option maxRecDepth 100000
set_option linter.unusedVariables false
namespace Mine
section
variable {prog : Program} {w : World} {A : Around} {E : Value → Shared → Prop} {s : Shared} {R : Result → Shared → Prop}
theorem turn0 (elt t1 i1 t2 i2 : Expr) (scope : Scope) (pos : Pos) (it acc : Value) (env : Env) :
    compTurn (.ListComp elt [⟨t1, i1, [], 0⟩, ⟨t2, i2, [], 0⟩] scope pos) 0 it acc env = (standAt i1.pos >>= fun _ => pyNext it >>= fun r => match r with
      | none => pure (.done .next)
      | some v => letOwnedTupleGo t1 it v >>= fun _ => assign t1 env v >>= fun _ =>
        eval i2 env >>= fun x => standAt i2.pos >>= fun _ => foldedSetIterable i2 env x >>= fun x => holding [x] (pyIter x) >>= fun it2 => runOwn (.compStart (.ListComp elt [⟨t1, i1, [], 0⟩, ⟨t2, i2, [], 0⟩] scope pos) 1 it2 acc env) env >>= fun _ =>
          again (.compLoop (.ListComp elt [⟨t1, i1, [], 0⟩, ⟨t2, i2, [], 0⟩] scope pos) 0 it acc env)) := by rfl
theorem turn1 (elt t1 i1 t2 i2 : Expr) (scope : Scope) (pos : Pos) (it acc : Value) (env : Env) :
    compTurn (.ListComp elt [⟨t1, i1, [], 0⟩, ⟨t2, i2, [], 0⟩] scope pos) 1 it acc env = (standAt i2.pos >>= fun _ => pyNext it >>= fun r => match r with
      | none => pure (.done .next)
      | some v => letOwnedTupleGo t2 it v >>= fun _ => assign t2 env v >>= fun _ =>
        (eval elt env >>= fun x => call (.builtin "list.append") [acc, x] >>= fun _ => pure ()) >>= fun _ =>
          again (.compLoop (.ListComp elt [⟨t1, i1, [], 0⟩, ⟨t2, i2, [], 0⟩] scope pos) 1 it acc env)) := by rfl
theorem start1 {elt t1 i1 t2 i2 scope pos it acc env}
    (h0 : codeAny (model prog w) A (.compLoop (.ListComp elt [⟨t1, i1, [], 0⟩, ⟨t2, i2, [], 0⟩] scope pos) 1 it acc env) R s)
    (h : wpAny (model prog w) A (pyIter it) (fun it' s' => codeAny (model prog w) A (.compLoop (.ListComp elt [⟨t1, i1, [], 0⟩, ⟨t2, i2, [], 0⟩] scope pos) 1 it' acc env) R s')
      (notedBy (model prog w) A env fun x s' => R (.error x) s') s) :
    codeAny (model prog w) A (.compStart (.ListComp elt [⟨t1, i1, [], 0⟩, ⟨t2, i2, [], 0⟩] scope pos) 1 it acc env) R s := by
  refine codeAny_of_tree ?_
  show wpAny _ _ ((compStart (.ListComp elt [⟨t1, i1, [], 0⟩, ⟨t2, i2, [], 0⟩] scope pos) 1 it acc env).onRaise (fun x => do noteFrame x env; standAt theWindowsPlace)) _ _ s
  refine wpAny_notedAt ?_
  unfold compStart
  show wpAny _ _ (ask >>= _) _ _ s
  refine wpAny_bind (wpAny_askSetting (wpAny_ite ?_))
  split
  · first
      | exact wpAny_bind (wpAny_pure (wpAny_pure (And.intro rfl h0)))
      | exact wpAny_pure (And.intro rfl h0)
  · first
      | exact wpAny_bind (wpAny_rule (wpAny_bind (wpAny_standAt (wpAny_bind (wpAny_mono h (fun it' s' h' => wpAny_pure (And.intro rfl h')) fun _ _ x => x)))))
      | (refine wpAny_bind (wpAny_rule ?_); show wpAny _ _ (standAt i2.pos >>= _) _ _ s; exact wpAny_bind (wpAny_standAt (wpAny_bind (wpAny_mono h (fun it' s' h' => wpAny_pure (And.intro rfl h')) fun _ _ x => x))))
/-- the inner loop -/
theorem loop1 {elt t1 i1 t2 i2 scope pos it acc env} (I : Nat → Shared → Prop)
    (turn : ∀ n s, I n s → wpAny (model prog w) A (pyNext it) (fun r s₁ => match r with
      | none => R (.ok .next) s₁
      | some v => wpAny (model prog w) A (assign t2 env v) (fun _ s₂ => wpAny (model prog w) A (eval elt env) (fun x s₃ =>
          wpAny (model prog w) A (call (.builtin "list.append") [acc, x]) (fun _ s₄ => ∃ m, m < n ∧ I m s₄) (notedBy (model prog w) A env fun e s' => R (.error e) s') s₃)
          (notedBy (model prog w) A env fun e s' => R (.error e) s') s₂) (notedBy (model prog w) A env fun e s' => R (.error e) s') s₁) (notedBy (model prog w) A env fun e s' => R (.error e) s') s)
    (n : Nat) (h : I n s) (ht : ∀ v, letOwnedTupleGo t2 it v = pure () := by intro _; rfl) :
    codeAny (model prog w) A (.compLoop (.ListComp elt [⟨t1, i1, [], 0⟩, ⟨t2, i2, [], 0⟩] scope pos) 1 it acc env) R s := by
  refine codeAny_loop rfl I (fun n s hI => ?_) n h
  show wpAny _ A ((compTurn (.ListComp elt [⟨t1, i1, [], 0⟩, ⟨t2, i2, [], 0⟩] scope pos) 1 it acc env).onRaise (fun x => do noteFrame x env; theTreesLotGoes x)) _ _ s
  refine wpAny_noted ?_
  rw [turn1]
  refine wpAny_bind (wpAny_standAt (wpAny_bind (wpAny_mono (turn n s hI) (fun r s₁ h₁ => ?_) fun _ _ h' => h')))
  cases r with
  | none => exact wpAny_pure h₁
  | some v =>
    refine wpAny_bind (wpAny_of_eq (ht v) ?_)
    refine wpAny_bind (wpAny_mono h₁ (fun _ s₂ h₂ => ?_) fun _ _ h' => h')
    exact wpAny_bind (wpAny_bind (wpAny_mono h₂ (fun x s₄ h₄ => wpAny_bind (wpAny_mono h₄ (fun _ s₅ h₅ => wpAny_pure (wpAny_pure ⟨rfl, h₅⟩)) fun _ _ h' => h')) fun _ _ h' => h'))
/-- the outer loop -/
theorem loop0 {elt t1 i1 t2 i2 scope pos it acc env} (I : Nat → Shared → Prop)
    (turn : ∀ n s, I n s → wpAny (model prog w) A (pyNext it) (fun r s₁ => match r with
      | none => R (.ok .next) s₁
      | some v => wpAny (model prog w) A (assign t1 env v) (fun _ s₂ => wpAny (model prog w) A (eval i2 env) (fun x s₃ =>
          wpAny (model prog w) A (pyIter x) (fun it2 s₄ => codeAny (model prog w) A (.compStart (.ListComp elt [⟨t1, i1, [], 0⟩, ⟨t2, i2, [], 0⟩] scope pos) 1 it2 acc env) (fun r s' => match r with | .ok f => ∃ m, m < n ∧ I m s' | .error e => cameBackBy (model prog w) A env (notedBy (model prog w) A env fun e s' => R (.error e) s') e s') s₄)
          (notedBy (model prog w) A env fun e s' => R (.error e) s') s₃)
          (notedBy (model prog w) A env fun e s' => R (.error e) s') s₂) (notedBy (model prog w) A env fun e s' => R (.error e) s') s₁) (notedBy (model prog w) A env fun e s' => R (.error e) s') s)
    (n : Nat) (h : I n s) (hs : ∀ v, foldedSetIterable i2 env v = pure v := by intro _; rfl) (ht : ∀ v, letOwnedTupleGo t1 it v = pure () := by intro _; rfl) :
    codeAny (model prog w) A (.compLoop (.ListComp elt [⟨t1, i1, [], 0⟩, ⟨t2, i2, [], 0⟩] scope pos) 0 it acc env) R s := by
  refine codeAny_loop rfl I (fun n s hI => ?_) n h
  show wpAny _ A ((compTurn (.ListComp elt [⟨t1, i1, [], 0⟩, ⟨t2, i2, [], 0⟩] scope pos) 0 it acc env).onRaise (fun x => do noteFrame x env; theTreesLotGoes x)) _ _ s
  refine wpAny_noted ?_
  rw [turn0]
  refine wpAny_bind (wpAny_standAt (wpAny_bind (wpAny_mono (turn n s hI) (fun r s₁ h₁ => ?_) fun _ _ h' => h')))
  cases r with
  | none => exact wpAny_pure h₁
  | some v =>
    refine wpAny_bind (wpAny_of_eq (ht v) ?_)
    refine wpAny_bind (wpAny_mono h₁ (fun _ s₂ h₂ => ?_) fun _ _ h' => h')
    refine wpAny_bind (wpAny_mono h₂ (fun x s₃ h₃ => ?_) fun _ _ h' => h')
    refine wpAny_bind (wpAny_standAt (wpAny_bind (wpAny_of_eq (hs x) ?_)))
    refine wpAny_bind (wpAny_holding (wpAny_mono h₃ (fun it2 s₄ h₄ => ?_) fun _ _ h' => h'))
    refine wpAny_bind (wpAny_runOwn (codeAny_mono h₄ fun r s' hr => ?_))
    cases r with
    | ok f => exact wpAny_pure ⟨rfl, hr⟩
    | error e => exact hr
end

section
variable {prog : Program} {ω : Ws} {A : Around} {E : Value → Shared → Prop} {g h : Heap} {gn : Array GenState} {dr : Drawn} {tk : Nat} {os : OsState}

noncomputable def out2 (val : Nat → Nat → Int) (n2 i : Nat) : List Int := (List.range i).flatMap fun a => (List.range n2).map (val a)
theorem out2_succ (val : Nat → Nat → Int) (n2 i : Nat) : out2 val n2 (i + 1) = out2 val n2 i ++ (List.range n2).map (val i) := by
  unfold out2; rw [List.range_succ, List.flatMap_append]; simp
theorem out2_len (val : Nat → Nat → Int) (n2 : Nat) : ∀ i, (out2 val n2 i).length = n2 * i
  | 0 => rfl
  | i + 1 => by rw [out2_succ, List.length_append, out2_len val n2 i, List.length_map, List.length_range, Nat.mul_succ]

theorem two_loop {cenv : Env} {vmC : Str → Option Value} {Rr : Result → Shared → Prop} {elt i1 i2 : Expr} {x1 x2 : Str} {p1 p2 pos : Pos} {scope : Scope} {I D : Addr} {fp wr : List Addr} {n n2 : Nat} {P P2 : Nat → Value → Prop} {St : Nat → Heap → Prop} {h₀ : Heap} {val : Nat → Nat → Int}
    (W : Walks prog ω.w A I fp wr n P St) (st : St 0 h) (live : ∀ i k, St i k → ∀ b ∈ wr, k.get? b ≠ none) (FC : Fm ω g cenv vmC h) (S₀ : g.StaysIn h₀) (k₀ : h₀.StaysIn h)
    (hwr : ∀ b ∈ wr, h₀.get? b = none ∧ b ≠ D ∧ ¬ Own cenv b) (hfp : ∀ b ∈ fp, b ∈ wr ∨ ∃ o, g.get? b = some o) (hPL : h.PlainList D #[]) (hD : h₀.get? D = none) (hDC : ¬ Own cenv D) (hC : ∀ a, Own cenv a → h₀.get? a = none)
    (hsz : n2 * n ≤ 10000)
    (hin : ∀ g' h' tk' vm' E', Fm ω g' cenv vm' h' → wpAny (model prog ω.w) A (eval i2 cenv) (fun x s => ∃ g'' h'' tk'', s = ⟨h'', gn, dr, tk'', os⟩ ∧ Grow g' h' g'' h'' ∧ It prog ω.w A g'' x n2 P2) E' ⟨h', gn, dr, tk', os⟩)
    (helt : ∀ i j v1 v2 g' h' tk' vm' E', i < n → j < n2 → P i v1 → P2 j v2 → Fm ω g' cenv (upd vm' x2 v2) h' → vm' x1 = some v1 → wpAny (model prog ω.w) A (eval elt cenv) (fun u s => ∃ t tk'', s = ⟨h', gn, dr, tk'', os⟩ ∧ u = .int (val i j) t) E' ⟨h', gn, dr, tk', os⟩)
    (done : ∀ ys g' h' tk' vm', Grow g h₀ g' h' → h'.PlainList D ys.toArray → g'.get? D = none → RdAll g ys (intD (out2 val n2 n)) → Fm ω g' cenv vm' h' → Rr (.ok .next) ⟨h', gn, dr, tk', os⟩)
    (hkf : cenv.scope.kind = .function) (hx1 : cenv.kindOf x1 = some .local) (hx2 : cenv.kindOf x2 = some .local) (hnc : cenv.cells = []) (hne : x1 ≠ x2) (hs : ∀ v, foldedSetIterable i2 cenv v = pure v) :
    codeAny (model prog ω.w) A (.compLoop (.ListComp elt [⟨.Name x1 p1, i1, [], 0⟩, ⟨.Name x2 p2, i2, [], 0⟩] scope pos) 0 (.ref I) (.ref D) cenv) Rr ⟨h, gn, dr, tk, os⟩ := by
  have hc : ∀ x, cenv.cells.lookup x = none := fun x => by rw [hnc]; rfl
  let Inv1 : Nat → Shared → Prop := fun k s' => ∃ i ys g' h' tk' vm', s' = ⟨h', gn, dr, tk', os⟩ ∧ St i h' ∧ Fm ω g' cenv vm' h' ∧ Grow g h₀ g' h' ∧ h'.PlainList D ys.toArray ∧ g'.get? D = none ∧ (∀ b ∈ wr, g'.get? b = none) ∧ RdAll g ys (intD (out2 val n2 i)) ∧ i ≤ n ∧ k = n + 1 - i
  refine loop0 Inv1 ?_ (n + 1)
    ⟨0, [], g, h, tk, vmC, rfl, st, FC, Grow.same S₀ k₀, hPL, none_of_sub S₀ hD, fun b hb => none_of_sub S₀ (hwr b hb).1, .nil, Nat.zero_le _, rfl⟩ hs
  rintro k s' ⟨i, ys, g', h', tk', vm', rfl, st', F', G', hl, oD', offw, hys, hi, rfl⟩
  by_cases hlt : i < n
  · refine W.item i _ _ _ hlt st' fun v h₁ tk₁ hP st₁ k₁ => ?_
    have k₁' : ∀ b o, b ∉ wr → h'.get? b = some o → h₁.get? b = some o := k₁
    have s₁ : g'.StaysIn h₁ := fun b o e => k₁' b o (fun q => by rw [offw b q] at e; cases e) (F'.sub b o e)
    have F₁ : Fm ω g' cenv vm' h₁ := F'.at (staysIn_refl _) s₁ (fun a o ow e => k₁' a o (fun q => (hwr a q).2.2 ow) e) fun a ow => F'.own_off ow
    have G₁ : Grow g h₀ g' h₁ := G'.step s₁ (fun a o _ na e => k₁' a o (fun q => na (hwr a q).1) e) fun a na e => by
      cases q : h'.get? a with
      | none => exact absurd q e
      | some o => rw [k₁' a o (fun q => na (hwr a q).1) q]; nofun
    have hl₁ := hl.at (h' := h₁) fun o e => k₁' D o (fun q => (hwr D q).2.1 rfl) e
    refine wpAny_assign_Name (F₁.stL (fun h₂ F₂ fo₂ => ?_) hkf hx1 (hc _))
    have stepSt : ∀ {hh h₂ : Heap} {vv : Str → Option Value}, Grow g h₀ g' hh → Fm ω g' cenv vv h₂ → FrOnly cenv hh h₂ → Grow g h₀ g' h₂ := fun G F fo => G.step F.sub (fun a o _ na e => (fo a fun ow => na (hC a ow)).trans e) fun a na e => by rw [fo a fun ow => na (hC a ow)]; exact e
    have G₂ := stepSt G₁ F₂ fo₂
    have hl₂ := hl₁.at (h' := h₂) fun o e => (fo₂ D hDC).trans e
    have st₂ : St (i + 1) h₂ := W.frame _ _ _ st₁ fun b hb o e => (fo₂ b fun ow => by
      rcases hfp b hb with q | ⟨o', q⟩
      · exact (hwr b q).2.2 ow
      · rw [none_of_sub S₀ (hC b ow)] at q; cases q).trans e
    refine wpAny_mono (hin g' h₂ _ _ _ F₂) (fun x s₃ h3 => ?_) fun _ _ e => e
    obtain ⟨g₃, h₃, tk₃, rfl, G₃, IT⟩ := h3
    have F₃ := F₂.grow0 G₃
    have G03 : Grow g h₀ g₃ h₃ := G₂.trans G₃
    have hl₃ := hl₂.at (h' := h₃) fun o e => G₃.keep _ _ e
    have oD₃ : g₃.get? D = none := by obtain ⟨m, e⟩ := hl₂; exact G₃.off oD' e
    have live₂ := live _ _ st₂
    have offw₃ : ∀ b ∈ wr, g₃.get? b = none := fun b hb => by
      cases q : g₃.get? b with
      | none => rfl
      | some o => exact absurd (G₃.fr b o q (offw b hb)) (live₂ b hb)
    have st₃ : St (i + 1) h₃ := W.frame _ _ _ st₂ fun b hb o e => G₃.keep _ _ e
    refine IT.go F₃.sub fun I2 fp2 wr2 St2 h₄ tk₄ W4 st4 live4 k₄ hwr4 hfp4 => ?_
    have wr2own : ∀ a, a ∈ wr2 → ¬ Own cenv a := fun a ha o => F₃.own_alive o (hwr4 a ha)
    have wr2D : ∀ a, a ∈ wr2 → a ≠ D := fun a ha q => plain_al hl₃ (by rw [← q]; exact hwr4 a ha)
    have al₃ := live _ _ st₃
    have wr2wr : ∀ a, a ∈ wr2 → a ∉ wr := fun a ha q => al₃ a q (hwr4 a ha)
    have fpk : ∀ b ∈ fp, b ∉ wr2 ∧ b ≠ D ∧ ¬ Own cenv b := fun b hb => by
      rcases hfp b hb with q | ⟨o', q⟩
      · exact ⟨fun r => wr2wr b r q, (hwr b q).2.1, (hwr b q).2.2⟩
      · refine ⟨fun r => ?_, fun r => (by rw [r, none_of_sub S₀ hD] at q; cases q), fun ow => (by rw [none_of_sub S₀ (hC b ow)] at q; cases q)⟩
        have := F₃.sub _ _ (G03.gg _ _ q); rw [hwr4 b r] at this; cases this
    have inner : ∀ tk', codeAny (model prog ω.w) A (.compLoop (.ListComp elt [⟨.Name x1 p1, i1, [], 0⟩, ⟨.Name x2 p2, i2, [], 0⟩] scope pos) 1 (.ref I2) (.ref D) cenv) (fun r s' => match r with | .ok f => ∃ m, m < n + 1 - i ∧ ∃ i ys g' h' tk' vm', s' = ⟨h', gn, dr, tk', os⟩ ∧ St i h' ∧ Fm ω g' cenv vm' h' ∧ Grow g h₀ g' h' ∧ h'.PlainList D ys.toArray ∧ g'.get? D = none ∧ (∀ b ∈ wr, g'.get? b = none) ∧ RdAll g ys (intD (out2 val n2 i)) ∧ i ≤ n ∧ m = n + 1 - i | .error e => cameBackBy (model prog ω.w) A cenv (notedBy (model prog ω.w) A cenv fun e s' => Rr (.error e) s') e s') ⟨h₄, gn, dr, tk', os⟩ := by
      intro tk'
      let Inv2 : Nat → Shared → Prop := fun k s' => ∃ j ys h' tk' vm', s' = ⟨h', gn, dr, tk', os⟩ ∧ St2 j h' ∧ St (i + 1) h' ∧ Fm ω g₃ cenv vm' h' ∧ vm' x1 = some v ∧ Grow g h₀ g₃ h' ∧ h'.PlainList D ys.toArray ∧ RdAll g ys (intD (out2 val n2 i ++ (List.range j).map (val i))) ∧ j ≤ n2 ∧ k = n2 + 1 - j
      refine loop1 Inv2 ?_ (n2 + 1)
        ⟨0, ys, h₄, _, _, rfl, st4, W.frame _ _ _ st₃ fun b hb o e => k₄ b o e, F₃.grow0 (Grow.same F₃.sub k₄), by unfold upd; simp, G03.trans (Grow.same F₃.sub k₄), hl₃.at fun o e => k₄ _ _ e, by simpa using hys, Nat.zero_le _, rfl⟩
      rintro k s' ⟨j, zs, h5, tk5, vm5, rfl, st5, sto5, F5, hv5, G5, hl5, hzs, hj, rfl⟩
      have sub5 : ∀ h₆ : Heap, (∀ b o, b ∉ wr2 → h5.get? b = some o → h₆.get? b = some o) → g₃.StaysIn h₆ := fun h₆ k₆ b o e => k₆ b o (fun q => by have := F₃.sub _ _ e; rw [hwr4 b q] at this; cases this) (F5.sub b o e)
      have fm5 : ∀ h₆ : Heap, (∀ b o, b ∉ wr2 → h5.get? b = some o → h₆.get? b = some o) → Fm ω g₃ cenv vm5 h₆ := fun h₆ k₆ => F5.at (staysIn_refl _) (sub5 h₆ k₆) (fun a o ow e => k₆ a o (fun q => wr2own a q ow) e) fun a ow => F5.own_off ow
      have wr2h₀ : ∀ a, a ∈ wr2 → h₀.get? a = none := fun a ha => by
        cases q : h₀.get? a with
        | none => rfl
        | some o => have := G03.keep _ _ q; rw [hwr4 a ha] at this; cases this
      have gr5 : ∀ h₆ : Heap, (∀ b o, b ∉ wr2 → h5.get? b = some o → h₆.get? b = some o) → Grow g h₀ g₃ h₆ := fun h₆ k₆ => G5.step (sub5 h₆ k₆) (fun a o _ na e => k₆ a o (fun q => na (wr2h₀ a q)) e) fun a na e => by
        cases q : h5.get? a with
        | none => exact absurd q e
        | some o => rw [k₆ a o (fun q => na (wr2h₀ a q)) q]; nofun
      by_cases hjl : j < n2
      · refine W4.item j _ _ _ hjl st5 fun v2 h6 tk6 hP2 st6 k6 => ?_
        have k6' : ∀ b o, b ∉ wr2 → h5.get? b = some o → h6.get? b = some o := k6
        have F6 := fm5 h6 k6'
        refine wpAny_assign_Name (F6.stL (fun h7 F7 fo7 => ?_) hkf hx2 (hc _))
        have G6 := gr5 h6 k6'
        have G7 : Grow g h₀ g₃ h7 := G6.step F7.sub (fun a o _ na e => (fo7 a fun ow => na (hC a ow)).trans e) fun a na e => by rw [fo7 a fun ow => na (hC a ow)]; exact e
        have hl7 := (hl5.at (h' := h6) fun o e => k6' D o (fun q => wr2D D q rfl) e).at (h' := h7) fun o e => (fo7 D hDC).trans e
        have st7 : St2 (j + 1) h7 := W4.frame _ _ _ st6 fun b hb o e => (fo7 b fun ow => by
          rcases hfp4 b hb with q | ⟨o', q⟩
          · exact wr2own b q ow
          · rw [F₃.own_off ow] at q; cases q).trans e
        have sto7 : St (i + 1) h7 := W.frame _ _ _ sto5 fun b hb o e => (fo7 b (fpk b hb).2.2).trans (k6' b o (fpk b hb).1 e)
        refine wpAny_mono (helt i j v v2 g₃ h7 _ _ _ hlt hjl hP hP2 F7 hv5) (fun u s8 h8 => ?_) fun _ _ e => e
        obtain ⟨tu, tk8, rfl, rfl⟩ := h8
        have hzl : zs.length = n2 * i + j := by have := hzs.1; rw [intD, List.length_map, List.length_append, out2_len, List.length_map, List.length_range] at this; exact this
        have hmul : n2 * i + n2 ≤ n2 * n := by rw [← Nat.mul_succ]; exact Nat.mul_le_mul_left _ hlt
        refine ap_call F7 oD₃ hl7 hDC (by omega) ?_
        intro h8 F8 G8 hl8
        have D8 : Grow g h₀ g₃ h8 := G7.later G8 fun b q => .inr (by rw [show b = D from q]; exact hD)
        refine ⟨n2 + 1 - (j + 1), by omega, j + 1, _, h8, _, _, rfl, ?_, ?_, F8, ?_, D8, hl8, ?_, hjl, rfl⟩
        · refine W4.frame _ _ _ st7 fun b hb o e => G8.hh b o (fun q => ?_) e
          rcases hfp4 b hb with r | ⟨o', r⟩
          · exact wr2D b r q
          · rw [show b = D from q, oD₃] at r; cases r
        · exact W.frame _ _ _ sto7 fun b hb o e => G8.hh b o (fpk b hb).2.1 e
        · unfold upd; rw [if_neg hne]; exact hv5
        · rw [List.range_succ, List.map_append, List.map_singleton, ← List.append_assoc, intD_snoc]
          exact hzs.snoc (.int _ _)
      · have hjn : j = n2 := by omega
        subst hjn
        refine W4.done _ _ _ st5 fun h6 tk6 k6 => ?_
        have k6' : ∀ b o, b ∉ wr2 → h5.get? b = some o → h6.get? b = some o := k6
        refine ⟨n + 1 - (i + 1), by omega, i + 1, zs, g₃, h6, _, vm5, rfl, W.frame _ _ _ sto5 fun b hb o e => k6' b o (fpk b hb).1 e, fm5 h6 k6', gr5 h6 k6', hl5.at fun o e => k6' D o (fun q => wr2D D q rfl) e, oD₃, offw₃, ?_, hlt, rfl⟩
        rw [out2_succ]; exact hzs
    exact start1 (inner _) (W4.self 0 _ _ _ st4 (inner _))
  · have hin : i = n := by omega
    subst hin
    refine W.done _ _ _ st' fun h₁ tk₁ k₁ => ?_
    have k₁' : ∀ b o, b ∉ wr → h'.get? b = some o → h₁.get? b = some o := k₁
    have s₁ : g'.StaysIn h₁ := fun b o e => k₁' b o (fun q => by rw [offw b q] at e; cases e) (F'.sub b o e)
    have F₁ : Fm ω g' cenv vm' h₁ := F'.at (staysIn_refl _) s₁ (fun a o ow e => k₁' a o (fun q => (hwr a q).2.2 ow) e) fun a ow => F'.own_off ow
    have G₁ : Grow g h₀ g' h₁ := G'.step s₁ (fun a o _ na e => k₁' a o (fun q => na (hwr a q).1) e) fun a na e => by
      cases q : h'.get? a with
      | none => exact absurd q e
      | some o => rw [k₁' a o (fun q => na (hwr a q).1) q]; nofun
    exact done ys g' h₁ _ vm' G₁ (hl.at fun o e => k₁' D o (fun q => (hwr D q).2.1 rfl) e) oD' hys F₁

noncomputable def figs (ms : List Int) : List Int := ms.flatMap fun m => (List.range 3).map (dgt m)
noncomputable def sonsDue (ms : List Int) : List Int := (figs ms).map fun f => (f.fdiv 2).fmod 2 + f.fmod 2
theorem figs_len : ∀ ms : List Int, (figs ms).length = 3 * ms.length
  | [] => rfl
  | r :: rs => by
    have := figs_len rs
    unfold figs at this ⊢
    rw [List.flatMap_cons, List.length_append, this]; simp; omega
theorem int_at {vs : List Value} {ns : List Int} (x : RdAll g vs (intD ns)) {i : Nat} {v : Value} (e : vs[i]? = some v) : ∃ n t, ns[i]? = some n ∧ v = .int n t := by
  obtain ⟨d, hd, r⟩ := x.getv e
  unfold intD at hd
  rw [List.getElem?_map] at hd
  cases h : ns[i]? with
  | none => rw [h] at hd; cases hd
  | some n => rw [h] at hd; cases hd; obtain ⟨t, rfl⟩ := r.int_inv; exact ⟨n, t, rfl, rfl⟩

theorem walks_mono {I : Addr} {fp wr : List Addr} {n : Nat} {P P' : Nat → Value → Prop} {St : Nat → Heap → Prop} (W : Walks prog ω.w A I fp wr n P St) (hp : ∀ i v, P i v → P' i v) : Walks prog ω.w A I fp wr n P' St :=
  ⟨W.sub, W.frame, fun i s Q E hi st q => W.item i s Q E hi st fun v h' tk h1 => q v h' tk (hp i v h1), W.done, W.self⟩
theorem It.mono {xv : Value} {n : Nat} {P P' : Nat → Value → Prop} (IT : It prog ω.w A g xv n P) (hp : ∀ i v, P i v → P' i v) : It prog ω.w A g xv n P' where
  go := fun S q => IT.go S fun I fp wr St h' tk' W => q I fp wr St h' tk' (walks_mono W hp)
theorem start_of {s : Shared} {R : Result → Shared → Prop} {elt target iter ifs rest scope pos I acc env}
    (hself : ∀ Q E, Q (.ref I) s → wpAny (model prog ω.w) A (pyIter (.ref I)) Q E s)
    (h0 : codeAny (model prog ω.w) A (.compLoop (.ListComp elt (⟨target, iter, ifs, 0⟩ :: rest) scope pos) 0 (.ref I) acc env) R s) :
    codeAny (model prog ω.w) A (.compStart (.ListComp elt (⟨target, iter, ifs, 0⟩ :: rest) scope pos) 0 (.ref I) acc env) R s := codeAny_compStart_list h0 (hself _ _ h0)
theorem get3 {ta tb tc : Tok} {i : Nat} {v : Value} (e : ([.int 64 ta, .int 8 tb, .int 1 tc] : List Value).toArray[i]? = some v) : ∃ t, v = .int (sz i) t := by
  match i, e with
  | 0, e => cases e; exact ⟨_, rfl⟩
  | 1, e => cases e; exact ⟨_, rfl⟩
  | 2, e => cases e; exact ⟨_, rfl⟩
theorem out2_figs (ms : List Int) : out2 (fun i j => dgt (ms[i]?.getD 0) j) 3 ms.length = figs ms := by
  unfold out2 figs
  have e : ∀ (f : Int → List Int) (l : List Int), (List.range l.length).flatMap (fun i => f (l[i]?.getD 0)) = l.flatMap f := by
    intro f l
    have h1 : l = (List.range l.length).map (fun i => l[i]?.getD 0) := by
      apply List.ext_getElem
      · simp
      · intro i h1 h2; simp [h1]
    conv => rhs; rw [h1]
    rw [List.flatMap_map]
  exact e (fun m => (List.range 3).map (dgt m)) ms
theorem sons_due_ok {Q : Value → Shared → Prop} {ms : List Int} {v : Value} (W : Wd ω g) (S : g.StaysIn h) (R : Rm A 3) (hr : Rd g v (.list (intD ms))) (hn : ms.length ≤ 100)
    (q : ∀ u g' h' tk', Grow g h g' h' → Rd g' u (.list (intD (sonsDue ms))) → Q u ⟨h', gn, dr, tk', os⟩) : wpAny (model prog ω.w) A (call (.ref 129) [v]) Q E ⟨h, gn, dr, tk, os⟩ := by
  obtain ⟨ra, rvs, rfl, hrl, rms⟩ := hr.list_inv
  have hrlen : rvs.length = ms.length := by simpa [intD] using rms.1
  refine call_defV (k := 2) (binds := [("modes", .ref ra)]) W S R rfl rfl rfl rfl (by decide) (by decide) ?_
  intro L h₁ tk₁ A₁ E₁ Q₁ env vm₀ hQ R' hA' F hk hO
  have hL : h.get? L = none := hO _ (.inl rfl)
  refine wpAny_execs_cons ?_
  rw [exec_Assign_Name_used _ _ _ _ rfl]
  refine wpAny_bind (wpAny_standAt ?_)
  refine wpAny_bind ?_
  simp only [evalThenUse]
  refine wpAny_bind (wpAny_comprehension_free rfl (fun _ => rfl) (cl := []) rfl rfl (by decide) ?_)
  refine F.ldL rfl ?_
  refine (It.list (prog := prog) (w := ω.w) (A := A₁) R'.hd hrl).go F.sub fun I fp wr St h₂ tk₂ W2 st live k₂ hwr hfp => ?_
  refine wpAny_newObj_type (wpAny_newFunctionEnv (by decide) (by intro y hy; simp at hy) (fun h₃ hns₃ hsb₃ => ?_) rfl)
  dsimp only at hns₃ hsb₃ ⊢
  generalize hH2 : h₂.push { cls := .type "list", dict := none, data := .seq ([] : List Value).toArray } = H2 at hns₃ hsb₃ ⊢
  have kH : h₂.StaysIn H2 := by rw [← hH2]; exact staysIn_push _ _
  have sz : H2.objs.size = h₂.objs.size + 1 := by rw [← hH2, Heap.size_push]
  have hDC : h₂.objs.size ≠ H2.objs.size := by omega
  have kH₃ : H2.StaysIn h₃ := fun a o e => hsb₃.extBut a o (Nat.ne_of_lt (Heap.lt_size e)) (Heap.get?_push_of_some _ e)
  have k₃ : h₁.StaysIn h₃ := staysIn_trans (staysIn_trans k₂ kH) kH₃
  have dead : ∀ a, h₂.objs.size ≤ a → h₂.get? a = none := fun a ha => Heap.get?_none_of_le ha
  have hPL : h₃.PlainList h₂.objs.size #[] := ⟨_, kH₃ _ _ (by rw [← hH2]; exact Heap.get?_push_size _ rfl)⟩
  have hD2 : h₂.get? h₂.objs.size = none := dead _ (Nat.le_refl _)
  have hC2 : h₂.get? H2.objs.size = none := dead _ (by omega)
  generalize h₂.objs.size = D at *
  generalize H2.objs.size = C at *
  have hD1 : h₁.get? D = none := none_of_sub k₂ hD2
  have hC1 : h₁.get? C = none := none_of_sub k₂ hC2
  have oD : g.get? D = none := none_of_sub F.sub hD1
  have oC : g.get? C = none := none_of_sub F.sub hC1
  have hDw : ∀ a ∈ wr, a ≠ D := fun a ha q => live _ _ st a ha (by rw [q]; exact hD2)
  have hCw : ∀ a ∈ wr, a ≠ C := fun a ha q => live _ _ st a ha (by rw [q]; exact hC2)
  have FC : ∀ {cenv : Env}, cenv.locals = C → cenv.cells = [] → (∃ m, h₃.Ns C m) → Fm ω g cenv (fun _ => none) h₃ := fun {cenv} e1 e2 ⟨m, hm⟩ => ⟨F.wd, staysIn_trans F.sub k₃, ⟨m, (by rw [e1]; exact hm), fun x v _ e => (by cases e)⟩, fun n c e => (by rw [e2] at e; cases e), fun n n' c e => (by rw [e2] at e; cases e), (by rw [e1]; exact oC), fun n c e => (by rw [e2] at e; cases e), fun n c e => (by rw [e2] at e; cases e)⟩
  have ownC : ∀ {cenv : Env} {a : Addr}, cenv.locals = C → cenv.cells = [] → Own cenv a → a = C := fun {cenv a} e1 e2 ow => (own1 ow e2).trans e1
  have nDC : D ≠ C := hDC
  have LC : L ≠ C := fun q => F.own_alive (.inl rfl) (by show h₁.get? L = none; rw [q]; exact hC1)
  have LD : L ≠ D := fun q => F.own_alive (.inl rfl) (by show h₁.get? L = none; rw [q]; exact hD1)
  have st₃ : St 0 h₃ := W2.frame _ _ _ st fun b hb o e => kH₃ b o (kH b o e)
  refine start_of (fun Q E => W2.self 0 _ _ _ st₃) ?_
  refine two_loop (h₀ := h₁) (val := fun i j => dgt (ms[i]?.getD 0) j) W2 st₃ live (FC rfl rfl ⟨_, hns₃⟩) F.sub k₃ ?_ hfp hPL hD1 (fun ow => nDC (ownC rfl rfl ow)) (fun a ow => by rw [ownC rfl rfl ow]; exact hC1) (n2 := 3) (P2 := fun j v => ∃ t, v = .int (Mine.sz j) t) ?_ ?_ ?_ ?_ rfl rfl rfl rfl (by decide) (fun _ => rfl)
  · intro b hb
    exact ⟨hwr b hb, hDw b hb, fun ow => hCw b hb (ownC rfl rfl ow)⟩
  · simp only [List.size_toArray]; omega
  · intro g' h' tk'' vm' E' F'
    refine Tuple_ ?_
    refine spliced_more ?_
    refine c_int ?_; intro ta _
    refine spliced_more ?_
    refine c_int ?_; intro tb _
    refine spliced_more ?_
    refine c_int ?_; intro tc _
    refine spliced_none ?_
    refine n_tuple F'.sub ?_ (by simp) (by simp)
    intro D2 g₁ h₁' G₁ hD2 nD2
    refine ⟨g₁, h₁', _, rfl, G₁, ?_⟩
    exact (It.tuple (prog := prog) (w := ω.w) (A := A₁) R'.hd hD2).mono fun j v e => get3 e
  · rintro i j v1 v2 g' h' tk'' vm' E' hi hj hP ⟨t2, rfl⟩ F' hv1
    have hP' : rvs[i]? = some v1 := by simpa using hP
    obtain ⟨m, tm, hm, rfl⟩ := int_at rms hP'
    refine wpAny_BinOp ?_
    refine wpAny_BinOp ?_
    refine F'.ldL (upd_ne hv1) ?_
    refine F'.ldL rfl ?_
    refine b_fdivD (sz_ok hj).1 (noPyl (sz_ok hj).2) ?_
    refine c_intD ?_
    refine b_modD (by decide) ?_
    exact ⟨_, _, rfl, by rw [hm]; rfl⟩
  · intro ys g' h' tk'' vm' G' hl' oD' hys F'
    obtain ⟨nn, e⟩ := hl'
    obtain ⟨g₄, G₄, sg, hgD, back⟩ := G'.freeze e hD1
    have F₄ := F.grow0 G₄
    refine wpAny_assign_Name (F₄.stL ?_)
    intro h₅ F₅ fo₅
    obtain ⟨mC, nsC, _⟩ := F'.ns
    have nsC' : h'.Ns C mC := nsC
    have ns₅ : h₅.Ns C mC := nsC'.at' fun o e => (fo₅ C fun ow => LC ((own1 ow).symm)).trans e
    refine ⟨mC, ns₅, fun h₆ hs₆ => ?_⟩
    have hs : Heap.SameBut C h₅ h₆ := hs₆
    have oC₄ : g₄.get? C = none := by
      cases q : g₄.get? C with
      | none => rfl
      | some o => have := back C o q (Ne.symm nDC); rw [show g'.get? C = none from F'.offL] at this; cases this
    have s₆ : g₄.StaysIn h₆ := fun b o e => (hs.2 b fun q => by rw [q, oC₄] at e; cases e).trans (F₅.sub b o e)
    have F₆ := F₅.at (staysIn_refl g₄) s₆ (fun b o ow e => (hs.2 b fun q => LC ((own1 ow).symm.trans q)).trans e) fun b ow => F₅.own_off ow
    have nL1 : ∀ b, h.get? b ≠ none → b ≠ L := fun b hb q => hb (by rw [q]; exact hL)
    have nC1 : ∀ b, h.get? b ≠ none → b ≠ C := fun b hb q => hb (by rw [q]; exact none_of_sub hk hC1)
    have k06 : h.StaysIn h₆ := fun b o e => by
      have al : h.get? b ≠ none := by rw [e]; nofun
      exact (hs.2 b (nC1 b al)).trans ((fo₅ b fun ow => nL1 b al (own1 ow)).trans (Grow.keep G₄ _ _ (hk _ _ e)))
    refine wpAny_pure ?_
    refine wpAny_pure ?_
    refine wpAny_execs_cons ?_
    refine wpAny_Return_some ?_
    refine ListComp_ (cl := []) rfl ?_
    refine F₆.ldL rfl ?_
    have hlD : g₄.IsList D ys.toArray := ⟨_, hgD, rfl, nn, rfl⟩
    have hfig : out2 (fun i j => dgt (ms[i]?.getD 0) j) 3 rvs.toArray.size = figs ms := by
      rw [List.size_toArray, hrlen]; exact out2_figs ms
    rw [hfig] at hys
    have hyl : ys.length = 3 * ms.length := by have := hys.1; rwa [intD, List.length_map, figs_len] at this
    refine comp_val (It.list (prog := prog) (w := ω.w) (A := A₁) R'.hd hlD) F₆ No JT (fun i y g => ∃ f t, (figs ms)[i]? = some f ∧ y = .int ((f.fdiv 2).fmod 2 + f.fmod 2) t) (fun _ => true) (by simp [hyl]; omega) (fun _ _ _ _ _ r => r) noK (fun _ _ _ _ _ _ _ _ => trivial) trivial ?_ ?_ (fun m c e => by cases e)
    · rintro i v C' g7 h7 tk7 E' hi hv _ G7 hC' cenv cvm FC' F7
      have hv' : ys[i]? = some v := by simpa using hv
      obtain ⟨f, tf, hf, rfl⟩ := int_at hys hv'
      refine compTurn_nilV F7.sub fun Qe Ee qe => ?_
      refine wpAny_BinOp ?_
      refine wpAny_BinOp ?_
      refine wpAny_BinOp ?_
      refine FC'.ldL rfl ?_
      refine c_intD ?_
      refine b_fdivD (by decide) (noPyl (by decide)) ?_
      refine c_intD ?_
      refine b_modD (by decide) ?_
      refine wpAny_BinOp ?_
      refine FC'.ldL rfl ?_
      refine c_intD ?_
      refine b_modD (by decide) ?_
      refine b_addD ?_
      exact qe g7 h7 _ _ (GrowX.refl F7.sub) (trivial) (⟨f, _, hf, rfl⟩)
    · intro D2 zs g7 h7 tk7 G7 _ hD2 hl2 cc F7
      have hD2h : h.get? D2 = none := none_of_sub k06 hD2
      obtain ⟨o2, e2, r2⟩ := hl2
      have GB := growBack3 S k06 (staysIn_trans G₄.gg (staysIn_refl g₄)) G7 fun b q => q.elim
      obtain ⟨g8, G8, s8, e8, _⟩ := GB.freeze (F7.sub _ _ e2) hD2h
      refine hQ _ _ ?_
      refine q _ g8 h7 _ G8 (.list ⟨o2, e8, r2⟩ ?_)
      obtain ⟨hzl, hz⟩ := cc.all
      refine ⟨?_, fun i v d a b => ?_⟩
      · rw [hzl, List.size_toArray, hyl, intD, List.length_map, sonsDue, List.length_map, figs_len]
      · obtain ⟨f, t, hf, rfl⟩ := hz i v a
        rw [intD, List.getElem?_map, sonsDue, List.getElem?_map, hf] at b
        cases b
        exact .int _ _
end
end Mine
end

/-! text Byt -/
section
open PySem PySem.W PyProof.Rows PySem.Spec PySem.Calls
open Builtin
open PySem.W.KBy (ite_no)
set_option Elab.async false
set_option maxRecDepth 100000
set_option linter.unusedVariables false
namespace Mine

theorem pick_rev {α : Type} (l : List α) : ((List.range l.length).map fun (k : Nat) => (((l.length : Int) - 1) + (-1) * (k : Int)).toNat).filterMap (l[·]?) = l.reverse := by
  have e : ((List.range l.length).map fun (k : Nat) => (((l.length : Int) - 1) + (-1) * (k : Int)).toNat) = (List.range l.length).map fun k => l.length - 1 - k := by
    apply List.map_congr_left
    intro k hk
    have := List.mem_range.mp hk
    omega
  rw [e, List.filterMap_map]
  apply List.ext_getElem?
  intro i
  have key : ∀ n, n ≤ l.length → (List.range n).filterMap (fun k => l[l.length - 1 - k]?) = (l.reverse.take n) := by
    intro n
    induction n with
    | zero => simp
    | succ n ih =>
      intro hn
      rw [List.range_succ, List.filterMap_append, ih (by omega), List.take_add_one, List.getElem?_reverse (by omega)]
      congr 1
  have := key l.length (Nat.le_refl _)
  show (List.filterMap (fun k => l[l.length - 1 - k]?) _)[i]? = _
  rw [this, List.take_of_length_le (by simp)]
theorem sliced_rev (b : Array UInt8) : Bytes.sliced b ((b.size : Int) - 1) (-1) (-1) = b.toList.reverse.toArray := by
  unfold Bytes.sliced
  congr 1
  have hz : sliceRange ((b.size : Int) - 1) (-1) (-1) = (List.range b.toList.length).map fun (k : Nat) => (((b.toList.length : Int) - 1) + (-1) * (k : Int)).toNat := by
    unfold sliceRange
    rw [if_neg (by decide)]
    have hl : b.toList.length = b.size := by simp
    rw [hl]
    by_cases h0 : b.size = 0
    · rw [h0]; rfl
    · have : (if (b.size : Int) - 1 > -1 then ((b.size : Int) - 1 - -1 - -1 - 1) / (- -1) else 0) = (b.size : Int) := by
        rw [if_pos (by omega)]
        rw [show (- -1 : Int) = 1 from rfl, Int.ediv_one]; omega
      rw [this]; rfl
  rw [hz, ← pick_rev b.toList]
  congr 1
  funext k
  simp

theorem meets_rev (b : Array UInt8) (t : Tok) (a : Addr) (tu : Tok) :
    Meets («bytes.__getitem__» ⟨[.bytes b t, .ref a], []⟩) (fun _ R s => s.heap.IsSliceOf a .none .none (.int (-1) tu) ∧ b.size ≤ sizeLine ∧ ∀ t' k, R (.ok (.ret (.bytes b.toList.reverse.toArray t'))) { s with toks := k }) := by
  refine .of_wp fun prog w A R s hS => ?_
  obtain ⟨⟨o, ho, hc, hd⟩, hsz, h⟩ := hS
  have hT : s.TypeIs (.ref a) "slice" := ⟨o, ho, hc⟩
  show wpAny _ _ (Bytes.payload (.bytes b t) >>= fun r => _) _ _ s
  refine wpAny_bind (wpAny_of_eq (a := b) rfl ?_)
  show wpAny _ _ (Bytes.subscript? (.ref a) >>= fun r => _) _ _ s
  refine wpAny_bind ?_
  unfold Bytes.subscript?
  refine wpAny_bind (wpAny_specialOf hT slice_no_index (wpAny_pure ?_))
  refine wpAny_bind (wpAny_typeOf hT ?_)
  show wpAny _ _ (Bytes.sliceParts (.ref a) >>= fun r => _) _ _ s
  refine wpAny_bind ?_
  unfold Bytes.sliceParts
  refine wpAny_bind (wpAny_field (x := .int (-1) tu) ho hd rfl ?_)
  kby_int
  refine wpAny_ite (KBy.ite_no (show ¬ ((rawInt (-1) == rawInt 0) = true) by decide) ?_)
  refine wpAny_bind (wpAny_field (x := .none) ho hd rfl ?_)
  kby_none
  refine wpAny_bind (wpAny_field (x := .none) ho hd rfl ?_)
  kby_none
  refine wpAny_pure ?_
  have go : wpAny (model prog w) A.in1 (sliceIndices (rawPart none) (rawPart none) (rawPart (some (-1))) b.size) (fun r s' => r = sliceBounds none none (some (-1)) b.size ∧ s' = s) (fun _ _ => False) s :=
    wpAny_of_eq (sliceIndices_raw none none (some (-1)) b.size (by decide)) ⟨rfl, rfl⟩
  refine wpAny_bind (wpAny_mono go (fun r s' hr => ?_) fun _ _ e => e.elim)
  obtain ⟨hr1, hr2⟩ := hr
  subst hr1 hr2
  refine wpAny_ite (KBy.ite_no (by simp [sliceBounds]) ?_)
  have e : Bytes.sliced b (sliceBounds none none (some (-1)) b.size).1 (sliceBounds none none (some (-1)) b.size).2.1 (sliceBounds none none (some (-1)) b.size).2.2 = b.toList.reverse.toArray := sliced_rev b
  have hz : (Bytes.sliced b (sliceBounds none none (some (-1)) b.size).1 (sliceBounds none none (some (-1)) b.size).2.1 (sliceBounds none none (some (-1)) b.size).2.2).size ≤ sizeLine := by rw [e]; simpa using hsz
  rw [← e] at h
  exact wpAny_bind (wpAny_mkBytes (wpAny_pure ⟨_, rfl, h _ _⟩) hz)

section
variable {prog : Program} {ω : Ws} {A : Around} {E : Value → Shared → Prop} {g h : Heap} {gn : Array GenState} {dr : Drawn} {tk : Nat} {os : OsState} {env : Env} {vm : Str → Option Value} {Q : Value → Shared → Prop}
theorem bz_rev (oc : List Nat) : (bz oc).toList.reverse.toArray = bz oc.reverse := by simp [bz]
/-- octets[::-1] -/
theorem sl_rev {value slice : Expr} {oc : List Nat} {t tu : Tok} (hz : oc.length ≤ 10000)
    (q : ∀ t' tk', Q (.bytes (bz oc.reverse) t') ⟨h.push { cls := .type "slice", data := .fields #[.none, .none, .int (-1) tu] }, gn, dr, tk', os⟩)
    (hs : subscripted slice false (.bytes (bz oc) t) (.ref h.objs.size) = operate [.ref h.objs.size, .bytes (bz oc) t] (getItem (.bytes (bz oc) t) (.ref h.objs.size)) := by with_unfolding_all rfl) :
    wpAny (model prog ω.w) A (subscriptTail value slice (.bytes (bz oc) t) (.ref h.objs.size)) Q E ⟨h.push { cls := .type "slice", data := .fields #[.none, .none, .int (-1) tu] }, gn, dr, tk, os⟩ := by
  have hz' : (bz oc).size ≤ sizeLine := by rw [bz_size, sizeLine_eq]; omega
  refine tail_any (typeIs_bytes _ _ _) FB.slot_bytes_getitem.lookup (getItem_meets (typeIs_bytes _ _ _) (by decide) FB.slot_bytes_getitem FB.entry_bytes_getitem (FB.args_bytes_getitem_2 _ _) (meets_rev (bz oc) t _ tu) ⟨Heap.IsSliceOf.new _ _ _ _, hz', fun t' k => ?_⟩) hs
  rw [bz_rev]
  exact q _ _
/-- octets[:n] -/
theorem bz_take {oc : List Nat} {n : Nat} (hn : n ≤ oc.length) : KBy.picked (bz oc) none (some (n : Int)) = bz (oc.take n) := by
  rw [KBc.picked_eq, bz_size]
  have e2 : clipAt oc.length (n : Int) = n := by rw [clipAt_nat]; omega
  simp [Option.elim, e2, bz]
/-- a walk over octets -/
theorem It.bytes {oc : List Nat} {t : Tok} (hh : A.handled = none) (hoc : ∀ o ∈ oc, o < 256) : It prog ω.w A g (.bytes (bz oc) t) oc.length (fun i v => ∃ o u, oc[i]? = some o ∧ v = .int (o : Nat) u) where
  go := fun {h gn dr tk os Q E} S q => by
    have get : ∀ (i o : Nat), oc[i]? = some o → (bz oc)[i]? = some o.toUInt8 := fun i o e => by simp [bz, e]
    refine KBw.pyIter_bytes (q h.objs.size [h.objs.size] [h.objs.size] (fun i k => KBw.IsBytesIter k h.objs.size (bz oc) t i) _ tk ⟨fun b hb => hb, fun i k k' st hk => let ⟨o, ho, r⟩ := st; ⟨o, hk _ (by simp) _ ho, r⟩, ?_, ?_, fun i s Q E st q => KBw.pyIter_self st q⟩ ⟨_, Heap.get?_push_size _ rfl, rfl, rfl⟩ ?_ (staysIn_push _ _) ?_ ?_)
    · intro i s Q E hi st q
      have e : oc[i]? = some oc[i] := by simp [hi]
      refine KBw.next_item st (get i _ e) fun h' st' sb => ?_
      have hlt : (oc[i].toUInt8).toNat = oc[i] := by
        have := hoc _ (List.mem_of_getElem? e)
        rw [Nat.toUInt8_eq, UInt8.toNat_ofNat']; omega
      rw [hlt]
      exact q _ h' _ ⟨_, _, e, rfl⟩ st' fun b o hb e => sb.extBut b o (fun q => hb (by simp [q])) e
    · intro s Q E st q
      refine KBw.next_end hh st (by simp [bz]) fun h' eb => q h' _ fun b o hb e => eb b o (fun q => hb (by simp [q])) e
    · rintro i k ⟨o, ho, _⟩ b hb
      rw [List.mem_singleton.mp hb, ho]; nofun
    · intro b hb; rw [List.mem_singleton.mp hb]; exact get_none_size h
    · intro b hb; exact .inl hb
end
end Mine
end

/-! text Lst -/
section
open PySem PySem.W PyProof.Rows PySem.Spec PySem.Calls
set_option Elab.async false
set_option maxRecDepth 100000
set_option linter.unusedVariables false
namespace Mine
section
variable {prog : Program} {ω : Ws} {A : Around} {E : Value → Shared → Prop} {g h : Heap} {gn : Array GenState} {dr : Drawn} {tk : Nat} {os : OsState} {env : Env} {vm : Str → Option Value} {Q : Value → Shared → Prop}

/-- a slice of a list -/
theorem sl_list {value slice : Expr} {l : Addr} {vs zs : List Value} {vl vu vk : Value} {lo hi st : Option Int} {ops : List Value} (S : g.StaysIn h) (hl : h.IsList l vs.toArray) (pl : IsPart vl lo) (pu : IsPart vu hi) (pk : IsPart vk st) (h0 : st ≠ some 0) (hz : slicePick vs.toArray lo hi st = zs.toArray) (hsz : vs.length ≤ 100000)
    (q : ∀ D g' h', Grow g h g' h' → g'.IsList D zs.toArray → h.get? D = none → Q (.ref D) ⟨h', gn, dr, tk, os⟩)
    (hs : subscripted slice false (.ref l) (.ref h.objs.size) = operate ops (getItem (.ref l) (.ref h.objs.size))) :
    wpAny (model prog ω.w) A (subscriptTail value slice (.ref l) (.ref h.objs.size)) Q E ⟨h.push { cls := .type "slice", data := .fields #[vl, vu, vk] }, gn, dr, tk, os⟩ := by
  have G1 := grow_push_mut S { cls := .type "slice", data := .fields #[vl, vu, vk] }
  refine tail_any (T := "list") (Heap.IsList.typeIs (hl.push _)) list_getitem_lookup (wpAny_getItem_list_slice (hl.push _) (Heap.IsSliceOf.new ..) pl pu pk h0 ?_ (by rw [sizeLine_eq, List.size_toArray]; omega)) hs
  rw [hz]
  obtain ⟨g', G2, e⟩ := grow_push G1.gh { cls := .type "list", dict := none, data := .seq zs.toArray } rfl
  exact q _ g' _ (G1.trans G2) ⟨_, e, rfl, _, rfl⟩ (none_of_sub (staysIn_push h _) (get_none_size _))
theorem pick_take (vs : List Value) (n : Nat) : slicePick vs.toArray none (some (n : Int)) none = (vs.take n).toArray := by
  rw [slicePick_upto']
theorem pick_drop (vs : List Value) (n : Nat) : slicePick vs.toArray (some (n : Int)) none none = (vs.drop n).toArray := by
  rw [slicePick_from']

/-- lists joined -/
theorem ad_list {l b : Addr} {vs ws : List Value} (S : g.StaysIn h) (hl : h.IsList l vs.toArray) (hb : h.IsList b ws.toArray) (hsz : vs.length + ws.length ≤ 100000)
    (q : ∀ D g' h', Grow g h g' h' → g'.IsList D (vs ++ ws).toArray → h.get? D = none → Q (.ref D) ⟨h', gn, dr, tk, os⟩) : wpAny (model prog ω.w) A (binaryOp .Add (.ref l) (.ref b)) Q E ⟨h, gn, dr, tk, os⟩ := by
  obtain ⟨⟨cls, dd, data, sl⟩, ho, hc, n, hd⟩ := id hl
  obtain ⟨⟨cls2, dd2, data2, sl2⟩, ho2, hc2, n2, hd2⟩ := id hb
  simp only at hc hd hc2 hd2
  subst hc hd hc2 hd2
  have e : vs.toArray ++ ws.toArray = (vs ++ ws).toArray := by simp
  refine concat_meets ⟨_, ho, rfl⟩ ⟨_, ho2, rfl⟩ noFill_list_add seq_list_add PySem.F.slot_list_add PySem.F.entry_list_add (PySem.F.args_list_add_2 _ _) (list_addW l b vs.toArray ws.toArray n n2 dd dd2 sl sl2 (by rw [sizeLine_eq]; simp; omega)) ⟨ho, ho2, ?_⟩
  rw [e]
  obtain ⟨g', G, e⟩ := grow_push S { cls := .type "list", dict := none, data := .seq (vs ++ ws).toArray } rfl
  exact q _ g' _ G ⟨_, e, rfl, _, rfl⟩ (get_none_size h)

/-- the item before the end -/
theorem s_neg {value slice : Expr} {l : Addr} {vs : List Value} {k : Nat} {u : Tok} {v : Value} {ops : List Value} (hl : h.IsList l vs.toArray) (h1 : 1 ≤ k) (h2 : k ≤ vs.length) (hx : vs[vs.length - k]? = some v) (hsz : vs.length ≤ 100000) (q : Q v ⟨h, gn, dr, tk, os⟩)
    (hs : subscripted slice false (.ref l) (.int (-(k : Int)) u) = operate ops (getItem (.ref l) (.int (-(k : Int)) u))) :
    wpAny (model prog ω.w) A (subscriptTail value slice (.ref l) (.int (-(k : Int)) u)) Q E ⟨h, gn, dr, tk, os⟩ := by
  refine tail_any (T := "list") (Heap.IsList.typeIs hl) list_getitem_lookup (wpAny_getItem_list_neg hl (by omega) (by simp; omega) (by omega) ?_ q) hs
  have : (-(k : Int) + ((vs.toArray.size : Nat) : Int)).toNat = vs.length - k := by simp; omega
  rw [this]; simpa using hx
theorem u_neg {a : Int} {t : Tok} (q : ∀ t tk', Q (.int (-a) t) ⟨h, gn, dr, tk', os⟩) : wpAny (model prog ω.w) A (unaryOp .USub (.int a t)) Q E ⟨h, gn, dr, tk, os⟩ := neg_int (q _ _)
end

/-! _law_due, plainly -/
noncomputable def dueEnds : List Nat → Nat → Int → Int → List Nat
  | [], _, _, _ => []
  | o :: r, p, ht, ls => if ht + o - 1 < ls then (p + 1) :: dueEnds r (p + 1) (ht + o - 1) (ht + o - 1) else dueEnds r (p + 1) (ht + o - 1) ls
noncomputable def dueStep (o : Nat) (ts : List PyData) : List PyData := .list (ts.take o) :: ts.drop o
noncomputable def dueTrees (oc : List Nat) : List PyData := oc.foldr dueStep []
noncomputable def dueEs (oc : List Nat) : List Nat := 0 :: dueEnds oc 0 0 0
noncomputable def dueD (oc : List Nat) : PyData := toldD (dueTrees (oc.take ((dueEs oc).getLast?.getD 0))) (dueEs oc) 12
end Mine
end

/-! text Due -/
section
open PySem PySem.W PyProof.Rows PySem.Spec PySem.Calls
set_option Elab.async false
set_option maxRecDepth 100000
set_option linter.unusedVariables false
namespace Mine
noncomputable def natD (ns : List Nat) : List PyData := ns.map fun e => .int (e : Nat)
section
variable {prog : Program} {ω : Ws} {A : Around} {E : Value → Shared → Prop} {g h : Heap} {gn : Array GenState} {dr : Drawn} {tk : Nat} {os : OsState} {env : Env} {vm : Str → Option Value}
theorem RdAll.nats {vs : List Value} {ns : List Nat} (x : RdAll g vs (natD ns)) (g' : Heap) : RdAll g' vs (natD ns) := by
  refine ⟨x.1, fun i v d a b => ?_⟩
  have r := x.2 i v d a b
  unfold natD at b
  rw [List.getElem?_map] at b
  cases e : ns[i]? with
  | none => rw [e] at b; cases b
  | some k =>
    rw [e] at b; cases b
    obtain ⟨t, rfl⟩ := r.int_inv
    exact .int _ _
theorem octet_at {oc : List Nat} {p o : Nat} (ho : oc[p]? = some o) (h256 : o < 256) : (((oc.map Nat.toUInt8).getD ((p : Nat) : Int).toNat 0).toNat : Int) = (o : Nat) := by
  have e0 : (oc.map Nat.toUInt8).getD p 0 = o.toUInt8 := by simp [List.getD, ho]
  rw [Int.toNat_natCast, e0, Nat.toUInt8_eq, UInt8.toNat_ofNat', Nat.mod_eq_of_lt h256]
theorem s_bytes {Q : Value → Shared → Prop} {value slice : Expr} {oc : List Nat} {t u : Tok} {p o : Nat} (hz : oc.length ≤ 10000) (ho : oc[p]? = some o) (h256 : o < 256) (q : ∀ t' tk', Q (.int (o : Nat) t') ⟨h, gn, dr, tk', os⟩)
    (hs : subscripted slice false (.bytes (bz oc) t) (.int (p : Nat) u) = operate [.bytes (bz oc) t, .int (p : Nat) u] (getItem (.bytes (bz oc) t) (.int (p : Nat) u)) := by with_unfolding_all rfl)
    (ht : ∀ r, letTemporaryGo value (.bytes (bz oc) t) r = pure () := by intro _; with_unfolding_all rfl) :
    wpAny (model prog ω.w) A (subscriptTail value slice (.bytes (bz oc) t) (.int (p : Nat) u)) Q E ⟨h, gn, dr, tk, os⟩ := by
  have hl := (List.getElem?_eq_some_iff.mp ho).1
  have hl' : (oc.map Nat.toUInt8).length = oc.length := List.length_map ..
  have f1 : (oc.map Nat.toUInt8).length ≤ 1099511627776 := by rw [hl']; exact Nat.le_trans hz (by decide)
  have f2 : (0 : Int) ≤ (p : Nat) := Int.natCast_nonneg p
  have f3 : ((p : Nat) : Int) < ((oc.map Nat.toUInt8).length : Nat) := by rw [hl']; exact Int.ofNat_lt.mpr hl
  exact bytes_item_K (x := oc.map Nat.toUInt8) f1 f2 f3 (octet_at ho h256) (q _ _) hs ht
end
section
variable {prog : Program} {ω : Ws} {A : Around} {E : Value → Shared → Prop} {g h : Heap} {gn : Array GenState} {dr : Drawn} {tk : Nat} {os : OsState} {env : Env} {vm : Str → Option Value}
theorem dueEnds_le : ∀ (r : List Nat) (p : Nat) (a b : Int), ∀ e ∈ dueEnds r p a b, e ≤ p + r.length
  | [], _, _, _, e, h => by simp [dueEnds] at h
  | o :: r, p, a, b, e, h => by
    simp only [dueEnds] at h
    split at h
    · rcases List.mem_cons.mp h with rfl | h
      · show p + 1 ≤ p + (r.length + 1); omega
      · have := dueEnds_le r _ _ _ e h; show e ≤ p + (r.length + 1); omega
    · have := dueEnds_le r _ _ _ e h; show e ≤ p + (r.length + 1); omega
theorem dueEnds_len : ∀ (r : List Nat) (p : Nat) (a b : Int), (dueEnds r p a b).length ≤ r.length
  | [], _, _, _ => by simp [dueEnds]
  | o :: r, p, a, b => by
    simp only [dueEnds]
    split
    · have := dueEnds_len r (p + 1) (a + o - 1) (a + o - 1); simp; omega
    · have := dueEnds_len r (p + 1) (a + o - 1) b; simp; omega
theorem dueTrees_foldl (u : List Nat) : dueTrees u = u.reverse.foldl (fun acc o => dueStep o acc) [] := by
  unfold dueTrees; rw [List.foldl_reverse]
theorem dueStep_len (o : Nat) (ts : List PyData) : (dueStep o ts).length ≤ ts.length + 1 := by
  unfold dueStep; simp
theorem foldl_len (r : List Nat) : ∀ acc : List PyData, (r.foldl (fun acc o => dueStep o acc) acc).length ≤ acc.length + r.length := by
  induction r with
  | nil => intro acc; simp
  | cons o r ih => intro acc; have := ih (dueStep o acc); have := dueStep_len o acc; simp only [List.foldl_cons, List.length_cons]; omega

theorem due_ok {Q : Value → Shared → Prop} {oc : List Nat} {tb : Tok} (W : Wd ω g) (S : g.StaysIn h) (R : Rm A 3) (h12 : oc.length = 12) (hoc : ∀ o ∈ oc, o < 256)
    (q : ∀ v g' h' tk', Grow g h g' h' → Rd g' v (dueD oc) → Q v ⟨h', gn, dr, tk', os⟩) : wpAny (model prog ω.w) A (call (.ref 148) [.bytes (bz oc) tb]) Q E ⟨h, gn, dr, tk, os⟩ := by
  refine call_defV (k := 2) (binds := [("octets", .bytes (bz oc) tb)]) W S R rfl rfl rfl rfl (by decide) (by decide) ?_
  intro L h₁ tk₁ A₁ E₁ Q₁ env vm₀ hQ R' hA' F hk hO
  have hL : h.get? L = none := hO _ (.inl rfl)
  refine wpAny_execs_cons ?_
  refine wpAny_Assign_Name ?_
  refine List_ ?_
  refine spliced_more ?_
  refine c_int ?_; intro t0 _
  refine spliced_none ?_
  refine n_listM F.sub ?_ (by simp)
  intro P h₂ G₂ hP nP oP
  have F₂ := F.grow0 G₂
  refine F₂.stLV ?_
  intro h₃ _ F₃ fo₃
  have PL : P ≠ L := fun q => F.own_alive (.inl rfl) (show Heap.get? _ L = none by rw [← q]; exact nP)
  have nPh : h.get? P = none := none_of_sub hk nP
  have hP₃ := hP.at (h' := h₃) fun o e => (fo₃ P fun ow => PL (own1 ow)).trans e
  refine wpAny_execs_cons ?_
  refine wpAny_Assign_Name ?_
  refine c_intD ?_
  refine F₃.stLV ?_
  intro h₄ _ F₄ fo₄
  have hP₄ := hP₃.at (h' := h₄) fun o e => (fo₄ P fun ow => PL (own1 ow)).trans e
  refine wpAny_execs_cons ?_
  refine wpAny_Assign_Name ?_
  refine c_intD ?_
  refine F₄.stLV ?_
  intro h₅ _ F₅ fo₅
  have hP₅ := hP₄.at (h' := h₅) fun o e => (fo₅ P fun ow => PL (own1 ow)).trans e
  refine wpAny_execs_cons ?_
  refine wpAny_For ?_
  refine Call_ ?_
  refine F₅.ldB ?_ boot_range
  refine PyProof.Rows.callWith_type1 ?_
  refine spliced_more ?_
  refine c_intD ?_
  refine spliced_none ?_
  refine r_range1 F₅.sub ?_
  intro rg g₆ h₆ tk₆ t1 t2 t3 G₆ hr
  have F₆ := F₅.grow0 G₆
  have hP₆ := hP₅.at (h' := h₆) fun o e => G₆.keep _ _ e
  have oP₆ : g₆.get? P = none := by obtain ⟨n, e⟩ := hP₅; exact G₆.off oP e
  have kh6 : h.StaysIn h₆ := fun b o e => by
    have bL : b ≠ L := fun q => by rw [q, hL] at e; cases e
    exact G₆.keep _ _ ((fo₅ b fun ow => bL (own1 ow)).trans ((fo₄ b fun ow => bL (own1 ow)).trans ((fo₃ b fun ow => bL (own1 ow)).trans (G₂.keep _ _ (hk _ _ e)))))
  refine for_loopV (It.range1 (ω := ω) (n := 12) R'.hd hr (by decide)) F₆ (· = P) (fun i vm' g' h' => vm' "octets" = some (.bytes (bz oc) tb) ∧ vm' "ends" = some (.ref P) ∧ ∃ ht ls es vs ta tl, vm' "height" = some (.int ht ta) ∧ vm' "least" = some (.int ls tl) ∧ h'.PlainList P vs.toArray ∧ RdAll g vs (natD es) ∧ dueEs oc = es ++ dueEnds (oc.drop i) i ht ls) ?_ ?_ ⟨rfl, rfl, 0, 0, [0], [.int 0 t0], _, _, rfl, rfl, hP₆, .cons (.int _ _) .nil, rfl⟩ ?_ ?_
  · rintro b rfl
    exact ⟨plain_al hP₆, fun ow => PL (own1 ow), oP₆⟩
  · rintro i vm' g' H₁ H₂ ⟨v0, v1, ht, ls, es, vs, ta, tl, v2, v3, hl, r⟩ kk
    exact ⟨v0, v1, ht, ls, es, vs, ta, tl, v2, v3, hl.at fun o e => kk _ _ rfl e, r⟩
  · rintro i v vm' g' h' tk' E' hi ⟨ti, rfl⟩ ⟨v0, v1, ht, ls, es, vs, ta, tl, v2, v3, hl, hvs, hdue⟩ F' G'
    have hil : i < oc.length := by omega
    have ho : oc[i]? = some oc[i] := by simp [hil]
    have hd : oc.drop i = oc[i] :: oc.drop (i + 1) := List.drop_eq_getElem_cons hil
    generalize oc[i] = o at *
    have oP' : g'.get? P = none := by obtain ⟨n, e⟩ := hP₆; exact G'.off oP₆ e
    have hesl : es.length ≤ 13 := by
      have h1 := congrArg List.length hdue
      have h2 := dueEnds_len oc 0 0 0
      simp [dueEs] at h1; omega
    refine enter fun Q₂ E₂ hQ₂ hE₂ => ?_
    refine wpAny_execs_cons ?_
    refine wpAny_Assign_Name ?_
    refine wpAny_BinOp ?_
    refine wpAny_BinOp ?_
    refine F'.ldL (upd_ne v2) ?_
    refine Subscript_ ?_
    refine F'.ldL (upd_ne v0) ?_
    refine F'.ldL rfl ?_
    refine s_bytes (leE h12) ho (hoc o (List.mem_of_getElem? ho)) ?_
    intro _ _
    refine b_addD ?_
    refine c_intD ?_
    refine b_sub ?_; intro th _
    refine F'.stLV ?_
    intro h₇ _ F₇ fo₇
    have hl₇ := hl.at (h' := h₇) fun o e => (fo₇ P fun ow => PL (own1 ow)).trans e
    refine wpAny_execs_cons ?_
    refine wpAny_If ?_
    refine wpAny_isTrue_Compare1 ?_
    refine F₇.ldL rfl ?_
    refine F₇.ldL (upd_ne (upd_ne v3)) ?_
    refine k_lt ?_
    refine t_bool ?_
    rw [hd] at hdue
    by_cases hlt : ht + (o : Nat) - 1 < ls
    · rw [if_pos (by simp [hlt])]
      refine wpAny_execs_cons ?_
      refine wpAny_Assign_Name ?_
      refine F₇.ldL rfl ?_
      refine F₇.stLV ?_
      intro h₈ _ F₈ fo₈
      have hl₈ := hl₇.at (h' := h₈) fun o e => (fo₈ P fun ow => PL (own1 ow)).trans e
      refine wpAny_execs_cons ?_
      refine wpAny_Expr_any ?_
      refine MethodCall_ ?_
      refine F₈.ldL (upd_ne (upd_ne (upd_ne v1))) ?_
      refine g_app hl₈ ?_
      refine callWith_method1 ?_
      refine spliced_more ?_
      refine wpAny_BinOp ?_
      refine F₈.ldL (upd_ne (upd_ne rfl)) ?_
      refine c_intD ?_
      refine b_addD ?_
      refine spliced_none ?_
      refine ap_call F₈ oP' hl₈ (fun ow => PL (own1 ow)) (by have := hvs.1; rw [natD, List.length_map] at this; omega) ?_
      intro h₉ F₉ G₉ hl₉
      repeat refine wpAny_execs_nil ?_
      refine hQ₂ _ _ ⟨_, g', h₉, _, rfl, ⟨upd_ne (upd_ne (upd_ne v0)), upd_ne (upd_ne (upd_ne v1)), _, _, es ++ [i + 1], _, _, _, upd_ne rfl, rfl, hl₉, ?_, ?_⟩, F₉, ((st_grow F'.sub F₇ fo₇).trans (st_grow F₇.sub F₈ fo₈)).trans (G₉.wide fun _ q => .inr q)⟩
      · rw [natD, List.map_append]; exact hvs.snoc (.int _ _)
      · rw [hdue, dueEnds, if_pos hlt, List.append_assoc]; rfl
    · rw [if_neg (by simp [hlt])]
      repeat refine wpAny_execs_nil ?_
      refine hQ₂ _ _ ⟨_, g', h₇, _, rfl, ⟨upd_ne (upd_ne v0), upd_ne (upd_ne v1), _, _, es, _, _, _, rfl, upd_ne (upd_ne v3), hl₇, hvs, ?_⟩, F₇, st_grow F'.sub F₇ fo₇⟩
      rw [hdue, dueEnds, if_neg hlt]
  · rintro vm' g' h' tk' ⟨v0, v1, ht, ls, es, vs, ta, tl, v2, v3, hl, hvs, hdue⟩ F' G'
    have hes : es = dueEs oc := by rw [hdue, List.drop_eq_nil_of_le (by omega)]; simp [dueEnds]
    subst hes
    have oP' : g'.get? P = none := by obtain ⟨n, e⟩ := hP₆; exact G'.off oP₆ e
    have deadX : ∀ {env : Env} (b : Addr), env.locals = L → env.cells = [] → OwnK env (· = P) b → No b ∨ h.get? b = none := fun {env} b e1 e2 ow => .inr (ow.elim (fun ow => by have e3 := (own1 ow e2).trans e1; rw [e3]; exact hL) fun e2 => (show b = P from e2) ▸ nPh)
    have kh5 : h.StaysIn h₅ := fun b o e => by
      have bL : b ≠ L := fun q => by rw [q, hL] at e; cases e
      exact (fo₅ b fun ow => bL (own1 ow)).trans ((fo₄ b fun ow => bL (own1 ow)).trans ((fo₃ b fun ow => bL (own1 ow)).trans (G₂.keep _ _ (hk _ _ e))))
    have G0 : Grow g h g' h' := ((Grow.same S kh5).trans G₆).later G' fun b ow => deadX b rfl rfl ow
    -- the last end
    have hne : (dueEs oc).length ≠ 0 := by simp [dueEs]
    have hvl : vs.length = (dueEs oc).length := by simpa [natD] using hvs.1
    have hesl : (dueEs oc).length ≤ 13 := by
      have h2 := dueEnds_len oc 0 0 0
      simp [dueEs]; omega
    obtain ⟨v9, hv9⟩ : ∃ v, vs[vs.length - 1]? = some v := ⟨vs[vs.length - 1], by simp⟩
    obtain ⟨d9, hd9, r9⟩ := hvs.getv hv9
    have hlast : ∃ e t, v9 = .int (e : Nat) t ∧ (dueEs oc).getLast?.getD 0 = e ∧ e ≤ 12 := by
      rw [natD, List.getElem?_map, hvl] at hd9
      have hl9 : (dueEs oc)[(dueEs oc).length - 1]? = (dueEs oc).getLast? := by rw [List.getLast?_eq_getElem?]
      cases e9 : (dueEs oc)[(dueEs oc).length - 1]? with
      | none => rw [e9] at hd9; cases hd9
      | some e =>
        rw [e9] at hd9; cases hd9
        obtain ⟨t, rfl⟩ := r9.int_inv
        refine ⟨e, t, rfl, by rw [← hl9, e9]; rfl, ?_⟩
        have hm := List.mem_of_getElem? e9
        rcases List.mem_cons.mp (show e ∈ 0 :: dueEnds oc 0 0 0 from hm) with rfl | hm
        · omega
        · have := dueEnds_le oc 0 0 0 e hm; omega
    obtain ⟨e9, t9, rfl, hget, he12⟩ := hlast
    have hDD : dueD oc = toldD (dueTrees (oc.take e9)) (dueEs oc) 12 := by unfold dueD; rw [hget]
    refine wpAny_execs_cons ?_
    refine wpAny_Assign_Name ?_
    refine List_ ?_
    refine spliced_none ?_
    refine n_list F'.sub ?_ (by simp)
    intro D0 g7 h7 G7 hD0 nD0
    have F7 := F'.grow0 G7
    have hl7 := hl.at (h' := h7) fun o e => G7.keep _ _ e
    refine F7.stLV ?_
    intro h8 _ F8 fo8
    have hl8 := hl7.at (h' := h8) fun o e => (fo8 P fun ow => PL (own1 ow)).trans e
    refine wpAny_execs_cons ?_
    refine wpAny_For ?_
    refine Subscript_ ?_
    refine Subscript_ ?_
    refine F8.ldL (upd_ne v0) ?_
    refine wpAny_Slice ?_
    refine wpAny_evalPart_none ?_
    refine wpAny_evalPart_some ?_
    refine Subscript_ ?_
    refine F8.ldL (upd_ne v1) ?_
    refine UnaryOp_ ?_
    refine c_intD ?_
    refine u_negD ?_
    refine s_neg (k := 1) (ops := [_, _]) hl8.isList (by omega) (by omega) hv9 (by omega) ?_ (by with_unfolding_all rfl)
    refine wpAny_evalPart_none ?_
    refine sl_bytes .none (.int _ _) (by rw [bz_size]; omega) ?_
    intro _ _
    rw [bz_take (by omega)]
    have F9 := F8.grow0 (grow_push_mut F8.sub { cls := .type "slice", data := .fields #[.none, .int (e9 : Nat) t9, .none] })
    have hl9 := hl8.at (h' := h8.push { cls := .type "slice", data := .fields #[.none, .int (e9 : Nat) t9, .none] }) fun o e => Heap.get?_push_of_some _ e
    have G9 := ((GrowX.ownK (K := (· = P)) G7).trans (st_grow F7.sub F8 fo8)).trans (GrowX.ownK (grow_push_mut F8.sub { cls := .type "slice", data := .fields #[.none, .int (e9 : Nat) t9, .none] }))
    generalize h8.push { cls := .type "slice", data := .fields #[.none, .int (e9 : Nat) t9, .none] } = h9 at *
    refine wpAny_Slice ?_
    refine wpAny_evalPart_none ?_
    refine wpAny_evalPart_none ?_
    refine wpAny_evalPart_some ?_
    refine UnaryOp_ ?_
    refine c_intD ?_
    refine u_neg ?_; intro tu _
    refine sl_rev (by simp; omega) ?_
    intro _ _
    have F10 := F9.grow0 (grow_push_mut F9.sub { cls := .type "slice", data := .fields #[.none, .none, .int (-1) tu] })
    have hl10 := hl9.at (h' := h9.push { cls := .type "slice", data := .fields #[.none, .none, .int (-1) tu] }) fun o e => Heap.get?_push_of_some _ e
    have G10 := G9.trans (GrowX.ownK (grow_push_mut F9.sub { cls := .type "slice", data := .fields #[.none, .none, .int (-1) tu] }))
    generalize h9.push { cls := .type "slice", data := .fields #[.none, .none, .int (-1) tu] } = h10 at *
    have oP7 : g7.get? P = none := by obtain ⟨n, e⟩ := hl; exact G7.off oP' e
    have hu256 : ∀ o ∈ (oc.take e9).reverse, o < 256 := fun o ho => hoc o (List.mem_of_mem_take (List.mem_reverse.mp ho))
    have hul : (oc.take e9).reverse.length ≤ 12 := by simp; omega
    have hfin : dueTrees (oc.take e9) = (oc.take e9).reverse.foldl (fun acc o => dueStep o acc) [] := dueTrees_foldl _
    generalize (oc.take e9).reverse = u at *
    refine for_loopV (It.bytes (ω := ω) R'.hd hu256) F10 (· = P) (fun i vm' g' h' => vm' "ends" = some (.ref P) ∧ h'.PlainList P vs.toArray ∧ ∃ a, vm' "trees" = some (.ref a) ∧ Rd g' (.ref a) (.list ((u.take i).foldl (fun acc o => dueStep o acc) []))) ?_ ?_ ⟨upd_ne v1, hl10, D0, rfl, .list hD0 .nil⟩ ?_ ?_
    · rintro b rfl
      exact ⟨plain_al hl10, fun ow => PL (own1 ow), oP7⟩
    · rintro i vm' g' H₁ H₂ ⟨w1, w2, r⟩ kk
      exact ⟨w1, w2.at fun o e => kk _ _ rfl e, r⟩
    · rintro i v vmL gL hL' tkL EL hi ⟨o, to, ho, rfl⟩ ⟨w1, w2, a, w3, rd⟩ FL GL
      have hlen := foldl_len (u.take i) []
      have htk : (u.take i).length ≤ 12 := by simp; omega
      have ho1 : u.take (i + 1) = u.take i ++ [o] := by rw [List.take_add_one, ho]; rfl
      obtain ⟨a', tvs, e1, hla, rtv⟩ := rd.list_inv
      cases e1
      have htl : tvs.length ≤ 12 := by have := rtv.1; simp at hlen; omega
      refine enter fun Q₂ E₂ hQ₂ hE₂ => ?_
      refine wpAny_execs_cons ?_
      refine wpAny_Assign_Name ?_
      refine wpAny_BinOp ?_
      refine List_ ?_
      refine spliced_more ?_
      refine Subscript_ ?_
      refine FL.ldL (upd_ne w3) ?_
      refine wpAny_Slice ?_
      refine wpAny_evalPart_none ?_
      refine wpAny_evalPart_some ?_
      refine FL.ldL rfl ?_
      refine wpAny_evalPart_none ?_
      refine sl_list (ops := [_, _]) FL.sub (hla.at fun o e => FL.sub _ _ e) .none (.int _ _) .none (by simp) (pick_take tvs o) (leK htl) ?_ (by with_unfolding_all rfl)
      intro D1 g1 h1 G1 hD1 nD1
      have F1 := FL.grow0 G1
      refine spliced_none ?_
      refine n_list F1.sub ?_ (by simp)
      intro D2 g2 h2 G2 hD2 nD2
      have F2 := F1.grow0 G2
      refine Subscript_ ?_
      refine F2.ldL (upd_ne w3) ?_
      refine wpAny_Slice ?_
      refine wpAny_evalPart_some ?_
      refine F2.ldL rfl ?_
      refine wpAny_evalPart_none ?_
      refine wpAny_evalPart_none ?_
      have hla2 : h2.IsList a tvs.toArray := (hla.at (h' := g2) fun o e => G2.gg _ _ (G1.gg _ _ e)).at fun o e => F2.sub _ _ e
      refine sl_list (ops := [_, _]) F2.sub hla2 (.int _ _) .none .none (by simp) (pick_drop tvs o) (leK htl) ?_ (by with_unfolding_all rfl)
      intro D3 g3 h3 G3 hD3 nD3
      have F3 := F2.grow0 G3
      refine ad_list F3.sub ((hD2.at (h' := g3) fun o e => G3.gg _ _ e).at fun o e => F3.sub _ _ e) (hD3.at fun o e => F3.sub _ _ e) (by simp; omega) ?_
      intro D4 g4 h4 G4 hD4 nD4
      have F4 := F3.grow0 G4
      refine F4.stLV ?_
      intro h5 _ F5 fo5
      have k4 : ∀ o, hL'.get? P = some o → h4.get? P = some o := fun o e => G4.keep _ _ (G3.keep _ _ (G2.keep _ _ (G1.keep _ _ e)))
      refine wpAny_execs_nil ?_
      refine hQ₂ _ _ ⟨_, g4, h5, _, rfl, ⟨upd_ne (upd_ne w1), (w2.at fun o e => k4 o e).at fun o e => (fo5 P fun ow => PL (own1 ow)).trans e, D4, rfl, ?_⟩, F5, (((G1.trans G2).trans (G3.trans G4)).ownK).trans (st_grow F4.sub F5 fo5)⟩
      rw [ho1, List.foldl_append, List.foldl_cons, List.foldl_nil]
      have sg1 : g1.StaysIn g4 := staysIn_trans G2.gg (staysIn_trans G3.gg G4.gg)
      have sgL : gL.StaysIn g4 := staysIn_trans G1.gg sg1
      refine .list hD4 ?_
      refine .cons ?_ ((rtv.drop o).mono sgL)
      exact .list (hD1.at fun o e => sg1 _ _ e) ((rtv.take o).mono sgL)
    · rintro vmL gL hL' tkL ⟨w1, w2, a, w3, rd⟩ FL GL
      rw [List.take_length, ← hfin] at rd
      refine wpAny_execs_cons ?_
      refine wpAny_Return_some ?_
      refine List_ ?_
      refine spliced_more ?_
      refine FL.ldL w3 ?_
      refine spliced_more ?_
      refine FL.ldL w1 ?_
      refine spliced_more ?_
      refine c_intD ?_
      refine spliced_more ?_
      refine Tuple_ ?_
      refine spliced_more ?_
      refine c_strD ?_
      refine spliced_none ?_
      refine n_tuple FL.sub ?_ (by simp) (by simp)
      intro D1 g1 h1 G1 hD1 nD1
      have F1 := FL.grow0 G1
      refine spliced_none ?_
      refine n_list F1.sub ?_ (by simp)
      intro D2 g2 h2 G2 hD2 nD2
      have GA : Grow g h g2 h2 := (((G0.later G10 fun b ow => deadX b rfl rfl ow).later GL fun b ow => deadX b rfl rfl ow).trans G1).trans G2
      have w2' : h2.PlainList P vs.toArray := (w2.at fun o e => G1.keep _ _ e).at fun o e => G2.keep _ _ e
      obtain ⟨nn, eP⟩ := w2'
      obtain ⟨g3, G3, s3, e3, _⟩ := GA.freeze eP nPh
      refine hQ _ _ ?_
      refine q _ g3 h2 _ G3 ?_
      rw [hDD]
      have s23 := staysIn_trans G2.gg s3
      exact .list (hD2.at fun o e => s3 _ _ e) (.cons (rd.mono (staysIn_trans G1.gg s23)) (.cons (.list ⟨_, e3, rfl, nn, rfl⟩ (hvs.nats g3)) (.cons (.int _ _) (.cons (.tuple (hD1.at fun o e => s23 _ _ e) (.cons (.str _ _) .nil)) .nil))))
end
end Mine
end

/-! text Text -/
section
open PySem PySem.W PyProof.Rows PySem.Spec PySem.Calls
set_option Elab.async false
set_option maxRecDepth 100000
set_option maxHeartbeats 2000000
set_option linter.unusedVariables false
namespace Mine
noncomputable def cat (xs : List Str) : Str := Txt.join "" xs
noncomputable def txtStep (o : Nat) (ts : List Str) : List Str := ((("b" : Str) ++ cat (ts.take o)) ++ ("a" : Str)) :: ts.drop o
noncomputable def txts (oc : List Nat) : List Str := oc.foldr txtStep []
noncomputable def text (oc : List Nat) : Str := cat (txts oc)
noncomputable def sumLen (ts : List Str) : Nat := (ts.map (·.length)).sum

theorem cat_len : ∀ ts : List Str, (cat ts).length ≤ sumLen ts := fun ts => by
  have := StrLaws.join_length_le "" ts
  unfold cat sumLen
  rw [show Txt.join "" ts = Str.join "" ts from StrLaws.glued_eq_join "" ts]
  have e : ("" : Str).length = 0 := rfl
  rw [e] at this; omega
theorem sumLen_take_drop (ts : List Str) (o : Nat) : sumLen (ts.take o) + sumLen (ts.drop o) = sumLen ts := by
  unfold sumLen
  rw [← List.sum_append, ← List.map_append, List.take_append_drop]
theorem txtStep_len (o : Nat) (ts : List Str) : sumLen (txtStep o ts) ≤ sumLen ts + 2 := by
  have h1 := cat_len (ts.take o)
  have h2 := sumLen_take_drop ts o
  unfold txtStep
  show ((("b" : Str) ++ cat (ts.take o)) ++ ("a" : Str)).length + sumLen (ts.drop o) ≤ _
  rw [len_app, len_app, show ("b" : Str).length = 1 from rfl, show ("a" : Str).length = 1 from rfl]
  omega
theorem tfold_len (r : List Nat) : ∀ acc : List Str, sumLen (r.foldl (fun acc o => txtStep o acc) acc) ≤ sumLen acc + 2 * r.length := by
  induction r with
  | nil => intro acc; simp
  | cons o r ih => intro acc; have := ih (txtStep o acc); have := txtStep_len o acc; simp only [List.foldl_cons, List.length_cons]; omega
theorem tfold_cnt (r : List Nat) : ∀ acc : List Str, (r.foldl (fun acc o => txtStep o acc) acc).length ≤ acc.length + r.length := by
  induction r with
  | nil => intro acc; simp
  | cons o r ih =>
    intro acc
    have := ih (txtStep o acc)
    have h2 : (txtStep o acc).length ≤ acc.length + 1 := by unfold txtStep; simp
    simp only [List.foldl_cons, List.length_cons]; omega
theorem join_okS {xs : List Str} (h : sumLen xs ≤ 10000) : JoinOk "" xs = true := by
  unfold JoinOk
  rw [Bool.not_eq_true', StrLaws.joinTotal]
  have e : ("" : Str).length = 0 := rfl
  have h' : (xs.map (·.length)).sum ≤ 10000 := h
  rw [e]
  unfold Builtin.Str.tooLong
  rw [sizeLine_eq]
  exact decide_eq_false (by omega)
theorem sumLen_take (ts : List Str) (o : Nat) : sumLen (ts.take o) ≤ sumLen ts := by have := sumLen_take_drop ts o; omega
theorem RdAll.strs {g : Heap} : ∀ {vs : List Value} {xs : List Str}, RdAll g vs (xs.map .str) → Strs vs xs
  | [], [], _ => .nil
  | [], _ :: _, x => by simp [RdAll] at x
  | _ :: _, [], x => by simp [RdAll] at x
  | v :: vs, y :: ys, x => by
    obtain ⟨t, rfl⟩ := RdAll.head x |>.str_inv
    obtain ⟨l, rfl, rfl⟩ := RdAll.strs (RdAll.tail x)
    exact ⟨(y, t) :: l, rfl, rfl⟩
section
variable {prog : Program} {ω : Ws} {A : Around} {E : Value → Shared → Prop} {g h : Heap} {gn : Array GenState} {dr : Drawn} {tk : Nat} {os : OsState} {env : Env} {vm : Str → Option Value}
theorem j_cat {Q : Value → Shared → Prop} {D : Addr} {vs : List Value} {xs : List Str} {t : Tok} (hl : h.IsList D vs.toArray) (hx : Strs vs xs) (hz : sumLen xs ≤ 10000) (q : ∀ t' tk', Q (.str (cat xs) t') ⟨h, gn, dr, tk', os⟩) :
    wpAny (model prog ω.w) A (call (.builtin "str.join") [.str "" t, .ref D]) Q E ⟨h, gn, dr, tk, os⟩ := by
  obtain ⟨l, rfl, hl2⟩ := hx
  exact SC.join hl hl2 (join_okS hz) fun t' k => q _ _

theorem text_ok {Q : Value → Shared → Prop} {oc : List Nat} {tb : Tok} (W : Wd ω g) (S : g.StaysIn h) (R : Rm A 3) (h12 : oc.length ≤ 100) (hoc : ∀ o ∈ oc, o < 256)
    (q : ∀ h' tk' t', Grow g h g h' → Q (.str (text oc) t') ⟨h', gn, dr, tk', os⟩) : wpAny (model prog ω.w) A (call (.ref 155) [.bytes (bz oc) tb]) Q E ⟨h, gn, dr, tk, os⟩ := by
  refine call_defV (k := 2) (binds := [("octets", .bytes (bz oc) tb)]) W S R rfl rfl rfl rfl (by decide) (by decide) ?_
  intro L h₁ tk₁ A₁ E₁ Q₁ env vm₀ hQ R' hA' F hk hO
  have hL : h.get? L = none := hO _ (.inl rfl)
  refine wpAny_execs_cons ?_
  refine wpAny_Assign_Name ?_
  refine List_ ?_
  refine spliced_none ?_
  refine n_list F.sub ?_ (by simp)
  intro D0 g7 h7 G7 hD0 nD0
  have F7 := F.grow0 G7
  refine F7.stLV ?_
  intro h8 _ F8 fo8
  refine wpAny_execs_cons ?_
  refine wpAny_For ?_
  refine Subscript_ ?_
  refine F8.ldL (upd_ne rfl) ?_
  refine wpAny_Slice ?_
  refine wpAny_evalPart_none ?_
  refine wpAny_evalPart_none ?_
  refine wpAny_evalPart_some ?_
  refine UnaryOp_ ?_
  refine c_intD ?_
  refine u_neg ?_; intro tu _
  refine sl_rev (by omega) ?_
  intro _ _
  have F10 := F8.grow0 (grow_push_mut F8.sub { cls := .type "slice", data := .fields #[.none, .none, .int (-1) tu] })
  have k10 : h.StaysIn (h8.push { cls := .type "slice", data := .fields #[.none, .none, .int (-1) tu] }) := fun b o e => by
    have bL : b ≠ L := fun q => by rw [q, hL] at e; cases e
    exact Heap.get?_push_of_some _ ((fo8 b fun ow => bL (own1 ow)).trans (G7.keep _ _ (hk _ _ e)))
  generalize h8.push { cls := .type "slice", data := .fields #[.none, .none, .int (-1) tu] } = h10 at *
  have hu256 : ∀ o ∈ oc.reverse, o < 256 := fun o ho => hoc o (List.mem_reverse.mp ho)
  have hul : oc.reverse.length ≤ 100 := by simp; omega
  have hfin : txts oc = oc.reverse.foldl (fun acc o => txtStep o acc) [] := by unfold txts; rw [List.foldl_reverse]
  generalize oc.reverse = u at *
  refine for_loopV (It.bytes (ω := ω) R'.hd hu256) F10 No (fun i vm' g' h' => ∃ a, vm' "texts" = some (.ref a) ∧ Rd g' (.ref a) (.list (((u.take i).foldl (fun acc o => txtStep o acc) []).map .str))) noK (fun _ _ _ _ _ r _ => r) ⟨D0, rfl, .list hD0 .nil⟩ ?_ ?_
  · rintro i v vmL gL hL' tkL EL hi ⟨o, to, ho, rfl⟩ ⟨a, w3, rd⟩ FL GL
    have hlen := tfold_len (u.take i) []
    have hcnt := tfold_cnt (u.take i) []
    have htk : (u.take i).length ≤ 100 := by simp; omega
    have ho1 : u.take (i + 1) = u.take i ++ [o] := by rw [List.take_add_one, ho]; rfl
    obtain ⟨a', tvs, e1, hla, rtv⟩ := rd.list_inv
    cases e1
    generalize hxs : (u.take i).foldl (fun acc o => txtStep o acc) [] = xs at *
    have hxl : sumLen xs ≤ 200 := by simp [sumLen] at hlen; simp [sumLen]; omega
    have htl : tvs.length ≤ 100 := by have := rtv.1; simp at this hcnt; omega
    refine enter fun Q₂ E₂ hQ₂ hE₂ => ?_
    refine wpAny_execs_cons ?_
    refine wpAny_Assign_Name ?_
    refine wpAny_BinOp ?_
    refine List_ ?_
    refine spliced_more ?_
    refine wpAny_BinOp ?_
    refine wpAny_BinOp ?_
    refine c_strD ?_
    refine MethodCall_ ?_
    refine c_strD ?_
    refine GM.join ?_
    refine callWith_method1 ?_
    refine spliced_more ?_
    refine Subscript_ ?_
    refine FL.ldL (upd_ne w3) ?_
    refine wpAny_Slice ?_
    refine wpAny_evalPart_none ?_
    refine wpAny_evalPart_some ?_
    refine FL.ldL rfl ?_
    refine wpAny_evalPart_none ?_
    refine sl_list (ops := [_, _]) FL.sub (hla.at fun o e => FL.sub _ _ e) .none (.int _ _) .none (by simp) (pick_take tvs o) (by omega) ?_ (by with_unfolding_all rfl)
    intro D1 g1 h1 G1 hD1 nD1
    have F1 := FL.grow0 G1
    refine spliced_none ?_
    have rt1 : RdAll gL (tvs.take o) ((xs.take o).map .str) := by rw [List.map_take]; exact rtv.take o
    have hx1 := sumLen_take xs o
    refine j_cat (hD1.at fun o e => F1.sub _ _ e) rt1.strs (by omega) ?_
    intro _ _
    have hc1 := cat_len (xs.take o)
    refine b_cat ?_ (by rw [sizeLine_eq, show ("b" : Str).length = 1 from rfl]; omega)
    intro _ _
    refine c_strD ?_
    refine b_cat ?_ (by rw [sizeLine_eq, len_app, show ("b" : Str).length = 1 from rfl, show ("a" : Str).length = 1 from rfl]; omega)
    intro _ _
    refine spliced_none ?_
    refine n_list F1.sub ?_ (by simp)
    intro D2 g2 h2 G2 hD2 nD2
    have F2 := F1.grow0 G2
    refine Subscript_ ?_
    refine F2.ldL (upd_ne w3) ?_
    refine wpAny_Slice ?_
    refine wpAny_evalPart_some ?_
    refine F2.ldL rfl ?_
    refine wpAny_evalPart_none ?_
    refine wpAny_evalPart_none ?_
    have hla2 : h2.IsList a tvs.toArray := (hla.at (h' := g2) fun o e => G2.gg _ _ (G1.gg _ _ e)).at fun o e => F2.sub _ _ e
    refine sl_list (ops := [_, _]) F2.sub hla2 (.int _ _) .none .none (by simp) (pick_drop tvs o) (by omega) ?_ (by with_unfolding_all rfl)
    intro D3 g3 h3 G3 hD3 nD3
    have F3 := F2.grow0 G3
    refine ad_list F3.sub ((hD2.at (h' := g3) fun o e => G3.gg _ _ e).at fun o e => F3.sub _ _ e) (hD3.at fun o e => F3.sub _ _ e) (by simp; omega) ?_
    intro D4 g4 h4 G4 hD4 nD4
    have F4 := F3.grow0 G4
    refine F4.stLV ?_
    intro h5 _ F5 fo5
    refine wpAny_execs_nil ?_
    refine hQ₂ _ _ ⟨_, g4, h5, _, rfl, ⟨D4, rfl, ?_⟩, F5, (((G1.trans G2).trans (G3.trans G4)).ownK).trans (st_grow F4.sub F5 fo5)⟩
    rw [ho1, List.foldl_append, List.foldl_cons, List.foldl_nil, hxs]
    have sg1 : g1.StaysIn g4 := staysIn_trans G2.gg (staysIn_trans G3.gg G4.gg)
    have sgL : gL.StaysIn g4 := staysIn_trans G1.gg sg1
    refine .list hD4 ?_
    refine .cons (.str _ _) ?_
    have := (rtv.drop o).mono sgL
    rwa [← List.map_drop] at this
  · rintro vmL gL hL' tkL ⟨a, w3, rd⟩ FL GL
    rw [List.take_length, ← hfin] at rd
    obtain ⟨a', tvs, e1, hla, rtv⟩ := rd.list_inv
    cases e1
    refine wpAny_execs_cons ?_
    refine wpAny_Return_some ?_
    refine MethodCall_ ?_
    refine c_strD ?_
    refine GM.join ?_
    refine callWith_method1 ?_
    refine spliced_more ?_
    refine FL.ldL w3 ?_
    refine spliced_none ?_
    have hz : sumLen (txts oc) ≤ 10000 := by
      have := tfold_len u []
      rw [hfin]; simp [sumLen] at this ⊢; omega
    refine j_cat (hla.at fun o e => FL.sub _ _ e) rtv.strs hz ?_
    intro t' k'
    refine hQ _ _ ?_
    exact q _ _ _ (growBack3 S k10 G7.gg GL fun b ow => ow.elim (fun ow => by have e2 : b = L := own1 ow; rw [e2]; exact hL) fun q => q.elim)
end
end Mine
end

/-! text Cmp -/
section
open PySem PySem.W PyProof.Rows PySem.Spec PySem.Calls PySem.SeqAt
open AutoSeq1 (wpAny_loadPart')
open MeetsSeq MeetsSeq2 MeetsSeq3 SeqRoads2
set_option Elab.async false
set_option maxRecDepth 100000
set_option linter.unusedVariables false
namespace Mine

/-- the order of lists: g says which way -/
noncomputable def sizesD (g : Bool) (m n : Nat) : Bool := if g then decide (n < m) else decide (m < n)
noncomputable def scan (e c : Nat → Bool) (fin : Bool) : Nat → Nat → Bool
  | 0, _ => fin
  | k + 1, i => if e i then scan e c fin k (i + 1) else c i
noncomputable def opOf (g : Bool) : CmpOp := if g then .Gt else .Lt
noncomputable def codeOf (g : Bool) : Int := if g then 4 else 0

noncomputable def CmpAt (g : Bool) (A : Around) (s : Shared) (y x : Value) (b : Bool) : Prop :=
  ∀ (prog : Program) (w : World) (E : Value → Shared → Prop) (Q : Value → Shared → Prop), Q (.bool b) s → wpAny (model prog w) A (richCompare (opOf g) y x) Q E s

set_option maxHeartbeats 4000000 in
theorem cmp_loop (gt : Bool) (l b : Addr) (items items2 : Array Value) (n n2 : Nat) (dd dd2 : Option Addr) (sl sl2 : Array (Option Value)) (e c : Nat → Bool) (k : Nat) :
    ∀ i : Nat, min items.size items2.size - i = k → Meets (Builtin.«list.__eq__.loop» ⟨[.ref l, .ref b, rawInt i, rawInt (codeOf gt)], []⟩)
      (fun A R s => s.heap.get? l = some { cls := .type "list", dict := dd, data := .seq items n, slots := sl } ∧ s.heap.get? b = some { cls := .type "list", dict := dd2, data := .seq items2 n2, slots := sl2 } ∧
        (∀ j (h1 : j < items.size) (h2 : j < items2.size), EqAt A.in1 s items[j] items2[j] (e j)) ∧
        (∀ j (h1 : j < items.size) (h2 : j < items2.size), e j = false → CmpAt gt A.in1 s items[j] items2[j] (c j)) ∧
        R (.ok (.ret (.bool (scan e c (sizesD gt items.size items2.size) k i)))) s) := by
  induction k with
  | zero =>
    intro i hk prog w A R s h
    obtain ⟨hp, g, d, tk, os⟩ := s; obtain ⟨hl, hb, he, hc, h⟩ := h
    have hor : items[((i : Nat) : Int).toNat]? = none ∨ items2[((i : Nat) : Int).toNat]? = none := by
      simp; omega
    cases gt
    · wp_walk using wpAny_loadPart' hl, wpAny_loadPart' hb
      cases h1 : items[((i : Nat) : Int).toNat]? with
      | none =>
        cases h2 : items2[((i : Nat) : Int).toNat]? with
        | none =>
          wp_walk using wpAny_loadPart' hl, wpAny_loadPart' hb
          have h' : R (.ok (.ret (.bool (decide (items.size < items2.size))))) ⟨hp, g, d, tk, os⟩ := by simpa [scan, sizesD] using h
          exact h'
        | some y =>
          wp_walk using wpAny_loadPart' hl, wpAny_loadPart' hb
          have h' : R (.ok (.ret (.bool (decide (items.size < items2.size))))) ⟨hp, g, d, tk, os⟩ := by simpa [scan, sizesD] using h
          exact h'
      | some x =>
        cases h2 : items2[((i : Nat) : Int).toNat]? with
        | none =>
          wp_walk using wpAny_loadPart' hl, wpAny_loadPart' hb
          have h' : R (.ok (.ret (.bool (decide (items.size < items2.size))))) ⟨hp, g, d, tk, os⟩ := by simpa [scan, sizesD] using h
          exact h'
        | some y =>
          rcases hor with q | q
          · rw [h1] at q; cases q
          · rw [h2] at q; cases q
    · wp_walk using wpAny_loadPart' hl, wpAny_loadPart' hb
      cases h1 : items[((i : Nat) : Int).toNat]? with
      | none =>
        cases h2 : items2[((i : Nat) : Int).toNat]? with
        | none =>
          wp_walk using wpAny_loadPart' hl, wpAny_loadPart' hb
          have h' : R (.ok (.ret (.bool (decide (items2.size < items.size))))) ⟨hp, g, d, tk, os⟩ := by simpa [scan, sizesD] using h
          exact h'
        | some y =>
          wp_walk using wpAny_loadPart' hl, wpAny_loadPart' hb
          have h' : R (.ok (.ret (.bool (decide (items2.size < items.size))))) ⟨hp, g, d, tk, os⟩ := by simpa [scan, sizesD] using h
          exact h'
      | some x =>
        cases h2 : items2[((i : Nat) : Int).toNat]? with
        | none =>
          wp_walk using wpAny_loadPart' hl, wpAny_loadPart' hb
          have h' : R (.ok (.ret (.bool (decide (items2.size < items.size))))) ⟨hp, g, d, tk, os⟩ := by simpa [scan, sizesD] using h
          exact h'
        | some y =>
          rcases hor with q | q
          · rw [h1] at q; cases q
          · rw [h2] at q; cases q
  | succ k ih =>
    intro i hk prog w A R s h
    obtain ⟨hp, g, d, tk, os⟩ := s; obtain ⟨hl, hb, he, hc, h⟩ := h
    have hlt : i < items.size := by omega
    have hlt2 : i < items2.size := by omega
    have hi1 : items[((i : Nat) : Int).toNat]? = some items[i] := by simp [hlt]
    have hi2 : items2[((i : Nat) : Int).toNat]? = some items2[i] := by simp [hlt2]
    have hcc : ((i : Int) + 1) = ((i + 1 : Nat) : Int) := by push_cast; rfl
    simp only [scan] at h
    cases gt
    · wp_walk using wpAny_loadPart' hl, wpAny_loadPart' hb
      rw [hi1, hi2]
      refine wpAny_bind (he i hlt hlt2 prog w _ _ ?_)
      cases hb' : e i with
      | true =>
        rw [hb'] at h
        wp_walk
        rw [hcc]
        exact ⟨plainId_quiet plain_eq_loop _, codeAny_builtin entry_eq_loop (by
          rw [Around.under_plainId plain_eq_loop _]
          exact ih (i + 1) (by omega) prog w A R _ ⟨hl, hb, he, hc, by simpa using h⟩)⟩
      | false =>
        rw [hb'] at h
        wp_walk using wpAny_loadPart' hl, wpAny_loadPart' hb
        rw [hi1, hi2]
        show wpAny _ _ (richCompare CmpOp.Lt items[i] items2[i] >>= fun r => ret r) _ _ _
        exact wpAny_bind (hc i hlt hlt2 hb' prog w _ _ (wpAny_pure (by simpa using h)))
    · wp_walk using wpAny_loadPart' hl, wpAny_loadPart' hb
      rw [hi1, hi2]
      refine wpAny_bind (he i hlt hlt2 prog w _ _ ?_)
      cases hb' : e i with
      | true =>
        rw [hb'] at h
        wp_walk
        rw [hcc]
        exact ⟨plainId_quiet plain_eq_loop _, codeAny_builtin entry_eq_loop (by
          rw [Around.under_plainId plain_eq_loop _]
          exact ih (i + 1) (by omega) prog w A R _ ⟨hl, hb, he, hc, by simpa using h⟩)⟩
      | false =>
        rw [hb'] at h
        wp_walk using wpAny_loadPart' hl, wpAny_loadPart' hb
        rw [hi1, hi2]
        show wpAny _ _ (richCompare CmpOp.Gt items[i] items2[i] >>= fun r => ret r) _ _ _
        exact wpAny_bind (hc i hlt hlt2 hb' prog w _ _ (wpAny_pure (by simpa using h)))

theorem lt_is (l b : Addr) : Builtin.«list.__lt__» ⟨[.ref l, .ref b], []⟩ = (isInstance (.ref b) (.type "list") >>= fun r => if (!r) = true then ret .notImplemented else again (.builtin "list.__eq__.loop" ⟨[.ref l, .ref b, rawInt 0, rawInt 0], []⟩)) := by rfl
theorem gt_is (l b : Addr) : Builtin.«list.__gt__» ⟨[.ref l, .ref b], []⟩ = (isInstance (.ref b) (.type "list") >>= fun r => if (!r) = true then ret .notImplemented else again (.builtin "list.__eq__.loop" ⟨[.ref l, .ref b, rawInt 0, rawInt 4], []⟩)) := by rfl
theorem list_cmp (gt : Bool) (l b : Addr) (items items2 : Array Value) (n n2 : Nat) (dd dd2 : Option Addr) (sl sl2 : Array (Option Value)) (e c : Nat → Bool) :
    Meets ((if gt then Builtin.«list.__gt__» else Builtin.«list.__lt__») ⟨[.ref l, .ref b], []⟩)
      (fun A R s => s.heap.get? l = some { cls := .type "list", dict := dd, data := .seq items n, slots := sl } ∧ s.heap.get? b = some { cls := .type "list", dict := dd2, data := .seq items2 n2, slots := sl2 } ∧
        (∀ j (h1 : j < items.size) (h2 : j < items2.size), EqAt A.in1 s items[j] items2[j] (e j)) ∧
        (∀ j (h1 : j < items.size) (h2 : j < items2.size), e j = false → CmpAt gt A.in1 s items[j] items2[j] (c j)) ∧
        R (.ok (.ret (.bool (scan e c (sizesD gt items.size items2.size) (min items.size items2.size) 0)))) s) := by
  intro prog w A R s h
  obtain ⟨hp, g, d, tk, os⟩ := s; obtain ⟨hl, hb, he, hc, h⟩ := h
  have f3 := AutoSeq1.sub_list_list
  cases gt
  · simp only [Bool.false_eq_true, if_false]
    rw [lt_is]
    refine wpAny_bind (wpAny_isInstance (T := "list") (b := true) ⟨_, hb, rfl⟩ f3 ?_)
    rw [if_neg (by decide)]
    refine wpAny_pure ?_
    exact ⟨plainId_quiet plain_eq_loop _, codeAny_builtin entry_eq_loop (by
      rw [Around.under_plainId plain_eq_loop _]
      exact cmp_loop false l b items items2 n n2 dd dd2 sl sl2 e c _ 0 rfl prog w A R _ ⟨hl, hb, he, hc, by simpa using h⟩)⟩
  · simp only [if_true]
    rw [gt_is]
    refine wpAny_bind (wpAny_isInstance (T := "list") (b := true) ⟨_, hb, rfl⟩ f3 ?_)
    rw [if_neg (by decide)]
    refine wpAny_pure ?_
    exact ⟨plainId_quiet plain_eq_loop _, codeAny_builtin entry_eq_loop (by
      rw [Around.under_plainId plain_eq_loop _]
      exact cmp_loop true l b items items2 n n2 dd dd2 sl sl2 e c _ 0 rfl prog w A R _ ⟨hl, hb, he, hc, by simpa using h⟩)⟩
end Mine
end

/-! text Cmp2 -/
section
open PySem PySem.W PyProof.Rows PySem.Spec PySem.Calls PySem.SeqAt
set_option Elab.async false
set_option maxRecDepth 100000
set_option linter.unusedVariables false
namespace Mine
mutual
/-- lists of lists alone -/
noncomputable def isT : PyData → Bool
  | .list xs => isTs xs
  | _ => false
noncomputable def isTs : List PyData → Bool
  | [] => true
  | x :: xs => isT x && isTs xs
end
mutual
noncomputable def cmpD (g : Bool) : PyData → PyData → Bool
  | .list xs, .list ys => cmpL g xs ys
  | _, _ => false
noncomputable def cmpL (g : Bool) : List PyData → List PyData → Bool
  | [], ys => sizesD g 0 ys.length
  | x :: xs, ys => match ys with
    | [] => sizesD g (xs.length + 1) 0
    | y :: ys => if PyData.eqv x y then cmpL g xs ys else cmpD g x y
end
mutual
theorem isT_lay : ∀ d : PyData, isT d = true → d.canLay0 = true
  | .list xs, h => isTs_lay xs h
  | .none, h => nomatch h
  | .bool _, h => nomatch h
  | .int _, h => nomatch h
  | .str _, h => nomatch h
  | .tuple _, h => nomatch h
  | .dict _, h => nomatch h
theorem isTs_lay : ∀ xs : List PyData, isTs xs = true → PyData.canLayAll0 xs = true
  | [], _ => rfl
  | x :: xs, h => by
    have h' : isT x = true ∧ isTs xs = true := by simpa [isTs] using h
    simp [PyData.canLayAll0, isT_lay x h'.1, isTs_lay xs h'.2]
end
theorem isTs_mem : ∀ {xs : List PyData} {x : PyData}, isTs xs = true → x ∈ xs → isT x = true
  | y :: ys, x, h, hm => by
    have h' : isT y = true ∧ isTs ys = true := by simpa [isTs] using h
    rcases List.mem_cons.mp hm with rfl | hm
    · exact h'.1
    · exact isTs_mem h'.2 hm

theorem scan_shift (e c : Nat → Bool) (fin : Bool) : ∀ k i, scan (fun j => e (j + 1)) (fun j => c (j + 1)) fin k i = scan e c fin k (i + 1)
  | 0, _ => rfl
  | k + 1, i => by simp only [scan]; rw [scan_shift e c fin k (i + 1)]
theorem sizesD_succ (g : Bool) (m n : Nat) : sizesD g (m + 1) (n + 1) = sizesD g m n := by unfold sizesD; cases g <;> simp
theorem scan_cmpL (g : Bool) : ∀ xs ys : List PyData, scan (pairEq xs ys) (fun j => cmpD g (xs.getD j .none) (ys.getD j .none)) (sizesD g xs.length ys.length) (min xs.length ys.length) 0 = cmpL g xs ys
  | [], ys => by simp [scan, cmpL]
  | x :: xs, [] => by simp [scan, cmpL]
  | x :: xs, y :: ys => by
    have ih := scan_cmpL g xs ys
    have e1 : min (x :: xs).length (y :: ys).length = min xs.length ys.length + 1 := by simp only [List.length_cons]; omega
    rw [e1, cmpL]
    show (if pairEq (x :: xs) (y :: ys) 0 = true then scan _ _ _ _ 1 else cmpD g x y) = if PyData.eqv x y = true then cmpL g xs ys else cmpD g x y
    have e2 : pairEq (x :: xs) (y :: ys) 0 = PyData.eqv x y := rfl
    rw [e2]
    by_cases h : PyData.eqv x y = true
    · rw [if_pos h, if_pos h, ← ih]
      rw [← scan_shift]
      simp only [List.length_cons, sizesD_succ]
      rfl
    · rw [if_neg h, if_neg h]

mutual
theorem cmpAt_T (gt : Bool) : ∀ (da db : PyData) (A : Around) (s : Shared) (a b : Value) (as bs : List Addr), Reads s.heap a da as → Reads s.heap b db bs → isT da = true → isT db = true →
    A.units + min da.depth db.depth < cLine → CmpAt gt A s a b (cmpD gt da db)
  | .list xs, db, A, s, _, _, _, _, ra, rb, ha, hb, hu => by
    cases ra with
    | @list l o vs n _ as₁ h1 h2 h3 h4 =>
      cases rb with
      | @list l' o' vs' n' ys bs₁ k1 k2 k3 k4 =>
        obtain ⟨cls, dd, data, sl⟩ := o
        obtain ⟨cls2, dd2, data2, sl2⟩ := o'
        simp only at h2 h3 k2 k3
        subst h2 h3 k2 k3
        have n1 : vs.size = xs.length := by simpa using ReadsAll.length _ _ _ h4
        have n2 : vs'.size = ys.length := by simpa using ReadsAll.length _ _ _ k4
        show CmpAt gt A s (.ref l) (.ref l') (cmpL gt xs ys)
        rw [← scan_cmpL, ← n1, ← n2]
        intro prog w E Q q
        have eqs : ∀ j (j1 : j < vs.size) (j2 : j < vs'.size), EqAt A.in1 s vs[j] vs'[j] (pairEq xs ys j) := fun j j1 j2 => by
          have := eqAt_readsAll xs ys A.in1 s vs.toList vs'.toList _ _ h4 k4 (isTs_lay xs ha) (isTs_lay ys hb) (room_in hu) j (by simpa using j1) (by simpa using j2)
          simpa using this
        have cms : ∀ j (j1 : j < vs.size) (j2 : j < vs'.size), pairEq xs ys j = false → CmpAt gt A.in1 s vs[j] vs'[j] (cmpD gt (xs.getD j .none) (ys.getD j .none)) := fun j j1 j2 _ => by
          have := cmpAt_Ts gt xs ys A.in1 s vs.toList vs'.toList _ _ h4 k4 ha hb (room_in hu) j (by simpa using j1) (by simpa using j2)
          simpa using this
        cases gt
        · exact richCompare_meets_room (T := "list") ⟨_, h1, rfl⟩ ⟨_, k1, rfl⟩ F.slot_list_lt F.entry_list_lt (F.args_list_lt_2 _ _) (list_cmp false l l' vs vs' n n' dd dd2 sl sl2 (pairEq xs ys) _) ⟨h1, k1, eqs, cms, by nofun, q⟩ (room_here hu)
        · exact richCompare_meets_room (T := "list") ⟨_, h1, rfl⟩ ⟨_, k1, rfl⟩ F.slot_list_gt F.entry_list_gt (F.args_list_gt_2 _ _) (list_cmp true l l' vs vs' n n' dd dd2 sl sl2 (pairEq xs ys) _) ⟨h1, k1, eqs, cms, by nofun, q⟩ (room_here hu)
      | none => exact nomatch hb
      | bool y => exact nomatch hb
      | int y u => exact nomatch hb
      | str y u => exact nomatch hb
      | tuple _ _ _ _ => exact nomatch hb
      | dict => exact nomatch hb
  | .none, _, _, _, _, _, _, _, _, _, ha, _, _ => nomatch ha
  | .bool _, _, _, _, _, _, _, _, _, _, ha, _, _ => nomatch ha
  | .int _, _, _, _, _, _, _, _, _, _, ha, _, _ => nomatch ha
  | .str _, _, _, _, _, _, _, _, _, _, ha, _, _ => nomatch ha
  | .tuple _, _, _, _, _, _, _, _, _, _, ha, _, _ => nomatch ha
  | .dict _, _, _, _, _, _, _, _, _, _, ha, _, _ => nomatch ha
theorem cmpAt_Ts (gt : Bool) : ∀ (xs ys : List PyData) (A : Around) (s : Shared) (vs ws : List Value) (as bs : List Addr), ReadsAll s.heap vs xs as → ReadsAll s.heap ws ys bs → isTs xs = true → isTs ys = true →
    A.units + min (PyData.depthAll xs) (PyData.depthAll ys) < cLine → ∀ j (h1 : j < vs.length) (h2 : j < ws.length), CmpAt gt A s vs[j] ws[j] (cmpD gt (xs.getD j .none) (ys.getD j .none))
  | [], _, _, _, _, _, _, _, ra, _, _, _, _, j, h1, _ => by cases ra; exact absurd h1 (Nat.not_lt_zero _)
  | _ :: _, [], _, _, _, _, _, _, _, rb, _, _, _, j, _, h2 => by cases rb; exact absurd h2 (Nat.not_lt_zero _)
  | x :: xs, y :: ys, A, s, _, _, _, _, ra, rb, ha, hb, hu, j, h1, h2 => by
    have ha' : isT x = true ∧ isTs xs = true := by simpa [isTs] using ha
    have hb' : isT y = true ∧ isTs ys = true := by simpa [isTs] using hb
    cases ra with
    | cons r rs =>
      cases rb with
      | cons r' rs' =>
        cases j with
        | zero => exact cmpAt_T gt x y A s _ _ _ _ r r' ha'.1 hb'.1 (room_head hu)
        | succ j => exact cmpAt_Ts gt xs ys A s _ _ _ _ rs rs' ha'.2 hb'.2 (room_tail hu) j (by simpa using h1) (by simpa using h2)
end

section
variable {prog : Program} {ω : Ws} {A : Around} {E : Value → Shared → Prop} {g h : Heap} {gn : Array GenState} {dr : Drawn} {tk : Nat} {os : OsState} {env : Env} {vm : Str → Option Value}
/-- three_way_cmp of trees -/
theorem cmp_ok {Q : Value → Shared → Prop} {x y : Value} {dx dy : PyData} (W : Wd ω g) (S : g.StaysIn h) (R : Rm A 10) (rx : Rd g x dx) (ry : Rd g y dy) (hx : isT dx = true) (hy : isT dy = true) (hd : dx.depth ≤ 64)
    (q : ∀ h' tk' t', Grow g h g h' → Q (.int (b2i (cmpD true dx dy) - b2i (cmpD false dx dy)) t') ⟨h', gn, dr, tk', os⟩) : wpAny (model prog ω.w) A (call (.ref 103) [x, y]) Q E ⟨h, gn, dr, tk, os⟩ := by
  refine call_defV (k := 9) (binds := [("x", x), ("y", y)]) W S R rfl rfl rfl rfl (by decide) (by decide) ?_
  intro L h₁ tk₁ A₁ E₁ Q₁ env vm₀ hQ R' hA' F hk hO
  have hu : ∀ env : Env, A₁.units + min dx.depth dy.depth < cLine := fun env => by have := R'.un; rw [cLine_is]; omega
  obtain ⟨as, rx⟩ := rx
  obtain ⟨bs, ry⟩ := ry
  refine wpAny_execs_cons ?_
  refine wpAny_Return_some ?_
  refine wpAny_BinOp ?_
  refine wpAny_Compare1 ?_
  refine F.ldL rfl ?_
  refine F.ldL rfl ?_
  show wpAny _ _ (richCompare .Gt x y) _ _ _
  have rx' := Reads.keeps F.sub rx
  have ry' := Reads.keeps F.sub ry
  refine cmpAt_T true dx dy _ _ _ _ _ _ rx' ry' hx hy (hu env) prog ω.w _ _ ?_
  refine wpAny_Compare1 ?_
  refine F.ldL rfl ?_
  refine F.ldL rfl ?_
  show wpAny _ _ (richCompare .Lt x y) _ _ _
  refine cmpAt_T false dx dy _ _ _ _ _ _ rx' ry' hx hy (hu env) prog ω.w _ _ ?_
  refine sub_bool ?_
  exact hQ _ _ (q _ _ _ (Grow.same S hk))
end
end Mine
end

/-! text Order -/
section
open PySem PySem.W PyProof.Rows PySem.Spec PySem.Calls PySem.SeqAt
set_option Elab.async false
set_option maxRecDepth 100000
set_option linter.unusedVariables false
namespace Mine
noncomputable def prev (n i : Nat) : Nat := if i = 0 then n - 1 else i - 1
noncomputable def strLt (x y : Str) : Bool := decide (x.cps.toList < y.cps.toList)
noncomputable def mark (a b : PyData) : Int := b2i (cmpD true a b) - b2i (cmpD false a b)
noncomputable def dueOf (x y : Str) : Int := if x == y then 0 else if strLt x y then -1 else 1
section
variable {prog : Program} {ω : Ws} {A : Around} {E : Value → Shared → Prop} {g h : Heap} {gn : Array GenState} {dr : Drawn} {tk : Nat} {os : OsState} {env : Env} {vm : Str → Option Value}
/-- xs[at - 1] -/
theorem s_prev {Q : Value → Shared → Prop} {value slice : Expr} {l : Addr} {vs : List Value} {i : Nat} {u : Tok} {v : Value} (hl : h.IsList l vs.toArray) (hi : i < vs.length) (hx : vs[prev vs.length i]? = some v) (hsz : vs.length ≤ 1000) (q : Q v ⟨h, gn, dr, tk, os⟩)
    (hs : ∀ k : Int, subscripted slice false (.ref l) (.int k u) = operate [.ref l, .int k u] (getItem (.ref l) (.int k u))) :
    wpAny (model prog ω.w) A (subscriptTail value slice (.ref l) (.int ((i : Nat) - 1) u)) Q E ⟨h, gn, dr, tk, os⟩ := by
  unfold prev at hx
  by_cases h0 : i = 0
  · subst h0
    rw [if_pos rfl] at hx
    exact s_neg (k := 1) hl (by omega) (by omega) hx (by omega) q (hs _)
  · rw [if_neg h0] at hx
    have e : ((i : Nat) : Int) - 1 = ((i - 1 : Nat) : Int) := by omega
    rw [e]
    exact s_list hl (by omega) (by simpa using hx) q (hs _) (by omega)
theorem isi_no {Q : Value → Shared → Prop} {n : Int} {t : Tok} (q : ∀ tk', Q (.bool false) ⟨h, gn, dr, tk', os⟩) : wpAny (model prog ω.w) A (call (.builtin "isinstance") [.int n t, .type "bool"]) Q E ⟨h, gn, dr, tk, os⟩ := IsiPair.int_bool (q _)

/-- == and != of data -/
theorem d_eq {Q : Value → Shared → Prop} {a b : Value} {da db : PyData} (S : g.StaysIn h) (ra : Rd g a da) (rb : Rd g b db) (ha : shaped da = true) (hb : shaped db = true) (hu : A.units + 64 < cLine) (q : Q (.bool (PyData.eqv da db)) ⟨h, gn, dr, tk, os⟩) :
    wpAny (model prog ω.w) A (compareOp .Eq a b) Q E ⟨h, gn, dr, tk, os⟩ := by
  obtain ⟨_, ra⟩ := ra; obtain ⟨_, rb⟩ := rb
  exact eq_dataH (Reads.keeps S ra) (Reads.keeps S rb) ha hb hu q
theorem d_ne {Q : Value → Shared → Prop} {a b : Value} {da db : PyData} (S : g.StaysIn h) (ra : Rd g a da) (rb : Rd g b db) (ha : shaped da = true) (hb : shaped db = true) (hu : A.units + 64 < cLine) (q : Q (.bool (!PyData.eqv da db)) ⟨h, gn, dr, tk, os⟩) :
    wpAny (model prog ω.w) A (compareOp .NotEq a b) Q E ⟨h, gn, dr, tk, os⟩ := by
  obtain ⟨_, ra⟩ := ra; obtain ⟨_, rb⟩ := rb
  exact ne_dataH (Reads.keeps S ra) (Reads.keeps S rb) ha hb hu q
theorem k_lts {Q : Value → Shared → Prop} {x y : Str} {t u : Tok} (q : Q (.bool (strLt x y)) ⟨h, gn, dr, tk, os⟩) : wpAny (model prog ω.w) A (compareOp .Lt (.str x t) (.str y u)) Q E ⟨h, gn, dr, tk, os⟩ := PyProof.Rows.lt_str q

theorem order_ok {Q : Value → Shared → Prop} {fv tv : Value} {fs : List PyData} {ts : List Str} (W : Wd ω g) (S : g.StaysIn h) (R : Rm A 20) (hf : Rd g fv (.list fs)) (ht : Rd g tv (.list (ts.map .str)))
    (hT : ∀ d ∈ fs, isT d = true ∧ d.depth ≤ 64) (hlen : ts.length = fs.length) (hn : fs.length ≤ 100)
    (hm : ∀ i a b x y, i < fs.length → fs[prev fs.length i]? = some a → fs[i]? = some b → ts[prev fs.length i]? = some x → ts[i]? = some y → mark a b = dueOf x y ∧ mark b a = - dueOf x y)
    (q : ∀ h' tk', Grow g h g h' → Q (.bool true) ⟨h', gn, dr, tk', os⟩) : wpAny (model prog ω.w) A (call (.ref 162) [fv, tv]) Q E ⟨h, gn, dr, tk, os⟩ := by
  obtain ⟨fa, fvs, rfl, hfl, rf⟩ := hf.list_inv
  obtain ⟨ta, tvs, rfl, htl, rt⟩ := ht.list_inv
  have hfn : fvs.length = fs.length := rf.1
  have htn : tvs.length = fs.length := by have := rt.1; simp at this; omega
  refine call_defV (k := 19) (binds := [("forests", .ref fa), ("texts", .ref ta)]) W S R rfl rfl rfl rfl (by decide) (by decide) ?_
  intro L h₁ tk₁ A₁ E₁ Q₁ env vm₀ hQ R' hA' F hk hO
  have hL : h.get? L = none := hO _ (.inl rfl)
  refine wpAny_execs_cons ?_
  refine wpAny_For ?_
  refine Call_ ?_
  refine F.ldB ?_ boot_range
  refine PyProof.Rows.callWith_type1 ?_
  refine spliced_more ?_
  refine Call_ ?_
  refine F.ldB ?_ Boot.len
  refine PyProof.Rows.callWith_builtin1 ?_
  refine spliced_more ?_
  refine F.ldL rfl ?_
  refine spliced_none ?_
  refine PyProof.Rows.len_list (hfl.at fun o e => F.sub _ _ e) (by simp; omega) ?_
  refine spliced_none ?_
  refine r_range1 F.sub ?_
  intro rg g₂ h₂ tk₂ t1 t2 t3 G₂ hr
  have F₂ := F.grow0 G₂
  have k₂ : h.StaysIn h₂ := staysIn_trans hk G₂.keep
  have hr' : IsRange g₂ rg 0 (fs.length : Nat) 1 t1 t2 t3 := by
    have e : ((fvs.toArray.size : Nat) : Int) = (fs.length : Nat) := by simp [hfn]
    rw [← e]; exact hr
  refine for_loop (It.range1 (ω := ω) (n := fs.length) R'.hd hr' (by omega)) F₂ No (fun i vm' => vm' "forests" = some (.ref fa) ∧ vm' "texts" = some (.ref ta)) JT noK (fun _ _ _ _ r _ => trivial) ⟨rfl, rfl⟩ trivial ?_ ?_
  · rintro i v vm' g' h' tk' E' hi ⟨ti, rfl⟩ ⟨v1, v2⟩ _ F' G'
    have sg : g.StaysIn g' := staysIn_trans G₂.gg G'.gg
    have hpi : prev fs.length i < fs.length := by unfold prev; split <;> omega
    obtain ⟨a, ha⟩ : ∃ a, fs[prev fs.length i]? = some a := ⟨_, List.getElem?_eq_getElem hpi⟩
    obtain ⟨b, hb⟩ : ∃ a, fs[i]? = some a := ⟨_, List.getElem?_eq_getElem hi⟩
    obtain ⟨x, hx⟩ : ∃ a, ts[prev fs.length i]? = some a := ⟨_, List.getElem?_eq_getElem (by omega)⟩
    obtain ⟨y, hy⟩ : ∃ a, ts[i]? = some a := ⟨_, List.getElem?_eq_getElem (by omega)⟩
    obtain ⟨hm1, hm2⟩ := hm i a b x y hi ha hb hx hy
    obtain ⟨va, hva, ra⟩ := rf.get ha
    obtain ⟨vb, hvb, rb⟩ := rf.get hb
    obtain ⟨vx, hvx, rx⟩ := rt.get (i := prev fs.length i) (d := .str x) (by simp [hx])
    obtain ⟨vy, hvy, ry⟩ := rt.get (i := i) (d := .str y) (by simp [hy])
    obtain ⟨tx, rfl⟩ := rx.str_inv
    obtain ⟨ty, rfl⟩ := ry.str_inv
    have hTa := hT a (List.mem_of_getElem? ha)
    have hTb := hT b (List.mem_of_getElem? hb)
    have lf : ∀ {k gg : Heap}, g'.StaysIn gg → gg.StaysIn k → k.IsList fa fvs.toArray := fun {k gg} s s' => hfl.at fun o e => s' _ _ (s _ _ (sg _ _ e))
    have lt : ∀ {k gg : Heap}, g'.StaysIn gg → gg.StaysIn k → k.IsList ta tvs.toArray := fun {k gg} s s' => htl.at fun o e => s' _ _ (s _ _ (sg _ _ e))
    have sf := staysIn_refl g'
    refine enter fun Q₂ E₂ hQ₂ hE₂ => ?_
    refine wpAny_execs_cons ?_
    refine wpAny_Assign_Name ?_
    refine List_ ?_
    refine spliced_more ?_
    refine Call_ ?_
    refine F'.ldG (v := .ref 103) ?_
    refine callWith_K F'.kin rfl ?_
    refine spliced_more ?_
    refine Subscript_ ?_
    refine F'.ldL (upd_ne v1) ?_
    refine wpAny_BinOp ?_
    refine F'.ldL rfl ?_
    refine c_intD ?_
    refine b_subD ?_
    refine s_prev (lf sf F'.sub) (by omega) (by rw [hfn]; exact hva) (by omega) ?_ (fun k => by with_unfolding_all rfl)
    refine spliced_more ?_
    refine Subscript_ ?_
    refine F'.ldL (upd_ne v1) ?_
    refine F'.ldL rfl ?_
    refine s_listN (lf sf F'.sub) hvb ?_ (by with_unfolding_all rfl) (by omega)
    refine spliced_none ?_
    refine ⟨F'.kin, ?_⟩
    refine cmp_ok F'.wd F'.sub (R'.le (by decide)) (ra.mono sg) (rb.mono sg) hTa.1 hTb.1 hTa.2 ?_
    intro h₃ tk₃ tm1 G₃
    have F₃ := F'.grow0 G₃
    refine spliced_more ?_
    refine Call_ ?_
    refine F₃.ldG (v := .ref 103) ?_
    refine callWith_K F₃.kin rfl ?_
    refine spliced_more ?_
    refine Subscript_ ?_
    refine F₃.ldL (upd_ne v1) ?_
    refine F₃.ldL rfl ?_
    refine s_listN (lf sf F₃.sub) hvb ?_ (by with_unfolding_all rfl) (by omega)
    refine spliced_more ?_
    refine Subscript_ ?_
    refine F₃.ldL (upd_ne v1) ?_
    refine wpAny_BinOp ?_
    refine F₃.ldL rfl ?_
    refine c_intD ?_
    refine b_subD ?_
    refine s_prev (lf sf F₃.sub) (by omega) (by rw [hfn]; exact hva) (by omega) ?_ (fun k => by with_unfolding_all rfl)
    refine spliced_none ?_
    refine ⟨F₃.kin, ?_⟩
    refine cmp_ok F₃.wd F₃.sub (R'.le (by decide)) (rb.mono sg) (ra.mono sg) hTb.1 hTa.1 hTb.2 ?_
    intro h₄ tk₄ tm2 G₄
    have F₄ := F₃.grow0 G₄
    refine spliced_none ?_
    refine n_list F₄.sub ?_ (by simp)
    intro D g₅ h₅ G₅ hD nD
    have F₅ := F₄.grow0 G₅
    refine F₅.stLV ?_
    intro h₆ _ F₆ fo₆
    have hD6 : h₆.IsList D [.int (mark a b) tm1, .int (mark b a) tm2].toArray := hD.at fun o e => F₆.sub _ _ e
    refine wpAny_execs_cons ?_
    refine wpAny_If ?_
    refine isTrue_or ?_
    refine isTrue_plain ?_
    refine Call_ ?_
    refine F₆.ldB ?_ Boot.isinstance
    refine PyProof.Rows.callWith_builtin1 ?_
    refine spliced_more ?_
    refine Subscript_ ?_
    refine F₆.ldL rfl ?_
    refine c_intD ?_
    refine s_list hD6 (by decide) rfl ?_ (by with_unfolding_all rfl) (by simp)
    refine spliced_more ?_
    refine F₆.ldB ?_ Boot.bool
    refine spliced_none ?_
    refine isi_no ?_
    intro _
    refine t_bool ?_
    rw [if_neg (by decide)]
    refine isTrue_or ?_
    refine isTrue_plain ?_
    refine Call_ ?_
    refine F₆.ldB ?_ Boot.isinstance
    refine PyProof.Rows.callWith_builtin1 ?_
    refine spliced_more ?_
    refine Subscript_ ?_
    refine F₆.ldL rfl ?_
    refine c_intD ?_
    refine s_list hD6 (by decide) rfl ?_ (by with_unfolding_all rfl) (by simp)
    refine spliced_more ?_
    refine F₆.ldB ?_ Boot.bool
    refine spliced_none ?_
    refine isi_no ?_
    intro _
    refine t_bool ?_
    rw [if_neg (by decide)]
    refine isTrue_or_nil ?_
    rw [if_neg (by decide)]
    repeat refine wpAny_execs_nil ?_
    have sg6 : g'.StaysIn g₅ := G₅.gg
    refine wpAny_execs_cons ?_
    refine wpAny_Assign_Name ?_
    refine wpAny_mono (Q := fun v s' => ∃ t tk', v = .int (dueOf x y) t ∧ s' = ⟨h₆, gn, dr, tk', os⟩) ?_ ?_ (fun _ _ e => e)
    · refine IfExp_ ?_
      refine wpAny_isTrue_Compare1 ?_
      refine Subscript_ ?_
      refine F₆.ldL (upd_ne (upd_ne v2)) ?_
      refine wpAny_BinOp ?_
      refine F₆.ldL (upd_ne rfl) ?_
      refine c_intD ?_
      refine b_subD ?_
      refine s_prev (lt sg6 F₆.sub) (by omega) (by rw [htn]; exact hvx) (by omega) ?_ (fun k => by with_unfolding_all rfl)
      refine Subscript_ ?_
      refine F₆.ldL (upd_ne (upd_ne v2)) ?_
      refine F₆.ldL (upd_ne rfl) ?_
      refine s_listN (lt sg6 F₆.sub) hvy ?_ (by with_unfolding_all rfl) (by omega)
      refine k_eqs ?_
      refine t_bool ?_
      by_cases hxy : (x == y) = true
      · rw [if_pos hxy]
        refine c_intD ?_
        exact ⟨_, _, by unfold dueOf; rw [if_pos hxy], rfl⟩
      · rw [if_neg hxy]
        refine IfExp_ ?_
        refine wpAny_isTrue_Compare1 ?_
        refine Subscript_ ?_
        refine F₆.ldL (upd_ne (upd_ne v2)) ?_
        refine wpAny_BinOp ?_
        refine F₆.ldL (upd_ne rfl) ?_
        refine c_intD ?_
        refine b_subD ?_
        refine s_prev (lt sg6 F₆.sub) (by omega) (by rw [htn]; exact hvx) (by omega) ?_ (fun k => by with_unfolding_all rfl)
        refine Subscript_ ?_
        refine F₆.ldL (upd_ne (upd_ne v2)) ?_
        refine F₆.ldL (upd_ne rfl) ?_
        refine s_listN (lt sg6 F₆.sub) hvy ?_ (by with_unfolding_all rfl) (by omega)
        refine k_lts ?_
        refine t_bool ?_
        by_cases hlt : strLt x y = true
        · rw [if_pos hlt]
          refine UnaryOp_ ?_
          refine c_intD ?_
          refine u_negD ?_
          exact ⟨_, _, by unfold dueOf; rw [if_neg hxy, if_pos hlt], rfl⟩
        · rw [if_neg hlt]
          refine c_intD ?_
          exact ⟨_, _, by unfold dueOf; rw [if_neg hxy, if_neg hlt], rfl⟩
    rintro _ _ ⟨td, tkd, rfl, rfl⟩
    refine F₆.stLV ?_
    intro h₇ _ F₇ fo₇
    refine wpAny_execs_cons ?_
    refine wpAny_If ?_
    refine wpAny_isTrue_Compare1 ?_
    refine F₇.ldL (upd_ne rfl) ?_
    refine List_ ?_
    refine spliced_more ?_
    refine F₇.ldL rfl ?_
    refine spliced_more ?_
    refine UnaryOp_ ?_
    refine F₇.ldL rfl ?_
    refine u_negD ?_
    refine spliced_none ?_
    refine n_list F₇.sub ?_ (by simp)
    intro D2 g₈ h₈ G₈ hD2 nD2
    have F₈ := F₇.grow0 G₈
    refine d_ne F₈.sub (da := .list [.int (mark a b), .int (mark b a)]) (db := .list [.int (dueOf x y), .int (-dueOf x y)]) (.list (hD.at fun o e => G₈.gg _ _ e) (.cons (.int _ _) (.cons (.int _ _) .nil))) (.list hD2 (.cons (.int _ _) (.cons (.int _ _) .nil))) rfl rfl (R'.units (by decide)) ?_
    refine t_bool ?_
    rw [hm1, hm2]
    rw [if_neg (by simp [PyData.eqv, PyData.eqvAll])]
    repeat refine wpAny_execs_nil ?_
    refine hQ₂ _ _ ⟨_, g₈, h₈, _, rfl, ⟨upd_ne (upd_ne (upd_ne v1)), upd_ne (upd_ne (upd_ne v2))⟩, trivial, F₈, ((((G₃.trans G₄).trans G₅).ownK).trans (st_grow F₅.sub F₆ fo₆)).trans ((st_grow F₆.sub F₇ fo₇).trans G₈.ownK)⟩
  · rintro vm' g' h' tk' ⟨v1, v2⟩ _ F' G'
    refine wpAny_execs_cons ?_
    refine wpAny_Return_some ?_
    refine c_bool ?_
    refine hQ _ _ ?_
    exact q _ _ (growBack3 S k₂ G₂.gg G' fun b ow => ow.elim (fun ow => by have e2 : b = L := own1 ow; rw [e2]; exact hL) fun q => q.elim)
end
end Mine
end

/-! text Rem -/
section
open PySem PySem.W PyProof.Rows PySem.Spec PySem.Calls PySem.SeqAt
open AutoSeq1 (wpAny_loadPart')
open MeetsSeq MeetsSeq2 MeetsSeq3 SeqRoads2
set_option Elab.async false
set_option maxRecDepth 100000
set_option linter.unusedVariables false
set_option linter.unusedSimpArgs false
namespace Mine

theorem rem_loop (l : Addr) (items : Array Value) (n : Nat) (x : Value) (e : Nat → Bool) (j : Nat) (hj : j < items.size) (hit : e j = true) (k : Nat) (hs1 : items.size ≤ sizeLine) :
    ∀ i : Nat, j - i = k → i ≤ j → (∀ m, i ≤ m → m < j → e m = false) → Meets (Builtin.«list.remove.loop» ⟨[.ref l, x, rawInt i], []⟩)
      (fun A R s => s.heap.get? l = some { cls := .type "list", dict := none, data := .seq items n, slots := #[] } ∧ (∀ m (hm : m < items.size), EqAt A.in1 s items[m] x (e m)) ∧ R (.ok (.ret .none)) { s with heap := s.heap.update l (Obj.mapSeq fun xs => xs.eraseIdxIfInBounds j) }) := by
  induction k with
  | zero =>
    intro i hk hij hno prog w A R s h
    obtain ⟨hp, g, d, tk, os⟩ := s; obtain ⟨hl, he, h⟩ := h
    have hij' : i = j := by omega
    subst hij'
    wp_walk using wpAny_loadPart' hl
    have hi : items[((i : Nat) : Int).toNat]? = some items[i] := by simp [hj]
    rw [hi]
    refine wpAny_bind (he i hj prog w _ _ ?_)
    rw [hit]
    have hz' : (items.eraseIdxIfInBounds i).size ≤ sizeLine + 1 := Nat.le_trans (size_erased items _) (Nat.le_succ_of_le hs1)
    wp_walk using (wpAny_updateSeq hl rfl (hz := hs1) (_hz' := hz')), wpAny_loadPart' hl
    simpa using h
  | succ k ih =>
    intro i hk hij hno prog w A R s h
    obtain ⟨hp, g, d, tk, os⟩ := s; obtain ⟨hl, he, h⟩ := h
    have hlt : i < items.size := by omega
    wp_walk using wpAny_loadPart' hl
    have hi : items[((i : Nat) : Int).toNat]? = some items[i] := by simp [hlt]
    have hc : ((i : Int) + 1) = ((i + 1 : Nat) : Int) := by push_cast; rfl
    rw [hi]
    refine wpAny_bind (he i hlt prog w _ _ ?_)
    rw [hno i (Nat.le_refl _) (by omega)]
    wp_walk
    rw [hc]
    exact ⟨plainId_quiet plain_remove_loop _, codeAny_builtin entry_remove_loop (by
      rw [Around.under_plainId plain_remove_loop _]
      exact ih (i + 1) (by omega) (by omega) (fun m h1 h2 => hno m (by omega) h2) prog w A R _ ⟨hl, he, h⟩)⟩
theorem rem_none (l : Addr) (items : Array Value) (n : Nat) (x : Value) (k : Nat) :
    ∀ i : Nat, items.size - i = k → Meets (Builtin.«list.remove.loop» ⟨[.ref l, x, rawInt i], []⟩)
      (fun A R s => s.heap.get? l = some { cls := .type "list", dict := none, data := .seq items n, slots := #[] } ∧ (∀ m (hm : m < items.size), EqAt A.in1 s items[m] x false) ∧ raisesNew "ValueError" A R s) := by
  induction k with
  | zero =>
    intro i hk prog w A R s h
    obtain ⟨hp, g, d, tk, os⟩ := s; obtain ⟨hl, he, h⟩ := h
    wp_walk using wpAny_loadPart' hl
    have hi : items[((i : Nat) : Int).toNat]? = none := by simp; omega
    rw [hi]
    wp_walk
    exact_raiseError plainExc_ValueError h.1 h.2
  | succ k ih =>
    intro i hk prog w A R s h
    obtain ⟨hp, g, d, tk, os⟩ := s; obtain ⟨hl, he, h⟩ := h
    have hlt : i < items.size := by omega
    wp_walk using wpAny_loadPart' hl
    have hi : items[((i : Nat) : Int).toNat]? = some items[i] := by simp [hlt]
    have hc : ((i : Int) + 1) = ((i + 1 : Nat) : Int) := by push_cast; rfl
    rw [hi]
    refine wpAny_bind (he i hlt prog w _ _ ?_)
    wp_walk
    rw [hc]
    exact ⟨plainId_quiet plain_remove_loop _, codeAny_builtin entry_remove_loop (by
      rw [Around.under_plainId plain_remove_loop _]
      exact ih (i + 1) (by omega) prog w A R _ ⟨hl, he, h⟩)⟩
theorem rem_is (l : Addr) (x : Value) : Builtin.«list.remove» ⟨[.ref l, x], []⟩ = again (.builtin "list.remove.loop" ⟨[.ref l, x, rawInt 0], []⟩) := by rfl
theorem cnt_loop (l : Addr) (items : Array Value) (n : Nat) (dd : Option Addr) (sl : Array (Option Value)) (x : Value) (e : Nat → Bool) (k : Nat) :
    ∀ (i : Nat) (found : Int), items.size - i = k → Meets (Builtin.«list.count.loop» ⟨[.ref l, x, rawInt i, rawInt found], []⟩)
      (fun A R s => s.heap.get? l = some { cls := .type "list", dict := dd, data := .seq items n, slots := sl } ∧ (∀ m (hm : m < items.size), EqAt A.in1 s items[m] x (e m)) ∧
        R (.ok (.ret (.int (found + ((List.range' i k).countP e : Nat)) s.toks))) { s with toks := s.toks + 1 }) := by
  induction k with
  | zero =>
    intro i found hk prog w A R s h
    obtain ⟨hp, g, d, tk, os⟩ := s; obtain ⟨hl, he, h⟩ := h
    wp_walk using wpAny_loadPart' hl
    have hi : items[((i : Nat) : Int).toNat]? = none := by simp; omega
    rw [hi]
    wp_walk
    simpa using h
  | succ k ih =>
    intro i found hk prog w A R s h
    obtain ⟨hp, g, d, tk, os⟩ := s; obtain ⟨hl, he, h⟩ := h
    wp_walk using wpAny_loadPart' hl
    have hlt : i < items.size := by omega
    have hi : items[((i : Nat) : Int).toNat]? = some items[i] := by simp [hlt]
    have hc : ((i : Int) + 1) = ((i + 1 : Nat) : Int) := by push_cast; rfl
    rw [List.range'_succ, List.countP_cons] at h
    rw [hi]
    refine wpAny_bind (he i hlt prog w _ _ ?_)
    wp_walk
    rw [hc]
    refine ⟨plainId_quiet plain_count_loop _, codeAny_builtin entry_count_loop (by
      rw [Around.under_plainId plain_count_loop _]
      refine ih (i + 1) _ (by omega) prog w A R _ ⟨hl, he, ?_⟩
      cases hb : e i with
      | false =>
        simp only [hb, Bool.false_eq_true, if_false, Nat.add_zero] at h ⊢
        exact h
      | true =>
        simp only [hb, if_true] at h ⊢
        have e1 : found + 1 + ((List.countP e (List.range' (i + 1) k) : Nat) : Int) = found + ((List.countP e (List.range' (i + 1) k) + 1 : Nat) : Int) := by push_cast; omega
        rw [e1]
        exact h)⟩
theorem cnt_is (l : Addr) (x : Value) : Builtin.«list.count» ⟨[.ref l, x], []⟩ = again (.builtin "list.count.loop" ⟨[.ref l, x, rawInt 0, rawInt 0], []⟩) := by rfl

section
variable {g g' : Heap} {vs : List Value} {ds : List PyData}
theorem RdAll.eraseIdx (x : RdAll g vs ds) (j : Nat) : RdAll g (vs.eraseIdx j) (ds.eraseIdx j) := by
  rw [List.eraseIdx_eq_take_drop_succ, List.eraseIdx_eq_take_drop_succ]
  exact (x.take j).append (x.drop (j + 1))
end
section
variable {prog : Program} {ω : Ws} {A : Around} {E : Value → Shared → Prop} {g h : Heap} {gn : Array GenState} {dr : Drawn} {tk : Nat} {os : OsState} {env : Env} {vm : Str → Option Value}
theorem shaped_lay {d : PyData} (h : shaped d = true) : d.canLay0 = true ∧ d.depth ≤ 64 := ⟨canLay_of_shaped h, depth_of_shaped h⟩
theorem eqs_at {vs : List Value} {ds : List PyData} {x : Value} {dx : PyData} (S : g.StaysIn h) (rv : RdAll g vs ds) (rx : Rd g x dx) (hd : ∀ d ∈ ds, shaped d = true) (hx : shaped dx = true) (hu : A.units + 66 < cLine) :
    ∀ m (hm : m < vs.toArray.size), EqAt A.in1 ⟨h, gn, dr, tk, os⟩ vs.toArray[m] x (PyData.eqv (ds[m]?.getD .none) dx) := by
  intro m hm
  have hm' : m < ds.length := by have := rv.1; simp at hm; omega
  have hv : vs[m]? = some vs.toArray[m] := by simp
  obtain ⟨d, hd', rd⟩ := rv.getv hv
  rw [hd']
  have h1 := shaped_lay (hd d (List.mem_of_getElem? hd'))
  have h2 := shaped_lay hx
  obtain ⟨_, rd⟩ := rd
  obtain ⟨_, rx⟩ := rx
  exact eqAt_reads d dx _ _ _ _ _ _ (Reads.keeps S rd) (Reads.keeps S rx) h1.1 h2.1 (by simp only [Around.in1]; omega)

theorem range_countP (ds : List PyData) (p : PyData → Bool) : (List.range' 0 ds.length).countP (fun m => p (ds[m]?.getD .none)) = ds.countP p := by
  rw [← List.range_eq_range']
  have : ds = (List.range ds.length).map (fun m => ds[m]?.getD .none) := by
    apply List.ext_getElem?
    intro i
    rw [List.getElem?_map]
    by_cases hi : i < ds.length
    · simp [hi]
    · simp [hi, Nat.not_lt.mp hi]
  conv => rhs; rw [this, List.countP_map]
  rfl

/-- l.count(x) -/
theorem cnt_call {Q : Value → Shared → Prop} {l : Addr} {vs : List Value} {ds : List PyData} {x : Value} {dx : PyData} (S : g.StaysIn h) (hl : h.IsList l vs.toArray) (rv : RdAll g vs ds) (rx : Rd g x dx) (hd : ∀ d ∈ ds, shaped d = true) (hx : shaped dx = true) (hu : A.units + 66 < cLine)
    (q : ∀ t tk', Q (.int (ds.countP (fun d => PyData.eqv d dx) : Nat) t) ⟨h, gn, dr, tk', os⟩) : wpAny (model prog ω.w) A (call (.builtin "list.count") [.ref l, x]) Q E ⟨h, gn, dr, tk, os⟩ := by
  obtain ⟨⟨cls, dd, data, sl⟩, ho, hc, n, hdt⟩ := id hl
  simp only at hc hdt
  subst hc hdt
  refine call_meets (S := fun A R s => s.heap.get? l = some { cls := .type "list", dict := dd, data := .seq vs.toArray n, slots := sl } ∧ (∀ m (hm : m < vs.toArray.size), EqAt A.in1 s vs.toArray[m] x (PyData.eqv (ds[m]?.getD .none) dx)) ∧ R (.ok (.ret (.int (0 + ((List.range' 0 (vs.toArray.size - 0)).countP (fun m => PyData.eqv (ds[m]?.getD .none) dx) : Nat)) s.toks))) { s with toks := s.toks + 1 }) PySem.F.slot_list_count ⟨_, ho, rfl⟩ PySem.F.entry_list_count (PySem.F.args_list_count_2 _ _) ?_ ⟨ho, eqs_at S rv rx hd hx hu, ?_⟩
  · rw [cnt_is]
    intro prog w A R s hh
    refine wpAny_pure ?_
    exact ⟨plainId_quiet plain_count_loop _, codeAny_builtin entry_count_loop (by
      rw [Around.under_plainId plain_count_loop _]
      exact cnt_loop l vs.toArray n dd sl x _ _ 0 0 rfl prog w A R s hh)⟩
  · have e1 : vs.toArray.size - 0 = ds.length := by simp [rv.1]
    rw [e1, range_countP ds (fun d => PyData.eqv d dx), Int.zero_add]
    exact q _ _

/-- l.pop() -/
theorem pop_call {Q : Value → Shared → Prop} {l : Addr} {vs : List Value} {y : Value} (hl : h.PlainList l (vs ++ [y]).toArray) (hsz : vs.length ≤ 1000)
    (q : ∀ h', h'.PlainList l vs.toArray → Heap.SameBut l h h' → Q y ⟨h', gn, dr, tk, os⟩) : wpAny (model prog ω.w) A (call (.builtin "list.pop") [.ref l]) Q E ⟨h, gn, dr, tk, os⟩ := by
  obtain ⟨n, ho⟩ := hl
  have hk : (vs ++ [y]).toArray.size - 1 = vs.length := by rw [List.size_toArray, List.length_append]; rfl
  have hy : (vs ++ [y]).toArray[(vs ++ [y]).toArray.size - 1]? = some y := by rw [hk]; simp
  refine call_meets PySem.F.slot_list_pop ⟨_, ho, rfl⟩ PySem.F.entry_list_pop (PySem.F.args_list_pop_1 _) (list_pop_last l _ n y hy (by rw [sizeLine_eq]; simp; omega)) ⟨ho, q _ ?_ (Heap.SameBut.update ..)⟩
  have u := PySem.IsL.update ho (fun xs : Array Value => xs.eraseIdxIfInBounds ((vs ++ [y]).toArray.size - 1))
  have e : (vs ++ [y]).toArray.eraseIdxIfInBounds ((vs ++ [y]).toArray.size - 1) = vs.toArray := by
    rw [hk]
    have := kl_erase vs [] y
    simpa using this
  simp only [e] at u
  exact ⟨_, u⟩

/-- l.remove(x), found -/
theorem rm_yes {Q : Value → Shared → Prop} {l : Addr} {vs : List Value} {ds : List PyData} {x : Value} {dx : PyData} {j : Nat} (S : g.StaysIn h) (hl : h.PlainList l vs.toArray) (rv : RdAll g vs ds) (rx : Rd g x dx) (hd : ∀ d ∈ ds, shaped d = true) (hx : shaped dx = true) (hu : A.units + 66 < cLine) (hsz : vs.length ≤ 1000)
    (hj : ds.findIdx? (fun d => PyData.eqv d dx) = some j)
    (q : ∀ h', h'.PlainList l (vs.eraseIdx j).toArray → Heap.SameBut l h h' → Q .none ⟨h', gn, dr, tk, os⟩) : wpAny (model prog ω.w) A (call (.builtin "list.remove") [.ref l, x]) Q E ⟨h, gn, dr, tk, os⟩ := by
  obtain ⟨n, ho⟩ := hl
  obtain ⟨hjl, hjt, hjn⟩ := List.findIdx?_eq_some_iff_getElem.mp hj
  have hjv : j < vs.length := by rw [rv.1]; exact hjl
  refine call_meets (S := fun A R s => s.heap.get? l = some { cls := .type "list", dict := none, data := .seq vs.toArray n, slots := #[] } ∧ (∀ m (hm : m < vs.toArray.size), EqAt A.in1 s vs.toArray[m] x (PyData.eqv (ds[m]?.getD .none) dx)) ∧ R (.ok (.ret .none)) { s with heap := s.heap.update l (Obj.mapSeq fun xs => xs.eraseIdxIfInBounds j) }) PySem.F.slot_list_remove ⟨_, ho, rfl⟩ PySem.F.entry_list_remove (PySem.F.args_list_remove_2 _ _) ?_ ⟨ho, eqs_at S rv rx hd hx hu, q _ ?_ (Heap.SameBut.update ..)⟩
  · rw [rem_is]
    intro prog w A R s hh
    refine wpAny_pure ?_
    refine ⟨plainId_quiet plain_remove_loop _, codeAny_builtin entry_remove_loop (by
      rw [Around.under_plainId plain_remove_loop _]
      refine rem_loop l vs.toArray n x (fun m => PyData.eqv (ds[m]?.getD .none) dx) j (by simpa using hjv) ?_ _ (by rw [sizeLine_eq]; simp; omega) 0 rfl (Nat.zero_le _) ?_ prog w A R s hh
      · simpa [hjl] using hjt
      · intro m _ hm
        have := hjn m hm
        have hml : m < ds.length := by omega
        simpa [hml] using this)⟩
  · have u := PySem.IsL.update ho (fun xs : Array Value => xs.eraseIdxIfInBounds j)
    have e : vs.toArray.eraseIdxIfInBounds j = (vs.eraseIdx j).toArray := by
      have := kl_erase (vs.take j) (vs.drop (j + 1)) vs[j]
      rw [List.length_take, Nat.min_eq_left (by omega), List.getElem_cons_drop, List.take_append_drop] at this
      rw [this, List.eraseIdx_eq_take_drop_succ]
    simp only [e] at u
    exact ⟨_, u⟩
/-- l.remove(x), not found -/
theorem rm_no {Q : Value → Shared → Prop} {l : Addr} {vs : List Value} {ds : List PyData} {x : Value} {dx : PyData} (S : g.StaysIn h) (hl : h.PlainList l vs.toArray) (rv : RdAll g vs ds) (rx : Rd g x dx) (hd : ∀ d ∈ ds, shaped d = true) (hx : shaped dx = true) (hu : A.units + 66 < cLine) (hh : A.handled = none)
    (hj : ds.findIdx? (fun d => PyData.eqv d dx) = none)
    (q : ∀ h' tk' e, Heap.NewExc h h' e "ValueError" → E (.ref e) ⟨h', gn, dr, tk', os⟩) : wpAny (model prog ω.w) A (call (.builtin "list.remove") [.ref l, x]) Q E ⟨h, gn, dr, tk, os⟩ := by
  obtain ⟨n, ho⟩ := hl
  have hjn := List.findIdx?_eq_none_iff.mp hj
  refine call_meets (S := fun A R s => s.heap.get? l = some { cls := .type "list", dict := none, data := .seq vs.toArray n, slots := #[] } ∧ (∀ m (hm : m < vs.toArray.size), EqAt A.in1 s vs.toArray[m] x false) ∧ raisesNew "ValueError" A R s) PySem.F.slot_list_remove ⟨_, ho, rfl⟩ PySem.F.entry_list_remove (PySem.F.args_list_remove_2 _ _) ?_ ⟨ho, fun m hm => ?_, hh, q⟩
  · rw [rem_is]
    intro prog w A R s hh
    refine wpAny_pure ?_
    exact ⟨plainId_quiet plain_remove_loop _, codeAny_builtin entry_remove_loop (by
      rw [Around.under_plainId plain_remove_loop _]
      exact rem_none l vs.toArray n x _ 0 rfl prog w A R s hh)⟩
  · have := eqs_at (gn := gn) (dr := dr) (tk := tk) (os := os) S rv rx hd hx hu m hm
    have hml : m < ds.length := by have := rv.1; simp at hm; omega
    have e := hjn ds[m] (List.getElem_mem hml)
    simp only [List.getElem?_eq_getElem hml, Option.getD_some] at this
    rw [show PyData.eqv ds[m] dx = false by simpa using e] at this
    exact this
end
end Mine
end

/-! text Diff -/
section
open PySem PySem.W PyProof.Rows PySem.Spec PySem.Calls PySem.SeqAt
set_option Elab.async false
set_option maxRecDepth 100000
set_option linter.unusedVariables false
namespace Mine
/-- unorderable_list_difference, plainly; the first list from behind -/
noncomputable def diffL : List PyData → List PyData → List PyData → List PyData × List PyData
  | [], act, mis => (mis, act)
  | x :: r, act, mis => match act.findIdx? (fun y => PyData.eqv y x) with
    | some j => diffL r (act.eraseIdx j) mis
    | none => diffL r act (mis ++ [x])

section
variable {M : Model} {A : Around} {E : Value → Shared → Prop} {s : Shared}
theorem note_first {base : Heap} {env : Env} {outer : List Env} {L e : Addr} {oe : Obj} {vs : Array Value} {a0 : Value} {Q : Unit → Shared → Prop}
    (hfr : A.frames = some (env :: outer)) (hl : s.heap.FunFrames base (env :: outer)) (hf : env.frame = some L)
    (he : s.heap.get? e = some oe) (hkb : base.StaysIn s.heap) (hen : base.get? e = none) (hd : oe.data = .fields vs) (h1 : vs[1]? = some .none) (h0 : vs[0]? = some a0)
    (hQ : ∀ h', Heap.HeldW base (env :: outer) e oe.cls a0 L h' → s.heap.UpToSlots h' → Q () { s with heap := h' }) : wpAny M A (noteFrame (.ref e) env) Q E s := by
  unfold noteFrame
  simp only [hf]
  refine wpAny_bind (wpAny_field he hd h1 ?_)
  rw [if_neg (by decide)]
  exact wpAny_entryW hfr hl hf he hkb hen hd (Array.getElem?_eq_some_iff.mp h1).1 h0 fun h' ⟨k1, k2, k3, k4⟩ => hQ h' ⟨k1, hen, k2, k3⟩ k4
end
theorem SlotsOnly.refl (fs : List Env) (h : Heap) : SlotsOnly fs h h := fun L o _ e => ⟨o.slots, e⟩
theorem SlotsOnly.trans {fs : List Env} {h h' h'' : Heap} (x : SlotsOnly fs h h') (y : SlotsOnly fs h' h'') : SlotsOnly fs h h'' := fun L o m e => by
  obtain ⟨s1, e1⟩ := x L o m e
  obtain ⟨s2, e2⟩ := y L _ m e1
  exact ⟨s2, e2⟩
theorem SlotsOnly.keep {fs : List Env} {h h' : Heap} (k : ∀ a o, InFr fs a → h.get? a = some o → h'.get? a = some o) : SlotsOnly fs h h' := fun L o m e => ⟨o.slots, k L o m e⟩
theorem SlotsOnly.tail {env : Env} {fs : List Env} {h h' : Heap} (x : SlotsOnly (env :: fs) h h') : SlotsOnly fs h h' := fun L o m e => x L o (by
  show L ∈ (env :: fs).filterMap (·.frame)
  rw [List.filterMap_cons]
  split
  · exact m
  · exact .tail _ m) e

section
variable {prog : Program} {ω : Ws} {A : Around} {E : Value → Shared → Prop} {g h : Heap} {gn : Array GenState} {dr : Drawn} {tk : Nat} {os : OsState} {env : Env} {vm : Str → Option Value}
theorem caught {Q : Flow → Shared → Prop} {fs : List Env} {e : Addr} {h₁ : Heap} {b₀ : Stmt} {suite : List Stmt} {np pos : Pos} (F : Fm ω g env vm h) (hfr : A.frames = some (env :: fs)) (hff : h.FunFrames g fs) (hx : Heap.NewExc h h₁ e "ValueError")
    (q : ∀ h', (∀ b o, ¬ InFr (env :: fs) b → h.get? b = some o → h'.get? b = some o) → SlotsOnly (env :: fs) h h' → Fm ω g env vm h' →
      wpAny (model prog ω.w) (A.mark (some (.ref e))) (execs (b₀ :: suite) env) Q (notedBy (model prog ω.w) (A.mark (some (.ref e))) env (cameBackBy (model prog ω.w) A env E)) ⟨h', gn, dr, tk, os⟩)
    (hf : env.frame = some env.locals := by rfl) (hcl : env.cells = [] := by rfl) (hg : env.globals = mainGlobals := by rfl) (hb : env.builtins = builtinsNs := by rfl)
    (hk : env.scope.kind = .function := by rfl) (hkx : env.kindOf "ValueError" = some .globalImplicit := by rfl) :
    wpAny (model prog ω.w) A (noteFrame (.ref e) env) (fun _ s₂ => wpAny (model prog ω.w) A (setFlight (.ref e) none) (fun _ s₃ => wpAny (model prog ω.w) A (handleBy (.ref e) env [.ExceptHandler (some (.Name "ValueError" np)) none (b₀ :: suite) pos]) Q E s₃) E s₂) E ⟨h₁, gn, dr, tk, os⟩ := by
  have ff := frames_push F hff hk hf
  obtain ⟨gB, vB1, vB2, vB3⟩ := view h (fun b => ¬ InFr (env :: fs) b)
  have offB : ∀ b, InFr (env :: fs) b → gB.get? b = none := fun b hm => by
    cases e1 : gB.get? b with
    | none => rfl
    | some o => exact absurd hm (vB3 b o e1)
  have sB : g.StaysIn gB := fun b o e1 => vB2 b o (fun hm => by rw [(ff.mem hm).1] at e1; cases e1) (F.sub b o e1)
  have ffB : h₁.FunFrames gB (env :: fs) := frames_keep (frames_to ff offB) fun L o _ e1 _ => ⟨o.slots, hx.keeps _ _ e1⟩
  obtain ⟨ob, t, hob, hcls, hdata⟩ := hx.there
  have hne : gB.get? e = none := none_of_sub vB1 hx.new
  have ownIn : ∀ b, Own env b → InFr (env :: fs) b := fun b ow => by
    rw [own1 ow hcl]
    show _ ∈ (env :: fs).filterMap (·.frame)
    rw [List.filterMap_cons, hf]; exact .head _
  have FX : ∀ h' : Heap, gB.StaysIn h' → UpX (fun _ => False) h h' → Fm ω g env vm h' := fun h' s u => F.upX (staysIn_refl g) (staysIn_trans sB s) u (fun _ _ q => q) fun b ow => F.own_off ow
  have up01 : UpX (fun _ => False) h h₁ := fun b o _ e1 _ => ⟨o.slots, hx.keeps _ _ e1⟩
  have upT : ∀ {k k' : Heap}, UpX (fun _ => False) h k → k.UpToSlots k' → UpX (fun _ => False) h k' := fun {k k'} u v b o hb e1 hnf => by
    obtain ⟨s1, e2⟩ := u b o hb e1 hnf
    obtain ⟨s2, e3⟩ := v b _ e2 hnf
    exact ⟨s2, e3⟩
  refine note_first (base := gB) hfr ffB hf hob (fun b o e1 => hx.keeps _ _ (vB1 b o e1)) hne hdata rfl rfl ?_
  intro h₂ held up₂
  rw [hcls] at held
  refine wpAny_landsW (base := gB) held ?_
  intro h₃ hfl₃ up₃
  have u3 := upT (upT up01 up₂) up₃
  have F₃ := FX h₃ hfl₃.1 u3
  refine wpAny_handleBy_builtin (X := "ValueError") (T := "ValueError") (b := true) PySem.F.isExc_ValueError (by rw [isSubtype_type]; kernel_rfl) (by rw [isSubtype_type]; kernel_rfl) ?_
  refine F₃.ldB ?_ Boot.ValueError rfl hg hb hk hkx
  refine ⟨rfl, hfl₃.there, ?_⟩
  rw [if_pos rfl]
  refine lands_againW hfl₃ ?_
  intro h₄ hfl₄ up₄
  have u4 := upT u3 up₄
  refine q h₄ (fun b o hb e1 => hfl₄.1 b o (vB2 b o hb e1)) (fun L o hm e1 => ?_) (FX h₄ hfl₄.1 u4)
  obtain ⟨_, o', e2, hnf⟩ := ff.mem hm
  rw [e1] at e2; cases e2
  exact u4 L o (fun q => q) e1 hnf
end
end Mine
end

/-! text Diff2 -/
section
open PySem PySem.W PyProof.Rows PySem.Spec PySem.Calls PySem.SeqAt
set_option Elab.async false
set_option maxRecDepth 100000
set_option linter.unusedVariables false
namespace Mine
section
variable {prog : Program} {ω : Ws} {A : Around} {E : Value → Shared → Prop} {g h : Heap} {gn : Array GenState} {dr : Drawn} {tk : Nat} {os : OsState} {env : Env} {vm : Str → Option Value}
theorem t_list {Q : Bool → Shared → Prop} {l : Addr} {vs : List Value} (hl : h.IsList l vs.toArray) (hsz : vs.length ≤ 100000) (q : ∀ tk', Q (!vs.isEmpty) ⟨h, gn, dr, tk', os⟩) : wpAny (model prog ω.w) A (truthy (.ref l)) Q E ⟨h, gn, dr, tk, os⟩ := by
  refine wpAny_truthy_list hl (by simp; omega) ?_
  have : vs.toArray.isEmpty = vs.isEmpty := by simp
  rw [this]; exact q _
theorem g_meth {name : Str} {id : String} {l : Addr} {items : Array Value} {pl : Sem Bool} {Q : Value × List Value → Shared → Prop} {s : Shared} (slot : Slot "list" name id) (hty : typeOf (.builtin id) = pure (.type "method_descriptor")) (hl : s.heap.PlainList l items) (q : Q (.builtin id, [.ref l]) s) :
    wpAny (model prog ω.w) A (getMethod (.ref l) name pl) Q E s :=
  getMethod_list_of slot hty hl.isList (let ⟨n, e⟩ := hl; ⟨_, e, rfl⟩) q

theorem notIn {en : Env} {fs : List Env} {b L : Addr} (hf : en.frame = some L) (h1 : b ≠ L) (h2 : ¬ InFr fs b) : ¬ InFr (en :: fs) b := fun hm => by
  have hm' : b ∈ (en :: fs).filterMap (·.frame) := hm
  rw [List.filterMap_cons, hf] at hm'
  exact (List.mem_cons.mp hm').elim h1 h2

theorem diff_ok {Q : Value → Shared → Prop} {ea aa : Addr} {vs ws : List Value} {ds es : List PyData} {fs : List Env} (W : Wd ω g) (S : g.StaysIn h) (R : Rm A 20) (hfr : A.frames = some fs) (hff : h.FunFrames g fs)
    (hE : h.PlainList ea vs.toArray) (hA : h.PlainList aa ws.toArray) (oE : g.get? ea = none) (oA : g.get? aa = none) (hne : ea ≠ aa) (nE : ¬ InFr fs ea) (nA : ¬ InFr fs aa)
    (rv : RdAll g vs ds) (rw' : RdAll g ws es) (hd : ∀ d ∈ ds, shaped d = true) (he : ∀ d ∈ es, shaped d = true) (hl1 : vs.length ≤ 100) (hl2 : ws.length ≤ 100)
    (q : ∀ T M ms ws' g' h' tk', GrowX (fun b => b = ea ∨ b = aa ∨ InFr fs b) g h g' h' → SlotsOnly fs h h' → g'.IsTuple T [.ref M, .ref aa].toArray → g'.IsList M ms.toArray → RdAll g' ms (diffL ds.reverse es []).1 → h'.PlainList aa ws'.toArray → RdAll g' ws' (diffL ds.reverse es []).2 → h'.PlainList ea #[] → Q (.ref T) ⟨h', gn, dr, tk', os⟩) :
    wpAny (model prog ω.w) A (call (.ref 96) [.ref ea, .ref aa]) Q E ⟨h, gn, dr, tk, os⟩ := by
  refine call_defV (k := 19) (binds := [("expected", .ref ea), ("actual", .ref aa)]) W S R rfl rfl rfl rfl (by decide) (by decide) ?_
  intro L h₁ tk₁ A₁ E₁ Q₁ env vm₀ hQ R' hfA F hk hO
  have hL : h.get? L = none := hO _ (.inl rfl)
  have alE : h.get? ea ≠ none := plain_al hE
  have alA : h.get? aa ≠ none := plain_al hA
  have eL : ea ≠ L := fun q => alE (q ▸ hL)
  have aL : aa ≠ L := fun q => alA (q ▸ hL)
  refine wpAny_execs_cons ?_
  refine wpAny_Assign_Name ?_
  refine List_ ?_
  refine spliced_none ?_
  refine n_listM F.sub ?_ (by simp)
  intro P h₂ G₂ hP nP oP
  have F₂ := F.grow0 G₂
  refine F₂.stLV ?_
  intro h₃ _ F₃ fo₃
  have PL : P ≠ L := fun q => F.own_alive (.inl rfl) (show Heap.get? _ L = none by rw [← q]; exact nP)
  have nPh : h.get? P = none := none_of_sub hk nP
  have hP₃ := hP.at (h' := h₃) fun o e => (fo₃ P fun ow => PL (own1 ow)).trans e
  have k₃ : h.StaysIn h₃ := fun b o e => (fo₃ b fun ow => by have e2 : _ = L := own1 ow; rw [e2, hL] at e; cases e).trans (G₂.keep _ _ (hk _ _ e))
  have eP : ea ≠ P := fun q => alE (q ▸ nPh)
  have aP : aa ≠ P := fun q => alA (q ▸ nPh)
  have nfr : ∀ {b}, h.get? b = none → ¬ InFr fs b := fun hb hm => by obtain ⟨_, o, e2, _⟩ := hff.mem hm; rw [hb] at e2; cases e2
  refine wpAny_execs_cons ?_
  refine wpAny_While ?_
  let Inv1 : Nat → Shared → Prop := fun k s => ∃ ms ws' mis es' vm' h' tk', s = ⟨h', gn, dr, tk', os⟩ ∧ k ≤ vs.length ∧ vm' "expected" = some (.ref ea) ∧ vm' "actual" = some (.ref aa) ∧ vm' "missing" = some (.ref P) ∧ Fm ω g env vm' h' ∧ GrowX (fun b => b = ea ∨ b = aa ∨ InFr fs b) g h g h' ∧ SlotsOnly fs h h' ∧
      h'.PlainList ea (vs.take k).toArray ∧ h'.PlainList aa ws'.toArray ∧ h'.PlainList P ms.toArray ∧ RdAll g ws' es' ∧ RdAll g ms mis ∧ (∀ d ∈ es', shaped d = true) ∧ ws'.length ≤ 100 ∧ ms.length + k ≤ vs.length ∧ diffL (ds.take k).reverse es' mis = diffL ds.reverse es []
  refine codeAny_whileLoop Inv1 ?_ vs.length
    ⟨[], ws, [], es, _, h₃, _, rfl, Nat.le_refl _, rfl, rfl, rfl, F₃, Grow.same S k₃, .keep fun a o _ e => k₃ a o e, by rw [List.take_length]; exact hE.at fun o e => k₃ _ _ e, hA.at fun o e => k₃ _ _ e, hP₃, rw', .nil, he, hl2, by simp, by rw [List.take_of_length_le (by rw [rv.1]; exact Nat.le_refl _)]⟩
  rintro k s ⟨ms, ws', mis, es', vm', h', tk', rfl, hkl, v1, v2, v3, F', G', SO, hE', hA', hP', rws, rms, hes, hwl, hml, hdf⟩
  have ff' : h'.FunFrames g fs := frames_keep hff fun L' o hm e _ => SO L' o hm e
  have tl : (vs.take k).length = k := by rw [List.length_take]; omega
  refine isTrue_plain ?_
  refine F'.ldL v1 ?_
  refine t_list hE'.isList (by rw [tl]; exact leK (Nat.le_trans hkl hl1)) ?_
  intro tk₅
  cases k with
  | zero =>
    rw [if_neg (by simp)]
    refine wpAny_execs_nil ?_
    refine wpAny_execs_cons ?_
    refine wpAny_Return_some ?_
    refine Tuple_ ?_
    refine spliced_more ?_
    refine F'.ldL v3 ?_
    refine spliced_more ?_
    refine F'.ldL v2 ?_
    refine spliced_none ?_
    refine n_tuple F'.sub ?_ (by simp) (by simp)
    intro T g₆ h₆ G₆ hT nT
    have GA : GrowX (fun b => b = ea ∨ b = aa ∨ InFr fs b) g h g₆ h₆ := G'.trans (G₆.wide fun _ q => q.elim)
    obtain ⟨nn, e6⟩ := hP'
    obtain ⟨g₇, G₇, s₇, e₇, _⟩ := GA.freeze (G₆.keep _ _ e6) nPh
    have s07 : g.StaysIn g₇ := staysIn_trans G₆.gg s₇
    simp only [List.take_zero, List.reverse_nil, diffL] at hdf
    rw [← hdf] at q
    refine hQ _ _ ?_
    exact q T P ms ws' g₇ h₆ _ G₇ (SO.trans (.keep fun a o _ e => G₆.keep _ _ e)) (hT.at fun o e => s₇ _ _ e) ⟨_, e₇, rfl, nn, rfl⟩ (rms.mono s07) (hA'.at fun o e => G₆.keep _ _ e) (rws.mono s07) (by simpa using hE'.at (h' := h₆) fun o e => G₆.keep _ _ e)
  | succ k =>
    have hkv : k < vs.length := by omega
    have hkd : k < ds.length := by rw [← rv.1]; exact hkv
    have tv : vs.take (k + 1) = vs.take k ++ [vs[k]] := by rw [List.take_add_one, List.getElem?_eq_getElem hkv]; rfl
    have td : (ds.take (k + 1)).reverse = ds[k] :: (ds.take k).reverse := by rw [List.take_add_one, List.getElem?_eq_getElem hkd]; simp
    have rx : Rd g vs[k] ds[k] := rv.2 k _ _ (List.getElem?_eq_getElem hkv) (List.getElem?_eq_getElem hkd)
    have hxs := hd ds[k] (List.getElem_mem hkd)
    generalize vs[k] = x at *
    generalize ds[k] = dx at *
    rw [if_pos (by rw [tv]; simp)]
    refine enter fun Q₂ E₂ hQ₂ hE₂ => ?_
    refine wpAny_execs_cons ?_
    refine wpAny_Assign_Name ?_
    refine MethodCall_ ?_
    refine F'.ldL v1 ?_
    refine g_meth PySem.F.slot_list_pop PySem.F.type_list_pop hE' ?_
    refine callWith_method0 ?_
    rw [tv] at hE'
    refine pop_call hE' (leK (Nat.le_trans (List.length_take_le _ _) (Nat.le_trans (Nat.le_of_lt hkv) hl1))) ?_
    intro h₆ hE₆ sb₆
    have G₆ := growL F'.sub oE sb₆ (plain_al hE₆)
    have F₆ := F'.grow G₆ fun b ow q => eL (q.symm.trans (own1 ow))
    have hA₆ := hA'.at (h' := h₆) fun o e => (sb₆.2 aa (Ne.symm hne)).trans e
    have hP₆ := hP'.at (h' := h₆) fun o e => (sb₆.2 P (Ne.symm eP)).trans e
    refine F₆.stLV ?_
    intro h₇ _ F₇ fo₇
    have ot₇ : ∀ b, b ≠ L → h₇.get? b = h₆.get? b := fun b hb => fo₇ b fun ow => hb (own1 ow)
    have hE₇ := hE₆.at (h' := h₇) fun o e => (ot₇ ea eL).trans e
    have hA₇ := hA₆.at (h' := h₇) fun o e => (ot₇ aa aL).trans e
    have hP₇ := hP₆.at (h' := h₇) fun o e => (ot₇ P PL).trans e
    have k67 : ∀ b o, b ≠ ea → b ≠ L → h'.get? b = some o → h₇.get? b = some o := fun b o h1 h2 e => (ot₇ b h2).trans ((sb₆.2 b h1).trans e)
    have alL : ∀ {b}, h.get? b ≠ none → b ≠ L := fun hb q => hb (q ▸ hL)
    have G₇ : GrowX (fun b => b = ea ∨ b = aa ∨ InFr fs b) g h g h₇ := (G'.trans (G₆.wide fun b q => .inl q)).step F₇.sub (fun b o _ al e => (ot₇ b (alL al)).trans e) fun b al e => by rw [ot₇ b (alL al)]; exact e
    have frE : ∀ {b}, InFr fs b → b ≠ ea := fun hm q => nE (q ▸ hm)
    have frL : ∀ {b}, InFr fs b → b ≠ L := fun hm q => nfr hL (q ▸ hm)
    have SO₇ : SlotsOnly fs h h₇ := SO.trans (.keep fun a o hm e => k67 a o (frE hm) (frL hm) e)
    have ff₇ : h₇.FunFrames g fs := frames_keep hff fun L' o hm e _ => SO₇ L' o hm e
    have hu : ∀ env : Env, A₁.units + 66 < cLine := fun env => by have := R'.un; rw [cLine_is]; omega
    refine wpAny_execs_cons ?_
    refine wpAny_Try_except ?_
    refine wpAny_execs_cons ?_
    refine wpAny_Expr_any ?_
    refine MethodCall_ ?_
    refine F₇.ldL (upd_ne v2) ?_
    refine g_meth PySem.F.slot_list_remove PySem.F.type_list_remove hA₇ ?_
    refine callWith_method1 ?_
    refine spliced_more ?_
    refine F₇.ldL rfl ?_
    refine spliced_none ?_
    rw [td] at hdf
    simp only [diffL] at hdf
    cases hj : es'.findIdx? (fun y => PyData.eqv y dx) with
    | some j =>
      rw [hj] at hdf
      dsimp only at hdf
      refine rm_yes F₇.sub hA₇ rws rx hes hxs (hu env) (leK hwl) hj ?_
      intro h₈ hA₈ sb₈
      have G₈ := growL F₇.sub oA sb₈ (plain_al hA₈)
      have F₈ := F₇.grow G₈ fun b ow q => aL (q.symm.trans (own1 ow))
      repeat refine wpAny_execs_nil ?_
      refine hQ₂ _ _ ⟨k, by omega, ms, ws'.eraseIdx j, mis, es'.eraseIdx j, _, h₈, _, rfl, by omega, upd_ne v1, upd_ne v2, upd_ne v3, F₈, G₇.trans (G₈.wide fun b q => .inr (.inl q)), SO₇.trans (.keep fun a o hm e => (sb₈.2 a fun q => nA (q ▸ hm)).trans e), hE₇.at fun o e => (sb₈.2 ea hne).trans e, hA₈, hP₇.at fun o e => (sb₈.2 P (Ne.symm aP)).trans e, rws.eraseIdx j, rms, fun d hm => hes d (List.mem_of_mem_eraseIdx hm), ?_, by omega, hdf⟩
      have := List.length_eraseIdx_le ws' j; omega
    | none =>
      rw [hj] at hdf
      dsimp only at hdf
      refine rm_no F₇.sub hA₇ rws rx hes hxs (hu env) R'.hd hj ?_
      intro h₈ tk₈ e hx₈
      refine caught F₇ (hfA _ hfr) ff₇ hx₈ ?_
      intro h₉ k₉ SO₉ F₉
      have nPf : ¬ InFr fs P := nfr nPh
      have hP₉ := hP₇.at (h' := h₉) fun o e => k₉ P o (notIn rfl PL nPf) e
      refine wpAny_execs_cons ?_
      refine wpAny_Expr_any ?_
      refine MethodCall_ ?_
      refine F₉.ldL (upd_ne v3) ?_
      refine g_app hP₉ ?_
      refine callWith_method1 ?_
      refine spliced_more ?_
      refine F₉.ldL rfl ?_
      refine spliced_none ?_
      refine ap_call F₉ oP hP₉ (fun ow => PL (own1 ow)) (by omega) ?_
      intro h₁₀ F₁₀ G₁₀ hP₁₀
      repeat refine wpAny_execs_nil ?_
      have k910 : ∀ b o, b ≠ P → h₉.get? b = some o → h₁₀.get? b = some o := fun b o hb e => G₁₀.hh b o hb e
      have kk : ∀ b o, b ≠ L → b ≠ P → ¬ InFr fs b → h₇.get? b = some o → h₁₀.get? b = some o := fun b o h1 h2 h3 e => k910 b o h2 (k₉ b o (notIn rfl h1 h3) e)
      have frP : ∀ {b}, InFr fs b → b ≠ P := fun hm q => nPf (q ▸ hm)
      have SO₁₀ : SlotsOnly fs h₇ h₁₀ := SO₉.tail.trans (.keep fun a o hm e => k910 a o (frP hm) e)
      have G79 : GrowX (fun b => b = ea ∨ b = aa ∨ InFr fs b) g h g h₁₀ := by
        have alP : ∀ {b}, h.get? b ≠ none → b ≠ P := fun hb q => hb (q ▸ nPh)
        refine G₇.step F₁₀.sub (fun b o nb al e => kk b o (alL al) (alP al) (fun q => nb (.inr (.inr q))) e) fun b al e => ?_
        by_cases hm : InFr fs b
        · cases e1 : h₇.get? b with
          | none => exact absurd e1 e
          | some o => obtain ⟨sl, e2⟩ := SO₁₀ b o hm e1; rw [e2]; nofun
        · cases e1 : h₇.get? b with
          | none => exact absurd e1 e
          | some o => rw [kk b o (alL al) (alP al) hm e1]; nofun
      refine hQ₂ _ _ ⟨k, by omega, ms ++ [x], ws', mis ++ [dx], es', _, h₁₀, _, rfl, by omega, upd_ne v1, upd_ne v2, upd_ne v3, F₁₀, G79, SO₇.trans SO₁₀, hE₇.at fun o e => kk ea o eL eP nE e, hA₇.at fun o e => kk aa o aL aP nA e, hP₁₀, rws, rms.snoc rx, hes, hwl, by simp; omega, hdf⟩
end
end Mine
end

/-! text Sh -/
section
open PySem PySem.W PyProof.Rows PySem.Spec PySem.Calls PySem.SeqAt
set_option Elab.async false
set_option maxRecDepth 100000
set_option linter.unusedVariables false
set_option linter.unusedSimpArgs false
namespace Mine
/-- data that may be laid, of a depth -/
noncomputable def sh (k : Nat) (d : PyData) : Prop := d.canLay0 = true ∧ d.depth ≤ k
theorem sh.le {k m : Nat} {d : PyData} (x : sh k d) (h : k ≤ m) : sh m d := ⟨x.1, Nat.le_trans x.2 h⟩
theorem sh.shaped {k : Nat} {d : PyData} (x : sh k d) (h : k ≤ 64) : shaped d = true := by
  unfold SeqAt.shaped
  rw [Bool.and_eq_true]
  exact ⟨x.1, decide_eq_true (Nat.le_trans x.2 h)⟩
theorem sh_all {k : Nat} : ∀ {ds : List PyData}, (∀ d ∈ ds, sh k d) → PyData.canLayAll0 ds = true ∧ PyData.depthAll ds ≤ k
  | [], _ => ⟨rfl, Nat.zero_le _⟩
  | d :: ds, h => by
    have h1 := h d (.head _)
    have h2 := sh_all fun x hx => h x (.tail _ hx)
    exact ⟨by simp [PyData.canLayAll0, h1.1, h2.1], by simp only [PyData.depthAll]; exact Nat.max_le.mpr ⟨h1.2, h2.2⟩⟩
theorem sh.list {k : Nat} {ds : List PyData} (h : ∀ d ∈ ds, sh k d) : sh (k + 1) (.list ds) := ⟨(sh_all h).1, by show PyData.depthAll ds + 1 ≤ k + 1; have := (sh_all h).2; omega⟩
theorem sh.tuple {k : Nat} {ds : List PyData} (h : ∀ d ∈ ds, sh k d) : sh (k + 1) (.tuple ds) := ⟨(sh_all h).1, by show PyData.depthAll ds + 1 ≤ k + 1; have := (sh_all h).2; omega⟩
theorem sh.int (k : Nat) (i : Int) : sh k (.int i) := ⟨rfl, Nat.zero_le _⟩
mutual
theorem eqv_refl : ∀ d : PyData, d.canLay0 = true → PyData.eqv d d = true
  | .none, _ => rfl
  | .bool b, _ => by simp [PyData.eqv]
  | .int i, _ => by simp [PyData.eqv]
  | .str x, _ => by simp [PyData.eqv]
  | .list xs, h => by simp only [PyData.eqv]; exact eqvAll_refl xs h
  | .tuple xs, h => by simp only [PyData.eqv]; exact eqvAll_refl xs h
  | .dict _, h => by cases h
theorem eqvAll_refl : ∀ xs : List PyData, PyData.canLayAll0 xs = true → PyData.eqvAll xs xs = true
  | [], _ => rfl
  | x :: xs, h => by
    have h' : x.canLay0 = true ∧ PyData.canLayAll0 xs = true := by simpa [PyData.canLayAll0] using h
    simp [PyData.eqvAll, eqv_refl x h'.1, eqvAll_refl xs h'.2]
end
theorem sh.refl {k : Nat} {d : PyData} (x : sh k d) : PyData.eqv d d = true := eqv_refl d x.1

/-- the bags, plainly -/
noncomputable def cnt (l : List PyData) (x : PyData) : Nat := l.countP fun d => PyData.eqv d x
noncomputable def atD (l : List PyData) (p : Nat) : PyData := l[p]?.getD .none
noncomputable def lackL (one two : List PyData) : List PyData := ((List.range one.length).filter fun i => decide (cnt two (atD one (one.length - 1 - i)) < cnt (one.drop (one.length - 1 - i)) (atD one (one.length - 1 - i)))).map fun i => atD one (one.length - 1 - i)
noncomputable def overL (one two : List PyData) : List PyData := ((List.range two.length).filter fun p => decide (cnt one (atD two p) < cnt (two.take (p + 1)) (atD two p))).map fun p => atD two p

section
variable {prog : Program} {ω : Ws} {A : Around} {E : Value → Shared → Prop} {g h : Heap} {gn : Array GenState} {dr : Drawn} {tk : Nat} {os : OsState} {env : Env} {vm : Str → Option Value}
/-- list(xs), that will be turned -/
theorem l_copy {Q : Value → Shared → Prop} {l : Addr} {vs : List Value} (S : g.StaysIn h) (hl : h.IsList l vs.toArray) (hsz : vs.length ≤ 10000)
    (q : ∀ D h', Grow g h g h' → h'.PlainList D vs.toArray → h.get? D = none → g.get? D = none → Q (.ref D) ⟨h', gn, dr, tk, os⟩) : wpAny (model prog ω.w) A (call (.type "list") [.ref l]) Q E ⟨h, gn, dr, tk, os⟩ := by
  obtain ⟨o, ho, hc, n, hd⟩ := hl
  refine call_list_seq l (T := "list") (.inl rfl) ho hc hd (fun h' c' hk hn => ?_) (by rw [sizeLine_eq]; simp; omega)
  exact q _ h' (Grow.same S hk) ⟨_, hn⟩ (get_none_size h) (none_of_sub S (get_none_size h))

/-- the frame behind a call that turned slots of frames -/
theorem Fm.slots {X : Addr → Prop} {g' h' : Heap} {fs : List Env} (F : Fm ω g env vm h) (G : GrowX X g h g' h') (so : SlotsOnly fs h h') (hX : ∀ a, Own env a → ¬ InFr fs a → ¬ X a) : Fm ω g' env vm h' := by
  have off : ∀ a, Own env a → g'.get? a = none := fun a ow => by
    cases e : h.get? a with
    | none => exact absurd e (F.own_alive ow)
    | some o => exact G.off (F.own_off ow) e
  have up : ∀ a o, Own env a → h.get? a = some o → ∃ sl, h'.get? a = some { o with slots := sl } := fun a o ow e => by
    by_cases hm : InFr fs a
    · exact so a o hm e
    · exact ⟨o.slots, G.hh a o (hX a ow hm) e⟩
  exact
  { wd := F.wd.mono G.gg
    sub := G.gh
    ns := by
      obtain ⟨m, ⟨o, es, ep, ho, hd, r⟩, q⟩ := F.ns
      obtain ⟨sl, e⟩ := up _ o (.inl rfl) ho
      exact ⟨m, ⟨_, es, ep, e, hd, r⟩, q⟩
    cell := fun n c e => by
      by_cases hk : env.kindOf n = some .cell
      · obtain ⟨o, ho, hd⟩ := F.cell n c e
        obtain ⟨sl, hs⟩ := up c o (.inr ⟨n, e, hk⟩) ho
        exact ⟨_, hs, hd⟩
      · exact ((F.inF n c e hk).keeps G.gg).keeps G.gh
    inj := F.inj
    offL := off _ (.inl rfl)
    offC := fun n c e hk => off _ (.inr ⟨n, e, hk⟩)
    inF := fun n c e hk => (F.inF n c e hk).keeps G.gg }

/-- a range that goes down to nought -/
theorem It.down {r : Addr} {n : Nat} {t u v : Tok} (hh : A.handled = none) (hr : IsRange g r ((n : Int) - 1) (-1) (-1) t u v) (hn : n ≤ 100000) : It prog ω.w A g (.ref r) n (fun i v => ∃ t, v = .int ((n : Int) - 1 - i) t) := by
  have e : (Builtin.Range.rangeSize ((n : Int) - 1) (-1) (-1) : Int) = n := by
    simp [Builtin.Range.rangeSize]
    omega
  have := It.range (prog := prog) (w := ω.w) hh hr (by unfold Builtin.Range.small Builtin.Range.rangeFitsLong; rw [e]; simp; omega) e
  exact this.mono fun i v ⟨t, hv⟩ => ⟨t, by rw [hv]; congr 1; omega⟩
end
end Mine
end

/-! text Bags -/
section
open PySem PySem.W PyProof.Rows PySem.Spec PySem.Calls PySem.SeqAt
set_option Elab.async false
set_option maxRecDepth 100000
set_option linter.unusedVariables false
set_option linter.unusedSimpArgs false
namespace Mine
section
variable {prog : Program} {ω : Ws} {A : Around} {E : Value → Shared → Prop} {g h : Heap} {gn : Array GenState} {dr : Drawn} {tk : Nat} {os : OsState} {env : Env} {vm : Str → Option Value}
/-- a slice of a list, plain -/
theorem sl_listP {Q : Value → Shared → Prop} {value slice : Expr} {l : Addr} {vs zs : List Value} {vl vu vk : Value} {lo hi st : Option Int} {ops : List Value} (S : g.StaysIn h) (hl : h.IsList l vs.toArray) (pl : IsPart vl lo) (pu : IsPart vu hi) (pk : IsPart vk st) (h0 : st ≠ some 0) (hz : slicePick vs.toArray lo hi st = zs.toArray) (hsz : vs.length ≤ 100000)
    (q : ∀ D g' h', Grow g h g' h' → g'.PlainList D zs.toArray → h.get? D = none → Q (.ref D) ⟨h', gn, dr, tk, os⟩)
    (hs : subscripted slice false (.ref l) (.ref h.objs.size) = operate ops (getItem (.ref l) (.ref h.objs.size))) :
    wpAny (model prog ω.w) A (subscriptTail value slice (.ref l) (.ref h.objs.size)) Q E ⟨h.push { cls := .type "slice", data := .fields #[vl, vu, vk] }, gn, dr, tk, os⟩ := by
  have G1 := grow_push_mut S { cls := .type "slice", data := .fields #[vl, vu, vk] }
  refine tail_any (T := "list") (Heap.IsList.typeIs (hl.push _)) list_getitem_lookup (wpAny_getItem_list_slice (hl.push _) (Heap.IsSliceOf.new ..) pl pu pk h0 ?_ (by rw [sizeLine_eq, List.size_toArray]; omega)) hs
  rw [hz]
  obtain ⟨g', G2, e⟩ := grow_push G1.gh { cls := .type "list", dict := none, data := .seq zs.toArray } rfl
  exact q _ g' _ (G1.trans G2) ⟨_, e⟩ (none_of_sub (staysIn_push h _) (get_none_size _))
theorem plain_eq {h : Heap} {l : Addr} {xs ys : List Value} (a : h.PlainList l xs.toArray) (b : h.PlainList l ys.toArray) : xs = ys := by
  obtain ⟨n, e⟩ := a; obtain ⟨m, e'⟩ := b
  rw [e] at e'; cases e'; rfl
theorem atD_get {l : List PyData} {p : Nat} (h : p < l.length) : l[p]? = some (atD l p) := by simp [atD, h]
theorem cnt_up {l : List PyData} {x : PyData} : l.countP (fun d => PyData.eqv d x) = cnt l x := rfl
theorem noX {env : Env} {b : Addr} (n : ¬ Own env b) : ¬ OwnK env No b := fun ow => ow.elim n fun q => q
theorem lackL_mem {a b : List PyData} {d : PyData} (m : d ∈ lackL a b) : d ∈ a := by
  unfold lackL at m
  obtain ⟨i, hi, rfl⟩ := List.mem_map.mp m
  have := List.mem_range.mp (List.mem_filter.mp hi).1
  exact List.mem_of_getElem? (atD_get (by omega))
theorem overL_mem {a b : List PyData} {d : PyData} (m : d ∈ overL a b) : d ∈ b := by
  unfold overL at m
  obtain ⟨i, hi, rfl⟩ := List.mem_map.mp m
  have := List.mem_range.mp (List.mem_filter.mp hi).1
  exact List.mem_of_getElem? (atD_get this)
/-- freeze one object -/
theorem freeze1 {D : Addr} {o : Obj} (F : Fm ω g env vm h) (e : h.get? D = some o) (n : ¬ Own env D) : ∃ g', g.StaysIn g' ∧ g'.get? D = some o ∧ Fm ω g' env vm h := by
  obtain ⟨g', v1, v2, v3⟩ := view h (fun a => g.get? a ≠ none ∨ a = D)
  have s : g.StaysIn g' := fun a p q => v2 a p (.inl (by rw [q]; nofun)) (F.sub a p q)
  refine ⟨g', s, v2 D o (.inr rfl) e, F.at s v1 (fun a o _ e => e) fun a ow => ?_⟩
  cases q : g'.get? a with
  | none => rfl
  | some p =>
    rcases v3 a p q with r | r
    · exact absurd (F.own_off ow) r
    · exact absurd (r ▸ ow) n

theorem bags_ok {Q : Value → Shared → Prop} {oa ta : Addr} {vs ws : List Value} {ds es : List PyData} {fs : List Env} (W : Wd ω g) (S : g.StaysIn h) (R : Rm A 40) (hfr : A.frames = some fs) (hff : h.FunFrames g fs)
    (hE : g.PlainList oa vs.toArray) (hA : g.PlainList ta ws.toArray) (rv : RdAll g vs ds) (rw' : RdAll g ws es) (hd : ∀ d ∈ ds, sh 60 d) (he : ∀ d ∈ es, sh 60 d) (hl1 : ds.length ≤ 100) (hl2 : es.length ≤ 100)
    (hdf : diffL ds.reverse es [] = (lackL ds es, overL ds es))
    (q : ∀ h' tk', GrowX (InFr fs) g h g h' → SlotsOnly fs h h' → Q (.bool true) ⟨h', gn, dr, tk', os⟩) :
    wpAny (model prog ω.w) A (call (.ref 167) [.ref oa, .ref ta]) Q E ⟨h, gn, dr, tk, os⟩ := by
  refine call_defV (k := 39) (binds := [("one", .ref oa), ("two", .ref ta)]) W S R rfl rfl rfl rfl (by decide) (by decide) ?_
  intro L h₁ tk₁ A₁ E₁ Q₁ env vm₀ hQ R' hA' F hk hO
  have hvl : vs.length = ds.length := rv.1
  have hwl : ws.length = es.length := rw'.1
  have hv100 : vs.length ≤ 100 := hvl ▸ hl1
  have hw100 : ws.length ≤ 100 := hwl ▸ hl2
  have hds : ∀ d ∈ ds, shaped d = true := fun d m => (hd d m).shaped (by decide)
  have hes : ∀ d ∈ es, shaped d = true := fun d m => (he d m).shaped (by decide)
  refine wpAny_execs_cons ?_
  refine wpAny_Assign_Name ?_
  refine Call_ ?_
  refine F.ldB ?_ Boot.list
  refine PyProof.Rows.callWith_type1 ?_
  refine spliced_more ?_
  refine F.ldC rfl ?_
  refine spliced_none ?_
  refine l_copy F.sub (hE.isList.at fun o e => F.sub _ _ e) (leK hv100) ?_
  intro ea h₂ G₂ hE₂ nE oE
  have F₂ := F.grow0 G₂
  refine F₂.stLV ?_
  intro h₃ _ F₃ fo₃
  refine wpAny_execs_cons ?_
  refine wpAny_Assign_Name ?_
  refine Call_ ?_
  refine F₃.ldB ?_ Boot.list
  refine PyProof.Rows.callWith_type1 ?_
  refine spliced_more ?_
  refine F₃.ldC rfl ?_
  refine spliced_none ?_
  refine l_copy F₃.sub (hA.isList.at fun o e => F₃.sub _ _ e) (leK hw100) ?_
  intro aa h₄ G₄ hA₄ nA oA
  have F₄ := F₃.grow0 G₄
  refine F₄.stLV ?_
  intro h₅ _ F₅ fo₅
  have noE : ¬ Own _ ea := fun ow => F.own_alive ow nE
  have noA : ¬ Own _ aa := fun ow => F₃.own_alive ow nA
  have hE₃ := hE₂.at (h' := h₃) fun o e => (fo₃ ea noE).trans e
  have hE₅ := (hE₃.at (h' := h₄) fun o e => G₄.keep _ _ e).at (h' := h₅) fun o e => (fo₅ ea noE).trans e
  have hA₅ := hA₄.at (h' := h₅) fun o e => (fo₅ aa noA).trans e
  have eA : ea ≠ aa := fun q => plain_al hE₃ (q ▸ nA)
  have k₅ : h.StaysIn h₅ := fun b o e => by
    have bL : ¬ Own _ b := fun ow => by rw [hO b ow] at e; cases e
    exact (fo₅ b bL).trans (G₄.keep _ _ ((fo₃ b bL).trans (G₂.keep _ _ (hk _ _ e))))
  have ff₅ : h₅.FunFrames g fs := frames_keep hff fun L' o hm e _ => ⟨o.slots, k₅ _ _ e⟩
  have nfr : ∀ {b}, h.get? b = none → ¬ InFr fs b := fun hb hm => by obtain ⟨_, o, e2, _⟩ := hff.mem hm; rw [hb] at e2; cases e2
  have nEh : h.get? ea = none := none_of_sub hk nE
  have nAh : h.get? aa = none := none_of_sub (fun b o e => by
    have bL : ¬ Own _ b := fun ow => by rw [hO b ow] at e; cases e
    exact (fo₃ b bL).trans (G₂.keep _ _ (hk _ _ e))) nA
  have eL : ea ≠ L := fun q => noE (.inl q)
  have aL : aa ≠ L := fun q => noA (.inl q)
  refine wpAny_execs_cons ?_
  refine wpAny_Assign_Name ?_
  refine Call_ ?_
  refine F₅.ldG (v := .ref 96) ?_
  refine callWith_K F₅.kin rfl ?_
  refine spliced_more ?_
  refine F₅.ldL (upd_ne rfl) ?_
  refine spliced_more ?_
  refine F₅.ldL rfl ?_
  refine spliced_none ?_
  refine ⟨F₅.kin, ?_⟩
  refine diff_ok F₅.wd F₅.sub (R'.le (by decide)) (hA' _ hfr) (frames_push F₅ ff₅) hE₅ hA₅ oE oA eA (notIn rfl eL (nfr nEh)) (notIn rfl aL (nfr nAh)) rv rw' hds hes hv100 hw100 ?_
  intro T M ms ws' g₆ h₆ tk₆ G₆ SO₆ hT hM rM hA₆ rA hE₆
  rw [hdf] at rM rA
  dsimp only at rM rA
  have F₆ : Fm ω g₆ _ _ h₆ := F₅.slots G₆ SO₆ fun b ow hn hx => hx.elim (fun q => noE (q ▸ ow)) fun hx => hx.elim (fun q => noA (q ▸ ow)) hn
  obtain ⟨na, ea6⟩ := id hA₆
  obtain ⟨g₇, s₇, e₇, F₇⟩ := freeze1 F₆ ea6 noA
  refine F₇.stLV ?_
  intro h₈ _ F₈ fo₈
  have hE₈ := hE₆.at (h' := h₈) fun o e => (fo₈ ea noE).trans e
  have s57 : g.StaysIn g₇ := staysIn_trans G₆.gg s₇
  have hone : ∀ {gg k : Heap}, g₇.StaysIn gg → gg.StaysIn k → k.PlainList oa vs.toArray := fun {gg k} s1 s2 => hE.at fun o e => s2 _ _ (s1 _ _ (s57 _ _ e))
  have htwo : ∀ {gg k : Heap}, g₇.StaysIn gg → gg.StaysIn k → k.PlainList ta ws.toArray := fun {gg k} s1 s2 => hA.at fun o e => s2 _ _ (s1 _ _ (s57 _ _ e))
  have sf := staysIn_refl g₇
  refine wpAny_execs_cons ?_
  refine wpAny_Assign_Name ?_
  refine Call_ ?_
  refine F₈.ldB ?_ boot_range
  refine PyProof.Rows.callWith_type1 ?_
  refine spliced_more ?_
  refine wpAny_BinOp ?_
  refine Call_ ?_
  refine F₈.ldB ?_ Boot.len
  refine PyProof.Rows.callWith_builtin1 ?_
  refine spliced_more ?_
  refine F₈.ldC rfl ?_
  refine spliced_none ?_
  refine PyProof.Rows.len_list (hone sf F₈.sub).isList (leZ hv100) ?_
  refine c_intD ?_
  refine b_subD ?_
  refine spliced_more ?_
  refine UnaryOp_ ?_
  refine c_intD ?_
  refine u_negD ?_
  refine spliced_more ?_
  refine UnaryOp_ ?_
  refine c_intD ?_
  refine u_negD ?_
  refine spliced_none ?_
  refine r_range3 (by decide) (noPyl (by simp)) F₈.sub ?_
  intro rg g₉ h₉ tk₉ t1 t2 t3 G₉ hr
  have F₉ := F₈.grow0 G₉
  refine F₉.stLV ?_
  intro h₁₀ _ F₁₀ fo₁₀
  have hE₁₀ := (hE₈.at (h' := h₉) fun o e => G₉.keep _ _ e).at (h' := h₁₀) fun o e => (fo₁₀ ea noE).trans e
  have s79 := G₉.gg
  have hr' : IsRange g₉ rg ((ds.length : Int) - 1) (-1) (-1) t1 t2 t3 := by
    have e : ((vs.toArray.size : Nat) : Int) = (ds.length : Nat) := by simp [hvl]
    rw [← e]; exact hr
  have rv9 : RdAll g₉ vs ds := rv.mono (staysIn_trans s57 s79)
  have rw9 : RdAll g₉ ws es := rw'.mono (staysIn_trans s57 s79)
  have hu : A₁.units + 66 < cLine := by have := R'.un; rw [cLine_is]; omega
  refine wpAny_execs_cons ?_
  refine Assign_ListComp rfl ?_
  refine F₁₀.ldL rfl ?_
  refine comp_st (It.down R'.hd hr' (leK hl1)) F₁₀ No JT (fun i y g => Rd g y (atD ds (ds.length - 1 - i))) (fun i => decide (cnt es (atD ds (ds.length - 1 - i)) < cnt (ds.drop (ds.length - 1 - i)) (atD ds (ds.length - 1 - i)))) (leK hl1) (fun _ _ _ _ k r => r.mono k) noK (fun _ _ _ _ _ _ _ _ => trivial) trivial ?_ ?_ ?_
  · rintro i v C g' h' tk' E' hi ⟨ti, hv1⟩ _ G' hC cenv cvm FC F'
    obtain ⟨p, hp⟩ : ∃ p, p = ds.length - 1 - i := ⟨_, rfl⟩
    have e1 : (ds.length : Int) - 1 - i = ((p : Nat) : Int) := by omega
    rw [e1] at hv1
    subst hv1
    rw [← hp]
    have hpl : p < ds.length := by omega
    obtain ⟨u, hu1, ru⟩ := rv9.get (atD_get hpl)
    have hsu := hds _ (List.mem_of_getElem? (atD_get hpl))
    generalize hx : atD ds p = x at *
    have s9' : g₇.StaysIn g' := staysIn_trans s79 G'.gg
    refine compTurn_oneV fun Qe Ee qe => ?_
    refine wpAny_isTrue_Compare1 ?_
    refine MethodCall_ ?_
    refine Subscript_ ?_
    refine FC.ldC rfl ?_
    refine wpAny_Slice ?_
    refine wpAny_evalPart_some ?_
    refine FC.ldL rfl ?_
    refine wpAny_evalPart_none ?_
    refine wpAny_evalPart_none ?_
    refine sl_listP (ops := [_, _]) FC.sub (hone s9' FC.sub).isList (.int _ _) .none .none (by simp) (pick_drop vs p) (leK hv100) ?_ (by with_unfolding_all rfl)
    intro D1 g1 h1 G1 hD1 nD1
    have FC1 := FC.grow0 G1
    refine g_meth PySem.F.slot_list_count PySem.F.type_list_count (hD1.at fun o e => FC1.sub _ _ e) ?_
    refine callWith_method1 ?_
    refine spliced_more ?_
    refine Subscript_ ?_
    refine FC1.ldC rfl ?_
    refine FC1.ldL rfl ?_
    refine s_listN (hone (staysIn_trans s9' G1.gg) FC1.sub).isList hu1 ?_ (by with_unfolding_all rfl) (leK hv100)
    refine spliced_none ?_
    have s91 : g₉.StaysIn g1 := staysIn_trans G'.gg G1.gg
    refine cnt_call FC1.sub (hD1.isList.at fun o e => FC1.sub _ _ e) ((rv9.mono s91).drop p) (ru.mono s91) (fun d m => hds d (List.mem_of_mem_drop m)) hsu hu ?_
    intro _ _
    refine MethodCall_ ?_
    refine FC1.ldC rfl ?_
    refine g_meth PySem.F.slot_list_count PySem.F.type_list_count (htwo (staysIn_trans s9' G1.gg) FC1.sub) ?_
    refine callWith_method1 ?_
    refine spliced_more ?_
    refine Subscript_ ?_
    refine FC1.ldC rfl ?_
    refine FC1.ldL rfl ?_
    refine s_listN (hone (staysIn_trans s9' G1.gg) FC1.sub).isList hu1 ?_ (by with_unfolding_all rfl) (leK hv100)
    refine spliced_none ?_
    refine cnt_call FC1.sub (htwo (staysIn_trans s9' G1.gg) FC1.sub).isList (rw9.mono s91) (ru.mono s91) hes hsu hu ?_
    intro _ _
    refine k_gt ?_
    refine t_bool ?_
    have ek : decide (((es.countP (fun d => PyData.eqv d x) : Nat) : Int) < (((ds.drop p).countP (fun d => PyData.eqv d x) : Nat) : Int)) = decide (cnt es x < cnt (ds.drop p) x) := by
      unfold cnt
      by_cases hc : es.countP (fun d => PyData.eqv d x) < (ds.drop p).countP (fun d => PyData.eqv d x)
      · rw [decide_eq_true hc, decide_eq_true (Int.ofNat_lt.mpr hc)]
      · rw [decide_eq_false hc, decide_eq_false (fun q => hc (Int.ofNat_lt.mp q))]
    rw [ek]
    refine qe g1 h1 _ G1 (fun _ Q₂ E₃ q₂ => ?_) (fun _ => trivial)
    refine Subscript_ ?_
    refine FC1.ldC rfl ?_
    refine FC1.ldL rfl ?_
    refine s_listN (hone (staysIn_trans s9' G1.gg) FC1.sub).isList hu1 ?_ (by with_unfolding_all rfl) (leK hv100)
    exact q₂ g1 h1 _ _ (GrowX.refl FC1.sub) trivial (ru.mono s91)
  · intro Dl yl g₁₁ h₁₁ tk₁₁ G₁₁ _ nDl hDl ccl F₁₁
    have rl : RdAll g₁₁ yl (lackL ds es) := ccl.rdFilter
    have s711 : g₇.StaysIn g₁₁ := staysIn_trans s79 G₁₁.gg
    have noD : ¬ Own _ Dl := fun ow => F₁₀.own_alive ow nDl
    refine wpAny_execs_cons ?_
    refine Assign_ListComp rfl ?_
    refine Call_ ?_
    refine F₁₁.ldB ?_ boot_range
    refine PyProof.Rows.callWith_type1 ?_
    refine spliced_more ?_
    refine Call_ ?_
    refine F₁₁.ldB ?_ Boot.len
    refine PyProof.Rows.callWith_builtin1 ?_
    refine spliced_more ?_
    refine F₁₁.ldC rfl ?_
    refine spliced_none ?_
    refine PyProof.Rows.len_list (htwo s711 F₁₁.sub).isList (leZ hw100) ?_
    refine spliced_none ?_
    refine r_range1 F₁₁.sub ?_
    intro rg2 g₁₂ h₁₂ tk₁₂ t4 t5 t6 G₁₂ hr2
    have F₁₂ := F₁₁.grow0 G₁₂
    have hr2' : IsRange g₁₂ rg2 0 (es.length : Nat) 1 t4 t5 t6 := by
      have e : ((ws.toArray.size : Nat) : Int) = (es.length : Nat) := by simp [hwl]
      rw [← e]; exact hr2
    have s712 : g₇.StaysIn g₁₂ := staysIn_trans s711 G₁₂.gg
    have rv12 : RdAll g₁₂ vs ds := rv.mono (staysIn_trans s57 s712)
    have rw12 : RdAll g₁₂ ws es := rw'.mono (staysIn_trans s57 s712)
    refine comp_st (It.range1 R'.hd hr2' (leK hl2)) F₁₂ No JT (fun p y g => Rd g y (atD es p)) (fun p => decide (cnt ds (atD es p) < cnt (es.take (p + 1)) (atD es p))) (leK hl2) (fun _ _ _ _ k r => r.mono k) noK (fun _ _ _ _ _ _ _ _ => trivial) trivial ?_ ?_ ?_
    · rintro p v C g' h' tk' E' hpl ⟨ti, rfl⟩ _ G' hC cenv cvm FC F'
      obtain ⟨u, hu1, ru⟩ := rw12.get (atD_get hpl)
      have hsu := hes _ (List.mem_of_getElem? (atD_get hpl))
      generalize hx : atD es p = x at *
      have s9' : g₇.StaysIn g' := staysIn_trans s712 G'.gg
      refine compTurn_oneV fun Qe Ee qe => ?_
      refine wpAny_isTrue_Compare1 ?_
      refine MethodCall_ ?_
      refine Subscript_ ?_
      refine FC.ldC rfl ?_
      refine wpAny_Slice ?_
      refine wpAny_evalPart_none ?_
      refine wpAny_evalPart_some ?_
      refine wpAny_BinOp ?_
      refine FC.ldL rfl ?_
      refine c_intD ?_
      refine b_addD ?_
      refine wpAny_evalPart_none ?_
      have e1 : ((p : Nat) : Int) + 1 = ((p + 1 : Nat) : Int) := rfl
      rw [e1]
      refine sl_listP (ops := [_, _]) FC.sub (htwo s9' FC.sub).isList .none (.int _ _) .none (by simp) (pick_take ws (p + 1)) (leK hw100) ?_ (by with_unfolding_all rfl)
      intro D1 g1 h1 G1 hD1 nD1
      have FC1 := FC.grow0 G1
      refine g_meth PySem.F.slot_list_count PySem.F.type_list_count (hD1.at fun o e => FC1.sub _ _ e) ?_
      refine callWith_method1 ?_
      refine spliced_more ?_
      refine Subscript_ ?_
      refine FC1.ldC rfl ?_
      refine FC1.ldL rfl ?_
      refine s_listN (htwo (staysIn_trans s9' G1.gg) FC1.sub).isList hu1 ?_ (by with_unfolding_all rfl) (leK hw100)
      refine spliced_none ?_
      have s91 : g₁₂.StaysIn g1 := staysIn_trans G'.gg G1.gg
      refine cnt_call FC1.sub (hD1.isList.at fun o e => FC1.sub _ _ e) ((rw12.mono s91).take (p + 1)) (ru.mono s91) (fun d m => hes d (List.mem_of_mem_take m)) hsu hu ?_
      intro _ _
      refine MethodCall_ ?_
      refine FC1.ldC rfl ?_
      refine g_meth PySem.F.slot_list_count PySem.F.type_list_count (hone (staysIn_trans s9' G1.gg) FC1.sub) ?_
      refine callWith_method1 ?_
      refine spliced_more ?_
      refine Subscript_ ?_
      refine FC1.ldC rfl ?_
      refine FC1.ldL rfl ?_
      refine s_listN (htwo (staysIn_trans s9' G1.gg) FC1.sub).isList hu1 ?_ (by with_unfolding_all rfl) (leK hw100)
      refine spliced_none ?_
      refine cnt_call FC1.sub (hone (staysIn_trans s9' G1.gg) FC1.sub).isList (rv12.mono s91) (ru.mono s91) hds hsu hu ?_
      intro _ _
      refine k_gt ?_
      refine t_bool ?_
      have ek : decide (((ds.countP (fun d => PyData.eqv d x) : Nat) : Int) < (((es.take (p + 1)).countP (fun d => PyData.eqv d x) : Nat) : Int)) = decide (cnt ds x < cnt (es.take (p + 1)) x) := by
        unfold cnt
        by_cases hc : ds.countP (fun d => PyData.eqv d x) < (es.take (p + 1)).countP (fun d => PyData.eqv d x)
        · rw [decide_eq_true hc, decide_eq_true (Int.ofNat_lt.mpr hc)]
        · rw [decide_eq_false hc, decide_eq_false (fun q => hc (Int.ofNat_lt.mp q))]
      rw [ek]
      refine qe g1 h1 _ G1 (fun _ Q₂ E₃ q₂ => ?_) (fun _ => trivial)
      refine Subscript_ ?_
      refine FC1.ldC rfl ?_
      refine FC1.ldL rfl ?_
      refine s_listN (htwo (staysIn_trans s9' G1.gg) FC1.sub).isList hu1 ?_ (by with_unfolding_all rfl) (leK hw100)
      exact q₂ g1 h1 _ _ (GrowX.refl FC1.sub) trivial (ru.mono s91)
    · intro Do yo g₁₃ h₁₃ tk₁₃ G₁₃ _ nDo hDo cco F₁₃
      have ro : RdAll g₁₃ yo (overL ds es) := cco.rdFilter
      have s713 : g₇.StaysIn g₁₃ := staysIn_trans s712 G₁₃.gg
      have hE₁₃ : h₁₃.PlainList ea (#[] : Array Value) := by
        obtain ⟨n, e⟩ := hE₁₀
        exact ⟨n, G₁₃.hh _ _ (noX noE) (G₁₂.keep _ _ (G₁₁.hh _ _ (noX noE) e))⟩
      refine wpAny_execs_cons ?_
      refine wpAny_Return_some ?_
      refine BoolOp_and ?_
      refine wpAny_Compare1 ?_
      refine F₁₃.ldL (upd_ne (upd_ne (upd_ne rfl))) ?_
      refine Tuple_ ?_
      refine spliced_more ?_
      refine F₁₃.ldL (upd_ne rfl) ?_
      refine spliced_more ?_
      refine F₁₃.ldL rfl ?_
      refine spliced_none ?_
      refine n_tuple F₁₃.sub ?_ (by simp) (by simp)
      intro D2 g₁₄ h₁₄ G₁₄ hD2 nD2
      have F₁₄ := F₁₃.grow0 G₁₄
      have s714 : g₇.StaysIn g₁₄ := staysIn_trans s713 G₁₄.gg
      have s614 : g₆.StaysIn g₁₄ := staysIn_trans s₇ s714
      have lsh : ∀ d ∈ lackL ds es, sh 60 d := fun d m => hd d (lackL_mem m)
      have osh : ∀ d ∈ overL ds es, sh 60 d := fun d m => he d (overL_mem m)
      have rA2 : Rd g₁₄ (.ref aa) (.list (overL ds es)) := .list ⟨_, s714 _ _ e₇, rfl, _, rfl⟩ (rA.mono s614)
      have rO2 : Rd g₁₄ (.ref Do) (.list (overL ds es)) := .list (hDo.at fun o e => G₁₄.gg _ _ e) (ro.mono G₁₄.gg)
      have tsh : sh 62 (.tuple [.list (lackL ds es), .list (overL ds es)]) := sh.tuple (k := 61) fun d m => by
        rcases List.mem_cons.mp m with rfl | m
        · exact sh.list lsh
        · rcases List.mem_cons.mp m with rfl | m
          · exact sh.list osh
          · cases m
      have u64 : A₁.units + 64 < cLine := by omega
      refine d_eq F₁₄.sub (da := .tuple [.list (lackL ds es), .list (overL ds es)]) (db := .tuple [.list (lackL ds es), .list (overL ds es)]) ?_ ?_ (tsh.shaped (by decide)) (tsh.shaped (by decide)) u64 ?_
      · exact .tuple (hT.at fun o e => s614 _ _ e) (.cons (.list (hM.at fun o e => s614 _ _ e) (rM.mono s614)) (.cons rA2 .nil))
      · exact .tuple hD2 (.cons (.list (hDl.at fun o e => G₁₄.gg _ _ (G₁₃.gg _ _ (G₁₂.gg _ _ e))) (rl.mono (staysIn_trans G₁₂.gg (staysIn_trans G₁₃.gg G₁₄.gg)))) (.cons rO2 .nil))
      rw [tsh.refl]
      refine t_bool ?_
      rw [if_pos rfl]
      refine BoolOp_and ?_
      refine wpAny_Compare1 ?_
      refine F₁₄.ldL (upd_ne (upd_ne (upd_ne (upd_ne (upd_ne rfl))))) ?_
      refine List_ ?_
      refine spliced_none ?_
      refine n_list F₁₄.sub ?_ (by simp)
      intro D3 g₁₅ h₁₅ G₁₅ hD3 nD3
      have F₁₅ := F₁₄.grow0 G₁₅
      have hE₁₅ : h₁₅.PlainList ea ([] : List Value).toArray := hE₁₃.at fun o e => G₁₅.keep _ _ (G₁₄.keep _ _ e)
      refine d_eq (g := h₁₅) (staysIn_refl _) (da := .list []) (db := .list []) (.list hE₁₅.isList .nil) (.list (hD3.at fun o e => F₁₅.sub _ _ e) .nil) rfl rfl u64 ?_
      refine t_bool ?_
      rw [if_pos (by rfl)]
      refine BoolOp_one ?_
      refine wpAny_Compare1 ?_
      refine F₁₅.ldL (upd_ne (upd_ne (upd_ne (upd_ne rfl)))) ?_
      refine F₁₅.ldL rfl ?_
      refine d_eq F₁₅.sub (rA2.mono G₁₅.gg) (rO2.mono G₁₅.gg) ((sh.list osh).shaped (by decide)) ((sh.list osh).shaped (by decide)) u64 ?_
      rw [(sh.list osh).refl]
      have kx : ∀ b o, ¬ Own _ b → h₆.get? b = some o → h₁₅.get? b = some o := fun b o n e => G₁₅.keep _ _ (G₁₄.keep _ _ (G₁₃.hh _ _ (noX n) (G₁₂.keep _ _ (G₁₁.hh _ _ (noX n) ((fo₁₀ b n).trans (G₉.keep _ _ ((fo₈ b n).trans e)))))))
      have alO : ∀ {b}, h.get? b ≠ none → ¬ Own _ b := fun al ow => al (hO _ ow)
      have SOe : SlotsOnly fs h h₁₅ := fun L' o hm e => by
        obtain ⟨sl, e2⟩ := SO₆.tail L' o hm (k₅ _ _ e)
        exact ⟨sl, kx _ _ (alO (by rw [e]; nofun)) e2⟩
      refine hQ _ _ ?_
      refine q h₁₅ _ ⟨staysIn_refl g, staysIn_trans s57 (staysIn_trans s714 (staysIn_trans G₁₅.gg F₁₅.sub)), fun b o n e => ?_, fun b al => ?_, fun a o e n => by rw [e] at n; cases n⟩ SOe
      · have al : h.get? b ≠ none := by rw [e]; nofun
        refine kx _ _ (alO al) (G₆.hh b o (fun hx => ?_) (k₅ _ _ e))
        rcases hx with rfl | rfl | hx
        · exact al nEh
        · exact al nAh
        · exact (notIn rfl (fun q => alO al (.inl q)) n) hx
      · cases e : h.get? b with
        | none => exact absurd e al
        | some o =>
          by_cases hm : InFr fs b
          · obtain ⟨sl, e2⟩ := SOe b o hm e; rw [e2]; nofun
          · rw [kx _ _ (alO al) (G₆.hh b o (fun hx => by
              rcases hx with rfl | rfl | hx
              · exact al nEh
              · exact al nAh
              · exact (notIn rfl (fun q => alO al (.inl q)) hm) hx) (k₅ _ _ e))]; nofun
    · intro m c e
      by_cases hn : m = "one"
      · subst hn; exact ⟨e, rfl⟩
      · by_cases hn2 : m = "two"
        · subst hn2; exact ⟨e, rfl⟩
        · have m1 := mem_of_lookup (show List.lookup m [(("two" : Str), L + 1 + 1), (("one" : Str), L + 1)] = some c from e)
          simp [hn, hn2] at m1
  · intro m c e
    by_cases hn : m = "one"
    · subst hn; exact ⟨e, rfl⟩
    · by_cases hn2 : m = "two"
      · subst hn2; exact ⟨e, rfl⟩
      · have m1 := mem_of_lookup (show List.lookup m [(("two" : Str), L + 1 + 1), (("one" : Str), L + 1)] = some c from e)
        simp [hn, hn2] at m1
end
end Mine
end

/-! text CompF -/
section
open PySem PySem.W PyProof.Rows PySem.Spec PySem.Calls PySem.SeqAt
set_option Elab.async false
set_option maxRecDepth 100000
set_option linter.unusedVariables false
set_option linter.unusedSimpArgs false
namespace Mine
section
variable {prog : Program} {ω : Ws} {A : Around} {E : Value → Shared → Prop} {g h : Heap} {gn : Array GenState} {dr : Drawn} {tk : Nat} {os : OsState} {env : Env} {vm : Str → Option Value} {x : Str} {px : Pos}
  {n : Nat} {P : Nat → Value → Prop} {xv : Value} {Q : Value → Shared → Prop} {elt iter : Expr} {ifs : List Expr} {scope : Scope} {pos : Pos} {cl : List (Str × Addr)}

theorem hsub_of (h : ∀ p ∈ cl, env.cells.lookup p.1 = some p.2 ∧ env.kindOf p.1 = some .cell) : ∀ m c, cl.lookup m = some c → env.cells.lookup m = some c ∧ env.kindOf m = some .cell := fun m c e => h (m, c) (mem_of_lookup e)

/-- the comprehension's value, where K may hold objects of the frame -/
theorem comp_valF (IT : It prog ω.w A g xv n P) (F : Fm ω g env vm h) (K : Addr → Prop) (J : Nat → Heap → Heap → Prop) (T : Nat → Value → Heap → Prop) (keep : Nat → Bool)
    (hn : n ≤ 100000)
    (hm : ∀ i y g g', g.StaysIn g' → T i y g → T i y g')
    (hK : ∀ a, K a → h.get? a ≠ none ∧ g.get? a = none)
    (hF : ∀ i g' h', J i g' h' → GrowX K g h g' h' → Fm ω g' env vm h')
    (stab : ∀ i g₁ g₂ h₁ h₂, g₁.StaysIn g₂ → J i g₁ h₁ → (∀ a o, K a → h₁.get? a = some o → h₂.get? a = some o) → J i g₂ h₂)
    (hJ : J 0 g h)
    (turn : ∀ i v C g' h' tk' E', i < n → P i v → J i g' h' → GrowX K g h g' h' → h.get? C = none → let cenv := compEnvC scope cl C env; let cvm := upd (vmF vm cl) x v; Fm ω g' cenv cvm h' → Fm ω g' env vm h' →
      CompTurn prog ω.w A cenv gn dr os K ifs elt (keep i) (J (i + 1)) (T i) g' h' tk' E')
    (done : ∀ D ys g' h' tk', GrowX K g h g' h' → J n g' h' → h.get? D = none → g'.IsList D ys.toArray → Coll T keep g' n ys → Fm ω g' env vm h' → Q (.ref D) ⟨h', gn, dr, tk', os⟩)
    (hsub : ∀ m c, cl.lookup m = some c → env.cells.lookup m = some c ∧ env.kindOf m = some .cell)
    (hxcl : cl.lookup x = none := by rfl)
    (hcl : (cl.all fun p => (relabel scope env).names.lookup p.1 == some .cell) = true := by rfl)
    (hcell : ∀ y ∈ scope.names, y.2 ≠ .cell := by decide) (hkind : scope.kind = .function := by rfl) (hx : scope.names.lookup x = some .local := by rfl) :
    CompGoal prog ω.w A E env elt iter x px ifs scope pos cl none Q xv ⟨h, gn, dr, tk, os⟩ := by
  refine comp_blockF IT F K J T keep hn hm hK hF stab hJ hxcl hsub hcl hcell hkind hx (fun i v C D g' h' tk' => turn i v C g' h' tk' _) fun C D ys g' h' tk' G hJn hD hC offC ⟨m, ns⟩ hl cc F' => ⟨m, ns, fun h'' hs => ?_⟩
  have hs' : Heap.SameBut C h' h'' := hs
  have s'' : g'.StaysIn h'' := fun a o e => (hs'.2 a fun q => by rw [q, offC] at e; cases e).trans (F'.sub a o e)
  have nKC : ¬ K C := fun q => (hK C q).1 hC
  have G'' : GrowX K g h g' h'' := G.step s'' (fun a o _ na e => (hs'.2 a fun q => na (by rw [q]; exact hC)).trans e) fun a na e => by rw [hs'.2 a fun q => na (by rw [q]; exact hC)]; exact e
  have J'' : J n g' h'' := stab _ _ _ _ _ (staysIn_refl _) hJn fun a o ka e => (hs'.2 a fun q => nKC (q ▸ ka)).trans e
  exact done D ys g' h'' tk' G'' J'' hD hl cc (hF _ _ _ J'' G'')

/-- stored into a cell of the frame -/
theorem comp_cellF {y : Str} {py : Pos} {cy : Addr} {Q : Shared → Prop} (IT : It prog ω.w A g xv n P) (F : Fm ω g env vm h) (K : Addr → Prop) (J : Nat → Heap → Heap → Prop) (T : Nat → Value → Heap → Prop) (keep : Nat → Bool)
    (hn : n ≤ 100000)
    (hm : ∀ i y g g', g.StaysIn g' → T i y g → T i y g')
    (hK : ∀ a, K a → h.get? a ≠ none ∧ g.get? a = none)
    (hF : ∀ i g' h', J i g' h' → GrowX K g h g' h' → Fm ω g' env vm h')
    (stab : ∀ i g₁ g₂ h₁ h₂, g₁.StaysIn g₂ → J i g₁ h₁ → (∀ a o, K a → h₁.get? a = some o → h₂.get? a = some o) → J i g₂ h₂)
    (hJ : J 0 g h)
    (turn : ∀ i v C g' h' tk' E', i < n → P i v → J i g' h' → GrowX K g h g' h' → h.get? C = none → let cenv := compEnvC scope cl C env; let cvm := upd (vmF vm cl) x v; Fm ω g' cenv cvm h' → Fm ω g' env vm h' →
      CompTurn prog ω.w A cenv gn dr os K ifs elt (keep i) (J (i + 1)) (T i) g' h' tk' E')
    (done : ∀ D ys g' h' h'' tk', GrowX (OwnK env K) g h g' h'' → J n g' h' → (∀ a o, h.get? a ≠ none → ¬ Own env a → h'.get? a = some o → h''.get? a = some o) → h.get? D = none → g'.IsList D ys.toArray → Coll T keep g' n ys → Fm ω g' env (upd vm y (.ref D)) h'' → Q ⟨h'', gn, dr, tk', os⟩)
    (hsub : ∀ m c, cl.lookup m = some c → env.cells.lookup m = some c ∧ env.kindOf m = some .cell)
    (hxcl : cl.lookup x = none := by rfl)
    (hcl : (cl.all fun p => (relabel scope env).names.lookup p.1 == some .cell) = true := by rfl)
    (hcell : ∀ y ∈ scope.names, y.2 ≠ .cell := by decide) (hkind : scope.kind = .function := by rfl) (hx : scope.names.lookup x = some .local := by rfl)
    (hek : env.scope.kind = .function := by rfl) (hey : env.kindOf y = some .cell := by rfl) (hcy : env.cells.lookup y = some cy := by rfl) :
    CompGoal prog ω.w A E env elt iter x px ifs scope pos cl (some (assign (.Name y py) env)) (fun _ s' => Q s') xv ⟨h, gn, dr, tk, os⟩ := by
  refine comp_blockF IT F K J T keep hn hm hK hF stab hJ hxcl hsub hcl hcell hkind hx (fun i v C D g' h' tk' => turn i v C g' h' tk' _) fun C D ys g' h' tk' G hJn hD hC offC ⟨m, ns⟩ hl cc F' => ?_
  refine wpAny_assign_Name (F'.stC (fun h₂ F₂ fo => ?_) hek hey hcy)
  have hCo : ¬ Own env C := fun o => F.own_alive o hC
  have ns₂ : h₂.Ns C m := ns.at' fun o e => (fo.other hCo).trans e
  refine ⟨m, ns₂, fun h'' hs => ?_⟩
  have hs' : Heap.SameBut C h₂ h'' := hs
  have s'' : g'.StaysIn h'' := fun a o e => (hs'.2 a fun q => by rw [q, offC] at e; cases e).trans (F₂.sub a o e)
  have G₂ : GrowX (OwnK env K) g h g' h₂ := (G.wide fun a q => Or.inr q).step F₂.sub (fun a o na _ e => (fo.other fun q => na (.inl q)).trans e) fun a _ e => by
    by_cases ow : Own env a
    · exact F₂.own_alive ow
    · rw [fo.other ow]; exact e
  have G'' : GrowX (OwnK env K) g h g' h'' := G₂.step s'' (fun a o _ na e => (hs'.2 a fun q => na (by rw [q]; exact hC)).trans e) fun a na e => by rw [hs'.2 a fun q => na (by rw [q]; exact hC)]; exact e
  exact done D ys g' h' h'' _ G'' hJn (fun a o al n e => (hs'.2 a fun q => al (q ▸ hC)).trans ((fo.other n).trans e)) hD hl cc
    (F₂.at (staysIn_refl _) s'' (fun a o ow e => (hs'.2 a fun q => hCo (q ▸ ow)).trans e) fun a ow => F₂.own_off ow)

/-- the same where the frame is left alone -/
theorem comp_cell {y : Str} {py : Pos} {cy : Addr} {Q : Shared → Prop} (IT : It prog ω.w A g xv n P) (F : Fm ω g env vm h) (T : Nat → Value → Heap → Prop) (keep : Nat → Bool)
    (hn : n ≤ 100000)
    (hm : ∀ i y g g', g.StaysIn g' → T i y g → T i y g')
    (turn : ∀ i v C g' h' tk' E', i < n → P i v → JT i g' h' → Grow g h g' h' → h.get? C = none → let cenv := compEnvC scope cl C env; let cvm := upd (vmF vm cl) x v; Fm ω g' cenv cvm h' → Fm ω g' env vm h' →
      CompTurn prog ω.w A cenv gn dr os No ifs elt (keep i) (JT (i + 1)) (T i) g' h' tk' E')
    (done : ∀ D ys g' h'' tk', GrowX (OwnK env No) g h g' h'' → h.get? D = none → g'.IsList D ys.toArray → Coll T keep g' n ys → Fm ω g' env (upd vm y (.ref D)) h'' → Q ⟨h'', gn, dr, tk', os⟩)
    (hsub : ∀ m c, cl.lookup m = some c → env.cells.lookup m = some c ∧ env.kindOf m = some .cell)
    (hxcl : cl.lookup x = none := by rfl)
    (hcl : (cl.all fun p => (relabel scope env).names.lookup p.1 == some .cell) = true := by rfl)
    (hcell : ∀ y ∈ scope.names, y.2 ≠ .cell := by decide) (hkind : scope.kind = .function := by rfl) (hx : scope.names.lookup x = some .local := by rfl)
    (hek : env.scope.kind = .function := by rfl) (hey : env.kindOf y = some .cell := by rfl) (hcy : env.cells.lookup y = some cy := by rfl) :
    CompGoal prog ω.w A E env elt iter x px ifs scope pos cl (some (assign (.Name y py) env)) (fun _ s' => Q s') xv ⟨h, gn, dr, tk, os⟩ :=
  comp_cellF IT F No JT T keep hn hm (fun _ q => q.elim) (fun _ _ _ _ G => F.grow0 G) (fun _ _ _ _ _ _ _ _ => trivial) trivial turn (fun D ys g' h' h'' tk' G _ _ => done D ys g' h'' tk' G) hsub hxcl hcl hcell hkind hx hek hey hcy
end
end Mine
end

/-! text M1 -/
section
open PySem PySem.W PyProof.Rows PySem.Spec PySem.Calls
set_option Elab.async false
set_option linter.unusedVariables false
set_option linter.unusedSimpArgs false
namespace Mine
/-! told = due -/
structure Word (r r' : List Nat) (ts : List PyData) (k : Nat) (w : List Nat) : Prop where
  eq : r = w ++ r'
  len : ts.length = k
  fold : ∀ acc, w.foldr dueStep acc = ts ++ acc
  hi : ∀ (p : Nat) (a b : Int), b + k ≤ a → dueEnds r p a b = dueEnds r' (p + w.length) (a - k) b
  lo : 1 ≤ k → ∀ p b, dueEnds r p (b + k - 1) b = (p + w.length) :: dueEnds r' (p + w.length) (b - 1) (b - 1)

theorem word_nil (r : List Nat) : Word r r [] 0 [] :=
  ⟨rfl, rfl, fun _ => rfl, fun p a b _ => by simp, fun h => absurd h (by decide)⟩
theorem word_cons {r r1 r' : List Nat} {t : PyData} {ts : List PyData} {k : Nat} {w1 w2 : List Nat} (x : Word r r1 [t] 1 w1) (y : Word r1 r' ts k w2) : Word r r' (t :: ts) (k + 1) (w1 ++ w2) where
  eq := by rw [x.eq, y.eq, List.append_assoc]
  len := by simp [y.len]
  fold := fun acc => by rw [List.foldr_append, y.fold, x.fold]; rfl
  hi := fun p a b h => by
    rw [x.hi p a b (by push_cast at h ⊢; omega), y.hi _ _ _ (by push_cast at h ⊢; omega), List.length_append, Nat.add_assoc]
    congr 1; push_cast; omega
  lo := fun _ p b => by
    cases k with
    | zero =>
      have e1 := x.lo (Nat.le_refl _) p b
      have hy := y.hi (p + w1.length) (b - 1) (b - 1) (by simp)
      have e2 : b + ((0 + 1 : Nat) : Int) - 1 = b + ((1 : Nat) : Int) - 1 := by simp
      rw [e2, e1, hy, List.length_append, Nat.add_assoc]
      -- w2 may not be empty by form alone
      have hw : w2 = [] := by
        have hf := y.fold []
        have hl := y.len
        cases w2 with
        | nil => rfl
        | cons o w =>
          have : ts = [] := List.length_eq_zero_iff.mp hl
          subst this
          simp [dueStep] at hf
      subst hw
      simp
    | succ k =>
      have h1 := x.hi p (b + ((k + 1 + 1 : Nat) : Int) - 1) b (by push_cast; omega)
      rw [h1]
      have e3 : b + ((k + 1 + 1 : Nat) : Int) - 1 - ((1 : Nat) : Int) = b + ((k + 1 : Nat) : Int) - 1 := by push_cast; omega
      rw [e3, y.lo (by omega), List.length_append, Nat.add_assoc]

theorem word_tree {r r' : List Nat} {ts : List PyData} {o : Nat} {w : List Nat} (x : Word r r' ts o w) : Word (o :: r) r' [.list ts] 1 (o :: w) where
  eq := by rw [x.eq]; rfl
  len := rfl
  fold := fun acc => by
    rw [List.foldr_cons, x.fold]
    unfold dueStep
    rw [List.take_left' x.len, List.drop_left' x.len]; rfl
  hi := fun p a b h => by
    have h' : b + 1 ≤ a := by simpa using h
    rw [dueEnds, if_neg (by omega), x.hi _ _ _ (by omega), List.length_cons]
    congr 1 <;> (push_cast; omega)
  lo := fun _ p b => by
    have e2 : b + ((1 : Nat) : Int) - 1 = b := by simp
    rw [e2, dueEnds]
    cases o with
    | zero =>
      rw [if_pos (by push_cast; omega)]
      have hw : w = [] := by
        have hf := x.fold []
        have hl := x.len
        cases w with
        | nil => rfl
        | cons o w =>
          have : ts = [] := List.length_eq_zero_iff.mp hl
          subst this
          simp [dueStep] at hf
      have hr := x.eq
      subst hw
      simp at hr
      subst hr
      simp
    | succ o =>
      rw [if_neg (by push_cast; omega)]
      have := x.lo (by omega) (p + 1) b
      rw [this, List.length_cons]
      have e3 : p + 1 + w.length = p + (w.length + 1) := by omega
      rw [e3]

theorem word_many {f : List Nat → Option (PyData × List Nat)} (hf : ∀ r t r', f r = some (t, r') → ∃ w, Word r r' [t] 1 w) : ∀ (k : Nat) (r : List Nat) ts r', pmany f k r = some (ts, r') → ∃ w, Word r r' ts k w
  | 0, r, ts, r', h => by simp [pmany] at h; obtain ⟨rfl, rfl⟩ := h; exact ⟨[], word_nil r⟩
  | k + 1, r, ts, r', h => by
    simp only [pmany] at h
    split at h
    · rename_i t r1 h1
      split at h
      · rename_i ts1 r2 h2
        simp at h; obtain ⟨rfl, rfl⟩ := h
        obtain ⟨w2, e2⟩ := word_many hf k r1 _ _ h2
        obtain ⟨w1, e1⟩ := hf _ _ _ h1
        exact ⟨w1 ++ w2, word_cons e1 e2⟩
      · cases h
    · cases h
theorem word_ptree : ∀ (n : Nat) (r : List Nat) t r', ptree n r = some (t, r') → ∃ w, Word r r' [t] 1 w
  | 0, r, t, r', h => by simp [ptree] at h
  | n + 1, [], t, r', h => by simp [ptree] at h
  | n + 1, o :: r, t, r', h => by
    simp only [ptree] at h
    split at h
    · rename_i ts r1 h1
      simp at h; obtain ⟨rfl, rfl⟩ := h
      obtain ⟨w, e⟩ := word_many (word_ptree n) o r _ _ h1
      exact ⟨o :: w, word_tree e⟩
    · cases h

theorem none_many {n : Nat} (hf : ∀ r, ptree n r = none → r.length < n → ∀ (p : Nat) (a b : Int), b ≤ a → dueEnds r p a b = []) : ∀ (k : Nat) (r : List Nat), pmany (ptree n) k r = none → r.length < n → ∀ (p : Nat) (a b : Int), b + k ≤ a + 1 → dueEnds r p a b = []
  | 0, r, h => by simp [pmany] at h
  | k + 1, r, h => fun hl p a b hab => by
    simp only [pmany] at h
    split at h
    · rename_i t r1 h1
      split at h
      · cases h
      · rename_i h2
        obtain ⟨w, x⟩ := word_ptree _ _ _ _ h1
        have hk : k ≠ 0 := by rintro rfl; simp [pmany] at h2
        have hlen := ptree_len _ _ _ _ h1
        rw [x.hi p a b (by push_cast at hab ⊢; omega)]
        exact none_many hf k r1 h2 (by omega) _ _ _ (by push_cast at hab ⊢; omega)
    · rename_i h1
      exact hf r h1 hl p a b (by push_cast at hab; omega)
theorem none_ptree : ∀ (n : Nat) (r : List Nat), ptree n r = none → r.length < n → ∀ (p : Nat) (a b : Int), b ≤ a → dueEnds r p a b = []
  | 0, r, _ => fun hl => absurd hl (by omega)
  | n + 1, [], _ => fun _ _ _ _ _ => rfl
  | n + 1, o :: r, h => fun hl p a b hab => by
    simp only [ptree] at h
    split at h
    · cases h
    · rename_i h1
      have ho : o ≠ 0 := by rintro rfl; simp [pmany] at h1
      rw [dueEnds, if_neg (by omega)]
      exact none_many (none_ptree n) o r h1 (by simp at hl; omega) _ _ _ (by omega)

theorem Told.due {oc : List Nat} {ts : List PyData} {es : List Nat} {p : Nat} (x : Told oc ts es p) : (∀ acc, (oc.take p).foldr dueStep acc = ts ++ acc) ∧ dueEs oc = es ++ dueEnds (oc.drop p) p (-(ts.length : Int)) (-(ts.length : Int)) ∧ es.getLast? = some p := by
  induction x with
  | nil => exact ⟨fun _ => rfl, rfl, rfl⟩
  | @snoc ts es p t r x h ih =>
    obtain ⟨i1, i2, i3⟩ := ih
    obtain ⟨w, W⟩ := word_ptree _ _ _ _ h
    have hp := x.le.1
    have hd := drop_rest (oc := oc) (p := p) hp ⟨w, W.eq⟩
    have hl : oc.length - p = w.length + r.length := by rw [← List.length_drop, W.eq]; simp
    have hq : oc.length - r.length = p + w.length := by omega
    refine ⟨fun acc => ?_, ?_, by simp⟩
    · rw [hq, List.take_add, W.eq, List.take_left' rfl, List.foldr_append, W.fold, i1]; simp
    · have lo := W.lo (Nat.le_refl _) p (-(ts.length : Int))
      have e2 : -(ts.length : Int) + ((1 : Nat) : Int) - 1 = -(ts.length : Int) := by push_cast; omega
      rw [e2] at lo
      rw [i2, lo, hd, hq, List.append_assoc, List.length_append]
      have e3 : -((ts.length + [t].length : Nat) : Int) = -(ts.length : Int) - 1 := by simp; omega
      rw [e3]; rfl
theorem told_due {oc : List Nat} {ts : List PyData} {es : List Nat} {p : Nat} (x : Told oc ts es p) (h : ptree 13 (oc.drop p) = none) (h12 : oc.length = 12) : toldD ts es 12 = dueD oc := by
  obtain ⟨i1, i2, i3⟩ := x.due
  have h0 := none_ptree 13 _ h (by simp; omega) p (-(ts.length : Int)) _ (Int.le_refl _)
  rw [h0, List.append_nil] at i2
  have i4 := i1 []
  rw [List.append_nil] at i4
  unfold dueD
  rw [i2, i3]
  simp only [Option.getD_some]
  rw [dueTrees, i4]
end Mine
end

/-! text Plain -/
section
open PySem PySem.W PyProof.Rows PySem.Spec PySem.Calls PySem.SeqAt
set_option Elab.async false
set_option maxRecDepth 100000
set_option linter.unusedVariables false
set_option linter.unusedSimpArgs false
namespace Mine
/-! the plain law -/
noncomputable def tp (s : List Nat) (k : Nat) : List Nat := s.drop k ++ s.take k
noncomputable def lastE (oc : List Nat) : Nat := (dueEs oc).getLast?.getD 0
noncomputable def wholes (s : List Nat) : List Nat := (List.range 12).filter fun k => lastE (tp s k) == 12
noncomputable def forest (s : List Nat) (k : Nat) : List PyData := dueTrees ((tp s k).take (lastE (tp s k)))
noncomputable def ok2 (s : List Nat) : Prop := s.length = 12 ∧ ∀ o ∈ s, o ≤ 2
theorem tp_len {s : List Nat} (k : Nat) (h : k ≤ s.length) : (tp s k).length = s.length := by simp [tp]; omega
theorem tp_mem {s : List Nat} {k o : Nat} (h : o ∈ tp s k) : o ∈ s := by
  rcases List.mem_append.mp h with h | h
  · exact List.mem_of_mem_drop h
  · exact List.mem_of_mem_take h
theorem dueD_is (oc : List Nat) : dueD oc = toldD (dueTrees (oc.take (lastE oc))) (dueEs oc) 12 := rfl

theorem sons_nat {l : List Int} (h : ∀ x ∈ l, 0 ≤ x ∧ x ≤ 2) (h12 : l.length = 12) : ∃ so : List Nat, l = so.map (fun o : Nat => (o : Int)) ∧ ok2 so := by
  refine ⟨l.map Int.toNat, ?_, by simp [h12], fun o ho => ?_⟩
  · rw [List.map_map]
    have : ∀ l : List Int, (∀ x ∈ l, 0 ≤ x ∧ x ≤ 2) → l = l.map ((fun o : Nat => (o : Int)) ∘ Int.toNat) := fun l => by
      induction l with
      | nil => intro _; rfl
      | cons x l ih =>
        intro h
        rw [List.map_cons, ← ih fun y hy => h y (.tail _ hy)]
        congr 1
        exact (Int.toNat_of_nonneg (h x (.head _)).1).symm
    exact this l h
  · obtain ⟨x, hx, rfl⟩ := List.mem_map.mp ho
    have := h x hx
    omega
end Mine
end

/-! text LawPre -/
section
open PySem PySem.W PyProof.Rows PySem.Spec PySem.Calls PySem.SeqAt
set_option Elab.async false
set_option maxRecDepth 100000
set_option linter.unusedVariables false
set_option linter.unusedSimpArgs false
namespace Mine
section
variable {prog : Program} {ω : Ws} {A : Around} {E : Value → Shared → Prop} {g h : Heap} {gn : Array GenState} {dr : Drawn} {tk : Nat} {os : OsState} {env : Env} {vm : Str → Option Value}
theorem b_sum : bootBuiltins "sum" = some (.builtin "sum") := by decide +kernel
theorem b_max : bootBuiltins "max" = some (.builtin "max") := by decide +kernel
theorem b_bytes : bootBuiltins "bytes" = some (.type "bytes") := by decide +kernel
theorem intsAre : ∀ {vs : List Value} {ns : List Int}, RdAll g vs (intD ns) → IntsAre vs ns
  | [], [], _ => .nil
  | [], _ :: _, x => by simp [RdAll, intD] at x
  | _ :: _, [], x => by simp [RdAll, intD] at x
  | _ :: _, _ :: _, x => by
    obtain ⟨t, rfl⟩ := x.head.int_inv
    exact .cons _ _ (intsAre x.tail)
theorem ofInts : ∀ {vs : List Value} {ns : List Int}, IntsAre vs ns → RdAll g vs (intD ns)
  | _, _, .nil => .nil
  | _, _, .cons _ _ x => .cons (.int _ _) (ofInts x)
theorem islist_eq {h : Heap} {l : Addr} {xs ys : List Value} (a : h.IsList l xs.toArray) (b : h.IsList l ys.toArray) : xs = ys := by
  obtain ⟨o, e, _, n, d⟩ := a; obtain ⟨o', e', _, n', d'⟩ := b
  rw [e] at e'; cases e'
  rw [d] at d'; cases d'; rfl
theorem PL0.trees {v : Value} {ts : List PyData} {ds : List PyData} (x : PL0 g v) (r : Rd g v (.list (.list ts :: ds))) : ∃ D ta vs rest, v = .ref D ∧ g.IsList D (Value.ref ta :: rest).toArray ∧ g.PlainList ta (vs : List Value).toArray ∧ RdAll g vs ts := by
  obtain ⟨D, ta, vs, rest, rfl, hD, hp⟩ := x
  obtain ⟨a, us, e, hu, ru⟩ := r.list_inv
  cases e
  have := islist_eq hD hu
  subst this
  obtain ⟨b, ws, e, hw, rw'⟩ := ru.head.list_inv
  cases e
  have := islist_eq hp.isList hw
  subst this
  exact ⟨_, _, _, _, rfl, hD, hp, rw'⟩
theorem sum_ok {Q : Value → Shared → Prop} {l : Addr} {vs : List Value} {ns : List Int} (S : g.StaysIn h) (hh : A.handled = none) (hl : h.IsList l vs.toArray) (hi : IntsAre vs ns)
    (q : ∀ h' tk' t', Grow g h g h' → Q (.int ns.sum t') ⟨h', gn, dr, tk', os⟩) : wpAny (model prog ω.w) A (call (.builtin "sum") [.ref l]) Q E ⟨h, gn, dr, tk, os⟩ := by
  obtain ⟨xs, hx⟩ := hi.allInts.items
  have hl' : h.IsList l (intItems xs) := hx ▸ hl
  refine sum_intListG hh hl' fun h' tk' t' hk => ?_
  have e1 : ns = xs.toList.map (·.1) := by
    rw [← nums_intItems, ← hx]
    exact (show numsOf vs.toArray.toList = ns from hi.numsOf).symm
  have e2 : preSum (numAt xs) xs.size = ns.sum := by
    rw [preSum_eq, List.take_of_length_le (by simp), e1]
  rw [e2]
  exact q h' tk' t' (Grow.same S hk)
theorem max_ok {Q : Value → Shared → Prop} {a b : Int} {t u : Tok} (S : g.StaysIn h) (hh : A.handled = none)
    (q : ∀ h' tk', Grow g h g h' → Q (if b > a then .int b u else .int a t) ⟨h', gn, dr, tk', os⟩) : wpAny (model prog ω.w) A (call (.builtin "max") [.int a t, .int b u]) Q E ⟨h, gn, dr, tk, os⟩ :=
  max_two_ints hh fun h' tk' hk => q h' tk' (Grow.same S hk)
theorem bytes_ok {Q : Value → Shared → Prop} {l : Addr} {vs : List Value} {oc : List Nat} (S : g.StaysIn h) (hh : A.handled = none) (hl : h.IsList l vs.toArray) (hi : IntsAre vs (oc.map fun o : Nat => (o : Int))) (hr : ∀ o ∈ oc, o < 256) (hz : oc.length ≤ 1000)
    (q : ∀ h' tk' t', Grow g h g h' → Q (.bytes (bz oc) t') ⟨h', gn, dr, tk', os⟩) : wpAny (model prog ω.w) A (call (.type "bytes") [.ref l]) Q E ⟨h, gn, dr, tk, os⟩ := by
  have hlen : vs.length = oc.length := by rw [hi.length]; simp
  refine call_bytes_ints hl hi (fun n hn => ?_) (by rw [sizeLine_eq]; omega) hh fun h' t k hk => ?_
  · obtain ⟨o, ho, rfl⟩ := List.mem_map.mp hn
    have := hr o ho
    omega
  · have e : byteArr (oc.map fun o : Nat => (o : Int)) = bz oc := by
      unfold byteArr bz
      rw [List.map_map]
      congr 1
    rw [e]
    exact q h' k t (Grow.same S hk)
theorem in_ok {Q : Value → Shared → Prop} {c x : Value} {xs : List PyData} {d : PyData} {k : Nat} (S : g.StaysIn h) (rc : Rd g c (.list xs)) (rx : Rd g x d) (hxs : ∀ y ∈ xs, sh k y) (hd : sh k d) (hk : k ≤ 64) (hu : A.units + 66 < cLine) (q : Q (.bool (xs.any fun y => PyData.eqv y d)) ⟨h, gn, dr, tk, os⟩) :
    wpAny (model prog ω.w) A (compareOp .In x c) Q E ⟨h, gn, dr, tk, os⟩ := by
  obtain ⟨_, rc⟩ := rc; obtain ⟨_, rx⟩ := rx
  exact in_list_reads (Reads.keeps S rc) (Reads.keeps S rx) (sh_all hxs).1 hd.1 (by have := hd.2; omega) q
theorem coll_none {T : Nat → Value → Heap → Prop} {n : Nat} {ys : List Value} (c : Coll T (fun _ => false) g n ys) : ys = [] := by
  induction c with
  | nil => rfl
  | skip _ _ ih => exact ih
  | snoc _ h _ _ => cases h
theorem last_at {ws : List Value} {oc : List Nat} (h : RdAll g ws ((dueEs oc).map fun e => .int (e : Nat))) (h12 : oc.length = 12) : ∃ t, ws[ws.length - 1]? = some (.int (lastE oc : Nat) t) ∧ 1 ≤ ws.length ∧ ws.length ≤ 13 := by
  have h2 := dueEnds_len oc 0 0 0
  have hl : ws.length = (dueEs oc).length := by rw [h.1, List.length_map]
  have hd : (dueEs oc).length = (dueEnds oc 0 0 0).length + 1 := rfl
  have he : ((dueEs oc).map fun e : Nat => PyData.int (e : Nat))[ws.length - 1]? = some (.int (lastE oc : Nat)) := by
    rw [List.getElem?_map, hl]
    unfold lastE
    rw [List.getLast?_eq_getElem?]
    have : (dueEs oc).length - 1 < (dueEs oc).length := by omega
    rw [List.getElem?_eq_getElem this]; rfl
  obtain ⟨v, hv, rv⟩ := h.get he
  obtain ⟨t, rfl⟩ := rv.int_inv
  exact ⟨t, hv, by omega, by omega⟩
theorem due_ends {v : Value} {oc : List Nat} (r : Rd g v (dueD oc)) : ∃ b us c ws, v = .ref b ∧ g.IsList b (us : List Value).toArray ∧ us.length = 4 ∧ us[1]? = some (.ref c) ∧ g.IsList c (ws : List Value).toArray ∧ RdAll g ws ((dueEs oc).map fun e => .int (e : Nat)) := by
  obtain ⟨b, us, rfl, hb, ru⟩ := r.list_inv
  obtain ⟨u, hu, rd⟩ := ru.get (i := 1) rfl
  obtain ⟨c, ws, rfl, hc, rw'⟩ := rd.list_inv
  exact ⟨b, us, c, ws, rfl, hb, ru.1, hu, hc, rw'⟩
theorem due_trees {v : Value} {oc : List Nat} (p : PL0 g v) (r : Rd g v (dueD oc)) : ∃ b us ta ws, v = .ref b ∧ g.IsList b (us : List Value).toArray ∧ us.length = 4 ∧ us[0]? = some (.ref ta) ∧ g.PlainList ta (ws : List Value).toArray ∧ RdAll g ws (dueTrees (oc.take (lastE oc))) := by
  obtain ⟨b, ta, ws, rest, rfl, hb, hp, rt⟩ := p.trees r
  obtain ⟨b', us, e, hb', ru⟩ := Rd.list_inv r
  cases e
  have := islist_eq hb hb'
  subst this
  exact ⟨b, _, ta, ws, rfl, hb, ru.1, rfl, hp, rt⟩
theorem ite_int {c : Prop} [Decidable c] {a b : Int} {t u : Tok} : (if c then Value.int b u else Value.int a t) = .int (if c then b else a) (if c then u else t) := by split <;> rfl
theorem sum_cast : ∀ so : List Nat, (so.map fun o : Nat => (o : Int)).sum = ((so.sum : Nat) : Int)
  | [] => rfl
  | a :: l => by simp only [List.map_cons, List.sum_cons, sum_cast l]; push_cast; rfl
theorem nat_at {vs : List Value} {l : List Nat} {i : Nat} {v : Value} (x : RdAll g vs (l.map fun k => .int (k : Nat))) (e : vs[i]? = some v) : ∃ k t, l[i]? = some k ∧ v = .int (k : Nat) t := by
  obtain ⟨d, hd, rd⟩ := x.getv e
  rw [List.getElem?_map] at hd
  cases hl : l[i]? with
  | none => rw [hl] at hd; cases hd
  | some k =>
    rw [hl] at hd; cases hd
    obtain ⟨t, rfl⟩ := rd.int_inv
    exact ⟨k, t, rfl, rfl⟩
theorem isTs_of : ∀ {xs : List PyData}, (∀ d ∈ xs, isT d = true) → isTs xs = true
  | [], _ => rfl
  | x :: xs, h => by simp [isTs, h x (.head _), isTs_of fun d hd => h d (.tail _ hd)]
theorem depthAll_le {k : Nat} : ∀ {xs : List PyData}, (∀ d ∈ xs, d.depth ≤ k) → PyData.depthAll xs ≤ k
  | [], _ => Nat.zero_le _
  | x :: xs, h => by
    simp only [PyData.depthAll]
    exact Nat.max_le.mpr ⟨h x (.head _), depthAll_le fun d hd => h d (.tail _ hd)⟩
theorem map_range {α β : Type} (l : List α) (z : α) (f : α → β) : ((List.range l.length).map fun i => f (l.getD i z)) = l.map f := by
  apply List.ext_getElem?
  intro i
  by_cases hi : i < l.length
  · simp [hi]
  · simp [hi, Nat.not_lt.mp hi]
end
end Mine
end

/-! text M7 -/
section
open PySem PySem.W PyProof.Rows PySem.Spec PySem.Calls PySem.SeqAt
set_option Elab.async false
set_option linter.unusedVariables false
set_option linter.unusedSimpArgs false
namespace Mine
theorem dueTrees_T : ∀ oc : List Nat, (∀ d ∈ dueTrees oc, isT d = true ∧ d.depth ≤ oc.length) ∧ (dueTrees oc).length ≤ oc.length
  | [] => ⟨fun d h => (nomatch h), Nat.le_refl _⟩
  | o :: oc => by
    obtain ⟨h1, h2⟩ := dueTrees_T oc
    have e : dueTrees (o :: oc) = dueStep o (dueTrees oc) := rfl
    rw [e]
    refine ⟨fun d hd => ?_, Nat.le_trans (dueStep_len o _) (by simp; omega)⟩
    unfold dueStep at hd
    rcases List.mem_cons.mp hd with rfl | hd
    · refine ⟨isTs_of fun d hd => (h1 d (List.mem_of_mem_take hd)).1, ?_⟩
      show PyData.depthAll _ + 1 ≤ oc.length + 1
      have := depthAll_le (k := oc.length) fun d (hd : d ∈ (dueTrees oc).take o) => (h1 d (List.mem_of_mem_take hd)).2
      omega
    · have := h1 d (List.mem_of_mem_drop hd)
      exact ⟨this.1, by simp; omega⟩
theorem forest_T (s : List Nat) (h : s.length = 12) (k : Nat) : (∀ d ∈ forest s k, isT d = true ∧ d.depth ≤ 12) ∧ (forest s k).length ≤ 12 := by
  obtain ⟨h1, h2⟩ := dueTrees_T ((tp s k).take (lastE (tp s k)))
  have hl : ((tp s k).take (lastE (tp s k))).length ≤ 12 := by simp [tp]; omega
  exact ⟨fun d hd => ⟨(h1 d hd).1, Nat.le_trans (h1 d hd).2 hl⟩, Nat.le_trans h2 hl⟩
theorem dueD_sh {oc : List Nat} (h : oc.length = 12) : sh 16 (dueD oc) := by
  rw [dueD_is]
  obtain ⟨h1, _⟩ := dueTrees_T (oc.take (lastE oc))
  have hl : (oc.take (lastE oc)).length ≤ 12 := by simp; omega
  refine sh.list (k := 15) fun d hd => ?_
  rcases List.mem_cons.mp hd with rfl | hd
  · exact (sh.list (k := 12) fun d hd => ⟨isT_lay d (h1 d hd).1, Nat.le_trans (h1 d hd).2 hl⟩).le (by decide)
  rcases List.mem_cons.mp hd with rfl | hd
  · exact sh.list (k := 14) fun d hd => by
      obtain ⟨i, _, rfl⟩ := List.mem_map.mp hd
      exact sh.int _ _
  rcases List.mem_cons.mp hd with rfl | hd
  · exact sh.int _ _
  rcases List.mem_cons.mp hd with rfl | hd
  · refine sh.tuple (k := 14) fun d hd => ?_
    rcases List.mem_cons.mp hd with rfl | hd
    · exact ⟨by decide +kernel, Nat.zero_le _⟩
    · cases hd
  · cases hd
end Mine
end

/-! text M5 -/
section
open PySem PySem.W PyProof.Rows PySem.Spec PySem.Calls PySem.SeqAt
set_option Elab.async false
set_option linter.unusedVariables false
set_option linter.unusedSimpArgs false
namespace Mine
/-! trees: == is equality -/
mutual
theorem eqT : ∀ x y : PyData, isT x = true → isT y = true → (PyData.eqv x y = true ↔ x = y)
  | .list xs, .list ys, hx, hy => by
    have := eqTs xs ys hx hy
    simp only [PyData.eqv]
    rw [this]
    exact ⟨fun h => by rw [h], fun h => by cases h; rfl⟩
  | .list _, .none, _, h => nomatch h
  | .list _, .bool _, _, h => nomatch h
  | .list _, .int _, _, h => nomatch h
  | .list _, .str _, _, h => nomatch h
  | .list _, .tuple _, _, h => nomatch h
  | .list _, .dict _, _, h => nomatch h
  | .none, _, h, _ => nomatch h
  | .bool _, _, h, _ => nomatch h
  | .int _, _, h, _ => nomatch h
  | .str _, _, h, _ => nomatch h
  | .tuple _, _, h, _ => nomatch h
  | .dict _, _, h, _ => nomatch h
theorem eqTs : ∀ xs ys : List PyData, isTs xs = true → isTs ys = true → (PyData.eqvAll xs ys = true ↔ xs = ys)
  | [], [], _, _ => by simp [PyData.eqvAll]
  | [], _ :: _, _, _ => by simp [PyData.eqvAll]
  | _ :: _, [], _, _ => by simp [PyData.eqvAll]
  | x :: xs, y :: ys, hx, hy => by
    have hx' : isT x = true ∧ isTs xs = true := by simpa [isTs] using hx
    have hy' : isT y = true ∧ isTs ys = true := by simpa [isTs] using hy
    simp only [PyData.eqvAll, Bool.and_eq_true, eqT x y hx'.1 hy'.1, eqTs xs ys hx'.2 hy'.2, List.cons.injEq]
end
theorem eqT_refl {x : PyData} (h : isT x = true) : PyData.eqv x x = true := (eqT x x h h).mpr rfl
noncomputable def AllT (l : List PyData) : Prop := ∀ d ∈ l, isT d = true

/-! bags -/
noncomputable def sel (c : PyData → Nat) (l : List PyData) : List PyData := ((List.range l.length).filter fun p => decide (c (atD l p) < cnt (l.take (p + 1)) (atD l p))).map fun p => atD l p
noncomputable def selR : (PyData → Nat) → List PyData → List PyData
  | _, [] => []
  | c, x :: l => (if c x = 0 then [x] else []) ++ selR (fun y => if PyData.eqv x y then c y - 1 else c y) l
theorem selR_congr : ∀ (l : List PyData) (c c' : PyData → Nat), (∀ y ∈ l, c y = c' y) → selR c l = selR c' l
  | [], _, _, _ => rfl
  | x :: l, c, c', h => by
    simp only [selR]
    rw [h x (.head _), selR_congr l _ (fun y => if PyData.eqv x y then c' y - 1 else c' y) fun y hy => by simp only [h y (.tail _ hy)]]
theorem selR_zero : ∀ l : List PyData, selR (fun _ => 0) l = l
  | [] => rfl
  | x :: l => by
    simp only [selR]
    have : (fun y : PyData => if PyData.eqv x y = true then 0 - 1 else 0) = fun _ => 0 := by funext y; split <;> rfl
    rw [this, selR_zero l]; rfl
theorem cnt_cons (x : PyData) (l : List PyData) (y : PyData) : cnt (x :: l) y = cnt l y + if PyData.eqv x y then 1 else 0 := by unfold cnt; rw [List.countP_cons]
theorem atD_succ (x : PyData) (l : List PyData) (p : Nat) : atD (x :: l) (p + 1) = atD l p := by simp [atD]
theorem cnt_pos {l : List PyData} {y : PyData} (h : y ∈ l) (r : PyData.eqv y y = true) : 1 ≤ cnt l y := by
  unfold cnt
  exact List.countP_pos_iff.mpr ⟨y, h, r⟩
theorem sel_eq : ∀ (l : List PyData) (c : PyData → Nat), AllT l → sel c l = selR c l
  | [], c, _ => rfl
  | x :: l, c, h => by
    have ih := sel_eq l (fun y => if PyData.eqv x y then c y - 1 else c y) fun d hd => h d (.tail _ hd)
    simp only [selR]
    rw [← ih]
    unfold sel
    rw [List.length_cons, List.range_succ_eq_map, List.filter_cons]
    have hx := eqT_refl (h x (.head _))
    have e0 : atD (x :: l) 0 = x := rfl
    have e1 : cnt ((x :: l).take (0 + 1)) x = 1 := by simp [cnt, hx]
    rw [e0, e1]
    have hrest : (List.map (fun p => atD (x :: l) p) (List.filter (fun p => decide (c (atD (x :: l) p) < cnt (List.take (p + 1) (x :: l)) (atD (x :: l) p))) (List.map Nat.succ (List.range l.length)))) =
        List.map (fun p => atD l p) (List.filter (fun p => decide ((if PyData.eqv x (atD l p) = true then c (atD l p) - 1 else c (atD l p)) < cnt (List.take (p + 1) l) (atD l p))) (List.range l.length)) := by
      rw [List.filter_map, List.map_map]
      have : ∀ p ∈ List.range l.length, ((fun p => decide (c (atD (x :: l) p) < cnt (List.take (p + 1) (x :: l)) (atD (x :: l) p))) ∘ Nat.succ) p = decide ((if PyData.eqv x (atD l p) = true then c (atD l p) - 1 else c (atD l p)) < cnt (List.take (p + 1) l) (atD l p)) := fun p hp => by
        have hpl := List.mem_range.mp hp
        show decide (c (atD (x :: l) (p + 1)) < cnt (List.take (p + 1 + 1) (x :: l)) (atD (x :: l) (p + 1))) = _
        rw [atD_succ, List.take_succ_cons, cnt_cons]
        have hm : atD l p ∈ l := List.mem_of_getElem? (atD_get' hpl)
        have hpos : 1 ≤ cnt (l.take (p + 1)) (atD l p) := cnt_pos (List.mem_of_getElem? (i := p) (by rw [List.getElem?_take_of_lt (Nat.lt_succ_self p)]; exact atD_get' hpl)) (eqT_refl (h _ (.tail _ hm)))
        apply decide_eq_decide.mpr
        split <;> omega
      rw [List.filter_congr this]
      rfl
    by_cases hc : c x = 0
    · rw [if_pos (by simp [hc]), if_pos hc, List.map_cons, e0, hrest]; rfl
    · rw [if_neg (by simp; omega), if_neg hc, hrest]; rfl
where
  atD_get' {l : List PyData} {p : Nat} (h : p < l.length) : l[p]? = some (atD l p) := by simp [atD, h]

theorem selR_drop {x : PyData} (hx : isT x = true) (l2 : List PyData) (h2 : AllT l2) : ∀ (l1 : List PyData) (c c0 : PyData → Nat), AllT l1 → (∀ y ∈ l1, PyData.eqv y x = false) → (∀ y, isT y = true → c y = c0 y + if PyData.eqv x y then 1 else 0) → selR c (l1 ++ x :: l2) = selR c0 (l1 ++ l2)
  | [], c, c0, _, _, hc => by
    simp only [List.nil_append, selR]
    rw [if_neg (by rw [hc x hx, if_pos (eqT_refl hx)]; omega), List.nil_append]
    refine selR_congr l2 _ _ fun y hy => ?_
    rw [hc y (h2 y hy)]
    split <;> simp
  | z :: l1, c, c0, h1, hn, hc => by
    have hz := h1 z (.head _)
    have hzx : ¬ z = x := fun e => by have := hn z (.head _); rw [(eqT z x hz hx).mpr e] at this; cases this
    have hxz : PyData.eqv x z = false := by
      cases e : PyData.eqv x z with
      | false => rfl
      | true => exact absurd ((eqT x z hx hz).mp e).symm hzx
    simp only [List.cons_append, selR]
    have h0 : c z = c0 z := by rw [hc z hz, hxz]; simp
    rw [h0, selR_drop hx l2 h2 l1 (fun y => if PyData.eqv z y then c y - 1 else c y) (fun y => if PyData.eqv z y then c0 y - 1 else c0 y) (fun d hd => h1 d (.tail _ hd)) (fun y hy => hn y (.tail _ hy)) fun y hy => ?_]
    by_cases e : PyData.eqv z y = true
    · have : z = y := (eqT z y hz hy).mp e
      subst this
      rw [if_pos e, if_pos e, h0, hxz]; simp
    · rw [if_neg e, if_neg e, hc y hy]

theorem cnt_append (a b : List PyData) (y : PyData) : cnt (a ++ b) y = cnt a y + cnt b y := by unfold cnt; rw [List.countP_append]
theorem cnt_zero {l : List PyData} {y : PyData} (h : ∀ d ∈ l, PyData.eqv d y = false) : cnt l y = 0 := by
  unfold cnt
  exact List.countP_eq_zero.mpr fun d hd => by rw [h d hd]; decide
theorem diffL_is : ∀ (r act mis : List PyData), AllT r → AllT act → diffL r act mis = (mis ++ selR (cnt act) r, selR (cnt r) act)
  | [], act, mis, _, _ => by
    have : cnt ([] : List PyData) = fun _ => 0 := rfl
    simp only [diffL, selR, List.append_nil, this, selR_zero]
  | x :: r, act, mis, hr, ha => by
    have hx := hr x (.head _)
    have hr' : AllT r := fun d hd => hr d (.tail _ hd)
    have sym : ∀ y, isT y = true → PyData.eqv x y = PyData.eqv y x := fun y hy => by
      rw [Bool.eq_iff_iff, eqT x y hx hy, eqT y x hy hx]; exact eq_comm
    simp only [diffL]
    cases hj : act.findIdx? (fun y => PyData.eqv y x) with
    | some j =>
      dsimp only
      obtain ⟨hjl, hjt, hjn⟩ := List.findIdx?_eq_some_iff_getElem.mp hj
      have hz : act[j] = x := (eqT _ _ (ha _ (List.getElem_mem hjl)) hx).mp hjt
      have hsplit : act = act.take j ++ x :: act.drop (j + 1) := by
        conv => lhs; rw [← List.take_append_drop j act, List.drop_eq_getElem_cons hjl, hz]
      have herase : act.eraseIdx j = act.take j ++ act.drop (j + 1) := List.eraseIdx_eq_take_drop_succ ..
      have h1 : AllT (act.take j) := fun d hd => ha d (List.mem_of_mem_take hd)
      have h2 : AllT (act.drop (j + 1)) := fun d hd => ha d (List.mem_of_mem_drop hd)
      have hn1 : ∀ y ∈ act.take j, PyData.eqv y x = false := fun y hy => by
        obtain ⟨i, hi⟩ := List.getElem?_of_mem hy
        have hij : i < j := by have := (List.getElem?_eq_some_iff.mp hi).1; simp at this; omega
        rw [List.getElem?_take_of_lt hij] at hi
        obtain ⟨hil, rfl⟩ := List.getElem?_eq_some_iff.mp hi
        simpa using hjn i hij
      rw [diffL_is r _ mis hr' (by rw [herase]; intro d hd; exact (List.mem_append.mp hd).elim (h1 d) (h2 d)), herase]
      generalize act.take j = l1 at *
      generalize act.drop (j + 1) = l2 at *
      subst hsplit
      have hc : ∀ y, isT y = true → cnt (x :: r) y = cnt r y + if PyData.eqv x y then 1 else 0 := fun y _ => cnt_cons x r y
      rw [selR_drop hx l2 h2 l1 (cnt (x :: r)) (cnt r) h1 hn1 hc]
      simp only [selR]
      have hpos : cnt (l1 ++ x :: l2) x ≠ 0 := by rw [cnt_append, cnt_cons, if_pos (eqT_refl hx)]; omega
      rw [if_neg hpos, List.nil_append]
      have : selR (cnt (l1 ++ l2)) r = selR (fun y => if PyData.eqv x y = true then cnt (l1 ++ x :: l2) y - 1 else cnt (l1 ++ x :: l2) y) r := selR_congr r _ _ fun y hy => by
        rw [cnt_append, cnt_append, cnt_cons]
        split <;> omega
      rw [this]
    | none =>
      dsimp only
      have hjn := List.findIdx?_eq_none_iff.mp hj
      have hnx : ∀ y ∈ act, PyData.eqv y x = false := fun y hy => by simpa using hjn y hy
      rw [diffL_is r act _ hr' ha]
      have h0 : cnt act x = 0 := cnt_zero hnx
      have e2 : selR (cnt (x :: r)) act = selR (cnt r) act := selR_congr act _ _ fun y hy => by
        rw [cnt_cons, sym y (ha y hy), hnx y hy]; simp
      rw [e2]
      simp only [selR]
      rw [if_pos h0]
      have : selR (cnt act) r = selR (fun y => if PyData.eqv x y = true then cnt act y - 1 else cnt act y) r := selR_congr r _ _ fun y hy => by
        split
        · rename_i e
          have := (eqT x y hx (hr' y hy)).mp e
          subst this
          rw [h0]
        · rfl
      rw [← this, List.append_assoc]

theorem cnt_rev (l : List PyData) (y : PyData) : cnt l.reverse y = cnt l y := by unfold cnt; rw [List.countP_reverse]
theorem lackL_is (ds es : List PyData) : lackL ds es = sel (cnt es) ds.reverse := by
  unfold lackL sel
  rw [List.length_reverse]
  have hat : ∀ i ∈ List.range ds.length, atD ds.reverse i = atD ds (ds.length - 1 - i) := fun i hi => by
    have := List.mem_range.mp hi
    unfold atD
    rw [List.getElem?_reverse this]
  have hct : ∀ i ∈ List.range ds.length, ∀ y, cnt (ds.reverse.take (i + 1)) y = cnt (ds.drop (ds.length - 1 - i)) y := fun i hi y => by
    have := List.mem_range.mp hi
    have e : ds.reverse.take (i + 1) = (ds.drop (ds.length - 1 - i)).reverse := by
      rw [List.take_reverse]
      congr 2
      omega
    rw [e, cnt_rev]
  have hf : (List.range ds.length).filter (fun i => decide (cnt es (atD ds (ds.length - 1 - i)) < cnt (ds.drop (ds.length - 1 - i)) (atD ds (ds.length - 1 - i)))) = (List.range ds.length).filter (fun p => decide (cnt es (atD ds.reverse p) < cnt (ds.reverse.take (p + 1)) (atD ds.reverse p))) :=
    List.filter_congr fun i hi => by rw [hct i hi, hat i hi]
  rw [hf]
  exact List.map_congr_left fun i hi => (hat i (List.mem_filter.mp hi).1).symm
theorem P5 {ds es : List PyData} (hd : ∀ d ∈ ds, isT d = true) (he : ∀ d ∈ es, isT d = true) : diffL ds.reverse es [] = (lackL ds es, overL ds es) := by
  have hr : AllT ds.reverse := fun d hm => hd d (List.mem_reverse.mp hm)
  rw [diffL_is ds.reverse es [] hr he, lackL_is, sel_eq _ _ hr, List.nil_append]
  have : overL ds es = sel (cnt ds) es := rfl
  rw [this, sel_eq _ _ he, selR_congr es (cnt ds.reverse) (cnt ds) fun y _ => cnt_rev ds y]
end Mine
end

/-! text M3 -/
section
open PySem PySem.W PyProof.Rows PySem.Spec PySem.Calls PySem.SeqAt
set_option Elab.async false
set_option linter.unusedVariables false
set_option linter.unusedSimpArgs false
namespace Mine
/-! round the ring -/
noncomputable def ringO (s : List Nat) (i : Nat) : Nat := s.getD (i % 12) 0
noncomputable def ringP (s : List Nat) : Nat → Int
  | 0 => 0
  | i + 1 => ringP s i + (ringO s i : Nat) - 1
noncomputable def win (s : List Nat) (i n : Nat) : List Nat := (List.range' i n).map (ringO s)
theorem win_succ (s : List Nat) (i n : Nat) : win s i (n + 1) = ringO s i :: win s (i + 1) n := by simp [win, List.range'_succ]
theorem win_app (s : List Nat) (i a b : Nat) : win s i (a + b) = win s i a ++ win s (i + a) b := by
  unfold win
  rw [← List.map_append, List.range'_append_1]
theorem win_len (s : List Nat) (i n : Nat) : (win s i n).length = n := by simp [win]
theorem ringO_per (s : List Nat) (i : Nat) : ringO s (i + 12) = ringO s i := by simp [ringO]
theorem win_per (s : List Nat) (i n : Nat) : win s (i + 12) n = win s i n := by
  induction n generalizing i with
  | zero => rfl
  | succ n ih =>
    rw [win_succ, win_succ, ringO_per]
    have := ih (i + 1)
    rw [show i + 1 + 12 = i + 12 + 1 by omega] at this
    rw [this]
theorem ring_d (a b c : Int) : a - b + c - 1 = a + c - (b + 1) := by omega
theorem ring_e (a b c : Int) : a + b - 12 + c - 1 = a + c - 1 + b - 12 := by omega
theorem ring_a {k j : Nat} (hk : k ≤ 12) (hs : ¬ j < 12 - k) : 12 ≤ k + j := by omega
theorem ring_b {k j : Nat} (hk : k ≤ 12) (hj : j < 12) : k + j - 12 < 12 := by omega
theorem ring_c {k j : Nat} (hk : k ≤ 12) : k + j - 12 = j - (12 - k) := by omega
theorem win_tp {s : List Nat} (h : s.length = 12) {k : Nat} (hk : k ≤ 12) : tp s k = win s k 12 := by
  apply List.ext_getElem?
  intro j
  by_cases hj : j < 12
  · have e : (win s k 12)[j]? = some (ringO s (k + j)) := by
      unfold win
      rw [List.getElem?_map, List.getElem?_range' hj]; simp
    rw [e]
    unfold tp ringO
    by_cases hs : j < 12 - k
    · rw [List.getElem?_append_left (by simp; omega), List.getElem?_drop]
      have : (k + j) % 12 = k + j := Nat.mod_eq_of_lt (by omega)
      rw [this]
      have hl : k + j < s.length := by omega
      simp [hl]
    · rw [List.getElem?_append_right (by simp; omega), List.length_drop, h, List.getElem?_take_of_lt (by omega)]
      have : (k + j) % 12 = j - (12 - k) := by
        rw [Nat.mod_eq_sub_mod (ring_a hk hs), Nat.mod_eq_of_lt (ring_b hk hj)]
        exact ring_c hk
      rw [this]
      have hl : j - (12 - k) < s.length := by omega
      simp [hl]
  · rw [List.getElem?_eq_none (by rw [tp_len k (by omega)]; omega), List.getElem?_eq_none (by rw [win_len]; omega)]
theorem dueEnds_shift (c : Int) : ∀ (r : List Nat) (p : Nat) (a b : Int), dueEnds r p (a + c) (b + c) = dueEnds r p a b
  | [], _, _, _ => rfl
  | o :: r, p, a, b => by
    simp only [dueEnds]
    have e : a + c + (o : Int) - 1 = a + (o : Int) - 1 + c := by omega
    rw [e, dueEnds_shift c r, dueEnds_shift c r]
    by_cases h : a + (o : Int) - 1 < b
    · rw [if_pos h, if_pos (by omega)]
    · rw [if_neg h, if_neg (by omega)]

section
variable (s : List Nat)
theorem ends_last : ∀ (n i p : Nat) (b : Int), 1 ≤ n → ((dueEnds (win s i n) p (ringP s i) b).getLast? = some (p + n) ↔ ringP s (i + n) < b ∧ ∀ j, 1 ≤ j → j < n → ringP s (i + n) < ringP s (i + j))
  | 0, _, _, _, h => absurd h (by decide)
  | 1, i, p, b, _ => by
    rw [win_succ]
    simp only [dueEnds]
    have e : ringP s i + (ringO s i : Int) - 1 = ringP s (i + 1) := rfl
    rw [e]
    have w0 : win s (i + 1) 0 = [] := rfl
    rw [w0]
    by_cases h : ringP s (i + 1) < b
    · rw [if_pos h]
      simp [dueEnds, h]
      intro j h1 h2; omega
    · rw [if_neg h]
      simp [dueEnds, h]
  | n + 2, i, p, b, _ => by
    rw [win_succ]
    simp only [dueEnds]
    have e : ringP s i + (ringO s i : Int) - 1 = ringP s (i + 1) := rfl
    rw [e]
    have e2 : i + 1 + (n + 1) = i + (n + 2) := by omega
    have e3 : p + 1 + (n + 1) = p + (n + 2) := by omega
    by_cases h : ringP s (i + 1) < b
    · rw [if_pos h]
      have ih := ends_last (n + 1) (i + 1) (p + 1) (ringP s (i + 1)) (by omega)
      rw [e2, e3] at ih
      have hl : ((p + 1) :: dueEnds (win s (i + 1) (n + 1)) (p + 1) (ringP s (i + 1)) (ringP s (i + 1))).getLast? = some (p + (n + 2)) ↔ (dueEnds (win s (i + 1) (n + 1)) (p + 1) (ringP s (i + 1)) (ringP s (i + 1))).getLast? = some (p + (n + 2)) := by
        generalize dueEnds (win s (i + 1) (n + 1)) (p + 1) (ringP s (i + 1)) (ringP s (i + 1)) = l
        cases l with
        | nil => simp
        | cons x l => rw [List.getLast?_cons_cons]
      rw [hl, ih]
      constructor
      · rintro ⟨h1, h2⟩
        refine ⟨by omega, fun j hj1 hj2 => ?_⟩
        by_cases hj : j = 1
        · subst hj; exact h1
        · have := h2 (j - 1) (by omega) (by omega)
          rw [show i + 1 + (j - 1) = i + j by omega] at this
          exact this
      · rintro ⟨h1, h2⟩
        refine ⟨h2 1 (by omega) (by omega), fun j hj1 hj2 => ?_⟩
        have := h2 (j + 1) (by omega) (by omega)
        rw [show i + (j + 1) = i + 1 + j by omega] at this
        exact this
    · rw [if_neg h]
      have ih := ends_last (n + 1) (i + 1) (p + 1) b (by omega)
      rw [e2, e3] at ih
      rw [ih]
      constructor
      · rintro ⟨h1, h2⟩
        refine ⟨h1, fun j hj1 hj2 => ?_⟩
        by_cases hj : j = 1
        · subst hj; omega
        · have := h2 (j - 1) (by omega) (by omega)
          rw [show i + 1 + (j - 1) = i + j by omega] at this
          exact this
      · rintro ⟨h1, h2⟩
        refine ⟨h1, fun j hj1 hj2 => ?_⟩
        have := h2 (j + 1) (by omega) (by omega)
        rw [show i + (j + 1) = i + 1 + j by omega] at this
        exact this
theorem ends_first : ∀ (n i p m : Nat) (b : Int) (l : List Nat), dueEnds (win s i n) p (ringP s i) b = (p + m) :: l → 1 ≤ m → m ≤ n ∧ ringP s (i + m) < b ∧ ∀ j, 1 ≤ j → j < m → b ≤ ringP s (i + j)
  | 0, _, _, _, _, _, h, _ => by cases h
  | n + 1, i, p, m, b, l, h, hm => by
    rw [win_succ] at h
    simp only [dueEnds] at h
    have e : ringP s i + (ringO s i : Int) - 1 = ringP s (i + 1) := rfl
    rw [e] at h
    by_cases hc : ringP s (i + 1) < b
    · rw [if_pos hc] at h
      have : p + 1 = p + m := (List.cons.inj h).1
      have : m = 1 := by omega
      subst this
      exact ⟨by omega, hc, fun j h1 h2 => by omega⟩
    · rw [if_neg hc] at h
      have hm2 : m ≠ 1 := by
        rintro rfl
        have hmem : p + 1 ∈ dueEnds (win s (i + 1) n) (p + 1) (ringP s (i + 1)) b := by rw [h]; exact .head _
        have := dueEnds_gt _ _ _ _ _ hmem
        omega
      have ih := ends_first n (i + 1) (p + 1) (m - 1) b l (by rw [h]; congr 1; omega) (by omega)
      rw [show i + 1 + (m - 1) = i + m by omega] at ih
      refine ⟨by omega, ih.2.1, fun j h1 h2 => ?_⟩
      by_cases hj : j = 1
      · subst hj; omega
      · have := ih.2.2 (j - 1) (by omega) (by omega)
        rw [show i + 1 + (j - 1) = i + j by omega] at this
        exact this
where
  dueEnds_gt : ∀ (r : List Nat) (p : Nat) (a b : Int), ∀ e ∈ dueEnds r p a b, p < e
    | [], _, _, _, e, h => nomatch h
    | o :: r, p, a, b, e, h => by
      simp only [dueEnds] at h
      split at h
      · rcases List.mem_cons.mp h with rfl | h
        · omega
        · have := dueEnds_gt r _ _ _ e h; omega
      · have := dueEnds_gt r _ _ _ e h; omega
noncomputable def Wh (k : Nat) : Prop := ∀ j, j < 12 → ringP s (k + 12) < ringP s (k + j)
end
section
variable {s : List Nat}
theorem lastE_wh (h : s.length = 12) {k : Nat} (hk : k ≤ 12) : lastE (tp s k) = 12 ↔ Wh s k := by
  have e : dueEnds (tp s k) 0 0 0 = dueEnds (win s k 12) 0 (ringP s k) (ringP s k) := by
    have := dueEnds_shift (ringP s k) (win s k 12) 0 0 0
    rw [Int.zero_add] at this
    rw [this, win_tp h hk]
  have hl := ends_last s 12 k 0 (ringP s k) (by decide)
  rw [← e, Nat.zero_add] at hl
  unfold lastE dueEs
  have h2 : ((0 :: dueEnds (tp s k) 0 0 0).getLast?.getD 0 = 12) ↔ (dueEnds (tp s k) 0 0 0).getLast? = some 12 := by
    generalize dueEnds (tp s k) 0 0 0 = l
    cases l with
    | nil => simp
    | cons x l =>
      rw [List.getLast?_cons_cons]
      cases q : (x :: l).getLast? with
      | none => simp at q
      | some y => simp
  rw [h2, hl]
  constructor
  · rintro ⟨h1, h2⟩ j hj
    by_cases h0 : j = 0
    · subst h0; exact h1
    · exact h2 j (by omega) hj
  · intro w
    exact ⟨w 0 (by decide), fun j _ hj => w j hj⟩
theorem ringP_take (h : s.length = 12) : ∀ i, i ≤ 12 → ringP s i = (((s.take i).sum : Nat) : Int) - (i : Nat)
  | 0, _ => rfl
  | i + 1, hi => by
    have hl : i < s.length := by rw [h]; exact hi
    have e : ringP s (i + 1) = ringP s i + (ringO s i : Int) - 1 := rfl
    have eo : ringO s i = s[i] := by
      unfold ringO
      rw [Nat.mod_eq_of_lt (h ▸ hl), List.getD_eq_getElem?_getD, List.getElem?_eq_getElem hl]; rfl
    have es : (s.take (i + 1)).sum = (s.take i).sum + s[i] := by
      rw [List.take_add_one, List.getElem?_eq_getElem hl, List.sum_append]; simp
    rw [e, ringP_take h i (Nat.le_of_lt hi), eo, es]
    push_cast
    exact ring_d _ _ _
theorem ringP_shift (h : s.length = 12) (i : Nat) : ringP s (i + 12) = ringP s i + ((s.sum : Nat) : Int) - 12 := by
  induction i with
  | zero =>
    have := ringP_take h 12 (Nat.le_refl _)
    rw [List.take_of_length_le (Nat.le_of_eq h)] at this
    rw [Nat.zero_add, this]
    show _ = (0 : Int) + _ - 12
    rw [Int.zero_add]; rfl
  | succ i ih =>
    have e : ringP s (i + 1 + 12) = ringP s (i + 12) + (ringO s (i + 12) : Int) - 1 := by rw [Nat.add_right_comm]; rfl
    have e2 : ringP s (i + 1) = ringP s i + (ringO s i : Int) - 1 := rfl
    rw [e, e2, ih, ringO_per]; exact ring_e _ _ _
theorem wh_per (h : s.length = 12) (k : Nat) : Wh s (k + 12) ↔ Wh s k := by
  unfold Wh
  constructor
  · intro w j hj
    have := w j hj
    rw [ringP_shift h (k + 12), show k + 12 + j = k + j + 12 by omega, ringP_shift h (k + j)] at this
    omega
  · intro w j hj
    have := w j hj
    rw [ringP_shift h (k + 12), show k + 12 + j = k + j + 12 by omega, ringP_shift h (k + j)]
    omega

/-! how many -/
theorem low (s : List Nat) (k : Nat) : ∀ n, ∃ M : Int, (∀ j, j ≤ n → M ≤ ringP s (k + j)) ∧ ∃ j, j ≤ n ∧ M = ringP s (k + j)
  | 0 => ⟨ringP s (k + 0), fun j hj => by have : j = 0 := by omega
                                          subst this; exact Int.le_refl _, 0, Nat.le_refl _, rfl⟩
  | n + 1 => by
    obtain ⟨M, h1, j0, hj0, h2⟩ := low s k n
    by_cases h : ringP s (k + (n + 1)) < M
    · refine ⟨ringP s (k + (n + 1)), fun j hj => ?_, n + 1, Nat.le_refl _, rfl⟩
      by_cases hjn : j = n + 1
      · subst hjn; exact Int.le_refl _
      · have := h1 j (by omega); omega
    · refine ⟨M, fun j hj => ?_, j0, by omega, h2⟩
      by_cases hjn : j = n + 1
      · subst hjn; omega
      · exact h1 j (by omega)
theorem low_step (h : s.length = 12) (hd : s.sum < 12) {k : Nat} {M M' : Int} (h1 : ∀ j, j ≤ 11 → M ≤ ringP s (k + j)) (h2 : ∃ j, j ≤ 11 ∧ M = ringP s (k + j)) (h1' : ∀ j, j ≤ 11 → M' ≤ ringP s (k + 1 + j)) (h2' : ∃ j, j ≤ 11 ∧ M' = ringP s (k + 1 + j)) :
    (Wh s k → M' = M - 1) ∧ (¬ Wh s k → M' = M) := by
  obtain ⟨j0, hj0, e0⟩ := h2
  obtain ⟨j1, hj1, e1⟩ := h2'
  have hsh := ringP_shift h k
  have h12 := h1' 11 (by decide)
  rw [show k + 1 + 11 = k + 12 by omega] at h12
  have hstep : ringP s (k + 12) = ringP s (k + 11) + (ringO s (k + 11) : Int) - 1 := rfl
  have h11 := h1 11 (by decide)
  constructor
  · intro w
    have w0 := w j0 (by omega)
    by_cases hj : j1 = 11
    · subst hj
      rw [show k + 1 + 11 = k + 12 by omega] at e1
      omega
    · have := h1 (j1 + 1) (by omega)
      rw [show k + (j1 + 1) = k + 1 + j1 by omega] at this
      omega
  · intro w
    have hge : M ≤ ringP s (k + 12) := by
      apply Classical.byContradiction
      intro hn
      exact w fun j hj => by have := h1 j (by omega); omega
    have hM : M ≤ M' := by
      by_cases hj : j1 = 11
      · subst hj
        rw [show k + 1 + 11 = k + 12 by omega] at e1
        omega
      · have := h1 (j1 + 1) (by omega)
        rw [show k + (j1 + 1) = k + 1 + j1 by omega] at this
        omega
    have hj0' : j0 ≠ 0 := by
      rintro rfl
      rw [Nat.add_zero] at e0
      omega
    have := h1' (j0 - 1) (by omega)
    rw [show k + 1 + (j0 - 1) = k + j0 by omega] at this
    omega
theorem many (h : s.length = 12) (hd : s.sum < 12) : ∀ n, n ≤ 12 → ∀ M M' : Int, (∀ j, j ≤ 11 → M ≤ ringP s (0 + j)) → (∃ j, j ≤ 11 ∧ M = ringP s (0 + j)) → (∀ j, j ≤ 11 → M' ≤ ringP s (n + j)) → (∃ j, j ≤ 11 ∧ M' = ringP s (n + j)) →
    ((((List.range n).filter fun k => lastE (tp s k) == 12).length : Nat) : Int) = M - M'
  | 0, _, M, M', a1, ⟨j0, hj0, e0⟩, b1, ⟨j1, hj1, e1⟩ => by
    have := a1 j1 hj1; have := b1 j0 hj0
    simp
    omega
  | n + 1, hn, M, M', a1, a2, b1, b2 => by
    obtain ⟨M1, c1, c2⟩ := low s n 11
    have ih := many h hd n (by omega) M M1 a1 a2 c1 c2
    have st := low_step h hd c1 c2 b1 b2
    rw [List.range_succ, List.filter_append, List.length_append]
    push_cast
    rw [ih]
    have hw := lastE_wh (s := s) h (k := n) (by omega)
    by_cases w : Wh s n
    · have e := hw.mpr w
      have := st.1 w
      simp [e]; omega
    · have e : ¬ lastE (tp s n) = 12 := fun q => w (hw.mp q)
      have := st.2 w
      simp [e]; omega
theorem P2 (hok : ok2 s) : (wholes s).length = 12 - s.sum := by
  have h := hok.1
  by_cases hd : s.sum < 12
  · obtain ⟨M, a1, a2⟩ := low s 0 11
    obtain ⟨M', b1, b2⟩ := low s 12 11
    have := many h hd 12 (Nat.le_refl _) M M' a1 a2 b1 b2
    have e : M' = M - (12 - (s.sum : Int)) := by
      obtain ⟨j0, hj0, e0⟩ := a2
      obtain ⟨j1, hj1, e1⟩ := b2
      have x := b1 j0 hj0
      have y := a1 j1 hj1
      have s0 := ringP_shift h j0
      have s1 := ringP_shift h j1
      rw [show 12 + j0 = j0 + 12 by omega] at x
      rw [show 12 + j1 = j1 + 12 by omega] at e1
      rw [Nat.zero_add] at e0 y
      omega
    unfold wholes
    omega
  · have : wholes s = [] := by
      unfold wholes
      rw [List.filter_eq_nil_iff]
      intro k hk
      have hk12 := List.mem_range.mp hk
      have hw := lastE_wh (s := s) h (k := k) (by omega)
      intro q
      have w := hw.mp (by simpa using q)
      have w0 := w 0 (by decide)
      rw [ringP_shift h k, Nat.add_zero] at w0
      omega
    rw [this]
    simp; omega
end
end Mine
end

/-! text M4 -/
section
open PySem PySem.W PyProof.Rows PySem.Spec PySem.Calls PySem.SeqAt
set_option Elab.async false
set_option linter.unusedVariables false
set_option linter.unusedSimpArgs false
namespace Mine
/-! the text of a tree -/
mutual
noncomputable def tx : PyData → List Nat
  | .list ts => 98 :: (txs ts ++ [97])
  | _ => []
noncomputable def txs : List PyData → List Nat
  | [] => []
  | t :: ts => tx t ++ txs ts
end
theorem txs_flat : ∀ ts : List PyData, txs ts = (ts.map tx).flatten
  | [] => rfl
  | t :: ts => by simp [txs, txs_flat ts]
theorem lt_cancel (l a b : List Nat) : (l ++ a < l ++ b) ↔ a < b := by
  induction l with
  | nil => rfl
  | cons x l ih =>
    rw [List.cons_append, List.cons_append, List.cons_lt_cons_iff]
    constructor
    · rintro (h | ⟨_, h⟩)
      · exact absurd h (Nat.lt_irrefl _)
      · exact ih.mp h
    · intro h; exact .inr ⟨rfl, ih.mpr h⟩
mutual
theorem ltT : ∀ x y : PyData, isT x = true → isT y = true → x ≠ y → ∀ u v : List Nat, (tx x ++ u < tx y ++ v) ↔ cmpD false x y = true
  | .list xs, .list ys, hx, hy, hne, u, v => by
    have h := ltL xs ys hx hy (fun e => hne (by rw [e])) u v
    simp only [tx, List.cons_append, List.append_assoc, List.nil_append, List.cons_lt_cons_iff, Nat.lt_irrefl, false_or, true_and, cmpD]
    exact h
  | .list _, .none, _, h, _, _, _ => nomatch h
  | .list _, .bool _, _, h, _, _, _ => nomatch h
  | .list _, .int _, _, h, _, _, _ => nomatch h
  | .list _, .str _, _, h, _, _, _ => nomatch h
  | .list _, .tuple _, _, h, _, _, _ => nomatch h
  | .list _, .dict _, _, h, _, _, _ => nomatch h
  | .none, _, h, _, _, _, _ => nomatch h
  | .bool _, _, h, _, _, _, _ => nomatch h
  | .int _, _, h, _, _, _, _ => nomatch h
  | .str _, _, h, _, _, _, _ => nomatch h
  | .tuple _, _, h, _, _, _, _ => nomatch h
  | .dict _, _, h, _, _, _, _ => nomatch h
theorem ltL : ∀ xs ys : List PyData, isTs xs = true → isTs ys = true → xs ≠ ys → ∀ u v : List Nat, (txs xs ++ 97 :: u < txs ys ++ 97 :: v) ↔ cmpL false xs ys = true
  | [], [], _, _, h, _, _ => absurd rfl h
  | [], y :: ys, _, hy, _, u, v => by
    have hy' : isT y = true ∧ isTs ys = true := by simpa [isTs] using hy
    match y, hy'.1 with
    | .list zs, _ =>
      simp [txs, tx, cmpL, sizesD, List.cons_lt_cons_iff]
  | x :: xs, [], hx, _, _, u, v => by
    have hx' : isT x = true ∧ isTs xs = true := by simpa [isTs] using hx
    match x, hx'.1 with
    | .list zs, _ =>
      simp [txs, tx, cmpL, sizesD, List.cons_lt_cons_iff]
  | x :: xs, y :: ys, hx, hy, hne, u, v => by
    have hx' : isT x = true ∧ isTs xs = true := by simpa [isTs] using hx
    have hy' : isT y = true ∧ isTs ys = true := by simpa [isTs] using hy
    simp only [txs, List.append_assoc, cmpL]
    by_cases e : x = y
    · subst e
      rw [lt_cancel, if_pos (eqT_refl hx'.1)]
      exact ltL xs ys hx'.2 hy'.2 (fun q => hne (by rw [q])) u v
    · rw [if_neg (fun q => e ((eqT x y hx'.1 hy'.1).mp q))]
      exact ltT x y hx'.1 hy'.1 e _ _
end
theorem ltE : ∀ xs ys : List PyData, isTs xs = true → isTs ys = true → xs ≠ ys → ((txs xs < txs ys) ↔ cmpL false xs ys = true)
  | [], [], _, _, h => absurd rfl h
  | [], y :: ys, _, hy, _ => by
    have hy' : isT y = true ∧ isTs ys = true := by simpa [isTs] using hy
    match y, hy'.1 with
    | .list zs, _ =>
      simp [txs, tx, cmpL, sizesD]
  | x :: xs, [], hx, _, _ => by
    have hx' : isT x = true ∧ isTs xs = true := by simpa [isTs] using hx
    match x, hx'.1 with
    | .list zs, _ =>
      simp [txs, tx, cmpL, sizesD]
  | x :: xs, y :: ys, hx, hy, hne => by
    have hx' : isT x = true ∧ isTs xs = true := by simpa [isTs] using hx
    have hy' : isT y = true ∧ isTs ys = true := by simpa [isTs] using hy
    simp only [txs, cmpL]
    by_cases e : x = y
    · subst e
      rw [lt_cancel, if_pos (eqT_refl hx'.1)]
      exact ltE xs ys hx'.2 hy'.2 (fun q => hne (by rw [q]))
    · rw [if_neg (fun q => e ((eqT x y hx'.1 hy'.1).mp q))]
      exact ltT x y hx'.1 hy'.1 e _ _
mutual
theorem injT : ∀ x y : PyData, isT x = true → isT y = true → ∀ u v : List Nat, tx x ++ u = tx y ++ v → x = y ∧ u = v
  | .list xs, .list ys, hx, hy, u, v, h => by
    simp only [tx, List.cons_append, List.append_assoc, List.nil_append, List.cons.injEq, true_and] at h
    obtain ⟨e, e2⟩ := injL xs ys hx hy u v h
    exact ⟨by rw [e], e2⟩
  | .list _, .none, _, h, _, _, _ => nomatch h
  | .list _, .bool _, _, h, _, _, _ => nomatch h
  | .list _, .int _, _, h, _, _, _ => nomatch h
  | .list _, .str _, _, h, _, _, _ => nomatch h
  | .list _, .tuple _, _, h, _, _, _ => nomatch h
  | .list _, .dict _, _, h, _, _, _ => nomatch h
  | .none, _, h, _, _, _, _ => nomatch h
  | .bool _, _, h, _, _, _, _ => nomatch h
  | .int _, _, h, _, _, _, _ => nomatch h
  | .str _, _, h, _, _, _, _ => nomatch h
  | .tuple _, _, h, _, _, _, _ => nomatch h
  | .dict _, _, h, _, _, _, _ => nomatch h
theorem injL : ∀ xs ys : List PyData, isTs xs = true → isTs ys = true → ∀ u v : List Nat, txs xs ++ 97 :: u = txs ys ++ 97 :: v → xs = ys ∧ u = v
  | [], [], _, _, u, v, h => by simpa [txs] using h
  | [], y :: ys, _, hy, u, v, h => by
    have hy' : isT y = true ∧ isTs ys = true := by simpa [isTs] using hy
    match y, hy'.1 with
    | .list zs, _ => simp [txs, tx] at h
  | x :: xs, [], hx, _, u, v, h => by
    have hx' : isT x = true ∧ isTs xs = true := by simpa [isTs] using hx
    match x, hx'.1 with
    | .list zs, _ => simp [txs, tx] at h
  | x :: xs, y :: ys, hx, hy, u, v, h => by
    have hx' : isT x = true ∧ isTs xs = true := by simpa [isTs] using hx
    have hy' : isT y = true ∧ isTs ys = true := by simpa [isTs] using hy
    simp only [txs, List.append_assoc] at h
    obtain ⟨e1, h2⟩ := injT x y hx'.1 hy'.1 _ _ h
    obtain ⟨e2, e3⟩ := injL xs ys hx'.2 hy'.2 u v h2
    exact ⟨by rw [e1, e2], e3⟩
end
theorem injE {xs ys : List PyData} (hx : isTs xs = true) (hy : isTs ys = true) (h : txs xs = txs ys) : xs = ys :=
  (injL xs ys hx hy [] [] (by rw [h])).1
mutual
theorem cmpD_flip : ∀ x y : PyData, isT x = true → isT y = true → cmpD true x y = cmpD false y x
  | .list xs, .list ys, hx, hy => by simp only [cmpD]; exact cmpL_flip xs ys hx hy
  | .list _, .none, _, h => nomatch h
  | .list _, .bool _, _, h => nomatch h
  | .list _, .int _, _, h => nomatch h
  | .list _, .str _, _, h => nomatch h
  | .list _, .tuple _, _, h => nomatch h
  | .list _, .dict _, _, h => nomatch h
  | .none, _, h, _ => nomatch h
  | .bool _, _, h, _ => nomatch h
  | .int _, _, h, _ => nomatch h
  | .str _, _, h, _ => nomatch h
  | .tuple _, _, h, _ => nomatch h
  | .dict _, _, h, _ => nomatch h
theorem cmpL_flip : ∀ xs ys : List PyData, isTs xs = true → isTs ys = true → cmpL true xs ys = cmpL false ys xs
  | [], [], _, _ => rfl
  | [], y :: ys, _, _ => by simp [cmpL, sizesD]
  | x :: xs, [], _, _ => by simp [cmpL, sizesD]
  | x :: xs, y :: ys, hx, hy => by
    have hx' : isT x = true ∧ isTs xs = true := by simpa [isTs] using hx
    have hy' : isT y = true ∧ isTs ys = true := by simpa [isTs] using hy
    simp only [cmpL]
    by_cases e : x = y
    · subst e
      rw [if_pos (eqT_refl hx'.1), if_pos (eqT_refl hx'.1)]
      exact cmpL_flip xs ys hx'.2 hy'.2
    · rw [if_neg (fun q => e ((eqT x y hx'.1 hy'.1).mp q)), if_neg (fun q => e ((eqT y x hy'.1 hx'.1).mp q).symm)]
      exact cmpD_flip x y hx'.1 hy'.1
end
theorem cmpL_irr : ∀ xs : List PyData, isTs xs = true → cmpL false xs xs = false
  | [], _ => rfl
  | x :: xs, hx => by
    have hx' : isT x = true ∧ isTs xs = true := by simpa [isTs] using hx
    simp only [cmpL]
    rw [if_pos (eqT_refl hx'.1)]
    exact cmpL_irr xs hx'.2

theorem lt_tri : ∀ a b : List Nat, ¬ a < b → ¬ b < a → a = b
  | [], [], _, _ => rfl
  | [], b :: bs, h, _ => absurd (List.nil_lt_cons b bs) h
  | a :: as, [], _, h => absurd (List.nil_lt_cons a as) h
  | a :: as, b :: bs, h1, h2 => by
    rw [List.cons_lt_cons_iff] at h1 h2
    have e : a = b := by
      apply Classical.byContradiction
      intro hne
      rcases Nat.lt_or_gt_of_ne hne with h | h
      · exact h1 (.inl h)
      · exact h2 (.inl h)
    subst e
    rw [lt_tri as bs (fun q => h1 (.inr ⟨rfl, q⟩)) (fun q => h2 (.inr ⟨rfl, q⟩))]
theorem mark_is {xs ys : List PyData} (hx : isTs xs = true) (hy : isTs ys = true) {a b : Str} (ha : a.cps.toList = txs xs) (hb : b.cps.toList = txs ys) : mark (.list xs) (.list ys) = dueOf a b ∧ mark (.list ys) (.list xs) = - dueOf a b := by
  have eqs : ∀ {a b : Str}, a.cps.toList = b.cps.toList → a = b := fun {a b} h => by
    cases a; cases b; simp only [Str.mk.injEq]; exact Array.toList_inj.mp h
  unfold mark dueOf
  simp only [cmpD]
  rw [cmpL_flip xs ys hx hy, cmpL_flip ys xs hy hx]
  by_cases e : xs = ys
  · subst e
    have : a = b := eqs (ha.trans hb.symm)
    subst this
    rw [cmpL_irr xs hx, if_pos (by simp)]
    exact ⟨rfl, rfl⟩
  · have hne : a ≠ b := fun q => e (injE hx hy (by rw [← ha, ← hb, q]))
    rw [if_neg (by simpa using hne)]
    have l1 := ltE xs ys hx hy e
    have l2 := ltE ys xs hy hx (Ne.symm e)
    by_cases hl : txs xs < txs ys
    · have hn : ¬ txs ys < txs xs := List.lt_asymm hl
      have c1 := l1.mp hl
      have c2 : cmpL false ys xs = false := by
        cases q : cmpL false ys xs with
        | false => rfl
        | true => exact absurd (l2.mpr q) hn
      rw [c1, c2, if_pos (by unfold strLt; rw [ha, hb]; exact decide_eq_true hl)]
      exact ⟨rfl, rfl⟩
    · have hg : txs ys < txs xs := by
        apply Classical.byContradiction
        intro hg
        exact e (injE hx hy (lt_tri _ _ hl hg))
      have c2 := l2.mp hg
      have c1 : cmpL false xs ys = false := by
        cases q : cmpL false xs ys with
        | false => rfl
        | true => exact absurd (l1.mpr q) hl
      rw [c1, c2, if_neg (by unfold strLt; rw [ha, hb, decide_eq_false hl]; decide)]
      exact ⟨rfl, rfl⟩
end Mine
end

/-! text M8 -/
section
open PySem PySem.W PyProof.Rows PySem.Spec PySem.Calls PySem.SeqAt
set_option Elab.async false
set_option linter.unusedVariables false
set_option linter.unusedSimpArgs false
namespace Mine
/-! a whole tape -/
theorem whole_fold : ∀ (n : Nat) (r : List Nat), r.length ≤ n → n ≤ 12 → ∀ (p : Nat) (b : Int), (r = [] ∨ (dueEnds r p b b).getLast? = some (p + r.length)) → ∀ acc, r.foldr dueStep acc = dueTrees r ++ acc
  | n, [], _, _, _, _, _, _ => rfl
  | 0, o :: r, hl, _, _, _, _, _ => by simp at hl
  | n + 1, o :: r, hl, hn, p, b, h, acc => by
    have hlast : (dueEnds (o :: r) p b b).getLast? = some (p + (o :: r).length) := by
      rcases h with h | h
      · cases h
      · exact h
    generalize hq : o :: r = q at *
    cases hp : ptree 13 q with
    | none =>
      rw [none_ptree 13 q hp (by omega) p b b (Int.le_refl _)] at hlast
      cases hlast
    | some x =>
      obtain ⟨t, r'⟩ := x
      obtain ⟨w, W⟩ := word_ptree 13 q t r' hp
      have hlen := ptree_len _ _ _ _ hp
      have lo := W.lo (Nat.le_refl _) p b
      have e1 : b + ((1 : Nat) : Int) - 1 = b := by simp
      rw [e1] at lo
      rw [lo] at hlast
      have hql : q.length = w.length + r'.length := by rw [W.eq, List.length_append]
      have hr' : r' = [] ∨ (dueEnds r' (p + w.length) (b - 1) (b - 1)).getLast? = some (p + w.length + r'.length) := by
        generalize dueEnds r' (p + w.length) (b - 1) (b - 1) = l at *
        cases l with
        | nil =>
          left
          simp at hlast
          apply List.length_eq_zero_iff.mp
          omega
        | cons y l =>
          right
          rw [List.getLast?_cons_cons] at hlast
          rw [hlast, hql]; congr 1; omega
      have ih := whole_fold n r' (by omega) (by omega) _ _ hr'
      have f : ∀ acc, q.foldr dueStep acc = t :: (r'.foldr dueStep acc) := fun acc => by
        rw [W.eq, List.foldr_append, W.fold]; rfl
      rw [f, ih]
      show _ = (q.foldr dueStep []) ++ acc
      rw [f]; rfl

section
variable {s : List Nat}
theorem forest_whole (h : s.length = 12) {k : Nat} (hk : k ∈ wholes s) : k < 12 ∧ Wh s k ∧ forest s k = dueTrees (tp s k) := by
  have hm := List.mem_filter.mp hk
  have hk12 := List.mem_range.mp hm.1
  have he : lastE (tp s k) = 12 := by simpa using hm.2
  refine ⟨hk12, (lastE_wh h (by omega)).mp he, ?_⟩
  unfold forest
  rw [he, List.take_of_length_le (by rw [tp_len k (by omega)]; omega)]
theorem wh_mem (h : s.length = 12) {k : Nat} (hk : k < 12) (w : Wh s k) : k ∈ wholes s := by
  unfold wholes
  rw [List.mem_filter]
  exact ⟨List.mem_range.mpr hk, by simp [(lastE_wh h (by omega)).mpr w]⟩

/-- the first tree of a whole tape -/
theorem first_tree (h : s.length = 12) {q : Nat} (hq : q < 12) (w : Wh s q) : ∃ m t, 1 ≤ m ∧ m ≤ 12 ∧ dueTrees (win s q 12) = t :: dueTrees (win s (q + m) (12 - m)) ∧
    dueTrees (win s (q + m) 12) = dueTrees (win s (q + m) (12 - m)) ++ [t] ∧ Wh s (q + m) ∧ ∀ j, 0 < j → j < m → ¬ Wh s (q + j) := by
  have hl := ends_last s 12 q 0 (ringP s q) (by decide)
  have hlast := hl.mpr ⟨w 0 (by decide), fun j _ hj => w j hj⟩
  rw [Nat.zero_add] at hlast
  cases hp : ptree 13 (win s q 12) with
  | none =>
    rw [none_ptree 13 _ hp (by rw [win_len]; decide) 0 (ringP s q) _ (Int.le_refl _)] at hlast
    cases hlast
  | some x =>
    obtain ⟨t, r'⟩ := x
    obtain ⟨v, W⟩ := word_ptree 13 _ t r' hp
    have lo := W.lo (Nat.le_refl _) 0 (ringP s q)
    have e1 : ringP s q + ((1 : Nat) : Int) - 1 = ringP s q := by simp
    rw [e1] at lo
    have hlen := ptree_len _ _ _ _ hp
    rw [win_len] at hlen
    have hvl : 12 = v.length + r'.length := by have := congrArg List.length W.eq; rw [win_len, List.length_append] at this; exact this
    generalize hm : v.length = m at *
    have hm1 : 1 ≤ m := by omega
    have hm12 : m ≤ 12 := by omega
    have hsp : win s q 12 = win s q m ++ win s (q + m) (12 - m) := by rw [← win_app]; congr 1; omega
    have heq := W.eq
    rw [hsp] at heq
    have hv : v = win s q m := (List.append_inj heq (by rw [win_len, hm])).1.symm
    have hr : r' = win s (q + m) (12 - m) := (List.append_inj heq (by rw [win_len, hm])).2.symm
    obtain ⟨f1, f2, f3⟩ := ends_first s 12 q 0 m (ringP s q) _ lo hm1
    -- the rest is whole
    have hrest : r' = [] ∨ (dueEnds r' (0 + m) (ringP s q - 1) (ringP s q - 1)).getLast? = some (0 + m + r'.length) := by
      rw [lo] at hlast
      generalize dueEnds r' (0 + m) (ringP s q - 1) (ringP s q - 1) = l at *
      cases l with
      | nil =>
        left
        simp at hlast
        apply List.length_eq_zero_iff.mp
        omega
      | cons y l =>
        right
        rw [List.getLast?_cons_cons] at hlast
        rw [hlast]; congr 1; omega
    have hf := whole_fold 12 r' (by omega) (by decide) _ _ hrest
    have hstep : ringP s (q + m) = ringP s q - 1 := by
      have e : q + m = (q + (m - 1)) + 1 := by omega
      have e2 : ringP s (q + m) = ringP s (q + (m - 1)) + (ringO s (q + (m - 1)) : Int) - 1 := by rw [e]; rfl
      by_cases hm0 : m = 1
      · subst hm0
        have e3 : ringP s (q + 1) = ringP s q + (ringO s q : Int) - 1 := rfl
        omega
      · have := f3 (m - 1) (by omega) (by omega)
        omega
    have hge : ∀ j, j < m → ringP s q ≤ ringP s (q + j) := fun j hj => by
      by_cases h0 : j = 0
      · subst h0; exact Int.le_refl _
      · exact f3 j (by omega) hj
    refine ⟨m, t, hm1, hm12, ?_, ?_, fun j hj => ?_, fun j h0 hj wj => ?_⟩
    · show (win s q 12).foldr dueStep [] = _
      rw [W.eq, List.foldr_append, W.fold, hr]; rfl
    · have hsp2 : win s (q + m) 12 = win s (q + m) (12 - m) ++ win s q m := by
        rw [← win_per s q m, show q + 12 = (q + m) + (12 - m) by omega, ← win_app]; congr 1; omega
      show (win s (q + m) 12).foldr dueStep [] = _
      rw [hsp2, List.foldr_append, ← hv, W.fold, ← hr, hf]; rfl
    · have sq := ringP_shift h q
      have sqm := ringP_shift h (q + m)
      by_cases hj2 : j < 12 - m
      · have := w (m + j) (by omega)
        rw [show q + (m + j) = q + m + j by omega] at this
        omega
      · have := hge (j - (12 - m)) (by omega)
        have s3 := ringP_shift h (q + (j - (12 - m)))
        rw [show q + (j - (12 - m)) + 12 = q + m + j by omega] at s3
        omega
    · have := wj (12 - j) (by omega)
      rw [show q + j + (12 - j) = q + 12 by omega] at this
      have s3 := ringP_shift h (q + j)
      have s4 := ringP_shift h q
      have := hge j hj
      omega

theorem wholes_lt (s : List Nat) {i j a b : Nat} (hi : (wholes s)[i]? = some a) (hj : (wholes s)[j]? = some b) : a < b ↔ i < j := by
  have hs : (wholes s).Pairwise (· < ·) := List.Pairwise.filter _ List.pairwise_lt_range
  have hp := List.pairwise_iff_getElem.mp hs
  obtain ⟨hil, rfl⟩ := List.getElem?_eq_some_iff.mp hi
  obtain ⟨hjl, rfl⟩ := List.getElem?_eq_some_iff.mp hj
  constructor
  · intro hlt
    apply Classical.byContradiction
    intro hn
    by_cases e : i = j
    · subst e; exact absurd hlt (Nat.lt_irrefl _)
    · have := hp j i hjl hil (by omega)
      omega
  · intro hlt; exact hp i j hil hjl hlt

theorem P3 (hok : ok2 s) {i k q : Nat} (hi : (wholes s)[i]? = some k) (hq : (wholes s)[prev (wholes s).length i]? = some q) : forest s k = (forest s q).drop 1 ++ (forest s q).take 1 := by
  have h := hok.1
  obtain ⟨hk12, wk, fk⟩ := forest_whole h (List.mem_of_getElem? hi)
  obtain ⟨hq12, wq, fq⟩ := forest_whole h (List.mem_of_getElem? hq)
  obtain ⟨m, t, hm1, hm12, d1, d2, wm, none⟩ := first_tree h hq12 wq
  have key : k = q + m ∨ k + 12 = q + m := by
    have hil := (List.getElem?_eq_some_iff.mp hi).1
    by_cases h0 : i = 0
    · subst h0
      right
      unfold prev at hq
      rw [if_pos rfl] at hq
      by_cases hlt : q + m < 12
      · exfalso
        obtain ⟨j, hj⟩ := List.getElem?_of_mem (wh_mem h hlt wm)
        have hjl := (List.getElem?_eq_some_iff.mp hj).1
        have := (wholes_lt s hq hj).mp (by omega)
        omega
      · have wm' : Wh s (q + m - 12) := by
          have := (wh_per h (q + m - 12)).mp
          rw [show q + m - 12 + 12 = q + m by omega] at this
          exact this wm
        obtain ⟨j, hj⟩ := List.getElem?_of_mem (wh_mem h (by omega) wm')
        have hle : ¬ q + m - 12 < k := fun hlt => by
          have := (wholes_lt s hj hi).mp hlt
          omega
        apply Classical.byContradiction
        intro hne
        have wk2 := (wh_per h k).mpr wk
        have := none (k + 12 - q) (by omega) (by omega)
        rw [show q + (k + 12 - q) = k + 12 by omega] at this
        exact this wk2
    · left
      unfold prev at hq
      rw [if_neg h0] at hq
      have hqk : q < k := (wholes_lt s hq hi).mpr (by omega)
      have hge : ¬ k < q + m := fun hlt => by
        have := none (k - q) (by omega) (by omega)
        rw [show q + (k - q) = k by omega] at this
        exact this wk
      apply Classical.byContradiction
      intro hne
      obtain ⟨j, hj⟩ := List.getElem?_of_mem (wh_mem h (k := q + m) (by omega) wm)
      have a1 := (wholes_lt s hq hj).mp (by omega)
      have a2 := (wholes_lt s hj hi).mp (by omega)
      omega
  have hwk : win s k 12 = win s (q + m) 12 := by
    rcases key with e | e
    · rw [e]
    · rw [← win_per s k 12, e]
  rw [fk, fq, win_tp h (by omega), win_tp h (by omega), hwk, d2, d1]
  rfl
end

/-! texts -/
theorem glue_cps : ∀ (r : List Str) (acc : Array Nat), (r.foldl (fun acc p => acc ++ ("" : Str).cps ++ p.cps) acc).toList = acc.toList ++ (r.map fun x => x.cps.toList).flatten
  | [], acc => by simp
  | x :: r, acc => by
    rw [List.foldl_cons, glue_cps r, Array.toList_append, Array.toList_append]
    have e2 : (("" : Str)).cps.toList = [] := rfl
    rw [e2, List.append_nil, List.append_assoc]
    rfl
theorem cat_cps : ∀ xs : List Str, (cat xs).cps.toList = (xs.map fun x => x.cps.toList).flatten
  | [] => rfl
  | x :: r => glue_cps r x.cps
theorem txts_tx : ∀ oc : List Nat, (txts oc).map (fun x => x.cps.toList) = (dueTrees oc).map tx
  | [] => rfl
  | o :: oc => by
    have ih := txts_tx oc
    have e1 : txts (o :: oc) = txtStep o (txts oc) := rfl
    have e2 : dueTrees (o :: oc) = dueStep o (dueTrees oc) := rfl
    rw [e1, e2]
    unfold txtStep dueStep
    rw [List.map_cons, List.map_cons, List.map_drop, List.map_drop, ih]
    congr 1
    show ((("b" : Str).cps ++ (cat ((txts oc).take o)).cps) ++ ("a" : Str).cps).toList = _
    rw [Array.toList_append, Array.toList_append, cat_cps, List.map_take, ih, tx, txs_flat, List.map_take]
    have eb : ("b" : Str).cps.toList = [98] := rfl
    have ea : ("a" : Str).cps.toList = [97] := rfl
    rw [eb, ea]
    rfl
theorem text_tx (oc : List Nat) : (text oc).cps.toList = txs (dueTrees oc) := by
  unfold text
  rw [cat_cps, txts_tx, txs_flat]
theorem P4 {s : List Nat} (hok : ok2 s) {k q : Nat} (hk : k ∈ wholes s) (hq : q ∈ wholes s) : mark (.list (forest s q)) (.list (forest s k)) = dueOf (text (tp s q)) (text (tp s k)) ∧ mark (.list (forest s k)) (.list (forest s q)) = - dueOf (text (tp s q)) (text (tp s k)) := by
  obtain ⟨_, _, fk⟩ := forest_whole hok.1 hk
  obtain ⟨_, _, fq⟩ := forest_whole hok.1 hq
  have tT : ∀ k, isTs (forest s k) = true := fun k => isTs_of fun d hd => ((forest_T s hok.1 k).1 d hd).1
  exact mark_is (tT q) (tT k) (by rw [text_tx, fq]) (by rw [text_tx, fk])
end Mine
end

/-! text M6 -/
section
open PySem PySem.W PyProof.Rows PySem.Spec PySem.Calls PySem.SeqAt
set_option Elab.async false
set_option linter.unusedVariables false
set_option linter.unusedSimpArgs false
namespace Mine
/-! a mode's row -/
noncomputable def spec (i a s : Nat) : Nat := if s = 0 then (if a = 0 then 45 else 120) else if i = 2 then (if a = 0 then 84 else 116) else (if a = 0 then 83 else 115)
noncomputable def trip (i d s : Nat) : List Nat := [if 3 < d then 114 else 45, if d / 2 % 2 = 1 then 119 else 45, spec i (d % 2) s]
noncomputable def kch (k : Nat) : Nat := [63, 112, 99, 63, 100, 63, 98, 63, 45, 63, 108, 63, 115, 63, 63, 63].getD k 0
noncomputable def rowN (n : Nat) : Str := ⟨(kch (n / 4096 % 16) :: (trip 0 (n / 64 % 8) (n / 2048 % 2) ++ trip 1 (n / 8 % 8) (n / 1024 % 2) ++ trip 2 (n % 8) (n / 512 % 2))).toArray⟩

theorem band (n c : Nat) : Builtin.bitAnd (n : Int) (c : Int) = ((n &&& c : Nat) : Int) := by
  rw [bitAnd_pp (by omega) (by omega)]; simp
theorem and_two_pow' (n i : Nat) : n &&& 2 ^ i = (n.testBit i).toNat * 2 ^ i := by
  apply Nat.eq_of_testBit_eq
  intro j
  rw [Nat.testBit_and, Nat.testBit_two_pow]
  by_cases hj : i = j
  · subst hj
    cases h : n.testBit i with
    | false => simp
    | true => simp [Nat.testBit_two_pow]
  · cases h : n.testBit i with
    | false => simp [hj]
    | true => simp [hj, Nat.testBit_two_pow]
theorem and_bit (n j : Nat) : (Builtin.bitAnd (n : Int) ((2 ^ j : Nat) : Int) == ((2 ^ j : Nat) : Int)) = n.testBit j := by
  rw [band, and_two_pow']
  have := Nat.two_pow_pos j
  generalize 2 ^ j = p at *
  cases n.testBit j with
  | false =>
    simp
    omega
  | true => simp
theorem and_two (n a b c : Nat) (hc : c = 2 ^ a ||| 2 ^ b) (h1 : 2 ^ a ≠ c) (h2 : 2 ^ b ≠ c) (h3 : 0 ≠ c) : (Builtin.bitAnd (n : Int) (c : Int) == (c : Int)) = (n.testBit a && n.testBit b) := by
  rw [band]
  have e : n &&& c = (n.testBit a).toNat * 2 ^ a ||| (n.testBit b).toNat * 2 ^ b := by
    rw [hc, Nat.and_or_distrib_left, and_two_pow', and_two_pow']
  rw [e]
  have key : ∀ x : Nat, (((x : Nat) : Int) == (c : Int)) = decide (x = c) := fun x => by
    by_cases hx : x = c
    · simp [hx]
    · simp [hx]; omega
  rw [key]
  cases n.testBit a <;> cases n.testBit b
  · simp [h3]
  · simp [h2]
  · simp [h1]
  · simp [hc]
theorem and_kind (n : Nat) : n &&& 61440 = n / 4096 % 16 * 4096 := by
  apply Nat.eq_of_testBit_eq
  intro j
  have e1 : (61440 : Nat) = 15 * 2 ^ 12 := rfl
  have e2 : (4096 : Nat) = 2 ^ 12 := rfl
  have e3 : (15 : Nat) = 2 ^ 4 - 1 := rfl
  have e4 : (16 : Nat) = 2 ^ 4 := rfl
  rw [Nat.testBit_and, e1, e2, Nat.testBit_mul_two_pow, Nat.testBit_mul_two_pow, e3, Nat.testBit_two_pow_sub_one, e4, Nat.testBit_mod_two_pow, Nat.testBit_div_two_pow]
  by_cases hj : 12 ≤ j
  · have : 12 + (j - 12) = j := by omega
    simp [hj, this, Bool.and_comm]
  · simp [hj]
theorem fm0 (n : Nat) : fmChar (n : Int) 0 = ⟨#[kch (n / 4096 % 16)]⟩ := by
  unfold fmChar
  have e : (fun p : Int × Str => fmHit 0 (n : Int) p.1) = fun p => (((n / 4096 % 16 * 4096 : Nat) : Int) == p.1) := by
    funext p
    unfold fmHit
    rw [if_pos rfl, show (61440 : Int) = ((61440 : Nat) : Int) from rfl, band, and_kind]
  rw [e]
  have hk : n / 4096 % 16 < 16 := Nat.mod_lt _ (by decide)
  generalize n / 4096 % 16 = k at *
  have all : ∀ k : Fin 16, (match ((fmTab[0]?).getD []).find? (fun p => (((k.val * 4096 : Nat) : Int) == p.1)) with
    | some p => p.2
    | none => if (0 : Nat) = 0 then ("?" : Str) else "-") = ⟨#[kch k.val]⟩ := by decide +kernel
  exact all ⟨k, hk⟩
theorem fm1 (n i j : Nat) (c : Str) (hi : i ≠ 0) (ht : fmTab[i]? = some [(((2 ^ j : Nat) : Int), c)]) : fmChar (n : Int) i = if n.testBit j then c else "-" := by
  unfold fmChar
  rw [ht]
  simp only [Option.getD_some, List.find?, fmHit, if_neg hi, and_bit]
  cases n.testBit j <;> rfl
theorem fm3 (n i a b c : Nat) (x y z : Str) (hi : i ≠ 0) (ht : fmTab[i]? = some [((c : Int), x), (((2 ^ a : Nat) : Int), y), (((2 ^ b : Nat) : Int), z)])
    (hc : c = 2 ^ a ||| 2 ^ b) (h1 : 2 ^ a ≠ c) (h2 : 2 ^ b ≠ c) (h3 : 0 ≠ c) : fmChar (n : Int) i = if n.testBit a then (if n.testBit b then x else y) else if n.testBit b then z else "-" := by
  unfold fmChar
  rw [ht]
  simp only [Option.getD_some, List.find?, fmHit, if_neg hi, and_bit, and_two n a b c hc h1 h2 h3]
  cases n.testBit a <;> cases n.testBit b <;> rfl
theorem q_r (q : Nat) : (q / 4 % 2 = 1) = (3 < q % 8) := by
  have h : q % 8 / 4 = q / 4 % 2 := by rw [show (8 : Nat) = 4 * 2 from rfl, Nat.mod_mul_right_div_self]
  rw [← h]
  have h8 : q % 8 < 8 := Nat.mod_lt _ (by decide)
  generalize q % 8 = a at *
  have all : ∀ a : Fin 8, (a.val / 4 = 1) = (3 < a.val) := by decide
  exact all ⟨a, h8⟩
theorem q_w (q : Nat) : (q / 2 % 2 = 1) = (q % 8 / 2 % 2 = 1) := by
  rw [show (8 : Nat) = 2 * 4 from rfl, Nat.mod_mul_right_div_self, Nat.mod_mod_of_dvd _ (by decide)]
theorem q_x (q : Nat) : (q % 2 = 1) = (q % 8 % 2 = 1) := by rw [Nat.mod_mod_of_dvd _ (by decide)]
theorem q_cut (n a b c : Nat) (h : b ∣ a) : n % (c * a) / c % b = n / c % b := by
  rw [Nat.mod_mul_right_div_self, Nat.mod_mod_of_dvd _ h]
theorem s_if {c : Prop} [Decidable c] (a b : Nat) : (if c then (⟨#[a]⟩ : Str) else ⟨#[b]⟩) = ⟨#[if c then a else b]⟩ := by split <;> rfl
theorem p_r (d : Nat) : (if decide (3 < d) = true then ("r" : Str) else "-") = ⟨#[if 3 < d then 114 else 45]⟩ := by
  by_cases h : 3 < d
  · rw [if_pos (by simp [h]), if_pos h]; rfl
  · rw [if_neg (by simp [h]), if_neg h]; rfl
theorem p_w (d : Nat) : (if decide (d / 2 % 2 = 1) = true then ("w" : Str) else "-") = ⟨#[if d / 2 % 2 = 1 then 119 else 45]⟩ := by
  by_cases h : d / 2 % 2 = 1
  · rw [if_pos (by simp [h]), if_pos h]; rfl
  · rw [if_neg (by simp [h]), if_neg h]; rfl
theorem p_x (i d s : Nat) (hs : s < 2) (hi : i ≠ 2) : (if decide (s = 1) = true then (if decide (d % 2 = 1) = true then ("s" : Str) else "S") else if decide (d % 2 = 1) = true then "x" else "-") = ⟨#[spec i (d % 2) s]⟩ := by
  have h2 : d % 2 < 2 := Nat.mod_lt _ (by decide)
  generalize d % 2 = a at *
  unfold spec
  match s, hs, a, h2 with
  | 0, _, 0, _ => rfl
  | 0, _, 1, _ => rfl
  | 1, _, 0, _ => simp [hi]; rfl
  | 1, _, 1, _ => simp [hi]; rfl
theorem p_t (d s : Nat) (hs : s < 2) : (if decide (s = 1) = true then (if decide (d % 2 = 1) = true then ("t" : Str) else "T") else if decide (d % 2 = 1) = true then "x" else "-") = ⟨#[spec 2 (d % 2) s]⟩ := by
  have h2 : d % 2 < 2 := Nat.mod_lt _ (by decide)
  generalize d % 2 = a at *
  unfold spec
  match s, hs, a, h2 with
  | 0, _, 0, _ => rfl
  | 0, _, 1, _ => rfl
  | 1, _, 0, _ => rfl
  | 1, _, 1, _ => rfl
theorem fmRow_is (n : Nat) : fmRow (n : Int) = rowN n := by
  have e : (List.range 10).map (fmChar (n : Int)) = [fmChar n 0, fmChar n 1, fmChar n 2, fmChar n 3, fmChar n 4, fmChar n 5, fmChar n 6, fmChar n 7, fmChar n 8, fmChar n 9] := rfl
  unfold fmRow
  rw [e, fm0, fm1 n 1 8 "r" (by decide) (by rfl), fm1 n 2 7 "w" (by decide) (by rfl), fm3 n 3 11 6 2112 "s" "S" "x" (by decide) (by rfl) (by decide) (by decide) (by decide) (by decide),
    fm1 n 4 5 "r" (by decide) (by rfl), fm1 n 5 4 "w" (by decide) (by rfl), fm3 n 6 10 3 1032 "s" "S" "x" (by decide) (by rfl) (by decide) (by decide) (by decide) (by decide),
    fm1 n 7 2 "r" (by decide) (by rfl), fm1 n 8 1 "w" (by decide) (by rfl), fm3 n 9 9 0 513 "t" "T" "x" (by decide) (by rfl) (by decide) (by decide) (by decide) (by decide)]
  simp only [Nat.testBit_eq_decide_div_mod_eq]
  unfold rowN
  have d8 : n / 2 ^ 8 = n / 64 / 4 := (Nat.div_div_eq_div_mul n 64 4).symm
  have d7 : n / 2 ^ 7 = n / 64 / 2 := (Nat.div_div_eq_div_mul n 64 2).symm
  have d5 : n / 2 ^ 5 = n / 8 / 4 := (Nat.div_div_eq_div_mul n 8 4).symm
  have d4 : n / 2 ^ 4 = n / 8 / 2 := (Nat.div_div_eq_div_mul n 8 2).symm
  have r0 : (n / 2 ^ 8 % 2 = 1) = (3 < n / 64 % 8) := by rw [d8]; exact q_r _
  have r1 : (n / 2 ^ 7 % 2 = 1) = (n / 64 % 8 / 2 % 2 = 1) := by rw [d7]; exact q_w _
  have r2 : (n / 2 ^ 6 % 2 = 1) = (n / 64 % 8 % 2 = 1) := q_x (n / 64)
  have r3 : (n / 2 ^ 5 % 2 = 1) = (3 < n / 8 % 8) := by rw [d5]; exact q_r _
  have r4 : (n / 2 ^ 4 % 2 = 1) = (n / 8 % 8 / 2 % 2 = 1) := by rw [d4]; exact q_w _
  have r5 : (n / 2 ^ 3 % 2 = 1) = (n / 8 % 8 % 2 = 1) := q_x (n / 8)
  have r6 : (n / 2 ^ 2 % 2 = 1) = (3 < n % 8) := q_r n
  have r7 : (n / 2 ^ 1 % 2 = 1) = (n % 8 / 2 % 2 = 1) := q_w n
  have r8 : (n / 2 ^ 0 % 2 = 1) = (n % 8 % 2 = 1) := by rw [Nat.pow_zero, Nat.div_one]; exact q_x n
  have s0 : n / 2 ^ 11 % 2 = n / 2048 % 2 := rfl
  have s1 : n / 2 ^ 10 % 2 = n / 1024 % 2 := rfl
  have s2 : n / 2 ^ 9 % 2 = n / 512 % 2 := rfl
  simp only [r0, r1, r2, r3, r4, r5, r6, r7, r8, s0, s1, s2]
  have hs0 : n / 2048 % 2 < 2 := Nat.mod_lt _ (by decide)
  have hs1 : n / 1024 % 2 < 2 := Nat.mod_lt _ (by decide)
  have hs2 : n / 512 % 2 < 2 := Nat.mod_lt _ (by decide)
  rw [p_r, p_r, p_r, p_w, p_w, p_w, p_x 0 _ _ hs0 (by decide), p_x 1 _ _ hs1 (by decide), p_t _ _ hs2]
  rfl
noncomputable def tripS (i d s : Nat) : Str := ((if decide (3 < (d : Int)) then ("r" : Str) else ("-" : Str)) ++ (if (((d : Int).fdiv 2).fmod 2 == 1) then ("w" : Str) else ("-" : Str))) ++ Txt.item (let4 i) ((d : Int).fmod 2 + 2 * (s : Int))
theorem tripS_is : ∀ (i : Fin 3) (d : Fin 8) (s : Fin 2), tripS i.val d.val s.val = ⟨(trip i.val d.val s.val).toArray⟩ := by decide +kernel
theorem str_assoc (a b c : Str) : (a ++ b) ++ c = a ++ (b ++ c) := by
  show (⟨(a.cps ++ b.cps) ++ c.cps⟩ : Str) = ⟨a.cps ++ (b.cps ++ c.cps)⟩
  rw [Array.append_assoc]
theorem rowStep_is {r : Int} {i d s : Nat} (hi : i < 3) (hd : d < 8) (hs : s < 2) (e1 : dgt r i = (d : Int)) (e2 : (r.fdiv (sg i)).fmod 2 = (s : Int)) (acc : Str) : rowStep r i acc = acc ++ ⟨(trip i d s).toArray⟩ := by
  have := tripS_is ⟨i, hi⟩ ⟨d, hd⟩ ⟨s, hs⟩
  dsimp only at this
  rw [← this]
  unfold rowStep tripS lst
  rw [e1, e2, str_assoc, str_assoc, str_assoc]
theorem fdm {n : Nat} (a b : Nat) : ((n : Int).fdiv (a : Int)).fmod (b : Int) = ((n / a % b : Nat) : Int) := by
  rw [Int.fdiv_eq_ediv_of_nonneg _ (by omega), Int.fmod_eq_emod_of_nonneg _ (by omega)]
  norm_cast
theorem dgt_is (n : Nat) : dgt (n : Int) 0 = ((n / 64 % 8 : Nat) : Int) ∧ dgt (n : Int) 1 = ((n / 8 % 8 : Nat) : Int) ∧ dgt (n : Int) 2 = ((n % 8 : Nat) : Int) := by
  refine ⟨fdm 64 8, fdm 8 8, ?_⟩
  have := fdm (n := n) 1 8
  rw [Nat.div_one] at this
  exact this
theorem lrow_is (n : Nat) : lrow (((n : Int).fdiv 4096).fmod 16) ((n : Int).fmod 4096) = rowN n := by
  have e0 : ((n : Int).fdiv 4096).fmod 16 = ((n / 4096 % 16 : Nat) : Int) := fdm 4096 16
  have e1 : (n : Int).fmod 4096 = ((n % 4096 : Nat) : Int) := by
    have := fdm (n := n) 1 4096
    rw [Nat.div_one] at this
    rw [← this]
    simp
  rw [e0, e1]
  obtain ⟨d0, d1, d2⟩ := dgt_is (n % 4096)
  have f0 : n % 4096 / 64 % 8 = n / 64 % 8 := by
    have := q_cut n 64 8 64 (by decide)
    exact this
  have f1 : n % 4096 / 8 % 8 = n / 8 % 8 := q_cut n 512 8 8 (by decide)
  have f2 : n % 4096 % 8 = n % 8 := Nat.mod_mod_of_dvd _ (by decide)
  have g0 : n % 4096 / 2048 % 2 = n / 2048 % 2 := by
    rw [show (4096 : Nat) = 2048 * 2 from rfl, Nat.mod_mul_right_div_self, Nat.mod_mod]
  have g1 : n % 4096 / 1024 % 2 = n / 1024 % 2 := by
    rw [show (4096 : Nat) = 1024 * 4 from rfl, Nat.mod_mul_right_div_self, Nat.mod_mod_of_dvd _ (by decide)]
  have g2 : n % 4096 / 512 % 2 = n / 512 % 2 := by
    rw [show (4096 : Nat) = 512 * 8 from rfl, Nat.mod_mul_right_div_self, Nat.mod_mod_of_dvd _ (by decide)]
  rw [f0] at d0; rw [f1] at d1; rw [f2] at d2
  have s0 : (((n % 4096 : Nat) : Int).fdiv (sg 0)).fmod 2 = ((n / 2048 % 2 : Nat) : Int) := by rw [← g0]; exact fdm 2048 2
  have s1 : (((n % 4096 : Nat) : Int).fdiv (sg 1)).fmod 2 = ((n / 1024 % 2 : Nat) : Int) := by rw [← g1]; exact fdm 1024 2
  have s2 : (((n % 4096 : Nat) : Int).fdiv (sg 2)).fmod 2 = ((n / 512 % 2 : Nat) : Int) := by rw [← g2]; exact fdm 512 2
  unfold lrow rowTo
  rw [rowStep_is (by decide) (Nat.mod_lt _ (by decide)) (Nat.mod_lt _ (by decide)) d2 s2]
  unfold rowTo
  rw [rowStep_is (by decide) (Nat.mod_lt _ (by decide)) (Nat.mod_lt _ (by decide)) d1 s1]
  unfold rowTo
  rw [rowStep_is (by decide) (Nat.mod_lt _ (by decide)) (Nat.mod_lt _ (by decide)) d0 s0]
  unfold rowTo
  have hk : n / 4096 % 16 < 16 := Nat.mod_lt _ (by decide)
  unfold rowN
  generalize n / 4096 % 16 = k at *
  have all : ∀ k : Fin 16, Txt.item "?pc?d?b?-?l?s???" (k.val : Int) = ⟨#[kch k.val]⟩ := by decide +kernel
  rw [all ⟨k, hk⟩]
  rfl
theorem P6 {m : Int} (h0 : 0 ≤ m) (h1 : m < 4294967296) : fmRow m = lrow ((m.fdiv 4096).fmod 16) (m.fmod 4096) := by
  obtain ⟨n, rfl⟩ := Int.eq_ofNat_of_zero_le h0
  rw [fmRow_is, lrow_is]
theorem fmRow_len {m : Int} (h0 : 0 ≤ m) (h1 : m < 4294967296) : (fmRow m).length = 10 := by
  obtain ⟨n, rfl⟩ := Int.eq_ofNat_of_zero_le h0
  rw [fmRow_is]; rfl
theorem son_is : ∀ (i : Fin 3) (d : Fin 8) (s : Fin 2), (if ((⟨#[if d.val / 2 % 2 = 1 then 119 else 45]⟩ : Str) == ("w" : Str)) then (1 : Int) else 0) + (if Txt.contains "xst" ⟨#[spec i.val (d.val % 2) s.val]⟩ then 1 else 0) = ((d.val : Int).fdiv 2).fmod 2 + (d.val : Int).fmod 2 := by decide +kernel
theorem sonAt_is (n i d s : Nat) (hi : i < 3) (hd : d < 8) (hs : s < 2) (e1 : Txt.item (rowN n) (2 + 3 * (i : Nat)) = ⟨#[if d / 2 % 2 = 1 then 119 else 45]⟩) (e2 : Txt.item (rowN n) (3 + 3 * (i : Nat)) = ⟨#[spec i (d % 2) s]⟩) (e3 : dgt (n : Int) i = (d : Int)) :
    sonAt (rowN n) i = ((dgt (n : Int) i).fdiv 2).fmod 2 + (dgt (n : Int) i).fmod 2 := by
  unfold sonAt
  rw [e1, e2, e3]
  exact son_is ⟨i, hi⟩ ⟨d, hd⟩ ⟨s, hs⟩
theorem sons_row (n : Nat) : (List.range 3).map (sonAt (rowN n)) = ((List.range 3).map (dgt (n : Int))).map fun f => (f.fdiv 2).fmod 2 + f.fmod 2 := by
  obtain ⟨d0, d1, d2⟩ := dgt_is n
  have h0 := sonAt_is n 0 _ (n / 2048 % 2) (by decide) (Nat.mod_lt _ (by decide)) (Nat.mod_lt _ (by decide)) rfl rfl d0
  have h1 := sonAt_is n 1 _ (n / 1024 % 2) (by decide) (Nat.mod_lt _ (by decide)) (Nat.mod_lt _ (by decide)) rfl rfl d1
  have h2 := sonAt_is n 2 _ (n / 512 % 2) (by decide) (Nat.mod_lt _ (by decide)) (Nat.mod_lt _ (by decide)) rfl rfl d2
  show [sonAt (rowN n) 0, sonAt (rowN n) 1, sonAt (rowN n) 2] = _
  rw [h0, h1, h2]
  rfl
theorem P6s : ∀ {ms : List Int}, (∀ m ∈ ms, 0 ≤ m ∧ m < 4294967296) → sonsL (ms.map fmRow) = sonsDue ms
  | [], _ => rfl
  | m :: ms, h => by
    have ih := P6s fun x hx => h x (.tail _ hx)
    obtain ⟨n, rfl⟩ := Int.eq_ofNat_of_zero_le (h m (.head _)).1
    unfold sonsL sonsDue figs at ih ⊢
    rw [List.map_cons, List.flatMap_cons, List.flatMap_cons, List.map_append, fmRow_is, sons_row, ih]
theorem sonsDue_in {ms : List Int} : ∀ x ∈ sonsDue ms, 0 ≤ x ∧ x ≤ 2 := by
  intro x hx
  obtain ⟨f, _, rfl⟩ := List.mem_map.mp hx
  have := fm2 (f.fdiv 2)
  have := fm2 f
  omega
theorem fmRow_ok {m : Int} (h0 : 0 ≤ m) : (PyData.str (fmRow m)).canLay0 = true := by
  obtain ⟨n, rfl⟩ := Int.eq_ofNat_of_zero_le h0
  rw [fmRow_is]
  have hk : ∀ k : Fin 16, kch k.val < 0x110000 := by decide +kernel
  have hs : ∀ i a s, spec i a s < 0x110000 := fun i a s => by unfold spec; split <;> split <;> (try split) <;> decide
  have h1 := hk ⟨n / 4096 % 16, Nat.mod_lt _ (by decide)⟩
  have hr : ∀ d, (if 3 < d then 114 else 45) < 0x110000 := fun d => by split <;> decide
  have hw : ∀ d : Nat, (if d / 2 % 2 = 1 then 119 else 45) < 0x110000 := fun d => by split <;> decide
  simp only [PyData.canLay0, PyData.strOk, rowN, trip, List.cons_append, List.nil_append]
  simp [h1, hs, hr, hw]
end Mine
end

/-! text Law -/
section
open PySem PySem.W PyProof.Rows PySem.Spec PySem.Calls PySem.SeqAt
set_option Elab.async false
set_option maxRecDepth 100000
set_option maxHeartbeats 4000000
set_option linter.unusedVariables false
set_option linter.unusedSimpArgs false
namespace Mine
noncomputable def stt (i : Nat) : Int := match i with | 0 => 33256 | 1 => 16888 | 2 => 33188 | _ => 35592
noncomputable def modeAt (ns : List Int) (i : Nat) : Int := (stt i + (pickNums ns (some (i : Int)) none (some 4)).sum).fmod 4294967296
theorem modeAt_in (ns : List Int) (i : Nat) : 0 ≤ modeAt ns i ∧ modeAt ns i < 4294967296 := ⟨Int.fmod_nonneg_of_pos _ (by decide), Int.fmod_lt_of_pos _ (by decide)⟩
theorem get4 {ta tb tc td : Tok} {i : Nat} (hi : i < 4) : ∃ t, ([.int 33256 ta, .int 16888 tb, .int 33188 tc, .int 35592 td] : List Value)[i]? = some (.int (stt i) t) := by
  match i, hi with
  | 0, _ => exact ⟨_, rfl⟩
  | 1, _ => exact ⟨_, rfl⟩
  | 2, _ => exact ⟨_, rfl⟩
  | 3, _ => exact ⟨_, rfl⟩
noncomputable def modes (ns : List Int) : List Int := (List.range 4).map (modeAt ns)
theorem modes_at {ns : List Int} {i : Nat} {n : Int} (h : (modes ns)[i]? = some n) : n = modeAt ns i := by
  unfold modes at h
  rw [List.getElem?_map] at h
  cases e : (List.range 4)[i]? with
  | none => rw [e] at h; cases h
  | some j =>
    rw [e] at h
    have := List.getElem?_eq_some_iff.mp e
    obtain ⟨hi, hj⟩ := this
    rw [List.getElem_range] at hj
    subst hj; simpa using h.symm
section
variable {prog : Program} {ω : Ws} {A : Around} {E : Value → Shared → Prop} {g h : Heap} {gn : Array GenState} {dr : Drawn} {tk : Nat} {os : OsState} {vm : Str → Option Value}
theorem vmF_at {vm : Str → Option Value} {cl : List (Str × Addr)} {y : Str} {c : Addr} {w : Option Value} (hl : cl.lookup y = some c) (e : vm y = w) : vmF vm cl y = w := by unfold vmF; rw [hl]; exact e
theorem Tb.grow {X : Addr → Prop} {g' h' : Heap} (T : Tb g h) (G : GrowX X g h g' h') (n : ¬ X 105) : Tb g' h' := by
  refine ⟨?_, T.2.imp (fun e => G.hh _ _ n e) fun ⟨c, e, r⟩ => ⟨c, G.hh _ _ n e, r.keeps G.gg⟩⟩
  rcases T.2 with e | ⟨c, e, _⟩ <;> exact G.off T.1 e

theorem law_walk {oc : Value} {od : Option Addr} {name qual : Str} {params : Arguments} {body : List Stmt} {scope : Scope} {dV kV doc pm cdv ct : Value} {an : Option Addr} {osl : Array (Option Value)} {nm : Str} {L f : Addr} {cd : Value}
    (hk : (KF ω.w).lookup 172 = some ⟨oc, od, .func (fnX name qual params body scope [] dV kV doc pm an cdv ct), osl⟩)
    {Q : Flow → Shared → Prop} {sl : Addr} {vs : List Value} {ns : List Int} (hv : vm "script" = some (.ref sl)) (hs : g.IsList sl vs.toArray) (hns : IntsAre vs ns) (hlen : ns.length ≤ 63) (R : Rm A 80) {fs : List Env} :
    let env := envF nm scope L f cd; Fm ω g env vm h → fs = [env] → A.frames = some fs → Tb g h → ¬ Own env 105 → (∀ g' h' tk', g.StaysIn h' → Tb g' h' → Q (.ret (.bool true)) ⟨h', gn, dr, tk', os⟩) →
    wpAny (model prog ω.w) A (execs body env) Q E ⟨h, gn, dr, tk, os⟩ := by
  have hk2 : (KF ω.w).lookup 172 = some ⟨_, _, .func (fnX _ _ _ _ _ [] _ _ _ _ _ _ _), _⟩ := rfl
  rw [hk2] at hk
  injection hk with hk
  injection hk with _ _ hk _
  injection hk with hk
  injection hk with _ _ _ hb hsc
  injection hb with hb
  subst hb hsc
  intro env F hfs hfr T n105 q
  have hvl : vs.length = ns.length := hns.length
  refine wpAny_execs_cons ?_
  refine wpAny_Assign_Name ?_
  refine Tuple_ ?_
  refine spliced_more ?_
  refine c_int ?_; intro ta _
  refine spliced_more ?_
  refine c_int ?_; intro tb _
  refine spliced_more ?_
  refine c_int ?_; intro tc _
  refine spliced_more ?_
  refine c_int ?_; intro td _
  refine spliced_none ?_
  refine n_tuple F.sub ?_ (by simp) (by simp)
  intro D1 g₁ h₁ G₁ hD1 nD1
  have F₁ := F.grow0 G₁
  refine F₁.stCV ?_
  intro h₂ _ F₂ fo₂
  have GA₂ := (GrowX.ownK G₁).trans (st_grow (K := No) F₁.sub F₂ fo₂)
  -- modes
  refine wpAny_execs_cons ?_
  refine Assign_ListComp rfl ?_
  refine Call_ ?_
  refine F₂.ldB ?_ boot_range
  refine PyProof.Rows.callWith_type1 ?_
  refine spliced_more ?_
  refine c_intD ?_
  refine spliced_none ?_
  refine r_range1 F₂.sub ?_
  intro r3 g₃ h₃ tk₃ t31 t32 t33 G₃ hr3
  have F₃ := F₂.grow0 G₃
  have GA₃ := GA₂.trans (G₃.ownK)
  refine comp_st (It.range1 (n := 4) R.hd hr3 (by decide)) F₃ No JT (fun i y g => Rd g y (.int (modeAt ns i))) (fun _ => true) (by decide) (fun _ _ _ _ k r => r.mono k) noK (fun _ _ _ _ _ _ _ _ => trivial) trivial ?_ ?_ ?_
  · rintro i v C g' h' tk' E' hi ⟨ti, rfl⟩ _ G' hC cenv cvm FC F'
    have sg : g.StaysIn g' := staysIn_trans GA₃.gg G'.gg
    refine compTurn_nilV FC.sub fun Qe Ee qe => ?_
    refine wpAny_BinOp ?_
    refine wpAny_BinOp ?_
    refine Subscript_ ?_
    refine FC.ldC rfl ?_
    refine FC.ldL rfl ?_
    obtain ⟨ts, hts⟩ := get4 (ta := ta) (tb := tb) (tc := tc) (td := td) hi
    refine s_tuple (hD1.at fun o e => FC.sub _ _ (G'.gg _ _ (G₃.gg _ _ e))) (Int.natCast_nonneg _) (by simpa using hts) ?_ (by with_unfolding_all rfl) (by simp)
    refine Call_ ?_
    refine FC.ldB ?_ b_sum
    refine PyProof.Rows.callWith_builtin1 ?_
    refine spliced_more ?_
    refine Subscript_ ?_
    refine FC.ldC (upd_ne (vmF_at rfl (upd_ne hv))) ?_
    refine wpAny_Slice ?_
    refine wpAny_evalPart_some ?_
    refine FC.ldL rfl ?_
    refine wpAny_evalPart_none ?_
    refine wpAny_evalPart_some ?_
    refine c_intD ?_
    refine sl_list (ops := [_, _]) (zs := (slicePick vs.toArray (some (i : Int)) none (some 4)).toList) FC.sub (hs.at fun o e => FC.sub _ _ (sg _ _ e)) (.int _ _) .none (.int _ _) (by simp) (by simp) (leK (hvl ▸ hlen)) ?_ (by with_unfolding_all rfl)
    intro D2 g2 h2 G2 hD2 nD2
    have FC2 := FC.grow0 G2
    refine spliced_none ?_
    refine sum_ok FC2.sub R.hd (hD2.at fun o e => FC2.sub _ _ e) (hns.pick _ _ _) ?_
    intro h3 tk3 t3 G3
    refine b_addD ?_
    refine c_intD ?_
    refine b_modD (by decide) ?_
    exact qe g2 h3 _ _ (G2.trans G3) (trivial) (.int _ _)
  · intro Dm ym g₄ h₄ tk₄ G₄ _ nDm hDm ccm F₄
    have GA₄ := GA₃.trans G₄
    have rm : RdAll g₄ ym (intD (modes ns)) := by have := ccm.rdAll; unfold modes intD; rw [List.map_map]; exact this
    have hml : ym.length = 4 := by have := rm.1; simpa [intD, modes] using this
    -- rows
    refine wpAny_execs_cons ?_
    refine Assign_ListComp rfl ?_
    refine F₄.ldL rfl ?_
    refine comp_st (It.list R.hd hDm) F₄ No JT (fun i y g => Rd g y (.str (fmRow (modeAt ns i)))) (fun _ => true) (leE hml) (fun _ _ _ _ k r => r.mono k) noK (fun _ _ _ _ _ _ _ _ => trivial) trivial ?_ ?_ ?_
    · rintro i v C g' h' tk' E' hi hv' _ G' hC cenv cvm FC F'
      obtain ⟨n, t, hn, rfl⟩ := int_at rm (by simpa using hv')
      obtain rfl := modes_at hn
      refine compTurn_nilV FC.sub fun Qe Ee qe => ?_
      refine Call_ ?_
      refine FC.ldG (v := .ref 89) ?_
      refine callWith_K FC.kin rfl ?_
      refine spliced_more ?_
      refine FC.ldL rfl ?_
      refine spliced_none ?_
      refine ⟨FC.kin, ?_⟩
      refine filemode_ok FC.wd FC.sub (R.le (by decide)) ?_
      intro h3 tk3 t3 G3
      exact qe g' h3 _ _ (G3) (trivial) (.str _ _)
    · intro Dr yr g₅ h₅ tk₅ G₅ _ nDr hDr ccr F₅
      have GA₅ := GA₄.trans G₅
      have rr : RdAll g₅ yr (((modes ns).map fmRow).map .str) := by
        have := ccr.rdAll
        rw [List.size_toArray, hml] at this
        unfold modes; rw [List.map_map, List.map_map]; exact this
      have hin : ∀ m ∈ modes ns, 0 ≤ m ∧ m < 4294967296 := fun m hm => by
        obtain ⟨i, hi⟩ := List.getElem?_of_mem hm
        rw [modes_at hi]; exact modeAt_in ns i
      have hm4 : (modes ns).length = 4 := by simp [modes]
      generalize modes ns = ms at *
      have u64 : A.units + 64 < cLine := R.units (by decide)
      refine wpAny_execs_cons ?_
      refine wpAny_Assign_Name ?_
      refine Call_ ?_
      refine F₅.ldG (v := .ref 124) ?_
      refine callWith_K F₅.kin rfl ?_
      refine spliced_more ?_
      refine F₅.ldL rfl ?_
      refine spliced_none ?_
      refine ⟨F₅.kin, ?_⟩
      refine sons_ok F₅.wd F₅.sub (R.le (by decide)) (rows := ms.map fmRow) (.list hDr rr) (fun x hx => ?_) (by rw [List.length_map, hm4]; decide) ?_
      · obtain ⟨m, hm, rfl⟩ := List.mem_map.mp hx
        exact fmRow_len (hin m hm).1 (hin m hm).2
      intro uS g₆ h₆ tk₆ G₆ rS
      have F₆ := F₅.grow0 G₆
      rw [P6s hin] at rS
      refine F₆.stCV ?_
      intro h₇ _ F₇ fo₇
      have GA₇ := (GA₅.trans (G₆.ownK)).trans (st_grow F₆.sub F₇ fo₇)
      have hsl : (sonsDue ms).length = 12 := by unfold sonsDue; rw [List.length_map, figs_len, hm4]
      have hsin : ∀ x ∈ sonsDue ms, 0 ≤ x ∧ x ≤ 2 := sonsDue_in
      have shI : ∀ {l : List Int} {k : Nat}, sh (k + 1) (.list (intD l)) := fun {l k} => sh.list fun d hd => by
        obtain ⟨i, _, rfl⟩ := List.mem_map.mp hd
        exact sh.int _ _
      have shS : ∀ {k : Nat}, sh (k + 1) (.list ((ms.map fmRow).map .str)) := fun {k} => sh.list fun d hd => by
        obtain ⟨x, hx, rfl⟩ := List.mem_map.mp hd
        obtain ⟨m, hm, rfl⟩ := List.mem_map.mp hx
        exact ⟨fmRow_ok (hin m hm).1, Nat.zero_le _⟩
      -- the rows and octets are told
      refine wpAny_execs_cons ?_
      refine wpAny_If ?_
      refine isTrue_or ?_
      refine wpAny_isTrue_Compare1 ?_
      refine F₇.ldC rfl ?_
      refine Call_ ?_
      refine F₇.ldG (v := .ref 129) ?_
      refine callWith_K F₇.kin rfl ?_
      refine spliced_more ?_
      refine F₇.ldL (upd_ne (upd_ne rfl)) ?_
      refine spliced_none ?_
      refine ⟨F₇.kin, ?_⟩
      have rm7 : Rd g₆ (.ref Dm) (.list (intD ms)) := .list (hDm.at fun o e => G₆.gg _ _ (G₅.gg _ _ e)) (rm.mono (staysIn_trans G₅.gg G₆.gg))
      refine sons_due_ok F₇.wd F₇.sub (R.le (by decide)) rm7 (leE hm4) ?_
      intro uD g₈ h₈ tk₈ G₈ rD
      have F₈ := F₇.grow0 G₈
      have GA₈ := GA₇.trans (G₈.ownK)
      refine d_ne F₈.sub (rS.mono G₈.gg) rD ((shI (k := 1)).shaped (by decide)) ((shI (k := 1)).shaped (by decide)) u64 ?_
      rw [(shI (k := 1)).refl]
      refine t_bool ?_
      rw [if_neg (by decide)]
      refine isTrue_or ?_
      refine wpAny_isTrue_Compare1 ?_
      refine F₈.ldL (upd_ne rfl) ?_
      refine ListComp_ rfl ?_
      refine F₈.ldL (upd_ne (upd_ne rfl)) ?_
      have hDm8 : g₈.IsList Dm ym.toArray := hDm.at fun o e => G₈.gg _ _ (G₆.gg _ _ (G₅.gg _ _ e))
      refine comp_val (It.list R.hd hDm8) F₈ No JT (fun i y g => Rd g y (.str (fmRow (ms.getD i 0)))) (fun _ => true) (leE hml) (fun _ _ _ _ k r => r.mono k) noK (fun _ _ _ _ _ _ _ _ => trivial) trivial ?_ ?_ ?_
      · rintro i v C g' h' tk' E' hi hv' _ G' hC cenv cvm FC F'
        obtain ⟨n, t, hn, rfl⟩ := int_at rm (by simpa using hv')
        have hgi : ms.getD i 0 = n := by simp [hn]
        rw [hgi]
        obtain ⟨hn0, hn1⟩ := hin n (List.mem_of_getElem? hn)
        refine compTurn_nilV FC.sub fun Qe Ee qe => ?_
        refine Call_ ?_
        refine FC.ldG (v := .ref 117) ?_
        refine callWith_K FC.kin rfl ?_
        refine spliced_more ?_
        refine wpAny_BinOp ?_
        refine wpAny_BinOp ?_
        refine FC.ldL rfl ?_
        refine c_intD ?_
        refine b_fdivD (by decide) (noPyl (by decide)) ?_
        refine c_intD ?_
        refine b_modD (by decide) ?_
        refine spliced_more ?_
        refine wpAny_BinOp ?_
        refine FC.ldL rfl ?_
        refine c_intD ?_
        refine b_modD (by decide) ?_
        refine spliced_none ?_
        refine ⟨FC.kin, ?_⟩
        refine row_ok FC.wd FC.sub (R.le (by decide)) (Int.fmod_nonneg_of_pos _ (by decide)) (Int.fmod_lt_of_pos _ (by decide)) ?_
        intro h3 tk3 t3 G3
        refine qe g' h3 _ _ (G3) (trivial) (?_)
        rw [P6 hn0 hn1]
        exact .str _ _
      · intro Dw yw g₉ h₉ tk₉ G₉ _ nDw hDw ccw F₉
        have GA₉ := GA₈.trans (G₉.ownK)
        have rw9 : RdAll g₉ yw ((ms.map fmRow).map .str) := by
          have := ccw.rdAll
          rw [List.size_toArray, hml, ← hm4, map_range ms 0 (fun m => PyData.str (fmRow m))] at this
          rw [List.map_map]; exact this
        have rr9 : Rd g₉ (.ref Dr) (.list ((ms.map fmRow).map .str)) := .list (hDr.at fun o e => G₉.gg _ _ (G₈.gg _ _ (G₆.gg _ _ e))) (rr.mono (staysIn_trans G₆.gg (staysIn_trans G₈.gg G₉.gg)))
        refine d_ne F₉.sub rr9 (.list hDw rw9) ((shS (k := 1)).shaped (by decide)) ((shS (k := 1)).shaped (by decide)) u64 ?_
        rw [(shS (k := 1)).refl]
        refine t_bool ?_
        rw [if_neg (by decide)]
        refine isTrue_or_nil ?_
        rw [if_neg (by decide)]
        refine wpAny_execs_nil ?_
        obtain ⟨sa, svs, rfl, hsa, rsa⟩ := rS.list_inv
        obtain ⟨so, hso, hok⟩ := sons_nat hsin hsl
        rw [hso] at rsa
        have hsvl : svs.length = 12 := by have := rsa.1; simpa [intD, hok.1] using this
        have s69 : g₆.StaysIn g₉ := staysIn_trans G₈.gg G₉.gg
        have oc256 : ∀ {k : Nat}, ∀ o ∈ tp so k, o < 256 := fun {k} o ho => Nat.lt_of_le_of_lt (hok.2 o (tp_mem ho)) (by decide)
        have tpl : ∀ {k : Nat}, k < 12 → (tp so k).length = 12 := fun {k} hk => by rw [tp_len k (hok.1.symm ▸ Nat.le_of_lt hk), hok.1]
        -- tapes
        refine wpAny_execs_cons ?_
        refine wpAny_Assign_Name ?_
        refine ListComp_ rfl ?_
        refine Call_ ?_
        refine F₉.ldB ?_ boot_range
        refine PyProof.Rows.callWith_type1 ?_
        refine spliced_more ?_
        refine c_intD ?_
        refine spliced_none ?_
        refine r_range1 F₉.sub ?_
        intro r10 g₁₀ h₁₀ tk₁₀ t101 t102 t103 G₁₀ hr10
        have F₁₀ := F₉.grow0 G₁₀
        have GA₁₀ := GA₉.trans (G₁₀.ownK)
        refine comp_val (It.range1 (n := 12) R.hd hr10 (by decide)) F₁₀ No JT (fun i y g => ∃ t, y = .bytes (bz (tp so i)) t) (fun _ => true) (by decide) (fun _ _ _ _ _ r => r) noK (fun _ _ _ _ _ _ _ _ => trivial) trivial ?_ ?_ ?_
        · rintro i v C g' h' tk' E' hi ⟨ti, rfl⟩ _ G' hC cenv cvm FC F'
          have hsa' : ∀ {gg k : Heap}, g'.StaysIn gg → gg.StaysIn k → k.IsList sa svs.toArray := fun {gg k} s1 s2 => hsa.at fun o e => s2 _ _ (s1 _ _ (G'.gg _ _ (G₁₀.gg _ _ (s69 _ _ e))))
          refine compTurn_nilV FC.sub fun Qe Ee qe => ?_
          refine Call_ ?_
          refine FC.ldB ?_ b_bytes
          refine PyProof.Rows.callWith_type1 ?_
          refine spliced_more ?_
          refine wpAny_BinOp ?_
          refine Subscript_ ?_
          refine FC.ldC rfl ?_
          refine wpAny_Slice ?_
          refine wpAny_evalPart_some ?_
          refine FC.ldL rfl ?_
          refine wpAny_evalPart_none ?_
          refine wpAny_evalPart_none ?_
          refine sl_list (ops := [_, _]) FC.sub (hsa' (staysIn_refl _) FC.sub) (.int _ _) .none .none (by simp) (pick_drop svs i) (leE hsvl) ?_ (by with_unfolding_all rfl)
          intro Da ga ha Ga hDa nDa
          have FCa := FC.grow0 Ga
          refine Subscript_ ?_
          refine FCa.ldC rfl ?_
          refine wpAny_Slice ?_
          refine wpAny_evalPart_none ?_
          refine wpAny_evalPart_some ?_
          refine FCa.ldL rfl ?_
          refine wpAny_evalPart_none ?_
          refine sl_list (ops := [_, _]) FCa.sub (hsa' Ga.gg FCa.sub) .none (.int _ _) .none (by simp) (pick_take svs i) (leE hsvl) ?_ (by with_unfolding_all rfl)
          intro Db gb hb Gb hDb nDb
          have FCb := FCa.grow0 Gb
          refine ad_list FCb.sub (hDa.at fun o e => FCb.sub _ _ (Gb.gg _ _ e)) (hDb.at fun o e => FCb.sub _ _ e) (dt_le svs i i 12 (leE hsvl) (by decide)) ?_
          intro Dc gc hc Gc hDc nDc
          have FCc := FCb.grow0 Gc
          refine spliced_none ?_
          have hint : IntsAre (svs.drop i ++ svs.take i) ((tp so i).map fun o : Nat => (o : Int)) := by
            have := intsAre (g := g₆) (vs := svs.drop i ++ svs.take i) (ns := (tp so i).map fun o : Nat => (o : Int)) (by
              unfold tp intD
              rw [List.map_append, List.map_append]
              have h1 := (rsa.drop i).append (rsa.take i)
              unfold intD at h1
              rwa [← List.map_drop, ← List.map_take, ← List.map_drop, ← List.map_take] at h1)
            exact this
          refine bytes_ok FCc.sub R.hd (hDc.at fun o e => FCc.sub _ _ e) hint oc256 (by rw [tpl hi]; decide) ?_
          intro hd tkd td Gd
          exact qe gc hd _ _ (((Ga.trans Gb).trans Gc).trans Gd) (trivial) (⟨_, rfl⟩)
        · intro Dt yt g₁₁ h₁₁ tk₁₁ G₁₁ _ nDt hDt cct F₁₁
          refine F₁₁.stCV ?_
          intro h₁₂ _ F₁₂ fo₁₂
          have GA₁₂ := (GA₁₀.trans (G₁₁.ownK)).trans (st_grow F₁₁.sub F₁₂ fo₁₂)
          obtain ⟨hytl, hyt⟩ := cct.all
          have T₁₂ : Tb g₁₁ h₁₂ := T.grow GA₁₂ (noX n105)
          have inL : ∀ {a : Addr}, InFr fs a → a = L := fun hm => by rw [hfs] at hm; exact List.mem_singleton.mp hm
          have ofL : InFr fs L := by rw [hfs]; exact .head _
          have nf105 : ¬ InFr fs 105 := fun hm => n105 (.inl (inL hm))
          have own105 : ∀ {k : Heap} {a : Addr}, Tb g₁₁ k → a = 105 → g₁₁.get? a = none := fun T' e => by rw [e]; exact T'.1
          -- told
          refine wpAny_execs_cons ?_
          refine wpAny_Assign_Name ?_
          refine ListComp_ rfl ?_
          refine F₁₂.ldC rfl ?_
          have alive : ∀ {k gg : Heap}, (k.get? 105 = some (tabObj #[]) ∨ ∃ c', k.get? 105 = some (tabObj #[rawInt 67, rawInt 4, .ref c']) ∧ gg.CodeRec (.ref c') "_law_stream.<locals>._law_read") → k.get? 105 ≠ none := fun t => by
            rcases t with e | ⟨c, e, _⟩ <;> rw [e] <;> nofun
          refine comp_valF (It.list R.hd hDt) F₁₂ (fun a => a = 105 ∨ InFr fs a) (fun _ g' h' => (h'.get? 105 = some (tabObj #[]) ∨ ∃ c', h'.get? 105 = some (tabObj #[rawInt 67, rawInt 4, .ref c']) ∧ g'.CodeRec (.ref c') "_law_stream.<locals>._law_read") ∧ SlotsOnly fs h₁₂ h') (fun i y g => Rd g y (dueD (tp so i)) ∧ PL0 g y) (fun _ => true) (leE hytl) (fun _ _ _ _ k r => ⟨r.1.mono k, r.2.mono k⟩) ?hK ?hF ?stab ⟨T₁₂.2, SlotsOnly.refl _ _⟩ ?turn ?done ?hsub
          case hK =>
            rintro a (rfl | ha)
            · exact ⟨alive T₁₂.2, T₁₂.1⟩
            · have := inL ha; subst this
              exact ⟨F₁₂.own_alive (.inl rfl), F₁₂.own_off (.inl rfl)⟩
          case hF =>
            rintro i g' h' ⟨_, SO⟩ G
            exact F₁₂.slots G SO fun a ow hn hx => hx.elim (fun q => n105 (q ▸ ow)) hn
          case stab =>
            rintro i k₁ k₂ H₁ H₂ s12 ⟨t, SO⟩ kk
            exact ⟨t.imp (fun e => kk _ _ (.inl rfl) e) fun ⟨c, e, r⟩ => ⟨c, kk _ _ (.inl rfl) e, r.keeps s12⟩, SO.trans (.keep fun a o hm e => kk a o (.inr hm) e)⟩
          case hsub => intro m c e; cases e
          case turn =>
            rintro i v C g' h' tk' E' hi hv' ⟨t, SO⟩ G' hC cenv cvm FC F'
            have hi12 : i < 12 := by simpa [hytl] using hi
            obtain ⟨tt, rfl⟩ := hyt i v (by simpa using hv')
            refine compTurn_nilV FC.sub fun Qe Ee qe => ?_
            refine Call_ ?_
            refine FC.ldG (v := .ref 141) ?_
            refine callWith_K FC.kin rfl ?_
            refine spliced_more ?_
            refine FC.ldL rfl ?_
            refine spliced_none ?_
            refine ⟨FC.kin, ?_⟩
            have T' : Tb g' h' := ⟨by
              rcases T₁₂.2 with e | ⟨c, e, _⟩ <;> exact G'.off T₁₂.1 e, t⟩
            refine told_ok FC.wd FC.sub (R.le (by decide)) hfr (by rw [hfs]; exact frames_push F' trivial) nf105 (fun L' hm => by
              have := inL hm; subst this
              obtain ⟨m, hn, _⟩ := F'.ns
              exact ⟨m, hn⟩) T' (tpl hi12) oc256 ?_
            intro ts es p v g'' h'' tk'' TD hnone GX SO' rd pl T''
            rw [told_due TD hnone (tpl hi12)] at rd
            exact qe g'' h'' _ _ (GX) (⟨T''.2, SO.trans SO'⟩) (⟨rd, pl⟩)
          case done =>
            rintro Dd yd g₁₃ h₁₃ tk₁₃ G₁₃ ⟨t₁₃, _⟩ nDd hDd ccd F₁₃
            have T₁₃ : Tb g₁₃ h₁₃ := ⟨by
              rcases T₁₂.2 with e | ⟨c, e, _⟩ <;> exact G₁₃.off T₁₂.1 e, t₁₃⟩
            obtain ⟨hydl, hyd⟩ := ccd.all
            rw [List.size_toArray, hytl] at hydl
            refine F₁₃.stCV ?_
            intro h₁₄ _ F₁₄ fo₁₄
            have GB₁₄ := st_grow (K := No) F₁₃.sub F₁₄ fo₁₄
            have rdd : RdAll g₁₃ yd ((List.range 12).map fun i => dueD (tp so i)) := by
              refine ⟨by simp [hydl], fun i v d a b => ?_⟩
              have hi : i < 12 := by have := (List.getElem?_eq_some_iff.mp a).1; omega
              have : d = dueD (tp so i) := by simpa [hi] using b.symm
              rw [this]; exact (hyd i v a).1
            have u66 : A.units + 66 < cLine := by have := R.un; rw [cLine_is]; omega
            -- no bare one
            refine wpAny_execs_cons ?_
            refine wpAny_If ?_
            refine wpAny_isTrue_Compare1 ?_
            refine List_ ?_
            refine spliced_none ?_
            refine n_list F₁₄.sub ?_ (by simp)
            intro D15 g₁₅ h₁₅ G₁₅ hD15 nD15
            have F₁₅ := F₁₄.grow0 G₁₅
            have GB₁₅ := GB₁₄.trans (G₁₅.ownK)
            refine F₁₅.ldC rfl ?_
            have rdd15 : Rd g₁₅ (.ref Dd) (.list ((List.range 12).map fun i => dueD (tp so i))) := .list (hDd.at fun o e => G₁₅.gg _ _ e) (rdd.mono G₁₅.gg)
            have ddsh : ∀ d ∈ ((List.range 12).map fun i => dueD (tp so i)), sh 16 d := fun d hd => by
              obtain ⟨i, hi, rfl⟩ := List.mem_map.mp hd
              exact dueD_sh (tpl (List.mem_range.mp hi))
            refine in_ok F₁₅.sub rdd15 (.list hD15 .nil) ddsh (d := .list []) (sh.list (k := 15) fun _ h => nomatch h) (by decide) u66 ?_
            have hany : (((List.range 12).map fun i => dueD (tp so i)).any fun y => PyData.eqv y (.list [])) = false := by
              rw [List.any_eq_false]
              intro d hd
              obtain ⟨i, hi, rfl⟩ := List.mem_map.mp hd
              simp [dueD_is, toldD, PyData.eqv, PyData.eqvAll]
            rw [hany]
            refine t_bool ?_
            rw [if_neg (by decide)]
            refine wpAny_execs_nil ?_
            have hdue : ∀ {i : Nat}, i < 12 → ∃ v, yd[i]? = some v ∧ Rd g₁₃ v (dueD (tp so i)) ∧ PL0 g₁₃ v := fun {i} hi => by
              have hy : yd[i]? = some yd[i] := by simp
              exact ⟨_, hy, hyd i _ hy⟩
            -- whole
            refine wpAny_execs_cons ?_
            refine Assign_ListComp rfl ?_
            refine Call_ ?_
            refine F₁₅.ldB ?_ boot_range
            refine PyProof.Rows.callWith_type1 ?_
            refine spliced_more ?_
            refine c_intD ?_
            refine spliced_none ?_
            refine r_range1 F₁₅.sub ?_
            intro r16 g₁₆ h₁₆ tk₁₆ t161 t162 t163 G₁₆ hr16
            have F₁₆ := F₁₅.grow0 G₁₆
            have GB₁₆ := GB₁₅.trans (G₁₆.ownK)
            refine comp_st (It.range1 (n := 12) R.hd hr16 (by decide)) F₁₆ No JT (fun i y g => Rd g y (.int (i : Nat))) (fun i => lastE (tp so i) == 12) (by decide) (fun _ _ _ _ k r => r.mono k) noK (fun _ _ _ _ _ _ _ _ => trivial) trivial ?_ ?_ (hsub_of (by intro p hp; rcases List.mem_cons.mp hp with rfl | hp; exact ⟨rfl, rfl⟩; cases hp))
            · rintro i v C g' h' tk' E' hi ⟨ti, rfl⟩ _ G' hC cenv cvm FC F'
              have sg : g₁₃.StaysIn g' := staysIn_trans GB₁₆.gg G'.gg
              obtain ⟨vi, hvi, rvi, _⟩ := hdue hi
              obtain ⟨b, us, c, ws, rfl, hb, husl, hu1, hc, rws⟩ := due_ends rvi
              obtain ⟨te, hte, hw1, hw2⟩ := last_at rws (tpl hi)
              have up : ∀ {l : Addr} {xs : List Value}, g₁₃.IsList l xs.toArray → h'.IsList l xs.toArray := fun {l xs} x => x.at fun o e => FC.sub _ _ (sg _ _ e)
              refine compTurn_oneV fun Qe Ee qe => ?_
              refine wpAny_isTrue_Compare1 ?_
              refine Subscript_ ?_
              refine Subscript_ ?_
              refine Subscript_ ?_
              refine FC.ldC rfl ?_
              refine FC.ldL rfl ?_
              refine s_listN (up hDd) hvi ?_ (by with_unfolding_all rfl) (leE hydl)
              refine c_intD ?_
              refine s_listN (k := 1) (up hb) hu1 ?_ (by with_unfolding_all rfl) (leE husl)
              refine UnaryOp_ ?_
              refine c_intD ?_
              refine u_negD ?_
              refine s_neg (k := 1) (ops := [_, _]) (up hc) (by decide) hw1 hte (leK hw2) ?_ (by with_unfolding_all rfl)
              refine c_intD ?_
              refine k_eq ?_
              refine t_bool ?_
              have ek : (((lastE (tp so i) : Nat) : Int) == 12) = (lastE (tp so i) == 12) := by
                by_cases hc : lastE (tp so i) = 12
                · rw [hc]; rfl
                · rw [beq_eq_false_iff_ne.mpr hc, beq_eq_false_iff_ne.mpr (by omega)]
              rw [ek]
              refine qe g' h' _ (GrowX.refl FC.sub) (fun _ Q₂ E₃ q₂ => ?_) (fun _ => trivial)
              refine FC.ldL rfl ?_
              exact q₂ g' h' _ _ (GrowX.refl FC.sub) trivial (.int _ _)
            · intro Dw yw g₁₇ h₁₇ tk₁₇ G₁₇ _ nDw hDw ccw F₁₇
              have GB₁₇ := GB₁₆.trans G₁₇
              have rwh : RdAll g₁₇ yw ((wholes so).map fun k => .int (k : Nat)) := ccw.rdFilter
              have hwl : yw.length = (wholes so).length := by have := rwh.1; simpa using this
              have hw12 : ∀ k ∈ wholes so, k < 12 := fun k hk => List.mem_range.mp (List.mem_filter.mp hk).1
              have hwn : (wholes so).length ≤ 12 := by have := List.length_filter_le (fun k => lastE (tp so k) == 12) (List.range 12); simpa [wholes] using this
              have hyw : yw.length ≤ 12 := hwl ▸ hwn
              have hP2 := P2 hok
              -- as many as due
              refine wpAny_execs_cons ?_
              refine wpAny_If ?_
              refine wpAny_isTrue_Compare1 ?_
              refine Call_ ?_
              refine F₁₇.ldB ?_ Boot.len
              refine PyProof.Rows.callWith_builtin1 ?_
              refine spliced_more ?_
              refine F₁₇.ldL rfl ?_
              refine spliced_none ?_
              refine PyProof.Rows.len_list (hDw.at fun o e => F₁₇.sub _ _ e) (leZ hyw) ?_
              refine Call_ ?_
              refine F₁₇.ldB ?_ b_max
              refine PyProof.Rows.callWith_builtin1 ?_
              refine spliced_more ?_
              refine c_intD ?_
              refine spliced_more ?_
              refine wpAny_BinOp ?_
              refine c_intD ?_
              refine Call_ ?_
              refine F₁₇.ldB ?_ b_sum
              refine PyProof.Rows.callWith_builtin1 ?_
              refine spliced_more ?_
              refine F₁₇.ldC rfl ?_
              refine spliced_none ?_
              have s6 : g₆.StaysIn g₁₇ := staysIn_trans s69 (staysIn_trans G₁₀.gg (staysIn_trans G₁₁.gg (staysIn_trans G₁₃.gg GB₁₇.gg)))
              refine sum_ok F₁₇.sub R.hd (hsa.at fun o e => F₁₇.sub _ _ (s6 _ _ e)) (intsAre rsa) ?_
              intro h₁₈ tk₁₈ t18 G₁₈
              have F₁₈ := F₁₇.grow0 G₁₈
              have GB₁₈ := GB₁₇.trans (G₁₈.ownK)
              refine b_subD ?_
              refine spliced_none ?_
              refine max_ok F₁₈.sub R.hd ?_
              intro h₁₉ tk₁₉ G₁₉
              have F₁₉ := F₁₈.grow0 G₁₉
              have GB₁₉ := GB₁₈.trans (G₁₉.ownK)
              rw [ite_int]
              refine k_ne ?_
              refine t_bool ?_
              rw [if_neg (by
                rw [sum_cast, List.size_toArray, hwl, hP2]
                rw [Bool.not_eq_true, bne_eq_false_iff_eq]
                split <;> omega)]
              refine wpAny_execs_nil ?_
              have fsh : ∀ {k : Nat}, ∀ d ∈ forest so k, sh 12 d := fun {k} d hd => by
                have := (forest_T so hok.1 k).1 d hd
                exact ⟨isT_lay d this.1, this.2⟩
              have fln : ∀ {k : Nat}, (forest so k).length ≤ 12 := fun {k} => (forest_T so hok.1 k).2
              -- forests
              refine wpAny_execs_cons ?_
              refine wpAny_Assign_Name ?_
              refine ListComp_ rfl ?_
              refine F₁₉.ldL rfl ?_
              refine comp_val (It.list R.hd hDw) F₁₉ No JT (fun i y g => Rd g y (.list (forest so ((wholes so).getD i 0)))) (fun _ => true) (leK hyw) (fun _ _ _ _ k r => r.mono k) noK (fun _ _ _ _ _ _ _ _ => trivial) trivial ?_ ?_ (hsub_of (by intro p hp; rcases List.mem_cons.mp hp with rfl | hp; exact ⟨rfl, rfl⟩; cases hp))
              · rintro i v C g' h' tk' E' hi hv' _ G' hC cenv cvm FC F'
                obtain ⟨k, t, hk, rfl⟩ := nat_at rwh (by simpa using hv')
                have hk12 := hw12 k (List.mem_of_getElem? hk)
                have hgi : (wholes so).getD i 0 = k := by simp [hk]
                rw [hgi]
                have sg : g₁₃.StaysIn g' := staysIn_trans GB₁₇.gg G'.gg
                obtain ⟨vi, hvi, rvi, pvi⟩ := hdue hk12
                obtain ⟨b, us, ta', ws, rfl, hb, husl, hu0, hpa, rws⟩ := due_trees pvi rvi
                have up : ∀ {l : Addr} {xs : List Value}, g₁₃.IsList l xs.toArray → h'.IsList l xs.toArray := fun {l xs} x => x.at fun o e => FC.sub _ _ (sg _ _ e)
                refine compTurn_nilV FC.sub fun Qe Ee qe => ?_
                refine Subscript_ ?_
                refine Subscript_ ?_
                refine FC.ldC rfl ?_
                refine FC.ldL rfl ?_
                refine s_listN (up hDd) hvi ?_ (by with_unfolding_all rfl) (leE hydl)
                refine c_intD ?_
                refine s_listN (k := 0) (up hb) hu0 ?_ (by with_unfolding_all rfl) (leE husl)
                exact qe g' h' _ _ (GrowX.refl FC.sub) (trivial) (.list (hpa.isList.at fun o e => sg _ _ e) (rws.mono sg))
              · intro Df yf g₂₀ h₂₀ tk₂₀ G₂₀ _ nDf hDf ccf F₂₀
                have GB₂₀ := GB₁₉.trans (G₂₀.ownK)
                have rf : RdAll g₂₀ yf ((wholes so).map fun k => .list (forest so k)) := by
                  have := ccf.rdAll
                  rw [List.size_toArray, hwl, map_range (wholes so) 0 (fun k => PyData.list (forest so k))] at this
                  exact this
                have hfl : yf.length = (wholes so).length := by have := rf.1; simpa using this
                have hyf : yf.length ≤ 12 := hfl ▸ hwn
                refine F₂₀.stCV ?_
                intro h₂₁ _ F₂₁ fo₂₁
                have GB₂₁ := GB₂₀.trans (st_grow F₂₀.sub F₂₁ fo₂₁)
                -- in order round the ring
                refine wpAny_execs_cons ?_
                refine wpAny_If ?_
                refine isTrue_plain ?_
                refine ListComp_ rfl ?_
                refine Call_ ?_
                refine F₂₁.ldB ?_ boot_range
                refine PyProof.Rows.callWith_type1 ?_
                refine spliced_more ?_
                refine Call_ ?_
                refine F₂₁.ldB ?_ Boot.len
                refine PyProof.Rows.callWith_builtin1 ?_
                refine spliced_more ?_
                refine F₂₁.ldL rfl ?_
                refine spliced_none ?_
                refine PyProof.Rows.len_list (hDw.at fun o e => F₂₁.sub _ _ (G₂₀.gg _ _ e)) (leZ hyw) ?_
                refine spliced_none ?_
                refine r_range1 F₂₁.sub ?_
                intro r22 g₂₂ h₂₂ tk₂₂ t221 t222 t223 G₂₂ hr22
                have F₂₂ := F₂₁.grow0 G₂₂
                have GB₂₂ := GB₂₁.trans (G₂₂.ownK)
                have hr22' : IsRange g₂₂ r22 0 ((wholes so).length : Nat) 1 t221 t222 t223 := by
                  have e : ((yw.toArray.size : Nat) : Int) = ((wholes so).length : Nat) := by simp [hwl]
                  rw [← e]; exact hr22
                refine comp_val (It.range1 R.hd hr22' (leK hwn)) F₂₂ No JT (fun _ _ _ => True) (fun _ => false) (leK hwn) (fun _ _ _ _ _ _ => trivial) noK (fun _ _ _ _ _ _ _ _ => trivial) trivial ?_ ?_ (hsub_of (by intro p hp; rcases List.mem_cons.mp hp with rfl | hp; exact ⟨rfl, rfl⟩; cases hp))
                · rintro i v C g' h' tk' E' hi ⟨ti, rfl⟩ _ G' hC cenv cvm FC F'
                  have sg : g₂₀.StaysIn g' := staysIn_trans G₂₂.gg G'.gg
                  have hpi : prev (wholes so).length i < (wholes so).length := by unfold prev; split <;> omega
                  obtain ⟨k, hk⟩ : ∃ a, (wholes so)[i]? = some a := ⟨_, List.getElem?_eq_getElem hi⟩
                  obtain ⟨p, hp⟩ : ∃ a, (wholes so)[prev (wholes so).length i]? = some a := ⟨_, List.getElem?_eq_getElem hpi⟩
                  have h3 := P3 hok hk hp
                  obtain ⟨uk, huk, ruk⟩ := rf.get (i := i) (d := .list (forest so k)) (by simp [hk])
                  obtain ⟨up, hup, rup⟩ := rf.get (i := prev (wholes so).length i) (d := .list (forest so p)) (by simp [hp])
                  obtain ⟨pa, ps, rfl, hpa, rps⟩ := rup.list_inv
                  have hpl : ps.length ≤ 12 := by rw [rps.1]; exact fln
                  have lst : ∀ {l : Addr} {xs : List Value} {gg k : Heap}, g₂₀.IsList l xs.toArray → g'.StaysIn gg → gg.StaysIn k → k.IsList l xs.toArray := fun {l xs gg k} x s1 s2 => x.at fun o e => s2 _ _ (s1 _ _ (sg _ _ e))
                  refine compTurn_oneV fun Qe Ee qe => ?_
                  refine wpAny_isTrue_Compare1 ?_
                  refine Subscript_ ?_
                  refine FC.ldC rfl ?_
                  refine FC.ldL rfl ?_
                  refine s_listN (lst hDf (staysIn_refl _) FC.sub) huk ?_ (by with_unfolding_all rfl) (leK hyf)
                  refine wpAny_BinOp ?_
                  refine Subscript_ ?_
                  refine Subscript_ ?_
                  refine FC.ldC rfl ?_
                  refine wpAny_BinOp ?_
                  refine FC.ldL rfl ?_
                  refine c_intD ?_
                  refine b_subD ?_
                  refine s_prev (lst hDf (staysIn_refl _) FC.sub) (by rw [hfl]; exact hi) (by rw [hfl]; exact hup) (leK hyf) ?_ (fun k => by with_unfolding_all rfl)
                  refine wpAny_Slice ?_
                  refine wpAny_evalPart_some ?_
                  refine c_intD ?_
                  refine wpAny_evalPart_none ?_
                  refine wpAny_evalPart_none ?_
                  refine sl_list (ops := [_, _]) FC.sub (lst hpa (staysIn_refl _) FC.sub) (.int _ _) .none .none (by simp) (pick_drop ps 1) (leK hpl) ?_ (by with_unfolding_all rfl)
                  intro Da ga ha Ga hDa nDa
                  have FCa := FC.grow0 Ga
                  refine Subscript_ ?_
                  refine Subscript_ ?_
                  refine FCa.ldC rfl ?_
                  refine wpAny_BinOp ?_
                  refine FCa.ldL rfl ?_
                  refine c_intD ?_
                  refine b_subD ?_
                  refine s_prev (lst hDf Ga.gg FCa.sub) (by rw [hfl]; exact hi) (by rw [hfl]; exact hup) (leK hyf) ?_ (fun k => by with_unfolding_all rfl)
                  refine wpAny_Slice ?_
                  refine wpAny_evalPart_none ?_
                  refine wpAny_evalPart_some ?_
                  refine c_intD ?_
                  refine wpAny_evalPart_none ?_
                  refine sl_list (ops := [_, _]) FCa.sub (lst hpa Ga.gg FCa.sub) .none (.int _ _) .none (by simp) (pick_take ps 1) (leK hpl) ?_ (by with_unfolding_all rfl)
                  intro Db gb hb Gb hDb nDb
                  have FCb := FCa.grow0 Gb
                  refine ad_list FCb.sub (hDa.at fun o e => FCb.sub _ _ (Gb.gg _ _ e)) (hDb.at fun o e => FCb.sub _ _ e) (dt_le ps 1 1 12 hpl (by decide)) ?_
                  intro Dc gc hc Gc hDc nDc
                  have FCc := FCb.grow0 Gc
                  have sgc : g'.StaysIn gc := staysIn_trans Ga.gg (staysIn_trans Gb.gg Gc.gg)
                  have rps' := rps.mono (staysIn_trans sg sgc)
                  have rsum : Rd gc (.ref Dc) (.list (forest so k)) := by rw [h3]; exact .list hDc ((rps'.drop 1).append (rps'.take 1))
                  refine d_ne FCc.sub (ruk.mono (staysIn_trans sg sgc)) rsum ((sh.list (k := 12) fsh).shaped (by decide)) ((sh.list (k := 12) fsh).shaped (by decide)) u64 ?_
                  rw [(sh.list (k := 12) fsh).refl]
                  refine t_bool ?_
                  exact qe gc hc _ ((Ga.trans Gb).trans Gc) (fun e => nomatch e) (fun _ => trivial)
                · intro De ye g₂₃ h₂₃ tk₂₃ G₂₃ _ nDe hDe cce F₂₃
                  have GB₂₃ := GB₂₂.trans (G₂₃.ownK)
                  have hye := coll_none cce
                  subst hye
                  refine t_list (hDe.at fun o e => F₂₃.sub _ _ e) (by simp) ?_
                  intro tk₂₄
                  rw [if_neg (by simp)]
                  refine wpAny_execs_nil ?_
                  have s1123 : g₁₁.StaysIn g₂₃ := staysIn_trans G₁₃.gg GB₂₃.gg
                  have tap : ∀ {k : Nat}, k < 12 → ∃ t, yt[k]? = some (.bytes (bz (tp so k)) t) := fun {k} hk => by
                    have hy : yt[k]? = some yt[k] := by simp
                    obtain ⟨t, e⟩ := hyt k _ hy
                    exact ⟨t, by rw [hy, e]⟩
                  -- the order
                  refine wpAny_execs_cons ?_
                  refine wpAny_If ?_
                  refine isTrue_not ?_
                  refine isTrue_plain ?_
                  refine Call_ ?_
                  refine F₂₃.ldG (v := .ref 162) ?_
                  refine callWith_K F₂₃.kin rfl ?_
                  refine spliced_more ?_
                  refine F₂₃.ldC rfl ?_
                  refine spliced_more ?_
                  refine ListComp_ rfl ?_
                  refine F₂₃.ldL rfl ?_
                  have hDw23 : g₂₃.IsList Dw yw.toArray := hDw.at fun o e => G₂₃.gg _ _ (G₂₂.gg _ _ (G₂₀.gg _ _ e))
                  refine comp_val (It.list R.hd hDw23) F₂₃ No JT (fun i y g => Rd g y (.str (text (tp so ((wholes so).getD i 0))))) (fun _ => true) (leK hyw) (fun _ _ _ _ k r => r.mono k) noK (fun _ _ _ _ _ _ _ _ => trivial) trivial ?_ ?_ (hsub_of (by intro p hp; rcases List.mem_cons.mp hp with rfl | hp; exact ⟨rfl, rfl⟩; cases hp))
                  · rintro i v C g' h' tk' E' hi hv' _ G' hC cenv cvm FC F'
                    obtain ⟨k, t, hk, rfl⟩ := nat_at rwh (by simpa using hv')
                    have hk12 := hw12 k (List.mem_of_getElem? hk)
                    have hgi : (wholes so).getD i 0 = k := by simp [hk]
                    rw [hgi]
                    obtain ⟨tt, htt⟩ := tap hk12
                    refine compTurn_nilV FC.sub fun Qe Ee qe => ?_
                    refine Call_ ?_
                    refine FC.ldG (v := .ref 155) ?_
                    refine callWith_K FC.kin rfl ?_
                    refine spliced_more ?_
                    refine Subscript_ ?_
                    refine FC.ldC rfl ?_
                    refine FC.ldL rfl ?_
                    refine s_listN (hDt.at fun o e => FC.sub _ _ (G'.gg _ _ (s1123 _ _ e))) htt ?_ (by with_unfolding_all rfl) (leE hytl)
                    refine spliced_none ?_
                    refine ⟨FC.kin, ?_⟩
                    refine text_ok FC.wd FC.sub (R.le (by decide)) (by rw [tpl hk12]; decide) oc256 ?_
                    intro h3 tk3 t3 G3
                    exact qe g' h3 _ _ (G3) (trivial) (.str _ _)
                  · intro Dx yx g₂₅ h₂₅ tk₂₅ G₂₅ _ nDx hDx ccx F₂₅
                    have GB₂₅ := GB₂₃.trans (G₂₅.ownK)
                    have rx : RdAll g₂₅ yx (((wholes so).map fun k => text (tp so k)).map .str) := by
                      have := ccx.rdAll
                      rw [List.size_toArray, hwl, map_range (wholes so) 0 (fun k => PyData.str (text (tp so k)))] at this
                      rw [List.map_map]; exact this
                    refine spliced_none ?_
                    refine ⟨F₂₅.kin, ?_⟩
                    have s2025 : g₂₀.StaysIn g₂₅ := staysIn_trans G₂₂.gg (staysIn_trans G₂₃.gg G₂₅.gg)
                    have rf25 : Rd g₂₅ (.ref Df) (.list ((wholes so).map fun k => .list (forest so k))) := .list (hDf.at fun o e => s2025 _ _ e) (rf.mono s2025)
                    refine order_ok F₂₅.wd F₂₅.sub (R.le (by decide)) rf25 (.list hDx rx) (fun d hd => ?_) (by simp) (by rw [List.length_map]; exact leK hwn) (fun i a b x y hi ha hb hx hy => ?_) ?_
                    · obtain ⟨k, hk, rfl⟩ := List.mem_map.mp hd
                      refine ⟨isTs_of fun d hd => ((forest_T so hok.1 k).1 d hd).1, ?_⟩
                      have := depthAll_le fun d hd => ((forest_T so hok.1 k).1 d hd).2
                      show PyData.depthAll _ + 1 ≤ 64
                      omega
                    · simp only [List.getElem?_map, List.length_map] at ha hb hx hy hi
                      have hpi : prev (wholes so).length i < (wholes so).length := by unfold prev; split <;> omega
                      obtain ⟨k, hk⟩ : ∃ a, (wholes so)[i]? = some a := ⟨_, List.getElem?_eq_getElem hi⟩
                      obtain ⟨p, hp⟩ : ∃ a, (wholes so)[prev (wholes so).length i]? = some a := ⟨_, List.getElem?_eq_getElem hpi⟩
                      rw [hk] at hb hy; rw [hp] at ha hx
                      cases ha; cases hb; cases hx; cases hy
                      exact P4 hok (List.mem_of_getElem? hk) (List.mem_of_getElem? hp)
                    intro h₂₆ tk₂₆ G₂₆
                    have F₂₆ := F₂₅.grow0 G₂₆
                    have GB₂₆ := GB₂₅.trans (G₂₆.ownK)
                    refine t_bool ?_
                    rw [if_neg (by decide)]
                    refine wpAny_execs_nil ?_
                    -- told = due
                    refine wpAny_execs_cons ?_
                    refine wpAny_If ?_
                    refine wpAny_isTrue_Compare1 ?_
                    refine F₂₆.ldC rfl ?_
                    refine ListComp_ rfl ?_
                    refine F₂₆.ldC rfl ?_
                    have hDt26 : g₂₅.IsList Dt yt.toArray := hDt.at fun o e => G₂₅.gg _ _ (s1123 _ _ e)
                    refine comp_val (It.list R.hd hDt26) F₂₆ No JT (fun i y g => Rd g y (dueD (tp so i))) (fun _ => true) (leE hytl) (fun _ _ _ _ k r => r.mono k) noK (fun _ _ _ _ _ _ _ _ => trivial) trivial ?_ ?_ (fun m c e => by cases e)
                    · rintro i v C g' h' tk' E' hi hv' _ G' hC cenv cvm FC F'
                      have hi12 : i < 12 := by simpa [hytl] using hi
                      obtain ⟨tt, rfl⟩ := hyt i v (by simpa using hv')
                      refine compTurn_nilV FC.sub fun Qe Ee qe => ?_
                      refine Call_ ?_
                      refine FC.ldG (v := .ref 148) ?_
                      refine callWith_K FC.kin rfl ?_
                      refine spliced_more ?_
                      refine FC.ldL rfl ?_
                      refine spliced_none ?_
                      refine ⟨FC.kin, ?_⟩
                      refine due_ok FC.wd FC.sub (R.le (by decide)) (tpl hi12) oc256 ?_
                      intro v g3 h3 tk3 G3 r3
                      exact qe g3 h3 _ _ (G3) (trivial) (r3)
                    · intro Du yu g₂₇ h₂₇ tk₂₇ G₂₇ _ nDu hDu ccu F₂₇
                      have GB₂₇ := GB₂₆.trans (G₂₇.ownK)
                      have ru : RdAll g₂₇ yu ((List.range 12).map fun i => dueD (tp so i)) := by
                        have := ccu.rdAll
                        rw [List.size_toArray, hytl] at this
                        exact this
                      have rdd27 : Rd g₂₇ (.ref Dd) (.list ((List.range 12).map fun i => dueD (tp so i))) := .list (hDd.at fun o e => GB₂₇.gg _ _ e) (rdd.mono GB₂₇.gg)
                      refine d_ne F₂₇.sub rdd27 (.list hDu ru) ((sh.list (k := 16) ddsh).shaped (by decide)) ((sh.list (k := 16) ddsh).shaped (by decide)) u64 ?_
                      rw [(sh.list (k := 16) ddsh).refl]
                      refine t_bool ?_
                      rw [if_neg (by decide)]
                      refine wpAny_execs_nil ?_
                      -- the first ones
                      have s1327 : g₁₃.StaysIn g₂₇ := GB₂₇.gg
                      have up13 : ∀ {l : Addr} {xs : List Value} {gg k : Heap}, g₁₃.IsList l xs.toArray → g₂₇.StaysIn gg → gg.StaysIn k → k.IsList l xs.toArray := fun {l xs gg k} x s1 s2 => x.at fun o e => s2 _ _ (s1 _ _ (s1327 _ _ e))
                      refine wpAny_execs_cons ?_
                      refine wpAny_Assign_Name ?_
                      refine Subscript_ ?_
                      refine Subscript_ ?_
                      refine F₂₇.ldC rfl ?_
                      refine Subscript_ ?_
                      refine wpAny_BinOp ?_
                      refine F₂₇.ldL rfl ?_
                      refine List_ ?_
                      refine spliced_more ?_
                      refine c_int ?_; intro t0 _
                      refine spliced_none ?_
                      refine n_list F₂₇.sub ?_ (by simp)
                      intro D28 g₂₈ h₂₈ G₂₈ hD28 nD28
                      have F₂₈ := F₂₇.grow0 G₂₈
                      have s1728 : g₁₇.StaysIn g₂₈ := staysIn_trans G₂₀.gg (staysIn_trans s2025 (staysIn_trans G₂₇.gg G₂₈.gg))
                      refine ad_list F₂₈.sub (hDw.at fun o e => F₂₈.sub _ _ (s1728 _ _ e)) (hD28.at fun o e => F₂₈.sub _ _ e) (leK (n := 13) (Nat.succ_le_succ hyw)) ?_
                      intro D29 g₂₉ h₂₉ G₂₉ hD29 nD29
                      have F₂₉ := F₂₈.grow0 G₂₉
                      have GB₂₉ := (GB₂₇.trans (G₂₈.ownK)).trans (G₂₉.ownK)
                      have s2729 : g₂₇.StaysIn g₂₉ := staysIn_trans G₂₈.gg G₂₉.gg
                      obtain ⟨k0, tk0, hk0, hk12⟩ : ∃ (k0 : Nat) (t : Tok), (yw ++ [Value.int 0 t0])[0]? = some (.int (k0 : Nat) t) ∧ k0 < 12 := by
                        cases yw with
                        | nil => exact ⟨0, t0, rfl, by decide⟩
                        | cons v yw' =>
                          obtain ⟨k, t, hk, e⟩ := nat_at (i := 0) rwh rfl
                          exact ⟨k, t, by rw [e]; rfl, hw12 k (List.mem_of_getElem? hk)⟩
                      refine c_intD ?_
                      refine s_listN (k := 0) (hD29.at fun o e => F₂₉.sub _ _ e) hk0 ?_ (by with_unfolding_all rfl) (by rw [List.length_append]; exact leK (n := 13) (Nat.succ_le_succ hyw))
                      obtain ⟨v0, hv0, rv0, pv0⟩ := hdue hk12
                      obtain ⟨b0, us0, ta0, ws0, rfl, hb0, husl0, hu0, hpa0, rws0⟩ := due_trees pv0 rv0
                      refine s_listN (up13 hDd s2729 F₂₉.sub) hv0 ?_ (by with_unfolding_all rfl) (leE hydl)
                      refine c_intD ?_
                      refine s_listN (k := 0) (up13 hb0 s2729 F₂₉.sub) hu0 ?_ (by with_unfolding_all rfl) (leE husl0)
                      refine F₂₉.stCV ?_
                      intro h₃₀ _ F₃₀ fo₃₀
                      have GB₃₀ := GB₂₉.trans (st_grow F₂₉.sub F₃₀ fo₃₀)
                      have T₃₀ : Tb g₂₉ h₃₀ := T₁₃.grow GB₃₀ (noX n105)
                      -- the bags
                      refine wpAny_execs_cons ?_
                      refine wpAny_Return_some ?_
                      refine UnaryOp_ ?_
                      refine ListComp_ rfl ?_
                      refine Call_ ?_
                      refine F₃₀.ldB ?_ boot_range
                      refine PyProof.Rows.callWith_type1 ?_
                      refine spliced_more ?_
                      refine c_intD ?_
                      refine spliced_none ?_
                      refine r_range1 F₃₀.sub ?_
                      intro r31 g₃₁ h₃₁ tk₃₁ t311 t312 t313 G₃₁ hr31
                      have F₃₁ := F₃₀.grow0 G₃₁
                      have T₃₁ : Tb g₃₁ h₃₁ := T₃₀.grow G₃₁ (fun q => q)
                      have s1331 : g₁₃.StaysIn g₃₁ := staysIn_trans GB₃₀.gg G₃₁.gg
                      refine comp_valF (It.range1 (n := 12) R.hd hr31 (by decide)) F₃₁ (InFr fs) (fun _ g' h' => SlotsOnly fs h₃₁ h') (fun _ _ _ => True) (fun _ => false) (by decide) (fun _ _ _ _ _ _ => trivial) ?hK2 ?hF2 ?stab2 (SlotsOnly.refl _ _) ?turn2 ?done2 ?hsub2
                      case hK2 =>
                        intro a ha
                        have := inL ha; subst this
                        exact ⟨F₃₁.own_alive (.inl rfl), F₃₁.own_off (.inl rfl)⟩
                      case hF2 =>
                        rintro i g' h' SO G
                        exact F₃₁.slots G SO fun a ow hn hx => hn hx
                      case stab2 =>
                        rintro i k₁ k₂ H₁ H₂ s12 SO kk
                        exact SO.trans (.keep fun a o hm e => kk a o hm e)
                      case hsub2 => exact hsub_of (by intro p hp; rcases List.mem_cons.mp hp with rfl | hp; exact ⟨rfl, rfl⟩; rcases List.mem_cons.mp hp with rfl | hp; exact ⟨rfl, rfl⟩; cases hp)
                      case turn2 =>
                        rintro i v C g' h' tk' E' hi ⟨ti, rfl⟩ SO G' hC cenv cvm FC F'
                        have sg : g₁₃.StaysIn g' := staysIn_trans s1331 G'.gg
                        obtain ⟨vi, hvi, rvi, pvi⟩ := hdue hi
                        obtain ⟨b, us, ta', ws, rfl, hb, husl, hu0', hpa, rws⟩ := due_trees pvi rvi
                        have up : ∀ {l : Addr} {xs : List Value}, g₁₃.IsList l xs.toArray → h'.IsList l xs.toArray := fun {l xs} x => x.at fun o e => FC.sub _ _ (sg _ _ e)
                        refine compTurn_oneV fun Qe Ee qe => ?_
                        refine isTrue_not ?_
                        refine isTrue_plain ?_
                        refine Call_ ?_
                        refine FC.ldG (v := .ref 167) ?_
                        refine callWith_K FC.kin rfl ?_
                        refine spliced_more ?_
                        refine FC.ldC rfl ?_
                        refine spliced_more ?_
                        refine Subscript_ ?_
                        refine Subscript_ ?_
                        refine FC.ldC rfl ?_
                        refine FC.ldL rfl ?_
                        refine s_listN (up hDd) hvi ?_ (by with_unfolding_all rfl) (leE hydl)
                        refine c_intD ?_
                        refine s_listN (k := 0) (up hb) hu0' ?_ (by with_unfolding_all rfl) (leE husl)
                        refine spliced_none ?_
                        refine ⟨FC.kin, ?_⟩
                        have sh60 : ∀ {k : Nat}, ∀ d ∈ forest so k, sh 60 d := fun {k} d hd => (fsh d hd).le (by decide)
                        refine bags_ok FC.wd FC.sub (R.le (by decide)) hfr (by rw [hfs]; exact frames_push F' trivial) (hpa0.at fun o e => sg _ _ e) (hpa.at fun o e => sg _ _ e) (rws0.mono sg) (rws.mono sg) (sh60 (k := k0)) (sh60 (k := i)) (by have := @fln k0; exact Nat.le_trans this (by decide)) (by have := @fln i; exact Nat.le_trans this (by decide))
                          (P5 (fun d hd => ((forest_T so hok.1 k0).1 d hd).1) (fun d hd => ((forest_T so hok.1 i).1 d hd).1)) ?_
                        intro h3 tk3 G3 SO3
                        refine t_bool ?_
                        exact qe g' h3 _ G3 (fun e => nomatch e) (fun _ => SO.trans SO3)
                      case done2 =>
                        rintro Dn yn g₃₂ h₃₂ tk₃₂ G₃₂ _ nDn hDn ccn F₃₂
                        have hyn := coll_none ccn
                        subst hyn
                        have T₃₂ : Tb g₃₂ h₃₂ := T₃₁.grow G₃₂ nf105
                        refine not_of ?_
                        refine t_list (hDn.at fun o e => F₃₂.sub _ _ e) (by simp) ?_
                        intro tk₃₃
                        exact q g₃₂ h₃₂ _ (staysIn_trans GA₁₂.gg (staysIn_trans G₁₃.gg (staysIn_trans s1331 (staysIn_trans G₃₂.gg F₃₂.sub)))) T₃₂
        · exact hsub_of (by intro p hp; rcases List.mem_cons.mp hp with rfl | hp; exact ⟨rfl, rfl⟩; cases hp)
      · intro m c e; cases e
    · intro m c e; cases e
  · exact hsub_of (by intro p hp; rcases List.mem_cons.mp hp with rfl | hp; exact ⟨rfl, rfl⟩; rcases List.mem_cons.mp hp with rfl | hp; exact ⟨rfl, rfl⟩; cases hp)
end
end Mine
end

/-! text FinPre -/
section
open PySem PySem.W PyProof.Rows PySem.Spec PySem.Calls PySem.SeqAt
set_option Elab.async false
set_option maxRecDepth 100000
set_option linter.unusedVariables false
namespace Mine
theorem isc : ∀ (names : List (Str × NameKind)) (n0 : Nat) (acc : List (Str × Addr)) (n : Str) (c : Addr), (n, c) ∈ cellsFrom n0 names acc → (n, c) ∈ acc ∨ (n, NameKind.cell) ∈ names := by
  intro names
  induction names with
  | nil => intro n0 acc n c hm; exact .inl hm
  | cons p r ih =>
    obtain ⟨y, kd⟩ := p
    intro n0 acc n c hm
    unfold cellsFrom at hm
    split at hm
    · rename_i hkd
      rcases ih _ _ _ _ hm with q | q
      · rcases List.mem_cons.mp q with q | q
        · cases q; have : kd = .cell := by simpa using hkd
          subst this; exact .inr (.head _)
        · exact .inl q
      · exact .inr (.tail _ q)
    · rcases ih _ _ _ _ hm with q | q
      · exact .inl q
      · exact .inr (.tail _ q)
theorem cells_ab {L : Nat} : ∀ (names : List (Str × NameKind)) (n : Nat) (acc : List (Str × Addr)), L < n → (∀ p ∈ acc, L < p.2 ∧ p.2 < n) → acc.Pairwise (fun x y => x.2 ≠ y.2) → (cellsFrom n names acc).Pairwise (fun x y => x.2 ≠ y.2) ∧ ∀ p ∈ cellsFrom n names acc, L < p.2
  | [], n, acc, hL, h1, h2 => ⟨h2, fun p hp => (h1 p hp).1⟩
  | (y, kd) :: r, n, acc, hL, h1, h2 => by
    unfold cellsFrom
    split
    · refine cells_ab r (n + 1) _ (by omega) (fun p hp => ?_) (List.Pairwise.cons (fun p hp => ?_) h2)
      · rcases List.mem_cons.mp hp with rfl | hp
        · exact ⟨hL, Nat.lt_succ_self _⟩
        · exact ⟨(h1 p hp).1, Nat.lt_succ_of_lt (h1 p hp).2⟩
      · exact Nat.ne_of_gt (h1 p hp).2
    · exact cells_ab r n acc hL h1 h2
theorem cl_of {h₀ h : Heap} {L : Addr} {cm : Str → Option Value} {names : List (Str × NameKind)} {cells tl : List (Addr × Obj)} (N : News h₀ L h (cells ++ tl)) (X : CellsAre cm (cellsFrom (L + 1) names []) cells) : Cl L (cellsFrom (L + 1) names []) h cm := by
  have := cells_ab (L := L) names (L + 1) [] (Nat.lt_succ_self _) (fun _ h => nomatch h) .nil
  exact Cl.of_news (own := []) (fun p hp => N p (List.mem_append_left _ hp)) X this.1 fun n c hm => this.2 (n, c) hm
theorem fm_of {ω : Ws} {g h : Heap} {nm : Str} {scope : Scope} {L f : Addr} {cd : Value} {vm m cm : Str → Option Value} (W : Wd ω g) (S : g.StaysIn h) (hm : h.Ns L m) (X : Cl L (cellsFrom (L + 1) scope.names []) h cm) (hL : g.objs.size ≤ L)
    (hloc : ∀ x v, scope.names.lookup x = some .local → vm x = some v → m x = some v) (hcm : ∀ n c, (n, c) ∈ cellsFrom (L + 1) scope.names [] → cm n = vm n)
    (hkc : ∀ y ∈ scope.names, y.2 = .cell → scope.names.lookup y.1 = some .cell) : Fm ω g (envF nm scope L f cd) vm h := by
  have kn : ∀ n c, (cellsFrom (L + 1) scope.names []).lookup n = some c → scope.names.lookup n = some .cell := fun n c e => by
    rcases isc _ _ _ _ _ (mem_of_lookup e) with q | q
    · cases q
    · exact hkc _ q rfl
  refine ⟨W, S, ⟨m, hm, hloc⟩, fun n c e => ?_, fun n n' c e e' => name_of_addr X.apart (mem_of_lookup e) (mem_of_lookup e'), Heap.get?_none_of_le hL, fun n c e _ => ?_, fun n c e hnk => absurd (kn n c e) hnk⟩
  · have := X.cell n c e
    rw [hcm n c (mem_of_lookup e)] at this
    exact this
  · exact Heap.get?_none_of_le (Nat.le_trans hL (Nat.le_of_lt (X.above n c (mem_of_lookup e))))
theorem bm_of {h : Heap} {mg : Str → Option Value} {p : Program} {loose : List Str} {mean : ExcName → Option Value} {mb : Str → Option Value} (T : Top p loose mean mg mb h) (n : h.get? 105 = none) : h.BuiltinsAt mg 105 := by
  obtain ⟨bm, ob, e1, e2, e3, e4, e5, e6⟩ := T.bmain
  refine ⟨bm, ob, e1, e2, ?_, ?_, e3, e4, e5, e6⟩
  · rintro rfl
    obtain ⟨o, es, ep, ho, hd, _⟩ := T.g
    have ho' : h.get? mainGlobals = some o := ho
    rw [e3] at ho'; cases ho'
    rw [e6] at hd; cases hd
  · rintro rfl
    rw [e3] at n; cases n
end Mine
end

/-! text Fin -/
open PySem PySem.W PyProof.Rows PySem.Spec PySem.Calls PySem.SeqAt
set_option Elab.async false
set_option maxRecDepth 100000 in
set_option maxHeartbeats 8000000 in
theorem PySem.Challenge.cw_op0033_01_holds : PySem.Challenge.rw_op0033_01.Holds := by
  refine Mine.hd rfl rfl rfl ?_
  k_go0
  rename_i w s₀ s₁ mg mb G Y fa o pm cd doc ho hcd hg X V T B TE TW ns hs hlay0 hL1 hr1 hl2 as1 as2 sl vs as3 hL ra w1 r0 hI hr hc1 hc2 hD h₁ tk₁ o1 o2 o3 o4 o5 o6 o7 e1 e2 e3 e4 e5 e6 e7 X0 X' T' K' F' N' l0
  have n105 : (ghostOf s₁.heap [(109, 105)]).get? 105 = none := hideAll_none _ (by simp)
  have W : Mine.Wd ⟨w, mg, mb⟩ (ghostOf s₁.heap [(109, 105)]) := ⟨X', T'.g, T'.b, T'.builtins, T'.nolimit, codeHd, Mine.bm_of T' n105⟩
  have t105 : h₁.get? 105 = some (tabObj #[]) := (N' (105, tabObj #[]) (by simp)).1
  have C := Mine.cl_of (cells := [_, _, _, _, _, _, _]) (tl := [_]) N' X0
  have FM := Mine.fm_of (nm := "law") (f := fa) (cd := cd) (vm := fun x => if x = "script" then some (.ref sl) else none) W F'.keep F'.ns C F'.above (fun x v hx hv => by
    exfalso
    split at hv
    · rename_i e; subst e; cases hx
    · cases hv) (fun n c hm => by
    rcases List.mem_cons.mp hm with e | hm
    · cases e; rfl
    rcases List.mem_cons.mp hm with e | hm
    · cases e; rfl
    rcases List.mem_cons.mp hm with e | hm
    · cases e; rfl
    rcases List.mem_cons.mp hm with e | hm
    · cases e; rfl
    rcases List.mem_cons.mp hm with e | hm
    · cases e; rfl
    rcases List.mem_cons.mp hm with e | hm
    · cases e; rfl
    rcases List.mem_cons.mp hm with e | hm
    · cases e; rfl
    cases hm) (by decide)
  refine Mine.law_walk (ω := ⟨w, mg, mb⟩) rfl (vm := fun x => if x = "script" then some (.ref sl) else none) rfl lifted hI (by omega) ⟨rfl, by show 1 + claimMargin + 1 + 80 ≤ 900; decide, by simp only [Around.deeper, callerA]; decide⟩ FM rfl rfl ⟨n105, .inl t105⟩ (fun ow => ow.elim (fun e => absurd (show (105 : Nat) = s₁.heap.objs.size from e) (Nat.ne_of_lt l0)) fun ⟨n, e, _⟩ => absurd (C.above n 105 (mem_of_lookup e)) (Nat.not_lt.mpr (Nat.le_of_lt l0))) ?_
  intro g' h' tk' s T
  refine ⟨⟨.inl ⟨.bool true, .bool true, [], rfl, fun cls => rfl, .bool true, postW_of (X := true) (by rfl) (by show WTm.value _ (.eq .res (.lit (.bool true))) _ = _; simp [WTm.value, PySem.W.same]) rfl, unshared_nil⟩, s, rfl, hg⟩, ?_, trivial⟩
  rcases T.2 with e | ⟨c, e, _⟩
  · exact ⟨_, e⟩
  · exact ⟨_, e⟩
