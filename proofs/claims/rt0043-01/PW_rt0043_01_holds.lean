import PyProof.Rows.All
import Wide.All
import OpenK.AllK
import Wide.FinOn
import PySem.Challenge.RW_rt0043_01
set_option Elab.async false
section
open PySem PySem.W PySem.Calls PyProof.Rows
set_option maxRecDepth 100000
set_option maxHeartbeats 0
namespace Mine
def sAt (i : Nat) : Stmt := (PySem.Challenge.pw_rt0043_01.main.body[i]?).getD (.Pass default)
def aP : Stmt → Arguments | .FunctionDef _ a .. => a | _ => default
def bP : Stmt → List Stmt | .FunctionDef _ _ b .. => b | _ => []
def cP : Stmt → Scope | .FunctionDef _ _ _ _ _ _ c .. => c | _ => default
def hd.heap_39 : Params → Frag := fun P => 
    (nat_lit 2, ({ cls := Value.none, data := Data.dict #[] } : Obj)) ::
    (nat_lit 3, ({ cls := Value.type "dict", data := Data.dict #[{ hash := PyData.keyHash P (Str.ofString "__name__"), key := Value.str (Str.ofString "__name__") 165, val := Value.str (Str.ofString "law_rt0043_01") 440 }, { hash := PyData.keyHash P (Str.ofString "__doc__"), key := Value.str (Str.ofString "__doc__") 166, val := Value.none }, { hash := PyData.keyHash P (Str.ofString "__package__"), key := Value.str (Str.ofString "__package__") 167, val := Value.none }, { hash := PyData.keyHash P (Str.ofString "__loader__"), key := Value.str (Str.ofString "__loader__") 168, val := Value.builtin "__main__.__loader__#opaque" }, { hash := PyData.keyHash P (Str.ofString "__spec__"), key := Value.str (Str.ofString "__spec__") 169, val := Value.none }, { hash := PyData.keyHash P (Str.ofString "__annotations__"), key := Value.str (Str.ofString "__annotations__") 170, val := Value.ref 6 }, { hash := PyData.keyHash P (Str.ofString "__builtins__"), key := Value.str (Str.ofString "__builtins__") 171, val := Value.ref 4 }, { hash := PyData.keyHash P (Str.ofString "__file__"), key := Value.str (Str.ofString "__file__") 173, val := Value.str (Str.ofString "/claim/cut.py") 172 }, { hash := PyData.keyHash P (Str.ofString "__cached__"), key := Value.str (Str.ofString "__cached__") 174, val := Value.none }, { hash := PyData.keyHash P (Str.ofString "_wall"), key := Value.str (Str.ofString "_wall") 193, val := Value.ref 21 }, { hash := PyData.keyHash P (Str.ofString "_plain_name"), key := Value.str (Str.ofString "_plain_name") 204, val := Value.ref 28 }, { hash := PyData.keyHash P (Str.ofString "ABCMeta"), key := Value.str (Str.ofString "ABCMeta") 230, val := Value.ref 45 }, { hash := PyData.keyHash P (Str.ofString "_ABCLike"), key := Value.str (Str.ofString "_ABCLike") 273, val := Value.ref 78 }, { hash := PyData.keyHash P (Str.ofString "_abc_plain_meta"), key := Value.str (Str.ofString "_abc_plain_meta") 280, val := Value.ref 87 }, { hash := PyData.keyHash P (Str.ofString "fspath"), key := Value.str (Str.ofString "fspath") 292, val := Value.ref 94 }, { hash := PyData.keyHash P (Str.ofString "_check_arg_types"), key := Value.str (Str.ofString "_check_arg_types") 305, val := Value.ref 101 }, { hash := PyData.keyHash P (Str.ofString "_get_sep"), key := Value.str (Str.ofString "_get_sep") 314, val := Value.ref 108 }, { hash := PyData.keyHash P (Str.ofString "join"), key := Value.str (Str.ofString "join") 325, val := Value.ref 115 }, { hash := PyData.keyHash P (Str.ofString "basename"), key := Value.str (Str.ofString "basename") 334, val := Value.ref 122 }, { hash := PyData.keyHash P (Str.ofString "dirname"), key := Value.str (Str.ofString "dirname") 344, val := Value.ref 129 }, { hash := PyData.keyHash P (Str.ofString "read_uint1"), key := Value.str (Str.ofString "read_uint1") 354, val := Value.ref 136 }, { hash := PyData.keyHash P (Str.ofString "S_IFMT"), key := Value.str (Str.ofString "S_IFMT") 363, val := Value.ref 143 }, { hash := PyData.keyHash P (Str.ofString "S_IFDIR"), key := Value.str (Str.ofString "S_IFDIR") 365, val := Value.int 16384 364 }, { hash := PyData.keyHash P (Str.ofString "S_IFCHR"), key := Value.str (Str.ofString "S_IFCHR") 367, val := Value.int 8192 366 }, { hash := PyData.keyHash P (Str.ofString "S_IFBLK"), key := Value.str (Str.ofString "S_IFBLK") 369, val := Value.int 24576 368 }, { hash := PyData.keyHash P (Str.ofString "S_IFREG"), key := Value.str (Str.ofString "S_IFREG") 371, val := Value.int 32768 370 }, { hash := PyData.keyHash P (Str.ofString "S_IFIFO"), key := Value.str (Str.ofString "S_IFIFO") 373, val := Value.int 4096 372 }, { hash := PyData.keyHash P (Str.ofString "S_IFLNK"), key := Value.str (Str.ofString "S_IFLNK") 375, val := Value.int 40960 374 }, { hash := PyData.keyHash P (Str.ofString "S_IFSOCK"), key := Value.str (Str.ofString "S_IFSOCK") 377, val := Value.int 49152 376 }, { hash := PyData.keyHash P (Str.ofString "S_ISUID"), key := Value.str (Str.ofString "S_ISUID") 379, val := Value.int 2048 378 }, { hash := PyData.keyHash P (Str.ofString "S_ISGID"), key := Value.str (Str.ofString "S_ISGID") 381, val := Value.int 1024 380 }, { hash := PyData.keyHash P (Str.ofString "S_ISVTX"), key := Value.str (Str.ofString "S_ISVTX") 383, val := Value.int 512 382 }, { hash := PyData.keyHash P (Str.ofString "S_IRUSR"), key := Value.str (Str.ofString "S_IRUSR") 385, val := Value.int 256 384 }, { hash := PyData.keyHash P (Str.ofString "S_IWUSR"), key := Value.str (Str.ofString "S_IWUSR") 387, val := Value.int 128 386 }, { hash := PyData.keyHash P (Str.ofString "S_IXUSR"), key := Value.str (Str.ofString "S_IXUSR") 389, val := Value.int 64 388 }, { hash := PyData.keyHash P (Str.ofString "S_IRGRP"), key := Value.str (Str.ofString "S_IRGRP") 391, val := Value.int 32 390 }, { hash := PyData.keyHash P (Str.ofString "S_IWGRP"), key := Value.str (Str.ofString "S_IWGRP") 393, val := Value.int 16 392 }, { hash := PyData.keyHash P (Str.ofString "S_IXGRP"), key := Value.str (Str.ofString "S_IXGRP") 395, val := Value.int 8 394 }, { hash := PyData.keyHash P (Str.ofString "S_IROTH"), key := Value.str (Str.ofString "S_IROTH") 397, val := Value.int 4 396 }, { hash := PyData.keyHash P (Str.ofString "S_IWOTH"), key := Value.str (Str.ofString "S_IWOTH") 399, val := Value.int 2 398 }, { hash := PyData.keyHash P (Str.ofString "S_IXOTH"), key := Value.str (Str.ofString "S_IXOTH") 401, val := Value.int 1 400 }, { hash := PyData.keyHash P (Str.ofString "_filemode_table"), key := Value.str (Str.ofString "_filemode_table") 427, val := Value.ref 176 }, { hash := PyData.keyHash P (Str.ofString "filemode"), key := Value.str (Str.ofString "filemode") 439, val := Value.ref 183 }, { hash := PyData.keyHash P (Str.ofString "_law_stream"), key := Value.str (Str.ofString "_law_stream") 452, val := Value.ref 190 }, { hash := PyData.keyHash P (Str.ofString "_law_octets"), key := Value.str (Str.ofString "_law_octets") 461, val := Value.ref 197 }, { hash := PyData.keyHash P (Str.ofString "_law_six"), key := Value.str (Str.ofString "_law_six") 467, val := Value.ref 202 }, { hash := PyData.keyHash P (Str.ofString "_law_names"), key := Value.str (Str.ofString "_law_names") 473, val := Value.ref 209 }, { hash := PyData.keyHash P (Str.ofString "_law_uppers"), key := Value.str (Str.ofString "_law_uppers") 479, val := Value.ref 214 }, { hash := PyData.keyHash P (Str.ofString "_law_way"), key := Value.str (Str.ofString "_law_way") 489, val := Value.ref 221 }, { hash := PyData.keyHash P (Str.ofString "_law_told"), key := Value.str (Str.ofString "_law_told") 495, val := Value.ref 226 }, { hash := PyData.keyHash P (Str.ofString "_law_tree"), key := Value.str (Str.ofString "_law_tree") 501, val := Value.ref 231 }, { hash := PyData.keyHash P (Str.ofString "law"), key := Value.str (Str.ofString "law") 509, val := Value.ref 238 }] 52 } : Obj)) ::
    (nat_lit 15, ({ cls := Value.type "tuple", data := Data.seq #[] } : Obj)) ::
    (nat_lit 17, ({ cls := Value.type "tuple", data := Data.seq #[Value.str (Str.ofString "k") 190] } : Obj)) ::
    (nat_lit 18, ({ cls := Value.type "tuple", data := Data.seq #[] } : Obj)) ::
    (nat_lit 20, ({ cls := Value.type "code", data := Data.fields #[Value.str (Str.ofString "_wall") 187, Value.str (Str.ofString "_wall") 188, Value.str (Str.ofString "/claim/cut.py") 189, Value.int 1 0, Value.int 1 0, Value.int 0 0, Value.int 0 0, Value.int 3 0, Value.ref 15, Value.bool true, Value.int 181 0, Value.ref 16, Value.none, Value.ref 17, Value.ref 18, Value.ref 19, Value.int 191 0, Value.int 1 0, Value.str (Str.ofString "/claim/cut.py") 192] } : Obj)) ::
    (nat_lit 21, ({ cls := Value.type "function", data := Data.func { name := Str.ofString "_wall", qualname := Str.ofString "_wall", params := aP (sAt 0), body := .stmts (bP (sAt 0)), scope := cP (sAt 0), globals := 3, closure := [], defaults := Value.none, kwdefaults := Value.none, pyModule := Value.str (Str.ofString "__main__") 164, code := Value.ref 20 } } : Obj)) ::
    (nat_lit 22, ({ cls := Value.type "tuple", data := Data.seq #[] } : Obj)) ::
    (nat_lit 24, ({ cls := Value.type "tuple", data := Data.seq #[Value.str (Str.ofString "x") 199, Value.str (Str.ofString "what") 200, Value.str (Str.ofString "kind") 201] } : Obj)) ::
    (nat_lit 25, ({ cls := Value.type "tuple", data := Data.seq #[] } : Obj)) ::
    (nat_lit 27, ({ cls := Value.type "code", data := Data.fields #[Value.str (Str.ofString "_plain_name") 196, Value.str (Str.ofString "_plain_name") 197, Value.str (Str.ofString "/claim/cut.py") 198, Value.int 5 0, Value.int 2 0, Value.int 0 0, Value.int 0 0, Value.int 3 0, Value.ref 22, Value.bool true, Value.int 181 0, Value.ref 23, Value.none, Value.ref 24, Value.ref 25, Value.ref 26, Value.int 202 0, Value.int 5 0, Value.str (Str.ofString "/claim/cut.py") 203] } : Obj)) ::
    (nat_lit 28, ({ cls := Value.type "function", data := Data.func { name := Str.ofString "_plain_name", qualname := Str.ofString "_plain_name", params := aP (sAt 2), body := .stmts (bP (sAt 2)), scope := cP (sAt 2), globals := 3, closure := [], defaults := Value.none, kwdefaults := Value.none, pyModule := Value.str (Str.ofString "os") 194, code := Value.ref 27 } } : Obj)) ::
    (nat_lit 81, ({ cls := Value.type "tuple", data := Data.seq #[] } : Obj)) ::
    (nat_lit 83, ({ cls := Value.type "tuple", data := Data.seq #[Value.str (Str.ofString "C") 277] } : Obj)) ::
    (nat_lit 84, ({ cls := Value.type "tuple", data := Data.seq #[] } : Obj)) ::
    (nat_lit 86, ({ cls := Value.type "code", data := Data.fields #[Value.str (Str.ofString "_abc_plain_meta") 274, Value.str (Str.ofString "_abc_plain_meta") 275, Value.str (Str.ofString "/claim/cut.py") 276, Value.int 31 0, Value.int 1 0, Value.int 0 0, Value.int 0 0, Value.int 3 0, Value.ref 81, Value.bool true, Value.int 181 0, Value.ref 82, Value.none, Value.ref 83, Value.ref 84, Value.ref 85, Value.int 278 0, Value.int 31 0, Value.str (Str.ofString "/claim/cut.py") 279] } : Obj)) ::
    (nat_lit 87, ({ cls := Value.type "function", data := Data.func { name := Str.ofString "_abc_plain_meta", qualname := Str.ofString "_abc_plain_meta", params := aP (sAt 7), body := .stmts (bP (sAt 7)), scope := cP (sAt 7), globals := 3, closure := [], defaults := Value.none, kwdefaults := Value.none, pyModule := Value.str (Str.ofString "collections.abc") 231, code := Value.ref 86 } } : Obj)) ::
    (nat_lit 88, ({ cls := Value.type "tuple", data := Data.seq #[] } : Obj)) ::
    (nat_lit 90, ({ cls := Value.type "tuple", data := Data.seq #[Value.str (Str.ofString "path") 286, Value.str (Str.ofString "kind") 287, Value.str (Str.ofString "hook") 288, Value.str (Str.ofString "given") 289] } : Obj)) ::
    (nat_lit 91, ({ cls := Value.type "tuple", data := Data.seq #[] } : Obj)) ::
    (nat_lit 93, ({ cls := Value.type "code", data := Data.fields #[Value.str (Str.ofString "fspath") 283, Value.str (Str.ofString "fspath") 284, Value.str (Str.ofString "/claim/cut.py") 285, Value.int 35 0, Value.int 1 0, Value.int 0 0, Value.int 0 0, Value.int 3 0, Value.ref 88, Value.bool true, Value.int 181 0, Value.ref 89, Value.none, Value.ref 90, Value.ref 91, Value.ref 92, Value.int 290 0, Value.int 35 0, Value.str (Str.ofString "/claim/cut.py") 291] } : Obj)) ::
    (nat_lit 94, ({ cls := Value.type "function", data := Data.func { name := Str.ofString "fspath", qualname := Str.ofString "fspath", params := aP (sAt 9), body := .stmts (bP (sAt 9)), scope := cP (sAt 9), globals := 3, closure := [], defaults := Value.none, kwdefaults := Value.none, pyModule := Value.str (Str.ofString "os") 281, code := Value.ref 93 } } : Obj)) ::
    (nat_lit 95, ({ cls := Value.type "tuple", data := Data.seq #[] } : Obj)) ::
    (nat_lit 97, ({ cls := Value.type "tuple", data := Data.seq #[Value.str (Str.ofString "funcname") 298, Value.str (Str.ofString "args") 299, Value.str (Str.ofString "hasstr") 300, Value.str (Str.ofString "hasbytes") 301, Value.str (Str.ofString "s") 302] } : Obj)) ::
    (nat_lit 98, ({ cls := Value.type "tuple", data := Data.seq #[] } : Obj)) ::
    (nat_lit 100, ({ cls := Value.type "code", data := Data.fields #[Value.str (Str.ofString "_check_arg_types") 295, Value.str (Str.ofString "_check_arg_types") 296, Value.str (Str.ofString "/claim/cut.py") 297, Value.int 52 0, Value.int 1 0, Value.int 0 0, Value.int 0 0, Value.int 7 0, Value.ref 95, Value.bool true, Value.int 181 0, Value.ref 96, Value.none, Value.ref 97, Value.ref 98, Value.ref 99, Value.int 303 0, Value.int 52 0, Value.str (Str.ofString "/claim/cut.py") 304] } : Obj)) ::
    (nat_lit 101, ({ cls := Value.type "function", data := Data.func { name := Str.ofString "_check_arg_types", qualname := Str.ofString "_check_arg_types", params := aP (sAt 11), body := .stmts (bP (sAt 11)), scope := cP (sAt 11), globals := 3, closure := [], defaults := Value.none, kwdefaults := Value.none, pyModule := Value.str (Str.ofString "cpy313.genericpath") 293, code := Value.ref 100 } } : Obj)) ::
    (nat_lit 102, ({ cls := Value.type "tuple", data := Data.seq #[] } : Obj)) ::
    (nat_lit 104, ({ cls := Value.type "tuple", data := Data.seq #[Value.str (Str.ofString "path") 311] } : Obj)) ::
    (nat_lit 105, ({ cls := Value.type "tuple", data := Data.seq #[] } : Obj)) ::
    (nat_lit 107, ({ cls := Value.type "code", data := Data.fields #[Value.str (Str.ofString "_get_sep") 308, Value.str (Str.ofString "_get_sep") 309, Value.str (Str.ofString "/claim/cut.py") 310, Value.int 64 0, Value.int 1 0, Value.int 0 0, Value.int 0 0, Value.int 3 0, Value.ref 102, Value.bool true, Value.int 181 0, Value.ref 103, Value.none, Value.ref 104, Value.ref 105, Value.ref 106, Value.int 312 0, Value.int 64 0, Value.str (Str.ofString "/claim/cut.py") 313] } : Obj)) ::
    (nat_lit 108, ({ cls := Value.type "function", data := Data.func { name := Str.ofString "_get_sep", qualname := Str.ofString "_get_sep", params := aP (sAt 13), body := .stmts (bP (sAt 13)), scope := cP (sAt 13), globals := 3, closure := [], defaults := Value.none, kwdefaults := Value.none, pyModule := Value.str (Str.ofString "cpy313.posixpath") 306, code := Value.ref 107 } } : Obj)) ::
    (nat_lit 109, ({ cls := Value.type "tuple", data := Data.seq #[] } : Obj)) ::
    (nat_lit 111, ({ cls := Value.type "tuple", data := Data.seq #[Value.str (Str.ofString "a") 318, Value.str (Str.ofString "p") 319, Value.str (Str.ofString "sep") 320, Value.str (Str.ofString "path") 321, Value.str (Str.ofString "b") 322] } : Obj)) ::
    (nat_lit 112, ({ cls := Value.type "tuple", data := Data.seq #[] } : Obj)) ::
    (nat_lit 114, ({ cls := Value.type "code", data := Data.fields #[Value.str (Str.ofString "join") 315, Value.str (Str.ofString "join") 316, Value.str (Str.ofString "/claim/cut.py") 317, Value.int 69 0, Value.int 1 0, Value.int 0 0, Value.int 0 0, Value.int 7 0, Value.ref 109, Value.bool true, Value.int 181 0, Value.ref 110, Value.none, Value.ref 111, Value.ref 112, Value.ref 113, Value.int 323 0, Value.int 69 0, Value.str (Str.ofString "/claim/cut.py") 324] } : Obj)) ::
    (nat_lit 115, ({ cls := Value.type "function", data := Data.func { name := Str.ofString "join", qualname := Str.ofString "join", params := aP (sAt 14), body := .stmts (bP (sAt 14)), scope := cP (sAt 14), globals := 3, closure := [], defaults := Value.none, kwdefaults := Value.none, pyModule := Value.str (Str.ofString "cpy313.posixpath") 306, code := Value.ref 114 } } : Obj)) ::
    (nat_lit 116, ({ cls := Value.type "tuple", data := Data.seq #[] } : Obj)) ::
    (nat_lit 118, ({ cls := Value.type "tuple", data := Data.seq #[Value.str (Str.ofString "p") 329, Value.str (Str.ofString "sep") 330, Value.str (Str.ofString "i") 331] } : Obj)) ::
    (nat_lit 119, ({ cls := Value.type "tuple", data := Data.seq #[] } : Obj)) ::
    (nat_lit 121, ({ cls := Value.type "code", data := Data.fields #[Value.str (Str.ofString "basename") 326, Value.str (Str.ofString "basename") 327, Value.str (Str.ofString "/claim/cut.py") 328, Value.int 86 0, Value.int 1 0, Value.int 0 0, Value.int 0 0, Value.int 3 0, Value.ref 116, Value.bool true, Value.int 181 0, Value.ref 117, Value.none, Value.ref 118, Value.ref 119, Value.ref 120, Value.int 332 0, Value.int 86 0, Value.str (Str.ofString "/claim/cut.py") 333] } : Obj)) ::
    (nat_lit 122, ({ cls := Value.type "function", data := Data.func { name := Str.ofString "basename", qualname := Str.ofString "basename", params := aP (sAt 15), body := .stmts (bP (sAt 15)), scope := cP (sAt 15), globals := 3, closure := [], defaults := Value.none, kwdefaults := Value.none, pyModule := Value.str (Str.ofString "cpy313.posixpath") 306, code := Value.ref 121 } } : Obj)) ::
    (nat_lit 123, ({ cls := Value.type "tuple", data := Data.seq #[] } : Obj)) ::
    (nat_lit 125, ({ cls := Value.type "tuple", data := Data.seq #[Value.str (Str.ofString "p") 338, Value.str (Str.ofString "sep") 339, Value.str (Str.ofString "i") 340, Value.str (Str.ofString "head") 341] } : Obj)) ::
    (nat_lit 126, ({ cls := Value.type "tuple", data := Data.seq #[] } : Obj)) ::
    (nat_lit 128, ({ cls := Value.type "code", data := Data.fields #[Value.str (Str.ofString "dirname") 335, Value.str (Str.ofString "dirname") 336, Value.str (Str.ofString "/claim/cut.py") 337, Value.int 91 0, Value.int 1 0, Value.int 0 0, Value.int 0 0, Value.int 3 0, Value.ref 123, Value.bool true, Value.int 181 0, Value.ref 124, Value.none, Value.ref 125, Value.ref 126, Value.ref 127, Value.int 342 0, Value.int 91 0, Value.str (Str.ofString "/claim/cut.py") 343] } : Obj)) ::
    (nat_lit 129, ({ cls := Value.type "function", data := Data.func { name := Str.ofString "dirname", qualname := Str.ofString "dirname", params := aP (sAt 16), body := .stmts (bP (sAt 16)), scope := cP (sAt 16), globals := 3, closure := [], defaults := Value.none, kwdefaults := Value.none, pyModule := Value.str (Str.ofString "cpy313.posixpath") 306, code := Value.ref 128 } } : Obj)) ::
    (nat_lit 130, ({ cls := Value.type "tuple", data := Data.seq #[] } : Obj)) ::
    (nat_lit 132, ({ cls := Value.type "tuple", data := Data.seq #[Value.str (Str.ofString "f") 350, Value.str (Str.ofString "data") 351] } : Obj)) ::
    (nat_lit 133, ({ cls := Value.type "tuple", data := Data.seq #[] } : Obj)) ::
    (nat_lit 135, ({ cls := Value.type "code", data := Data.fields #[Value.str (Str.ofString "read_uint1") 347, Value.str (Str.ofString "read_uint1") 348, Value.str (Str.ofString "/claim/cut.py") 349, Value.int 100 0, Value.int 1 0, Value.int 0 0, Value.int 0 0, Value.int 3 0, Value.ref 130, Value.bool true, Value.int 181 0, Value.ref 131, Value.none, Value.ref 132, Value.ref 133, Value.ref 134, Value.int 352 0, Value.int 100 0, Value.str (Str.ofString "/claim/cut.py") 353] } : Obj)) ::
    (nat_lit 136, ({ cls := Value.type "function", data := Data.func { name := Str.ofString "read_uint1", qualname := Str.ofString "read_uint1", params := aP (sAt 18), body := .stmts (bP (sAt 18)), scope := cP (sAt 18), globals := 3, closure := [], defaults := Value.none, kwdefaults := Value.none, pyModule := Value.str (Str.ofString "cpy313.pickletools") 345, code := Value.ref 135 } } : Obj)) ::
    (nat_lit 137, ({ cls := Value.type "tuple", data := Data.seq #[] } : Obj)) ::
    (nat_lit 139, ({ cls := Value.type "tuple", data := Data.seq #[Value.str (Str.ofString "mode") 360] } : Obj)) ::
    (nat_lit 140, ({ cls := Value.type "tuple", data := Data.seq #[] } : Obj)) ::
    (nat_lit 142, ({ cls := Value.type "code", data := Data.fields #[Value.str (Str.ofString "S_IFMT") 357, Value.str (Str.ofString "S_IFMT") 358, Value.str (Str.ofString "/claim/cut.py") 359, Value.int 106 0, Value.int 1 0, Value.int 0 0, Value.int 0 0, Value.int 3 0, Value.ref 137, Value.bool true, Value.int 181 0, Value.ref 138, Value.none, Value.ref 139, Value.ref 140, Value.ref 141, Value.int 361 0, Value.int 106 0, Value.str (Str.ofString "/claim/cut.py") 362] } : Obj)) ::
    (nat_lit 143, ({ cls := Value.type "function", data := Data.func { name := Str.ofString "S_IFMT", qualname := Str.ofString "S_IFMT", params := aP (sAt 20), body := .stmts (bP (sAt 20)), scope := cP (sAt 20), globals := 3, closure := [], defaults := Value.none, kwdefaults := Value.none, pyModule := Value.str (Str.ofString "cpy313.stat") 355, code := Value.ref 142 } } : Obj)) ::
    (nat_lit 144, ({ cls := Value.type "tuple", data := Data.seq #[Value.int 40960 374, Value.str (Str.ofString "l") 402] } : Obj)) ::
    (nat_lit 145, ({ cls := Value.type "tuple", data := Data.seq #[Value.int 49152 376, Value.str (Str.ofString "s") 403] } : Obj)) ::
    (nat_lit 146, ({ cls := Value.type "tuple", data := Data.seq #[Value.int 32768 370, Value.str (Str.ofString "-") 404] } : Obj)) ::
    (nat_lit 147, ({ cls := Value.type "tuple", data := Data.seq #[Value.int 24576 368, Value.str (Str.ofString "b") 405] } : Obj)) ::
    (nat_lit 148, ({ cls := Value.type "tuple", data := Data.seq #[Value.int 16384 364, Value.str (Str.ofString "d") 406] } : Obj)) ::
    (nat_lit 149, ({ cls := Value.type "tuple", data := Data.seq #[Value.int 8192 366, Value.str (Str.ofString "c") 407] } : Obj)) ::
    (nat_lit 150, ({ cls := Value.type "tuple", data := Data.seq #[Value.int 4096 372, Value.str (Str.ofString "p") 408] } : Obj)) ::
    (nat_lit 151, ({ cls := Value.type "tuple", data := Data.seq #[Value.ref 144, Value.ref 145, Value.ref 146, Value.ref 147, Value.ref 148, Value.ref 149, Value.ref 150] } : Obj)) ::
    (nat_lit 152, ({ cls := Value.type "tuple", data := Data.seq #[Value.int 256 384, Value.str (Str.ofString "r") 409] } : Obj)) ::
    (nat_lit 153, ({ cls := Value.type "tuple", data := Data.seq #[Value.ref 152] } : Obj)) ::
    (nat_lit 154, ({ cls := Value.type "tuple", data := Data.seq #[Value.int 128 386, Value.str (Str.ofString "w") 410] } : Obj)) ::
    (nat_lit 155, ({ cls := Value.type "tuple", data := Data.seq #[Value.ref 154] } : Obj)) ::
    (nat_lit 156, ({ cls := Value.type "tuple", data := Data.seq #[Value.int 2112 411, Value.str (Str.ofString "s") 412] } : Obj)) ::
    (nat_lit 157, ({ cls := Value.type "tuple", data := Data.seq #[Value.int 2048 378, Value.str (Str.ofString "S") 413] } : Obj)) ::
    (nat_lit 158, ({ cls := Value.type "tuple", data := Data.seq #[Value.int 64 388, Value.str (Str.ofString "x") 414] } : Obj)) ::
    (nat_lit 159, ({ cls := Value.type "tuple", data := Data.seq #[Value.ref 156, Value.ref 157, Value.ref 158] } : Obj)) ::
    (nat_lit 160, ({ cls := Value.type "tuple", data := Data.seq #[Value.int 32 390, Value.str (Str.ofString "r") 415] } : Obj)) ::
    (nat_lit 161, ({ cls := Value.type "tuple", data := Data.seq #[Value.ref 160] } : Obj)) ::
    (nat_lit 162, ({ cls := Value.type "tuple", data := Data.seq #[Value.int 16 392, Value.str (Str.ofString "w") 416] } : Obj)) ::
    (nat_lit 163, ({ cls := Value.type "tuple", data := Data.seq #[Value.ref 162] } : Obj)) ::
    (nat_lit 164, ({ cls := Value.type "tuple", data := Data.seq #[Value.int 1032 417, Value.str (Str.ofString "s") 418] } : Obj)) ::
    (nat_lit 165, ({ cls := Value.type "tuple", data := Data.seq #[Value.int 1024 380, Value.str (Str.ofString "S") 419] } : Obj)) ::
    (nat_lit 166, ({ cls := Value.type "tuple", data := Data.seq #[Value.int 8 394, Value.str (Str.ofString "x") 420] } : Obj)) ::
    (nat_lit 167, ({ cls := Value.type "tuple", data := Data.seq #[Value.ref 164, Value.ref 165, Value.ref 166] } : Obj)) ::
    (nat_lit 168, ({ cls := Value.type "tuple", data := Data.seq #[Value.int 4 396, Value.str (Str.ofString "r") 421] } : Obj)) ::
    (nat_lit 169, ({ cls := Value.type "tuple", data := Data.seq #[Value.ref 168] } : Obj)) ::
    (nat_lit 170, ({ cls := Value.type "tuple", data := Data.seq #[Value.int 2 398, Value.str (Str.ofString "w") 422] } : Obj)) ::
    (nat_lit 171, ({ cls := Value.type "tuple", data := Data.seq #[Value.ref 170] } : Obj)) ::
    (nat_lit 172, ({ cls := Value.type "tuple", data := Data.seq #[Value.int 513 423, Value.str (Str.ofString "t") 424] } : Obj)) ::
    (nat_lit 173, ({ cls := Value.type "tuple", data := Data.seq #[Value.int 512 382, Value.str (Str.ofString "T") 425] } : Obj)) ::
    (nat_lit 174, ({ cls := Value.type "tuple", data := Data.seq #[Value.int 1 400, Value.str (Str.ofString "x") 426] } : Obj)) ::
    (nat_lit 175, ({ cls := Value.type "tuple", data := Data.seq #[Value.ref 172, Value.ref 173, Value.ref 174] } : Obj)) ::
    (nat_lit 176, ({ cls := Value.type "tuple", data := Data.seq #[Value.ref 151, Value.ref 153, Value.ref 155, Value.ref 159, Value.ref 161, Value.ref 163, Value.ref 167, Value.ref 169, Value.ref 171, Value.ref 175] } : Obj)) ::
    (nat_lit 177, ({ cls := Value.type "tuple", data := Data.seq #[] } : Obj)) ::
    (nat_lit 179, ({ cls := Value.type "tuple", data := Data.seq #[Value.str (Str.ofString "mode") 431, Value.str (Str.ofString "perm") 432, Value.str (Str.ofString "index") 433, Value.str (Str.ofString "table") 434, Value.str (Str.ofString "bit") 435, Value.str (Str.ofString "char") 436] } : Obj)) ::
    (nat_lit 180, ({ cls := Value.type "tuple", data := Data.seq #[] } : Obj)) ::
    (nat_lit 182, ({ cls := Value.type "code", data := Data.fields #[Value.str (Str.ofString "filemode") 428, Value.str (Str.ofString "filemode") 429, Value.str (Str.ofString "/claim/cut.py") 430, Value.int 128 0, Value.int 1 0, Value.int 0 0, Value.int 0 0, Value.int 3 0, Value.ref 177, Value.bool true, Value.int 181 0, Value.ref 178, Value.none, Value.ref 179, Value.ref 180, Value.ref 181, Value.int 437 0, Value.int 128 0, Value.str (Str.ofString "/claim/cut.py") 438] } : Obj)) ::
    (nat_lit 183, ({ cls := Value.type "function", data := Data.func { name := Str.ofString "filemode", qualname := Str.ofString "filemode", params := aP (sAt 41), body := .stmts (bP (sAt 41)), scope := cP (sAt 41), globals := 3, closure := [], defaults := Value.none, kwdefaults := Value.none, pyModule := Value.str (Str.ofString "cpy313.stat") 355, code := Value.ref 182 } } : Obj)) ::
    (nat_lit 184, ({ cls := Value.type "tuple", data := Data.seq #[] } : Obj)) ::
    (nat_lit 186, ({ cls := Value.type "tuple", data := Data.seq #[Value.str (Str.ofString "octets") 445, Value.str (Str.ofString "stream") 446, Value.str (Str.ofString "_law_read") 447] } : Obj)) ::
    (nat_lit 187, ({ cls := Value.type "tuple", data := Data.seq #[Value.str (Str.ofString "octets") 448, Value.str (Str.ofString "at") 449] } : Obj)) ::
    (nat_lit 189, ({ cls := Value.type "code", data := Data.fields #[Value.str (Str.ofString "_law_stream") 442, Value.str (Str.ofString "_law_stream") 443, Value.str (Str.ofString "/claim/cut.py") 444, Value.int 146 0, Value.int 1 0, Value.int 0 0, Value.int 0 0, Value.int 3 0, Value.ref 184, Value.bool true, Value.int 181 0, Value.ref 185, Value.none, Value.ref 186, Value.ref 187, Value.ref 188, Value.int 450 0, Value.int 146 0, Value.str (Str.ofString "/claim/cut.py") 451] } : Obj)) ::
    (nat_lit 190, ({ cls := Value.type "function", data := Data.func { name := Str.ofString "_law_stream", qualname := Str.ofString "_law_stream", params := aP (sAt 43), body := .stmts (bP (sAt 43)), scope := cP (sAt 43), globals := 3, closure := [], defaults := Value.none, kwdefaults := Value.none, pyModule := Value.str (Str.ofString "law_rt0043_01") 440, code := Value.ref 189 } } : Obj)) ::
    (nat_lit 191, ({ cls := Value.type "tuple", data := Data.seq #[] } : Obj)) ::
    (nat_lit 193, ({ cls := Value.type "tuple", data := Data.seq #[Value.str (Str.ofString "x") 456, Value.str (Str.ofString "octets") 457, Value.str (Str.ofString "rights") 458] } : Obj)) ::
    (nat_lit 194, ({ cls := Value.type "tuple", data := Data.seq #[] } : Obj)) ::
    (nat_lit 196, ({ cls := Value.type "code", data := Data.fields #[Value.str (Str.ofString "_law_octets") 453, Value.str (Str.ofString "_law_octets") 454, Value.str (Str.ofString "/claim/cut.py") 455, Value.int 156 0, Value.int 1 0, Value.int 0 0, Value.int 0 0, Value.int 3 0, Value.ref 191, Value.bool true, Value.int 181 0, Value.ref 192, Value.none, Value.ref 193, Value.ref 194, Value.ref 195, Value.int 459 0, Value.int 156 0, Value.str (Str.ofString "/claim/cut.py") 460] } : Obj)) ::
    (nat_lit 197, ({ cls := Value.type "function", data := Data.func { name := Str.ofString "_law_octets", qualname := Str.ofString "_law_octets", params := aP (sAt 44), body := .stmts (bP (sAt 44)), scope := cP (sAt 44), globals := 3, closure := [], defaults := Value.none, kwdefaults := Value.none, pyModule := Value.str (Str.ofString "law_rt0043_01") 440, code := Value.ref 196 } } : Obj)) ::
    (nat_lit 198, ({ cls := Value.type "tuple", data := Data.seq #[] } : Obj)) ::
    (nat_lit 201, ({ cls := Value.type "code", data := Data.fields #[Value.str (Str.ofString "_law_six") 462, Value.str (Str.ofString "_law_six") 463, Value.str (Str.ofString "/claim/cut.py") 464, Value.int 161 0, Value.int 1 0, Value.int 0 0, Value.int 0 0, Value.int 3 0, Value.ref 198, Value.bool true, Value.int 181 0, Value.ref 199, Value.none, Value.none, Value.none, Value.ref 200, Value.int 465 0, Value.int 161 0, Value.str (Str.ofString "/claim/cut.py") 466] } : Obj)) ::
    (nat_lit 202, ({ cls := Value.type "function", data := Data.func { name := Str.ofString "_law_six", qualname := Str.ofString "_law_six", params := aP (sAt 45), body := .stmts (bP (sAt 45)), scope := cP (sAt 45), globals := 3, closure := [], defaults := Value.none, kwdefaults := Value.none, pyModule := Value.str (Str.ofString "law_rt0043_01") 440, code := Value.ref 201 } } : Obj)) ::
    (nat_lit 203, ({ cls := Value.type "tuple", data := Data.seq #[] } : Obj)) ::
    (nat_lit 205, ({ cls := Value.type "tuple", data := Data.seq #[] } : Obj)) ::
    (nat_lit 206, ({ cls := Value.type "tuple", data := Data.seq #[] } : Obj)) ::
    (nat_lit 208, ({ cls := Value.type "code", data := Data.fields #[Value.str (Str.ofString "_law_names") 468, Value.str (Str.ofString "_law_names") 469, Value.str (Str.ofString "/claim/cut.py") 470, Value.int 167 0, Value.int 0 0, Value.int 0 0, Value.int 0 0, Value.int 3 0, Value.ref 203, Value.bool true, Value.int 181 0, Value.ref 204, Value.none, Value.ref 205, Value.ref 206, Value.ref 207, Value.int 471 0, Value.int 167 0, Value.str (Str.ofString "/claim/cut.py") 472] } : Obj)) ::
    (nat_lit 209, ({ cls := Value.type "function", data := Data.func { name := Str.ofString "_law_names", qualname := Str.ofString "_law_names", params := aP (sAt 46), body := .stmts (bP (sAt 46)), scope := cP (sAt 46), globals := 3, closure := [], defaults := Value.none, kwdefaults := Value.none, pyModule := Value.str (Str.ofString "law_rt0043_01") 440, code := Value.ref 208 } } : Obj)) ::
    (nat_lit 210, ({ cls := Value.type "tuple", data := Data.seq #[] } : Obj)) ::
    (nat_lit 213, ({ cls := Value.type "code", data := Data.fields #[Value.str (Str.ofString "_law_uppers") 474, Value.str (Str.ofString "_law_uppers") 475, Value.str (Str.ofString "/claim/cut.py") 476, Value.int 169 0, Value.int 1 0, Value.int 0 0, Value.int 0 0, Value.int 3 0, Value.ref 210, Value.bool true, Value.int 181 0, Value.ref 211, Value.none, Value.none, Value.none, Value.ref 212, Value.int 477 0, Value.int 169 0, Value.str (Str.ofString "/claim/cut.py") 478] } : Obj)) ::
    (nat_lit 214, ({ cls := Value.type "function", data := Data.func { name := Str.ofString "_law_uppers", qualname := Str.ofString "_law_uppers", params := aP (sAt 47), body := .stmts (bP (sAt 47)), scope := cP (sAt 47), globals := 3, closure := [], defaults := Value.none, kwdefaults := Value.none, pyModule := Value.str (Str.ofString "law_rt0043_01") 440, code := Value.ref 213 } } : Obj)) ::
    (nat_lit 215, ({ cls := Value.type "tuple", data := Data.seq #[] } : Obj)) ::
    (nat_lit 217, ({ cls := Value.type "tuple", data := Data.seq #[Value.str (Str.ofString "uppers") 483, Value.str (Str.ofString "name") 484, Value.str (Str.ofString "way") 485, Value.str (Str.ofString "up") 486] } : Obj)) ::
    (nat_lit 218, ({ cls := Value.type "tuple", data := Data.seq #[] } : Obj)) ::
    (nat_lit 220, ({ cls := Value.type "code", data := Data.fields #[Value.str (Str.ofString "_law_way") 480, Value.str (Str.ofString "_law_way") 481, Value.str (Str.ofString "/claim/cut.py") 482, Value.int 178 0, Value.int 2 0, Value.int 0 0, Value.int 0 0, Value.int 3 0, Value.ref 215, Value.bool true, Value.int 181 0, Value.ref 216, Value.none, Value.ref 217, Value.ref 218, Value.ref 219, Value.int 487 0, Value.int 178 0, Value.str (Str.ofString "/claim/cut.py") 488] } : Obj)) ::
    (nat_lit 221, ({ cls := Value.type "function", data := Data.func { name := Str.ofString "_law_way", qualname := Str.ofString "_law_way", params := aP (sAt 48), body := .stmts (bP (sAt 48)), scope := cP (sAt 48), globals := 3, closure := [], defaults := Value.none, kwdefaults := Value.none, pyModule := Value.str (Str.ofString "law_rt0043_01") 440, code := Value.ref 220 } } : Obj)) ::
    (nat_lit 222, ({ cls := Value.type "tuple", data := Data.seq #[] } : Obj)) ::
    (nat_lit 225, ({ cls := Value.type "code", data := Data.fields #[Value.str (Str.ofString "_law_told") 490, Value.str (Str.ofString "_law_told") 491, Value.str (Str.ofString "/claim/cut.py") 492, Value.int 185 0, Value.int 1 0, Value.int 0 0, Value.int 0 0, Value.int 3 0, Value.ref 222, Value.bool true, Value.int 181 0, Value.ref 223, Value.none, Value.none, Value.none, Value.ref 224, Value.int 493 0, Value.int 185 0, Value.str (Str.ofString "/claim/cut.py") 494] } : Obj)) ::
    (nat_lit 226, ({ cls := Value.type "function", data := Data.func { name := Str.ofString "_law_told", qualname := Str.ofString "_law_told", params := aP (sAt 49), body := .stmts (bP (sAt 49)), scope := cP (sAt 49), globals := 3, closure := [], defaults := Value.none, kwdefaults := Value.none, pyModule := Value.str (Str.ofString "law_rt0043_01") 440, code := Value.ref 225 } } : Obj)) ::
    (nat_lit 227, ({ cls := Value.type "tuple", data := Data.seq #[] } : Obj)) ::
    (nat_lit 230, ({ cls := Value.type "code", data := Data.fields #[Value.str (Str.ofString "_law_tree") 496, Value.str (Str.ofString "_law_tree") 497, Value.str (Str.ofString "/claim/cut.py") 498, Value.int 194 0, Value.int 1 0, Value.int 0 0, Value.int 0 0, Value.int 3 0, Value.ref 227, Value.bool true, Value.int 181 0, Value.ref 228, Value.none, Value.none, Value.none, Value.ref 229, Value.int 499 0, Value.int 194 0, Value.str (Str.ofString "/claim/cut.py") 500] } : Obj)) ::
    (nat_lit 231, ({ cls := Value.type "function", data := Data.func { name := Str.ofString "_law_tree", qualname := Str.ofString "_law_tree", params := aP (sAt 50), body := .stmts (bP (sAt 50)), scope := cP (sAt 50), globals := 3, closure := [], defaults := Value.none, kwdefaults := Value.none, pyModule := Value.str (Str.ofString "law_rt0043_01") 440, code := Value.ref 230 } } : Obj)) ::
    (nat_lit 232, ({ cls := Value.type "tuple", data := Data.seq #[] } : Obj)) ::
    (nat_lit 234, ({ cls := Value.type "tuple", data := Data.seq #[Value.str (Str.ofString "script") 505, Value.str (Str.ofString "x") 506] } : Obj)) ::
    (nat_lit 235, ({ cls := Value.type "tuple", data := Data.seq #[] } : Obj)) ::
    (nat_lit 237, ({ cls := Value.type "code", data := Data.fields #[Value.str (Str.ofString "law") 502, Value.str (Str.ofString "law") 503, Value.str (Str.ofString "/claim/cut.py") 504, Value.int 214 0, Value.int 1 0, Value.int 0 0, Value.int 0 0, Value.int 3 0, Value.ref 232, Value.bool true, Value.int 181 0, Value.ref 233, Value.none, Value.ref 234, Value.ref 235, Value.ref 236, Value.int 507 0, Value.int 214 0, Value.str (Str.ofString "/claim/cut.py") 508] } : Obj)) ::
    (nat_lit 238, ({ cls := Value.type "function", data := Data.func { name := Str.ofString "law", qualname := Str.ofString "law", params := aP (sAt 51), body := .stmts (bP (sAt 51)), scope := cP (sAt 51), globals := 3, closure := [], defaults := Value.none, kwdefaults := Value.none, pyModule := Value.str (Str.ofString "law_rt0043_01") 440, code := Value.ref 237 } } : Obj)) :: []
def hdAs : List Addr := [2, 3, 15, 17, 18, 20, 21, 22, 24, 25, 27, 28, 81, 83, 84, 86, 87, 88, 90, 91, 93, 94, 95, 97, 98, 100, 101, 102, 104, 105, 107, 108, 109, 111, 112, 114, 115, 116, 118, 119, 121, 122, 123, 125, 126, 128, 129, 130, 132, 133, 135, 136, 137, 139, 140, 142, 143, 144, 145, 146, 147, 148, 149, 150, 151, 152, 153, 154, 155, 156, 157, 158, 159, 160, 161, 162, 163, 164, 165, 166, 167, 168, 169, 170, 171, 172, 173, 174, 175, 176, 177, 179, 180, 182, 183, 184, 186, 187, 189, 190, 191, 193, 194, 196, 197, 198, 201, 202, 203, 205, 206, 208, 209, 210, 213, 214, 215, 217, 218, 220, 221, 222, 225, 226, 227, 230, 231, 232, 234, 235, 237, 238]

abbrev QV : Program := view PySem.Challenge.pw_rt0043_01 [0, 2, 4, 6, 7, 9, 11, 13, 14, 15, 16, 18, 20, 21, 22, 23, 24, 25, 26, 27, 28, 29, 30, 31, 32, 33, 34, 35, 36, 37, 38, 39, 40, 41, 43, 44, 45, 46, 47, 48, 49, 50, 51]
def row1 (n : Int) (c : Nat) : WData := .tuple [.int n, .str { cps := #[c] }]
def LV : List (Str × WData) := [(Str.ofString "_filemode_table", .tuple [.tuple [row1 40960 108, row1 49152 115, row1 32768 45, row1 24576 98, row1 16384 100, row1 8192 99, row1 4096 112], .tuple [row1 256 114], .tuple [row1 128 119], .tuple [row1 2112 115, row1 2048 83, row1 64 120], .tuple [row1 32 114], .tuple [row1 16 119], .tuple [row1 1032 115, row1 1024 83, row1 8 120], .tuple [row1 4 114], .tuple [row1 2 119], .tuple [row1 513 116, row1 512 84, row1 1 120]])]
def HK : Hook := kmHook hd.heap_39 hdAs (fun _ => by kernel_rfl) [185]
abbrev RW9 : RowW := PySem.Challenge.rw_rt0043_01.row.toRowW
theorem left : LeftO PySem.Challenge.rw_rt0043_01.row.toRowW.prog QV [Str.ofString "_filemode_table"] (fun s => xlAt QV LV s && recOk (RowW.records RW9) s) (Hook.obs HK) (Hook.val HK) 3248 := fun w => by
  unfold openEnds fencedOpening topFrom openGood
  rw [PySem.W.Fast.te10274390034422433532, PySem.W.Fast.te14364793385576792824, PySem.W.Fast.te14082659384304107361, PySem.W.Fast.te14289696077712309145,PySem.W.Fast.te1435165496053646825, PySem.W.Fast.te4187177175401517315]
  kernel_rfl
end Mine
end
section
open PySem PySem.W PyProof.Rows PySem.Calls
set_option maxRecDepth 100000
set_option maxHeartbeats 8000000
namespace Mine
abbrev PG : Program := PySem.Challenge.rw_rt0043_01.row.prog
/-- what every heap of the run bears: the written part of the top, and the top's facts -/
structure Base (w : World) (h : Heap) : Prop where
  X : (Mine.hd.heap_39 w.params).In h
  T : ∃ loose mean mg mb, Top topProg loose mean mg mb h
theorem Base.keeps {w : World} {h h' : Heap} (B : Base w h) (k : ∀ b o, h.get? b = some o → h'.get? b = some o) : Base w h' :=
  ⟨B.X.keeps k, let ⟨l, me, mg, mb, T⟩ := B.T; ⟨l, me, mg, mb, T.keeps k⟩⟩
/-- room for n frames more -/
structure Room (A : Around) (n : Nat) : Prop where
  handled : A.handled = none
  depth : A.depth + n < recursionLimit
  units : A.units + 8 * n < cLine
theorem Room.deeper {A : Around} {n : Nat} {env : Env} (R : Room A (n + 1)) : Room (A.deeper env) n :=
  ⟨R.handled, by have := R.depth; show A.depth + 1 + n < _; omega, by have := R.units; show A.units + 3 + 8 * n < _; omega⟩
theorem Room.le {A : Around} {n k : Nat} (R : Room A n) (h : k ≤ n) : Room A k :=
  ⟨R.handled, by have := R.depth; omega, by have := R.units; omega⟩
/-- a call of a def, by what it gives back; nothing old is changed -/
def Spec (w : World) (f : Addr) (n : Nat) (args : List Value) (pre : Heap → Prop) (post : Heap → Value → Heap → Prop) : Prop :=
  ∀ (A : Around) (s : Shared) (Q E : Value → Shared → Prop), Room A n → Base w s.heap → pre s.heap →
    (∀ v h' tk, (∀ b o, s.heap.get? b = some o → h'.get? b = some o) → post s.heap v h' → Q v { s with heap := h', toks := tk }) →
    wpAny (model PG w) A (call (.ref f) args) Q E s

theorem Fr.keeps {h₀ h h' : Heap} {L : Addr} {m : Str → Option Value} (F : Fr h₀ L h m) (k : ∀ b o, h.get? b = some o → h'.get? b = some o) : Fr h₀ L h' m :=
  ⟨F.ns.keeps k, fun b o e => k b o (F.keep b o e), F.above⟩
theorem News.keeps {h₀ h h' : Heap} {L : Addr} {news : List (Addr × Obj)} (N : News h₀ L h news) (k : ∀ b o, h.get? b = some o → h'.get? b = some o) : News h₀ L h' news :=
  fun p hp => ⟨k _ _ (N p hp).1, (N p hp).2⟩

section
variable {w : World} {f : Addr} {n : Nat} {args : List Value} {pre : Heap → Prop} {post : Heap → Value → Heap → Prop} {A : Around} {s : Shared} {Q E : Value → Shared → Prop} {h₀ : Heap} {L : Addr} {m : Str → Option Value} {news : List (Addr × Obj)}
theorem Spec.use (S : Spec w f n args pre post) (R : Room A n) (F : Fr h₀ L s.heap m) (N : News h₀ L s.heap news) (B : Base w h₀) (hp : pre s.heap)
    (h : ∀ v h' tk, (∀ b o, s.heap.get? b = some o → h'.get? b = some o) → Fr h₀ L h' m → News h₀ L h' news → post s.heap v h' → Q v { s with heap := h', toks := tk }) :
    wpAny (model PG w) A (call (.ref f) args) Q E s :=
  S A s Q E R (B.keeps F.keep) hp fun v h' tk k p => h v h' tk k (Mine.Fr.keeps F k) (Mine.News.keeps N k) p

theorem enter {name qual : Str} {params : Arguments} {body : List Stmt} {scope : Scope} {dV kV doc pm cdv ct oc : Value} {an od : Option Addr} {osl : Array (Option Value)} {binds : List (Str × Value)}
    (R : Room A (n + 1)) (B : Base w s.heap)
    (ho : (Mine.hd.heap_39 w.params).lookup f = some ⟨oc, od, .func (fnOf name qual params body scope dV kV doc pm an cdv ct), osl⟩) (hcd : codeIn (Mine.hd.heap_39 w.params) cdv qual = true)
    (hbind : BindsTo s (fnOf name qual params body scope dV kV doc pm an cdv ct) ⟨args, []⟩ binds) (hloc : ∀ y ∈ binds, scope.names.lookup y.1 = some .local)
    (h : ∀ L h₁ tk loose mean mg mb, Fr s.heap L h₁ (fun y => binds.reverse.lookup y) → News s.heap L h₁ [] → (Mine.hd.heap_39 w.params).In s.heap → Top topProg loose mean mg mb s.heap → Room (A.deeper (envOf qual scope L f cdv)) n →
      wpAny (model PG w) (A.deeper (envOf qual scope L f cdv)) (execs body (envOf qual scope L f cdv)) (fun fl s' => Q (match fl with | .ret v => v | _ => .none) s') (fun _ _ => False) { s with heap := h₁, toks := tk })
    (hco : scope.isCoroutine = false) (hgen : scope.isGenerator = false) (hk : scope.kind = .function) (hcell : ∀ x ∈ scope.names, x.2 ≠ .cell) :
    wpAny (model PG w) A (call (.ref f) args) Q E s := by
  obtain ⟨X, loose, mean, mg, mb, T⟩ := B
  refine wpAny_call (codeAny_call_def (by have := R.depth; omega) (X _ _ ho) rfl T.nolimit (codeRec_of X hcd) rfl hbind hcell hloc (fun h₁ hns hk₁ => ?_) hco hgen hk)
  exact wpAny_mono (h _ h₁ _ loose mean mg mb ⟨hns, hk₁, Nat.le_refl _⟩ News.nil X T R.deeper) (fun _ _ q => q) fun _ _ q => q.elim

theorem enterC {name qual : Str} {params : Arguments} {body : List Stmt} {scope : Scope} {dV kV doc pm cdv ct oc : Value} {an od : Option Addr} {osl : Array (Option Value)} {binds : List (Str × Value)}
    (R : Room A (n + 1)) (B : Base w s.heap)
    (ho : (Mine.hd.heap_39 w.params).lookup f = some ⟨oc, od, .func (fnOf name qual params body scope dV kV doc pm an cdv ct), osl⟩) (hcd : codeIn (Mine.hd.heap_39 w.params) cdv qual = true)
    (hbind : BindsTo s (fnOf name qual params body scope dV kV doc pm an cdv ct) ⟨args, []⟩ binds)
    (hkind : (binds.all fun y => scope.names.lookup y.1 == some .local || scope.names.lookup y.1 == some .cell) = true)
    (hnd : ((cellsFrom 0 scope.names []).map (·.1)).Nodup)
    (h : ∀ L h₁ tk cells loose mean mg mb, Fr s.heap L h₁ (bindL (envOfC qual scope L f cdv).kindOf binds fun _ => none) → News s.heap L h₁ cells →
      CellsAre (bindC (envOfC qual scope L f cdv).kindOf binds fun _ => none) (cellsFrom (L + 1) scope.names []) cells →
      (Mine.hd.heap_39 w.params).In s.heap → Top topProg loose mean mg mb s.heap → Room (A.deeper (envOfC qual scope L f cdv)) n →
      wpAny (model PG w) (A.deeper (envOfC qual scope L f cdv)) (execs body (envOfC qual scope L f cdv)) (fun fl s' => Q (match fl with | .ret v => v | _ => .none) s') (fun _ _ => False) { s with heap := h₁, toks := tk })
    (hco : scope.isCoroutine = false) (hgen : scope.isGenerator = false) (hk : scope.kind = .function) :
    wpAny (model PG w) A (call (.ref f) args) Q E s := by
  obtain ⟨X, loose, mean, mg, mb, T⟩ := B
  refine wpAny_call (codeAny_call_function (by have := R.depth; omega) (X _ _ ho) rfl hco hgen rfl (codeRec_of X hcd) (hbind _ _ _ _ ?_))
  refine wpAny_newFunctionEnv_cells hk (kindsX hkind _) fun env' he s' x => ?_
  subst he
  refine ⟨T.nolimit.keeps x.toInCall.keep, codeAny_func ?_⟩
  obtain ⟨h₁, tk, rfl, _⟩ := x.done
  have hk₁ := x.toInCall.keep
  obtain ⟨cells, NC, Y⟩ := Cl.news (h₀ := s.heap) (Nat.le_refl _) fun n c hm => ⟨x.cell n c (lookup_of_mem_nodup (cellsFrom_names scope.names 0 (s.heap.objs.size + 1) [] [] rfl ▸ hnd) hm), x.above n c hm⟩
  exact wpAny_mono (h _ h₁ tk cells loose mean mg mb ⟨x.toInCall.ns, fun b o e => hk₁ b o e, Nat.le_refl _⟩ NC Y X T R.deeper) (fun _ _ q => q) fun _ _ q => q.elim
end
/-- a call that gives back a text -/
abbrev SpecS (w : World) (f : Addr) (n : Nat) (args : List Value) (x : Str) : Prop := Spec w f n args (fun _ => True) (fun _ v _ => ∃ t, v = Value.str x t)
theorem Spec.useS {w : World} {f : Addr} {n k : Nat} {args : List Value} {x : Str} {A : Around} {s : Shared} {Q E : Value → Shared → Prop} {h₀ : Heap} {L : Addr} {m : Str → Option Value} {news : List (Addr × Obj)} {loose : List Str} {mean : ExcName → Option Value} {mg mb : Str → Option Value}
    (S : SpecS w f n args x) (R : Room A k) (hk : n ≤ k) (F : Fr h₀ L s.heap m) (N : News h₀ L s.heap news) (X : (Mine.hd.heap_39 w.params).In h₀) (T : Top topProg loose mean mg mb h₀)
    (h : ∀ t h' tk, Fr h₀ L h' m → News h₀ L h' news → Q (Value.str x t) { s with heap := h', toks := tk }) :
    wpAny (model PG w) A (call (.ref f) args) Q E s :=
  Spec.use S (R.le hk) F N ⟨X, _, _, _, _, T⟩ trivial fun _ _ _ _ F' N' ⟨t, e⟩ => e ▸ h t _ _ F' N'
theorem fill (w : World) : Mine.hd.heap_39 w.params = Mine.hd.heap_39 w.params ∧ PySem.Challenge.rw_rt0043_01.prog = PySem.Challenge.rw_rt0043_01.prog := by k_with_none; k_fill; exact ⟨rfl, rfl⟩
theorem enterV {w : World} {f : Addr} {n : Nat} {args vs : List Value} {A : Around} {s : Shared} {Q E : Value → Shared → Prop} {name qual : Str} {params : Arguments} {body : List Stmt} {scope : Scope} {dV kV doc pm cdv ct oc : Value} {an od : Option Addr} {osl : Array (Option Value)} {binds : Addr → List (Str × Value)}
    (R : Room A (n + 1)) (B : Base w s.heap)
    (ho : (Mine.hd.heap_39 w.params).lookup f = some ⟨oc, od, .func (fnOf name qual params body scope dV kV doc pm an cdv ct), osl⟩) (hcd : codeIn (Mine.hd.heap_39 w.params) cdv qual = true)
    (hbind : bindArgs (fnOf name qual params body scope dV kV doc pm an cdv ct) ⟨args, []⟩ = Sem.alloc { cls := .type "tuple", data := .seq vs.toArray } fun D => Sem.pure (binds D)) (hloc : ∀ D, ∀ y ∈ binds D, scope.names.lookup y.1 = some .local)
    (h : ∀ D L h₁ tk loose mean mg mb, Fr s.heap L h₁ (fun y => (binds D).reverse.lookup y) → News s.heap L h₁ [(D, { cls := .type "tuple", data := .seq vs.toArray })] → (Mine.hd.heap_39 w.params).In s.heap → Top topProg loose mean mg mb s.heap → Room (A.deeper (envOf qual scope L f cdv)) n →
      wpAny (model PG w) (A.deeper (envOf qual scope L f cdv)) (execs body (envOf qual scope L f cdv)) (fun fl s' => Q (match fl with | .ret v => v | _ => .none) s') (fun _ _ => False) { s with heap := h₁, toks := tk })
    (hco : scope.isCoroutine = false) (hgen : scope.isGenerator = false) (hk : scope.kind = .function) (hcell : ∀ x ∈ scope.names, x.2 ≠ .cell) :
    wpAny (model PG w) A (call (.ref f) args) Q E s := by
  obtain ⟨X, loose, mean, mg, mb, T⟩ := B
  refine wpAny_call (codeAny_call_function (by have := R.depth; omega) (X _ _ ho) rfl hco hgen rfl (codeRec_of X hcd) ?_)
  rw [hbind]
  show wpAny _ _ (alloc _ >>= fun D => pure (binds D)) _ _ _
  refine wpAny_bind (wpAny_alloc (wpAny_pure (wpAny_newFunctionEnv hcell (hloc _) (fun h₁ hns hsb => ?_) hk)))
  have hk₀ : ∀ b o, s.heap.get? b = some o → (s.heap.push { cls := .type "tuple", data := .seq vs.toArray }).get? b = some o := fun b o e => Heap.get?_push_of_some _ e
  have hk₁ : ∀ b o, (s.heap.push { cls := .type "tuple", data := .seq vs.toArray }).get? b = some o → h₁.get? b = some o := fun b o e => hsb.extBut b o (Nat.ne_of_lt (Heap.lt_size e)) (Heap.get?_push_of_some _ e)
  have hD : h₁.get? s.heap.objs.size = some { cls := .type "tuple", data := .seq vs.toArray } := hk₁ _ _ (Heap.get?_push_size _ rfl)
  refine ⟨(T.nolimit.keeps hk₀).fresh _ hsb, codeAny_func ?_⟩
  refine wpAny_mono (h s.heap.objs.size _ h₁ _ loose mean mg mb ⟨hns, fun b o e => hk₁ b o (hk₀ b o e), ?_⟩ ?_ X T R.deeper) (fun _ _ q => q) fun _ _ q => q.elim
  · exact Nat.le_trans (Nat.le_succ _) (Nat.le_of_eq (Heap.size_push ..).symm)
  · intro p hp
    rw [List.mem_singleton.mp hp]
    refine ⟨hD, Nat.ne_of_lt (by rw [Heap.size_push]; exact Nat.lt_succ_self _), ?_⟩
    cases q : s.heap.get? s.heap.objs.size with
    | none => rfl
    | some o => exact absurd (Heap.lt_size q) (Nat.lt_irrefl _)
end Mine
end
section
open PySem PySem.W PyProof.Rows PySem.Calls
set_option maxRecDepth 100000
set_option maxHeartbeats 8000000
namespace Mine
section
variable {prog : Program} {w : World} {A : Around} {E : Value → Shared → Prop} {s : Shared}
theorem kind_isn : builtinKind "issubclass.nested" = none := by decide +kernel
theorem plain_isn : plainId "issubclass.nested" = true := by decide +kernel
theorem args_isn (a b c : Value) : argsOk "issubclass.nested" ⟨[a, b, c], []⟩ := by unfold argsOk; kernel_rfl
theorem sub_str_str : isSubtype (.type "str") (.type "str") = pure true := by rw [isSubtype_type]; kernel_rfl
theorem issub_inner {dep : Int} {tk : Tok} : Meets (Builtin.«issubclass.nested» ⟨[.type "str", .type "str", .int dep tk], []⟩) (fun _ R s => R (.ok (.ret (.bool true))) s) := by
  intro prog w A R s h
  have f1 := sub_str_str
  have f2 : typeOf (.type "str") = pure (.type "type") := by kernel_rfl
  repeat (any_goals (first | assumption | (rw [f2]) | (rw [f1]) | wp_step))
theorem issub_one {dep : Int} {Q : Value → Shared → Prop} (h : Q (.bool true) s) : wpAny (model prog w) A (call (.builtin "issubclass.nested") [.type "str", .type "str", rawInt dep]) Q E s :=
  call_function_meets kind_isn plain_isn F.entry_issubclass_nested (args_isn _ _ _) issub_inner h
theorem issub_nested {tp : Addr} {tk : Tok} {Q : Fin → Shared → Prop} (htp : s.heap.get? tp = some { cls := .type "tuple", data := .seq #[.type "str", .type "bytes"] })
    (hq : Q (.done (.ret (.bool true))) s) : wpAny (model prog w) A (Builtin.«issubclass.nested» ⟨[.type "str", .ref tp, .int 0 tk], []⟩) Q E s := by
  obtain ⟨h, g, d, t, os⟩ := s
  have hT2 : (⟨h, g, d, t, os⟩ : Shared).TypeIs (.ref tp) "tuple" := ⟨_, htp, rfl⟩
  have f1 := F.isi_sub_tuple
  repeat (any_goals (first | assumption | refine issub_one ?_ | wp_step))
theorem call_issub {tp : Addr} {Q : Value → Shared → Prop} (htp : s.heap.get? tp = some { cls := .type "tuple", data := .seq #[.type "str", .type "bytes"] })
    (hq : Q (.bool true) s) : wpAny (model prog w) A (call (.builtin "issubclass") [.type "str", .ref tp]) Q E s :=
  call_issubclass (S := fun _ R s => s.heap.get? tp = some { cls := .type "tuple", data := .seq #[.type "str", .type "bytes"] } ∧ R (.ok (.ret (.bool true))) s)
    (fun _ _ _ _ _ hs => issubclass_outer (issub_nested hs.1 hs.2)) ⟨htp, hq⟩
end
end Mine
end
section
open PySem PySem.W PyProof.Rows PySem.Calls
set_option maxRecDepth 100000
set_option maxHeartbeats 8000000
namespace Mine
abbrev SpecV (w : World) (f : Addr) (n : Nat) (args : List Value) (r : Value) : Prop := Spec w f n args (fun _ => True) (fun _ v _ => v = r)
theorem Spec.useV {w : World} {f : Addr} {n k : Nat} {args : List Value} {r : Value} {A : Around} {s : Shared} {Q E : Value → Shared → Prop} {h₀ : Heap} {L : Addr} {m : Str → Option Value} {news : List (Addr × Obj)} {loose : List Str} {mean : ExcName → Option Value} {mg mb : Str → Option Value}
    (S : SpecV w f n args r) (R : Room A k) (hk : n ≤ k) (F : Fr h₀ L s.heap m) (N : News h₀ L s.heap news) (X : (Mine.hd.heap_39 w.params).In h₀) (T : Top topProg loose mean mg mb h₀)
    (h : ∀ h' tk, Fr h₀ L h' m → News h₀ L h' news → Q r { s with heap := h', toks := tk }) :
    wpAny (model PG w) A (call (.ref f) args) Q E s :=
  Spec.use S (R.le hk) F N ⟨X, _, _, _, _, T⟩ trivial fun _ _ _ _ F' N' e => e ▸ h _ _ F' N'
theorem fillT1 (w : World) : Mine.hd.heap_39 w.params = Mine.hd.heap_39 w.params ∧ PySem.Challenge.rw_rt0043_01.prog = PySem.Challenge.rw_rt0043_01.prog := by
  k_with_none
  k_fill
  k_with "INTRO" =>
    intro A s Q E R B hpre hQ
    have hA := R.handled
    obtain ⟨hd', d', fr', gs', u'⟩ := A
    dsimp only at hA
    subst hA
  k_with "ENTER" =>
    case R => assumption
    case B => assumption
    case ho => k_is
    case hcd => k_is
    case hb => first | exact BindsTo.of_eq rfl | rfl
    case hl => first | exact locs rfl | (intro D; exact locs rfl)
    case c1 => rfl
    case c2 => rfl
    case c3 => rfl
    case c4 => decide
    intro L h₁ tk loose mean mg mb F N X T R
    (try dsimp only)
    k_fold
  k_with "END" => (dsimp only; (rename Fr _ _ _ _ => F'); refine hQ _ _ _ (Fr.keep F') ?_; clear F')
  k_with "call builtin:issubclass" => ((rename News _ _ _ _ => N'); refine' call_issub ?k1 ?_; (case k1 => exact (N' _ (by k_mem)).1); k_whole)
  k_with "ROOM" => ((case R => assumption); (case hk => decide); (case F => k_asm); (case N => k_asm); (case X => k_asm); (case T => k_asm); k_whole)
  exact ⟨rfl, rfl⟩
theorem fspath_spec (w : World) (x : Str) (t : Tok) : SpecV w 94 1 [.str x t] (.str x t) := by
  walk_at "INTRO"
  refine' enter (n := 0) (binds := [(Str.ofString "path", .str x t)]) ?R ?B ?ho ?hcd ?hb ?hl ?h ?c1 ?c2 ?c3 ?c4
  walk_at "ENTER"
  k_steps
  walk_at "END"
  rfl
theorem getsep_spec (w : World) (x : Str) (t : Tok) : SpecS w 108 1 [.str x t] (Str.ofString "/") := by
  walk_at "INTRO"
  refine' enter (n := 0) (binds := [(Str.ofString "path", .str x t)]) ?R ?B ?ho ?hcd ?hb ?hl ?h ?c1 ?c2 ?c3 ?c4
  walk_at "ENTER"
  k_steps
  walk_at "END"
  exact ⟨_, rfl⟩
def hdOf (x : Str) : Str := Txt.slice x none (some (Txt.rfind x (Str.ofString "/") + 1))
def dn (x : Str) : Str := if (hdOf x).length = 0 then hdOf x else if (hdOf x != Txt.mul (Str.ofString "/") ((hdOf x).length : Int)) = true then Txt.rstripChars (hdOf x) (Str.ofString "/") else hdOf x
def bn (x : Str) : Str := Txt.slice x (some (Txt.rfind x (Str.ofString "/") + 1)) none
theorem strEq {a b : Str} {t : Tok} (h : a = b) : Value.str a t = Value.str b t := h ▸ rfl
theorem basename_spec (w : World) (x : Str) (t : Tok) (hx : x.length ≤ 200) : SpecS w 122 2 [.str x t] (bn x) := by
  k_with "call ref" => ((with_reducible show wpAny _ _ (call (Value.ref 94) _) _ _ _); (refine' Spec.useV (fspath_spec _ _ _) ?R ?hk ?F ?N ?X ?T ?_; walk_at "ROOM"; intro h' tk' F' N'; (try k_sweep)))
  k_with "call ref" => ((with_reducible show wpAny _ _ (call (Value.ref 108) _) _ _ _); (refine' Spec.useS (getsep_spec _ _ _) ?R ?hk ?F ?N ?X ?T ?_; walk_at "ROOM"; intro t' h' tk' F' N'; (try k_sweep)))
  walk_at "INTRO"
  refine' enter (n := 1) (binds := [(Str.ofString "p", .str x t)]) ?R ?B ?ho ?hcd ?hb ?hl ?h ?c1 ?c2 ?c3 ?c4
  walk_at "ENTER"
  k_steps
  walk_at "END"
  exact ⟨_, rfl⟩
theorem dirname_spec (w : World) (x : Str) (t : Tok) (hx : x.length ≤ 200) : SpecS w 129 2 [.str x t] (dn x) := by
  walk_at "INTRO"
  refine' enter (n := 1) (binds := [(Str.ofString "p", .str x t)]) ?R ?B ?ho ?hcd ?hb ?hl ?h ?c1 ?c2 ?c3 ?c4
  walk_at "ENTER"
  k_steps
  all_goals (walk_at "END"; refine ⟨_, strEq ?_⟩; unfold dn hdOf)
  · rw [if_neg (by omega), if_pos (by assumption)]
  · rw [if_neg (by omega), if_neg (ne_true_of_eq_false (by assumption))]
  · rw [if_pos (by omega)]
theorem join_spec (w : World) (x y : Str) (t u : Tok) (hx : x.length ≤ 200) (hy : y.length ≤ 200) (h1 : Txt.startswith y (Str.ofString "/") = false) (h2 : Txt.endswith x (Str.ofString "/") = true) (h0 : x.length ≠ 0) : SpecS w 115 2 [.str x t, .str y u] (x ++ y) := by
  walk_at "INTRO"
  refine' enterV (n := 1) (vs := [.str y u]) (binds := fun D => [(Str.ofString "a", .str x t), (Str.ofString "p", .ref D)]) ?R ?B ?ho ?hcd ?hb ?hl ?h ?c1 ?c2 ?c3 ?c4
  case R => assumption
  case B => assumption
  case ho => k_is
  case hcd => k_is
  case hb => rfl
  case hl => intro D; exact locs rfl
  case c1 => rfl
  case c2 => rfl
  case c3 => rfl
  case c4 => decide
  intro D L h₁ tk loose mean mg mb F N X T R
  (try dsimp only)
  k_fold
  k_steps
  · walk_at "END"
    exact ⟨_, rfl⟩
  · exfalso; omega
end Mine
end
section
open PySem PySem.W PyProof.Rows PySem.Calls
set_option maxRecDepth 100000
set_option maxHeartbeats 8000000
namespace Mine
/-- objects handed over in the ledger; nothing old is changed -/
def SpecA (w : World) (f : Addr) (n : Nat) (args : List Value) (N0 : List (Addr × Obj)) (post : Heap → Value → Heap → Prop) : Prop :=
  ∀ (A : Around) (s : Shared) (Q E : Value → Shared → Prop), Room A n → Base w (hideAll s.heap (N0.map (·.1))) → (∀ p ∈ N0, s.heap.get? p.1 = some p.2) →
    (∀ v h' tk, (∀ b o, s.heap.get? b = some o → h'.get? b = some o) → post s.heap v h' → Q v { s with heap := h', toks := tk }) →
    wpAny (model PG w) A (call (.ref f) args) Q E s
/-- the answer is a new object -/
def NewObj (P : Obj → Prop) : Heap → Value → Heap → Prop := fun h v h' => ∃ a o, v = .ref a ∧ h.get? a = none ∧ h'.get? a = some o ∧ P o
def AllNe (d : Addr) : List (Addr × Obj) → Prop
  | [] => True
  | p :: r => @Ne Nat p.1 d ∧ AllNe d r
theorem allNe_of {d : Addr} : ∀ {l : List (Addr × Obj)}, (∀ p ∈ l, p.1 ≠ d) → AllNe d l
  | [], _ => trivial
  | p :: _, h => ⟨h p (.head _), allNe_of fun q hq => h q (.tail _ hq)⟩
section
variable {w : World} {f : Addr} {n k : Nat} {args : List Value} {N0 : List (Addr × Obj)} {post : Heap → Value → Heap → Prop} {A : Around} {s : Shared} {Q E : Value → Shared → Prop} {h₀ : Heap} {L : Addr} {m : Str → Option Value} {news : List (Addr × Obj)}
  {loose : List Str} {mean : ExcName → Option Value} {mg mb : Str → Option Value}
theorem SpecA.use (S : SpecA w f n args N0 post) (R : Room A k) (hk : n ≤ k) (F : Fr h₀ L s.heap m) (N : News h₀ L s.heap news) (X : (Mine.hd.heap_39 w.params).In h₀) (T : Top topProg loose mean mg mb h₀) (hs : ∀ p ∈ N0, p ∈ news)
    (h : ∀ v h' tk, Fr h₀ L h' m → News h₀ L h' news → post s.heap v h' → Q v { s with heap := h', toks := tk }) : wpAny (model PG w) A (call (.ref f) args) Q E s := by
  refine S A s Q E (R.le hk) ?_ (fun p hp => (N p (hs p hp)).1) fun v h' tk k p => h v h' tk (Mine.Fr.keeps F k) (Mine.News.keeps N k) p
  refine Base.keeps (h := h₀) ⟨X, _, _, _, _, T⟩ fun b o e => hideAll_get _ (F.keep b o e) fun hb => ?_
  obtain ⟨p, hp, rfl⟩ := List.mem_map.mp hb
  have := (N p (hs p hp)).2.2
  rw [this] at e; cases e
theorem SpecA.useN {P : Obj → Prop} (S : SpecA w f n args N0 (NewObj P)) (R : Room A k) (hk : n ≤ k) (F : Fr h₀ L s.heap m) (N : News h₀ L s.heap news) (X : (Mine.hd.heap_39 w.params).In h₀) (T : Top topProg loose mean mg mb h₀) (hs : ∀ p ∈ N0, p ∈ news)
    (h : ∀ a o h' tk, Fr h₀ L h' m → News h₀ L h' ((a, o) :: news) → AllNe a news → P o → Q (.ref a) { s with heap := h', toks := tk }) : wpAny (model PG w) A (call (.ref f) args) Q E s := by
  refine SpecA.use S R hk F N X T hs fun v h' tk F' N' ⟨a, o, e, e1, e2, p⟩ => e ▸ h a o h' tk F' (fun q hq => ?_) (allNe_of fun q hq e => ?_) p
  · rcases List.mem_cons.mp hq with rfl | hq
    · refine ⟨e2, fun e => ?_, ?_⟩
      · obtain ⟨oL, _, _, hL, _⟩ := F.ns
        have e' : a = L := e
        rw [← e', e1] at hL; cases hL
      · show h₀.get? a = none
        cases q : h₀.get? a with
        | none => rfl
        | some o' => have := F.keep _ _ q; rw [e1] at this; cases this
    · exact N' q hq
  · have := (N q hq).1
    rw [e, e1] at this; cases this
/-- what a callee that was handed objects keeps -/
theorem keepA {h h' : Heap} (F : Fr (hideAll h (N0.map (·.1))) L h' m) (N : News (hideAll h (N0.map (·.1))) L h' news) (h0 : ∀ p ∈ N0, h.get? p.1 = some p.2) (sub : ∀ p ∈ N0, p ∈ news) : ∀ b o, h.get? b = some o → h'.get? b = some o := by
  intro b o e
  by_cases hb : b ∈ N0.map (·.1)
  · obtain ⟨p, hp, rfl⟩ := List.mem_map.mp hb
    have e1 := h0 p hp
    rw [e] at e1
    rw [Option.some.inj e1]
    exact (N p (sub p hp)).1
  · exact F.keep b o (hideAll_get _ e hb)
/-- a new object of the callee's ledger is new to the caller -/
theorem newA {h h' : Heap} {a : Addr} {o : Obj} {P : Obj → Prop} (N : News (hideAll h (N0.map (·.1))) L h' news) (h0 : ∀ p ∈ N0, p.1 ≠ a) (hm : (a, o) ∈ news) (p : P o) : NewObj P h (.ref a) h' := by
  refine ⟨a, o, rfl, ?_, (N _ hm).1, p⟩
  cases q : h.get? a with
  | none => rfl
  | some o' =>
    have e := hideAll_get (N0.map (·.1)) q fun hb => by
      obtain ⟨p, hp, e⟩ := List.mem_map.mp hb
      exact h0 p hp e
    have e2 : (hideAll h (N0.map (·.1))).get? a = none := (N _ hm).2.2
    rw [e2] at e; cases e
theorem enterA {name qual : Str} {params : Arguments} {body : List Stmt} {scope : Scope} {dV kV doc pm cdv ct oc : Value} {an od : Option Addr} {osl : Array (Option Value)} {binds : List (Str × Value)}
    (R : Room A (n + 1)) (B : Base w (hideAll s.heap (N0.map (·.1)))) (h0 : ∀ p ∈ N0, s.heap.get? p.1 = some p.2)
    (ho : (Mine.hd.heap_39 w.params).lookup f = some ⟨oc, od, .func (fnOf name qual params body scope dV kV doc pm an cdv ct), osl⟩) (hcd : codeIn (Mine.hd.heap_39 w.params) cdv qual = true)
    (hbind : BindsTo s (fnOf name qual params body scope dV kV doc pm an cdv ct) ⟨args, []⟩ binds) (hloc : ∀ y ∈ binds, scope.names.lookup y.1 = some .local)
    (h : ∀ L h₁ tk loose mean mg mb, Fr (hideAll s.heap (N0.map (·.1))) L h₁ (fun y => binds.reverse.lookup y) → News (hideAll s.heap (N0.map (·.1))) L h₁ N0 → AllLt L N0 → (Mine.hd.heap_39 w.params).In (hideAll s.heap (N0.map (·.1))) →
      Top topProg loose mean mg mb (hideAll s.heap (N0.map (·.1))) → Room (A.deeper (envOf qual scope L f cdv)) n →
      wpAny (model PG w) (A.deeper (envOf qual scope L f cdv)) (execs body (envOf qual scope L f cdv)) (fun fl s' => Q (match fl with | .ret v => v | _ => .none) s') (fun _ _ => False) { s with heap := h₁, toks := tk })
    (hco : scope.isCoroutine = false) (hgen : scope.isGenerator = false) (hk : scope.kind = .function) (hcell : ∀ x ∈ scope.names, x.2 ≠ .cell) :
    wpAny (model PG w) A (call (.ref f) args) Q E s := by
  have B' : Base w s.heap := B.keeps fun b o e => of_hideAll _ e
  obtain ⟨X', loose', mean', mg', mb', T'⟩ := B
  refine enter R B' ho hcd hbind hloc (fun L h₁ tk _ _ _ _ F N _ _ R' => h L h₁ tk loose' mean' mg' mb' ⟨F.ns, fun b o e => F.keep b o (of_hideAll _ e), Nat.le_trans (Nat.le_of_eq (hideAll_size _ _)) F.above⟩ (fun p hp => ?_) (allLt_of fun p hp => ?_) X' T' R') hco hgen hk hcell
  · have e := h0 p hp
    refine ⟨F.keep _ _ e, Nat.ne_of_lt (Nat.lt_of_lt_of_le (Heap.lt_size e) F.above), hideAll_none _ (List.mem_map_of_mem hp)⟩
  · exact Nat.lt_of_lt_of_le (Heap.lt_size (h0 p hp)) F.above
end
def txtOf : Value → Option Str
  | .str x _ => some x
  | _ => none
/-- a list of texts -/
def IsTxts (xs : List Str) (o : Obj) : Prop := ∃ (vs : List Value) (n : Nat), o = listOf vs.toArray n ∧ vs.map txtOf = xs.map some
end Mine
end
section
open PySem PySem.W PyProof.Rows PySem.Calls
set_option maxRecDepth 100000
set_option maxHeartbeats 8000000
namespace Mine
section
variable {M : Model} {prog : Program} {w : World} {A : Around} {E : Value → Shared → Prop} {s : Shared} {h₀ h : Heap} {L D b : Addr} {m : Str → Option Value} {news news' : List (Addr × Obj)} {its its2 : Array Value} {n n2 : Nat}
theorem inplace_list {a b : Value} {Q : Value → Shared → Prop} (ha : s.TypeIs a "list") (hb : s.TypeIs b "list")
    (hc : wpAny M A (call (.builtin "list.__iadd__") [a, b]) Q E s) : wpAny M A (inplaceOp .Add a b) Q E s := by
  have f0 : typeLookup (.type "list") (dunderI "add") = pure (some (.builtin "list.__iadd__")) := by rw [typeLookup_type, builtinLookup_eq_fast]; kernel_rfl
  have hq : isSeqSlot (some (.builtin "list.__iadd__")) = true := by decide +kernel
  have hfi : fillsInplaceSlot (.type "list") "add" (Operator.Add == .Add) = pure false := by
    unfold fillsInplaceSlot
    show (typeLookup (.type "list") (dunderI "add") >>= fun fi => pure (fi.isSome && !isSeqSlot fi)) = pure false
    rw [f0]
    show (pure ((some (Value.builtin "list.__iadd__")).isSome && !isSeqSlot (some (.builtin "list.__iadd__"))) : Sem Bool) = pure false
    rw [hq]; rfl
  unfold inplaceOp
  refine wpAny_holding ?_
  refine wpAny_bind (wpAny_typeOf ha (wpAny_bind (wpAny_of_eq hfi ?_)))
  show wpAny M A (if false = true then _ else _) Q E s
  rw [if_neg Bool.false_ne_true]
  refine wpAny_bind (wpAny_binaryOp1_none (nm := "add") ha hb noFill_list_add ?_)
  refine wpAny_bind (wpAny_of_eq (PySem.seqSlot_of f0 hq) ?_)
  exact wpAny_bind (wpAny_rule hc)
theorem iadd_K {Q : Value → Shared → Prop} (F : Fr h₀ L s.heap m) (N : News h₀ L s.heap news) (hb : (b, listOf its2 n2) ∈ news)
    (U : Upd D (listOf its n) (listOf (its ++ its2) (if (its ++ its2).size == its.size then n else n + 1)) news news') (hz2 : its.size + its2.size ≤ 1000)
    (h : ∀ h', Fr h₀ L h' m → News h₀ L h' news' → Q (.ref D) { s with heap := h' }) : wpAny (model prog w) A (inplaceOp .Add (.ref D) (.ref b)) Q E s := by
  obtain ⟨pre, post, rfl, rfl, a, c⟩ := U.split
  have z := N (D, listOf its n) (List.mem_append.mpr (.inr (.head _)))
  refine inplace_list ⟨_, z.1, rfl⟩ ⟨_, (N _ hb).1, rfl⟩ ?_
  have hd : ¬(!its.isEmpty && Builtin.List.listTooLong (its.size + its2.size)) = true := by
    intro e
    have := (Bool.and_eq_true_iff.mp e).2
    unfold Builtin.List.listTooLong at this
    rw [sizeLine_eq] at this
    simp at this
    omega
  exact call_meets PySem.F.slot_list_iadd ⟨_, z.1, rfl⟩ PySem.F.entry_list_iadd (PySem.F.args_list_iadd_2 _ _) (PySem.AutoSeq1.list___iadd___list_list_0 D its n b its2 n2 hd (by rw [sizeLine_eq]; omega) (by rw [sizeLine_eq]; omega)) ⟨z.1, (N _ hb).1, h _ (F.change (Heap.SameBut.update ..) z.2.1 z.2.2) (news_set N a c (Heap.SameBut.update ..) (PySem.IsL.update z.1 _))⟩
end
end Mine
end
section
open PySem PySem.W PyProof.Rows PySem.Calls
set_option maxRecDepth 100000
set_option maxHeartbeats 8000000
namespace Mine
theorem fillC3 (w : World) : Mine.hd.heap_39 w.params = Mine.hd.heap_39 w.params ∧ PySem.Challenge.rw_rt0043_01.prog = PySem.Challenge.rw_rt0043_01.prog := by
  k_with_none
  k_fill
  k_with "INTRO" =>
    intro A s Q E R B hpre hQ
    have hA := R.handled
    obtain ⟨hd', d', fr', gs', u'⟩ := A
    dsimp only at hA
    subst hA
  k_with "ENTER" =>
    case R => assumption
    case B => assumption
    case ho => k_is
    case hcd => k_is
    case hb => first | exact BindsTo.of_eq rfl | rfl
    case hl => first | exact locs rfl | (intro D; exact locs rfl)
    case c1 => rfl
    case c2 => rfl
    case c3 => rfl
    case c4 => decide
    intro L h₁ tk loose mean mg mb F N X T R
    (try dsimp only)
    k_fold
  k_with "ENTERA" =>
    case R => assumption
    case B => assumption
    case h0 => assumption
    case ho => k_is
    case hcd => k_is
    case hb => exact BindsTo.of_eq rfl
    case hl => exact locs rfl
    case c1 => rfl
    case c2 => rfl
    case c3 => rfl
    case c4 => decide
    intro L h₁ tk loose mean mg mb F N l0 X T R
    (try simp only [AllLt, and_true] at l0)
    (try dsimp only)
    k_fold
  k_with "END" => ((try dsimp only); (rename Fr _ _ _ _ => F'); refine hQ _ _ _ (Fr.keep F') ?_; clear F')
  k_with "ENDA" => ((try dsimp only); (rename Fr _ _ _ _ => F'); (rename News _ _ _ _ => N'); refine hQ _ _ _ (keepA F' N' hpre (by first | exact List.forall_mem_nil _ | (intro p hp; simp only [List.mem_cons, List.mem_nil_iff, or_false, List.not_mem_nil] at hp ⊢; first | assumption | (rcases hp with rfl | rfl | rfl <;> simp)))) ?_; clear F')
  k_with "call builtin:issubclass" => ((rename News _ _ _ _ => N'); refine' call_issub ?k1 ?_; (case k1 => exact (N' _ (by k_mem)).1); k_whole)
  k_with "ROOM" => ((case R => assumption); (case hk => decide); (case F => k_asm); (case N => k_asm); (case X => k_asm); (case T => k_asm); k_whole)
  k_with "call ref" => ((with_reducible show wpAny _ _ (call (Value.ref 94) _) _ _ _); (refine' Spec.useV (fspath_spec _ _ _) ?R ?hk ?F ?N ?X ?T ?_; walk_at "ROOM"; intro h' tk' F' N'; (try k_sweep)))
  k_with "call ref" => ((with_reducible show wpAny _ _ (call (Value.ref 108) _) _ _ _); (refine' Spec.useS (getsep_spec _ _ _) ?R ?hk ?F ?N ?X ?T ?_; walk_at "ROOM"; intro t' h' tk' F' N'; (try k_sweep)))
  exact ⟨rfl, rfl⟩
def OC (x : Int) : List Int := [((x.fdiv 512).fmod 512).fmod 256, 128 + ((x.fdiv 512).fmod 512).fdiv 256, (x.fmod 512).fmod 256, 128 + (x.fmod 512).fdiv 256]
theorem oc_in (x : Int) : ∀ n ∈ OC x, 0 ≤ n ∧ n < 256 := by
  intro n hn
  have h1 := Int.fmod_nonneg_of_pos (x.fdiv 512) (b := 512) (by decide)
  have h2 := Int.fmod_lt_of_pos (x.fdiv 512) (b := 512) (by decide)
  have h3 := Int.fmod_nonneg_of_pos x (b := 512) (by decide)
  have h4 := Int.fmod_lt_of_pos x (b := 512) (by decide)
  unfold OC at hn
  generalize (x.fdiv 512).fmod 512 = a at *
  generalize x.fmod 512 = b at *
  simp only [Int.fmod_eq_emod_of_nonneg _ (show (0:Int) ≤ 256 by decide), Int.fdiv_eq_ediv_of_nonneg _ (show (0:Int) ≤ 256 by decide), List.mem_cons, List.not_mem_nil, or_false] at hn
  rcases hn with rfl | rfl | rfl | rfl <;> omega
theorem octets_spec (w : World) (x : Int) (t : Tok) : SpecA w 197 1 [.int x t] [] (fun _ v _ => ∃ b t, v = .bytes b t ∧ KBw.bInts b = OC x) := by
  k_with "inplaceOp Add ref ref" => ((rename Fr _ _ _ _ => F'); (rename News _ _ _ _ => N'); refine' iadd_K F' N' ?b ?U ?z ?_; (case b => k_mem); (case U => k_upd); (case z => first | exact Nat.le_of_ble_eq_true rfl | (simp; done) | (simp; omega)); intro h' F' N'; (try simp only [List.append_toArray, List.cons_append, List.nil_append] at N'); (try k_sweep))
  k_with "call type:bytes" => ((rename Fr _ _ _ _ => F'); (rename News _ _ _ _ => N'); refine' KBa.make_K F' N' (by exact rfl) ?l ?i (oc_in x) (by exact Nat.le_of_ble_eq_true rfl) ?_; (case l => is_list); (case i => exact (.cons _ _ (.cons _ _ (.cons _ _ (.cons _ _ .nil))))); intro h' t' k' F' N' hI)
  walk_at "INTRO"
  refine' enterA (n := 0) (N0 := []) (binds := [(Str.ofString "x", .int x t)]) ?R ?B ?h0 ?ho ?hcd ?hb ?hl ?h ?c1 ?c2 ?c3 ?c4
  walk_at "ENTERA"
  k_steps
  walk_at "ENDA"
  exact ⟨_, _, rfl, KBa.ints_make hI⟩
end Mine
end
section
open PySem PySem.W PyProof.Rows PySem.Calls
set_option maxRecDepth 100000
set_option maxHeartbeats 8000000
namespace Mine
section
variable {prog : Program} {w : World} {A : Around} {E : Value → Shared → Prop} {s : Shared}
theorem fn_slot : Slot "function" "__setattr__" "object.__setattr__" := .of (owner := "object") (n := "__setattr__") (by rw [typeLookup_type, builtinLookup_eq_fast]; kernel_rfl) (by decide +kernel) (by decide +kernel) (by decide +kernel)
    (by first | exact .inl (by decide +kernel) | exact .inr (by decide +kernel)) (by rw [isSubtype_type]; kernel_rfl)
theorem fn_read : typeLookup (.type "function") "read" = pure none := by rw [typeLookup_type, builtinLookup_eq_fast]; kernel_rfl
theorem fn_mro : mroOf (.type "function") = pure [.type "function", .type "object"] := by rw [mroOf_type]; kernel_rfl
theorem fn_pass (self : Value) : refuseLoop self "__setattr__" [.type "function", .type "object"] = pure () := by kernel_rfl
theorem fn_dict : typeHasDict (.type "function") = true := by decide +kernel
theorem fn_fin : finalisedInACycleAlone "function" = false := by decide +kernel
theorem fn_set_meets {S : Addr} {fd : FuncData} {v : Value} {tk : Tok} {R : Result → Shared → Prop} (hS : s.heap.get? S = some { cls := .type "function", data := .func fd })
   (hQ : ∀ h' t' tk', (∀ b o, b ≠ S → s.heap.get? b = some o → h'.get? b = some o) → h'.get? S = some { cls := .type "function", dict := some s.heap.objs.size, data := .func fd } →
     h'.get? s.heap.objs.size = some (dictOf [⟨PyData.keyHash w.params (Str.ofString "read"), .str (Str.ofString "read") t', v⟩] 1) → R (.ok (.ret .none)) { s with heap := h', toks := tk' }) :
   wpAny (model prog w) A.in1 (Builtin.«object.__setattr__» ⟨[.ref S, .str (Str.ofString "read") tk, v], []⟩) (fun fin s' => match fin with | .done f => R (.ok f) s' | .again c' => c'.quiet = true ∧ codeAny (model prog w) A c' R s') (fun e s' => R (.error e) s') s := by
  obtain ⟨h, g, d, t, os⟩ := s
  have hT : (⟨h, g, d, t, os⟩ : Shared).TypeIs (.ref S) "function" := ⟨_, hS, rfl⟩
  have f2 := fn_read
  have f3 := fn_mro
  have f4 := fn_pass (.ref S)
  rw [osa_eq, refuse_eq]
  repeat (any_goals (first | assumption | rw [fn_pass] | rw [fn_dict] | rw [fn_fin] | wp_step))
  have hlt : S < h.objs.size := Heap.lt_size hS
  have hne : h.objs.size ≠ S := Nat.ne_of_gt hlt
  have D0 : ((h.push { cls := Value.type "dict", data := Data.dict #[] }).update S fun o => { cls := o.cls, dict := some h.objs.size, data := o.data, slots := o.slots }).get? h.objs.size = some (dictOf [] 0) := by
    exact Heap.get?_update_of_ne _ hne.symm (Heap.get?_push_size _ rfl)
  have S0 : ((h.push { cls := Value.type "dict", data := Data.dict #[] }).update S fun o => { cls := o.cls, dict := some h.objs.size, data := o.data, slots := o.slots }).get? S = some { cls := .type "function", dict := some h.objs.size, data := .func fd } :=
    Heap.get?_update_self _ (Heap.get?_push_of_some _ hS) rfl
  have K0 : ∀ b o, b ≠ S → h.get? b = some o → ((h.push { cls := Value.type "dict", data := Data.dict #[] }).update S fun o => { cls := o.cls, dict := some h.objs.size, data := o.data, slots := o.slots }).get? b = some o := fun b o hb e => by
    exact Heap.get?_update_of_ne _ hb.symm (Heap.get?_push_of_some _ e)
  generalize ((h.push { cls := Value.type "dict", data := Data.dict #[] }).update S fun o => { cls := o.cls, dict := some h.objs.size, data := o.data, slots := o.slots }) = h2 at D0 S0 K0 ⊢
  have D1 : (h2.update h.objs.size (Obj.putName (Str.ofString "read") (PyData.keyHash w.params (Str.ofString "read")) (.str (Str.ofString "read") t) v)).get? h.objs.size = some (dictOf [⟨PyData.keyHash w.params (Str.ofString "read"), .str (Str.ofString "read") t, v⟩] 1) := by
    have e := Heap.get?_update_self (Obj.putName (Str.ofString "read") (PyData.keyHash w.params (Str.ofString "read")) (.str (Str.ofString "read") t) v) D0 (by rw [putName_dict]; rfl)
    rw [e, putName_dict]; rfl
  refine wpAny_askSetting (wpAny_pure (wpAny_bind (wpAny_mkText (wpAny_bind (wpAny_loadPart D0 ?_)))))
  dsimp only
  have c : (!(([] : List DictEntry).toArray).any (·.key.isStr (Str.ofString "read")) && (([] : List DictEntry).toArray).any (·.refKey)) = false := by simp
  rw [aRefKeyMayBeTheName_at, c]
  refine wpAny_updatePart D0 ?_
  refine wpAny_bind (wpAny_lookBehind D1 (pastItsLine_dict (by rw [List.size_toArray, sizeLine_eq]; exact Nat.le_of_ble_eq_true rfl)) ?_)
  exact wpAny_pure (hQ _ _ _ (fun b o hb e => Heap.get?_update_of_ne _ (Nat.ne_of_gt (Heap.lt_size e)) (K0 b o hb e)) (Heap.get?_update_of_ne _ hne S0) D1)
theorem code_set_fn {S : Addr} {fd : FuncData} {v : Value} {tk : Tok} {R : Result → Shared → Prop} (hS : s.heap.get? S = some { cls := .type "function", data := .func fd })
   (hQ : ∀ h' t' tk', (∀ b o, b ≠ S → s.heap.get? b = some o → h'.get? b = some o) → h'.get? S = some { cls := .type "function", dict := some s.heap.objs.size, data := .func fd } →
     h'.get? s.heap.objs.size = some (dictOf [⟨PyData.keyHash w.params (Str.ofString "read"), .str (Str.ofString "read") t', v⟩] 1) → R (.ok (.ret .none)) { s with heap := h', toks := tk' }) :
   codeAny (model prog w) A (.call (.builtin "object.__setattr__") ⟨[.ref S, .str (Str.ofString "read") tk, v], []⟩) R s :=
  codeAny_call_builtin fn_slot.plain F.entry_object_sa (fn_slot.check _ _ _ _ _ _ _ _ ⟨_, hS, rfl⟩ (F.store_object.args _ _ _) (fn_set_meets hS hQ))
theorem set_fn {S : Addr} {fd : FuncData} {v : Value} {Q : Unit → Shared → Prop} (hS : s.heap.get? S = some { cls := .type "function", data := .func fd })
   (hQ : ∀ h' t' tk', (∀ b o, b ≠ S → s.heap.get? b = some o → h'.get? b = some o) → h'.get? S = some { cls := .type "function", dict := some s.heap.objs.size, data := .func fd } →
     h'.get? s.heap.objs.size = some (dictOf [⟨PyData.keyHash w.params (Str.ofString "read"), .str (Str.ofString "read") t', v⟩] 1) → Q () { s with heap := h', toks := tk' }) :
   wpAny (model prog w) A (setAttr (.ref S) (Str.ofString "read") v) Q E s := by
  have hT : Shared.TypeIs { s with toks := s.toks + 1 } (.ref S) "function" := ⟨_, hS, rfl⟩
  refine wpAny_bind (wpAny_mkText (wpAny_bind (wpAny_bind (wpAny_bind (wpAny_typeOf hT (wpAny_of_eq fn_slot.lookup (wpAny_holding ?_)))))))
  rw [fn_slot.bind]
  refine wpAny_bind (wpAny_pure (wpAny_bind (wpAny_call (code_set_fn (s := { s with toks := s.toks + 1 }) hS fun h' t' tk' a b c => ?_))))
  exact wpAny_pure (wpAny_pure (hQ h' t' tk' a b c))
theorem setfn_K {S : Addr} {fd : FuncData} {v : Value} {h₀ : Heap} {L : Addr} {m : Str → Option Value} {news : List (Addr × Obj)} {g : Obj → List (Addr × Obj)} {Q : Unit → Shared → Prop} (F : Fr h₀ L s.heap m) (N : News h₀ L s.heap news)
    (U : UpdF S { cls := .type "function", data := .func fd } news g)
    (h : ∀ D t' h' tk', Fr h₀ L h' m → News h₀ L h' ((D, dictOf [⟨PyData.keyHash w.params (Str.ofString "read"), .str (Str.ofString "read") t', v⟩] 1) :: g { cls := .type "function", dict := some D, data := .func fd }) → (∀ p ∈ news, p.1 < D) → Q () { s with heap := h', toks := tk' }) :
    wpAny (model prog w) A (setAttr (.ref S) (Str.ofString "read") v) Q E s := by
  obtain ⟨pre, post, rfl, hg, h1, h2⟩ := U.split
  have z := N _ (List.mem_append_right _ (.head _))
  have hL : L < s.heap.objs.size := F.ns.lt
  refine set_fn z.1 fun h' t' tk' a b c => h s.heap.objs.size t' h' tk' ⟨F.ns.at' fun o e => a _ o z.2.1.symm e, fun b o e => a b o (fun q => by rw [q, z.2.2] at e; cases e) (F.keep b o e), F.above⟩ (fun p hp => ?_) fun p hp => Heap.lt_size (N p hp).1
  rw [hg] at hp
  have new : h₀.get? s.heap.objs.size = none := Heap.get?_none_of_le (Nat.le_trans F.above (Nat.le_of_lt hL))
  rcases List.mem_cons.mp hp with rfl | hp
  · exact ⟨c, Nat.ne_of_gt hL, new⟩
  · rcases List.mem_append.mp hp with hp | hp
    · have n := N p (List.mem_append_left _ hp)
      exact ⟨a _ _ (h1 p hp) n.1, n.2⟩
    · rcases List.mem_cons.mp hp with rfl | hp
      · exact ⟨b, z.2⟩
      · have n := N p (List.mem_append_right _ (.tail _ hp))
        exact ⟨a _ _ (h2 p hp) n.1, n.2⟩
end
end Mine
end
section
open PySem PySem.W PyProof.Rows PySem.Calls
set_option maxRecDepth 100000
set_option maxHeartbeats 8000000
namespace Mine
/-- objects handed over; those at C may be changed -/
def SpecC (w : World) (f : Addr) (n : Nat) (args : List Value) (N0 : List (Addr × Obj)) (C : List Addr) (pre : Heap → Prop) (post : Heap → Value → Heap → Prop) : Prop :=
  ∀ (A : Around) (s : Shared) (Q E : Value → Shared → Prop), Room A n → Base w (hideAll s.heap (N0.map (·.1))) → (∀ p ∈ N0, s.heap.get? p.1 = some p.2) → pre s.heap →
    (∀ v h' tk, (∀ b o, b ∉ C → s.heap.get? b = some o → h'.get? b = some o) → post s.heap v h' → Q v { s with heap := h', toks := tk }) →
    wpAny (model PG w) A (call (.ref f) args) Q E s
section
variable {w : World} {f : Addr} {n k : Nat} {args : List Value} {N0 : List (Addr × Obj)} {C : List Addr} {pre : Heap → Prop} {post : Heap → Value → Heap → Prop} {A : Around} {s : Shared} {Q E : Value → Shared → Prop} {h₀ : Heap} {L : Addr} {m : Str → Option Value} {news news' : List (Addr × Obj)}
  {loose : List Str} {mean : ExcName → Option Value} {mg mb : Str → Option Value}
theorem SpecC.use (S : SpecC w f n args N0 C pre post) (R : Room A k) (hk : n ≤ k) (F : Fr h₀ L s.heap m) (N : News h₀ L s.heap news) (X : (Mine.hd.heap_39 w.params).In h₀) (T : Top topProg loose mean mg mb h₀) (hs : ∀ p ∈ N0, p ∈ news) (hp : pre s.heap)
    (hC : ∀ b ∈ C, ∃ o, (b, o) ∈ news) (hn : ∀ p ∈ news', p ∈ news ∧ p.1 ∉ C)
    (h : ∀ v h' tk, Fr h₀ L h' m → News h₀ L h' news' → (∀ b o, b ∉ C → s.heap.get? b = some o → h'.get? b = some o) → post s.heap v h' → Q v { s with heap := h', toks := tk }) : wpAny (model PG w) A (call (.ref f) args) Q E s := by
  have hL : L ∉ C := fun q => by obtain ⟨o, ho⟩ := hC _ q; exact (N _ ho).2.1 rfl
  refine S A s Q E (R.le hk) ?_ (fun p hp => (N p (hs p hp)).1) hp fun v h' tk k p => h v h' tk ⟨F.ns.at' fun o e => k _ o hL e, fun b o e => k b o (fun q => ?_) (F.keep b o e), F.above⟩ (fun p hp => ⟨k _ _ (hn p hp).2 (N p (hn p hp).1).1, (N p (hn p hp).1).2⟩) k p
  · refine Base.keeps (h := h₀) ⟨X, _, _, _, _, T⟩ fun b o e => hideAll_get _ (F.keep b o e) fun hb => ?_
    obtain ⟨p, hp, rfl⟩ := List.mem_map.mp hb
    have := (N p (hs p hp)).2.2
    rw [this] at e; cases e
  · obtain ⟨o', ho'⟩ := hC _ q
    have := (N _ ho').2.2
    rw [this] at e; cases e
/-- what a callee keeps that changes some of what it was handed -/
theorem keepC {h h' : Heap} (F : Fr (hideAll h (N0.map (·.1))) L h' m) (N : News (hideAll h (N0.map (·.1))) L h' news) (h0 : ∀ p ∈ N0, h.get? p.1 = some p.2) (sub : ∀ p ∈ N0, p.1 ∈ C ∨ p ∈ news) : ∀ b o, b ∉ C → h.get? b = some o → h'.get? b = some o := by
  intro b o hc e
  by_cases hb : b ∈ N0.map (·.1)
  · obtain ⟨p, hp, rfl⟩ := List.mem_map.mp hb
    have e1 := h0 p hp
    rw [e] at e1
    rw [Option.some.inj e1]
    exact (N p ((sub p hp).resolve_left hc)).1
  · exact F.keep b o (hideAll_get _ e hb)
/-- a call of a closure -/
theorem enterX {name qual : Str} {params : Arguments} {body : List Stmt} {scope : Scope} {cl : List (Str × Addr)} {dV kV doc pm cdv ct : Value} {an : Option Addr} {o : Obj} {binds : List (Str × Value)}
    (R : Room A (n + 1)) (B : Base w (hideAll s.heap (N0.map (·.1)))) (h0 : ∀ p ∈ N0, s.heap.get? p.1 = some p.2)
    (ho : s.heap.get? f = some o) (hd : o.data = .func (fnX name qual params body scope cl dV kV doc pm an cdv ct)) (hcd : s.heap.CodeRec cdv qual)
    (hbind : bindArgs (fnX name qual params body scope cl dV kV doc pm an cdv ct) ⟨args, []⟩ = pure binds) (hloc : ∀ y ∈ binds, scope.names.lookup y.1 = some .local)
    (h : ∀ L h₁ tk loose mean mg mb, Fr (hideAll s.heap (N0.map (·.1))) L h₁ (fun y => binds.reverse.lookup y) → News (hideAll s.heap (N0.map (·.1))) L h₁ N0 → AllLt L N0 → (Mine.hd.heap_39 w.params).In (hideAll s.heap (N0.map (·.1))) →
      Top topProg loose mean mg mb (hideAll s.heap (N0.map (·.1))) → Room (A.deeper (envX qual scope L f cdv cl)) n →
      wpAny (model PG w) (A.deeper (envX qual scope L f cdv cl)) (execs body (envX qual scope L f cdv cl)) (fun fl s' => Q (match fl with | .ret v => v | _ => .none) s') (fun _ _ => False) { s with heap := h₁, toks := tk })
    (hco : scope.isCoroutine = false) (hgen : scope.isGenerator = false) (hk : scope.kind = .function) (hcell : ∀ x ∈ scope.names, x.2 ≠ .cell) :
    wpAny (model PG w) A (call (.ref f) args) Q E s := by
  obtain ⟨X, loose, mean, mg, mb, T⟩ := B
  refine wpAny_call (codeAny_call_function (by have := R.depth; omega) ho hd hco hgen rfl hcd ?_)
  rw [hbind]
  refine wpAny_pure (wpAny_newFunctionEnv hcell hloc (fun h₁ hns hsb => ?_) hk)
  have hk₁ : ∀ b o, s.heap.get? b = some o → h₁.get? b = some o := fun b o e => hsb.extBut b o (Nat.ne_of_lt (Heap.lt_size e)) (Heap.get?_push_of_some _ e)
  refine ⟨(T.nolimit.keeps fun b o e => of_hideAll _ e).fresh _ hsb, codeAny_func ?_⟩
  refine wpAny_mono (h _ h₁ _ loose mean mg mb ⟨hns, fun b o e => hk₁ b o (of_hideAll _ e), Nat.le_of_eq (hideAll_size _ _)⟩ (fun p hp => ?_) (allLt_of fun p hp => ?_) X T R.deeper) (fun _ _ q => q) fun _ _ q => q.elim
  · have e := h0 p hp
    exact ⟨hk₁ _ _ e, Nat.ne_of_lt (Heap.lt_size e), hideAll_none _ (List.mem_map_of_mem hp)⟩
  · exact Heap.lt_size (h0 p hp)
end
theorem enterCA {w : World} {f : Addr} {n : Nat} {args : List Value} {N0 : List (Addr × Obj)} {A : Around} {s : Shared} {Q E : Value → Shared → Prop} {name qual : Str} {params : Arguments} {body : List Stmt} {scope : Scope} {dV kV doc pm cdv ct oc : Value} {an od : Option Addr} {osl : Array (Option Value)} {binds : List (Str × Value)}
    (R : Room A (n + 1)) (B : Base w (hideAll s.heap (N0.map (·.1)))) (h0 : ∀ p ∈ N0, s.heap.get? p.1 = some p.2)
    (ho : (Mine.hd.heap_39 w.params).lookup f = some ⟨oc, od, .func (fnOf name qual params body scope dV kV doc pm an cdv ct), osl⟩) (hcd : codeIn (Mine.hd.heap_39 w.params) cdv qual = true)
    (hbind : BindsTo s (fnOf name qual params body scope dV kV doc pm an cdv ct) ⟨args, []⟩ binds)
    (hkind : (binds.all fun y => scope.names.lookup y.1 == some .local || scope.names.lookup y.1 == some .cell) = true)
    (hnd : ((cellsFrom 0 scope.names []).map (·.1)).Nodup)
    (h : ∀ L h₁ tk cells loose mean mg mb, Fr (hideAll s.heap (N0.map (·.1))) L h₁ (bindL (envOfC qual scope L f cdv).kindOf binds fun _ => none) → News (hideAll s.heap (N0.map (·.1))) L h₁ (cells ++ N0) → AllLt L N0 →
      CellsAre (bindC (envOfC qual scope L f cdv).kindOf binds fun _ => none) (cellsFrom (L + 1) scope.names []) cells →
      (Mine.hd.heap_39 w.params).In (hideAll s.heap (N0.map (·.1))) → Top topProg loose mean mg mb (hideAll s.heap (N0.map (·.1))) → Room (A.deeper (envOfC qual scope L f cdv)) n →
      wpAny (model PG w) (A.deeper (envOfC qual scope L f cdv)) (execs body (envOfC qual scope L f cdv)) (fun fl s' => Q (match fl with | .ret v => v | _ => .none) s') (fun _ _ => False) { s with heap := h₁, toks := tk })
    (hco : scope.isCoroutine = false) (hgen : scope.isGenerator = false) (hk : scope.kind = .function) :
    wpAny (model PG w) A (call (.ref f) args) Q E s := by
  have B' : Base w s.heap := B.keeps fun b o e => of_hideAll _ e
  obtain ⟨X', loose', mean', mg', mb', T'⟩ := B
  refine enterC R B' ho hcd hbind hkind hnd (fun L h₁ tk cells _ _ _ _ F N Y _ _ R' => h L h₁ tk cells loose' mean' mg' mb' ⟨F.ns, fun b o e => F.keep b o (of_hideAll _ e), Nat.le_trans (Nat.le_of_eq (hideAll_size _ _)) F.above⟩ (fun p hp => ?_) (allLt_of fun p hp => ?_) Y X' T' R') hco hgen hk
  · rcases List.mem_append.mp hp with hp | hp
    · refine ⟨(N p hp).1, (N p hp).2.1, ?_⟩
      cases q : (hideAll s.heap (N0.map (·.1))).get? p.1 with
      | none => rfl
      | some o => have := of_hideAll _ q; rw [(N p hp).2.2] at this; cases this
    · have e := h0 p hp
      refine ⟨F.keep _ _ e, Nat.ne_of_lt (Nat.lt_of_lt_of_le (Heap.lt_size e) F.above), hideAll_none _ (List.mem_map_of_mem hp)⟩
  · exact Nat.lt_of_lt_of_le (Heap.lt_size (h0 p hp)) F.above
noncomputable def bodyAt (w : World) (f : Addr) : Option FuncBody := match (Mine.hd.heap_39 w.params).lookup f with
  | some ⟨_, _, .func fd, _⟩ => some fd.body
  | _ => none
end Mine
end
section
open PySem PySem.W PyProof.Rows PySem.Calls
set_option maxRecDepth 100000
set_option maxHeartbeats 1000000
namespace Mine
section
variable {w : World} {f : Addr} {n k : Nat} {args : List Value} {N0 : List (Addr × Obj)} {C : List Addr} {pre : Heap → Prop} {post : Heap → Value → Heap → Prop} {A : Around} {s : Shared} {Q E : Value → Shared → Prop} {h₀ : Heap} {L : Addr} {m : Str → Option Value} {news news' : List (Addr × Obj)}
  {loose : List Str} {mean : ExcName → Option Value} {mg mb : Str → Option Value}
theorem enterAL {name qual : Str} {params : Arguments} {body : List Stmt} {scope : Scope} {dV kV doc pm cdv ct oc : Value} {an od : Option Addr} {osl : Array (Option Value)} {binds : List (Str × Value)}
    (R : Room A (n + 1)) (B : Base w (hideAll s.heap (N0.map (·.1)))) (h0 : ∀ p ∈ N0, s.heap.get? p.1 = some p.2)
    (ho : (Mine.hd.heap_39 w.params).lookup f = some ⟨oc, od, .func (fnOf name qual params body scope dV kV doc pm an cdv ct), osl⟩) (hcd : codeIn (Mine.hd.heap_39 w.params) cdv qual = true)
    (hbind : BindsTo s (fnOf name qual params body scope dV kV doc pm an cdv ct) ⟨args, []⟩ binds) (hloc : ∀ y ∈ binds, scope.names.lookup y.1 = some .local)
    (h : ∀ H L h₁ tk loose mean mg mb, H = hideAll s.heap (N0.map (·.1)) → Fr H L h₁ (fun y => binds.reverse.lookup y) → News H L h₁ N0 → AllLt L N0 → (Mine.hd.heap_39 w.params).In H →
      Top topProg loose mean mg mb H → Room (A.deeper (envOf qual scope L f cdv)) n → let env := envOf qual scope L f cdv; let A1 := A.deeper env;
      wpAny (model PG w) A1 (execs body env) (fun fl s' => Q (match fl with | .ret v => v | _ => .none) s') (fun _ _ => False) { s with heap := h₁, toks := tk })
    (hco : scope.isCoroutine = false) (hgen : scope.isGenerator = false) (hk : scope.kind = .function) (hcell : ∀ x ∈ scope.names, x.2 ≠ .cell) :
    wpAny (model PG w) A (call (.ref f) args) Q E s := by
  exact enterA R B h0 ho hcd hbind hloc (fun L h₁ tk loose mean mg mb F N l X T R' => h _ L h₁ tk loose mean mg mb rfl F N l X T R') hco hgen hk hcell

/-- a call of a closure -/
theorem enterXL {name qual : Str} {params : Arguments} {body : List Stmt} {scope : Scope} {cl : List (Str × Addr)} {dV kV doc pm cdv ct : Value} {an : Option Addr} {o : Obj} {binds : List (Str × Value)}
    (R : Room A (n + 1)) (B : Base w (hideAll s.heap (N0.map (·.1)))) (h0 : ∀ p ∈ N0, s.heap.get? p.1 = some p.2)
    (ho : s.heap.get? f = some o) (hd : o.data = .func (fnX name qual params body scope cl dV kV doc pm an cdv ct)) (hcd : s.heap.CodeRec cdv qual)
    (hbind : bindArgs (fnX name qual params body scope cl dV kV doc pm an cdv ct) ⟨args, []⟩ = pure binds) (hloc : ∀ y ∈ binds, scope.names.lookup y.1 = some .local)
    (h : ∀ H L h₁ tk loose mean mg mb, H = hideAll s.heap (N0.map (·.1)) → Fr H L h₁ (fun y => binds.reverse.lookup y) → News H L h₁ N0 → AllLt L N0 → (Mine.hd.heap_39 w.params).In H →
      Top topProg loose mean mg mb H → Room (A.deeper (envX qual scope L f cdv cl)) n → let env := envX qual scope L f cdv cl; let A1 := A.deeper env;
      wpAny (model PG w) A1 (execs body env) (fun fl s' => Q (match fl with | .ret v => v | _ => .none) s') (fun _ _ => False) { s with heap := h₁, toks := tk })
    (hco : scope.isCoroutine = false) (hgen : scope.isGenerator = false) (hk : scope.kind = .function) (hcell : ∀ x ∈ scope.names, x.2 ≠ .cell) :
    wpAny (model PG w) A (call (.ref f) args) Q E s := by
  obtain ⟨X, loose, mean, mg, mb, T⟩ := B
  refine wpAny_call (codeAny_call_function (by have := R.depth; omega) ho hd hco hgen rfl hcd ?_)
  rw [hbind]
  refine wpAny_pure (wpAny_newFunctionEnv hcell hloc (fun h₁ hns hsb => ?_) hk)
  have hk₁ : ∀ b o, s.heap.get? b = some o → h₁.get? b = some o := fun b o e => hsb.extBut b o (Nat.ne_of_lt (Heap.lt_size e)) (Heap.get?_push_of_some _ e)
  refine ⟨(T.nolimit.keeps fun b o e => of_hideAll _ e).fresh _ hsb, codeAny_func ?_⟩
  refine wpAny_mono (h _ _ h₁ _ loose mean mg mb rfl ⟨hns, fun b o e => hk₁ b o (of_hideAll _ e), Nat.le_of_eq (hideAll_size _ _)⟩ (fun p hp => ?_) (allLt_of fun p hp => ?_) X T R.deeper) (fun _ _ q => q) fun _ _ q => q.elim
  · have e := h0 p hp
    exact ⟨hk₁ _ _ e, Nat.ne_of_lt (Heap.lt_size e), hideAll_none _ (List.mem_map_of_mem hp)⟩
  · exact Heap.lt_size (h0 p hp)
end
def rdOf (o : Obj) (qual : Str) (cl : List (Str × Addr)) (doc pm cd ct : Value) : Option FuncData := match o with
  | ⟨_, _, .func ⟨_, _, _, .stmts [_, _, .FunctionDef nm prm bd _ _ _ sc _ _ _, _, _], _, _, _, _, _, _, _, _, _, _, _⟩, _⟩ => some (fnX nm qual prm bd sc cl .none .none doc pm none cd ct)
  | _ => none
noncomputable def rdF (w : World) (qual : Str) (cl : List (Str × Addr)) (doc pm cd ct : Value) : Option FuncData := ((Mine.hd.heap_39 w.params).lookup 190).bind fun o => rdOf o qual cl doc pm cd ct
theorem rdF_use {w : World} {qual : Str} {cl : List (Str × Addr)} {doc pm cd ct : Value} {fd : FuncData} {o : Obj} {P : Prop} (e : (Mine.hd.heap_39 w.params).lookup 190 = some o) (hf : rdF w qual cl doc pm cd ct = some fd) (h : rdOf o qual cl doc pm cd ct = some fd → P) : P := h (by unfold rdF at hf; rw [e] at hf; exact hf)
end Mine
end
section
open PySem PySem.W PyProof.Rows PySem.Calls
set_option maxRecDepth 100000
set_option maxHeartbeats 1000000
namespace Mine
section
variable {prog : Program} {w : World} {A : Around} {E : Value → Shared → Prop} {s : Shared}
theorem fn_gslot : Slot "function" "__getattribute__" "object.__getattribute__" := .of (owner := "object") (n := "__getattribute__") (by rw [typeLookup_type, builtinLookup_eq_fast]; kernel_rfl) (by decide +kernel) (by decide +kernel) (by decide +kernel)
    (by first | exact .inl (by decide +kernel) | exact .inr (by decide +kernel)) (by rw [isSubtype_type]; kernel_rfl)
theorem fn_getattr : typeLookup (.type "function") "__getattr__" = pure none := by rw [typeLookup_type, builtinLookup_eq_fast]; kernel_rfl
theorem ga_meets {S D R : Addr} {fd : FuncData} {t : Tok} {tk : Tok} {n : Nat} {hsh : Int} : Meets (Builtin.«object.__getattribute__» ⟨[.ref S, .str (Str.ofString "read") tk], []⟩) (fun _ R' s => s.heap.get? S = some { cls := .type "function", dict := some D, data := .func fd } ∧ s.heap.get? D = some (dictOf [⟨hsh, .str (Str.ofString "read") t, .ref R⟩] n) ∧ R' (.ok (.ret (.ref R))) s) :=
  .of_wp fun prog w A R' s hh => by
    obtain ⟨h, g, d, tk, os⟩ := s
    obtain ⟨hS, hD, hQ⟩ := hh
    have hT : (⟨h, g, d, tk, os⟩ : Shared).TypeIs (.ref S) "function" := ⟨_, hS, rfl⟩
    have f2 := fn_read
    have f3 := fn_mro
    repeat (any_goals (first | assumption | wp_step))
    exact ⟨_, rfl, hQ⟩
theorem getm_fn {S D R : Addr} {fd : FuncData} {t : Tok} {n : Nat} {hsh : Int} {pl : Sem Bool} {Q : Value × List Value → Shared → Prop} (hS : s.heap.get? S = some { cls := .type "function", dict := some D, data := .func fd })
   (hD : s.heap.get? D = some (dictOf [⟨hsh, .str (Str.ofString "read") t, .ref R⟩] n))
   (hQ : ∀ tk, Q (.ref R, []) { s with toks := tk }) : wpAny (model prog w) A (getMethod (.ref S) (Str.ofString "read") pl) Q E s := by
  obtain ⟨h, g, d, tk, os⟩ := s
  have hT : (⟨h, g, d, tk, os⟩ : Shared).TypeIs (.ref S) "function" := ⟨_, hS, rfl⟩
  have f1 := fn_gslot.lookup
  have f2 := fn_read
  have f3 := fn_mro
  have f4 := fn_getattr
  repeat (any_goals (first | assumption | wp_step))
  rw [fn_gslot.bind]
  refine wpAny_pure ?_
  dsimp only [List.cons_append, List.nil_append]
  refine call_meets fn_gslot ⟨_, hS, rfl⟩ F.entry_object_getattribute (F.args_object_getattribute_2 _ _) ga_meets ⟨hS, hD, ?_⟩
  exact wpAny_pure (wpAny_pure (hQ _))
end
theorem fnAt_of {h₀ h : Heap} {L q : Addr} {o : Obj} {fd : FuncData} {news : List (Addr × Obj)} (N : News h₀ L h news) (hm : (q, o) ∈ news) (hd : o.data = .func fd) : FnAt q h := by
  obtain ⟨oc, od, dd, sl⟩ := o
  cases hd
  exact ⟨_, _, _, _, (N _ hm).1⟩
theorem rec_keeps {h h' : Heap} {c : Addr} {q : Str} (x : h.CodeRec (.ref c) q) (k : ∀ o, h.get? c = some o → h'.get? c = some o) : h'.CodeRec (.ref c) q := by
  obtain ⟨c', oc, vs, t, e, a, r⟩ := x
  cases e
  exact ⟨_, oc, vs, t, rfl, k _ a, r⟩
theorem SpecC.use1 {w : World} {f c : Addr} {n k : Nat} {args : List Value} {N0 : List (Addr × Obj)} {pre : Heap → Prop} {P : Value → Obj → Prop} {A : Around} {s : Shared} {Q E : Value → Shared → Prop} {h₀ : Heap} {L : Addr} {m : Str → Option Value} {news : List (Addr × Obj)} {g : Obj → List (Addr × Obj)} {o : Obj}
    {loose : List Str} {mean : ExcName → Option Value} {mg mb : Str → Option Value}
    (S : SpecC w f n args N0 [c] pre (fun _ v h' => ∃ o', h'.get? c = some o' ∧ P v o')) (R : Room A k) (hk : n ≤ k) (F : Fr h₀ L s.heap m) (N : News h₀ L s.heap news) (X : (Mine.hd.heap_39 w.params).In h₀) (T : Top topProg loose mean mg mb h₀) (hs : ∀ p ∈ N0, p ∈ news) (hp : pre s.heap)
    (U : UpdF c o news g) (h : ∀ v h' tk o', Fr h₀ L h' m → News h₀ L h' (g o') → P v o' → Q v { s with heap := h', toks := tk }) : wpAny (model PG w) A (call (.ref f) args) Q E s := by
  obtain ⟨pre', post, rfl, hg, h1, h2⟩ := U.split
  have z := N _ (List.mem_append_right _ (.head _))
  refine SpecC.use (news' := pre' ++ post) S R hk F N X T hs hp (fun b hb => ⟨o, by rw [List.mem_singleton.mp hb]; exact List.mem_append_right _ (.head _)⟩) (fun p hp => ?_) fun v h' tk F' N' kk ⟨o', e, q⟩ => h v h' tk o' F' (fun p hp => ?_) q
  · rcases List.mem_append.mp hp with hp | hp
    · exact ⟨List.mem_append_left _ hp, fun q => h1 p hp (List.mem_singleton.mp q)⟩
    · exact ⟨List.mem_append_right _ (.tail _ hp), fun q => h2 p hp (List.mem_singleton.mp q)⟩
  · rw [hg] at hp
    rcases List.mem_append.mp hp with hp | hp
    · exact N' p (List.mem_append_left _ hp)
    · rcases List.mem_cons.mp hp with rfl | hp
      · exact ⟨e, z.2⟩
      · exact N' p (List.mem_append_right _ hp)
/-- the stream at S, k octets read: what its heap bears -/
structure Strm (w : World) (S Lst c : Addr) (qual : Str) (ks : List Int) (k : Nat) (D R cA cO : Addr) (oS oD oR oL oA oO : Obj) : Prop where
  fS : ∃ fdS, oS = { cls := .type "function", dict := some D, data := .func fdS }
  fD : ∃ hsh tD nD, oD = dictOf [⟨hsh, .str (Str.ofString "read") tD, .ref R⟩] nD
  fR : ∃ doc pm ct fd, rdF w qual [(Str.ofString "octets", cO), (Str.ofString "at", cA)] doc pm (.ref c) ct = some fd ∧ oR.data = .func fd
  fL : ∃ tk n, oL = listOf #[.int (k : Int) tk] n
  fA : oA.data = .cell (some (.ref Lst))
  fO : ∃ b tb, oO.data = .cell (some (.bytes b tb)) ∧ KBw.bInts b = ks
  nS : @Ne Nat Lst S
  nD : @Ne Nat Lst D
  nR : @Ne Nat Lst R
  nA : @Ne Nat Lst cA
  nO : @Ne Nat Lst cO
  cS : @Ne Nat c S
  cD : @Ne Nat c D
  cR : @Ne Nat c R
  cL : @Ne Nat c Lst
  cA : @Ne Nat c cA
  cO : @Ne Nat c cO
theorem Strm.step {w : World} {S Lst c : Addr} {qual : Str} {ks : List Int} {k k' : Nat} {D R cA cO : Addr} {oS oD oR oL oL' oA oO : Obj} (x : Strm w S Lst c qual ks k D R cA cO oS oD oR oL oA oO) (h : ∃ tk n, oL' = listOf #[.int (k' : Int) tk] n) :
    Strm w S Lst c qual ks k' D R cA cO oS oD oR oL' oA oO := { x with fL := h }
end Mine
end
section
open PySem PySem.W PyProof.Rows PySem.Calls
set_option maxRecDepth 100000
set_option maxHeartbeats 400000
namespace Mine
theorem fillC6 (w : World) : Mine.hd.heap_39 w.params = Mine.hd.heap_39 w.params ∧ PySem.Challenge.rw_rt0043_01.prog = PySem.Challenge.rw_rt0043_01.prog := by
  k_with_none
  k_fill
  k_with "INTRO" =>
    intro A s Q E R B hpre hQ
    have hA := R.handled
    obtain ⟨hd', d', fr', gs', u'⟩ := A
    dsimp only at hA
    subst hA
  k_with "ENTER" =>
    case R => assumption
    case B => assumption
    case ho => k_is
    case hcd => k_is
    case hb => first | exact BindsTo.of_eq rfl | rfl
    case hl => first | exact locs rfl | (intro D; exact locs rfl)
    case c1 => rfl
    case c2 => rfl
    case c3 => rfl
    case c4 => decide
    intro L h₁ tk loose mean mg mb F N X T R
    (try dsimp only)
    k_fold
  k_with "ENTERA" =>
    case R => assumption
    case B => assumption
    case h0 => assumption
    case ho => k_is
    case hcd => k_is
    case hb => exact BindsTo.of_eq rfl
    case hl => exact locs rfl
    case c1 => rfl
    case c2 => rfl
    case c3 => rfl
    case c4 => decide
    intro L h₁ tk loose mean mg mb F N l0 X T R
    (try simp only [AllLt, and_true] at l0)
    (try dsimp only)
    k_fold
  k_with "END" => ((try dsimp only); (rename Fr _ _ _ _ => F'); refine hQ _ _ _ (Fr.keep F') ?_; clear F')
  k_with "ENDA" => ((try dsimp only); (rename Fr _ _ _ _ => F'); (rename News _ _ _ _ => N'); refine hQ _ _ _ (keepA F' N' hpre (by first | exact List.forall_mem_nil _ | (intro p hp; simp only [List.mem_cons, List.mem_nil_iff, or_false, List.not_mem_nil] at hp ⊢; first | assumption | (rcases hp with rfl | rfl | rfl <;> simp)))) ?_; clear F')
  k_with "call builtin:issubclass" => ((rename News _ _ _ _ => N'); refine' call_issub ?k1 ?_; (case k1 => exact (N' _ (by k_mem)).1); k_whole)
  k_with "ROOM" => ((case R => assumption); (case hk => decide); (case F => k_asm); (case N => k_asm); (case X => k_asm); (case T => k_asm); k_whole)
  k_with "call ref" => ((with_reducible show wpAny _ _ (call (Value.ref 94) _) _ _ _); (refine' Spec.useV (fspath_spec _ _ _) ?R ?hk ?F ?N ?X ?T ?_; walk_at "ROOM"; intro h' tk' F' N'; (try k_sweep)))
  k_with "call ref" => ((with_reducible show wpAny _ _ (call (Value.ref 108) _) _ _ _); (refine' Spec.useS (getsep_spec _ _ _) ?R ?hk ?F ?N ?X ?T ?_; walk_at "ROOM"; intro t' h' tk' F' N'; (try k_sweep)))
  exact ⟨rfl, rfl⟩
theorem rd_clip {n k : Nat} (hk : k < n) : clipAt n (k : Int) = k ∧ clipAt n ((k : Int) + 1) = k + 1 := by
  have e : ((k : Int) + 1) = ((k + 1 : Nat) : Int) := by omega
  rw [e, clipAt_nat, clipAt_nat]
  omega
theorem rd_take {ks : List Int} {k : Nat} (hk : k < ks.length) : (ks.drop (clipAt ks.length (k : Int))).take (clipAt ks.length ((k : Int) + 1) - clipAt ks.length (k : Int)) = [ks.getD k 0] := by
  rw [(rd_clip hk).1, (rd_clip hk).2, show k + 1 - k = 0 + 1 by omega, List.drop_eq_getElem_cons hk, List.take_succ_cons, List.take_zero]
  simp [List.getD, hk]
theorem rd_next {ks : List Int} {k : Nat} (hk : k < ks.length) : (k : Int) + ((min (clipAt ks.length ((k : Int) + 1) - clipAt ks.length (k : Int)) (ks.length - clipAt ks.length (k : Int)) : Nat) : Int) = ((k + 1 : Nat) : Int) := by
  rw [(rd_clip hk).1, (rd_clip hk).2]
  omega
theorem read_spec (w : World) {f c cA cO Lst : Addr} {qual : Str} {doc pm ct : Value} {fd : FuncData} {oR oA oO : Obj} {k : Nat} {tk t : Tok} {n : Nat} {b : Array UInt8} {tb : Tok} {ks : List Int}
    (hf : rdF w qual [(Str.ofString "octets", cO), (Str.ofString "at", cA)] doc pm (.ref c) ct = some fd) (hR : oR.data = .func fd)
    (hA : oA.data = .cell (some (.ref Lst))) (hO : oO.data = .cell (some (.bytes b tb))) (hb : KBw.bInts b = ks) (hk : k < ks.length) (hks : ks.length ≤ 16777216) (d1 : @Ne Nat Lst f) (d2 : @Ne Nat Lst cA) (d3 : @Ne Nat Lst cO) :
    SpecC w f 1 [.int 1 t] [(f, oR), (Lst, listOf #[.int k tk] n), (cA, oA), (cO, oO)] [Lst] (fun h => h.CodeRec (.ref c) qual)
      (fun _ v h' => ∃ o', h'.get? Lst = some o' ∧ (∃ tk' n', o' = listOf #[.int ((k + 1 : Nat) : Int) tk'] n') ∧ ∃ b' t', v = .bytes b' t' ∧ KBw.bInts b' = [ks.getD k 0]) := by
  k_with "eval Name" => ((with_reducible show wpAny _ _ (eval (Expr.Name _ _) (envX _ _ _ _ _ _)) _ _ _); k_dflt (refine' nameX_F ?N ?c ?m ?d ?_ ?a ?b; (case a => rfl); (case b => rfl); (case N => k_asm); (case c => rfl); (case m => k_mem); (case d => k_asm); k_whole))
  refine' rdF_use ?e hf ?g
  case e => k_is
  intro hf'
  clear hf
  dsimp only [rdOf] at hf'
  replace hf' := Option.some.inj hf'
  subst hf'
  intro A s Q E R B h0 hpre hQ
  have hA' := R.handled
  obtain ⟨hd', d', fr', gs', u'⟩ := A
  dsimp only at hA'
  subst hA'
  refine' enterXL (n := 0) (binds := [(Str.ofString "count", .int 1 t)]) ?R ?B ?h0 ?ho ?hd ?hcd ?hb ?hl ?h ?c1 ?c2 ?c3 ?c4
  case R => assumption
  case B => assumption
  case h0 => assumption
  case ho => exact h0 _ (by k_mem)
  case hd => exact hR
  case hcd => exact hpre
  case hb => exact rfl
  case hl => exact locs rfl
  case c1 => rfl
  case c2 => rfl
  case c3 => rfl
  case c4 => decide
  obtain ⟨sh, sg, sd, stk, so⟩ := s
  intro H L h₁ tk loose mean mg mb hH F N l0 X T R env A1
  (try simp only [AllLt, and_true] at l0)
  k_fold
  k_steps
  (rename KBw.bInts (KBy.picked _ _ _) = _ => hb')
  dsimp only
  (rename Fr _ _ _ _ => F'); (rename News _ _ _ _ => N')
  subst hH
  refine hQ _ _ _ (keepC F' N' h0 ?_) ⟨_, (N' _ (.tail _ (.head _))).1, ⟨_, _, congrArg (fun z => listOf #[Value.int z _] n) ?_⟩, _, _, rfl, ?_⟩
  · intro p hp
    rcases List.mem_cons.mp hp with rfl | hp
    · exact .inr (.head _)
    · rcases List.mem_cons.mp hp with rfl | hp
      · exact .inl (List.mem_singleton.mpr rfl)
      · exact .inr (.tail _ (.tail _ hp))
  · exact rd_next hk
  · exact hb'.trans (rd_take hk)
end Mine
end
section
open PySem PySem.W PyProof.Rows PySem.Calls
set_option maxRecDepth 100000
set_option maxHeartbeats 1000000
namespace Mine
theorem fillC9 (w : World) : Mine.hd.heap_39 w.params = Mine.hd.heap_39 w.params ∧ PySem.Challenge.rw_rt0043_01.prog = PySem.Challenge.rw_rt0043_01.prog := by
  k_with_none
  k_fill
  k_with "INTRO" =>
    intro A s Q E R B hpre hQ
    have hA := R.handled
    obtain ⟨hd', d', fr', gs', u'⟩ := A
    dsimp only at hA
    subst hA
  k_with "ENTER" =>
    case R => assumption
    case B => assumption
    case ho => k_is
    case hcd => k_is
    case hb => first | exact BindsTo.of_eq rfl | rfl
    case hl => first | exact locs rfl | (intro D; exact locs rfl)
    case c1 => rfl
    case c2 => rfl
    case c3 => rfl
    case c4 => decide
    intro L h₁ tk loose mean mg mb F N X T R
    (try dsimp only)
    k_fold
  k_with "INTROL" =>
    intro A s Q E R B hpre hQ
    have hA := R.handled
    obtain ⟨hd', d', fr', gs', u'⟩ := A
    dsimp only at hA
    subst hA
    obtain ⟨sh, sg, sd, stk, so⟩ := s
  k_with "ENTERA" =>
    case R => assumption
    case B => assumption
    case h0 => assumption
    case ho => k_is
    case hcd => k_is
    case hb => exact BindsTo.of_eq rfl
    case hl => exact locs rfl
    case c1 => rfl
    case c2 => rfl
    case c3 => rfl
    case c4 => decide
    intro H L h₁ tk loose mean mg mb hH F N l0 X T R env A1
    (try simp only [AllLt, and_true] at l0)
    k_fold
  k_with "END" => ((try dsimp only); (rename Fr _ _ _ _ => F'); refine hQ _ _ _ (Fr.keep F') ?_; clear F')
  k_with "ENDA" => ((try dsimp only); (rename Fr _ _ _ _ => F'); (rename News _ _ _ _ => N'); subst hH; refine hQ _ _ _ (keepA F' N' hpre (by first | exact List.forall_mem_nil _ | (intro p hp; simp only [List.mem_cons, List.mem_nil_iff, or_false, List.not_mem_nil] at hp ⊢; first | assumption | (rcases hp with rfl | rfl | rfl <;> simp)))) ?_; clear F')
  k_with "call builtin:issubclass" => ((rename News _ _ _ _ => N'); refine' call_issub ?k1 ?_; (case k1 => exact (N' _ (by k_mem)).1); k_whole)
  k_with "ROOM" => ((case R => assumption); (case hk => decide); (case F => k_asm); (case N => k_asm); (case X => k_asm); (case T => k_asm); k_whole)
  k_with "call ref" => ((with_reducible show wpAny _ _ (call (Value.ref 94) _) _ _ _); (refine' Spec.useV (fspath_spec _ _ _) ?R ?hk ?F ?N ?X ?T ?_; walk_at "ROOM"; intro h' tk' F' N'; (try k_sweep)))
  k_with "call ref" => ((with_reducible show wpAny _ _ (call (Value.ref 108) _) _ _ _); (refine' Spec.useS (getsep_spec _ _ _) ?R ?hk ?F ?N ?X ?T ?_; walk_at "ROOM"; intro t' h' tk' F' N'; (try k_sweep)))
  exact ⟨rfl, rfl⟩
theorem uint_sub {a b c d e f : Addr × Obj} : ∀ p ∈ [c, d, e, f], p ∈ [a, b, c, d, e, f] := fun p h => .tail _ (.tail _ h)
theorem uint_off {c : Addr} {p q : Addr × Obj} (h1 : p.1 ≠ c) (h2 : q.1 ≠ c) : ∀ x ∈ [p, q], x.1 ≠ c := fun x h => by
  rcases List.mem_cons.mp h with rfl | h
  · exact h1
  · exact (List.mem_singleton.mp h) ▸ h2
theorem uint_c {c a b d e f g : Addr} {oa ob od oe of og : Obj} (h1 : c ≠ a) (h2 : c ≠ b) (h3 : c ≠ d) (h4 : c ≠ e) (h5 : c ≠ f) (h6 : c ≠ g) : c ∉ [(a, oa), (b, ob), (d, od), (e, oe), (f, of), (g, og)].map (·.1) := by
  simp only [List.map_cons, List.map_nil, List.mem_cons, List.not_mem_nil, or_false, not_or]
  exact ⟨h1, h2, h3, h4, h5, h6⟩
theorem uint_keep {c : Addr} {o o' : Obj} {p q r s t : Addr × Obj} : ∀ x ∈ [p, q, r, (c, o), s, t], x.1 ∈ [c] ∨ x ∈ [p, q, r, (c, o'), s, t] := by
  intro x hx
  simp only [List.mem_cons, List.not_mem_nil, or_false] at hx ⊢
  rcases hx with rfl | rfl | rfl | rfl | rfl | rfl <;> simp
theorem uint_spec (w : World) {S Lst c : Addr} {qual : Str} {ks : List Int} {k : Nat} {D R cA cO : Addr} {oS oD oR oL oA oO : Obj} (x : Strm w S Lst c qual ks k D R cA cO oS oD oR oL oA oO) (hk : k < ks.length) (hks : ks.length = 4) :
    SpecC w 136 2 [.ref S] [(S, oS), (D, oD), (R, oR), (Lst, oL), (cA, oA), (cO, oO)] [Lst] (fun h => h.CodeRec (.ref c) qual)
      (fun _ v h' => ∃ o', h'.get? Lst = some o' ∧ (∃ tk' n', o' = listOf #[.int ((k + 1 : Nat) : Int) tk'] n') ∧ ∃ t', v = .int (ks.getD k 0) t') := by
  k_with "getMethod ref" => ((rename News _ _ _ _ => N'); refine' getm_fn ?a ?b ?_; (case a => exact (N' _ (.head _)).1); (case b => exact (N' _ (.tail _ (.head _))).1); intro tk')
  k_with "callWith ref" => ((rename News _ _ _ _ => N'); refine' callWith_F ?k1 ?_; (case k1 => exact fnAt_of N' (by k_mem) hRd); k_whole)
  k_with "FnAt" => ((rename News _ _ _ _ => N'); exact fnAt_of N' (by k_mem) hRd)
  k_with "call ref" => ((rename Fr _ _ _ _ => F'); (rename News _ _ _ _ => N'); refine' SpecC.use1 (read_spec w hf hRd x.fA hOd hb hk (by omega) x.nR x.nA x.nO) ?R ?hk F' N' ?X ?T ?hs ?hp ?U ?_; (case R => assumption); (case hk => decide); (case X => k_asm); (case T => k_asm); (case hs => exact uint_sub); (case hp => exact rec_keeps hrec fun o e => F'.keep _ _ e); (case U => exact .tail x.nS.symm (.tail x.nD.symm (.tail x.nR.symm (.head (uint_off x.nA.symm x.nO.symm))))); intro v' h' tk' o' F' N' hp'; obtain ⟨hq', b', t', hv, hb'⟩ := hp'; subst hv)
  intro A s Q E R B h0 hpre hQ
  have hA' := R.handled
  obtain ⟨hd', d', fr', gs', u'⟩ := A
  dsimp only at hA'
  subst hA'
  obtain ⟨sh, sg, sd, stk, so⟩ := s
  obtain ⟨fdS, hS⟩ := x.fS
  obtain ⟨hsh, tD, nD, hD⟩ := x.fD
  obtain ⟨doc, pm, ct, fd, hf, hRd⟩ := x.fR
  obtain ⟨tk, n, hL⟩ := x.fL
  obtain ⟨b, tb, hOd, hb⟩ := x.fO
  subst hS hD hL
  refine' enterAL (n := 1) (binds := [(Str.ofString "f", .ref S)]) ?R ?B ?h0 ?ho ?hcd ?hb ?hl ?h ?c1 ?c2 ?c3 ?c4
  walk_at "ENTERA"
  have hrec : H.CodeRec (.ref c) qual := hH ▸ rec_keeps hpre fun o e => hideAll_get _ e (uint_c x.cS x.cD x.cR x.cL x.cA x.cO)
  k_steps
  dsimp only
  (rename Fr _ _ _ _ => F'); (rename News _ _ _ _ => N')
  subst hH
  exact hQ _ _ _ (keepC F' N' h0 uint_keep) ⟨_, (N' _ (.tail _ (.tail _ (.tail _ (.head _))))).1, hq', _, rfl⟩
end Mine
end
section
open PySem PySem.W PyProof.Rows PySem.Calls
set_option maxRecDepth 100000
set_option maxHeartbeats 1000000
namespace Mine
section
open Builtin Builtin.Str
variable {prog : Program} {w : World} {A : Around} {E : Value → Shared → Prop} {s : Shared}
theorem nextOf_tup_item {it l : Addr} {i : Nat} {items : Array Value} {x : Value} {Q : Value → Shared → Prop} (hit : s.heap.IsTupleIter it l i)
    (hl : s.heap.IsTuple l items) (hx : items[i]? = some x)
    (hQ : ∀ h', h'.IsTupleIter it l (i + 1) → Heap.SameBut it s.heap h' → Q x { s with heap := h' }) :
    wpAny (model prog w) A (Builtin.SmallTypes.nextOf (.ref it)) Q E s := by
  obtain ⟨o, ho, hc, hd⟩ := id hit
  obtain ⟨ol, hol, _, nl, hdl⟩ := hl
  unfold Builtin.SmallTypes.nextOf
  refine wpAny_bind (wpAny_callSpecial?_slot (name := PySem.Str.ofString "__next__") hit.typeIs F.slot_tuple_iterator_next
    (wpAny_call_entry F.slot_tuple_iterator_next hit.typeIs F.entry_tuple_iterator_next ?_ (F.args_tuple_iterator_next_1 _)))
  refine wpAny_bind (m := field (.ref it) 0) (wpAny_field ho hd (x := .ref l) rfl ?_)
  rw [if_neg (show ¬ ((Value.ref l == Value.none) = true) from Bool.false_ne_true)]
  refine wpAny_bind (m := field (.ref it) 1) (wpAny_field ho hd (x := .int i 0) rfl ?_)
  refine wpAny_bind (m := seqItems? (.ref l)) (wpAny_seqItems hol hdl ?_)
  simp only [Int.toNat_natCast, Option.getD_some, hx]
  refine wpAny_bind (wpAny_setField ho hd (by simp) (wpAny_pure ⟨x, rfl, wpAny_pure (hQ _ ?_ (Heap.SameBut.update ..))⟩))
  exact ⟨_, Heap.get?_update_self _ ho (Obj.isFreed_of_fields (Obj.data_mapFields hd _)), (Obj.cls_mapFields ..).trans hc, by rw [Obj.data_mapFields hd]; simp [rawInt]⟩
theorem nextOf_tup_end {it l : Addr} {i : Nat} {items : Array Value} {Q : Value → Shared → Prop} (hh : A.handled = none) (hit : s.heap.IsTupleIter it l i)
    (hl : s.heap.IsTuple l items) (hx : items[i]? = none)
    (hE : ∀ h' e, Heap.ExtBut it s.heap h' → (∃ o, h'.get? e = some o ∧ o.cls = .type "StopIteration") → E (.ref e) { s with heap := h' }) :
    wpAny (model prog w) A (Builtin.SmallTypes.nextOf (.ref it)) Q E s := by
  obtain ⟨o, ho, hc, hd⟩ := id hit
  obtain ⟨ol, hol, _, nl, hdl⟩ := hl
  unfold Builtin.SmallTypes.nextOf
  refine wpAny_bind (wpAny_callSpecial?_slot (name := PySem.Str.ofString "__next__") hit.typeIs F.slot_tuple_iterator_next
    (wpAny_call_entry F.slot_tuple_iterator_next hit.typeIs F.entry_tuple_iterator_next ?_ (F.args_tuple_iterator_next_1 _)))
  refine wpAny_bind (m := field (.ref it) 0) (wpAny_field ho hd (x := .ref l) rfl ?_)
  rw [if_neg (show ¬ ((Value.ref l == Value.none) = true) from Bool.false_ne_true)]
  refine wpAny_bind (m := field (.ref it) 1) (wpAny_field ho hd (x := .int i 0) rfl ?_)
  refine wpAny_bind (m := seqItems? (.ref l)) (wpAny_seqItems hol hdl ?_)
  simp only [Int.toNat_natCast, Option.getD_some, hx]
  refine wpAny_bind (wpAny_rule (wpAny_bind (wpAny_setField ho hd (by simp) ?_)))
  refine wpAny_bind (m := newExc (.type "StopIteration") []) ?_
  simp only [newExc, newTuple]
  refine wpAny_bind (wpAny_newObj_type ?_ (by size_fits))
  refine wpAny_bind (m := firstArgMember _ _) (wpAny_of_eq (a := Value.none) (by first | rfl | (simp only [firstArgMember]; rfl)) ?_)
  refine wpAny_newObj_type ?_ (by size_fits)
  simp only [raiseNew]
  refine wpAny_bind (wpAny_handled ?_)
  first | rw [show A.in1.handled = none from hh] | rw [hh]
  refine wpAny_bind (wpAny_pure (wpAny_throw ?_))
  exact hE _ _ (((Heap.SameBut.update ..).extBut.push _).push _) ⟨_, Heap.get?_push_size _ rfl, rfl⟩
theorem meets_enum_tup (l : Addr) (items : Array Value) (n : Nat) :
    Meets (Builtin.«enumerate.__new__» ⟨[.type "enumerate", .ref l], []⟩) (fun _ R s => s.heap.get? l = some { cls := .type "tuple", data := .seq items n } ∧
      R (.ok (.ret (.ref (s.heap.push { cls := .type "tuple_iterator", data := .fields #[.ref l, .int 0 0] }).objs.size)))
        { s with heap := (s.heap.push { cls := .type "tuple_iterator", data := .fields #[.ref l, .int 0 0] }).push { cls := .type "enumerate", data := .fields #[.none, .bool false, .ref s.heap.objs.size, rawInt 0, .none, .none] } }) :=
  .of_wp fun prog w A R s h => by
    obtain ⟨hp, g, d, tk, os⟩ := s; obtain ⟨hl, h⟩ := h
    have hsub := sub_enumerate
    have hL : Heap.IsTuple (Shared.heap ⟨hp, g, d, tk, os⟩) l items := ⟨_, hl, rfl, n, rfl⟩
    wp_walk using AutoSeq1.wpAny_loadPart' hl
    refine wpAny_stack_any fun st => wpAny_pure ?_
    split
    · rename_i c _ _ _ _ _
      cases (c == Value.type "enumerate")
      · wp_walk using AutoSeq1.wpAny_loadPart' hl, wpAny_pyIter_tuple hL
        exact ⟨_, rfl, h⟩
      · wp_walk using AutoSeq1.wpAny_loadPart' hl, wpAny_pyIter_tuple hL
        exact ⟨_, rfl, h⟩
    · wp_walk using AutoSeq1.wpAny_loadPart' hl, wpAny_pyIter_tuple hL
      exact ⟨_, rfl, h⟩
theorem draws_tup (hh : A.handled = none) (it l : Addr) (hne : l ≠ it) (items : Array Value) : Draws prog w A it [it, l] items.size (fun i v => items[i]? = some v) (fun i h => h.IsTupleIter it l i ∧ h.IsTuple l items) where
  live := fun _ _ st => let ⟨o, ho, _⟩ := st.1; ⟨o, ho⟩
  frame := fun _ _ _ st hk => ⟨st.1.at fun o e => hk it (by simp) o e, st.2.at fun o e => hk l (by simp) o e⟩
  item := fun i s Q E hi st hQ => nextOf_tup_item st.1 st.2 (x := items[i]) (by simp [hi]) fun h' a b => hQ _ h' s.toks (by simp [hi]) ⟨a, st.2.extBut b.extBut hne⟩ b
  done := fun s Q E st hE => nextOf_tup_end hh st.1 st.2 (by simp) hE
theorem call_enum_tup {l : Addr} {items : Array Value} {n : Nat} {Q : Value → Shared → Prop} (hl : s.heap.get? l = some { cls := .type "tuple", data := .seq items n })
    (h : ∀ h', IsEnum h' (s.heap.objs.size + 1) s.heap.objs.size 0 .none → h'.IsTupleIter s.heap.objs.size l 0 → (∀ b o, s.heap.get? b = some o → h'.get? b = some o) → Q (.ref (s.heap.objs.size + 1)) { s with heap := h' }) :
    wpAny (model prog w) A (call (.type "enumerate") [.ref l]) Q E s := by
  refine callType_new F.called_enumerate (by decide) (F.typeCall_enumerate_1 _) (F.newCall_enumerate_1 _) (fun obj => F.args_object_init_2 obj _) F.entry_enumerate_new (meets_enum_tup l items n) ⟨hl, ?_⟩
  have hz : (s.heap.push { cls := .type "tuple_iterator", data := .fields #[.ref l, .int 0 0] }).objs.size = s.heap.objs.size + 1 := Heap.size_push ..
  show _ ∧ _
  rw [hz]
  have he := Heap.get?_push_size (s.heap.push { cls := .type "tuple_iterator", data := .fields #[.ref l, .int 0 0] }) (o := { cls := .type "enumerate", data := .fields #[.none, .bool false, .ref s.heap.objs.size, rawInt 0, .none, .none] }) rfl
  rw [hz] at he
  exact ⟨⟨_, he, rfl⟩, h _ he ⟨_, Heap.get?_push_of_some _ (Heap.get?_push_size _ rfl), rfl, rfl⟩ fun b o x => Heap.get?_push_of_some _ (Heap.get?_push_of_some _ x)⟩
end
section
open PySem.W
variable {prog : Program} {w : World} {A : Around} {E : Value → Shared → Prop} {s : Shared} {env : Env} {h₀ : Heap} {body : List Stmt} {Q : Flow → Shared → Prop} {elts : List PySem.Expr} {kk : Nat} {pos : Pos}
theorem allObj_mono : ∀ {ws : List (Addr × String)} {k k' : List (Addr × Obj) → Prop}, AllObj ws k → (∀ its, k its → k' its) → AllObj ws k'
  | [], _, _, x, h => h _ x
  | _ :: _, _, _, x, h => fun o ho => allObj_mono (x o ho) fun its => h (_ :: its)
theorem enumOld {ax : Addr} {vs : List Value} {n : Nat} {m₀ : PySem.Str → Option Value} {news : List (Addr × Obj)} (hh : A.handled = none) (F : Fr h₀ env.locals s.heap m₀) (N : News h₀ env.locals s.heap news)
    (hg : h₀.get? ax = some { cls := .type "tuple", data := .seq vs.toArray n })
    (rest : ∀ I : Addr, (∀ p ∈ news, p.1 < I) → ItemsRest prog w A E h₀ env (.Tuple elts kk pos) body Q s [(I + 1, "enumerate"), (I, "tuple_iterator")] [] (enumItems 0 vs) m₀ news) :
    wpAny (model prog w) A (call (.type "enumerate") [.ref ax]) (fun xv s₁ => wpAny (model prog w) A (pyIter xv) (fun it s₂ => TurnsAt prog w A h₀ env (.Tuple elts kk pos) body Q E it s₂) E s₁) E s := by
  have hax := F.keep _ _ hg
  have hlt : ax < s.heap.objs.size := Heap.lt_size hax
  have hLs : env.locals < s.heap.objs.size := F.ns.lt
  refine call_enum_tup hax fun h' hE hI hk => ?_
  refine wpAny_pyIter_enum hE ?_
  refine ktg_core (tk0 := s.toks) (keep := []) (KTurns.ofWalksU (WalksT.enumerateD (draws_tup (A := A.in1) hh s.heap.objs.size ax (Nat.ne_of_lt hlt) vs.toArray) (s.heap.objs.size + 1) (Nat.succ_ne_self _) (by simp; exact (ktu_ne 1 hlt).symm) (by simp)).toU) (by simp [enumItems_length]) ?_ ?_ ?_ ?_ ?_ ?_ ?_ ?_ (Mine.Fr.keeps F hk) (Mine.News.keeps N hk) trivial (rest _ fun p hp => Heap.lt_size (N p hp).1)
  · rintro i v h ⟨T, vals, rfl, ⟨t, x, hx, rfl⟩, hT⟩
    refine ⟨_, enumItems_get vs 0 i (v := x) (by simpa using hx), T, t, rfl, ?_⟩
    show IsTup h T #[.int ((0 + i : Nat) : Int) t, x]
    rw [Nat.zero_add]
    exact hT
  · rintro i h ⟨⟨old, he⟩, ⟨oi, hoi, hic, _⟩, _⟩
    exact ⟨[(s.heap.objs.size + 1, _), (s.heap.objs.size, oi)], ⟨⟨rfl, rfl⟩, ⟨rfl, hic⟩, trivial⟩, fun p hp => by
      rcases List.mem_cons.mp hp with rfl | hp
      · exact he
      · rw [List.mem_singleton.mp hp]; exact hoi⟩
  · intro b hb
    have hb' : b = s.heap.objs.size + 1 ∨ b = s.heap.objs.size := by simpa using hb
    rcases hb' with rfl | rfl
    · exact ⟨by simp, ktu_new F (Nat.le_add_right _ _)⟩
    · exact ⟨by simp, ktu_new F (Nat.le_refl _)⟩
  · intro b hb
    simpa using hb
  · intro b hb
    have hb' : b = s.heap.objs.size + 1 ∨ b = s.heap.objs.size ∨ b = ax := by simpa using hb
    rcases hb' with rfl | rfl | rfl
    · exact .inl (by simp)
    · exact .inl (by simp)
    · exact .inr (.inr ⟨_, hg⟩)
  · intro hI'
    have hb' : env.locals = s.heap.objs.size + 1 ∨ env.locals = s.heap.objs.size ∨ env.locals = ax := by simpa using hI'
    rcases hb' with e | e | e
    · exact ktu_ne 1 hLs e
    · exact Nat.ne_of_lt hLs e
    · exact absurd (Heap.lt_size hg) (Nat.not_lt.mpr (e ▸ F.above))
  · intro p hp hI'
    have hb' : p.1 = s.heap.objs.size + 1 ∨ p.1 = s.heap.objs.size := by simpa using hI'
    have hlp := Heap.lt_size (N p hp).1
    rcases hb' with e | e
    · exact ktu_ne 1 hlp e
    · exact Nat.ne_of_lt hlp e
  · exact ⟨⟨_, hE⟩, hI, ⟨_, hk _ _ hax, rfl, _, rfl⟩⟩
/-- the end of a turn -/
def TurnE (h₀ : Heap) (L : Addr) (s : Shared) (its : List (Addr × Obj)) (keep : List (Addr × Obj)) (Inv : (PySem.Str → Option Value) → List (Addr × Obj) → Prop) (s₃ : Shared) : Prop :=
  ∃ h' tk m' news', s₃ = { s with heap := h', toks := tk } ∧ Fr h₀ L h' m' ∧ News h₀ L h' (its ++ news') ∧ (∀ p ∈ news', ∀ q ∈ its, p.1 ≠ q.1) ∧ SubL keep news' ∧ Inv m' news'
/-- a loop by its items, what holds between the turns told as a predicate -/
theorem items_ind {target : PySem.Expr} {ws : List (Addr × String)} {keep : List (Addr × Obj)} {α : Type} {item : Nat → α → Itm} {Inv : Nat → List α → (PySem.Str → Option Value) → List (Addr × Obj) → Prop}
    (step : ∀ i x xs m news v h tk, Inv i (x :: xs) m news → (item i x).Is v h → Fr h₀ env.locals h m → AllObj ws (fun its => News h₀ env.locals h (its ++ news) →
      wpAny (model prog w) A (assign target env v) (fun _ s₂ => wpAny (model prog w) A (execs body env) (fun f s₃ => match f with
        | .ret v => Q (.ret v) s₃
        | .brk => Q .next s₃
        | _ => TurnE h₀ env.locals { s with heap := h, toks := tk } its keep (Inv (i + 1) xs) s₃) E s₂) E { s with heap := h, toks := tk }))
    (done : ∀ i m news h tk, Inv i [] m news → Fr h₀ env.locals h m → News h₀ env.locals h news → Q .next { s with heap := h, toks := tk }) :
    ∀ (xs : List α) (i : Nat) (m : PySem.Str → Option Value) (news : List (Addr × Obj)), Inv i xs m news → ItemsRest prog w A E h₀ env target body Q s ws keep (xs.zipIdx i |>.map fun p => item p.2 p.1) m news
  | [], i, m, news, hI => fun h tk F N => done i m news h tk hI F N
  | x :: xs, i, m, news, hI => fun v h tk hv F => by
    have ih := items_ind step done xs
    refine allObj_mono (step i x xs m news v h tk hI hv F) fun its k N => wpAny_mono (k N) (fun _ s₂ k₂ => wpAny_mono k₂ (fun f s₃ k₃ => ?_) fun _ _ e => e) fun _ _ e => e
    cases f with
    | ret v => exact k₃
    | brk => exact k₃
    | next => obtain ⟨h', tk', m', n', e, F', N', off, sub, i'⟩ := k₃; exact ⟨h', tk', m', n', e, F', N', off, sub, ih _ _ _ i'⟩
    | cont => obtain ⟨h', tk', m', n', e, F', N', off, sub, i'⟩ := k₃; exact ⟨h', tk', m', n', e, F', N', off, sub, ih _ _ _ i'⟩
end
end Mine
end
section
open PySem PySem.W PyProof.Rows PySem.Calls
set_option maxRecDepth 100000
set_option maxHeartbeats 1000000
namespace Mine
section
variable {prog : Program} {w : World} {A : Around} {s : Shared} {env : Env} {h₀ : Heap} {body orelse : List Stmt} {Q : Flow → Shared → Prop} {target iter : PySem.Expr} {pos : Pos}
def RowEnd (h₀ : Heap) (L : Addr) (s : Shared) (I : Addr) (o : Obj) (Inv : (Str → Option Value) → List (Addr × Obj) → Prop) (s₃ : Shared) : Prop :=
  ∃ h' tk' m' news', s₃ = { s with heap := h', toks := tk' } ∧ Fr h₀ L h' m' ∧ News h₀ L h' ((I, o) :: news') ∧ (∀ p ∈ news', p.1 ≠ I) ∧ Inv m' news'
/-- a loop over an old tuple, with an else -/
theorem for_else {ax : Addr} {vs : List Value} {n : Nat} {m₀ : Str → Option Value} {news₀ : List (Addr × Obj)} {Inv : List Value → (Str → Option Value) → List (Addr × Obj) → Prop} (hh : A.handled = none)
    (hg : h₀.get? ax = some { cls := .type "tuple", data := .seq vs.toArray n })
    (hv : wpAny (model prog w) A (eval iter env) (fun v s' => v = .ref ax ∧ (∃ tk, s' = { s with toks := tk })) (fun _ _ => False) s) (F : Fr h₀ env.locals s.heap m₀) (N : News h₀ env.locals s.heap news₀) (h0 : Inv vs m₀ news₀)
    (step : ∀ I o v r m news h tk, Inv (v :: r) m news → (∀ p ∈ news, p.1 ≠ I) → Fr h₀ env.locals h m → News h₀ env.locals h ((I, o) :: news) → wpAny (model prog w) A (assign target env v) (fun _ s₂ => wpAny (model prog w) A (execs body env) (fun f s₃ => match f with
      | .ret v => Q (.ret v) s₃
      | .brk => Q .next s₃
      | _ => RowEnd h₀ env.locals s I o (Inv r) s₃) (fun _ _ => False) s₂) (fun _ _ => False) { s with heap := h, toks := tk })
    (done : ∀ m news h tk, Inv [] m news → Fr h₀ env.locals h m → News h₀ env.locals h news → wpAny (model prog w) A (execs orelse env) Q (fun _ _ => False) { s with heap := h, toks := tk })
    (hs : ∀ x, foldedSetIterable iter env x = pure x := by intro _; rfl) :
    wpAny (model prog w) A (exec (.For target iter body orelse pos) env) Q (fun _ _ => False) s := by
  refine wpAny_For (wpAny_mono hv (fun v s' ⟨e, tk0, e'⟩ => ?_) fun _ _ e => e.elim) hs
  subst e e'
  have hax := F.keep _ _ hg
  have hlt : ax < s.heap.objs.size := Heap.lt_size hax
  refine wpAny_pyIter_tuple (s := { s with toks := tk0 }) ⟨_, hax, rfl, _, rfl⟩ ?_
  have W := Walks.tuple (prog := prog) (w := w) (A := A) hh s.heap.objs.size ax (Nat.ne_of_lt hlt) vs.toArray
  have hLI : env.locals ≠ s.heap.objs.size := Nat.ne_of_lt F.ns.lt
  have hI0 : h₀.get? s.heap.objs.size = none := ktu_new F (Nat.le_refl _)
  refine codeAny_forLoop_any (fun k s' => ∃ h' tk m' news' i, s' = { s with heap := h', toks := tk } ∧ (h'.IsTupleIter s.heap.objs.size ax i ∧ h'.IsTuple ax vs.toArray) ∧ Fr h₀ env.locals h' m' ∧ News h₀ env.locals h' news' ∧ (∀ p ∈ news', p.1 ≠ s.heap.objs.size) ∧ Inv (vs.drop i) m' news' ∧ i ≤ vs.length ∧ k = vs.length + 1 - i) ?_ (vs.length + 1)
    ⟨_, tk0, m₀, news₀, 0, rfl, ⟨⟨_, Heap.get?_push_size _ rfl, rfl, rfl⟩, ⟨_, Heap.get?_push_of_some _ hax, rfl, _, rfl⟩⟩, F.push _, (fun p hp => ⟨Heap.get?_push_of_some _ (N p hp).1, (N p hp).2⟩), (fun p hp => Nat.ne_of_lt (Heap.lt_size (N p hp).1)), h0, Nat.zero_le _, rfl⟩
  rintro k s' ⟨h', tk, m', news', i, rfl, hst, F', N', off, hI, hi, rfl⟩
  by_cases hlt' : i < vs.length
  · refine W.item i _ _ _ (by simpa using hlt') hst fun v h₁ tk₁ hv' hst₁ hk₁ => ?_
    have hk : ∀ b o, b ≠ s.heap.objs.size → h'.get? b = some o → h₁.get? b = some o := fun b o hb e => hk₁ b o (fun q => hb (List.mem_singleton.mp q)) e
    refine letGo_tupleiter hst₁.1 ?_
    have hd : vs.drop i = v :: vs.drop (i + 1) := by
      have e : vs[i]? = some v := by simpa using hv'
      rw [List.drop_eq_getElem_cons hlt']
      congr 1
      exact Option.some.inj ((List.getElem?_eq_getElem hlt').symm.trans e)
    rw [hd] at hI
    obtain ⟨o, ho, _⟩ := id hst₁.1
    have F₁ : Fr h₀ env.locals h₁ m' := ⟨F'.ns.at' fun o e => hk _ o hLI e, fun b o e => hk b o (fun q => by rw [q, hI0] at e; cases e) (F'.keep b o e), F'.above⟩
    have N₁ : News h₀ env.locals h₁ ((s.heap.objs.size, o) :: news') := fun p hp => by
      rcases List.mem_cons.mp hp with rfl | hp
      · exact ⟨ho, hLI.symm, hI0⟩
      · exact ⟨hk _ _ (off p hp) (N' p hp).1, (N' p hp).2⟩
    refine wpAny_mono (step s.heap.objs.size o v _ m' news' h₁ tk₁ hI off F₁ N₁) (fun _ s₂ k₂ => wpAny_mono k₂ (fun f s₃ k₃ => ?_) fun _ _ e => e.elim) fun _ _ e => e.elim
    cases f with
    | ret v => exact k₃
    | brk => exact k₃
    | next =>
      obtain ⟨h₂, tk₂, m₂, n₂, rfl, F₂, N₂, off₂, i₂⟩ := k₃
      exact ⟨vs.length + 1 - (i + 1), by omega, h₂, tk₂, m₂, n₂, i + 1, rfl, ⟨hst₁.1.at fun o' e => by rw [ho] at e; cases e; exact (N₂ _ (.head _)).1, hst₁.2.at fun o' e => by have q := F₁.keep _ _ hg; rw [e] at q; cases q; exact F₂.keep _ _ hg⟩, F₂, fun p hp => N₂ p (.tail _ hp), off₂, i₂, hlt', rfl⟩
    | cont =>
      obtain ⟨h₂, tk₂, m₂, n₂, rfl, F₂, N₂, off₂, i₂⟩ := k₃
      exact ⟨vs.length + 1 - (i + 1), by omega, h₂, tk₂, m₂, n₂, i + 1, rfl, ⟨hst₁.1.at fun o' e => by rw [ho] at e; cases e; exact (N₂ _ (.head _)).1, hst₁.2.at fun o' e => by have q := F₁.keep _ _ hg; rw [e] at q; cases q; exact F₂.keep _ _ hg⟩, F₂, fun p hp => N₂ p (.tail _ hp), off₂, i₂, hlt', rfl⟩
  · have e : i = vs.length := by omega
    subst e
    have hst' := hst
    rw [show vs.length = vs.toArray.size by simp] at hst'
    refine W.done _ _ _ hst' fun h₁ tk₁ hk₁ => ?_
    have hk : ∀ b o, b ≠ s.heap.objs.size → h'.get? b = some o → h₁.get? b = some o := fun b o hb e => hk₁ b o (fun q => hb (List.mem_singleton.mp q)) e
    rw [List.drop_length] at hI
    refine wpAny_mono (done m' news' h₁ tk₁ hI ⟨F'.ns.at' fun o e => hk _ o hLI e, fun b o e => hk b o (fun q => by rw [q, hI0] at e; cases e) (F'.keep b o e), F'.above⟩ fun p hp => ⟨hk _ _ (off p hp) (N' p hp).1, (N' p hp).2⟩) (fun _ _ q => q) fun _ _ e => e.elim
end
end Mine
end
section
open PySem PySem.W PyProof.Rows PySem.Calls
set_option maxRecDepth 100000
set_option maxHeartbeats 1000000
namespace Mine
theorem fillC12 (w : World) : Mine.hd.heap_39 w.params = Mine.hd.heap_39 w.params ∧ PySem.Challenge.rw_rt0043_01.prog = PySem.Challenge.rw_rt0043_01.prog := by
  k_with_none
  k_fill
  k_with "INTRO" =>
    intro A s Q E R B hpre hQ
    have hA := R.handled
    obtain ⟨hd', d', fr', gs', u'⟩ := A
    dsimp only at hA
    subst hA
  k_with "ENTER" =>
    case R => assumption
    case B => assumption
    case ho => k_is
    case hcd => k_is
    case hb => first | exact BindsTo.of_eq rfl | rfl
    case hl => first | exact locs rfl | (intro D; exact locs rfl)
    case c1 => rfl
    case c2 => rfl
    case c3 => rfl
    case c4 => decide
    intro L h₁ tk loose mean mg mb F N X T R
    (try dsimp only)
    k_fold
  k_with "INTROL" =>
    intro A s Q E R B hpre hQ
    have hA := R.handled
    obtain ⟨hd', d', fr', gs', u'⟩ := A
    dsimp only at hA
    subst hA
    obtain ⟨sh, sg, sd, stk, so⟩ := s
  k_with "ENTERA" =>
    case R => assumption
    case B => assumption
    case h0 => assumption
    case ho => k_is
    case hcd => k_is
    case hb => exact BindsTo.of_eq rfl
    case hl => exact locs rfl
    case c1 => rfl
    case c2 => rfl
    case c3 => rfl
    case c4 => decide
    intro H L h₁ tk loose mean mg mb hH F N l0 X T R env A1
    (try simp only [AllLt, and_true] at l0)
    k_fold
  k_with "END" => ((try dsimp only); (rename Fr _ _ _ _ => F'); refine hQ _ _ _ (Fr.keep F') ?_; clear F')
  k_with "ENDA" => ((try dsimp only); (rename Fr _ _ _ _ => F'); (rename News _ _ _ _ => N'); subst hH; refine hQ _ _ _ (keepA F' N' hpre (by first | exact List.forall_mem_nil _ | (intro p hp; simp only [List.mem_cons, List.mem_nil_iff, or_false, List.not_mem_nil] at hp ⊢; first | assumption | (rcases hp with rfl | rfl | rfl <;> simp)))) ?_; clear F')
  k_with "call builtin:issubclass" => ((rename News _ _ _ _ => N'); refine' call_issub ?k1 ?_; (case k1 => exact (N' _ (by k_mem)).1); k_whole)
  k_with "ROOM" => ((case R => assumption); (case hk => decide); (case F => k_asm); (case N => k_asm); (case X => k_asm); (case T => k_asm); k_whole)
  k_with "call ref" => ((with_reducible show wpAny _ _ (call (Value.ref 94) _) _ _ _); (refine' Spec.useV (fspath_spec _ _ _) ?R ?hk ?F ?N ?X ?T ?_; walk_at "ROOM"; intro h' tk' F' N'; (try k_sweep)))
  k_with "call ref" => ((with_reducible show wpAny _ _ (call (Value.ref 108) _) _ _ _); (refine' Spec.useS (getsep_spec _ _ _) ?R ?hk ?F ?N ?X ?T ?_; walk_at "ROOM"; intro t' h' tk' F' N'; (try k_sweep)))
  exact ⟨rfl, rfl⟩
abbrev RowD := Addr × List (Addr × Int × Tok × String × Tok)
def TABLE : List RowD := [(151, [(144, 40960, 374, "l", 402), (145, 49152, 376, "s", 403), (146, 32768, 370, "-", 404), (147, 24576, 368, "b", 405), (148, 16384, 364, "d", 406), (149, 8192, 366, "c", 407), (150, 4096, 372, "p", 408)]), (153, [(152, 256, 384, "r", 409)]), (155, [(154, 128, 386, "w", 410)]), (159, [(156, 2112, 411, "s", 412), (157, 2048, 378, "S", 413), (158, 64, 388, "x", 414)]), (161, [(160, 32, 390, "r", 415)]), (163, [(162, 16, 392, "w", 416)]), (167, [(164, 1032, 417, "s", 418), (165, 1024, 380, "S", 419), (166, 8, 394, "x", 420)]), (169, [(168, 4, 396, "r", 421)]), (171, [(170, 2, 398, "w", 422)]), (175, [(172, 513, 423, "t", 424), (173, 512, 382, "T", 425), (174, 1, 400, "x", 426)])]
def pairObj (p : Addr × Int × Tok × String × Tok) : Obj := { cls := .type "tuple", data := .seq [.int p.2.1 p.2.2.1, .str (Str.ofString p.2.2.2.1) p.2.2.2.2].toArray }
def rowObj (x : RowD) : Obj := { cls := .type "tuple", data := .seq (x.2.map fun p => Value.ref p.1).toArray }
def RowAt (H : Heap) (x : RowD) : Prop := H.get? x.1 = some (rowObj x) ∧ ∀ p ∈ x.2, H.get? p.1 = some (pairObj p)
theorem table_at {w : World} {H : Heap} (X : (Mine.hd.heap_39 w.params).In H) : ∀ x ∈ TABLE, RowAt H x := by
  simp only [TABLE, List.forall_mem_cons, List.forall_mem_nil, RowAt, rowObj, pairObj, List.map_cons, List.map_nil, and_true]
  repeat' (first | exact X _ _ (by k_is) | refine And.intro ?_ ?_ | exact trivial | exact fun _ h => nomatch h)
theorem ifmt_spec (w : World) (m : Int) (t : Tok) : Spec w 143 1 [.int m t] (fun _ => True) (fun _ v _ => ∃ t, v = .int (Builtin.bitAnd m 61440) t) := by
  walk_at "INTRO"
  refine' enter (n := 0) (binds := [(Str.ofString "mode", .int m t)]) ?R ?B ?ho ?hcd ?hb ?hl ?h ?c1 ?c2 ?c3 ?c4
  walk_at "ENTER"
  k_steps
  walk_at "END"
  exact ⟨_, rfl⟩
def hitB (i : Nat) (M : Int) (bit : Int) : Bool := if i = 0 then Builtin.bitAnd M 61440 == bit else Builtin.bitAnd M bit == bit
def charOf (i : Nat) (M : Int) (ps : List (Addr × Int × Tok × String × Tok)) : Str := match ps.find? fun p => hitB i M p.2.1 with
  | some p => Str.ofString p.2.2.2.1
  | none => if i = 0 then Str.ofString "?" else Str.ofString "-"
def charsOf (M : Int) (rows : List RowD) (i : Nat) : List Str := (rows.zipIdx i).map fun p => charOf p.2 M p.1.2
theorem charOf_hit0 {i : Nat} {M : Int} {p : Addr × Int × Tok × String × Tok} {ps : List (Addr × Int × Tok × String × Tok)} (h : (i : Int) = 0) (h2 : Builtin.bitAnd M 61440 = p.2.1) : charOf i M (p :: ps) = Str.ofString p.2.2.2.1 := by
  have e : hitB i M p.2.1 = true := by unfold hitB; rw [if_pos (by omega), h2]; exact beq_self_eq_true _
  unfold charOf; rw [List.find?_cons, e]
theorem charOf_hitN {i : Nat} {M : Int} {p : Addr × Int × Tok × String × Tok} {ps : List (Addr × Int × Tok × String × Tok)} (h : (i : Int) ≠ 0) (h2 : Builtin.bitAnd M p.2.1 = p.2.1) : charOf i M (p :: ps) = Str.ofString p.2.2.2.1 := by
  have e : hitB i M p.2.1 = true := by unfold hitB; rw [if_neg (by omega), h2]; exact beq_self_eq_true _
  unfold charOf; rw [List.find?_cons, e]
theorem charOf_miss0 {i : Nat} {M : Int} {p : Addr × Int × Tok × String × Tok} {ps : List (Addr × Int × Tok × String × Tok)} (h : (i : Int) = 0) (h2 : Builtin.bitAnd M 61440 ≠ p.2.1) : charOf i M (p :: ps) = charOf i M ps := by
  have e : hitB i M p.2.1 = false := by unfold hitB; rw [if_pos (by omega)]; exact beq_eq_false_iff_ne.mpr h2
  unfold charOf; rw [List.find?_cons, e]
theorem charOf_missN {i : Nat} {M : Int} {p : Addr × Int × Tok × String × Tok} {ps : List (Addr × Int × Tok × String × Tok)} (h : (i : Int) ≠ 0) (h2 : Builtin.bitAnd M p.2.1 ≠ p.2.1) : charOf i M (p :: ps) = charOf i M ps := by
  have e : hitB i M p.2.1 = false := by unfold hitB; rw [if_neg (by omega)]; exact beq_eq_false_iff_ne.mpr h2
  unfold charOf; rw [List.find?_cons, e]
theorem charOf_nil0 {i : Nat} {M : Int} (h : (i : Int) = 0) : charOf i M [] = Str.ofString "?" := by
  unfold charOf; rw [List.find?_nil]; exact if_pos (by omega)
theorem charOf_nilN {i : Nat} {M : Int} (h : (i : Int) ≠ 0) : charOf i M [] = Str.ofString "-" := by
  unfold charOf; rw [List.find?_nil]; exact if_neg (by omega)
theorem strs_snoc {vs : List Value} {xs : List Str} (h : StrsAre vs xs) (y : Str) (t : Tok) : StrsAre (vs ++ [.str y t]) (xs ++ [y]) := h.append' (.cons y t .nil)
def FmInv (H : Heap) (I : Addr) (M : Int) (t : Tok) (i : Nat) (rows : List RowD) (m : Str → Option Value) (news : List (Addr × Obj)) : Prop :=
  (∀ x ∈ rows, RowAt H x) ∧ m (Str.ofString "mode") = some (.int M t) ∧ ∃ P vs n done, m (Str.ofString "perm") = some (.ref P) ∧ @LT.lt Nat _ P I ∧ news = [(P, listOf (List.toArray vs) n)] ∧ StrsAre vs done ∧ done ++ charsOf M rows i = charsOf M TABLE 0 ∧ vs.length + rows.length = 10
/-- a row is read: the sign is laid on the list -/
theorem fm_end {H h' : Heap} {L I P : Addr} {o1 o2 : Obj} {M : Int} {i : Nat} {x : RowD} {rows : List RowD} {all : List (Addr × Obj)} {m' : Str → Option Value} {vs : List Value} {n tk' : Nat} {done : List Str} {y : Str} {u t : Tok} {s : Shared} (F : Fr H L h' m') (N : News H L h' all)
    (hT : ∀ x' ∈ x :: rows, RowAt H x') (e1 : m' (Str.ofString "mode") = some (.int M t)) (e2 : m' (Str.ofString "perm") = some (.ref P)) (hP : @LT.lt Nat _ P I) (hvs : StrsAre vs done) (hd : done ++ charsOf M (x :: rows) i = charsOf M TABLE 0) (hlen : vs.length + (x :: rows).length = 10) (hy : charOf i M x.2 = y)
    (s1 : (I + 1, o1) ∈ all) (s2 : (I, o2) ∈ all) (s3 : (P, listOf (vs.toArray.push (.str y u)) (n + 1)) ∈ all) :
    TurnE H L s [(I + 1, o1), (I, o2)] [] (FmInv H I M t (i + 1) rows) { s with heap := h', toks := tk' } := by
  rw [List.push_toArray] at s3
  refine ⟨h', tk', m', [(P, listOf (vs ++ [Value.str y u]).toArray (n + 1))], rfl, F, fun p hp => ?_, fun p hp q hq => ?_, trivial, fun x' hx => hT x' (.tail _ hx), e1, P, vs ++ [Value.str y u], n + 1, done ++ [y], e2, hP, rfl, strs_snoc hvs y u, ?_, ?_⟩
  · rcases List.mem_cons.mp hp with rfl | hp
    · exact N _ s1
    · rcases List.mem_cons.mp hp with rfl | hp
      · exact N _ s2
      · rw [List.mem_singleton.mp hp]; exact N _ s3
  · rw [List.mem_singleton.mp hp]
    rcases List.mem_cons.mp hq with rfl | hq
    · exact Nat.ne_of_lt (Nat.lt_succ_of_lt hP)
    · rw [List.mem_singleton.mp hq]; exact Nat.ne_of_lt hP
  · rw [← hd, List.append_assoc, ← hy]
    congr 1
  · rw [← hlen]; simp only [List.length_append, List.length_cons, List.length_nil]; omega
def FM (M : Int) : Str := Txt.join (Str.ofString "") (charsOf M TABLE 0)
theorem filemode_spec (w : World) (M : Int) (t : Tok) (hc : ((charsOf M TABLE 0).map (·.length)).sum + (charsOf M TABLE 0).length * 64 ≤ 16777216) : SpecA w 183 2 [.int M t] [] (fun _ v _ => ∃ t, v = .str (FM M) t) := by
  k_with "exec For Tuple Call cons nil" => ((rename Fr _ _ _ _ => lF'); (with_unfolding_all refine' For_turns lF' ?_); k_whole)
  walk_at "INTROL"
  refine' enterAL (n := 1) (N0 := []) (binds := [(Str.ofString "mode", .int M t)]) ?R ?B ?h0 ?ho ?hcd ?hb ?hl ?h ?c1 ?c2 ?c3 ?c4
  walk_at "ENTERA"
  have TB := table_at X
  k_with "call ref" => ((with_reducible show wpAny _ _ (call (Value.ref 143) _) _ _ _); (refine' Spec.use (ifmt_spec _ _ _) (Room.le (by assumption) (by decide)) ?F ?N ?B trivial ?_; (case F => k_asm); (case N => k_asm); (case B => exact ⟨X, _, _, _, _, T⟩); intro v' h' tk' hk' F' N' hv'; obtain ⟨t', hv'⟩ := hv'; subst hv'; (try k_sweep)))
  k_steps
  (rename Fr _ _ _ _ => F'); (rename News _ _ _ _ => N')
  refine' enumOld (vs := TABLE.map fun x => Value.ref x.1) (by exact rfl) F' N' ?g ?_
  case g => exact X _ _ (by k_is)
  intro I l1
  k_lt l1
  show ItemsRest _ _ _ _ _ _ _ _ _ _ _ _ ((TABLE.zipIdx 0).map fun p => Itm.pair (fun t => .int ((p.2 : Nat) : Int) t) (.ref p.1.1)) _ _
  refine' items_ind (α := RowD) (item := fun i x => .pair (fun t => .int ((i : Nat) : Int) t) (.ref x.1))
    (Inv := FmInv H I M t)
    ?step ?done TABLE 0 _ _ ?h0
  case h0 => exact ⟨TB, rfl, _, [], _, [], rfl, l1, rfl, .nil, rfl, rfl⟩
  case done =>
    rintro i m news h tk ⟨_, hm1, P, vs, n, done, hm2, hP, rfl, hvs, hd, hlen⟩ F1 N1
    k_with "eval Name" => ((rename Fr _ _ _ _ => kF); k_dflt (refine' ld kF ?k2 ?_; (case k2 => exact hm2); k_whole))
    k_steps
    (rename Fr _ _ _ _ => F'); (rename News _ _ _ _ => N')
    have hd' : done = charsOf M TABLE 0 := by rw [← hd]; exact (List.append_nil _).symm
    refine join_listC (ys := charsOf M TABLE 0) (N'.isList (.head _)) (hd' ▸ hvs) (by decide) hc ?_
    intro t' k'
    k_steps
    subst hH
    exact hQ _ _ _ (keepA (N0 := ([] : List (Addr × Obj))) F' N' hpre (List.forall_mem_nil _)) ⟨_, rfl⟩
  case step =>
    rintro i x rows m news v h tk ⟨hT, hm1, P, vs, n, done, hm2, hP, rfl, hvs, hd, hlen⟩ ⟨Tp, t', rfl, hTp⟩ F1 o1 ho1 o2 ho2 N1
    have hrow := hT x (.head _)
    dsimp only [List.cons_append, List.nil_append] at N1 hTp
    k_with "eval Name" => ((rename Fr _ _ _ _ => kF); k_dflt (refine' ld kF ?k2 ?_; (case k2 => first | exact hm1 | exact hm2 | exact e1 | exact e2 | exact e3); k_whole))
    k_steps
    (rename Fr _ _ _ _ => F'); (rename News _ _ _ _ => N')
    refine' for_else (vs := x.2.map fun p => Value.ref p.1) (Inv := fun r m' news' => ∃ ps : List (Addr × Int × Tok × String × Tok), r = ps.map (fun p => Value.ref p.1) ∧ (∀ p ∈ ps, H.get? p.1 = some (pairObj p)) ∧ charOf i M ps = charOf i M x.2 ∧ m' (Str.ofString "mode") = some (.int M t) ∧ m' (Str.ofString "perm") = some (.ref P) ∧ m' (Str.ofString "index") = some (.int (i : Int) t') ∧ news' = [(I + 1, o1), (I, o2), (P, listOf (List.toArray vs) n)])
      (by exact rfl) hrow.1 ?hv F' N' ?h0 ?step ?done
    case hv =>
      walk1
      exact ⟨rfl, _, rfl⟩
    case h0 => exact ⟨x.2, rfl, hrow.2, rfl, hm1, hm2, rfl, rfl⟩
    case step =>
      rintro I2 o3 v r m' news' h tk ⟨ps, hr, hps, hch, e1, e2, e3, rfl⟩ off F2 N2
      cases ps with
      | nil => cases hr
      | cons p ps =>
        obtain ⟨rfl, rfl⟩ := List.cons.inj hr
        refine unpackN_ F2 N2 ⟨_, F2.keep _ _ (hps p (.head _)), rfl, _, rfl⟩ (by exact rfl) (by exact rfl) (by exact rfl) ?_
        intro h' F3 N3
        clear F2 N2
        have hI2 := allNe_of (d := I2) off
        simp only [AllNe, and_true] at hI2
        k_with "call builtin:list.append" => ((rename Fr _ _ _ _ => F'); (rename News _ _ _ _ => N'); refine' append_K F' N' ?U ?_ ?z; (case U => k_upd); (case z => rw [List.size_toArray, sizeLine_eq]; rw [List.length_cons] at hlen; omega); intro h' F' N'; (try k_sweep))
        k_steps
        all_goals (try dsimp only)
        · (rename Fr _ _ _ _ => F'); (rename News _ _ _ _ => N'); (rename (i : Int) = 0 => q1); (rename Builtin.bitAnd M _ = _ => q2)
          exact fm_end F' N' hT e1 e2 hP hvs hd hlen (hch.symm.trans (charOf_hit0 q1 q2)) (.tail _ (.head _)) (.tail _ (.tail _ (.head _))) (.tail _ (.tail _ (.tail _ (.head _))))
        · (rename Fr _ _ _ _ => F'); (rename News _ _ _ _ => N'); (rename (i : Int) = 0 => q1); (rename Builtin.bitAnd M _ ≠ _ => q2)
          exact ⟨_, _, _, _, rfl, F', N', off, ps, rfl, fun q hq => hps q (.tail _ hq), (charOf_miss0 q1 q2).symm.trans hch, e1, e2, e3, rfl⟩
        · (rename Fr _ _ _ _ => F'); (rename News _ _ _ _ => N'); (rename (i : Int) ≠ 0 => q1); (rename Builtin.bitAnd M _ = _ => q2)
          exact fm_end F' N' hT e1 e2 hP hvs hd hlen (hch.symm.trans (charOf_hitN q1 q2)) (.tail _ (.head _)) (.tail _ (.tail _ (.head _))) (.tail _ (.tail _ (.tail _ (.head _))))
        · (rename Fr _ _ _ _ => F'); (rename News _ _ _ _ => N'); (rename (i : Int) ≠ 0 => q1); (rename Builtin.bitAnd M _ ≠ _ => q2)
          exact ⟨_, _, _, _, rfl, F', N', off, ps, rfl, fun q hq => hps q (.tail _ hq), (charOf_missN q1 q2).symm.trans hch, e1, e2, e3, rfl⟩
    case done =>
      rintro m' news' h tk ⟨ps, hr, hps, hch, e1, e2, e3, rfl⟩ F2 N2
      cases ps with
      | cons p ps => cases hr
      | nil =>
        k_steps
        all_goals (try dsimp only)
        · (rename Fr _ _ _ _ => F'); (rename News _ _ _ _ => N'); (rename (i : Int) = 0 => q1)
          exact fm_end F' N' hT e1 e2 hP hvs hd hlen (hch.symm.trans (charOf_nil0 q1)) (.head _) (.tail _ (.head _)) (.tail _ (.tail _ (.head _)))
        · (rename Fr _ _ _ _ => F'); (rename News _ _ _ _ => N'); (rename (i : Int) ≠ 0 => q1)
          exact fm_end F' N' hT e1 e2 hP hvs hd hlen (hch.symm.trans (charOf_nilN q1)) (.head _) (.tail _ (.head _)) (.tail _ (.tail _ (.head _)))
end Mine
end
section
open PySem PySem.W PyProof.Rows PySem.Calls
set_option maxRecDepth 100000
set_option maxHeartbeats 1000000
namespace Mine
theorem enterCAL {w : World} {f : Addr} {n : Nat} {args : List Value} {N0 : List (Addr × Obj)} {A : Around} {s : Shared} {Q E : Value → Shared → Prop} {name qual : Str} {params : Arguments} {body : List Stmt} {scope : Scope} {dV kV doc pm cdv ct oc : Value} {an od : Option Addr} {osl : Array (Option Value)} {binds : List (Str × Value)}
    (R : Room A (n + 1)) (B : Base w (hideAll s.heap (N0.map (·.1)))) (h0 : ∀ p ∈ N0, s.heap.get? p.1 = some p.2)
    (ho : (Mine.hd.heap_39 w.params).lookup f = some ⟨oc, od, .func (fnOf name qual params body scope dV kV doc pm an cdv ct), osl⟩) (hcd : codeIn (Mine.hd.heap_39 w.params) cdv qual = true)
    (hbind : BindsTo s (fnOf name qual params body scope dV kV doc pm an cdv ct) ⟨args, []⟩ binds)
    (hkind : (binds.all fun y => scope.names.lookup y.1 == some .local || scope.names.lookup y.1 == some .cell) = true)
    (hnd : ((cellsFrom 0 scope.names []).map (·.1)).Nodup)
    (h : ∀ H L h₁ tk cells loose mean mg mb, H = hideAll s.heap (N0.map (·.1)) → Fr H L h₁ (bindL (envOfC qual scope L f cdv).kindOf binds fun _ => none) → News H L h₁ (cells ++ N0) → AllLt L N0 →
      CellsAre (bindC (envOfC qual scope L f cdv).kindOf binds fun _ => none) (cellsFrom (L + 1) scope.names []) cells →
      (Mine.hd.heap_39 w.params).In H → Top topProg loose mean mg mb H → Room (A.deeper (envOfC qual scope L f cdv)) n → let env := envOfC qual scope L f cdv; let A1 := A.deeper env;
      wpAny (model PG w) A1 (execs body env) (fun fl s' => Q (match fl with | .ret v => v | _ => .none) s') (fun _ _ => False) { s with heap := h₁, toks := tk })
    (hco : scope.isCoroutine = false) (hgen : scope.isGenerator = false) (hk : scope.kind = .function) :
    wpAny (model PG w) A (call (.ref f) args) Q E s := by
  exact enterCA R B h0 ho hcd hbind hkind hnd (fun L h₁ tk cells loose mean mg mb F N l Y X T R' => h _ L h₁ tk cells loose mean mg mb rfl F N l Y X T R') hco hgen hk
end Mine
end
section
open PySem PySem.W PyProof.Rows PySem.Calls LCg
set_option maxRecDepth 100000
set_option maxHeartbeats 1000000
namespace Mine
section
variable {prog : Program} {w : World} {A : Around} {E : Value → Shared → Prop} {s : Shared} {h₀ : Heap} {L : Addr} {m : PySem.Str → Option Value} {env : Env}
def RngSrc (prog : Program) (w : World) (A : Around) (h₀ : Heap) (L : Addr) (m : PySem.Str → Option Value) (env : Env) (elt : PySem.Expr) (x : PySem.Str) (scope : Scope) (cl : List (PySem.Str × Addr)) (Q : Value → Shared → Prop) (xv : Value) (s₁ : Shared) : Prop :=
  ∃ r a b c t u v n news, xv = .ref r ∧ Fr h₀ L s₁.heap m ∧ News h₀ L s₁.heap news ∧ IsRange s₁.heap r a b c t u v ∧ Builtin.Range.small a b c = true ∧ Builtin.Range.rangeSize a b c = ((n : Nat) : Int) ∧ n ≤ sizeLine ∧
    ∀ g, CompRest prog w A h₀ L m env elt x scope cl { s₁ with heap := g } (fun _ => True) (fun i v => ∃ t, v = .int (a + (i : Int) * c) t) (FinE h₀ L m { s₁ with heap := g } Q) n 0 [] news
/-- a comprehension over a range by steps -/
theorem lc_rng {elt iter : PySem.Expr} {x : PySem.Str} {px : Pos} {scope : Scope} {cl : List (PySem.Str × Addr)} {pos : Pos} {Q : Value → Shared → Prop} (_F : Fr h₀ L s.heap m) (hh : A.handled = none)
    (hclos : closureFor scope env = pure cl) (hcell : ∀ y ∈ scope.names, y.2 ≠ .cell) (hkind : scope.kind = .function) (hnames : ∀ y ∈ scope.names, y.2 = .local → scope.names.lookup y.1 = some .local) (hx : scope.names.lookup x = some .local)
    (h : wpAny (model prog w) A (eval iter env) (RngSrc prog w A h₀ L m env elt x scope cl Q) E s) (hs : ∀ x, foldedSetIterable iter env x = pure x := by intro _; rfl) :
    wpAny (model prog w) A (eval (.ListComp elt [⟨.Name x px, iter, [], 0⟩] scope pos) env) Q E s := by
  rw [eval_ListComp]
  refine wpAny_comprehension_free (use := none) rfl hs hclos hkind hnames (wpAny_mono h (fun xv s₁ h₁ => ?_) fun _ _ e => e)
  obtain ⟨r, a, b, c, t, u, v, n, news, rfl, F, N, hr, hsm, hn, hsz, R⟩ := h₁
  refine wpAny_pyIter_range hr hsm ?_
  refine block_U (P := fun i v => ∃ t, v = .int (a + (i : Int) * c) t) (St := fun i h => IsRangeIter h s₁.heap.objs.size (a + (i : Nat) * c) ((n : Int) - (i : Nat)) c) (S := fun _ => True)
    (Walks.range hh s₁.heap.objs.size a c n) hsz (fun i h st => ⟨_, st⟩) (fun i h h' o nw st e e' _ _ _ => ?_) hcell hkind hx (by show IsRangeIter _ _ _ _ _; rw [hn]; simpa using Heap.get?_push_size _ rfl) (fun b hb => ?_)
    (Mine.Fr.keeps F fun _ _ e => Heap.get?_push_of_some _ e) (Mine.News.keeps N fun _ _ e => Heap.get?_push_of_some _ e) (Nat.ne_of_lt F.ns.lt) (ktu_new F (Nat.le_refl _)) (fun p hp => Nat.ne_of_lt (Heap.lt_size (N p hp).1)) trivial (R _) ?_
  · have st' : h.get? s₁.heap.objs.size = some _ := st
    show h'.get? s₁.heap.objs.size = some _
    rw [e', ← e]; exact st'
  · rw [List.mem_singleton.mp hb]
    show s₁.heap.objs.size < (s₁.heap.push _).objs.size
    rw [Heap.size_push]; exact Nat.lt_succ_self _
  · intro D C h tk m' ys news' F' N' o1 hn hC₀ hD₀ hCL hDL hCD offC fin
    refine ⟨m', hn, fun h'' hs'' => fin D h'' tk (F'.change hs'' hCL hC₀) (fun p hp => ?_) o1⟩
    refine ⟨hs''.extBut _ _ ?_ (N' p hp).1, (N' p hp).2⟩
    rcases List.mem_cons.mp hp with rfl | hp
    · exact Ne.symm hCD
    · exact offC p hp
/-- a comprehension's turns by induction: each gives a text -/
theorem comp_strs {elt : PySem.Expr} {x : PySem.Str} {scope : Scope} {cl : List (PySem.Str × Addr)} {S : List (Addr × Obj) → Prop} {P : Nat → Value → Prop} {Fin : List Value → List (Addr × Obj) → Prop} {n : Nat} {news : List (Addr × Obj)} (g : Nat → PySem.Str)
    (turn : ∀ i v ys I oI C oC D m₂ h tk (E' : Value → Shared → Prop), i < n → P i v → NsObj oC m₂ → m₂ x = some v → Fr h₀ L h m → News h₀ L h ((I, oI) :: (C, oC) :: (D, lst ys) :: news) → Off3 I C D news →
      wpAny (model prog w) A (eval elt (compEnvC scope cl C env)) (CompEnd h₀ L m { s with heap := h, toks := tk } I oI C oC D (lst ys) S (fun y news' => news' = news ∧ ∃ t, y = .str (g i) t)) E' { s with heap := h, toks := tk })
    (fin : ∀ ys, StrsAre ys ((List.range n).map g) → Fin ys news) : CompRest prog w A h₀ L m env elt x scope cl s S P Fin n 0 [] news := by
  have key : ∀ (j i : Nat) (ys : List Value), i + j = n → StrsAre ys ((List.range i).map g) → CompRest prog w A h₀ L m env elt x scope cl s S P Fin j i ys news := by
    intro j
    induction j with
    | zero =>
      intro i ys hi hy
      have e : i = n := by omega
      subst e
      exact CompRest.zero (fin ys hy)
    | succ j ih =>
      intro i ys hi hy
      refine CompRest.succ ?_
      intro v I oI C oC D m₂ h tk E' hv hC hx F N off ne
      refine wpAny_mono (turn i v ys I oI C oC D m₂ h tk E' (by omega) hv hC hx F N off) (fun y s₂ hq => ?_) fun _ _ e => e
      obtain ⟨h', tk', nw, e, F', N', off', hS, rfl, t', rfl⟩ := hq
      refine ⟨h', tk', _, e, F', N', off', hS, ih (i + 1) _ (by omega) ?_⟩
      rw [List.range_succ, List.map_append]
      exact strs_snoc hy _ _
  exact key n 0 [] (by omega) .nil
end
/-- a list of texts -/
def IsStrs (xs : List PySem.Str) (o : Obj) : Prop := ∃ (vs : List Value) (n : Nat), o = listOf vs.toArray n ∧ StrsAre vs xs
end Mine
end
section
open PySem PySem.W PyProof.Rows PySem.Calls
set_option maxRecDepth 100000
set_option maxHeartbeats 4000000
namespace Mine
theorem fillC15 (w : World) : Mine.hd.heap_39 w.params = Mine.hd.heap_39 w.params ∧ PySem.Challenge.rw_rt0043_01.prog = PySem.Challenge.rw_rt0043_01.prog := by
  k_with_none
  k_fill
  k_with "INTRO" =>
    intro A s Q E R B hpre hQ
    have hA := R.handled
    obtain ⟨hd', d', fr', gs', u'⟩ := A
    dsimp only at hA
    subst hA
  k_with "ENTER" =>
    case R => assumption
    case B => assumption
    case ho => k_is
    case hcd => k_is
    case hb => first | exact BindsTo.of_eq rfl | rfl
    case hl => first | exact locs rfl | (intro D; exact locs rfl)
    case c1 => rfl
    case c2 => rfl
    case c3 => rfl
    case c4 => decide
    intro L h₁ tk loose mean mg mb F N X T R
    (try dsimp only)
    k_fold
  k_with "INTROL" =>
    intro A s Q E R B hpre hQ
    have hA := R.handled
    obtain ⟨hd', d', fr', gs', u'⟩ := A
    dsimp only at hA
    subst hA
    obtain ⟨sh, sg, sd, stk, so⟩ := s
  k_with "ENTERA" =>
    case R => assumption
    case B => assumption
    case h0 => assumption
    case ho => k_is
    case hcd => k_is
    case hb => exact BindsTo.of_eq rfl
    case hl => exact locs rfl
    case c1 => rfl
    case c2 => rfl
    case c3 => rfl
    case c4 => decide
    intro H L h₁ tk loose mean mg mb hH F N l0 X T R env A1
    (try simp only [AllLt, and_true] at l0)
    k_fold
  k_with "ENTERC" =>
    case R => assumption
    case B => assumption
    case h0 => assumption
    case ho => k_is
    case hcd => k_is
    case hb => exact BindsTo.of_eq rfl
    case hkind => exact rfl
    case hnd => decide +kernel
    case c1 => rfl
    case c2 => rfl
    case c3 => rfl
    intro H L h₁ tk cells loose mean mg mb hH F N l0 Y X T R env A1
    (try simp only [AllLt, and_true] at l0)
  k_with "END" => ((try dsimp only); (rename Fr _ _ _ _ => F'); refine hQ _ _ _ (Fr.keep F') ?_; clear F')
  k_with "ENDA" => ((try dsimp only); (rename Fr _ _ _ _ => F'); (rename News _ _ _ _ => N'); subst hH; refine hQ _ _ _ (keepA F' N' hpre (by first | exact List.forall_mem_nil _ | (intro p hp; simp only [List.mem_cons, List.mem_nil_iff, or_false, List.not_mem_nil] at hp ⊢; first | assumption | (rcases hp with rfl | rfl | rfl <;> simp)))) ?_; clear F')
  k_with "call builtin:issubclass" => ((rename News _ _ _ _ => N'); refine' call_issub ?k1 ?_; (case k1 => exact (N' _ (by k_mem)).1); k_whole)
  k_with "ROOM" => ((case R => assumption); (case hk => decide); (case F => k_asm); (case N => k_asm); (case X => k_asm); (case T => k_asm); k_whole)
  k_with "call ref" => ((with_reducible show wpAny _ _ (call (Value.ref 94) _) _ _ _); (refine' Spec.useV (fspath_spec _ _ _) ?R ?hk ?F ?N ?X ?T ?_; walk_at "ROOM"; intro h' tk' F' N'; (try k_sweep)))
  k_with "call ref" => ((with_reducible show wpAny _ _ (call (Value.ref 108) _) _ _ _); (refine' Spec.useS (getsep_spec _ _ _) ?R ?hk ?F ?N ?X ?T ?_; walk_at "ROOM"; intro t' h' tk' F' N'; (try k_sweep)))
  exact ⟨rfl, rfl⟩
theorem six_sub {a b c d e f g : Addr × Obj} : ∀ p ∈ [a, b, c, d, e, f], p ∈ [g, a, b, c, d, e, f] := fun _ h => .tail _ h
theorem six_sub2 {a b c d e f g g' : Addr × Obj} : ∀ p ∈ [a, b, c, d, e, f], p ∈ [g, g', a, b, c, d, e, f] := fun _ h => .tail _ (.tail _ h)
abbrev SixOk (M : Int) : Prop := ((charsOf M TABLE 0).map (·.length)).sum + (charsOf M TABLE 0).length * 64 ≤ 16777216 ∧ (FM M).length = 10
theorem filemode_six (w : World) (M : Int) (t : Tok) (hc : SixOk M) : SpecA w 183 2 [.int M t] [] (fun _ v _ => (FM M).length = 10 ∧ ∃ t, v = .str (FM M) t) := fun A s Q E R B h0 hQ =>
  filemode_spec w M t hc.1 A s Q E R B h0 fun v h' tk k p => hQ v h' tk k ⟨hc.2, p⟩
def SGN (ks : List Int) : Str := Str.ofString "" ++ Txt.slice (FM (ks.getD 0 0 + 256 * ks.getD 1 0)) (some 1) none ++ Txt.slice (FM (ks.getD 2 0 + 256 * ks.getD 3 0)) (some 1) none
def sixOf (ks : List Int) : List Str := (List.range 6).map fun i : Nat => Txt.slice (SGN ks) (some (0 + (i : Int) * 3)) (some (0 + (i : Int) * 3 + 3))
theorem off1_mem {D : Addr} : ∀ {l : List (Addr × Obj)}, LCg.Off1 D l → ∀ p ∈ l, p.1 ≠ D
  | [], _, _, h => nomatch h
  | _ :: _, x, p, h => by
    rcases List.mem_cons.mp h with rfl | h
    · exact x.1
    · exact off1_mem x.2 p h
theorem newC {N0 : List (Addr × Obj)} {L : Addr} {h h' : Heap} {a : Addr} {o : Obj} {P : Obj → Prop} {news : List (Addr × Obj)} (N : News (hideAll h (N0.map (·.1))) L h' news) (h0 : ∀ p ∈ N0, p.1 ≠ a) (hm : (a, o) ∈ news) (p : P o) : NewObj P h (.ref a) h' := newA N h0 hm p
theorem six_spec (w : World) {S Lst c : Addr} {qual : Str} {ks : List Int} {D R cA cO : Addr} {oS oD oR oL oA oO : Obj} (x : Strm w S Lst c qual ks 0 D R cA cO oS oD oR oL oA oO) (hks : ks.length = 4)
    (hc1 : SixOk (ks.getD 0 0 + 256 * ks.getD 1 0)) (hc2 : SixOk (ks.getD 2 0 + 256 * ks.getD 3 0)) (b1 : 0 ≤ ks.getD 1 0 ∧ ks.getD 1 0 < 256) (b2 : 0 ≤ ks.getD 3 0 ∧ ks.getD 3 0 < 256) :
    SpecC w 202 3 [.ref S] [(S, oS), (D, oD), (R, oR), (Lst, oL), (cA, oA), (cO, oO)] [Lst] (fun h => h.CodeRec (.ref c) qual)
      (NewObj (IsStrs (sixOf ks))) := by
  k_with "call ref" => ((with_reducible show wpAny _ _ (call (Value.ref 183) _) _ _ _); (rename Fr _ _ _ _ => F'); (rename News _ _ _ _ => N'); refine' SpecA.use (filemode_six w _ _ ?hc) ?R ?hk F' N' ?X ?T (List.forall_mem_nil _) ?_; (case hc => first | exact hc1 | exact hc2); (case R => assumption); (case hk => decide); (case X => k_asm); (case T => k_asm); intro v' h' tk' F' N' hp'; obtain ⟨hlenM, t', hv⟩ := hp'; subst hv; (try dsimp only); (try k_sweep))
  k_with "call ref" => ((with_reducible show wpAny _ _ (call (Value.ref 136) _) _ _ _); (rename Fr _ _ _ _ => F'); (rename News _ _ _ _ => N'); (rename Strm _ _ _ _ _ _ _ _ _ _ _ _ _ _ _ _ _ => x'); refine' SpecC.use1 (uint_spec w x' ?k hks) ?R ?hk F' N' ?X ?T ?hs ?hp ?U ?_; (case k => omega); (case R => assumption); (case hk => decide); (case X => k_asm); (case T => k_asm); (case hs => first | exact six_sub2 | exact six_sub); (case hp => exact rec_keeps hrec fun o e => F'.keep _ _ e); (case U => k_updF); intro v' h' tk' o' F' N' hp'; obtain ⟨hq', t', hv⟩ := hp'; subst hv; (have x'' := x'.step hq'); clear x' hq'; (try dsimp only); (try k_sweep))
  intro A s Q E R B h0 hpre hQ
  have hA' := R.handled
  obtain ⟨hd', d', fr', gs', u'⟩ := A
  dsimp only at hA'
  subst hA'
  obtain ⟨sh, sg, sd, stk, so⟩ := s
  refine' enterCAL (n := 2) (binds := [(Str.ofString "stream", .ref S)]) ?R ?B ?h0 ?ho ?hcd ?hb ?hkind ?hnd ?h ?c1 ?c2 ?c3
  walk_at "ENTERC"
  k_cells Y
  (try simp only [List.cons_append, List.nil_append] at N)
  show wpAny _ _ _ _ _ _
  k_fold
  have hrec : H.CodeRec (.ref c) qual := hH ▸ rec_keeps hpre fun o e => hideAll_get _ e (uint_c x.cS x.cD x.cR x.cL x.cA x.cO)
  have nS := x.nS
  have nD := x.nD
  have nR := x.nR
  have nA := x.nA
  have nO := x.nO
  k_with "eval ListComp" => ((rename Fr _ _ _ _ => kF); k_dflt (refine' lc_rng kF (by exact rfl) (by with_unfolding_all rfl) (by decide) (by rfl) (by decide) (by rfl) ?_))
  k_steps
  (rename Fr _ _ _ _ => F'); (rename News _ _ _ _ => N'); (rename IsRange _ _ _ _ _ _ _ _ => hr')
  refine ⟨_, _, _, _, _, _, _, 6, _, rfl, F', N', hr', by decide, by decide, by rw [sizeLine_eq]; decide, fun g => ?_⟩
  refine comp_strs (fun i => Txt.slice (SGN ks) (some (0 + (i : Int) * 3)) (some (0 + (i : Int) * 3 + 3))) ?turn ?fin
  case turn =>
    intro i v ys I oI C oC D' m₂ h tk E' hi hP hC hx F1 N1 off
    obtain ⟨t, rfl⟩ := hP
    k_steps
    (rename Fr _ _ _ _ => F'); (rename News _ _ _ _ => N')
    exact ⟨_, _, _, rfl, F', N', off, trivial, rfl, _, rfl⟩
  case fin =>
    intro ys hys D' h tk F1 N1 off1
    k_steps
    (rename Fr _ _ _ _ => F'); (rename News _ _ _ _ => N')
    subst hH
    refine hQ _ _ _ (keepC F' N' h0 ?_) (newC N' ?_ (.head _) ⟨_, _, rfl, hys⟩)
    · exact fun x hx => (uint_keep x hx).imp id fun h => .tail _ (.tail _ h)
    · exact off1_mem (show LCg.Off1 D' _ from off1.2)
end Mine
end
section
open PySem PySem.W PyProof.Rows PySem.Calls
set_option maxRecDepth 100000
set_option maxHeartbeats 1000000
namespace Mine
section
variable {prog : Program} {w : World} {A : Around} {E : Value → Shared → Prop} {s : Shared} {env : Env} {h₀ : Heap} {body : List Stmt} {Q : Flow → Shared → Prop}
/-- a loop over a range, by its items -/
theorem iter_rng {x : Str} {px : Pos} {r : Addr} {a b c : Int} {t u v : Tok} {n : Nat} {m₀ : Str → Option Value} {news : List (Addr × Obj)} (hh : A.handled = none) (F : Fr h₀ env.locals s.heap m₀) (N : News h₀ env.locals s.heap news)
    (hr : IsRange s.heap r a b c t u v) (hsm : Builtin.Range.small a b c = true) (hn : Builtin.Range.rangeSize a b c = ((n : Nat) : Int))
    (rest : ∀ I : Addr, (∀ p ∈ news, p.1 < I) → ItemsRest prog w A E h₀ env (.Name x px) body Q s [(I, "range_iterator")] [] (((List.range n).zipIdx 0).map fun p => Itm.tok fun t => .int (a + (p.2 : Int) * c) t) m₀ news) :
    wpAny (model prog w) A (pyIter (.ref r)) (fun it s₂ => TurnsAt prog w A h₀ env (.Name x px) body Q E it s₂) E s := by
  refine wpAny_pyIter_range hr hsm ?_
  refine ktg_core (tk0 := s.toks) (ws := [(s.heap.objs.size, "range_iterator")]) (keep := []) (KTurns.ofWalks (Walks.range hh s.heap.objs.size a c n).bound fun i v s Q E _ q => wpAny_of_eq (t := letOwnedTupleGo (.Name x px) (.ref _) v) rfl q) (by simp) (fun i v h hp => ?_) (fun i h st => ⟨[(s.heap.objs.size, _)], ⟨⟨rfl, rfl⟩, trivial⟩, fun p hp => by rw [List.mem_singleton.mp hp]; exact st⟩) (fun b hb => ?_) (fun b hb => by simpa using hb) (fun b hb => .inl (by simpa using hb)) (fun hI => ?_) (fun p hp hI => ?_) ?_ (F.push _) (fun p hp => ⟨Heap.get?_push_of_some _ (N p hp).1, (N p hp).2⟩) trivial (rest _ fun p hp => Heap.lt_size (N p hp).1)
  · obtain ⟨hi, t', rfl⟩ := hp
    refine ⟨Itm.tok fun t => .int (a + (i : Int) * c) t, ?_, t', rfl⟩
    simp [hi]
  · have hb' : b = s.heap.objs.size := by simpa using hb
    rw [hb']
    exact ⟨List.mem_cons_self .., ktu_new F (Nat.le_refl _)⟩
  · exact absurd F.ns.lt ((List.mem_singleton.mp hI) ▸ Nat.lt_irrefl _)
  · exact absurd (Heap.lt_size (N p hp).1) ((List.mem_singleton.mp hI) ▸ Nat.lt_irrefl _)
  · show IsRangeIter _ _ _ _ _
    rw [hn]; simpa using Heap.get?_push_size _ rfl
end
end Mine
end
section
open PySem PySem.W PyProof.Rows PySem.Calls
set_option maxRecDepth 100000
set_option maxHeartbeats 1000000
namespace Mine
theorem fillC17 (w : World) : Mine.hd.heap_39 w.params = Mine.hd.heap_39 w.params ∧ PySem.Challenge.rw_rt0043_01.prog = PySem.Challenge.rw_rt0043_01.prog := by
  k_with_none
  k_fill
  k_with "INTRO" =>
    intro A s Q E R B hpre hQ
    have hA := R.handled
    obtain ⟨hd', d', fr', gs', u'⟩ := A
    dsimp only at hA
    subst hA
  k_with "ENTER" =>
    case R => assumption
    case B => assumption
    case ho => k_is
    case hcd => k_is
    case hb => first | exact BindsTo.of_eq rfl | rfl
    case hl => first | exact locs rfl | (intro D; exact locs rfl)
    case c1 => rfl
    case c2 => rfl
    case c3 => rfl
    case c4 => decide
    intro L h₁ tk loose mean mg mb F N X T R
    (try dsimp only)
    k_fold
  k_with "INTROL" =>
    intro A s Q E R B hpre hQ
    have hA := R.handled
    obtain ⟨hd', d', fr', gs', u'⟩ := A
    dsimp only at hA
    subst hA
    obtain ⟨sh, sg, sd, stk, so⟩ := s
  k_with "ENTERA" =>
    case R => assumption
    case B => assumption
    case h0 => assumption
    case ho => k_is
    case hcd => k_is
    case hb => exact BindsTo.of_eq rfl
    case hl => exact locs rfl
    case c1 => rfl
    case c2 => rfl
    case c3 => rfl
    case c4 => decide
    intro H L h₁ tk loose mean mg mb hH F N l0 X T R env A1
    (try simp only [AllLt, and_true] at l0)
    k_fold
  k_with "ENTERC" =>
    case R => assumption
    case B => assumption
    case h0 => assumption
    case ho => k_is
    case hcd => k_is
    case hb => exact BindsTo.of_eq rfl
    case hkind => exact rfl
    case hnd => decide +kernel
    case c1 => rfl
    case c2 => rfl
    case c3 => rfl
    intro H L h₁ tk cells loose mean mg mb hH F N l0 Y X T R env A1
    (try simp only [AllLt, and_true] at l0)
  k_with "END" => ((try dsimp only); (rename Fr _ _ _ _ => F'); refine hQ _ _ _ (Fr.keep F') ?_; clear F')
  k_with "ENDA" => ((try dsimp only); (rename Fr _ _ _ _ => F'); (rename News _ _ _ _ => N'); subst hH; refine hQ _ _ _ (keepA F' N' hpre (by first | exact List.forall_mem_nil _ | (intro p hp; simp only [List.mem_cons, List.mem_nil_iff, or_false, List.not_mem_nil] at hp ⊢; first | assumption | (rcases hp with rfl | rfl | rfl <;> simp)))) ?_; clear F')
  k_with "call builtin:issubclass" => ((rename News _ _ _ _ => N'); refine' call_issub ?k1 ?_; (case k1 => exact (N' _ (by k_mem)).1); k_whole)
  k_with "ROOM" => ((case R => assumption); (case hk => decide); (case F => k_asm); (case N => k_asm); (case X => k_asm); (case T => k_asm); k_whole)
  k_with "call ref" => ((with_reducible show wpAny _ _ (call (Value.ref 94) _) _ _ _); (refine' Spec.useV (fspath_spec _ _ _) ?R ?hk ?F ?N ?X ?T ?_; walk_at "ROOM"; intro h' tk' F' N'; (try k_sweep)))
  k_with "call ref" => ((with_reducible show wpAny _ _ (call (Value.ref 108) _) _ _ _); (refine' Spec.useS (getsep_spec _ _ _) ?R ?hk ?F ?N ?X ?T ?_; walk_at "ROOM"; intro t' h' tk' F' N'; (try k_sweep)))
  exact ⟨rfl, rfl⟩

def NMS : List Str := [Str.ofString "---", Str.ofString "--x", Str.ofString "-w-", Str.ofString "-wx", Str.ofString "r--", Str.ofString "r-x", Str.ofString "rw-", Str.ofString "rwx"]
theorem names_spec (w : World) : SpecA w 209 1 [] [] (NewObj (IsStrs NMS)) := by
  walk_at "INTROL"
  refine' enterAL (n := 0) (N0 := []) (binds := []) ?R ?B ?h0 ?ho ?hcd ?hb ?hl ?h ?c1 ?c2 ?c3 ?c4
  walk_at "ENTERA"
  k_steps
  (rename Fr _ _ _ _ => F'); (rename News _ _ _ _ => N')
  have F'' := hH ▸ F'
  have N'' := hH ▸ N'
  exact hQ _ _ _ (keepA (N0 := []) F'' N'' hpre (List.forall_mem_nil _)) (newA (N0 := []) N'' (List.forall_mem_nil _) (.head _) ⟨_, _, rfl, by unfold NMS; repeat' constructor⟩)
end Mine
end
section
open PySem PySem.W PyProof.Rows PySem.Calls LCg LCt
set_option maxRecDepth 100000
set_option maxHeartbeats 1000000
namespace Mine
section
variable {prog : Program} {w : World} {A : Around} {E : Value → Shared → Prop} {s : Shared} {h₀ : Heap} {L : Addr} {m : PySem.Str → Option Value} {env : Env}
/-- a comprehension with a test over given items: the items that pass -/
theorem comp_filter {ct elt : PySem.Expr} {x : PySem.Str} {scope : Scope} {cl : List (PySem.Str × Addr)} {S : List (Addr × Obj) → Prop} {Fin : List Value → List (Addr × Obj) → Prop} {news : List (Addr × Obj)} (its : Array Value) (p : Value → Bool)
    (turn : ∀ v ys I oI C oC D m₂ h tk (E' : Value → Shared → Prop), v ∈ its.toList → NsObj oC m₂ → m₂ x = some v → Fr h₀ L h m → News h₀ L h ((I, oI) :: (C, oC) :: (D, lst ys) :: news) → Off3 I C D news → ((@Ne Nat I C) ∧ (@Ne Nat I D) ∧ (@Ne Nat C D)) →
      wpAny (model prog w) A (isTrue ct (compEnvC scope cl C env) (eval ct (compEnvC scope cl C env))) (fun ok s' => if ok = true then
        wpAny (model prog w) A (eval elt (compEnvC scope cl C env)) (CompEnd h₀ L m { s with heap := h, toks := tk } I oI C oC D (lst ys) S (fun y news' => news' = news ∧ y = v ∧ p v = true)) E' s'
        else CompEnd h₀ L m { s with heap := h, toks := tk } I oI C oC D (lst ys) S (fun _ news' => news' = news ∧ p v = false) Value.none s') E' { s with heap := h, toks := tk })
    (fin : Fin (its.toList.filter p) news) : CompRestT prog w A h₀ L m env ct elt x scope cl s S (fun i v => its[i]? = some v) Fin its.size 0 [] news := by
  have key : ∀ (j i : Nat) (ys : List Value), i + j = its.size → ys = (its.toList.take i).filter p → CompRestT prog w A h₀ L m env ct elt x scope cl s S (fun i v => its[i]? = some v) Fin j i ys news := by
    intro j
    induction j with
    | zero =>
      intro i ys hi hy
      have e : its.toList.take i = its.toList := List.take_of_length_le (by simp; omega)
      rw [e] at hy
      subst hy
      exact CompRestT.zero fin
    | succ j ih =>
      intro i ys hi hy
      refine CompRestT.succ ?_
      intro v I oI C oC D m₂ h tk E' hv hC hx F N off ne
      have hv' : its.toList[i]? = some v := by rw [Array.getElem?_toList]; exact hv
      have hs : (its.toList.take (i + 1)).filter p = ys ++ (if p v then [v] else []) := by
        rw [List.take_succ, hv', List.filter_append, ← hy]
        simp only [Option.toList_some, List.filter_cons, List.filter_nil]
      refine wpAny_mono (turn v ys I oI C oC D m₂ h tk E' (List.mem_of_getElem? hv') hC hx F N off ne) (fun ok s' hq => ?_) fun _ _ e => e
      cases ok with
      | true =>
        simp only [if_true] at hq ⊢
        refine wpAny_mono hq (fun y s₂ hq => ?_) fun _ _ e => e
        obtain ⟨h', tk', nw, e, F', N', off', hS, rfl, rfl, hp⟩ := hq
        rw [hp] at hs
        exact ⟨h', tk', _, e, F', N', off', hS, ih (i + 1) _ (by omega) hs.symm⟩
      | false =>
        simp only [Bool.false_eq_true, if_false] at hq ⊢
        obtain ⟨h', tk', nw, e, F', N', off', hS, rfl, hp⟩ := hq
        rw [hp] at hs
        exact ⟨h', tk', _, e, F', N', off', hS, ih (i + 1) _ (by omega) (by rw [hs]; simp)⟩
  exact key its.size 0 [] (by omega) (by simp)
end
end Mine
end
section
open PySem PySem.W PyProof.Rows PySem.Calls
set_option maxRecDepth 100000
set_option maxHeartbeats 1000000
namespace Mine
section
variable {prog : Program} {w : World} {A : Around} {E : Value → Shared → Prop} {s : Shared} {h₀ : Heap} {L D : Addr} {m : Str → Option Value} {news : List (Addr × Obj)} {g : Obj → List (Addr × Obj)} {its : Array Value} {n : Nat}
/-- xs.remove(x): the first that equals x goes -/
theorem remove_K {x : Value} {Q : Value → Shared → Prop} (e : Value → Bool) (he : ∀ y ∈ its.toList, MeetsSeq.EqGives y x (e y)) (j : Nat) (hj : j < its.toList.length) (hit : e its.toList[j] = true) (hno : ∀ i (hi : i < its.toList.length), i < j → e its.toList[i] = false)
    (F : Fr h₀ L s.heap m) (N : News h₀ L s.heap news) (U : UpdF D (listOf its n) news g) (hz : its.toList.length ≤ sizeLine)
    (h : ∀ h', Fr h₀ L h' m → News h₀ L h' (g (listOf (its.toList.eraseIdx j).toArray (n + 1))) → Q .none { s with heap := h' }) : wpAny (model prog w) A (call (.builtin "list.remove") [.ref D, x]) Q E s := by
  obtain ⟨pre, post, rfl, hg, a', b'⟩ := U.split
  rw [hg] at h
  have z := N (D, listOf its n) (List.mem_append.mpr (.inr (.head _)))
  have hs : its.toList.length = its.size := Array.length_toList
  refine call_meets PySem.F.slot_list_remove ⟨_, z.1, rfl⟩ PySem.F.entry_list_remove (PySem.F.args_list_remove_2 _ _)
    (MeetsSeq.list_remove D its n x e (fun y hy => he y (by simpa using hy)) j (by omega) (by simpa using hit) (fun i hi hlt => (hno i (by omega) hlt : e its.toList[i] = false)) (by omega))
    ⟨z.1, h _ (F.change (Heap.SameBut.update ..) z.2.1 z.2.2) (ki_turn _ N a' b' ?_ ?_)⟩
  · apply Array.toList_inj.mp
    simp [Array.toList_eraseIdxIfInBounds]
  · have hq : (its.toList.eraseIdx j).toArray.size ≠ its.size := by rw [List.size_toArray, List.length_eraseIdx_of_lt (by omega)]; omega
    rw [if_neg (by simpa using hq)]
end
section
variable {prog : Program} {w : World} {A : Around} {E : Value → Shared → Prop} {s : Shared} {h₀ : Heap} {L a : Addr} {m : Str → Option Value} {news : List (Addr × Obj)} {vs : List Value} {n : Nat}
/-- xs[j:], held for reading only -/
theorem drop_K {value slice : PySem.Expr} {i : Int} {j : Nat} {t : Tok} {Q : Value → Shared → Prop} (F : Fr h₀ L s.heap m) (N : News h₀ L s.heap news) (hm : (a, listOf vs.toArray n) ∈ news) (hi : i = (j : Int)) (hsz : vs.length ≤ sizeLine)
    (h : ∀ h' l, Fr h₀ L h' m → News h₀ L h' news → h'.IsList l (vs.drop j).toArray → Q (.ref l) { s with heap := h' })
    (hs : subscripted slice false (.ref a) (.ref s.heap.objs.size) = operate [.ref s.heap.objs.size, .ref a] (getItem (.ref a) (.ref s.heap.objs.size)) := by with_unfolding_all rfl)
    (ht : ∀ r, letTemporaryGo value (.ref a) r = pure () := by intro _; with_unfolding_all rfl) :
    wpAny (model prog w) A (subscriptTail value slice (.ref a) (.ref s.heap.objs.size)) Q E { s with heap := s.heap.push { cls := .type "slice", data := .fields #[.int i t, .none, .none] } } := by
  have hl : s.heap.IsList a vs.toArray := N.isList hm
  refine slice_listK hl (.int _ _) .none (h _ _ ((F.push _).push _) ((N.grown fun _ _ e => Heap.get?_push_of_some _ e).grown fun _ _ e => Heap.get?_push_of_some _ e) ⟨{ cls := .type "list", data := .seq (slicePick vs.toArray (some i) none none) }, ?_, rfl, 0, ?_⟩) hs ht (by rw [List.size_toArray]; exact hsz)
  · have e := Heap.get?_push_size (o := { cls := .type "list", data := .seq (slicePick vs.toArray (some i) none none) }) (s.heap.push { cls := .type "slice", data := .fields #[.int i t, .none, .none] }) rfl
    rw [Heap.size_push] at e
    exact e
  · subst hi
    rw [slicePick_from']
end
/-- the texts of a list of values -/
theorem strs_len : ∀ {vs : List Value} {xs : List Str}, StrsAre vs xs → vs.length = xs.length
  | _, _, .nil => rfl
  | _, _, .cons _ _ h => congrArg (· + 1) (strs_len h)
def strOf : Value → Str | .str x _ => x | _ => Str.ofString ""
theorem strs_get : ∀ {vs : List Value} {xs : List Str}, StrsAre vs xs → ∀ v ∈ vs, ∃ x t, v = .str x t ∧ x ∈ xs
  | _, _, .cons y t h, v, hv => by
    rcases List.mem_cons.mp hv with rfl | hv
    · exact ⟨y, t, rfl, .head _⟩
    · obtain ⟨x, t, e, hx⟩ := strs_get h v hv
      exact ⟨x, t, e, .tail _ hx⟩
theorem strs_filter {p : Str → Bool} : ∀ {vs : List Value} {xs : List Str}, StrsAre vs xs → StrsAre (vs.filter fun v => p (strOf v)) (xs.filter p)
  | _, _, .nil => .nil
  | _, _, .cons y t h => by
    rw [List.filter_cons, List.filter_cons]
    show StrsAre (if p y = true then _ else _) _
    by_cases hp : p y = true
    · rw [if_pos hp, if_pos hp]; exact .cons y t (strs_filter h)
    · rw [if_neg hp, if_neg hp]; exact strs_filter h
theorem strs_drop : ∀ {vs : List Value} {xs : List Str} (k : Nat), StrsAre vs xs → StrsAre (vs.drop k) (xs.drop k)
  | _, _, 0, h => by simpa using h
  | _, _, _ + 1, .nil => .nil
  | _, _, k + 1, .cons _ _ h => strs_drop k h
theorem strs_at : ∀ {vs : List Value} {xs : List Str} (k : Nat) {x : Str}, StrsAre vs xs → xs[k]? = some x → ∃ t, vs[k]? = some (.str x t)
  | _, _, 0, _, .cons y t _, e => by cases e; exact ⟨t, rfl⟩
  | _, _, k + 1, _, .cons _ _ h, e => strs_at (xs := _) k h e
theorem strs_erase : ∀ {vs : List Value} {xs : List Str} (x : Str), StrsAre vs xs → x ∈ xs → ∃ j, ∃ hj : j < vs.length, (strOf vs[j] == x) = true ∧ (∀ i (hi : i < vs.length), i < j → (strOf vs[i] == x) = false) ∧ StrsAre (vs.eraseIdx j) (xs.erase x)
  | _, _, x, .cons y t h, hx => by
    by_cases e : (y == x) = true
    · refine ⟨0, by simp, e, fun i _ hi => absurd hi (Nat.not_lt_zero _), ?_⟩
      have e' : y = x := by simpa using e
      subst e'
      rw [List.erase_cons_head]
      exact h
    · have e' : (y == x) = false := by simpa using e
      have hx' : x ∈ _ := (List.mem_cons.mp hx).resolve_left fun q => by subst q; exact e (by simp)
      obtain ⟨j, hj, h1, h2, h3⟩ := strs_erase x h hx'
      refine ⟨j + 1, by simpa using hj, h1, fun i hi hlt => ?_, ?_⟩
      · cases i with
        | zero => exact e'
        | succ i => exact h2 i (by simpa using hi) (Nat.lt_of_succ_lt_succ hlt)
      · rw [List.erase_cons_tail (by simpa using e')]
        exact .cons y t h3
theorem strs_eq {vs : List Value} {xs : List Str} (h : StrsAre vs xs) (x : Str) (t : Tok) : ∀ y ∈ vs, MeetsSeq.EqGives y (.str x t) (strOf y == x) := fun y hy => by
  obtain ⟨a, u, rfl, _⟩ := strs_get h y hy
  intro prog w A E s Q q
  exact eqBool_str q
end Mine
end
section
open PySem PySem.W PyProof.Rows PySem.Calls
set_option maxRecDepth 100000
set_option maxHeartbeats 1000000
namespace Mine
theorem fillC20 (w : World) : Mine.hd.heap_39 w.params = Mine.hd.heap_39 w.params ∧ PySem.Challenge.rw_rt0043_01.prog = PySem.Challenge.rw_rt0043_01.prog := by
  k_with_none
  k_fill
  k_with "INTRO" =>
    intro A s Q E R B hpre hQ
    have hA := R.handled
    obtain ⟨hd', d', fr', gs', u'⟩ := A
    dsimp only at hA
    subst hA
  k_with "ENTER" =>
    case R => assumption
    case B => assumption
    case ho => k_is
    case hcd => k_is
    case hb => first | exact BindsTo.of_eq rfl | rfl
    case hl => first | exact locs rfl | (intro D; exact locs rfl)
    case c1 => rfl
    case c2 => rfl
    case c3 => rfl
    case c4 => decide
    intro L h₁ tk loose mean mg mb F N X T R
    (try dsimp only)
    k_fold
  k_with "INTROL" =>
    intro A s Q E R B hpre hQ
    have hA := R.handled
    obtain ⟨hd', d', fr', gs', u'⟩ := A
    dsimp only at hA
    subst hA
    obtain ⟨sh, sg, sd, stk, so⟩ := s
  k_with "ENTERA" =>
    case R => assumption
    case B => assumption
    case h0 => assumption
    case ho => k_is
    case hcd => k_is
    case hb => exact BindsTo.of_eq rfl
    case hl => exact locs rfl
    case c1 => rfl
    case c2 => rfl
    case c3 => rfl
    case c4 => decide
    intro H L h₁ tk loose mean mg mb hH F N l0 X T R env A1
    (try simp only [AllLt, and_true] at l0)
    k_fold
  k_with "ENTERC" =>
    case R => assumption
    case B => assumption
    case h0 => assumption
    case ho => k_is
    case hcd => k_is
    case hb => exact BindsTo.of_eq rfl
    case hkind => exact rfl
    case hnd => decide +kernel
    case c1 => rfl
    case c2 => rfl
    case c3 => rfl
    intro H L h₁ tk cells loose mean mg mb hH F N l0 Y X T R env A1
    (try simp only [AllLt, and_true] at l0)
  k_with "END" => ((try dsimp only); (rename Fr _ _ _ _ => F'); refine hQ _ _ _ (Fr.keep F') ?_; clear F')
  k_with "ENDA" => ((try dsimp only); (rename Fr _ _ _ _ => F'); (rename News _ _ _ _ => N'); subst hH; refine hQ _ _ _ (keepA F' N' hpre (by first | exact List.forall_mem_nil _ | (intro p hp; simp only [List.mem_cons, List.mem_nil_iff, or_false, List.not_mem_nil] at hp ⊢; first | assumption | (rcases hp with rfl | rfl | rfl <;> simp)))) ?_; clear F')
  k_with "call builtin:issubclass" => ((rename News _ _ _ _ => N'); refine' call_issub ?k1 ?_; (case k1 => exact (N' _ (by k_mem)).1); k_whole)
  k_with "ROOM" => ((case R => assumption); (case hk => decide); (case F => k_asm); (case N => k_asm); (case X => k_asm); (case T => k_asm); k_whole)
  k_with "call ref" => ((with_reducible show wpAny _ _ (call (Value.ref 94) _) _ _ _); (refine' Spec.useV (fspath_spec _ _ _) ?R ?hk ?F ?N ?X ?T ?_; walk_at "ROOM"; intro h' tk' F' N'; (try k_sweep)))
  k_with "call ref" => ((with_reducible show wpAny _ _ (call (Value.ref 108) _) _ _ _); (refine' Spec.useS (getsep_spec _ _ _) ?R ?hk ?F ?N ?X ?T ?_; walk_at "ROOM"; intro t' h' tk' F' N'; (try k_sweep)))
  exact ⟨rfl, rfl⟩

def leastOf (R c : List Str) : Str := (R.filter fun n => !(c.any (· == n))).headD (Str.ofString "")
def upSt (c : List Str) : Nat → List Str × List (Str × Str)
  | 0 => (NMS, [])
  | k + 1 => let l := leastOf (upSt c k).1 (c.drop k); ((upSt c k).1.erase l, (upSt c k).2 ++ [(l, c.getD k (Str.ofString ""))])
structure UpOk (c : List Str) : Prop where
  len : c.length = 6
  ne : ∀ k < 6, ((upSt c k).1.filter fun n => !((c.drop k).any (· == n))) ≠ []
  fresh : ∀ k < 6, leastOf (upSt c k).1 (c.drop k) ∉ (upSt c k).2.map (·.1)
  last : ∃ a b, (upSt c 6).1 = [a, b] ∧ a ∉ (upSt c 6).2.map (·.1)
def upAll (c : List Str) : List (Str × Str) := (upSt c 6).2 ++ [((upSt c 6).1.getD 0 (Str.ofString ""), (upSt c 6).1.getD 1 (Str.ofString ""))]
def tabD (U : List (Str × Str)) : List (PyData × PyData) := U.map fun p => (.str p.1, .str p.2)
def TabS (w : World) (U : List (Str × Str)) (o : Obj) : Prop := ∃ kvs, o.IsDictOf (strKind PG w) kvs ∧ PyProof.V.FlatPairs PyData.str kvs (tabD U)
def UpInv (w : World) (c : List Str) (vs : List Value) (n0 : Nat) (a L rr d I : Addr) (i : Nat) (xs : List Nat) (m : Str → Option Value) (news : List (Addr × Obj)) : Prop :=
  i + xs.length = 6 ∧ m (Str.ofString "uppers") = some (.ref d) ∧ m (Str.ofString "remaining") = some (.ref rr) ∧ ∃ (vr : List Value) (nr : Nat) (od ok oc : Obj) (kv : Option Value),
    news = [(d, od), (rr, listOf vr.toArray nr), (L + 1 + 1, ok), (L + 1, oc), (a, listOf vs.toArray n0)] ∧ StrsAre vr (upSt c i).1 ∧ TabS w (upSt c i).2 od ∧ ok.data = .cell kv ∧ oc.data = .cell (some (.ref a)) ∧
    rr < d ∧ L + 1 + 1 < d ∧ L + 1 < d ∧ a < d
theorem up_least {c : List Str} {i : Nat} {vs : List Value} (hc : UpOk c) (hi : i < 6) (h : StrsAre vs ((upSt c i).1.filter fun n => !((c.drop i).any (· == n)))) : ∃ l t r, vs = .str l t :: r ∧ l = leastOf (upSt c i).1 (c.drop i) := by
  have hne := hc.ne i hi
  unfold leastOf
  cases hl : (upSt c i).1.filter fun n => !((c.drop i).any (· == n)) with
  | nil => exact absurd hl hne
  | cons l r =>
    rw [hl] at h
    cases h with
    | cons y t h => exact ⟨l, t, _, rfl, rfl⟩
theorem up_lenR (c : List Str) : ∀ k, (upSt c k).1.length ≤ 8
  | 0 => Nat.le_refl 8
  | k + 1 => Nat.le_trans (List.erase_sublist.length_le) (up_lenR c k)
theorem up_len (c : List Str) : ∀ k, (tabD (upSt c k).2).length = k
  | 0 => rfl
  | k + 1 => by
    have := up_len c k
    unfold tabD at this ⊢
    rw [List.length_map] at this ⊢
    show ((upSt c k).2 ++ _).length = k + 1
    rw [List.length_append, this]; rfl
theorem putD_tab {U : List (Str × Str)} {l v : Str} (h : l ∉ U.map (·.1)) : PyProof.V.putD (.str l) (.str v) (tabD U) = tabD (U ++ [(l, v)]) := by
  unfold PyProof.V.putD
  rw [if_neg]
  · unfold tabD; rw [List.map_append]; rfl
  · intro e
    obtain ⟨p, hp, q⟩ := List.any_eq_true.mp e
    obtain ⟨u, hu, rfl⟩ := List.mem_map.mp hp
    have q' : (u.1 == l) = true := q
    exact h (List.mem_map.mpr ⟨u, hu, by simpa using q'⟩)
theorem least_mem {c : List Str} {i : Nat} (hc : UpOk c) (hi : i < 6) : leastOf (upSt c i).1 (c.drop i) ∈ (upSt c i).1 := by
  have hne := hc.ne i hi
  unfold leastOf
  cases hl : (upSt c i).1.filter fun n => !((c.drop i).any (· == n)) with
  | nil => exact absurd hl hne
  | cons l r => exact (List.mem_filter.mp (hl ▸ List.mem_cons_self)).1
theorem SpecA.useNG {w : World} {f : Addr} {n k : Nat} {args : List Value} {N0 : List (Addr × Obj)} {A : Around} {s : Shared} {Q E : Value → Shared → Prop} {h₀ : Heap} {L : Addr} {m : Str → Option Value} {news : List (Addr × Obj)} {loose : List Str} {mean : ExcName → Option Value} {mg mb : Str → Option Value} {P : Obj → Prop} {G : Addr → Prop}
    (S : SpecA w f n args N0 (fun h v h' => NewObj P h v h' ∧ ∀ a, v = .ref a → G a)) (R : Room A k) (hk : n ≤ k) (F : Fr h₀ L s.heap m) (N : News h₀ L s.heap news) (X : (Mine.hd.heap_39 w.params).In h₀) (T : Top topProg loose mean mg mb h₀) (hs : ∀ p ∈ N0, p ∈ news)
    (h : ∀ a o h' tk, Fr h₀ L h' m → News h₀ L h' ((a, o) :: news) → AllNe a news → P o → G a → Q (.ref a) { s with heap := h', toks := tk }) : wpAny (model PG w) A (call (.ref f) args) Q E s := by
  refine SpecA.use S R hk F N X T hs fun v h' tk F' N' ⟨⟨a, o, e, e1, e2, p⟩, g⟩ => e ▸ h a o h' tk F' (fun q hq => ?_) (allNe_of fun q hq e => ?_) p (g a e)
  · rcases List.mem_cons.mp hq with rfl | hq
    · refine ⟨e2, fun e => ?_, ?_⟩
      · obtain ⟨oL, _, _, hL, _⟩ := F.ns
        have e' : a = L := e
        rw [← e', e1] at hL; cases hL
      · show h₀.get? a = none
        cases q : h₀.get? a with
        | none => rfl
        | some o' => have := F.keep _ _ q; rw [e1] at this; cases this
    · exact N' q hq
  · have := (N q hq).1
    rw [e, e1] at this; cases this
theorem nameD {P : Prop} {d x y z u : Nat} (_ : x < d ∧ y < d ∧ z < d ∧ u < d) (k : ∀ dd, dd = d → P) : P := k d rfl
theorem uppers_spec (w : World) (a : Addr) (o : Obj) (c : List Str) (hc : UpOk c) (ho : IsStrs c o) : SpecA w 214 2 [.ref a] [(a, o)] (fun h v h' => NewObj (TabS w (upAll c)) h v h' ∧ ∀ b, v = .ref b → (b == sysModules) = false) := by
  obtain ⟨vs, n0, rfl, hvs⟩ := ho
  k_with "exec For Name Call cons nil" => ((rename Fr _ _ _ _ => lF'); (with_unfolding_all refine' For_turns lF' ?_); k_whole)
  k_with "call ref" => ((with_reducible show wpAny _ _ (call (Value.ref 209) _) _ _ _); (rename Fr _ _ _ _ => F'); (rename News _ _ _ _ => N'); refine' SpecA.useN (names_spec w) ?R ?hk F' N' ?X ?T (List.forall_mem_nil _) ?_; (case R => assumption); (case hk => decide); (case X => k_asm); (case T => k_asm); intro rr ro h' tk' F' N' off' hp'; obtain ⟨vr, nr, hro, hvr⟩ := hp'; subst hro; (try dsimp only [AllNe] at off'); (try k_sweep))
  walk_at "INTROL"
  refine' enterCAL (n := 1) (binds := [(Str.ofString "six", .ref a)]) ?R ?B ?h0 ?ho ?hcd ?hb ?hkind ?hnd ?h ?c1 ?c2 ?c3
  walk_at "ENTERC"
  have hY := CellsAre.two Y
  obtain ⟨ok0, oc0, hE', dk0, dc0⟩ := hY
  subst hE'
  clear Y
  (try simp only [List.cons_append, List.nil_append] at N)
  show wpAny _ _ _ _ _ _
  k_fold
  k_steps
  rename _ < _ ∧ _ < _ ∧ _ < _ ∧ _ < _ => ld
  rename (_ == sysModules) = false => lo'
  rename Obj.IsDictOf (PySem.strKind PG w) _ _ => hd0
  rename PyProof.V.FlatPairs PyData.str _ _ => hf0
  (rename Fr _ _ _ _ => F'); (rename News _ _ _ _ => N'); (rename IsRange _ _ _ _ _ _ _ _ => hr')
  refine nameD ld fun dd hdd => ?_
  subst hdd
  refine' iter_rng (n := 6) (by exact rfl) F' N' hr' (by decide) (by decide) ?_
  intro I l1
  k_lt l1
  refine' items_ind (α := Nat) (item := fun i _ => Itm.tok fun t => .int (0 + ((i : Nat) : Int) * 1) t)
    (Inv := UpInv w c vs n0 a L rr dd I) ?step ?done (List.range 6) 0 _ _ ?i0
  case i0 =>
    refine ⟨rfl, rfl, rfl, vr, nr, _, ok0, oc0, _, rfl, hvr, ⟨_, hd0, hf0⟩, dk0, dc0, ld⟩
  case done =>
    rintro i m news h tk ⟨hi, hm1, hm2, vr, nr, od, ok, oc, kv, rfl, hvr, ⟨kvs, hd, hf⟩, dk, dc, off⟩ F1 N1
    have hi6 : i = 6 := by simpa using hi
    subst hi6
    obtain ⟨x1, x2, hx12, hfr⟩ := hc.last
    rw [hx12] at hvr
    cases hvr with
    | cons _ t1 hvr => cases hvr with
    | cons _ t2 hvr => cases hvr with
    | nil =>
    k_with "eval Name" => ((rename Fr _ _ _ _ => kF); k_dflt (refine' nameX_L kF ?v ?_ ?a ?b; (case a => rfl); (case b => rfl); (case v => first | exact hm1 | exact hm2); k_whole))
    k_steps
    (rename Fr _ _ _ _ => F2); (rename News _ _ _ _ => N2)
    refine' setItem_K (kvs := kvs) PyProof.V.same_str (strKind_is _ _ _ _) (PyProof.V.Flat.str _ _) F2 N2 ?U hd hf ?_ ?z
    case U => k_updF
    case z => rw [up_len c 6]; rw [sizeLine_eq]; decide
    intro h3 o3 F3 N3 hd3 hf3
    (try dsimp only at N3)
    clear F2
    k_steps
    (rename Fr _ _ _ _ => F'); (rename News _ _ _ _ => N')
    subst hH
    rw [putD_tab hfr] at hf3
    have hu : upAll c = (upSt c 6).2 ++ [(x1, x2)] := by unfold upAll; rw [hx12]; rfl
    exact hQ _ _ _ (keepA F' N' hpre (fun p hp => by rw [List.mem_singleton.mp hp]; exact .tail _ (.tail _ (.tail _ (.tail _ (.head _)))))) ⟨newA N' (fun p hp => by rw [List.mem_singleton.mp hp]; exact Nat.ne_of_lt off.2.2.2) (.head _) (hu ▸ ⟨_, hd3, hf3⟩), fun b e => by cases e; exact lo'⟩
  case step =>
    rintro i x xs m news v h tk ⟨hi, hm1, hm2, vr, nr, od, ok, oc, kv, rfl, hvr, ⟨kvs, hd, hf⟩, dk, dc, off⟩ ⟨t, rfl⟩ F1 o1 ho1 N1
    k_with "eval Name" => ((rename Fr _ _ _ _ => kF); k_dflt (refine' nameX_L kF ?v ?_ ?a ?b; (case a => rfl); (case b => rfl); (case v => first | exact hm1 | exact hm2 | exact (if_neg (by decide)).trans hm1 | exact (if_neg (by decide)).trans hm2 | exact if_pos rfl); k_whole))
    k_with "eval ListComp" => ((rename Fr _ _ _ _ => kF); k_dflt (refine' LCt.ListComp_T kF (by with_unfolding_all rfl) (by decide) (by rfl) (by decide) (by rfl) ?_))
    dsimp only [List.cons_append, List.nil_append] at N1
    k_steps
    (rename Fr _ _ _ _ => F'); (rename News _ _ _ _ => N')
    rename _ = Data.cell (some (Value.int _ _)) => dk'
    have hlen : vr.toArray.size ≤ sizeLine := by rw [sizeLine_eq, List.size_toArray, strs_len hvr]; exact Nat.le_trans (up_lenR c i) (by decide)
    refine LCt.CompSrcT.ledger (by exact rfl) F' N' (.tail _ (.tail _ (.head _))) hlen fun g => ?_
    refine comp_filter vr.toArray (fun v => !((c.drop i).any (· == strOf v))) ?turn ?fin
    case turn =>
      intro v ys I' oI C oC D m₂ h tk E' hv hC hx F1 N1 off3 ne3
      obtain ⟨y, ty, rfl, hy⟩ := strs_get hvr v (by simpa using hv)
      k_steps
      refine drop_K (j := i) F1 N1 (.tail _ (.tail _ (.tail _ (.tail _ (.tail _ (.tail _ (.tail _ (.tail _ (.head _))))))))) (by omega) (by rw [sizeLine_eq, strs_len hvs, hc.len]; decide) ?_
      intro h9 l9 F9 N9 hl9
      refine notin_list_strs hl9 (by simpa using strs_drop i hvs) ?_
      cases hb : (c.drop i).any (· == y) with
      | true =>
        k_steps
        exact ⟨h9, _, _, rfl, F9, N9, off3, .inr ⟨_, .tail _ (.tail _ (.head _)), rfl, _, rfl⟩, rfl, by show (!((c.drop i).any fun x => x == y)) = false; rw [hb]; rfl⟩
      | false =>
        k_steps
        exact ⟨h9, _, _, rfl, F9, N9, off3, .inr ⟨_, .tail _ (.tail _ (.head _)), rfl, _, rfl⟩, rfl, rfl, by show (!((c.drop i).any fun x => x == y)) = true; rw [hb]; rfl⟩
    case fin =>
      intro D' h tk F1 N1 off1
      have hlt : i < 6 := by simp only [List.length_cons] at hi; omega
      have hfil := strs_filter (p := fun y => !((c.drop i).any (· == y))) hvr
      obtain ⟨l, lt, vf, hvf, hle⟩ := up_least hc hlt hfil
      have hvf' : (vr.toArray.toList.filter fun v => !((c.drop i).any (· == strOf v))) = .str l lt :: vf := hvf
      rw [hvf'] at N1
      k_steps
      obtain ⟨ct, hct⟩ := strs_at (x := c.getD i (Str.ofString "")) i hvs (by rw [List.getD_eq_getElem?_getD, List.getElem?_eq_getElem (by rw [hc.len]; exact hlt)]; rfl)
      have ei : (0 + ((i : Nat) : Int) * 1).toNat = i := by omega
      (rename Fr _ _ _ _ => F2); (rename News _ _ _ _ => N2)
      refine item_list (x := .str (c.getD i (Str.ofString "")) ct) (items := vs.toArray) (N2.isList (n := n0) (by k_mem)) (by omega) (by omega) (by rw [ei]; simpa using hct) ?_
      k_steps
      (rename News _ _ _ _ => N2)
      subst hle
      have N5 : News H L _ [(I, o1), (dd, od), (rr, listOf vr.toArray nr), (L + 1 + 1, _), (L + 1, oc), (a, listOf vs.toArray n0)] := fun p hp => N2 p (.tail _ hp)
      clear N2
      refine' setItem_K (kvs := kvs) PyProof.V.same_str (strKind_is _ _ _ _) (PyProof.V.Flat.str _ _) kF N5 ?U hd hf ?_ ?z
      case U => k_updF
      case z => rw [up_len c i]; exact Nat.le_trans (Nat.le_of_lt hlt) (by rw [sizeLine_eq]; decide)
      intro h3 o3 F3 N3 hd3 hf3
      (try dsimp only at N3)
      clear kF
      k_steps
      (rename Fr _ _ _ _ => F6); (rename News _ _ _ _ => N6)
      obtain ⟨j, hj, e1, e2, e3⟩ := strs_erase (leastOf (upSt c i).1 (c.drop i)) hvr (least_mem hc hlt)
      refine' remove_K (its := vr.toArray) (n := nr) (fun v => strOf v == leastOf (upSt c i).1 (c.drop i)) (strs_eq hvr _ _) j hj e1 e2 F6 N6 ?U (by simpa using hlen) ?_
      case U => k_updF
      intro h4 F4 N4
      (try dsimp only at N4)
      k_steps
      refine ⟨h4, _, _, [(dd, o3), (rr, listOf (vr.toArray.toList.eraseIdx j).toArray (nr + 1)), (L + 1 + 1, _), (L + 1, oc), (a, listOf vs.toArray n0)], rfl, F4, N4, ?_, trivial, ?_⟩
      · intro p hp q hq
        rw [List.mem_singleton.mp hq]
        simp only [List.mem_cons, List.mem_nil_iff, or_false] at hp
        rcases hp with rfl | rfl | rfl | rfl | rfl
        · exact Nat.ne_of_lt l1.1
        · exact Nat.ne_of_lt l1.2.1
        · exact Nat.ne_of_lt l1.2.2.1
        · exact Nat.ne_of_lt l1.2.2.2.1
        · exact Nat.ne_of_lt l1.2.2.2.2
      · refine ⟨by simp only [List.length_cons] at hi; omega, (if_neg (by decide)).trans hm1, (if_neg (by decide)).trans hm2, _, nr + 1, o3, _, oc, _, rfl, e3, ⟨_, hd3, ?_⟩, dk', dc, off⟩
        rw [putD_tab (hc.fresh i hlt)] at hf3
        exact hf3
end Mine
end
section
open PySem PySem.W PyProof.Rows PySem.Calls
set_option maxRecDepth 100000
set_option maxHeartbeats 1000000
namespace Mine
theorem fillC21 (w : World) : Mine.hd.heap_39 w.params = Mine.hd.heap_39 w.params ∧ PySem.Challenge.rw_rt0043_01.prog = PySem.Challenge.rw_rt0043_01.prog := by
  k_with_none
  k_fill
  k_with "INTRO" =>
    intro A s Q E R B hpre hQ
    have hA := R.handled
    obtain ⟨hd', d', fr', gs', u'⟩ := A
    dsimp only at hA
    subst hA
  k_with "ENTER" =>
    case R => assumption
    case B => assumption
    case ho => k_is
    case hcd => k_is
    case hb => first | exact BindsTo.of_eq rfl | rfl
    case hl => first | exact locs rfl | (intro D; exact locs rfl)
    case c1 => rfl
    case c2 => rfl
    case c3 => rfl
    case c4 => decide
    intro L h₁ tk loose mean mg mb F N X T R
    (try dsimp only)
    k_fold
  k_with "INTROL" =>
    intro A s Q E R B hpre hQ
    have hA := R.handled
    obtain ⟨hd', d', fr', gs', u'⟩ := A
    dsimp only at hA
    subst hA
    obtain ⟨sh, sg, sd, stk, so⟩ := s
  k_with "ENTERA" =>
    case R => assumption
    case B => assumption
    case h0 => assumption
    case ho => k_is
    case hcd => k_is
    case hb => exact BindsTo.of_eq rfl
    case hl => exact locs rfl
    case c1 => rfl
    case c2 => rfl
    case c3 => rfl
    case c4 => decide
    intro H L h₁ tk loose mean mg mb hH F N l0 X T R env A1
    (try simp only [AllLt, and_true] at l0)
    k_fold
  k_with "ENTERC" =>
    case R => assumption
    case B => assumption
    case h0 => assumption
    case ho => k_is
    case hcd => k_is
    case hb => exact BindsTo.of_eq rfl
    case hkind => exact rfl
    case hnd => decide +kernel
    case c1 => rfl
    case c2 => rfl
    case c3 => rfl
    intro H L h₁ tk cells loose mean mg mb hH F N l0 Y X T R env A1
    (try simp only [AllLt, and_true] at l0)
  k_with "END" => ((try dsimp only); (rename Fr _ _ _ _ => F'); refine hQ _ _ _ (Fr.keep F') ?_; clear F')
  k_with "ENDA" => ((try dsimp only); (rename Fr _ _ _ _ => F'); (rename News _ _ _ _ => N'); subst hH; refine hQ _ _ _ (keepA F' N' hpre (by first | exact List.forall_mem_nil _ | (intro p hp; simp only [List.mem_cons, List.mem_nil_iff, or_false, List.not_mem_nil] at hp ⊢; first | assumption | (rcases hp with rfl | rfl | rfl <;> simp)))) ?_; clear F')
  k_with "call builtin:issubclass" => ((rename News _ _ _ _ => N'); refine' call_issub ?k1 ?_; (case k1 => exact (N' _ (by k_mem)).1); k_whole)
  k_with "ROOM" => ((case R => assumption); (case hk => decide); (case F => k_asm); (case N => k_asm); (case X => k_asm); (case T => k_asm); k_whole)
  k_with "call ref" => ((with_reducible show wpAny _ _ (call (Value.ref 94) _) _ _ _); (refine' Spec.useV (fspath_spec _ _ _) ?R ?hk ?F ?N ?X ?T ?_; walk_at "ROOM"; intro h' tk' F' N'; (try k_sweep)))
  k_with "call ref" => ((with_reducible show wpAny _ _ (call (Value.ref 108) _) _ _ _); (refine' Spec.useS (getsep_spec _ _ _) ?R ?hk ?F ?N ?X ?T ?_; walk_at "ROOM"; intro t' h' tk' F' N'; (try k_sweep)))
  exact ⟨rfl, rfl⟩

def getU (U : List (Str × Str)) (x : Str) : Option Str := (U.find? fun p => p.1 == x).map (·.2)
def RWX : Str := Str.ofString "rwx"
def SL : Str := Str.ofString "/"
def SL2 : Str := Str.ofString "//"
inductive Climb (U : List (Str × Str)) : Nat → Str → Str → Str → Prop
  | stop {way : Str} : Txt.startswith way (Str.ofString "/") = false → way.length ≤ 200 → Climb U 0 way (Str.ofString "rwx") way
  | step {n : Nat} {way up up' r : Str} : (up != Str.ofString "rwx") = true → getU U up = some up' → Txt.startswith way (Str.ofString "/") = false → way.length ≤ 200 → (up ++ Str.ofString "//").length ≤ 200 → Txt.endswith (up ++ Str.ofString "//") (Str.ofString "/") = true →
      (up ++ Str.ofString "//").length ≠ 0 → Climb U n (up ++ Str.ofString "//" ++ way) up' r → Climb U (n + 1) way up r
theorem look_tab (U : List (Str × Str)) (x : Str) : PySem.Spec.lookup (.str x) (tabD U) = (getU U x).map .str := by
  unfold getU tabD
  induction U with
  | nil => rfl
  | cons p U ih =>
    rw [List.map_cons, List.find?_cons]
    unfold PySem.Spec.lookup
    have e : PySem.Spec.same (.str p.1) (.str x) = (p.1 == x) := rfl
    rw [e, ih]
    cases (p.1 == x) <;> rfl
theorem itemU {prog : Program} {w : World} {A : Around} {E : Value → Shared → Prop} {s : Shared} {h₀ : Heap} {L D : Addr} {news : List (Addr × Obj)} {o : Obj} {U : List (Str × Str)} {x y : Str} {t : Tok} {Q : Value → Shared → Prop} {kvs : List (Str × Value)}
    (N : News h₀ L s.heap news) (hm : (D, o) ∈ news) (lo : (D == sysModules) = false) (hd : o.IsDictOf (strKind prog w) kvs) (hf : PyProof.V.FlatPairs PyData.str kvs (tabD U)) (hU : getU U x = some y) (h : ∀ t', Q (.str y t') { s with toks := s.toks + 1 }) :
    wpAny (model prog w) A (getItem (.ref D) (.str x t)) Q E s := by
  have e : PySem.Spec.lookup (.str x) (tabD U) = some (.str y) := by rw [look_tab, hU]; rfl
  refine getItem_tab PyProof.V.same_str (strKind_is _ _ _ _) (TabAt.ofNews N hm lo hd hf) e (fun v hv => ?_)
  obtain ⟨t', rfl⟩ := PyProof.V.Flat.str_inv hv
  exact h _
def WayInv (U : List (Str × Str)) (D : Addr) (o : Obj) (r : Str) (n : Nat) (m : Str → Option Value) (news : List (Addr × Obj)) : Prop :=
  news = [(D, o)] ∧ m (Str.ofString "uppers") = some (.ref D) ∧ ∃ way up t u, m (Str.ofString "way") = some (.str way t) ∧ m (Str.ofString "up") = some (.str up u) ∧ Climb U n way up r
theorem way_spec (w : World) (D : Addr) (o : Obj) (U : List (Str × Str)) (name up r : Str) (tn : Tok) (n : Nat) (hT : TabS w U o) (lo : (D == sysModules) = false) (hU : getU U name = some up) (hC : Climb U n name up r) (hr : Txt.startswith r (Str.ofString "/") = false) (hrl : r.length ≤ 200) :
    SpecA w 221 3 [.ref D, .str name tn] [(D, o)] (fun _ v _ => ∃ t, v = .str (Str.ofString "/" ++ r) t) := by
  obtain ⟨kvs, hd, hf⟩ := hT
  walk_at "INTROL"
  refine' enterAL (n := 2) (N0 := [(D, o)]) (binds := [(Str.ofString "uppers", .ref D), (Str.ofString "name", .str name tn)]) ?R ?B ?h0 ?ho ?hcd ?hb ?hl ?h ?c1 ?c2 ?c3 ?c4
  walk_at "ENTERA"
  k_steps
  (rename Fr _ _ _ _ => F2); (rename News _ _ _ _ => N2)
  refine itemU N2 (.head _) lo hd hf hU ?_
  intro t1
  k_with "eval Name" => ((rename Fr _ _ _ _ => kF); k_dflt (refine' ld kF ?k2 ?_; (case k2 => first | exact hm1 | exact hm2 | exact hm3 | exact (if_neg (by decide)).trans hm1 | exact (if_neg (by decide)).trans hm2 | exact (if_neg (by decide)).trans hm3 | exact if_pos rfl); k_whole))
  k_with "exec While Compare" => ((rename Fr _ _ _ _ => F3); (rename News _ _ _ _ => N3); refine While_inv (WayInv U D o r) F3 N3 ⟨rfl, rfl, name, up, tn, t1, rfl, rfl, hC⟩ ?_; clear F3 N3; intro n1 m1 news1 h1 tk1 F1 N1 J1; obtain ⟨hn, hm1, way, upp, tw, tu, hm2, hm3, hc⟩ := J1; subst hn)
  k_steps
  · cases hc with
    | stop a b => rename (_ != _) = true => q; exact absurd q (by decide)
    | step g1 g2 g3 g4 g5 g6 g7 g8 =>
      have gl : upp.length ≤ 200 := by simp only [Str.length_append] at g5; omega
      k_with "call ref" => ((with_reducible show wpAny _ _ (call (Value.ref 115) _) _ _ _); (refine' Spec.useS (join_spec w _ _ _ _ g5 g4 g3 g6 g7) ?R ?hk ?F ?N ?X ?T ?_; walk_at "ROOM"; intro t' h' tk' F' N'; (try k_sweep)))
      k_steps
      (rename News _ _ _ _ => N4)
      refine itemU N4 (.head _) lo hd hf g2 ?_
      intro t2
      k_steps
      (rename Fr _ _ _ _ => F5); (rename News _ _ _ _ => N5)
      exact ⟨rfl, _, _, _, _, _, rfl, F5, N5, Nat.lt_succ_self _, rfl, (if_neg (by decide)).trans ((if_neg (by decide)).trans hm1), _, _, _, _, (if_neg (by decide)).trans (if_pos rfl), if_pos rfl, g8⟩
  · cases hc with
    | step g1 => rename (_ != _) = false => q; rw [g1] at q; cases q
    | stop g1 g2 =>
      k_with "call ref" => ((with_reducible show wpAny _ _ (call (Value.ref 115) _) _ _ _); (refine' Spec.useS (join_spec w (Str.ofString "/") r _ _ (by decide +kernel) hrl hr (by decide +kernel) (by decide +kernel)) ?R ?hk ?F ?N ?X ?T ?_; walk_at "ROOM"; intro t' h' tk' F' N'; (try k_sweep)))
      k_steps
      (rename Fr _ _ _ _ => F'); (rename News _ _ _ _ => N')
      subst hH
      exact hQ _ _ _ (keepA F' N' hpre (fun p hp => hp)) ⟨_, rfl⟩
end Mine
end
section
open PySem PySem.W PyProof.Rows PySem.Calls
set_option maxRecDepth 100000
set_option maxHeartbeats 1000000
namespace Mine
theorem fillC22 (w : World) : Mine.hd.heap_39 w.params = Mine.hd.heap_39 w.params ∧ PySem.Challenge.rw_rt0043_01.prog = PySem.Challenge.rw_rt0043_01.prog := by
  k_with_none
  k_fill
  k_with "INTRO" =>
    intro A s Q E R B hpre hQ
    have hA := R.handled
    obtain ⟨hd', d', fr', gs', u'⟩ := A
    dsimp only at hA
    subst hA
  k_with "ENTER" =>
    case R => assumption
    case B => assumption
    case ho => k_is
    case hcd => k_is
    case hb => first | exact BindsTo.of_eq rfl | rfl
    case hl => first | exact locs rfl | (intro D; exact locs rfl)
    case c1 => rfl
    case c2 => rfl
    case c3 => rfl
    case c4 => decide
    intro L h₁ tk loose mean mg mb F N X T R
    (try dsimp only)
    k_fold
  k_with "INTROL" =>
    intro A s Q E R B hpre hQ
    have hA := R.handled
    obtain ⟨hd', d', fr', gs', u'⟩ := A
    dsimp only at hA
    subst hA
    obtain ⟨sh, sg, sd, stk, so⟩ := s
  k_with "ENTERA" =>
    case R => assumption
    case B => assumption
    case h0 => assumption
    case ho => k_is
    case hcd => k_is
    case hb => exact BindsTo.of_eq rfl
    case hl => exact locs rfl
    case c1 => rfl
    case c2 => rfl
    case c3 => rfl
    case c4 => decide
    intro H L h₁ tk loose mean mg mb hH F N l0 X T R env A1
    (try simp only [AllLt, and_true] at l0)
    k_fold
  k_with "ENTERC" =>
    case R => assumption
    case B => assumption
    case h0 => assumption
    case ho => k_is
    case hcd => k_is
    case hb => exact BindsTo.of_eq rfl
    case hkind => exact rfl
    case hnd => decide +kernel
    case c1 => rfl
    case c2 => rfl
    case c3 => rfl
    intro H L h₁ tk cells loose mean mg mb hH F N l0 Y X T R env A1
    (try simp only [AllLt, and_true] at l0)
  k_with "END" => ((try dsimp only); (rename Fr _ _ _ _ => F'); refine hQ _ _ _ (Fr.keep F') ?_; clear F')
  k_with "ENDA" => ((try dsimp only); (rename Fr _ _ _ _ => F'); (rename News _ _ _ _ => N'); subst hH; refine hQ _ _ _ (keepA F' N' hpre (by first | exact List.forall_mem_nil _ | (intro p hp; simp only [List.mem_cons, List.mem_nil_iff, or_false, List.not_mem_nil] at hp ⊢; first | assumption | (rcases hp with rfl | rfl | rfl <;> simp)))) ?_; clear F')
  k_with "call builtin:issubclass" => ((rename News _ _ _ _ => N'); refine' call_issub ?k1 ?_; (case k1 => exact (N' _ (by k_mem)).1); k_whole)
  k_with "ROOM" => ((case R => assumption); (case hk => decide); (case F => k_asm); (case N => k_asm); (case X => k_asm); (case T => k_asm); k_whole)
  k_with "call ref" => ((with_reducible show wpAny _ _ (call (Value.ref 94) _) _ _ _); (refine' Spec.useV (fspath_spec _ _ _) ?R ?hk ?F ?N ?X ?T ?_; walk_at "ROOM"; intro h' tk' F' N'; (try k_sweep)))
  k_with "call ref" => ((with_reducible show wpAny _ _ (call (Value.ref 108) _) _ _ _); (refine' Spec.useS (getsep_spec _ _ _) ?R ?hk ?F ?N ?X ?T ?_; walk_at "ROOM"; intro t' h' tk' F' N'; (try k_sweep)))
  exact ⟨rfl, rfl⟩

def QR : Str := Str.ofString "_law_stream.<locals>._law_read"
def tabFull (c1 c2 : Addr) : Obj := tabObj #[rawInt 147, rawInt 13, .ref c1, rawInt 150, rawInt 4, .ref c2]
def recObj (oc : Obj) (q : Str) : Prop := ∃ vs t, oc.data = .fields vs ∧ vs[1]? = some (.str q t)
theorem recObj.rec {oc : Obj} {q : Str} {h : Heap} {c : Addr} (r : recObj oc q) (e : h.get? c = some oc) : h.CodeRec (.ref c) q := by
  obtain ⟨vs, t, a, b⟩ := r
  exact ⟨c, oc, vs, t, rfl, e, a, b⟩
/-- what the stream's call gives -/
def StrmPost (w : World) (ks : List Int) (cs : List (Addr × Obj)) (h : Heap) (v : Value) (h' : Heap) : Prop :=
  ∃ (S D R Lst cA cO c1 c2 : Addr) (oS oD oR oL oA oO oc2 : Obj), v = .ref S ∧ (∀ p ∈ [(S, oS), (D, oD), (R, oR), (Lst, oL), (cA, oA), (cO, oO)], h.get? p.1 = none ∧ h'.get? p.1 = some p.2) ∧
    h'.get? 185 = some (tabFull c1 c2) ∧ h'.get? c2 = some oc2 ∧ ((cs = [] ∧ h.get? c2 = none) ∨ cs = [(c2, oc2)]) ∧ recObj oc2 QR ∧ Strm w S Lst c2 QR ks 0 D R cA cO oS oD oR oL oA oO
theorem strm_new {h h' : Heap} {L a : Addr} {o : Obj} {N0 news : List (Addr × Obj)} (N : News (hideAll h (N0.map (·.1))) L h' news) (h0 : ∀ p ∈ N0, p.1 ≠ a) (hm : (a, o) ∈ news) : h.get? a = none ∧ h'.get? a = some o := by
  obtain ⟨a', o', e, e1, e2, p⟩ := newA (P := fun o' => o' = o) N h0 hm rfl
  cases e
  exact ⟨e1, p ▸ e2⟩
theorem rdF_is {w : World} {qual : Str} {cl : List (Str × Addr)} {doc pm cd ct : Value} {fd : FuncData} {o : Obj} (e : (Mine.hd.heap_39 w.params).lookup 190 = some o) (h : rdOf o qual cl doc pm cd ct = some fd) : rdF w qual cl doc pm cd ct = some fd := by
  unfold rdF; rw [e]; exact h
theorem stream_spec0 (w : World) (b : Array UInt8) (t : Tok) : SpecC w 190 1 [.bytes b t] [(185, tabObj #[])] [185] (fun _ => True) (StrmPost w (KBw.bInts b) []) := by
  intro A s Q E R B h0 hpre hQ
  have hA' := R.handled
  obtain ⟨hd', d', fr', gs', u'⟩ := A
  dsimp only at hA'
  subst hA'
  obtain ⟨sh, sg, sd, stk, so⟩ := s
  refine' enterCAL (n := 0) (N0 := [(185, tabObj #[])]) (binds := [(Str.ofString "octets", .bytes b t)]) ?R ?B ?h0 ?ho ?hcd ?hb ?hkind ?hnd ?h ?c1 ?c2 ?c3
  walk_at "ENTERC"
  k_cells Y
  (try simp only [List.cons_append, List.nil_append] at N)
  show wpAny _ _ _ _ _ _
  k_fold
  have C : CodeHd H 189 185 := codeHd_of_K X (by kernel_rfl)
  k_with "setAttr ref ref" => ((rename Fr _ _ _ _ => F'); (rename News _ _ _ _ => N'); refine' setfn_K F' N' ?U ?_; (case U => k_updF); intro D' t' h' tk' F' N' l1; (try dsimp only at N'); (try k_lt l1); (try k_sweep))
  k_steps
  rename_i o1 o2 d1 d2 f1 c1 oc1 vs1 t1 ct1 h5 tk1 d3 d4 l2 l3 h4 l' h3 l4 h2 o3 d5 f2 c2 oc2 vs2 t2 ct2 dc2 h6 tk2 d6 d7 l5 l6 h7
  have hx : ∀ a o, 185 < a → (a, o) ∈ _ → _ := fun a o lt hm => strm_new (N0 := [(185, tabObj #[])]) (hH ▸ N') (fun p hp => by rw [List.mem_singleton.mp hp]; exact Nat.ne_of_lt lt) hm
  have keep : ∀ b o, b ∉ [185] → sh.get? b = some o → h'.get? b = some o := keepC (N0 := [(185, tabObj #[])]) (hH ▸ F') (hH ▸ N') h0 (fun p hp => .inl (by rw [List.mem_singleton.mp hp]; exact .head _))
  dsimp only
  have nS := hx f1 _ (by omega) (.tail _ (.tail _ (.tail _ (.tail _ (.head _)))))
  have nD := hx D' _ (by omega) (.head _)
  have nR := hx f2 _ (by omega) (.tail _ (.head _))
  have nL := hx l' _ (by omega) (.tail _ (.tail _ (.tail _ (.head _))))
  have nA := hx (L + 1 + 1) _ (by omega) (.tail _ (.tail _ (.tail _ (.tail _ (.tail _ (.tail _ (.head _)))))))
  have nO := hx (L + 1) _ (by omega) (.tail _ (.tail _ (.tail _ (.tail _ (.tail _ (.tail _ (.tail _ (.head _))))))))
  have nc := hx c2 _ (by omega) (.tail _ (.tail _ (.head _)))
  have n185 := (N' (185, _) (.tail _ (.tail _ (.tail _ (.tail _ (.tail _ (.tail _ (.tail _ (.tail _ (.head _)))))))))).1
  have q : ∀ {a b : Nat}, a < b → a ≠ b := fun h => Nat.ne_of_lt h
  have q' : ∀ {a b : Nat}, b < a → a ≠ b := fun h => Nat.ne_of_gt h
  refine hQ _ _ _ keep ⟨f1, D', f2, l', L + 1 + 1, L + 1, c1, c2, _, _, _, _, _, _, oc2, rfl, List.forall_mem_cons.mpr ⟨nS, List.forall_mem_cons.mpr ⟨nD, List.forall_mem_cons.mpr ⟨nR, List.forall_mem_cons.mpr ⟨nL, List.forall_mem_cons.mpr ⟨nA, List.forall_mem_cons.mpr ⟨nO, List.forall_mem_nil _⟩⟩⟩⟩⟩⟩, n185, nc.2, .inl ⟨rfl, nc.1⟩, ⟨vs2, t2, d6, d7⟩, ?_⟩
  exact { fS := ⟨_, rfl⟩, fD := ⟨_, _, _, rfl⟩, fR := ⟨dc2, _, ct2, _, rdF_is (by k_is) rfl, rfl⟩, fL := ⟨_, _, rfl⟩, fA := d5, fO := ⟨b, t, d2, rfl⟩, nS := q' (by omega), nD := q (by omega), nR := q (by omega), nA := q' (by omega), nO := q' (by omega), cS := q' (by omega), cD := q (by omega), cR := q (by omega), cL := q' (by omega), cA := q' (by omega), cO := q' (by omega) }
end Mine
end
section
open PySem PySem.W PyProof.Rows PySem.Calls
set_option maxRecDepth 100000
set_option maxHeartbeats 1000000
namespace Mine
theorem fillC23 (w : World) : Mine.hd.heap_39 w.params = Mine.hd.heap_39 w.params ∧ PySem.Challenge.rw_rt0043_01.prog = PySem.Challenge.rw_rt0043_01.prog := by
  k_with_none
  k_fill
  k_with "INTRO" =>
    intro A s Q E R B hpre hQ
    have hA := R.handled
    obtain ⟨hd', d', fr', gs', u'⟩ := A
    dsimp only at hA
    subst hA
  k_with "ENTER" =>
    case R => assumption
    case B => assumption
    case ho => k_is
    case hcd => k_is
    case hb => first | exact BindsTo.of_eq rfl | rfl
    case hl => first | exact locs rfl | (intro D; exact locs rfl)
    case c1 => rfl
    case c2 => rfl
    case c3 => rfl
    case c4 => decide
    intro L h₁ tk loose mean mg mb F N X T R
    (try dsimp only)
    k_fold
  k_with "INTROL" =>
    intro A s Q E R B hpre hQ
    have hA := R.handled
    obtain ⟨hd', d', fr', gs', u'⟩ := A
    dsimp only at hA
    subst hA
    obtain ⟨sh, sg, sd, stk, so⟩ := s
  k_with "ENTERA" =>
    case R => assumption
    case B => assumption
    case h0 => assumption
    case ho => k_is
    case hcd => k_is
    case hb => exact BindsTo.of_eq rfl
    case hl => exact locs rfl
    case c1 => rfl
    case c2 => rfl
    case c3 => rfl
    case c4 => decide
    intro H L h₁ tk loose mean mg mb hH F N l0 X T R env A1
    (try simp only [AllLt, and_true] at l0)
    k_fold
  k_with "ENTERC" =>
    case R => assumption
    case B => assumption
    case h0 => assumption
    case ho => k_is
    case hcd => k_is
    case hb => exact BindsTo.of_eq rfl
    case hkind => exact rfl
    case hnd => decide +kernel
    case c1 => rfl
    case c2 => rfl
    case c3 => rfl
    intro H L h₁ tk cells loose mean mg mb hH F N l0 Y X T R env A1
    (try simp only [AllLt, and_true] at l0)
  k_with "END" => ((try dsimp only); (rename Fr _ _ _ _ => F'); refine hQ _ _ _ (Fr.keep F') ?_; clear F')
  k_with "ENDA" => ((try dsimp only); (rename Fr _ _ _ _ => F'); (rename News _ _ _ _ => N'); subst hH; refine hQ _ _ _ (keepA F' N' hpre (by first | exact List.forall_mem_nil _ | (intro p hp; simp only [List.mem_cons, List.mem_nil_iff, or_false, List.not_mem_nil] at hp ⊢; first | assumption | (rcases hp with rfl | rfl | rfl <;> simp)))) ?_; clear F')
  k_with "call builtin:issubclass" => ((rename News _ _ _ _ => N'); refine' call_issub ?k1 ?_; (case k1 => exact (N' _ (by k_mem)).1); k_whole)
  k_with "ROOM" => ((case R => assumption); (case hk => decide); (case F => k_asm); (case N => k_asm); (case X => k_asm); (case T => k_asm); k_whole)
  k_with "call ref" => ((with_reducible show wpAny _ _ (call (Value.ref 94) _) _ _ _); (refine' Spec.useV (fspath_spec _ _ _) ?R ?hk ?F ?N ?X ?T ?_; walk_at "ROOM"; intro h' tk' F' N'; (try k_sweep)))
  k_with "call ref" => ((with_reducible show wpAny _ _ (call (Value.ref 108) _) _ _ _); (refine' Spec.useS (getsep_spec _ _ _) ?R ?hk ?F ?N ?X ?T ?_; walk_at "ROOM"; intro t' h' tk' F' N'; (try k_sweep)))
  exact ⟨rfl, rfl⟩

theorem stream_spec1 (w : World) (b : Array UInt8) (t : Tok) (c1 c2 : Addr) (oc2 : Obj) (hr : recObj oc2 QR) : SpecC w 190 1 [.bytes b t] [(185, tabFull c1 c2), (c2, oc2)] [185] (fun _ => True) (StrmPost w (KBw.bInts b) [(c2, oc2)]) := by
  intro A s Q E R B h0 hpre hQ
  have hA' := R.handled
  obtain ⟨hd', d', fr', gs', u'⟩ := A
  dsimp only at hA'
  subst hA'
  obtain ⟨sh, sg, sd, stk, so⟩ := s
  refine' enterCAL (n := 0) (N0 := [(185, tabFull c1 c2), (c2, oc2)]) (binds := [(Str.ofString "octets", .bytes b t)]) ?R ?B ?h0 ?ho ?hcd ?hb ?hkind ?hnd ?h ?c1 ?c2 ?c3
  walk_at "ENTERC"
  k_cells Y
  (try simp only [List.cons_append, List.nil_append] at N)
  show wpAny _ _ _ _ _ _
  k_fold
  unfold tabFull at N
  have C : CodeHd H 189 185 := codeHd_of_K X (by kernel_rfl)
  k_with "setAttr ref ref" => ((rename Fr _ _ _ _ => F'); (rename News _ _ _ _ => N'); refine' setfn_K F' N' ?U ?_; (case U => k_updF); intro D' t' h' tk' F' N' l1; (try dsimp only at N'); (try k_lt l1); (try k_sweep))
  k_steps
  rename_i o1 o2 d1 d2 f1 ct1 h5 tk1 l2 h4 l' h3 l4 h2 o3 d5 f2 ct2 dc2 h6 tk2 l5 h7
  have hx : ∀ (a : Nat) o, @LT.lt Nat _ 185 a → @LT.lt Nat _ c2 a → (a, o) ∈ _ → _ := fun a o lt lt2 hm => strm_new (N0 := [(185, tabFull c1 c2), (c2, oc2)]) (hH ▸ N') (List.forall_mem_cons.mpr ⟨Nat.ne_of_lt lt, List.forall_mem_cons.mpr ⟨Nat.ne_of_lt lt2, List.forall_mem_nil _⟩⟩) hm
  have keep : ∀ b o, b ∉ [185] → sh.get? b = some o → h'.get? b = some o := keepC (N0 := [(185, tabFull c1 c2), (c2, oc2)]) (hH ▸ F') (hH ▸ N') h0 (List.forall_mem_cons.mpr ⟨.inl (.head _), List.forall_mem_cons.mpr ⟨.inr (.tail _ (.tail _ (.tail _ (.tail _ (.tail _ (.tail _ (.tail _ (.head _)))))))), List.forall_mem_nil _⟩⟩)
  dsimp only
  have nS := hx f1 _ (by omega) (by omega) (.tail _ (.tail _ (.tail _ (.head _))))
  have nD := hx D' _ (by omega) (by omega) (.head _)
  have nR := hx f2 _ (by omega) (by omega) (.tail _ (.head _))
  have nL := hx l' _ (by omega) (by omega) (.tail _ (.tail _ (.head _)))
  have nA := hx (L + 1 + 1) _ (by omega) (by omega) (.tail _ (.tail _ (.tail _ (.tail _ (.head _)))))
  have nO := hx (L + 1) _ (by omega) (by omega) (.tail _ (.tail _ (.tail _ (.tail _ (.tail _ (.head _))))))
  have n185 := (N' (185, _) (.tail _ (.tail _ (.tail _ (.tail _ (.tail _ (.tail _ (.head _)))))))).1
  have nc := (N' (c2, _) (.tail _ (.tail _ (.tail _ (.tail _ (.tail _ (.tail _ (.tail _ (.head _))))))))).1
  have q : ∀ {a b : Nat}, a < b → a ≠ b := fun h => Nat.ne_of_lt h
  have q' : ∀ {a b : Nat}, b < a → a ≠ b := fun h => Nat.ne_of_gt h
  refine hQ _ _ _ keep ⟨f1, D', f2, l', L + 1 + 1, L + 1, c1, c2, _, _, _, _, _, _, oc2, rfl, List.forall_mem_cons.mpr ⟨nS, List.forall_mem_cons.mpr ⟨nD, List.forall_mem_cons.mpr ⟨nR, List.forall_mem_cons.mpr ⟨nL, List.forall_mem_cons.mpr ⟨nA, List.forall_mem_cons.mpr ⟨nO, List.forall_mem_nil _⟩⟩⟩⟩⟩⟩, n185, nc, .inr rfl, hr, ?_⟩
  exact { fS := ⟨_, rfl⟩, fD := ⟨_, _, _, rfl⟩, fR := ⟨dc2, _, ct2, _, rdF_is (by k_is) rfl, rfl⟩, fL := ⟨_, _, rfl⟩, fA := d5, fO := ⟨b, t, d2, rfl⟩, nS := q' (by omega), nD := q (by omega), nR := q (by omega), nA := q' (by omega), nO := q' (by omega), cS := q (by omega), cD := q (by omega), cR := q (by omega), cL := q (by omega), cA := q (by omega), cO := q (by omega) }
end Mine
end
section
open PySem PySem.W PyProof.Rows PySem.Calls LCg LCt PySem.SeqAt
set_option maxRecDepth 100000
set_option maxHeartbeats 1000000
namespace Mine
abbrev Pl := Str × Str × Str
def PlObj (o : Obj) (p : Pl) : Prop := ∃ t1 t2 t3, o = { cls := .type "tuple", data := .seq #[.str p.1 t1, .str p.2.1 t2, .str p.2.2 t3] }
section
variable {prog : Program} {w : World} {A : Around} {E : Value → Shared → Prop} {s : Shared} {h₀ : Heap} {L : Addr} {m : PySem.Str → Option Value} {env : Env} {news : List (Addr × Obj)}
/-- objects made one a turn, the newest first -/
def RelL (Rel : Nat → Addr → Obj → Prop) : Nat → List (Addr × Obj) → Prop
  | 0, tl => tl = []
  | n + 1, tl => ∃ T o r, tl = (T, o) :: r ∧ Rel n T o ∧ RelL Rel n r
theorem comp_objs {elt : PySem.Expr} {x : PySem.Str} {scope : Scope} {cl : List (PySem.Str × Addr)} {S : List (Addr × Obj) → Prop} {P : Nat → Value → Prop} {Fin : List Value → List (Addr × Obj) → Prop} {n : Nat} {news : List (Addr × Obj)} (Rel : Nat → Addr → Obj → Prop)
    (turn : ∀ i v ys tl I oI C oC D m₂ h tk (E' : Value → Shared → Prop), i < n → P i v → NsObj oC m₂ → m₂ x = some v → Fr h₀ L h m → News h₀ L h ((I, oI) :: (C, oC) :: (D, lst ys) :: (tl ++ news)) → Off3 I C D (tl ++ news) →
      wpAny (model prog w) A (eval elt (compEnvC scope cl C env)) (CompEnd h₀ L m { s with heap := h, toks := tk } I oI C oC D (lst ys) S (fun y news' => ∃ T o, y = .ref T ∧ news' = (T, o) :: (tl ++ news) ∧ Rel i T o)) E' { s with heap := h, toks := tk })
    (fin : ∀ tl, RelL Rel n tl → Fin (tl.reverse.map fun p => .ref p.1) (tl ++ news)) : CompRest prog w A h₀ L m env elt x scope cl s S P Fin n 0 [] news := by
  have key : ∀ (j i : Nat) (tl : List (Addr × Obj)), i + j = n → RelL Rel i tl → CompRest prog w A h₀ L m env elt x scope cl s S P Fin j i (tl.reverse.map fun p => .ref p.1) (tl ++ news) := by
    intro j
    induction j with
    | zero =>
      intro i tl hi hy
      have e : i = n := by omega
      subst e
      exact CompRest.zero (fin tl hy)
    | succ j ih =>
      intro i tl hi hy
      refine CompRest.succ ?_
      intro v I oI C oC D m₂ h tk E' hv hC hx F N off ne
      refine wpAny_mono (turn i v _ tl I oI C oC D m₂ h tk E' (by omega) hv hC hx F N off) (fun y s₂ hq => ?_) fun _ _ e => e
      obtain ⟨h', tk', nw, e, F', N', off', hS, T, o, rfl, rfl, hr⟩ := hq
      refine ⟨h', tk', _, e, F', N', off', hS, ?_⟩
      have q := ih (i + 1) ((T, o) :: tl) (by omega) ⟨T, o, tl, rfl, hr, hy⟩
      rw [List.reverse_cons, List.map_append] at q
      exact q
  exact key n 0 [] (by omega) rfl
/-- a comprehension with a test over items with data: those that pass -/
theorem comp_filterZ {α : Type} {ct elt : PySem.Expr} {x : PySem.Str} {scope : Scope} {cl : List (PySem.Str × Addr)} {S : List (Addr × Obj) → Prop} {Fin : List Value → List (Addr × Obj) → Prop} {news : List (Addr × Obj)} (zs : List (Value × α)) (p : α → Bool)
    (turn : ∀ z ys I oI C oC D m₂ h tk (E' : Value → Shared → Prop), z ∈ zs → NsObj oC m₂ → m₂ x = some z.1 → Fr h₀ L h m → News h₀ L h ((I, oI) :: (C, oC) :: (D, lst ys) :: news) → Off3 I C D news → ((@Ne Nat I C) ∧ (@Ne Nat I D) ∧ (@Ne Nat C D)) →
      wpAny (model prog w) A (isTrue ct (compEnvC scope cl C env) (eval ct (compEnvC scope cl C env))) (fun ok s' => if ok = true then
        wpAny (model prog w) A (eval elt (compEnvC scope cl C env)) (CompEnd h₀ L m { s with heap := h, toks := tk } I oI C oC D (lst ys) S (fun y news' => news' = news ∧ y = z.1 ∧ p z.2 = true)) E' s'
        else CompEnd h₀ L m { s with heap := h, toks := tk } I oI C oC D (lst ys) S (fun _ news' => news' = news ∧ p z.2 = false) Value.none s') E' { s with heap := h, toks := tk })
    (fin : Fin ((zs.filter fun z => p z.2).map (·.1)) news) : CompRestT prog w A h₀ L m env ct elt x scope cl s S (fun i v => (zs.map (·.1)).toArray[i]? = some v) Fin (zs.map (·.1)).toArray.size 0 [] news := by
  have hsz : (zs.map (·.1)).toArray.size = zs.length := by simp
  have key : ∀ (j i : Nat) (ys : List Value), i + j = zs.length → ys = ((zs.take i).filter fun z => p z.2).map (·.1) → CompRestT prog w A h₀ L m env ct elt x scope cl s S (fun i v => (zs.map (·.1)).toArray[i]? = some v) Fin j i ys news := by
    intro j
    induction j with
    | zero =>
      intro i ys hi hy
      have e : zs.take i = zs := List.take_of_length_le (by omega)
      rw [e] at hy
      subst hy
      exact CompRestT.zero fin
    | succ j ih =>
      intro i ys hi hy
      refine CompRestT.succ ?_
      intro v I oI C oC D m₂ h tk E' hv hC hx F N off ne
      have hlt : i < zs.length := by omega
      have hz : zs[i]? = some zs[i] := List.getElem?_eq_getElem hlt
      have hv' : v = zs[i].1 := by
        have e : (zs.map (·.1)).toArray[i]? = some zs[i].1 := by simp [hlt]
        exact (Option.some.inj (e.symm.trans hv)).symm
      subst hv'
      have hs : ((zs.take (i + 1)).filter fun z => p z.2).map (·.1) = ys ++ (if p zs[i].2 then [zs[i].1] else []) := by
        rw [List.take_succ, hz, List.filter_append, List.map_append, ← hy]
        simp only [Option.toList_some, List.filter_cons, List.filter_nil]
        cases p zs[i].2 <;> rfl
      refine wpAny_mono (turn zs[i] ys I oI C oC D m₂ h tk E' (List.getElem_mem hlt) hC hx F N off ne) (fun ok s' hq => ?_) fun _ _ e => e
      cases ok with
      | true =>
        simp only [if_true] at hq ⊢
        refine wpAny_mono hq (fun y s₂ hq => ?_) fun _ _ e => e
        obtain ⟨h', tk', nw, e, F', N', off', hS, rfl, rfl, hp⟩ := hq
        rw [hp] at hs
        exact ⟨h', tk', _, e, F', N', off', hS, ih (i + 1) _ (by omega) hs.symm⟩
      | false =>
        simp only [Bool.false_eq_true, if_false] at hq ⊢
        obtain ⟨h', tk', nw, e, F', N', off', hS, rfl, hp⟩ := hq
        rw [hp] at hs
        exact ⟨h', tk', _, e, F', N', off', hS, ih (i + 1) _ (by omega) (by rw [hs]; simp)⟩
  rw [hsz]
  exact key zs.length 0 [] (by omega) (by simp)
/-- a comprehension over items with data, each gives a text -/
theorem comp_strsZ {α : Type} {elt : PySem.Expr} {x : PySem.Str} {scope : Scope} {cl : List (PySem.Str × Addr)} {S : List (Addr × Obj) → Prop} {Fin : List Value → List (Addr × Obj) → Prop} {news : List (Addr × Obj)} (zs : List (Value × α)) (g : α → PySem.Str)
    (turn : ∀ z ys I oI C oC D m₂ h tk (E' : Value → Shared → Prop), z ∈ zs → NsObj oC m₂ → m₂ x = some z.1 → Fr h₀ L h m → News h₀ L h ((I, oI) :: (C, oC) :: (D, lst ys) :: news) → Off3 I C D news →
      wpAny (model prog w) A (eval elt (compEnvC scope cl C env)) (CompEnd h₀ L m { s with heap := h, toks := tk } I oI C oC D (lst ys) S (fun y news' => news' = news ∧ ∃ t, y = .str (g z.2) t)) E' { s with heap := h, toks := tk })
    (fin : ∀ ys, StrsAre ys (zs.map fun z => g z.2) → Fin ys news) : CompRest prog w A h₀ L m env elt x scope cl s S (fun i v => (zs.map (·.1)).toArray[i]? = some v) Fin (zs.map (·.1)).toArray.size 0 [] news := by
  have hsz : (zs.map (·.1)).toArray.size = zs.length := by simp
  have key : ∀ (j i : Nat) (ys : List Value), i + j = zs.length → StrsAre ys ((zs.take i).map fun z => g z.2) → CompRest prog w A h₀ L m env elt x scope cl s S (fun i v => (zs.map (·.1)).toArray[i]? = some v) Fin j i ys news := by
    intro j
    induction j with
    | zero =>
      intro i ys hi hy
      have e : zs.take i = zs := List.take_of_length_le (by omega)
      rw [e] at hy
      exact CompRest.zero (fin ys hy)
    | succ j ih =>
      intro i ys hi hy
      refine CompRest.succ ?_
      intro v I oI C oC D m₂ h tk E' hv hC hx F N off ne
      have hlt : i < zs.length := by omega
      have hz : zs[i]? = some zs[i] := List.getElem?_eq_getElem hlt
      have hv' : v = zs[i].1 := by
        have e : (zs.map (·.1)).toArray[i]? = some zs[i].1 := by simp [hlt]
        exact (Option.some.inj (e.symm.trans hv)).symm
      subst hv'
      refine wpAny_mono (turn zs[i] ys I oI C oC D m₂ h tk E' (List.getElem_mem hlt) hC hx F N off) (fun y s₂ hq => ?_) fun _ _ e => e
      obtain ⟨h', tk', nw, e, F', N', off', hS, rfl, t', rfl⟩ := hq
      refine ⟨h', tk', _, e, F', N', off', hS, ih (i + 1) _ (by omega) ?_⟩
      rw [List.take_succ, hz, List.map_append]
      exact strs_snoc hy _ _
  rw [hsz]
  exact key zs.length 0 [] (by omega) .nil
end
section
variable {prog : Program} {w : World} {A : Around} {E : Value → Shared → Prop} {s : Shared} {h₀ : Heap} {L D : Addr} {m : Str → Option Value} {news : List (Addr × Obj)}
/-- an item of a place -/
theorem pl_item {value slice : PySem.Expr} {T : Addr} {o : Obj} {p : Pl} {k : Int} {u : Tok} {Q : Value → Shared → Prop} (N : News h₀ L s.heap news) (hm : (T, o) ∈ news) (ho : PlObj o p) (h0 : 0 ≤ k) (h1 : k < 3) (h : ∀ t, Q (.str ([p.1, p.2.1, p.2.2].getD k.toNat PySem.Str.empty) t) s)
    (hs : subscripted slice false (.ref T) (.int k u) = operate [.ref T, .int k u] (getItem (.ref T) (.int k u)) := by with_unfolding_all rfl) :
    wpAny (model prog w) A (subscriptTail value slice (.ref T) (.int k u)) Q E s := by
  obtain ⟨t1, t2, t3, rfl⟩ := ho
  refine KTb.item_tup (vs := [.str p.1 t1, .str p.2.1 t2, .str p.2.2 t3]) (ws := [p.1, p.2.1, p.2.2]) ⟨_, (N _ hm).1, rfl, _, rfl⟩ (.cons _ _ (.cons _ _ (.cons _ _ .nil))) h0 h1 (by omega) (fun t' _ => h t') hs
/-- two places with other names are not equal -/
theorem pl_ne {T T' : Addr} {o o' : Obj} {p p' : Pl} (e1 : s.heap.get? T = some o) (e2 : s.heap.get? T' = some o') (h1 : PlObj o p) (h2 : PlObj o' p') (hne : p.1 ≠ p'.1) (hu : A.units < cLine) : EqAt A s (.ref T) (.ref T') false := by
  obtain ⟨a1, a2, a3, rfl⟩ := h1
  obtain ⟨b1, b2, b3, rfl⟩ := h2
  have hT : T ≠ T' := fun e => by
    rw [e, e2] at e1
    have e1 := congrArg Obj.data (Option.some.inj e1)
    have e1 : #[Value.str p'.1 b1, .str p'.2.1 b2, .str p'.2.2 b3] = #[Value.str p.1 a1, .str p.2.1 a2, .str p.2.2 a3] := by injection e1
    have e1 := congrArg (fun z => z[0]?) e1
    simp only [List.getElem?_toArray, List.getElem?_cons_zero, Option.some.injEq, Value.str.injEq] at e1
    exact hne e1.1.symm
  refine EqAt.of_refs hT ?_
  have q := RcAt.tuples (A := A) (s := s) (items := #[Value.str p.1 a1, .str p.2.1 a2, .str p.2.2 a3]) (items2 := #[Value.str p'.1 b1, .str p'.2.1 b2, .str p'.2.2 b3])
    (e := fun j => match j with | 0 => p.1 == p'.1 | 1 => p.2.1 == p'.2.1 | _ => p.2.2 == p'.2.2) ⟨_, e1, rfl, _, rfl⟩ ⟨_, e2, rfl, _, rfl⟩ hu (fun j j1 j2 => by
      match j with
      | 0 => exact EqAt.str_str _ _ _ _
      | 1 => exact EqAt.str_str _ _ _ _
      | 2 => exact EqAt.str_str _ _ _ _
      | n + 3 => exact absurd j1 (by simp))
  have e0 : ((List.range (min (#[Value.str p.1 a1, .str p.2.1 a2, .str p.2.2 a3] : Array Value).size (#[Value.str p'.1 b1, .str p'.2.1 b2, .str p'.2.2 b3] : Array Value).size)).all fun j => match j with | 0 => p.1 == p'.1 | 1 => p.2.1 == p'.2.1 | _ => p.2.2 == p'.2.2) = false := by
    have hb : (p.1 == p'.1) = false := beq_eq_false_iff_ne.mpr hne
    show ((p.1 == p'.1) && _) = false
    rw [hb]; rfl
  rw [e0] at q
  exact q
end
end Mine
end
section
open PySem PySem.W PyProof.Rows PySem.Calls LCg LCt PySem.SeqAt
open AutoSeq1 (wpAny_loadPart')
open MeetsSeq MeetsSeq2 MeetsSeq3 SeqRoads2
set_option maxRecDepth 100000
set_option maxHeartbeats 1000000
namespace Mine
theorem remove_loopAt (l : Addr) (items : Array Value) (n : Nat) (x : Value) (j : Nat) (hj : j < items.size) (k : Nat) (hs1 : items.size ≤ sizeLine) :
    ∀ i : Nat, j - i = k → i ≤ j → Meets (Builtin.«list.remove.loop» ⟨[.ref l, x, rawInt i], []⟩)
      (fun A R s => s.heap.get? l = some { cls := .type "list", dict := none, data := .seq items n, slots := #[] } ∧ EqAt A.in1 s items[j] x true ∧ (∀ m (hm : m < items.size), i ≤ m → m < j → EqAt A.in1 s items[m] x false) ∧ R (.ok (.ret .none)) { s with heap := s.heap.update l (Obj.mapSeq fun xs => xs.eraseIdxIfInBounds j) }) := by
  induction k with
  | zero =>
    intro i hk hij prog w A R s h
    obtain ⟨hp, g, d, tk, os⟩ := s; obtain ⟨hl, he, hno, h⟩ := h
    have hij' : i = j := by omega
    subst hij'
    wp_walk using wpAny_loadPart' hl
    have hi : items[((i : Nat) : Int).toNat]? = some items[i] := by simp [hj]
    rw [hi]
    refine wpAny_bind (he prog w _ _ ?_)
    have hz' : (items.eraseIdxIfInBounds i).size ≤ sizeLine + 1 := Nat.le_trans (size_erased items _) (Nat.le_succ_of_le hs1)
    wp_walk using (wpAny_updateSeq hl rfl (hz := hs1) (_hz' := hz')), wpAny_loadPart' hl
    simpa using h
  | succ k ih =>
    intro i hk hij prog w A R s h
    obtain ⟨hp, g, d, tk, os⟩ := s; obtain ⟨hl, he, hno, h⟩ := h
    have hlt : i < items.size := by omega
    wp_walk using wpAny_loadPart' hl
    have hi : items[((i : Nat) : Int).toNat]? = some items[i] := by simp [hlt]
    have hc : ((i : Int) + 1) = ((i + 1 : Nat) : Int) := by push_cast; rfl
    rw [hi]
    refine wpAny_bind (hno i hlt (Nat.le_refl _) (by omega) prog w _ _ ?_)
    wp_walk
    rw [hc]
    exact ⟨plainId_quiet plain_remove_loop _, codeAny_builtin entry_remove_loop (by
      rw [Around.under_plainId plain_remove_loop _]
      exact ih (i + 1) (by omega) (by omega) prog w A R _ ⟨hl, he, fun m hm h1 h2 => hno m hm (by omega) h2, h⟩)⟩
theorem list_removeAt (l : Addr) (items : Array Value) (n : Nat) (x : Value) (j : Nat) (hj : j < items.size) (hs1 : items.size ≤ sizeLine) :
    Meets (Builtin.«list.remove» ⟨[.ref l, x], []⟩)
      (fun A R s => s.heap.get? l = some { cls := .type "list", dict := none, data := .seq items n, slots := #[] } ∧ EqAt A.in1 s items[j] x true ∧ (∀ m (hm : m < items.size), m < j → EqAt A.in1 s items[m] x false) ∧ R (.ok (.ret .none)) { s with heap := s.heap.update l (Obj.mapSeq fun xs => xs.eraseIdxIfInBounds j) }) := by
  intro prog w A R s h
  obtain ⟨hp, g, d, tk, os⟩ := s; obtain ⟨hl, he, hno, h⟩ := h
  wp_walk using wpAny_loadPart' hl
  exact ⟨plainId_quiet plain_remove_loop _, codeAny_builtin entry_remove_loop (by
    rw [Around.under_plainId plain_remove_loop _]
    exact remove_loopAt l items n x j hj _ hs1 0 rfl (Nat.zero_le _) prog w A R _ ⟨hl, he, fun m hm _ h2 => hno m hm h2, h⟩)⟩
section
variable {prog : Program} {w : World} {A : Around} {E : Value → Shared → Prop} {s : Shared} {h₀ : Heap} {L D : Addr} {m : Str → Option Value} {news : List (Addr × Obj)} {g : Obj → List (Addr × Obj)} {its : Array Value} {n : Nat}
/-- xs.remove(x): the first that equals x goes; what equals what is told at the heap -/
theorem remove_At {x : Value} {Q : Value → Shared → Prop} (j : Nat) (hj : j < its.toList.length) (hit : EqAt A.in1 s its.toList[j] x true) (hno : ∀ i (hi : i < its.toList.length), i < j → EqAt A.in1 s its.toList[i] x false)
    (F : Fr h₀ L s.heap m) (N : News h₀ L s.heap news) (U : UpdF D (listOf its n) news g) (hz : its.toList.length ≤ sizeLine)
    (h : ∀ h', Fr h₀ L h' m → News h₀ L h' (g (listOf (its.toList.eraseIdx j).toArray (n + 1))) → Q .none { s with heap := h' }) : wpAny (model prog w) A (call (.builtin "list.remove") [.ref D, x]) Q E s := by
  obtain ⟨pre, post, rfl, hg, a', b'⟩ := U.split
  rw [hg] at h
  have z := N (D, listOf its n) (List.mem_append.mpr (.inr (.head _)))
  have hs : its.toList.length = its.size := Array.length_toList
  refine call_meets PySem.F.slot_list_remove ⟨_, z.1, rfl⟩ PySem.F.entry_list_remove (PySem.F.args_list_remove_2 _ _)
    (list_removeAt D its n x j (by omega) (by omega))
    ⟨z.1, by rw [Array.getElem_toList] at hit; exact hit, fun i hi hlt => by have q := hno i (by omega) hlt; rw [Array.getElem_toList] at q; exact q, h _ (F.change (Heap.SameBut.update ..) z.2.1 z.2.2) (ki_turn _ N a' b' ?_ ?_)⟩
  · apply Array.toList_inj.mp
    simp [Array.toList_eraseIdxIfInBounds]
  · have hq : (its.toList.eraseIdx j).toArray.size ≠ its.size := by rw [List.size_toArray, List.length_eraseIdx_of_lt (by omega)]; omega
    rw [if_neg (by simpa using hq)]
end
theorem kas7 {cmp : Nat → Nat → (Bool → Shared → Prop) → Shared → Prop} {Q : Array Nat → Shared → Prop} {s : Shared} (h : ∀ i j C, j < i → i < 7 → C false s → cmp i j C s) (hq : Q #[0, 1, 2, 3, 4, 5, 6] s) : (kas_sort 7).kasWp cmp Q s := by
  iterate 6 (with_unfolding_all (refine h _ _ _ (by decide) (by decide) ?_))
  with_unfolding_all exact hq
section
variable {prog : Program} {w : World} {A : Around} {E : Value → Shared → Prop} {s : Shared} {h₀ : Heap} {L D : Addr} {m : Str → Option Value} {news : List (Addr × Obj)}
theorem pl_lt {T T' : Addr} {o o' : Obj} {p p' : Pl} {Q : Bool → Shared → Prop} (e1 : s.heap.get? T = some o) (e2 : s.heap.get? T' = some o') (h1 : PlObj o p) (h2 : PlObj o' p') (hne : p.1 ≠ p'.1) (hlt : ¬ p.1.cps.toList < p'.1.cps.toList) (h : Q false s) :
    wpAny (model prog w) A (keyLt' (tuples' true) (.ref T) (.ref T')) Q E s := by
  obtain ⟨a1, a2, a3, rfl⟩ := h1
  obtain ⟨b1, b2, b3, rfl⟩ := h2
  refine kat_lt e1 rfl e2 rfl ?_
  refine kat_cons (wpAny_eqBool_str ?_)
  rw [decide_eq_false hne]
  refine kat_no ?_
  show wpAny _ _ (oneLt' true _ _) _ _ _
  refine oneLt_str ?_
  rw [decide_eq_false hlt]
  exact h
def PlsAt (news : List (Addr × Obj)) (zs : List (Value × Pl)) : Prop := ∀ z ∈ zs, ∃ T o, z.1 = .ref T ∧ (T, o) ∈ news ∧ PlObj o z.2
theorem pls_firsts {h : Heap} : ∀ {zs : List (Value × Pl)}, PlsAt news zs → News h₀ L h news → ∃ fs, KatTups h (zs.map (·.1)) fs ∧ fs.length = zs.length ∧ ∀ f ∈ fs, ∃ x t, f = Value.str x t
  | [], _, _ => ⟨[], .nil, rfl, fun _ h => nomatch h⟩
  | z :: zs, hz, N => by
    obtain ⟨fs, k, l, a⟩ := pls_firsts (zs := zs) (fun z h => hz z (.tail _ h)) N
    obtain ⟨T, o, e, hm, t1, t2, t3, rfl⟩ := hz z (.head _)
    refine ⟨.str z.2.1 t1 :: fs, ?_, congrArg (· + 1) l, fun f hf => ?_⟩
    · rw [List.map_cons, e]
      exact .cons (N _ hm).1 rfl rfl rfl k
    · rcases List.mem_cons.mp hf with rfl | hf
      · exact ⟨_, _, rfl⟩
      · exact a f hf
/-- seven places, ascending by name, are sorted as they stand -/
theorem sorted_pls {l : Addr} {zs : List (Value × Pl)} {Q : Value → Shared → Prop} (h7 : zs.length = 7) (F : Fr h₀ L s.heap m) (N : News h₀ L s.heap news) (hl : s.heap.IsList l (zs.map (·.1)).toArray) (hz : PlsAt news zs)
    (hasc : ∀ i j (hi : i < zs.length) (hj : j < zs.length), j < i → (zs[i].2.1 ≠ zs[j].2.1) ∧ ¬ zs[i].2.1.cps.toList < zs[j].2.1.cps.toList)
    (h : ∀ D e h', Fr h₀ L h' m → News h₀ L h' ((D, listOf (zs.map (·.1)).toArray e) :: news) → (∀ q ∈ news, q.1 < D) → Q (.ref D) { s with heap := h' }) :
    wpAny (model prog w) A (call (.builtin "sorted") [.ref l]) Q E s := by
  have hl7 : (zs.map (·.1)).length = 7 := by rw [List.length_map, h7]
  refine kat_sorted F N hl (by omega) (by omega) fun D e1 h' F' N' lt => ?_
  have N0 : News h₀ L h' news := fun p hp => N' p (.tail _ hp)
  obtain ⟨fs, k, lf, af⟩ := pls_firsts hz N0
  refine kat_kind (T := .type "str") k (by omega) (fun v hv => ?_) (by decide) ?_
  · obtain ⟨x, t, rfl⟩ := af v hv
    exact Looks.of_pure rfl
  · rw [hl7]
    refine kas7 (fun i j C hij hi hC => ?_) ?_
    · have hi' : i < zs.length := by omega
      have hj' : j < zs.length := by omega
      obtain ⟨T, o, eT, hm, ho⟩ := hz zs[i] (List.getElem_mem hi')
      obtain ⟨T', o', eT', hm', ho'⟩ := hz zs[j] (List.getElem_mem hj')
      unfold kas_ask
      have g1 : (zs.map (·.1)).getD i Value.none = .ref T := by rw [List.getD_eq_getElem?_getD, List.getElem?_map, List.getElem?_eq_getElem hi']; exact eT
      have g2 : (zs.map (·.1)).getD j Value.none = .ref T' := by rw [List.getD_eq_getElem?_getD, List.getElem?_map, List.getElem?_eq_getElem hj']; exact eT'
      rw [g1, g2]
      exact pl_lt (N0 _ hm).1 (N0 _ hm').1 ho ho' (hasc i j hi' hj' hij).1 (hasc i j hi' hj' hij).2 hC
    · have e : (#[0, 1, 2, 3, 4, 5, 6].toList.map fun i => (zs.map (·.1)).getD i Value.none) = zs.map (·.1) := by
        match zs, h7 with
        | [_, _, _, _, _, _, _], _ => rfl
      rw [e]
      refine KasFin.intro F' N' (.head (fun p hp => Nat.ne_of_lt (lt p hp))) fun h'' c F'' N'' => h D c h'' F'' N'' lt
end
end Mine
end
section
open PySem PySem.W PyProof.Rows PySem.Calls LCg LCt PySem.SeqAt
set_option maxRecDepth 100000
set_option maxHeartbeats 4000000
namespace Mine
theorem fillC26 (w : World) : Mine.hd.heap_39 w.params = Mine.hd.heap_39 w.params ∧ PySem.Challenge.rw_rt0043_01.prog = PySem.Challenge.rw_rt0043_01.prog := by
  k_with_none
  k_fill
  k_with "INTRO" =>
    intro A s Q E R B hpre hQ
    have hA := R.handled
    obtain ⟨hd', d', fr', gs', u'⟩ := A
    dsimp only at hA
    subst hA
  k_with "ENTER" =>
    case R => assumption
    case B => assumption
    case ho => k_is
    case hcd => k_is
    case hb => first | exact BindsTo.of_eq rfl | rfl
    case hl => first | exact locs rfl | (intro D; exact locs rfl)
    case c1 => rfl
    case c2 => rfl
    case c3 => rfl
    case c4 => decide
    intro L h₁ tk loose mean mg mb F N X T R
    (try dsimp only)
    k_fold
  k_with "INTROL" =>
    intro A s Q E R B hpre hQ
    have hA := R.handled
    obtain ⟨hd', d', fr', gs', u'⟩ := A
    dsimp only at hA
    subst hA
    obtain ⟨sh, sg, sd, stk, so⟩ := s
  k_with "ENTERA" =>
    case R => assumption
    case B => assumption
    case h0 => assumption
    case ho => k_is
    case hcd => k_is
    case hb => exact BindsTo.of_eq rfl
    case hl => exact locs rfl
    case c1 => rfl
    case c2 => rfl
    case c3 => rfl
    case c4 => decide
    intro H L h₁ tk loose mean mg mb hH F N l0 X T R env A1
    (try simp only [AllLt, and_true] at l0)
    k_fold
  k_with "ENTERC" =>
    case R => assumption
    case B => assumption
    case h0 => assumption
    case ho => k_is
    case hcd => k_is
    case hb => exact BindsTo.of_eq rfl
    case hkind => exact rfl
    case hnd => decide +kernel
    case c1 => rfl
    case c2 => rfl
    case c3 => rfl
    intro H L h₁ tk cells loose mean mg mb hH F N l0 Y X T R env A1
    (try simp only [AllLt, and_true] at l0)
  k_with "END" => ((try dsimp only); (rename Fr _ _ _ _ => F'); refine hQ _ _ _ (Fr.keep F') ?_; clear F')
  k_with "ENDA" => ((try dsimp only); (rename Fr _ _ _ _ => F'); (rename News _ _ _ _ => N'); subst hH; refine hQ _ _ _ (keepA F' N' hpre (by first | exact List.forall_mem_nil _ | (intro p hp; simp only [List.mem_cons, List.mem_nil_iff, or_false, List.not_mem_nil] at hp ⊢; first | assumption | (rcases hp with rfl | rfl | rfl <;> simp)))) ?_; clear F')
  k_with "call builtin:issubclass" => ((rename News _ _ _ _ => N'); refine' call_issub ?k1 ?_; (case k1 => exact (N' _ (by k_mem)).1); k_whole)
  k_with "ROOM" => ((case R => assumption); (case hk => decide); (case F => k_asm); (case N => k_asm); (case X => k_asm); (case T => k_asm); k_whole)
  k_with "call ref" => ((with_reducible show wpAny _ _ (call (Value.ref 94) _) _ _ _); (refine' Spec.useV (fspath_spec _ _ _) ?R ?hk ?F ?N ?X ?T ?_; walk_at "ROOM"; intro h' tk' F' N'; (try k_sweep)))
  k_with "call ref" => ((with_reducible show wpAny _ _ (call (Value.ref 108) _) _ _ _); (refine' Spec.useS (getsep_spec _ _ _) ?R ?hk ?F ?N ?X ?T ?_; walk_at "ROOM"; intro t' h' tk' F' N'; (try k_sweep)))
  exact ⟨rfl, rfl⟩

theorem bn_spec (w : World) (x n : Str) (t : Tok) (hx : x.length ≤ 200) (h : bn x = n) : SpecS w 122 2 [.str x t] n := h ▸ basename_spec w x t hx
def plOf (x : Str) : Pl := (bn x, x, dn x)
def bareP (R : List Pl) (p : Pl) : Bool := !((R.map (·.2.2)).any (· == p.2.1))
def tellOf (p : Pl) : Str := if (bn p.2.2).length = 0 then Str.ofString "rwx" else bn p.2.2
def bareOf (R : List Pl) : Pl := (R.find? (bareP R)).getD (Str.ofString "", Str.ofString "", Str.ofString "")
def toldSt (ws : List Str) : Nat → List Pl × List Str
  | 0 => (ws.map plOf, [])
  | k + 1 => ((toldSt ws k).1.eraseP (bareP (toldSt ws k).1), (toldSt ws k).2 ++ [tellOf (bareOf (toldSt ws k).1)])
structure WaysOk (ws : List Str) : Prop where
  w7 : ws.length = 7
  small : ∀ x ∈ ws, x.length ≤ 200
  smallD : ∀ x ∈ ws, (dn x).length ≤ 200
  smallB : ∀ x ∈ ws, (bn (dn x)).length ≤ 200
  base : ws.map bn = NMS.take 7
  found : ∀ k < 6, ((toldSt ws k).1.find? (bareP (toldSt ws k).1)).isSome = true
theorem allLt_mem {D : Addr} : ∀ {l : List (Addr × Obj)}, AllLt D l → ∀ p ∈ l, @LT.lt Nat _ p.1 D
  | [], _, _, h => nomatch h
  | _ :: _, x, p, h => by
    rcases List.mem_cons.mp h with rfl | h
    · exact x.1
    · exact allLt_mem x.2 p h
theorem news_rot {h₀ h : Heap} {L : Addr} {a b c d : Addr × Obj} {r : List (Addr × Obj)} (N : News h₀ L h (d :: a :: b :: c :: r)) : News h₀ L h (a :: b :: c :: d :: r) := fun p hp => N p (by
  simp only [List.mem_cons] at hp ⊢
  rcases hp with h | h | h | h | h
  · exact .inr (.inl h)
  · exact .inr (.inr (.inl h))
  · exact .inr (.inr (.inr (.inl h)))
  · exact .inl h
  · exact .inr (.inr (.inr (.inr h))))
theorem ws7 {ws : List Str} {x0 x1 x2 x3 x4 x5 x6 : Str} (h : ws.length = 7) (e0 : ws[0]? = some x0) (e1 : ws[1]? = some x1) (e2 : ws[2]? = some x2) (e3 : ws[3]? = some x3) (e4 : ws[4]? = some x4) (e5 : ws[5]? = some x5) (e6 : ws[6]? = some x6) : ws = [x0, x1, x2, x3, x4, x5, x6] := by
  match ws, h with
  | [_, _, _, _, _, _, _], _ => cases e0; cases e1; cases e2; cases e3; cases e4; cases e5; cases e6; rfl
theorem asc_of {zs : List (Value × Pl)} (h : zs.map (·.2.1) = NMS.take 7) : ∀ i j (hi : i < zs.length) (hj : j < zs.length), j < i → (zs[i].2.1 ≠ zs[j].2.1) ∧ ¬ zs[i].2.1.cps.toList < zs[j].2.1.cps.toList := by
  have key : ∀ i < 7, ∀ j < i, ((NMS.take 7).getD i PySem.Str.empty ≠ (NMS.take 7).getD j PySem.Str.empty) ∧ ¬ ((NMS.take 7).getD i PySem.Str.empty).cps.toList < ((NMS.take 7).getD j PySem.Str.empty).cps.toList := by decide +kernel
  have e : ∀ k (hk : k < zs.length), zs[k].2.1 = (NMS.take 7).getD k PySem.Str.empty := fun k hk => by
    rw [← h, List.getD_eq_getElem?_getD, List.getElem?_map, List.getElem?_eq_getElem hk]; rfl
  have hl : zs.length = 7 := by have := congrArg List.length h; simpa [NMS] using this
  intro i j hi hj hij
  rw [e i hi, e j hj]
  exact key i (by omega) j hij
def Stop (P : Prop) : Prop := P
theorem Stop.here {P : Prop} (h : Stop P) : P := h
theorem Stop.go {P : Prop} (h : P) : Stop P := h
theorem ne_tt : Str.ofString "told" ≠ Str.ofString "turn" := by decide +kernel
theorem ne_tb : Str.ofString "told" ≠ Str.ofString "bare" := by decide +kernel
theorem ne_rt : Str.ofString "remaining" ≠ Str.ofString "turn" := by decide +kernel
theorem ne_rb : Str.ofString "remaining" ≠ Str.ofString "bare" := by decide +kernel
theorem bareP_f {zs : List (Value × Pl)} {p : Pl} (h : ((zs.map fun z => z.2.2.2).any fun x => x == ([p.1, p.2.1, p.2.2].getD (Int.toNat 1) PySem.Str.empty)) = true) : bareP (zs.map (·.2)) p = false := by
  have h' : ((zs.map fun z => z.2.2.2).any fun x => x == p.2.1) = true := h
  unfold bareP
  rw [List.map_map]
  show (!((zs.map fun z => z.2.2.2).any fun x => x == p.2.1)) = false
  rw [h']; rfl
theorem bareP_t {zs : List (Value × Pl)} {p : Pl} (h : ((zs.map fun z => z.2.2.2).any fun x => x == ([p.1, p.2.1, p.2.2].getD (Int.toNat 1) PySem.Str.empty)) = false) : bareP (zs.map (·.2)) p = true := by
  have h' : ((zs.map fun z => z.2.2.2).any fun x => x == p.2.1) = false := h
  unfold bareP
  rw [List.map_map]
  show (!((zs.map fun z => z.2.2.2).any fun x => x == p.2.1)) = true
  rw [h']; rfl
theorem zs_split {P : Pl → Bool} : ∀ {zs : List (Value × Pl)}, ((zs.map (·.2)).find? P).isSome = true → ∃ pre z post, zs = pre ++ z :: post ∧ (∀ y ∈ pre, P y.2 = false) ∧ P z.2 = true ∧ (zs.map (·.2)).find? P = some z.2 ∧ (zs.map (·.2)).eraseP P = (pre ++ post).map (·.2) ∧ ∃ r, (zs.filter fun z => P z.2) = z :: r
  | [], h => by simp at h
  | y :: zs, h => by
    cases hy : P y.2 with
    | true =>
      refine ⟨[], y, zs, rfl, (fun _ h => nomatch h), hy, ?_, ?_, zs.filter fun z => P z.2, ?_⟩
      · rw [List.map_cons, List.find?_cons, hy]
      · rw [List.map_cons, List.eraseP_cons, hy]; rfl
      · rw [List.filter_cons, hy]; rfl
    | false =>
      rw [List.map_cons, List.find?_cons, hy] at h
      obtain ⟨pre, z, post, e, h1, h2, h3, h4, r, h5⟩ := zs_split h
      refine ⟨y :: pre, z, post, by rw [e]; rfl, fun x hx => ?_, h2, ?_, ?_, r, ?_⟩
      · rcases List.mem_cons.mp hx with rfl | hx
        · exact hy
        · exact h1 x hx
      · rw [List.map_cons, List.find?_cons, hy]; exact h3
      · rw [List.map_cons, List.eraseP_cons, hy, h4]; rfl
      · rw [List.filter_cons, hy]; exact h5
theorem toldSt_len (ws : List Str) : ∀ k, (toldSt ws k).2.length = k
  | 0 => rfl
  | k + 1 => by
    show ((toldSt ws k).2 ++ _).length = k + 1
    rw [List.length_append, toldSt_len ws k]; rfl
structure ZsOk (ws : List Str) (i : Nat) (zs : List (Value × Pl)) : Prop where
  sec : zs.map (·.2) = (toldSt ws i).1
  nod : (zs.map (·.2.1)).Nodup
  small : ∀ z ∈ zs, z.2.2.2.length ≤ 200
  smallB : ∀ z ∈ zs, (bn z.2.2.2).length ≤ 200
  len : zs.length ≤ 7
def ToldInv (ws : List Str) (news0 : List (Addr × Obj)) (L rr td : Addr) (i : Nat) (xs : List Nat) (m : Str → Option Value) (news : List (Addr × Obj)) : Prop :=
  i + xs.length = 6 ∧ m (Str.ofString "told") = some (.ref td) ∧ m (Str.ofString "remaining") = some (.ref rr) ∧ ∃ (zs : List (Value × Pl)) (nr : Nat) (vt : List Value) (nt : Nat) (oc : Obj) (kv : Option Value),
    news = (td, listOf vt.toArray nt) :: (rr, listOf (zs.map (·.1)).toArray nr) :: (L + 1, oc) :: news0 ∧ StrsAre vt (toldSt ws i).2 ∧ ZsOk ws i zs ∧ PlsAt news0 zs ∧ oc.data = .cell kv
theorem pls_remove {prog : Program} {w : World} {A : Around} {E : Value → Shared → Prop} {s : Shared} {h₀ : Heap} {L D T : Addr} {m : Str → Option Value} {tl news : List (Addr × Obj)} {g : Obj → List (Addr × Obj)} {n : Nat} {zs pre post : List (Value × Pl)} {z : Value × Pl} {Q : Value → Shared → Prop}
    (hzs : zs = pre ++ z :: post) (e : z.1 = .ref T) (hpl : PlsAt tl zs) (hsub : ∀ p ∈ tl, p ∈ news) (nod : (zs.map (·.2.1)).Nodup) (hlen : zs.length ≤ 7) (hu : A.in1.units < cLine)
    (F : Fr h₀ L s.heap m) (N : News h₀ L s.heap news) (U : UpdF D (listOf (zs.map (·.1)).toArray n) news g)
    (h : ∀ h', Fr h₀ L h' m → News h₀ L h' (g (listOf ((pre ++ post).map (·.1)).toArray (n + 1))) → Q .none { s with heap := h' }) : wpAny (model prog w) A (call (.builtin "list.remove") [.ref D, .ref T]) Q E s := by
  have hz : z ∈ zs := hzs ▸ List.mem_append_right _ (.head _)
  have hl : (zs.map (·.1)).toArray.toList.length = zs.length := by simp
  have hlp : pre.length < zs.length := by rw [hzs, List.length_append, List.length_cons]; omega
  have hat : ∀ i (hi : i < (zs.map (·.1)).toArray.toList.length), (zs.map (·.1)).toArray.toList[i] = (zs[i]'(by omega)).1 := fun i hi => by simp
  have hzj : zs[pre.length] = z := by simp [hzs]
  refine remove_At (its := (zs.map (·.1)).toArray) pre.length (by omega) ?_ (fun i hi hlt => ?_) F N U (by rw [hl, sizeLine_eq]; omega) fun h' F' N' => h h' F' ?_
  · rw [hat, hzj, e]; exact EqAt.same _
  · rw [hat]
    obtain ⟨T1, o1, e1, m1, p1⟩ := hpl (zs[i]'(by omega)) (List.getElem_mem _)
    obtain ⟨T2, o2, e2, m2, p2⟩ := hpl z hz
    rw [e1]
    rw [e] at e2
    cases e2
    refine pl_ne (N _ (hsub _ m1)).1 (N _ (hsub _ m2)).1 p1 p2 (fun q => ?_) hu
    have nd := List.pairwise_iff_getElem.mp nod i pre.length (by rw [List.length_map]; omega) (by rw [List.length_map]; exact hlp) hlt
    simp only [List.getElem_map] at nd
    rw [hzj] at nd
    exact nd q
  · have er : ((zs.map (·.1)).toArray.toList.eraseIdx pre.length) = (pre ++ post).map (·.1) := by
      rw [List.toList_toArray, hzs, List.map_append, List.map_cons, List.eraseIdx_append_of_length_le (by rw [List.length_map]; exact Nat.le_refl _), List.length_map, Nat.sub_self, List.eraseIdx_cons_zero, List.map_append]
    rw [er] at N'
    exact N'
theorem zs_step {ws : List Str} {i : Nat} {zs pre post : List (Value × Pl)} {z : Value × Pl} (h : ZsOk ws i zs) (hzs : zs = pre ++ z :: post) (hez : (zs.map (·.2)).eraseP (bareP (zs.map (·.2))) = (pre ++ post).map (·.2)) : ZsOk ws (i + 1) (pre ++ post) := by
  have sub : (pre ++ post).Sublist zs := by rw [hzs]; exact List.Sublist.append_left (List.sublist_cons_self _ _) _
  refine ⟨?_, List.Pairwise.sublist (List.Sublist.map _ sub) h.nod, fun z hz => h.small z (List.Sublist.mem hz sub), fun z hz => h.smallB z (List.Sublist.mem hz sub), Nat.le_trans (List.Sublist.length_le sub) h.len⟩
  rw [← hez, h.sec]; rfl
theorem told_nz {ws : List Str} {i : Nat} {zs : List (Value × Pl)} {z : Value × Pl} {vt : List Value} {t : Tok} (hvt : StrsAre vt (toldSt ws i).2) (z1 : zs.map (·.2) = (toldSt ws i).1) (hfz : (zs.map (·.2)).find? (bareP (zs.map (·.2))) = some z.2) (hn : ((bn z.2.2.2).length : Int) ≠ 0) :
    StrsAre (vt ++ [.str (bn z.2.2.2) t]) (toldSt ws (i + 1)).2 := by
  have e : (toldSt ws (i + 1)).2 = (toldSt ws i).2 ++ [bn z.2.2.2] := by
    show (toldSt ws i).2 ++ [tellOf (bareOf (toldSt ws i).1)] = _
    rw [← z1]
    unfold bareOf tellOf
    rw [hfz]
    show (toldSt ws i).2 ++ [if (bn z.2.2.2).length = 0 then _ else _] = _
    rw [if_neg (by omega)]; rfl
  rw [e]
  exact strs_snoc hvt _ _
theorem told_z {ws : List Str} {i : Nat} {zs : List (Value × Pl)} {z : Value × Pl} {vt : List Value} {t : Tok} (hvt : StrsAre vt (toldSt ws i).2) (z1 : zs.map (·.2) = (toldSt ws i).1) (hfz : (zs.map (·.2)).find? (bareP (zs.map (·.2))) = some z.2) (hn : ((bn z.2.2.2).length : Int) = 0) :
    StrsAre (vt ++ [.str (Str.ofString "rwx") t]) (toldSt ws (i + 1)).2 := by
  have e : (toldSt ws (i + 1)).2 = (toldSt ws i).2 ++ [Str.ofString "rwx"] := by
    show (toldSt ws i).2 ++ [tellOf (bareOf (toldSt ws i).1)] = _
    rw [← z1]
    unfold bareOf tellOf
    rw [hfz]
    show (toldSt ws i).2 ++ [if (bn z.2.2.2).length = 0 then _ else _] = _
    rw [if_pos (by omega)]
  rw [e]
  exact strs_snoc hvt _ _
theorem told_spec (w : World) (a : Addr) (o : Obj) (ws : List Str) (hw : WaysOk ws) (ho : IsStrs ws o) : SpecA w 226 3 [.ref a] [(a, o)] (NewObj (IsStrs (toldSt ws 6).2)) := by
  obtain ⟨vs, n0, rfl, hvs⟩ := ho
  obtain ⟨hw7, hs, hsD, hsB, hb, hf⟩ := hw
  k_with "CompSrc" => (refine Stop.here ?_)
  k_with "CompSrcT" => (refine Stop.here ?_)
  k_with "CompEnd" => (refine Stop.here ?_)
  k_with "pyIter ref" => (refine Stop.here ?_)
  k_with "exec For Name Call cons nil" => ((rename Fr _ _ _ _ => lF'); (with_unfolding_all refine' For_turns lF' ?_); k_whole)
  k_with "eval ListComp" => ((rename Fr _ _ _ _ => kF); k_dflt (refine' LCg.ListComp_U kF (by with_unfolding_all rfl) (by decide) (by rfl) (by decide) (by rfl) ?_))
  walk_at "INTROL"
  refine' enterCAL (n := 2) (binds := [(Str.ofString "ways", .ref a)]) ?R ?B ?h0 ?ho ?hcd ?hb ?hkind ?hnd ?h ?c1 ?c2 ?c3
  walk_at "ENTERC"
  k_cells Y
  rename _ = Data.cell _ => dc0
  (try simp only [List.cons_append, List.nil_append] at N)
  show wpAny _ _ _ _ _ _
  k_fold
  k_steps
  (rename Fr _ _ _ _ => F'); (rename News _ _ _ _ => N')
  have hlen : vs.length = 7 := (strs_len hvs).trans hw7
  refine Stop.go (LCg.CompSrc.ledger (by exact rfl) F' N' (.tail _ (.head _)) (by rw [sizeLine_eq, List.size_toArray, hlen]; decide) fun g => ?_)
  refine comp_objs (fun i T o => (∃ x, ws[i]? = some x ∧ PlObj o (plOf x)) ∧ @LT.lt Nat _ (L + 1) T ∧ @LT.lt Nat _ a T) ?turn ?fin
  case turn =>
    intro i v ys tl I oI C oC D m₂ h tk E' hi hP hC hx F1 N1 off
    obtain ⟨x, t, rfl, hxw⟩ := hvs.item i v (by simpa using hP)
    have hxm := List.mem_of_getElem? hxw
    k_with "call ref" => ((with_reducible show wpAny _ _ (call (Value.ref 122) _) _ _ _); (refine' Spec.useS (basename_spec w _ _ (hs x hxm)) ?R ?hk ?F ?N ?X ?T ?_; walk_at "ROOM"; intro t' h' tk' F' N'; (try k_sweep)))
    k_with "call ref" => ((with_reducible show wpAny _ _ (call (Value.ref 129) _) _ _ _); (refine' Spec.useS (dirname_spec w _ _ (hs x hxm)) ?R ?hk ?F ?N ?X ?T ?_; walk_at "ROOM"; intro t' h' tk' F' N'; (try k_sweep)))
    k_steps
    rename _ < _ ∧ _ < _ ∧ _ < _ ∧ AllLt _ _ => lt
    (rename Fr _ _ _ _ => F'); (rename News _ _ _ _ => N')
    have lt' := allLt_mem lt.2.2.2
    exact ⟨_, _, _, rfl, F', news_rot N', ⟨⟨Nat.ne_of_gt lt.1, Nat.ne_of_gt lt.2.1, Nat.ne_of_gt lt.2.2.1⟩, off⟩, .inr ⟨_, .tail _ (List.mem_append_right _ (.tail _ (.head _))), rfl, _, rfl⟩, _, _, rfl, rfl, ⟨x, hxw, _, _, _, rfl⟩, lt' _ (List.mem_append_right _ (.head _)), lt' _ (List.mem_append_right _ (.tail _ (.head _)))⟩
  case fin =>
    intro tl htl
    have hsz : vs.toArray.size = 7 := by simp [hlen]
    rw [hsz] at htl
    obtain ⟨T6, o6, _, rfl, ⟨⟨x6, e6, p6⟩, q6, r6⟩, T5, o5, _, rfl, ⟨⟨x5, e5, p5⟩, q5, r5⟩, T4, o4, _, rfl, ⟨⟨x4, e4, p4⟩, q4, r4⟩, T3, o3, _, rfl, ⟨⟨x3, e3, p3⟩, q3, r3⟩, T2, o2, _, rfl, ⟨⟨x2, e2, p2⟩, q2, r2⟩, T1, o1, _, rfl, ⟨⟨x1, e1, p1⟩, q1, r1⟩, T0, o0, _, rfl, ⟨⟨x0, e0, p0⟩, q0, r0⟩, rfl⟩ := htl
    have hws := ws7 hw7 e0 e1 e2 e3 e4 e5 e6
    subst hws
    clear e0 e1 e2 e3 e4 e5 e6
    k_with "call builtin:sorted" => ((rename Fr _ _ _ _ => F'); (rename News _ _ _ _ => N'); refine' sorted_pls (zs := [(Value.ref T0, plOf x0), (Value.ref T1, plOf x1), (Value.ref T2, plOf x2), (Value.ref T3, plOf x3), (Value.ref T4, plOf x4), (Value.ref T5, plOf x5), (Value.ref T6, plOf x6)]) rfl F' N' (N'.isList (.head _)) (List.forall_mem_cons.mpr ⟨⟨T0, o0, rfl, (.tail _ (.tail _ (.tail _ (.tail _ (.tail _ (.tail _ (.tail _ (.head _)))))))), p0⟩, List.forall_mem_cons.mpr ⟨⟨T1, o1, rfl, (.tail _ (.tail _ (.tail _ (.tail _ (.tail _ (.tail _ (.head _))))))), p1⟩, List.forall_mem_cons.mpr ⟨⟨T2, o2, rfl, (.tail _ (.tail _ (.tail _ (.tail _ (.tail _ (.head _)))))), p2⟩, List.forall_mem_cons.mpr ⟨⟨T3, o3, rfl, (.tail _ (.tail _ (.tail _ (.tail _ (.head _))))), p3⟩, List.forall_mem_cons.mpr ⟨⟨T4, o4, rfl, (.tail _ (.tail _ (.tail _ (.head _)))), p4⟩, List.forall_mem_cons.mpr ⟨⟨T5, o5, rfl, (.tail _ (.tail _ (.head _))), p5⟩, List.forall_mem_cons.mpr ⟨⟨T6, o6, rfl, (.tail _ (.head _)), p6⟩, List.forall_mem_nil _⟩⟩⟩⟩⟩⟩⟩) (asc_of hb) ?_; intro D2' e2' h2' F2' N2' l2')
    intro D1 h1' tk1 F1 N1 of1
    k_steps
    rename _ < _ ∧ _ < _ ∧ AllLt _ _ => lt
    (rename Fr _ _ _ _ => F'); (rename News _ _ _ _ => N'); (rename IsRange _ _ _ _ _ _ _ _ => hr')
    simp only [List.cons_append, List.nil_append, AllLt, and_true] at lt
    k_lt l2'
    simp only [List.cons_append, List.nil_append, AllLt, and_true] at l2'
    refine nameD ⟨lt.1, lt.1, lt.1, lt.1⟩ fun td htd => ?_
    subst htd
    obtain ⟨tl, zs, hws0, N5, hz0, hpl0, oTd, oR, oC, ha⟩ : ∃ (tl : List (Addr × Obj)) (zs : List (Value × Pl)), [x0, x1, x2, x3, x4, x5, x6] = [x0, x1, x2, x3, x4, x5, x6] ∧ News H L _ ((td, listOf [].toArray 0) :: (D2', listOf (zs.map (·.1)).toArray e2') :: (L + 1, _) :: tl) ∧ ZsOk [x0, x1, x2, x3, x4, x5, x6] 0 zs ∧ PlsAt tl zs ∧
        (∀ p ∈ tl, p.1 ≠ td) ∧ (∀ p ∈ tl, p.1 ≠ D2') ∧ (∀ p ∈ tl, p.1 ≠ (L + 1 : Nat)) ∧ (a, listOf vs.toArray n0) ∈ tl :=
      ⟨[(T0, o0), (T1, o1), (T2, o2), (T3, o3), (T4, o4), (T5, o5), (T6, o6), (a, listOf vs.toArray n0)], [(Value.ref T0, plOf x0), (Value.ref T1, plOf x1), (Value.ref T2, plOf x2), (Value.ref T3, plOf x3), (Value.ref T4, plOf x4), (Value.ref T5, plOf x5), (Value.ref T6, plOf x6)], rfl, List.forall_mem_cons.mpr ⟨N' _ (.head _), List.forall_mem_cons.mpr ⟨N' _ (.tail _ (.head _)), List.forall_mem_cons.mpr ⟨N' _ (.tail _ (.tail _ (.tail _ (.tail _ (.tail _ (.tail _ (.tail _ (.tail _ (.tail _ (.tail _ (.head _))))))))))), List.forall_mem_cons.mpr ⟨N' _ (.tail _ (.tail _ (.tail _ (.tail _ (.tail _ (.tail _ (.tail _ (.tail _ (.tail _ (.head _)))))))))), List.forall_mem_cons.mpr ⟨N' _ (.tail _ (.tail _ (.tail _ (.tail _ (.tail _ (.tail _ (.tail _ (.tail _ (.head _))))))))), List.forall_mem_cons.mpr ⟨N' _ (.tail _ (.tail _ (.tail _ (.tail _ (.tail _ (.tail _ (.tail _ (.head _)))))))), List.forall_mem_cons.mpr ⟨N' _ (.tail _ (.tail _ (.tail _ (.tail _ (.tail _ (.tail _ (.head _))))))), List.forall_mem_cons.mpr ⟨N' _ (.tail _ (.tail _ (.tail _ (.tail _ (.tail _ (.head _)))))), List.forall_mem_cons.mpr ⟨N' _ (.tail _ (.tail _ (.tail _ (.tail _ (.head _))))), List.forall_mem_cons.mpr ⟨N' _ (.tail _ (.tail _ (.tail _ (.head _)))), List.forall_mem_cons.mpr ⟨N' _ (.tail _ (.tail _ (.tail _ (.tail _ (.tail _ (.tail _ (.tail _ (.tail _ (.tail _ (.tail _ (.tail _ (.head _)))))))))))), List.forall_mem_nil _⟩⟩⟩⟩⟩⟩⟩⟩⟩⟩⟩, ⟨rfl, (show (List.map bn [x0, x1, x2, x3, x4, x5, x6]).Nodup from hb ▸ (by decide +kernel)), List.forall_mem_cons.mpr ⟨hsD x0 (.head _), List.forall_mem_cons.mpr ⟨hsD x1 (.tail _ (.head _)), List.forall_mem_cons.mpr ⟨hsD x2 (.tail _ (.tail _ (.head _))), List.forall_mem_cons.mpr ⟨hsD x3 (.tail _ (.tail _ (.tail _ (.head _)))), List.forall_mem_cons.mpr ⟨hsD x4 (.tail _ (.tail _ (.tail _ (.tail _ (.head _))))), List.forall_mem_cons.mpr ⟨hsD x5 (.tail _ (.tail _ (.tail _ (.tail _ (.tail _ (.head _)))))), List.forall_mem_cons.mpr ⟨hsD x6 (.tail _ (.tail _ (.tail _ (.tail _ (.tail _ (.tail _ (.head _))))))), List.forall_mem_nil _⟩⟩⟩⟩⟩⟩⟩, List.forall_mem_cons.mpr ⟨hsB x0 (.head _), List.forall_mem_cons.mpr ⟨hsB x1 (.tail _ (.head _)), List.forall_mem_cons.mpr ⟨hsB x2 (.tail _ (.tail _ (.head _))), List.forall_mem_cons.mpr ⟨hsB x3 (.tail _ (.tail _ (.tail _ (.head _)))), List.forall_mem_cons.mpr ⟨hsB x4 (.tail _ (.tail _ (.tail _ (.tail _ (.head _))))), List.forall_mem_cons.mpr ⟨hsB x5 (.tail _ (.tail _ (.tail _ (.tail _ (.tail _ (.head _)))))), List.forall_mem_cons.mpr ⟨hsB x6 (.tail _ (.tail _ (.tail _ (.tail _ (.tail _ (.tail _ (.head _))))))), List.forall_mem_nil _⟩⟩⟩⟩⟩⟩⟩, Nat.le_refl 7⟩, List.forall_mem_cons.mpr ⟨⟨T0, o0, rfl, (.head _), p0⟩, List.forall_mem_cons.mpr ⟨⟨T1, o1, rfl, (.tail _ (.head _)), p1⟩, List.forall_mem_cons.mpr ⟨⟨T2, o2, rfl, (.tail _ (.tail _ (.head _))), p2⟩, List.forall_mem_cons.mpr ⟨⟨T3, o3, rfl, (.tail _ (.tail _ (.tail _ (.head _)))), p3⟩, List.forall_mem_cons.mpr ⟨⟨T4, o4, rfl, (.tail _ (.tail _ (.tail _ (.tail _ (.head _))))), p4⟩, List.forall_mem_cons.mpr ⟨⟨T5, o5, rfl, (.tail _ (.tail _ (.tail _ (.tail _ (.tail _ (.head _)))))), p5⟩, List.forall_mem_cons.mpr ⟨⟨T6, o6, rfl, (.tail _ (.tail _ (.tail _ (.tail _ (.tail _ (.tail _ (.head _))))))), p6⟩, List.forall_mem_nil _⟩⟩⟩⟩⟩⟩⟩, List.forall_mem_cons.mpr ⟨Nat.ne_of_lt lt.2.2.2.2.2.2.2.2.1, List.forall_mem_cons.mpr ⟨Nat.ne_of_lt lt.2.2.2.2.2.2.2.1, List.forall_mem_cons.mpr ⟨Nat.ne_of_lt lt.2.2.2.2.2.2.1, List.forall_mem_cons.mpr ⟨Nat.ne_of_lt lt.2.2.2.2.2.1, List.forall_mem_cons.mpr ⟨Nat.ne_of_lt lt.2.2.2.2.1, List.forall_mem_cons.mpr ⟨Nat.ne_of_lt lt.2.2.2.1, List.forall_mem_cons.mpr ⟨Nat.ne_of_lt lt.2.2.1, List.forall_mem_cons.mpr ⟨Nat.ne_of_lt lt.2.2.2.2.2.2.2.2.2.2, List.forall_mem_nil _⟩⟩⟩⟩⟩⟩⟩⟩, List.forall_mem_cons.mpr ⟨Nat.ne_of_lt l2'.2.2.2.2.2.2.2.1, List.forall_mem_cons.mpr ⟨Nat.ne_of_lt l2'.2.2.2.2.2.2.1, List.forall_mem_cons.mpr ⟨Nat.ne_of_lt l2'.2.2.2.2.2.1, List.forall_mem_cons.mpr ⟨Nat.ne_of_lt l2'.2.2.2.2.1, List.forall_mem_cons.mpr ⟨Nat.ne_of_lt l2'.2.2.2.1, List.forall_mem_cons.mpr ⟨Nat.ne_of_lt l2'.2.2.1, List.forall_mem_cons.mpr ⟨Nat.ne_of_lt l2'.2.1, List.forall_mem_cons.mpr ⟨Nat.ne_of_lt l2'.2.2.2.2.2.2.2.2.2, List.forall_mem_nil _⟩⟩⟩⟩⟩⟩⟩⟩, List.forall_mem_cons.mpr ⟨Nat.ne_of_gt q0, List.forall_mem_cons.mpr ⟨Nat.ne_of_gt q1, List.forall_mem_cons.mpr ⟨Nat.ne_of_gt q2, List.forall_mem_cons.mpr ⟨Nat.ne_of_gt q3, List.forall_mem_cons.mpr ⟨Nat.ne_of_gt q4, List.forall_mem_cons.mpr ⟨Nat.ne_of_gt q5, List.forall_mem_cons.mpr ⟨Nat.ne_of_gt q6, List.forall_mem_cons.mpr ⟨Nat.ne_of_lt (Nat.lt_succ_of_lt l0), List.forall_mem_nil _⟩⟩⟩⟩⟩⟩⟩⟩, (.tail _ (.tail _ (.tail _ (.tail _ (.tail _ (.tail _ (.tail _ (.head _))))))))⟩
    have lt1 : @LT.lt Nat _ D2' td := lt.1
    have lt2 : @LT.lt Nat _ (L + 1) D2' := l2'.2.2.2.2.2.2.2.2.1
    clear N' lt l2' hws0 p0 p1 p2 p3 p4 p5 p6 q0 q1 q2 q3 q4 q5 q6 r0 r1 r2 r3 r4 r5 r6
    generalize hws : [x0, x1, x2, x3, x4, x5, x6] = ws at *
    refine Stop.go (iter_rng (n := 6) (by exact rfl) F' N5 hr' (by decide) (by decide) ?_)
    intro I l1
    replace l1 := allLt_of l1
    simp only [AllLt] at l1
    obtain ⟨l1a, l1b, l1c, l1d⟩ := l1
    refine' items_ind (α := Nat) (item := fun i _ => Itm.tok fun t => .int (0 + ((i : Nat) : Int) * 1) t)
      (Inv := ToldInv ws tl L D2' td) ?step ?done (List.range 6) 0 _ _ ?i0
    case i0 => exact ⟨rfl, rfl, rfl, zs, e2', [], 0, _, _, rfl, .nil, hz0, hpl0, dc0⟩
    case done =>
      rintro i m news h tk ⟨hi, hm1, hm2, zs, nr, vt, nt, oc, kv, rfl, hvt, _, _, _⟩ F1 N1
      have hi6 : i = 6 := by simpa using hi
      subst hi6
      k_with "eval Name" => ((rename Fr _ _ _ _ => kF); k_dflt (refine' nameX_L kF ?zv ?_ ?za ?zb; (case za => rfl); (case zb => rfl); (case zv => with_reducible exact hm1); k_whole))
      k_steps
      (rename Fr _ _ _ _ => F'); (rename News _ _ _ _ => N')
      have F'' := hH ▸ F'
      have N'' := hH ▸ N'
      exact hQ _ _ _ (keepA F'' N'' hpre (fun p hp => by rw [List.mem_singleton.mp hp]; exact .tail _ (.tail _ (.tail _ ha)))) (newA N'' (fun p hp => by rw [List.mem_singleton.mp hp]; exact oTd _ ha) (.head _) ⟨_, _, rfl, hvt⟩)
    case step =>
      clear hz0 hpl0 N5 F' hr'
      rintro i x xs m news v h tk ⟨hi, hm1, hm2, zs, nr, vt, nt, oc, kv, rfl, hvt, ⟨z1, z2, z3, z5, z4⟩, hpl, dc⟩ ⟨t, rfl⟩ F1 ob1 hob1 N1
      have hlt : i < 6 := by simp only [List.length_cons] at hi; omega
      k_with "eval Name" => ((with_reducible show wpAny _ _ (eval (Expr.Name (Str.ofString "told") _) _) _ _ _); (rename Fr _ _ _ _ => kF); k_dflt (refine' nameX_L kF ?zv ?_ ?za ?zb; (case za => rfl); (case zb => rfl); (case zv => first | with_reducible exact hm1 | with_reducible exact (if_neg ne_tt).trans hm1 | with_reducible exact (if_neg ne_tb).trans ((if_neg ne_tt).trans hm1)); k_whole))
      k_with "eval Name" => ((with_reducible show wpAny _ _ (eval (Expr.Name (Str.ofString "remaining") _) _) _ _ _); (rename Fr _ _ _ _ => kF); k_dflt (refine' nameX_L kF ?zv ?_ ?za ?zb; (case za => rfl); (case zb => rfl); (case zv => first | with_reducible exact hm2 | with_reducible exact (if_neg ne_rt).trans hm2 | with_reducible exact (if_neg ne_rb).trans ((if_neg ne_rt).trans hm2)); k_whole))
      k_with "eval Name" => ((with_reducible show wpAny _ _ (eval (Expr.Name (Str.ofString "bare") _) _) _ _ _); (rename Fr _ _ _ _ => kF); k_dflt (refine' nameX_L kF ?zv ?_ ?za ?zb; (case za => rfl); (case zb => rfl); (case zv => with_reducible exact if_pos rfl); k_whole))
      k_with "exec Assign cons ListComp" => (refine wpAny_Assign_Name ?_)
      k_with "eval ListComp" => ((rename Fr _ _ _ _ => kF); k_dflt (refine' LCt.ListComp_T kF (by with_unfolding_all rfl) (by decide) (by rfl) (by decide) (by rfl) ?_))
      k_with "eval ListComp" => ((rename Fr _ _ _ _ => kF); k_dflt (refine' LCg.ListComp_U kF (by with_unfolding_all rfl) (by decide) (by rfl) (by decide) (by rfl) ?_))
      dsimp only [List.cons_append, List.nil_append] at N1
      have hzl : (zs.map (·.1)).toArray.size ≤ sizeLine := by rw [sizeLine_eq, List.size_toArray, List.length_map]; exact Nat.le_trans z4 (by decide)
      k_steps
      (rename Fr _ _ _ _ => F'); (rename News _ _ _ _ => N')
      refine Stop.go (LCg.CompSrc.ledger (by exact rfl) F' N' (.tail _ (.tail _ (.head _))) hzl fun g => ?_)
      clear F' N'
      refine comp_strsZ zs (fun p => p.2.2) ?turn ?fin
      case turn =>
        intro z ys I' oI C oC D m₂ h tk E' hz hC hx F1 N1 off3
        obtain ⟨T, oT, e, hm, ho⟩ := hpl z hz
        rw [e] at hx
        dsimp only
        k_steps
        refine pl_item N1 (.tail _ (.tail _ (.tail _ (.tail _ (.tail _ (.tail _ (.tail _ hm))))))) ho (by decide) (by decide) ?_
        intro t9
        exact ⟨_, _, _, rfl, F1, N1, off3, .inr ⟨_, .tail _ (.tail _ (.head _)), rfl, _, rfl⟩, rfl, t9, rfl⟩
      case fin =>
        intro ys hys D' h tk F1 N1 off1
        have oD : @Ne Nat D' (L + 1) := fun e => off1.2.2.2.1 e.symm
        dsimp only
        k_with "storeName" => ((rename Fr _ _ _ _ => F'); (rename News _ _ _ _ => N'); k_dflt (refine' storeX_C F' N' ?c ?U ?d ?_ ?a ?b; (case a => rfl); (case b => rfl); (case c => rfl); (case U => exact .tail oD (.tail (by k_ne) (.tail (by k_ne) (.tail (by k_ne) (.head oC))))); (case d => k_asm); k_whole); intro h' o' F' N' d'; (try dsimp only at N'); (try k_sweep))
        k_steps
        (rename Fr _ _ _ _ => F'); (rename News _ _ _ _ => N')
        rename _ = Data.cell (some (Value.ref D')) => dH
        refine Stop.go (LCt.CompSrcT.ledger (by exact rfl) F' N' (.tail _ (.tail _ (.tail _ (.head _)))) hzl fun g => ?_)
        clear F' N'
        refine comp_filterZ zs (bareP (zs.map (·.2))) ?turn ?fin
        case turn =>
          intro z ys I' oI C oC D m₂ h tk E' hz hC hx F1 N1 off3 ne3
          obtain ⟨T, oT, e, hm, ho⟩ := hpl z hz
          rw [e] at hx
          dsimp only
          k_steps
          refine pl_item N1 (.tail _ (.tail _ (.tail _ (.tail _ (.tail _ (.tail _ (.tail _ (.tail _ hm)))))))) ho (by decide) (by decide) ?_
          intro t9
          dsimp only
          k_steps
          all_goals (rename (List.any _ _) = _ => q9)
          · exact Stop.go ⟨_, _, _, rfl, F1, N1, off3, .inr ⟨_, .tail _ (.tail _ (.tail _ (.head _))), rfl, _, rfl⟩, rfl, bareP_f q9⟩
          · exact Stop.go ⟨_, _, _, rfl, F1, N1, off3, .inr ⟨_, .tail _ (.tail _ (.tail _ (.head _))), rfl, _, rfl⟩, rfl, e.symm, bareP_t q9⟩
        case fin =>
          intro D9 h tk F1 N1 off9
          obtain ⟨pre, z, post, hzs, hpre, hpz, hfz, hez, rz, hrz⟩ := zs_split (show ((zs.map (·.2)).find? (bareP (zs.map (·.2)))).isSome = true from z1 ▸ hf i hlt)
          rw [hrz, List.map_cons] at N1
          have hz : z ∈ zs := hzs ▸ List.mem_append_right _ (.head _)
          obtain ⟨T, oT, e, hm, ho⟩ := hpl z hz
          rw [e] at N1
          dsimp only
          k_with "exec Expr" => (refine Stop.here ?_)
          k_steps
          (rename Fr _ _ _ _ => F'); (rename News _ _ _ _ => N')
          refine Stop.go ?_
          have N5 : News H L _ ((I, ob1) :: (td, listOf vt.toArray nt) :: (D2', listOf (zs.map (·.1)).toArray nr) :: (L + 1, o') :: tl) := fun p hp => N' p (.tail _ (.tail _ hp))
          clear N' N1 off9 off1 oD
          k_with "truthy str" => (refine KXt.truthy rfl (Nat.le_trans (z5 z hz) (by decide)) ?_; intro k9)
          k_with "subscriptTail" => ((rename News _ _ _ _ => N'); refine pl_item N' (.tail _ (.tail _ (.tail _ (.tail _ hm)))) ho (by decide) (by decide) ?_; intro t9; (try dsimp only))
          k_with "call ref" => ((with_reducible show wpAny _ _ (call (Value.ref 122) _) _ _ _); (refine' Spec.useS (basename_spec w _ _ (z3 z hz)) ?R ?hk ?F ?N ?X ?T ?_; walk_at "ROOM"; intro t' h' tk' F' N'; (try k_sweep)))
          have l1e : @Ne Nat D2' td := Nat.ne_of_lt lt1
          have l1f : @Ne Nat (L + 1) td := Nat.ne_of_lt (Nat.lt_trans lt2 lt1)
          k_with "call builtin:list.append" => ((rename Fr _ _ _ _ => F'); (rename News _ _ _ _ => N'); refine' append_K F' N' ?U ?_ ?z; (case U => exact .tail (Nat.ne_of_gt l1a) (.head (List.forall_mem_cons.mpr ⟨l1e, List.forall_mem_cons.mpr ⟨l1f, oTd⟩⟩))); (case z => rw [List.size_toArray, sizeLine_eq, strs_len hvt, toldSt_len]; omega); intro h' F' N'; (try k_sweep))
          k_with "call builtin:list.remove" => (refine Stop.here ?_)
          have offI : ∀ {o1 o2 o3 : Obj}, ∀ p ∈ (td, o1) :: (D2', o2) :: (L + 1, o3) :: tl, ∀ q ∈ [(I, ob1)], p.1 ≠ q.1 := fun p hp q hq => by
            rw [List.mem_singleton.mp hq]
            rcases List.mem_cons.mp hp with rfl | hp
            · exact Nat.ne_of_lt l1a
            · rcases List.mem_cons.mp hp with rfl | hp
              · exact Nat.ne_of_lt l1b
              · rcases List.mem_cons.mp hp with rfl | hp
                · exact Nat.ne_of_lt l1c
                · exact Nat.ne_of_lt (allLt_mem l1d p hp)
          refine wpAny_Expr_any ?_
          k_steps
          ·
            (rename Fr _ _ _ _ => F2); (rename News _ _ _ _ => N2)
            (rename (Nat.cast (Str.length _) : Int) ≠ 0 => q9)
            refine Stop.go (wpAny_Expr_any ?_)
            k_steps
            (rename Fr _ _ _ _ => F3); (rename News _ _ _ _ => N3)
            refine Stop.go (pls_remove hzs e hpl (fun p hp => .tail _ (.tail _ (.tail _ (.tail _ hp)))) z2 z4 (show _ + 1 < cLine from Nat.lt_of_le_of_lt (Nat.add_le_add_left (by decide : 1 ≤ 8 * 2) _) R.units) F3 N3 (.tail (Nat.ne_of_gt l1b) (.tail l1e.symm (.head (List.forall_mem_cons.mpr ⟨Nat.ne_of_lt lt2, oR⟩)))) ?_)
            intro h4 F4 N4
            clear F3 N3
            (try dsimp only at N4)
            rw [List.push_toArray] at N4
            k_steps
            exact ⟨h4, _, _, (td, _) :: (D2', _) :: (L + 1, o') :: tl, rfl, F4, N4, offI, trivial, by simp only [List.length_cons] at hi; omega, (if_neg ne_tb).trans ((if_neg ne_tt).trans hm1), (if_neg ne_rb).trans ((if_neg ne_rt).trans hm2), pre ++ post, nr + 1, vt ++ [_], nt + 1, o', _, rfl, told_nz hvt z1 hfz q9, zs_step ⟨z1, z2, z3, z5, z4⟩ hzs hez, fun z hz' => hpl z (hzs ▸ ((List.mem_append.mp hz').elim (fun h => List.mem_append_left _ h) fun h => List.mem_append_right _ (.tail _ h))), dH⟩
          ·
            (rename Fr _ _ _ _ => F2); (rename News _ _ _ _ => N2)
            (rename (Nat.cast (Str.length _) : Int) = 0 => q9)
            refine Stop.go (wpAny_Expr_any ?_)
            k_steps
            (rename Fr _ _ _ _ => F3); (rename News _ _ _ _ => N3)
            refine Stop.go (pls_remove hzs e hpl (fun p hp => .tail _ (.tail _ (.tail _ (.tail _ hp)))) z2 z4 (show _ + 1 < cLine from Nat.lt_of_le_of_lt (Nat.add_le_add_left (by decide : 1 ≤ 8 * 2) _) R.units) F3 N3 (.tail (Nat.ne_of_gt l1b) (.tail l1e.symm (.head (List.forall_mem_cons.mpr ⟨Nat.ne_of_lt lt2, oR⟩)))) ?_)
            intro h4 F4 N4
            clear F3 N3
            (try dsimp only at N4)
            rw [List.push_toArray] at N4
            k_steps
            exact ⟨h4, _, _, (td, _) :: (D2', _) :: (L + 1, o') :: tl, rfl, F4, N4, offI, trivial, by simp only [List.length_cons] at hi; omega, (if_neg ne_tb).trans ((if_neg ne_tt).trans hm1), (if_neg ne_rb).trans ((if_neg ne_rt).trans hm2), pre ++ post, nr + 1, vt ++ [_], nt + 1, o', _, rfl, told_z hvt z1 hfz q9, zs_step ⟨z1, z2, z3, z5, z4⟩ hzs hez, fun z hz' => hpl z (hzs ▸ ((List.mem_append.mp hz').elim (fun h => List.mem_append_left _ h) fun h => List.mem_append_right _ (.tail _ h))), dH⟩
end Mine
end
section
open PySem PySem.W PyProof.Rows PySem.Calls LCg LCt PySem.SeqAt
set_option maxRecDepth 100000
set_option maxHeartbeats 1000000
namespace Mine
section
variable {prog : Program} {w : World} {A : Around} {E : Value → Shared → Prop} {s : Shared}
def cnt (k : Str) (ys : List Str) : Nat := ys.countP (· == k)
theorem cnt_vs (k : Str) : ∀ {vs : List Value} {ys : List Str}, StrsAre vs ys → vs.countP (isStrOf k) = cnt k ys
  | _, _, .nil => rfl
  | _, _, .cons y t h => by
    unfold cnt
    rw [List.countP_cons, List.countP_cons, cnt_vs k h]
    rfl
theorem count_strs {l : Addr} {vs : List Value} {ys : List Str} {k : Str} {t : Tok} {Q : Value → Shared → Prop} (hl : s.heap.IsList l vs.toArray) (hi : StrsAre vs ys)
    (h : Q (.int (cnt k ys : Nat) s.toks) { s with toks := s.toks + 1 }) : wpAny (model prog w) A (call (.builtin "list.count") [.ref l, .str k t]) Q E s := by
  obtain ⟨⟨cls, dd, data, sl⟩, ho, hc, n, hd⟩ := id hl
  simp only at hc hd
  subst hc hd
  refine call_meets PySem.F.slot_list_count ⟨_, ho, rfl⟩ PySem.F.entry_list_count (PySem.F.args_list_count_2 _ _) (list_countAt l vs.toArray n dd sl (.str k t) (isStrOf k)) ⟨ho, fun y hy => (eq_isStrOf k t hi y (by simpa using hy)).at _ _, ?_⟩
  rw [show vs.toArray.toList = vs from rfl, cnt_vs k hi]
  exact h
theorem strs_index : ∀ {vs : List Value} {xs : List Str} (x : Str), StrsAre vs xs → x ∈ xs → ∃ hj : xs.idxOf x < vs.length, isStrOf x vs[xs.idxOf x] = true ∧ (∀ i (hi : i < vs.length), i < xs.idxOf x → isStrOf x vs[i] = false)
  | _, _, x, .cons y t h, hx => by
    by_cases e : (y == x) = true
    · have q : ∀ r : List Str, List.idxOf x (y :: r) = 0 := fun r => by rw [List.idxOf_cons, e]; rfl
      rw [q]
      exact ⟨Nat.zero_lt_succ _, e, fun i _ hi => absurd hi (Nat.not_lt_zero _)⟩
    · have e' : (y == x) = false := by simpa using e
      have hx' : x ∈ _ := (List.mem_cons.mp hx).resolve_left fun q => by subst q; exact e (by simp)
      obtain ⟨hj, h1, h2⟩ := strs_index x h hx'
      have q : ∀ r : List Str, List.idxOf x (y :: r) = List.idxOf x r + 1 := fun r => by rw [List.idxOf_cons, e']; rfl
      rw [q]
      refine ⟨Nat.succ_lt_succ hj, h1, fun i hi hlt => ?_⟩
      cases i with
      | zero => exact e'
      | succ i => exact h2 i (by simpa using hi) (Nat.lt_of_succ_lt_succ hlt)
theorem index_strs {l : Addr} {vs : List Value} {ys : List Str} {k : Str} {t : Tok} {Q : Value → Shared → Prop} (hl : s.heap.IsList l vs.toArray) (hi : StrsAre vs ys) (hk : k ∈ ys) (hlen : ys.length ≤ 1000)
    (h : Q (.int (ys.idxOf k : Nat) s.toks) { s with toks := s.toks + 1 }) : wpAny (model prog w) A (call (.builtin "list.index") [.ref l, .str k t]) Q E s := by
  obtain ⟨⟨cls, dd, data, sl⟩, ho, hc, n, hd⟩ := id hl
  simp only at hc hd
  subst hc hd
  obtain ⟨hj, h1, h2⟩ := strs_index k hi hk
  have hl' := strs_len hi
  refine call_meets PySem.F.slot_list_index ⟨_, ho, rfl⟩ PySem.F.entry_list_index (PySem.F.args_list_index_2 _ _)
    (list_indexAt l vs.toArray n dd sl (.str k t) (isStrOf k) (ys.idxOf k) (by simpa using hj) (by omega) (by simpa using h1) (fun i hi hlt => by simpa using h2 i (by simpa using hi) hlt)) ⟨ho, fun y hy => (eq_isStrOf k t hi y (by simpa using hy)).at _ _, h⟩
theorem vals_zip (vs : List Value) : (vs.zipIdx 0).map (fun p => Itm.val p.1) = vs.map Itm.val := by
  have : ∀ (vs : List Value) (k : Nat), (vs.zipIdx k).map (fun p => Itm.val p.1) = vs.map Itm.val := by
    intro vs
    induction vs with
    | nil => intro k; rfl
    | cons v vs ih => intro k; rw [List.zipIdx_cons, List.map_cons, List.map_cons, ih]
  exact this vs 0
theorem st_canLayAll0 : ∀ ns : List Str, (∀ n ∈ ns, PyData.strOk n = true) → PyData.canLayAll0 (ns.map PyData.str) = true
  | [], _ => rfl
  | n :: r, h => by simp [PyData.canLayAll0, PyData.canLay0, h n (.head _), st_canLayAll0 r fun m hm => h m (.tail _ hm)]
theorem st_depthAll : ∀ ns : List Str, PyData.depthAll (ns.map PyData.str) = 0
  | [] => rfl
  | _ :: r => by simp [PyData.depthAll, PyData.depth, st_depthAll r]
theorem st_shaped (ns : List Str) (h : ∀ n ∈ ns, PyData.strOk n = true) : SeqAt.shaped (.list (ns.map PyData.str)) = true := by
  simp [SeqAt.shaped, PyData.canLay0, PyData.depth, st_canLayAll0 ns h, st_depthAll]
theorem nms_ok : ∀ n ∈ NMS, PyData.strOk n = true := by decide +kernel
theorem st_sameAll : ∀ ns : List Str, PySem.Spec.sameAll (ns.map PyData.str) (ns.map PyData.str) = true
  | [] => rfl
  | n :: r => by
    show (PySem.Spec.same (.str n) (.str n) && PySem.Spec.sameAll (r.map PyData.str) (r.map PyData.str)) = true
    rw [st_sameAll r, Bool.and_true]
    show (n == n) = true
    exact beq_self_eq_true n
/-- two lists of the same texts: not unequal -/
theorem ne_strs {a b : Addr} {xs ys : List Value} {ns : List Str} {Q : Value → Shared → Prop} (ha : s.heap.IsList a xs.toArray) (hb : s.heap.IsList b ys.toArray) (hi : StrsAre xs ns) (hj : StrsAre ys ns) (hok : ∀ n ∈ ns, n ∈ NMS) (hu : A.units + 64 < cLine) (h : Q (.bool false) s) :
    wpAny (model prog w) A (compareOp .NotEq (.ref a) (.ref b)) Q E s :=
  ne_dataH_same (reads_newData ha hi.carried) (reads_newData hb hj.carried) (st_shaped _ fun n hn => nms_ok n (hok n hn)) (st_shaped _ fun n hn => nms_ok n (hok n hn)) hu (SeqAt.noMix_of_shape (.list .str) rfl _ _ (list_map_has fun _ => rfl) (list_map_has fun _ => rfl)) (by
    have e : PySem.Spec.same (.list (ns.map PyData.str)) (.list (ns.map PyData.str)) = true := st_sameAll ns
    rw [e]; exact h)
end
def TabL (o : Obj) (cs : List (Addr × Obj)) : Prop := (o = tabObj #[] ∧ cs = []) ∨ ∃ c1 c2 oc2, o = tabFull c1 c2 ∧ cs = [(c2, oc2)] ∧ recObj oc2 QR
theorem stream_spec (w : World) (b : Array UInt8) (t : Tok) {o : Obj} {cs : List (Addr × Obj)} (h : TabL o cs) : SpecC w 190 1 [.bytes b t] ((185, o) :: cs) [185] (fun _ => True) (StrmPost w (KBw.bInts b) cs) := by
  rcases h with ⟨rfl, rfl⟩ | ⟨c1, c2, oc2, rfl, rfl, hr⟩
  · exact stream_spec0 w b t
  · exact stream_spec1 w b t c1 c2 oc2 hr
section
variable {w : World} {n k : Nat} {A : Around} {s : Shared} {Q E : Value → Shared → Prop} {h₀ : Heap} {L : Addr} {m : Str → Option Value}
  {loose : List Str} {mean : ExcName → Option Value} {mg mb : Str → Option Value} {cs : List (Addr × Obj)} {o : Obj} {K : Addr × Obj}
/-- the stream made and read: six texts, the table full -/
theorem stream_use {b : Array UInt8} {t : Tok} (hT : TabL o cs) (h185 : ∀ p ∈ cs, p.1 ≠ (185 : Nat)) (R : Room A k) (hk : 1 ≤ k) (F : Fr h₀ L s.heap m) (N : News h₀ L s.heap (K :: (185, o) :: cs)) (hK : K.1 ≠ (185 : Nat)) (X : (Mine.hd.heap_39 w.params).In h₀) (T : Top topProg loose mean mg mb h₀)
    (h : ∀ (S D R Lst cA cO c1 c2 : Addr) (oS oD oR oL oA oO oc2 : Obj) h' tk, Fr h₀ L h' m → News h₀ L h' [(S, oS), (D, oD), (R, oR), (Lst, oL), (cA, oA), (cO, oO), (c2, oc2), (185, tabFull c1 c2), K] → Strm w S Lst c2 QR (KBw.bInts b) 0 D R cA cO oS oD oR oL oA oO → recObj oc2 QR → (cs = [] ∨ cs = [(c2, oc2)]) → @Ne Nat Lst 185 → K.1 ≠ Lst →
      Q (.ref S) { s with heap := h', toks := tk }) : wpAny (model PG w) A (call (.ref 190) [.bytes b t]) Q E s := by
  refine SpecC.use (news' := K :: cs) (stream_spec w b t hT) R hk F N X T (fun p hp => .tail _ hp) trivial (fun b hb => ⟨o, by rw [List.mem_singleton.mp hb]; exact .tail _ (.head _)⟩) (fun p hp => ?_) ?_
  · rcases List.mem_cons.mp hp with rfl | hp
    · exact ⟨.head _, fun q => hK (List.mem_singleton.mp q)⟩
    · exact ⟨.tail _ (.tail _ hp), fun q => h185 p hp (List.mem_singleton.mp q)⟩
  rintro v h' tk F' N' kk ⟨S, D, R', Lst, cA, cO, c1, c2, oS, oD, oR, oL, oA, oO, oc2, rfl, hn, h85, hc2, hcs, hr, hs⟩
  have n185 := N _ (List.Mem.tail _ (List.Mem.head _))
  have nK := N _ (List.Mem.head _)
  have new : ∀ {a : Addr} {ob : Obj}, s.heap.get? a = none → h'.get? a = some ob → h'.get? a = some ob ∧ a ≠ L ∧ h₀.get? a = none := fun {a ob} h1 h2 => by
    refine ⟨h2, fun e => ?_, ?_⟩
    · obtain ⟨oL', _, _, hL, _⟩ := F.ns
      rw [← e, h1] at hL; cases hL
    · cases q : h₀.get? a with
      | none => rfl
      | some o' => have := F.keep _ _ q; rw [h1] at this; cases this
  have hL185 : @Ne Nat Lst 185 := fun e => by
    have h1 := (hn (Lst, oL) (.tail _ (.tail _ (.tail _ (.head _))))).1
    have h2 : s.heap.get? 185 = some o := n185.1
    have h1' : s.heap.get? Lst = none := h1
    rw [show Lst = 185 from e, h2] at h1'; cases h1'
  refine h S D R' Lst cA cO c1 c2 oS oD oR oL oA oO oc2 h' tk F' (fun p hp => ?_) hs hr (hcs.imp (·.1) id) hL185 (fun e => ?_)
  rotate_left
  · have h1 := (hn (Lst, oL) (.tail _ (.tail _ (.tail _ (.head _))))).1
    have h1' : s.heap.get? Lst = none := h1
    have h2 := nK.1
    rw [e, h1'] at h2; cases h2
  have hin : p ∈ [(S, oS), (D, oD), (R', oR), (Lst, oL), (cA, oA), (cO, oO)] ∨ p ∈ [(c2, oc2), ((185 : Addr), tabFull c1 c2), K] := List.mem_append.mp (show p ∈ [(S, oS), (D, oD), (R', oR), (Lst, oL), (cA, oA), (cO, oO)] ++ [(c2, oc2), ((185 : Addr), tabFull c1 c2), K] from hp)
  rcases hin with hp | hp
  · exact new (hn p hp).1 (hn p hp).2
  · rcases List.mem_cons.mp hp with rfl | hp
    · rcases hcs with ⟨_, hc⟩ | hc
      · exact new hc hc2
      · subst hc
        exact N' _ (.tail _ (.head _))
    · rcases List.mem_cons.mp hp with rfl | hp
      · exact ⟨h85, n185.2⟩
      · rw [List.mem_singleton.mp hp]
        exact N' _ (.head _)
theorem six_use {S Lst c1 c2 : Addr} {ks : List Int} {D R' cA cO : Addr} {oS oD oR oL oA oO oc2 : Obj} (x : Strm w S Lst c2 QR ks 0 D R' cA cO oS oD oR oL oA oO) (hr : recObj oc2 QR) (hl : @Ne Nat Lst 185) (hK : K.1 ≠ Lst) (hks : ks.length = 4)
    (hc1 : SixOk (ks.getD 0 0 + 256 * ks.getD 1 0)) (hc2 : SixOk (ks.getD 2 0 + 256 * ks.getD 3 0)) (b1 : 0 ≤ ks.getD 1 0 ∧ ks.getD 1 0 < 256) (b2 : 0 ≤ ks.getD 3 0 ∧ ks.getD 3 0 < 256)
    (R : Room A k) (hk : 3 ≤ k) (F : Fr h₀ L s.heap m) (N : News h₀ L s.heap [(S, oS), (D, oD), (R', oR), (Lst, oL), (cA, oA), (cO, oO), (c2, oc2), (185, tabFull c1 c2), K]) (X : (Mine.hd.heap_39 w.params).In h₀) (T : Top topProg loose mean mg mb h₀)
    (h : ∀ (a : Addr) (o6 : Obj) h' tk, Fr h₀ L h' m → News h₀ L h' [(a, o6), (c2, oc2), (185, tabFull c1 c2), K] → @Ne Nat c2 a → @Ne Nat 185 a → K.1 ≠ a → IsStrs (sixOf ks) o6 → Q (.ref a) { s with heap := h', toks := tk }) : wpAny (model PG w) A (call (.ref 202) [.ref S]) Q E s := by
  have m2 : ∀ {a b c d e f : Addr × Obj} {l : List (Addr × Obj)}, ∀ p ∈ l, p ∈ a :: b :: c :: d :: e :: f :: l := fun p hp => .tail _ (.tail _ (.tail _ (.tail _ (.tail _ (.tail _ hp)))))
  refine SpecC.use (news' := [(c2, oc2), ((185 : Addr), tabFull c1 c2), K]) (six_spec w x hks hc1 hc2 b1 b2) R hk F N X T (fun p hp => ?_) (hr.rec (N _ (m2 _ (.head _))).1) (fun b hb => ⟨oL, by rw [List.mem_singleton.mp hb]; exact .tail _ (.tail _ (.tail _ (.head _)))⟩) (fun p hp => ⟨m2 _ hp, fun q => ?_⟩) ?_
  · exact List.mem_append_left [(c2, oc2), ((185 : Addr), tabFull c1 c2), K] hp
  · have q' : p.1 = Lst := List.mem_singleton.mp q
    rcases List.mem_cons.mp hp with rfl | hp
    · exact x.cL q'
    · rcases List.mem_cons.mp hp with rfl | hp
      · exact hl q'.symm
      · rw [List.mem_singleton.mp hp] at q'
        exact hK q'
  · rintro v h' tk F' N' kk ⟨a, o6, rfl, e1, e2, hp6⟩
    have ne : ∀ {p : Addr × Obj}, p ∈ [(S, oS), (D, oD), (R', oR), (Lst, oL), (cA, oA), (cO, oO), (c2, oc2), ((185 : Addr), tabFull c1 c2), K] → p.1 ≠ a := fun {p} hp e => by
      have := (N p hp).1
      rw [e, e1] at this; cases this
    refine h a o6 h' tk F' (fun p hp => ?_) (ne (m2 _ (.head _))) (ne (m2 _ (.tail _ (.head _)))) (ne (m2 _ (.tail _ (.tail _ (.head _))))) hp6
    rcases List.mem_cons.mp hp with rfl | hp
    · refine ⟨e2, fun e => ?_, ?_⟩
      · obtain ⟨oL', _, _, hL, _⟩ := F.ns
        have e' : a = L := e
        rw [← e', e1] at hL; cases hL
      · show h₀.get? a = none
        cases q : h₀.get? a with
        | none => rfl
        | some o' => have := F.keep _ _ q; rw [e1] at this; cases this
    · exact N' p hp
end
end Mine
end
section
open PySem PySem.W PyProof.Rows PySem.Calls LCg LCt PySem.SeqAt
set_option maxRecDepth 100000
set_option maxHeartbeats 1500000
namespace Mine
theorem fillC28 (w : World) : Mine.hd.heap_39 w.params = Mine.hd.heap_39 w.params ∧ PySem.Challenge.rw_rt0043_01.prog = PySem.Challenge.rw_rt0043_01.prog := by
  k_with_none
  k_fill
  k_with "INTRO" =>
    intro A s Q E R B hpre hQ
    have hA := R.handled
    obtain ⟨hd', d', fr', gs', u'⟩ := A
    dsimp only at hA
    subst hA
  k_with "ENTER" =>
    case R => assumption
    case B => assumption
    case ho => k_is
    case hcd => k_is
    case hb => first | exact BindsTo.of_eq rfl | rfl
    case hl => first | exact locs rfl | (intro D; exact locs rfl)
    case c1 => rfl
    case c2 => rfl
    case c3 => rfl
    case c4 => decide
    intro L h₁ tk loose mean mg mb F N X T R
    (try dsimp only)
    k_fold
  k_with "INTROL" =>
    intro A s Q E R B hpre hQ
    have hA := R.handled
    obtain ⟨hd', d', fr', gs', u'⟩ := A
    dsimp only at hA
    subst hA
    obtain ⟨sh, sg, sd, stk, so⟩ := s
  k_with "ENTERA" =>
    case R => assumption
    case B => assumption
    case h0 => assumption
    case ho => k_is
    case hcd => k_is
    case hb => exact BindsTo.of_eq rfl
    case hl => exact locs rfl
    case c1 => rfl
    case c2 => rfl
    case c3 => rfl
    case c4 => decide
    intro H L h₁ tk loose mean mg mb hH F N l0 X T R env A1
    (try simp only [AllLt, and_true] at l0)
    k_fold
  k_with "ENTERC" =>
    case R => assumption
    case B => assumption
    case h0 => assumption
    case ho => k_is
    case hcd => k_is
    case hb => exact BindsTo.of_eq rfl
    case hkind => exact rfl
    case hnd => decide +kernel
    case c1 => rfl
    case c2 => rfl
    case c3 => rfl
    intro H L h₁ tk cells loose mean mg mb hH F N l0 Y X T R env A1
    (try simp only [AllLt, and_true] at l0)
  k_with "END" => ((try dsimp only); (rename Fr _ _ _ _ => F'); refine hQ _ _ _ (Fr.keep F') ?_; clear F')
  k_with "ENDA" => ((try dsimp only); (rename Fr _ _ _ _ => F'); (rename News _ _ _ _ => N'); subst hH; refine hQ _ _ _ (keepA F' N' hpre (by first | exact List.forall_mem_nil _ | (intro p hp; simp only [List.mem_cons, List.mem_nil_iff, or_false, List.not_mem_nil] at hp ⊢; first | assumption | (rcases hp with rfl | rfl | rfl <;> simp)))) ?_; clear F')
  k_with "call builtin:issubclass" => ((rename News _ _ _ _ => N'); refine' call_issub ?k1 ?_; (case k1 => exact (N' _ (by k_mem)).1); k_whole)
  k_with "ROOM" => ((case R => assumption); (case hk => decide); (case F => k_asm); (case N => k_asm); (case X => k_asm); (case T => k_asm); k_whole)
  k_with "call ref" => ((with_reducible show wpAny _ _ (call (Value.ref 94) _) _ _ _); (refine' Spec.useV (fspath_spec _ _ _) ?R ?hk ?F ?N ?X ?T ?_; walk_at "ROOM"; intro h' tk' F' N'; (try k_sweep)))
  k_with "call ref" => ((with_reducible show wpAny _ _ (call (Value.ref 108) _) _ _ _); (refine' Spec.useS (getsep_spec _ _ _) ?R ?hk ?F ?N ?X ?T ?_; walk_at "ROOM"; intro t' h' tk' F' N'; (try k_sweep)))
  exact ⟨rfl, rfl⟩

def codeOf (x : Int) : List Str := sixOf (OC x)
def idxS (s : Str) : Nat := NMS.idxOf s
def numOf (c : List Str) : Int := c.foldl (fun n s => n * 8 + (idxS s : Int)) 0
def nm (k : Nat) : Str := NMS.getD k PySem.Str.empty
def WayAt (U : List (Str × Str)) (name wy : Str) : Prop := ∃ up n r, getU U name = some up ∧ Climb U n name up r ∧ Txt.startswith r (Str.ofString "/") = false ∧ r.length ≤ 200 ∧ wy = Str.ofString "/" ++ r
structure TreeOk (x : Int) (W : List Str) : Prop where
  s1 : SixOk ((OC x).getD 0 0 + 256 * (OC x).getD 1 0)
  s2 : SixOk ((OC x).getD 2 0 + 256 * (OC x).getD 3 0)
  up : UpOk (codeOf x)
  way : ∀ k < 7, WayAt (upAll (codeOf x)) (nm k) (W.getD k PySem.Str.empty)
  wok : WaysOk W
  told : (toldSt W 6).2 = codeOf x
  mem : ∀ s ∈ codeOf x, s ∈ NMS
  num : numOf (codeOf x) = x.fmod 262144
  cnts : ∀ k < 7, cnt (W.getD k PySem.Str.empty) (W.map dn) = cnt (nm k) (codeOf x)
  eq1 : ∀ k < 7, getU (upAll (codeOf x)) (nm k) = some (Str.ofString "rwx") → Str.ofString "" ++ Str.ofString "/" ++ nm k = W.getD k PySem.Str.empty
  eq2 : ∀ k < 7, ∀ u, getU (upAll (codeOf x)) (nm k) = some u → u ≠ Str.ofString "rwx" → u ∈ NMS ∧ idxS u < 7 ∧ W.getD (idxS u) PySem.Str.empty ++ Str.ofString "/" ++ Str.ofString "/" ++ nm k = W.getD k PySem.Str.empty
  last : cnt (Str.ofString "/") (W.map dn) = cnt (Str.ofString "rwx") (codeOf x) + 1
def TreePost (cs : List (Addr × Obj)) (h : Heap) (v : Value) (h' : Heap) : Prop :=
  v = .bool true ∧ ∃ c1 c2 oc2, h'.get? 185 = some (tabFull c1 c2) ∧ h'.get? c2 = some oc2 ∧ recObj oc2 QR ∧ (cs = [(c2, oc2)] ∨ (cs = [] ∧ h.get? c2 = none))
theorem oc_len (x : Int) : (OC x).length = 4 := rfl
theorem ne_rec_cell {h₀ h : Heap} {L c K : Addr} {oc ok : Obj} {q : Str} {v : Option Value} {news : List (Addr × Obj)} (N : News h₀ L h news) (h1 : (c, oc) ∈ news) (h2 : (K, ok) ∈ news) (hr : recObj oc q) (hd : ok.data = .cell v) : c ≠ K := fun e => by
  obtain ⟨vs, t, d, _⟩ := hr
  have e1 := (N _ h1).1
  have e2 := (N _ h2).1
  have e1' : h.get? c = some oc := e1
  rw [e, e2] at e1'
  have := Option.some.inj e1'
  have e3 : ok = oc := this
  rw [e3, d] at hd; cases hd
theorem zs_names {W : List Str} {vn : List Value} (h : StrsAre vn NMS) (hW : W.length = 7) : ∃ zs : List (Value × Nat), vn.take 7 = zs.map (·.1) ∧ zs.map (fun z => W.getD z.2 PySem.Str.empty) = W ∧ ∀ z ∈ zs, z.2 < 7 ∧ ∃ t, z.1 = Value.str (nm z.2) t := by
  unfold NMS at h
  cases h with | cons _ t0 h =>
  cases h with | cons _ t1 h =>
  cases h with | cons _ t2 h =>
  cases h with | cons _ t3 h =>
  cases h with | cons _ t4 h =>
  cases h with | cons _ t5 h =>
  cases h with | cons _ t6 h =>
  match W, hW with
  | [_, _, _, _, _, _, _], _ =>
  refine ⟨[(.str (nm 0) t0, 0), (.str (nm 1) t1, 1), (.str (nm 2) t2, 2), (.str (nm 3) t3, 3), (.str (nm 4) t4, 4), (.str (nm 5) t5, 5), (.str (nm 6) t6, 6)], rfl, rfl, ?_⟩
  intro z hz
  simp only [List.mem_cons, List.not_mem_nil, or_false] at hz
  rcases hz with rfl | rfl | rfl | rfl | rfl | rfl | rfl <;> exact ⟨Nat.le_of_ble_eq_true rfl, _, rfl⟩
theorem pick7 {vn : List Value} (h : StrsAre vn NMS) : kms_pick vn none (some 7) = vn.take 7 := by
  unfold kms_pick kms_lo kms_hi
  rw [List.drop_zero, strs_len h]
  rfl
theorem up_ne {x y : Str} {v : Value} {a r : Option Value} (h : y ≠ x) (e : a = r) : (if y = x then some v else a) = r := (if_neg h).trans e
theorem n_six_number : Str.ofString "six" ≠ Str.ofString "number" := by decide +kernel
theorem n_names_number : Str.ofString "names" ≠ Str.ofString "number" := by decide +kernel
theorem n_ways_number : Str.ofString "ways" ≠ Str.ofString "number" := by decide +kernel
theorem n_x_number : Str.ofString "x" ≠ Str.ofString "number" := by decide +kernel
theorem n_six_name : Str.ofString "six" ≠ Str.ofString "name" := by decide +kernel
theorem n_names_name : Str.ofString "names" ≠ Str.ofString "name" := by decide +kernel
theorem n_ways_name : Str.ofString "ways" ≠ Str.ofString "name" := by decide +kernel
theorem n_x_name : Str.ofString "x" ≠ Str.ofString "name" := by decide +kernel
theorem n_number_name : Str.ofString "number" ≠ Str.ofString "name" := by decide +kernel
theorem n_six_holders : Str.ofString "six" ≠ Str.ofString "holders" := by decide +kernel
theorem n_names_holders : Str.ofString "names" ≠ Str.ofString "holders" := by decide +kernel
theorem n_ways_holders : Str.ofString "ways" ≠ Str.ofString "holders" := by decide +kernel
theorem n_six_k : Str.ofString "six" ≠ Str.ofString "k" := by decide +kernel
theorem n_names_k : Str.ofString "names" ≠ Str.ofString "k" := by decide +kernel
theorem n_ways_k : Str.ofString "ways" ≠ Str.ofString "k" := by decide +kernel
theorem n_holders_k : Str.ofString "holders" ≠ Str.ofString "k" := by decide +kernel
theorem n_six_up : Str.ofString "six" ≠ Str.ofString "up" := by decide +kernel
theorem n_names_up : Str.ofString "names" ≠ Str.ofString "up" := by decide +kernel
theorem n_ways_up : Str.ofString "ways" ≠ Str.ofString "up" := by decide +kernel
theorem n_holders_up : Str.ofString "holders" ≠ Str.ofString "up" := by decide +kernel
theorem n_k_up : Str.ofString "k" ≠ Str.ofString "up" := by decide +kernel
def NumInv (x : Int) (tx : Tok) (a6 an aw : Addr) (c : List Str) (led : List (Addr × Obj)) (i : Nat) (xs : List Value) (m : Str → Option Value) (news : List (Addr × Obj)) : Prop :=
  news = led ∧ m (Str.ofString "six") = some (.ref a6) ∧ m (Str.ofString "names") = some (.ref an) ∧ m (Str.ofString "ways") = some (.ref aw) ∧ m (Str.ofString "x") = some (.int x tx) ∧ (∃ t, m (Str.ofString "number") = some (.int (numOf (c.take i)) t)) ∧ StrsAre xs (c.drop i)
theorem num_snoc (l : List Str) (s : Str) : numOf (l ++ [s]) = numOf l * 8 + (idxS s : Int) := by
  unfold numOf; rw [List.foldl_append]; rfl
theorem drop_cons {c r : List Str} {s : Str} {i : Nat} (h : c.drop i = s :: r) : c.drop (i + 1) = r ∧ c.take (i + 1) = c.take i ++ [s] ∧ s ∈ c := by
  have hlt : i < c.length := by
    rcases Nat.lt_or_ge i c.length with q | q
    · exact q
    · rw [List.drop_eq_nil_of_le q] at h; cases h
  rw [List.drop_eq_getElem_cons hlt] at h
  injection h with h1 h2
  refine ⟨h2, ?_, h1 ▸ List.getElem_mem hlt⟩
  rw [List.take_add_one, List.getElem?_eq_getElem hlt, h1]; rfl
theorem item_rng {prog : Program} {w : World} {A : Around} {E : Value → Shared → Prop} {s : Shared} {value slice : PySem.Expr} {l : Addr} {vs : List Value} {ws : List Str} {i : Nat} {u : Tok} {Q : Value → Shared → Prop} (hl : s.heap.IsList l vs.toArray) (hw : StrsAre vs ws) (hi : i < ws.length) (hsz : ws.length ≤ 1000) (h : ∀ t', Q (.str (ws.getD i PySem.Str.empty) t') s)
    (hs : subscripted slice false (.ref l) (.int (0 + (i : Int) * 1) u) = operate [.ref l, .int (0 + (i : Int) * 1) u] (getItem (.ref l) (.int (0 + (i : Int) * 1) u)) := by with_unfolding_all rfl) :
    wpAny (model prog w) A (subscriptTail value slice (.ref l) (.int (0 + (i : Int) * 1) u)) Q E s := by
  refine KTb.item_list hl hw (by omega) (by omega) (by omega) (fun t' _ => ?_) hs
  have e : (0 + (i : Int) * 1).toNat = i := by omega
  rw [e]; exact h t'
theorem item_nat {prog : Program} {w : World} {A : Around} {E : Value → Shared → Prop} {s : Shared} {value slice : PySem.Expr} {l : Addr} {vs : List Value} {ws : List Str} {i : Nat} {u : Tok} {Q : Value → Shared → Prop} (hl : s.heap.IsList l vs.toArray) (hw : StrsAre vs ws) (hi : i < ws.length) (hsz : ws.length ≤ 1000) (h : ∀ t', Q (.str (ws.getD i PySem.Str.empty) t') s)
    (hs : subscripted slice false (.ref l) (.int (i : Int) u) = operate [.ref l, .int (i : Int) u] (getItem (.ref l) (.int (i : Int) u)) := by with_unfolding_all rfl) :
    wpAny (model prog w) A (subscriptTail value slice (.ref l) (.int (i : Int) u)) Q E s := by
  refine KTb.item_list hl hw (by omega) (by omega) (by omega) (fun t' _ => ?_) hs
  have e : (i : Int).toNat = i := by omega
  rw [e]; exact h t'
def ForInv (a6 an aw dh : Addr) (led : List (Addr × Obj)) (i : Nat) (xs : List Nat) (m : Str → Option Value) (news : List (Addr × Obj)) : Prop :=
  i + xs.length = 7 ∧ news = led ∧ m (Str.ofString "six") = some (.ref a6) ∧ m (Str.ofString "names") = some (.ref an) ∧ m (Str.ofString "ways") = some (.ref aw) ∧ m (Str.ofString "holders") = some (.ref dh)
theorem nm_len : ∀ i < 7, (NMS.getD i PySem.Str.empty).length ≤ 200 := by decide +kernel
theorem wl_len {W : List Str} (h : WaysOk W) {i : Nat} (hi : i < 7) : (W.getD i PySem.Str.empty).length ≤ 200 := by
  have hl : i < W.length := by rw [h.w7]; exact hi
  rw [List.getD_eq_getElem?_getD, List.getElem?_eq_getElem hl]
  exact h.small _ (List.getElem_mem hl)
theorem map_getD7 {W : List Str} (h : W.length = 7) : (List.range 7).map (fun i => dn (W.getD i PySem.Str.empty)) = W.map dn := by
  match W, h with
  | [_, _, _, _, _, _, _], _ => rfl
theorem nameA {P Q : Prop} {d a : Addr} (_ : @Ne Nat a d ∧ Q) (k : ∀ dd, dd = d → P) : P := k d rfl
theorem rec_ne185 {c1 c2 : Addr} {oc : Obj} (hr : recObj oc QR) (e : oc = tabFull c1 c2) : False := by
  obtain ⟨vs, t, d, v⟩ := hr
  subst e
  have d' : #[rawInt 147, rawInt 13, Value.ref c1, rawInt 150, rawInt 4, Value.ref c2] = vs := by injection d
  subst d'
  cases v
theorem itemU_tail {prog : Program} {w : World} {A : Around} {E : Value → Shared → Prop} {s : Shared} {h₀ : Heap} {L D : Addr} {news : List (Addr × Obj)} {o : Obj} {U : List (Str × Str)} {x y : Str} {t : Tok} {Q : Value → Shared → Prop} {kvs : List (Str × Value)} {value slice : PySem.Expr}
    (N : News h₀ L s.heap news) (hm : (D, o) ∈ news) (lo : (D == sysModules) = false) (hd : o.IsDictOf (strKind prog w) kvs) (hf : PyProof.V.FlatPairs PyData.str kvs (tabD U)) (hU : getU U x = some y) (h : ∀ t', Q (.str y t') { s with toks := s.toks + 1 })
    (hs : subscripted slice false (.ref D) (.str x t) = operate [.ref D, .str x t] (getItem (.ref D) (.str x t)) := by with_unfolding_all rfl) (hg : ∀ r, letTemporaryGo value (.ref D) r = pure () := by intro _; with_unfolding_all rfl) :
    wpAny (model prog w) A (subscriptTail value slice (.ref D) (.str x t)) Q E s := by
  have e : PySem.Spec.lookup (.str x) (tabD U) = some (.str y) := by rw [look_tab, hU]; rfl
  refine item_strTab_isSome (TabAt.ofNews N hm lo hd hf) (by rw [e]; rfl) (fun v hv => ?_) hs hg
  rw [e] at hv
  obtain ⟨t', rfl⟩ := PyProof.V.Flat.str_inv hv
  exact h _
theorem tree_spec (w : World) (x : Int) (tx : Tok) (W : List Str) (hx : TreeOk x W) {o : Obj} {cs : List (Addr × Obj)} (hT : TabL o cs) (h185 : ∀ p ∈ cs, p.1 ≠ (185 : Nat)) : SpecC w 231 20 [.int x tx] ((185, o) :: cs) [185] (fun _ => True) (TreePost cs) := by
  k_with "CompSrc" => (refine Stop.here ?_)
  k_with "CompSrcT" => (refine Stop.here ?_)
  k_with "CompEnd" => (refine Stop.here ?_)
  k_with "pyIter ref" => (refine Stop.here ?_)
  k_with "exec For Name Call cons nil" => ((rename Fr _ _ _ _ => lF'); (with_unfolding_all refine' For_turns lF' ?_); k_whole)
  k_with "exec Assign cons ListComp" => (k_dflt (refine LCg.Assign_ListComp_U (F₀ := by k_asm) (by rfl) (by with_unfolding_all rfl) (by with_unfolding_all rfl) (by decide) (by rfl) (by decide) (by rfl) (by rfl) (by rfl) ?_))
  k_with "eval ListComp" => ((rename Fr _ _ _ _ => kF); k_dflt (refine' LCg.ListComp_U kF (by with_unfolding_all rfl) (by decide) (by rfl) (by decide) (by rfl) ?_))
  k_with "call ref" => ((with_reducible show wpAny _ _ (call (Value.ref 197) _) _ _ _); (rename Fr _ _ _ _ => F'); (rename News _ _ _ _ => N'); refine' SpecA.use (octets_spec w x _) ?R ?hk F' N' ?X ?T (List.forall_mem_nil _) ?_; (case R => assumption); (case hk => decide); (case X => k_asm); (case T => k_asm); intro v' h' tk' F' N' hv'; obtain ⟨ob, tb, hv', hob⟩ := hv'; subst hv'; (try k_sweep))
  k_with "call ref" => ((with_reducible show wpAny _ _ (call (Value.ref 190) _) _ _ _); refine Stop.here ?_)
  intro A s Q E R B h0 hpre hQ
  have hA' := R.handled
  obtain ⟨hd', d', fr', gs', u'⟩ := A
  dsimp only at hA'
  subst hA'
  obtain ⟨sh, sg, sd, stk, so⟩ := s
  refine' enterCAL (n := 19) (binds := [(Str.ofString "x", .int x tx)]) ?R ?B ?h0 ?ho ?hcd ?hb ?hkind ?hnd ?h ?c1 ?c2 ?c3
  walk_at "ENTERC"
  k_cells Y
  rename _ = Data.cell _ => dc0
  (try simp only [List.cons_append, List.nil_append] at N)
  show wpAny _ _ _ _ _ _
  k_fold
  k_with "call ref" => ((with_reducible show wpAny _ _ (call (Value.ref 202) _) _ _ _); refine Stop.here ?_)
  k_steps
  (rename Fr _ _ _ _ => F'); (rename News _ _ _ _ => N')
  have hL185 : @Ne Nat (L + 1) 185 := by have := l0.1; refine neN ?_; omega
  refine Stop.go (stream_use hT h185 R (by decide) F' N' hL185 X T ?_)
  clear F' N'
  intro S D R' Lst cA cO c1 c2 oS oD oR oL oA oO oc2 h2 tk2 F2 N2 hst hrec hcs hLs hKs
  rw [hob] at hst
  k_steps
  (rename Fr _ _ _ _ => F'); (rename News _ _ _ _ => N')
  refine Stop.go (six_use hst hrec hLs hKs (oc_len x) hx.s1 hx.s2 ?_ ?_ R (by decide) F' N' X T ?_)
  · exact ⟨(oc_in x _ (.tail _ (.head _))).1, (oc_in x _ (.tail _ (.head _))).2⟩
  · exact ⟨(oc_in x _ (.tail _ (.tail _ (.tail _ (.head _))))).1, (oc_in x _ (.tail _ (.tail _ (.tail _ (.head _))))).2⟩
  clear F' N' hst hLs hKs
  intro a6 o6 h3 tk3 F3 N3 n6a n6b n6c ho6
  k_with "call ref" => ((with_reducible show wpAny _ _ (call (Value.ref 214) _) _ _ _); (rename Fr _ _ _ _ => F'); (rename News _ _ _ _ => N'); refine' SpecA.useNG (uppers_spec w a6 o6 (codeOf x) hx.up ho6) ?R ?hk F' N' ?X ?T (fun p hp => by rw [List.mem_singleton.mp hp]; exact .head _) ?_; (case R => assumption); (case hk => decide); (case X => k_asm); (case T => k_asm); intro du ou h' tk' F' N' offu hTU hsy; (try dsimp only [AllNe] at offu); (try k_sweep))
  k_with "call ref" => ((with_reducible show wpAny _ _ (call (Value.ref 209) _) _ _ _); (rename Fr _ _ _ _ => F'); (rename News _ _ _ _ => N'); refine' SpecA.useN (names_spec w) ?R ?hk F' N' ?X ?T (List.forall_mem_nil _) ?_; (case R => assumption); (case hk => decide); (case X => k_asm); (case T => k_asm); intro an on h' tk' F' N' offn hon; obtain ⟨vn, nn, hon, hvn⟩ := hon; subst hon; (try dsimp only [AllNe] at offn); (try k_sweep))
  have hc2L : @Ne Nat c2 (L + 1) := ne_rec_cell N3 (.tail _ (.head _)) (.tail _ (.tail _ (.tail _ (.head _)))) hrec dc0
  k_with "storeName" => ((with_reducible show wpAny _ _ (storeName _ (Str.ofString "uppers") _) _ _ _); (rename Fr _ _ _ _ => F'); (rename News _ _ _ _ => N'); k_dflt (refine' storeX_C F' N' ?zc ?zU ?zd ?_ ?za ?zb; (case za => rfl); (case zb => rfl); (case zc => rfl); (case zU => exact .tail offu.2.2.2.1.symm (.tail n6c.symm (.tail hc2L (.tail hL185.symm (.head (List.forall_mem_nil _)))))); (case zd => k_asm); k_whole); intro h' oU F' N' dU; (try dsimp only at N'); (try k_sweep))
  k_with "subscriptTail Name Slice ref ref" => (refine Stop.here ?_)
  k_steps
  (rename Fr _ _ _ _ => F'); (rename News _ _ _ _ => N')
  obtain ⟨zs, hz1, hz2, hz3⟩ := zs_names (W := W) hvn hx.wok.w7
  refine Stop.go (kms_slice_lit (zs := zs.map (·.1)) F' N' (N'.isList (.head _)) .none (.int _ _) (by rw [← hz1]; exact pick7 hvn) ?_ (by with_unfolding_all rfl) (by intro _; with_unfolding_all rfl) (by rw [sizeLine_eq, List.size_toArray, strs_len hvn]; decide))
  clear F' N'
  intro D7 h7 F7 N7 l7
  k_lt l7
  k_steps
  refine Stop.go (LCg.CompSrc.ledger (by exact rfl) F7 N7 (.head _) (by rw [sizeLine_eq, List.size_toArray, List.length_map, ← List.length_map (f := fun z => W.getD z.2 PySem.Str.empty), hz2, hx.wok.w7]; decide) fun g => ?_)
  refine comp_strsZ zs (fun k => W.getD k PySem.Str.empty) ?turn ?fin
  case turn =>
    intro z ys I' oI C oC D' m₂ h tk E' hz hC hx1 F1 N1 off3
    obtain ⟨hz7, tz, ez⟩ := hz3 z hz
    rw [ez] at hx1
    obtain ⟨up, n, r, hU, hCl, hr, hrl, hW⟩ := hx.way z.2 hz7
    k_with "call ref" => ((with_reducible show wpAny _ _ (call (Value.ref 221) _) _ _ _); refine Stop.here ?_)
    dsimp only
    walk1
    walk1
    k_dflt (refine LCgL.ld_global F1 X T (by k_is) ?_)
    walk1
    walk1
    k_dflt (refine lcf_cell (c := L + 1) N1 (by rfl) (by k_mem) dU ?_ (by rfl) (by rfl))
    walk1
    k_dflt (refine LCgL.ld_own N1 (.tail _ (.head _)) hC hx1 ?_)
    k_steps
    (rename Fr _ _ _ _ => F'); (rename News _ _ _ _ => N')
    refine Stop.go (SpecA.use (way_spec w du ou (upAll (codeOf x)) (nm z.2) up r tz n hTU hsy hU hCl hr hrl) R (by decide) F' N' X T (fun p hp => by rw [List.mem_singleton.mp hp]; exact .tail _ (.tail _ (.tail _ (.tail _ (.tail _ (.head _)))))) ?_)
    clear F' N'
    rintro v h9 tk9 F9 N9 ⟨t9, rfl⟩
    dsimp only
    k_steps
    exact ⟨_, _, _, rfl, F9, N9, off3, .inr ⟨_, .head _, rfl, _, rfl⟩, rfl, t9, by rw [hW]⟩
  case fin =>
    intro ys hys
    rw [hz2] at hys
    dsimp only
    k_with "call ref" => ((with_reducible show wpAny _ _ (call (Value.ref 226) _) _ _ _); refine Stop.here ?_)
    k_steps
    (rename Fr _ _ _ _ => F'); (rename News _ _ _ _ => N')
    rename D7 ≠ _ ∧ an ≠ _ ∧ _ => offw
    obtain ⟨v6, n6, rfl, hv6⟩ := ho6
    refine nameA offw fun aw haw => ?_
    subst haw
    refine Stop.go (SpecA.useN (told_spec w aw _ W hx.wok ⟨ys, _, rfl, hys⟩) R (by decide) F' N' X T (fun p hp => by rw [List.mem_singleton.mp hp]; exact .head _) ?_)
    clear F' N'
    intro at' ot h8 tk8 F8 N8 offt hot
    obtain ⟨vt, nt, rfl, hvt⟩ := hot
    rw [hx.told] at hvt
    k_with "eval Name" => ((with_reducible show wpAny _ _ (eval (Expr.Name (Str.ofString "six") _) _) _ _ _); refine Stop.here ?_)
    k_steps
    (rename Fr _ _ _ _ => F'); (rename News _ _ _ _ => N')
    refine Stop.go ?_
    k_dflt (refine' nameX_L F' ?zv ?_ ?za ?zb; (case za => rfl); (case zb => rfl); (case zv => exact rfl))
    refine (ne_strs (N'.isList (.head _)) (N'.isList (.tail _ (.tail _ (.tail _ (.tail _ (.tail _ (.head _))))))) hvt hv6 hx.mem (Nat.lt_of_le_of_lt (Nat.add_le_add_left (by decide : 64 ≤ 8 * 19) _) R.units) ?_)
    obtain ⟨m0, F5, f6, fN, fW, fX⟩ : ∃ m0, Fr H L h8 m0 ∧ m0 (Str.ofString "six") = some (.ref a6) ∧ m0 (Str.ofString "names") = some (.ref an) ∧ m0 (Str.ofString "ways") = some (.ref aw) ∧ m0 (Str.ofString "x") = some (.int x tx) := ⟨_, F', rfl, rfl, rfl, rfl⟩
    clear F'
    have N5 : News H L _ [(aw, lst ys), (an, listOf vn.toArray nn), (du, ou), (a6, listOf v6.toArray n6), (c2, oc2), (185, tabFull c1 c2), (L + 1, oU)] := fun p hp => N' p (by
      rcases List.mem_cons.mp hp with rfl | hp
      · exact .tail _ (.head _)
      · exact .tail _ (.tail _ (.tail _ hp)))
    clear N' offt l7 N7 hvt
    k_with "exec For" => (refine Stop.here ?_)
    k_steps
    (rename Fr _ _ _ _ => F'); (rename News _ _ _ _ => N')
    with_unfolding_all refine Stop.go (For_turns F' ?_)
    k_dflt (refine' nameX_L F' ?zv ?_ ?za ?zb; (case za => rfl); (case zb => rfl); (case zv => exact up_ne n_six_number f6))
    refine iter_listTurns (by exact rfl) F' N' (.tail _ (.tail _ (.tail _ (.head _)))) rfl rfl ?_
    intro I l1
    have offI : ∀ {ob : Obj}, ∀ p ∈ [(aw, lst ys), (an, listOf vn.toArray nn), (du, ou), (a6, listOf v6.toArray n6), (c2, oc2), ((185 : Addr), tabFull c1 c2), (L + 1, oU)], ∀ q ∈ [(I, ob)], p.1 ≠ q.1 := fun p hp q hq => by rw [List.mem_singleton.mp hq]; exact Nat.ne_of_lt (l1 p hp)
    rw [← vals_zip v6]
    refine' items_ind (α := Value) (item := fun _ v => Itm.val v) (keep := [(a6, listOf v6.toArray n6)])
      (Inv := NumInv x tx a6 an aw (codeOf x) [(aw, lst ys), (an, listOf vn.toArray nn), (du, ou), (a6, listOf v6.toArray n6), (c2, oc2), (185, tabFull c1 c2), (L + 1, oU)]) ?step ?done v6 0 _ _ ?i0
    case i0 => exact ⟨rfl, up_ne n_six_number f6, up_ne n_names_number fN, up_ne n_ways_number fW, up_ne n_x_number fX, ⟨_, if_pos rfl⟩, hv6⟩
    case step =>
      clear F' N'
      rintro i v xs m news vv h tk ⟨rfl, g6, gN, gW, gX, ⟨tn, gn⟩, hxs⟩ hv F1 ob1 hob1 N1
      have hv' : vv = v := hv
      subst hv'
      generalize hd : (codeOf x).drop i = d at hxs
      cases hxs with | cons s ts hxs =>
      obtain ⟨d1, d2, d3⟩ := drop_cons hd
      have hsm := hx.mem s d3
      dsimp only [List.cons_append, List.nil_append] at N1
      k_with "eval Name" => ((with_reducible show wpAny _ _ (eval (Expr.Name (Str.ofString "number") _) _) _ _ _); (rename Fr _ _ _ _ => kF); k_dflt (refine' nameX_L kF ?zv ?_ ?za ?zb; (case za => rfl); (case zb => rfl); (case zv => exact up_ne n_number_name gn)))
      k_with "eval Name" => ((with_reducible show wpAny _ _ (eval (Expr.Name (Str.ofString "names") _) _) _ _ _); (rename Fr _ _ _ _ => kF); k_dflt (refine' nameX_L kF ?zv ?_ ?za ?zb; (case za => rfl); (case zb => rfl); (case zv => exact up_ne n_names_name gN)))
      k_with "eval Name" => ((with_reducible show wpAny _ _ (eval (Expr.Name (Str.ofString "name") _) _) _ _ _); (rename Fr _ _ _ _ => kF); k_dflt (refine' nameX_L kF ?zv ?_ ?za ?zb; (case za => rfl); (case zb => rfl); (case zv => exact if_pos rfl)))
      k_with "call builtin:list.index" => ((rename News _ _ _ _ => kN); k_dflt (refine index_strs (kN.isList (.tail _ (.tail _ (.head _)))) hvn hsm (by decide) ?_))
      k_steps
      (rename Fr _ _ _ _ => F'); (rename News _ _ _ _ => N')
      exact ⟨_, _, _, [(aw, lst ys), (an, listOf vn.toArray nn), (du, ou), (a6, listOf v6.toArray n6), (c2, oc2), (185, tabFull c1 c2), (L + 1, oU)], rfl, F', N', offI, ⟨.tail _ (.tail _ (.tail _ (.head _))), trivial⟩, rfl, up_ne n_six_number (up_ne n_six_name g6), up_ne n_names_number (up_ne n_names_name gN), up_ne n_ways_number (up_ne n_ways_name gW), up_ne n_x_number (up_ne n_x_name gX), ⟨_, (if_pos rfl).trans (by rw [d2, num_snoc]; rfl)⟩, by rw [d1]; exact hxs⟩
    case done =>
      clear F' N'
      rintro i m news h tk ⟨rfl, g6, gN, gW, gX, ⟨tn, gn⟩, hxs⟩ F1 N1
      have hnil : (codeOf x).drop i = [] := by
        generalize (codeOf x).drop i = d at hxs
        cases hxs; rfl
      have htake : (codeOf x).take i = codeOf x := by
        have := List.take_append_drop i (codeOf x)
        rw [hnil, List.append_nil] at this; exact this
      rw [htake, hx.num] at gn
      k_with "eval Name" => ((with_reducible show wpAny _ _ (eval (Expr.Name (Str.ofString "number") _) _) _ _ _); (rename Fr _ _ _ _ => kF); k_dflt (refine' nameX_L kF ?zv ?_ ?za ?zb; (case za => rfl); (case zb => rfl); (case zv => exact gn)))
      k_with "eval Name" => ((with_reducible show wpAny _ _ (eval (Expr.Name (Str.ofString "x") _) _) _ _ _); (rename Fr _ _ _ _ => kF); k_dflt (refine' nameX_L kF ?zv ?_ ?za ?zb; (case za => rfl); (case zb => rfl); (case zv => exact gX)))
      k_with "eval Name" => ((with_reducible show wpAny _ _ (eval (Expr.Name (Str.ofString "ways") _) _) _ _ _); (rename Fr _ _ _ _ => kF); k_dflt (refine' nameX_L kF ?zv ?_ ?za ?zb; (case za => rfl); (case zb => rfl); (case zv => exact gW)))
      k_steps
      · rename Int.fmod _ _ ≠ _ => q
        exact absurd rfl q
      (rename Fr _ _ _ _ => F'); (rename News _ _ _ _ => N')
      refine Stop.go (LCg.CompSrc.ledger (by exact rfl) F' N' (.head _) (by rw [sizeLine_eq, List.size_toArray, strs_len hys, hx.wok.w7]; decide) fun g => ?_)
      have hysz : ys.toArray.size = 7 := by rw [List.size_toArray, strs_len hys, hx.wok.w7]
      refine comp_strs (fun i => dn (W.getD i PySem.Str.empty)) ?turn ?fin
      case turn =>
        intro j v' ws' I' oI C oC D' m₂ h tk E' hj hP hC hx1 F1 N1 off3
        have hW : W[j]? = some (W.getD j PySem.Str.empty) := by rw [List.getD_eq_getElem?_getD, List.getElem?_eq_getElem (by rw [hx.wok.w7]; omega)]; rfl
        obtain ⟨tj, ej⟩ := strs_at j hys hW
        have ev : v' = .str (W.getD j PySem.Str.empty) tj := by
          have hP' : ys[j]? = some v' := by simpa using hP
          exact Option.some.inj (hP'.symm.trans ej)
        subst ev
        k_with "call ref" => ((with_reducible show wpAny _ _ (call (Value.ref 129) _) _ _ _); (refine' Spec.useS (dirname_spec w _ _ (hx.wok.small _ (List.mem_of_getElem? hW))) ?R ?hk ?F ?N ?X ?T ?_; walk_at "ROOM"; intro t' h' tk' F' N'; (try k_sweep)))
        dsimp only
        k_steps
        (rename Fr _ _ _ _ => F'); (rename News _ _ _ _ => N')
        exact Stop.go ⟨_, _, _, rfl, F', N', off3, .inr ⟨_, .head _, rfl, _, rfl⟩, rfl, _, rfl⟩
      case fin =>
        intro hs hhs
        rw [hysz] at hhs
        have hhs' : StrsAre hs (W.map dn) := by rw [← map_getD7 hx.wok.w7]; exact hhs
        dsimp only
        k_steps
        rename aw ≠ _ ∧ an ≠ _ ∧ _ => offh
        (rename Fr _ _ _ _ => F'); (rename News _ _ _ _ => N'); (rename IsRange _ _ _ _ _ _ _ _ => hr')
        refine nameA offh fun dh hdh => ?_
        subst hdh
        refine Stop.go (iter_rng (n := 7) (by exact rfl) F' N' hr' (by decide) (by decide) ?_)
        intro I2 l2
        have offI : ∀ {ob : Obj}, ∀ p ∈ [(dh, lst hs), (aw, lst ys), (an, listOf vn.toArray nn), (du, ou), (a6, listOf v6.toArray n6), (c2, oc2), ((185 : Addr), tabFull c1 c2), (L + 1, oU)], ∀ q ∈ [(I2, ob)], p.1 ≠ q.1 := fun p hp q hq => by rw [List.mem_singleton.mp hq]; exact Nat.ne_of_lt (l2 p hp)
        refine' items_ind (α := Nat) (item := fun i _ => Itm.tok fun t => .int (0 + ((i : Nat) : Int) * 1) t)
          (Inv := ForInv a6 an aw dh [(dh, lst hs), (aw, lst ys), (an, listOf vn.toArray nn), (du, ou), (a6, listOf v6.toArray n6), (c2, oc2), ((185 : Addr), tabFull c1 c2), (L + 1, oU)]) ?step ?done (List.range 7) 0 _ _ ?i0
        case i0 => exact ⟨rfl, rfl, up_ne n_six_holders g6, up_ne n_names_holders gN, up_ne n_ways_holders gW, if_pos rfl⟩
        case step =>
          clear F' N' hr' g6 gN gW gX gn
          rintro i y xs m news v h tk ⟨hi, rfl, g6, gN, gW, gH⟩ ⟨t, rfl⟩ F1 ob1 hob1 N1
          have hlt : i < 7 := by simp only [List.length_cons] at hi; omega
          obtain ⟨up, nC, r, hU, hCl, hr, hrl, hWi⟩ := hx.way i hlt
          obtain ⟨kvs, hdT, hfT⟩ := hTU
          have hnl : (NMS.getD i PySem.Str.empty).length ≤ 200 := nm_len i hlt
          have hWl : (W.getD i PySem.Str.empty).length ≤ 200 := wl_len hx.wok hlt
          dsimp only [List.cons_append, List.nil_append] at N1
          k_with "eval Name" => ((with_reducible show wpAny _ _ (eval (Expr.Name (Str.ofString "holders") _) _) _ _ _); (rename Fr _ _ _ _ => kF); k_dflt (refine' nameX_L kF ?zv ?_ ?za ?zb; (case za => rfl); (case zb => rfl); (case zv => exact up_ne n_holders_k gH)))
          k_with "eval Name" => ((with_reducible show wpAny _ _ (eval (Expr.Name (Str.ofString "ways") _) _) _ _ _); (rename Fr _ _ _ _ => kF); k_dflt (refine' nameX_L kF ?zv ?_ ?za ?zb; (case za => rfl); (case zb => rfl); (case zv => first | with_reducible exact up_ne n_ways_k gW | with_reducible exact up_ne n_ways_up (up_ne n_ways_k gW))))
          k_with "eval Name" => ((with_reducible show wpAny _ _ (eval (Expr.Name (Str.ofString "names") _) _) _ _ _); (rename Fr _ _ _ _ => kF); k_dflt (refine' nameX_L kF ?zv ?_ ?za ?zb; (case za => rfl); (case zb => rfl); (case zv => first | with_reducible exact up_ne n_names_k gN | with_reducible exact up_ne n_names_up (up_ne n_names_k gN))))
          k_with "eval Name" => ((with_reducible show wpAny _ _ (eval (Expr.Name (Str.ofString "six") _) _) _ _ _); (rename Fr _ _ _ _ => kF); k_dflt (refine' nameX_L kF ?zv ?_ ?za ?zb; (case za => rfl); (case zb => rfl); (case zv => exact up_ne n_six_k g6)))
          k_with "eval Name" => ((with_reducible show wpAny _ _ (eval (Expr.Name (Str.ofString "k") _) _) _ _ _); (rename Fr _ _ _ _ => kF); k_dflt (refine' nameX_L kF ?zv ?_ ?za ?zb; (case za => rfl); (case zb => rfl); (case zv => first | with_reducible exact if_pos rfl | with_reducible exact up_ne n_k_up (if_pos rfl))))
          k_with "subscriptTail Name Name ref int" => ((rename News _ _ _ _ => kN); k_dflt (first | refine item_rng (kN.isList (.tail _ (.tail _ (.head _)))) hys (by rw [hx.wok.w7]; exact hlt) (by rw [hx.wok.w7]; decide) ?_ | refine item_rng (kN.isList (.tail _ (.tail _ (.tail _ (.head _))))) hvn (Nat.lt_succ_of_lt hlt) (by decide) ?_); intro tq)
          k_with "call builtin:list.count" => ((rename News _ _ _ _ => kN); k_dflt (first | refine count_strs (kN.isList (.tail _ (.head _))) hhs' ?_ | refine count_strs (kN.isList (.tail _ (.tail _ (.tail _ (.tail _ (.tail _ (.head _))))))) hv6 ?_))
          k_with "subscriptTail Name Subscript ref str" => ((rename News _ _ _ _ => kN); k_dflt (refine itemU_tail kN (.tail _ (.tail _ (.tail _ (.tail _ (.head _))))) hsy hdT hfT hU ?_); intro tu)
          k_with "eval Name" => ((with_reducible show wpAny _ _ (eval (Expr.Name (Str.ofString "up") _) _) _ _ _); (rename Fr _ _ _ _ => kF); k_dflt (refine' nameX_L kF ?zv ?_ ?za ?zb; (case za => rfl); (case zb => rfl); (case zv => exact if_pos rfl)))
          k_steps
          · rename (Nat.cast (cnt _ _) : Int) ≠ _ => q
            exact absurd (congrArg Nat.cast (hx.cnts i hlt)) q
          · rename (up == _) = true => qu
            rename (_ != _) = true => q
            exact absurd (hx.eq1 i hlt (eq_of_beq qu ▸ hU)).symm (bne_iff_ne.mp q)
          · exact ⟨_, _, _, [(dh, lst hs), (aw, lst ys), (an, listOf vn.toArray nn), (du, ou), (a6, listOf v6.toArray n6), (c2, oc2), ((185 : Addr), tabFull c1 c2), (L + 1, oU)], rfl, kF, kN, offI, trivial, by simp only [List.length_cons] at hi; omega, rfl, up_ne n_six_up (up_ne n_six_k g6), up_ne n_names_up (up_ne n_names_k gN), up_ne n_ways_up (up_ne n_ways_k gW), up_ne n_holders_up (up_ne n_holders_k gH)⟩
          · rename (up == _) = false => qu
            obtain ⟨hm, hi7, he⟩ := hx.eq2 i hlt up hU (fun e => by rw [e, beq_self_eq_true] at qu; cases qu)
            refine index_strs (kN.isList (.tail _ (.tail _ (.tail _ (.head _))))) hvn hm (by decide) ?_
            dsimp only
            refine item_nat (kN.isList (.tail _ (.tail _ (.head _)))) hys (by rw [hx.wok.w7]; exact hi7) (by rw [hx.wok.w7]; decide) ?_
            intro tq2
            have hWl2 : (W.getD (NMS.idxOf up) PySem.Str.empty).length ≤ 200 := wl_len hx.wok hi7
            k_steps
            · rename (_ != _) = true => q
              exact absurd he.symm (bne_iff_ne.mp q)
            · exact ⟨_, _, _, [(dh, lst hs), (aw, lst ys), (an, listOf vn.toArray nn), (du, ou), (a6, listOf v6.toArray n6), (c2, oc2), ((185 : Addr), tabFull c1 c2), (L + 1, oU)], rfl, kF, kN, offI, trivial, by simp only [List.length_cons] at hi; omega, rfl, up_ne n_six_up (up_ne n_six_k g6), up_ne n_names_up (up_ne n_names_k gN), up_ne n_ways_up (up_ne n_ways_k gW), up_ne n_holders_up (up_ne n_holders_k gH)⟩
        case done =>
          rintro i m news h tk ⟨hi, rfl, g6, gN, gW, gH⟩ F1 N1
          k_with "eval Name" => ((with_reducible show wpAny _ _ (eval (Expr.Name (Str.ofString "holders") _) _) _ _ _); (rename Fr _ _ _ _ => kF); k_dflt (refine' nameX_L kF ?zv ?_ ?za ?zb; (case za => rfl); (case zb => rfl); (case zv => exact gH)))
          k_with "eval Name" => ((with_reducible show wpAny _ _ (eval (Expr.Name (Str.ofString "six") _) _) _ _ _); (rename Fr _ _ _ _ => kF); k_dflt (refine' nameX_L kF ?zv ?_ ?za ?zb; (case za => rfl); (case zb => rfl); (case zv => exact g6)))
          k_with "call builtin:list.count" => ((rename News _ _ _ _ => kN); k_dflt (first | refine count_strs (kN.isList (.head _)) hhs' ?_ | refine count_strs (kN.isList (.tail _ (.tail _ (.tail _ (.tail _ (.head _)))))) hv6 ?_))
          k_steps
          have ev : Value.bool (((cnt (Str.ofString "/") (W.map dn) : Nat) : Int) == ((cnt (Str.ofString "rwx") (sixOf (OC x)) : Nat) : Int) + 1) = .bool true := by
            have e : cnt (Str.ofString "/") (W.map dn) = cnt (Str.ofString "rwx") (sixOf (OC x)) + 1 := hx.last
            rw [e, Int.natCast_add]
            exact congrArg Value.bool (beq_self_eq_true _)
          rw [ev]
          have F' := hH ▸ kF
          have N' := hH ▸ kN
          have n185 := (N' (185, _) (.tail _ (.tail _ (.tail _ (.tail _ (.tail _ (.tail _ (.head _)))))))).1
          have nc2 := N' (c2, _) (.tail _ (.tail _ (.tail _ (.tail _ (.tail _ (.head _))))))
          have hne : c2 ≠ (185 : Nat) := fun e => rec_ne185 hrec (by
            have e1 : h.get? c2 = some oc2 := nc2.1
            rw [e] at e1
            exact Option.some.inj (e1.symm.trans n185))
          refine hQ _ _ _ (keepC (C := [185]) F' N' h0 (List.forall_mem_cons.mpr ⟨.inl (.head _), fun p hp => ?_⟩)) ⟨rfl, c1, c2, oc2, n185, nc2.1, hrec, ?_⟩
          · rcases hcs with e | e
            · rw [e] at hp; cases hp
            · rw [e] at hp
              rw [List.mem_singleton.mp hp]
              exact .inr (.tail _ (.tail _ (.tail _ (.tail _ (.tail _ (.head _))))))
          · rcases hcs with e | e
            · refine .inr ⟨e, ?_⟩
              subst e
              exact (strm_new (N0 := [(185, o)]) N' (fun p hp => by rw [List.mem_singleton.mp hp]; exact fun q => hne q.symm) (.tail _ (.tail _ (.tail _ (.tail _ (.tail _ (.head _))))))).1
            · exact .inl e
end Mine
end
section
open PySem PySem.W PyProof.Rows PySem.Calls Builtin.Str
set_option maxRecDepth 100000
set_option maxHeartbeats 1000000
namespace Mine
abbrev cl (x : Str) : List Nat := x.cps.toList
theorem cl_ext {x y : Str} (h : cl x = cl y) : x = y := Str.ext' (Array.toList_inj.mp h)
theorem cl_app (x y : Str) : cl (x ++ y) = cl x ++ cl y := by
  show (x.cps ++ y.cps).toList = _
  simp
theorem cl_len (x : Str) : x.length = (cl x).length := rfl
theorem slice_cl (x : Str) {a b : Nat} (hab : a ≤ b) (hb : b ≤ x.length) : cl (Txt.slice x (some (a : Int)) (some (b : Int))) = ((cl x).drop a).take (b - a) := by
  unfold Txt.slice
  have hs := StrLaws.sliced_plain x hab hb
  have hl : (strSliceIndices (some (a : Int)) (some (b : Int)) 1 x.length).length = b - a := by rw [StrLaws.strSliceIndices_plain hab hb]; simp
  split
  · rename_i h
    have h' : b - a = x.length := by rw [hl] at h; simpa using h
    have ha : a = 0 := by omega
    subst ha
    have hx : (cl x).length = b - 0 := by rw [← cl_len]; omega
    rw [List.drop_zero, ← hx, List.take_length]
  · show ((strSliceIndices (some (a : Int)) (some (b : Int)) 1 x.length).filterMap (x.cps[·]?)).toArray.toList = _
    rw [hs]
theorem slice_from (x : Str) {a : Nat} (ha : a ≤ x.length) : cl (Txt.slice x (some (a : Int)) none) = (cl x).drop a := by
  have e : Txt.slice x (some (a : Int)) none = Txt.slice x (some (a : Int)) (some (x.length : Int)) := by unfold Txt.slice; rw [StrLaws.sliceIdx_none_hi]
  rw [e, slice_cl x ha (Nat.le_refl _)]
  exact List.take_of_length_le (by rw [List.length_drop, ← cl_len]; omega)
theorem slice_to (x : Str) {b : Nat} (hb : b ≤ x.length) : cl (Txt.slice x none (some (b : Int))) = (cl x).take b := by
  have e : Txt.slice x none (some (b : Int)) = Txt.slice x (some ((0 : Nat) : Int)) (some (b : Int)) := by unfold Txt.slice; rw [StrLaws.sliceIdx_none_lo]; rfl
  rw [e, slice_cl x (Nat.zero_le _) hb]; rfl
theorem cl_sl : cl (Str.ofString "/") = [47] := by decide +kernel
theorem at_iff (x : Str) (i : Nat) : StrLaws.At x (Str.ofString "/") x.length i ↔ (cl x)[i]? = some 47 := by
  unfold StrLaws.At
  rw [StrLaws.subAt_eq]
  have e1 : (Str.ofString "/").length = 1 := by decide +kernel
  rw [e1]
  show (_ ∧ (((cl x).drop i).take 1 == cl (Str.ofString "/")) = true) ↔ _
  rw [cl_sl, beq_iff_eq, cl_len]
  constructor
  · rintro ⟨h, e⟩
    have hlt : i < (cl x).length := by omega
    rw [List.drop_eq_getElem_cons hlt] at e
    rw [List.getElem?_eq_getElem hlt]
    simpa using e
  · intro e
    have hlt : i < (cl x).length := by
      rcases Nat.lt_or_ge i (cl x).length with q | q
      · exact q
      · rw [List.getElem?_eq_none q] at e; cases e
    refine ⟨by omega, ?_⟩
    rw [List.drop_eq_getElem_cons hlt]
    rw [List.getElem?_eq_getElem hlt] at e
    simpa using e
theorem rfind_last {x : Str} {P n : List Nat} (h : cl x = P ++ 47 :: n) (hn : 47 ∉ n) : Txt.rfind x (Str.ofString "/") = (P.length : Int) := by
  have hP : StrLaws.At x (Str.ofString "/") x.length P.length := (at_iff x _).mpr (by rw [h]; simp)
  unfold Txt.rfind
  rcases StrLaws.last_spec x (Str.ofString "/") with ⟨_, q⟩ | ⟨i, e, hi, hk⟩
  · exact absurd hP (q _)
  · rw [e]
    have hle : P.length ≤ i := Nat.le_of_not_lt fun q => hk _ q hP
    have hi' := (at_iff x i).mp hi
    rw [h, List.getElem?_append_right hle] at hi'
    rcases Nat.eq_or_lt_of_le hle with q | q
    · rw [← q]
    · exfalso
      have : ∃ j, i - P.length = j + 1 := ⟨i - P.length - 1, by omega⟩
      obtain ⟨j, ej⟩ := this
      rw [ej, List.getElem?_cons_succ] at hi'
      exact hn (List.mem_of_getElem? hi')
theorem bn_last {x : Str} {P n : List Nat} (h : cl x = P ++ 47 :: n) (hn : 47 ∉ n) : cl (bn x) = n := by
  have hl : P.length + 1 ≤ x.length := by rw [cl_len, h]; simp
  unfold bn
  rw [rfind_last h hn, show ((P.length : Int) + 1) = ((P.length + 1 : Nat) : Int) by omega, slice_from x hl, h]
  rw [show P.length + 1 = P.length + 1 from rfl, List.drop_append]
  simp
theorem hd_last {x : Str} {P n : List Nat} (h : cl x = P ++ 47 :: n) (hn : 47 ∉ n) : cl (hdOf x) = P ++ [47] := by
  have hl : P.length + 1 ≤ x.length := by rw [cl_len, h]; simp
  unfold hdOf
  rw [rfind_last h hn, show ((P.length : Int) + 1) = ((P.length + 1 : Nat) : Int) by omega, slice_to x hl, h, List.take_append]
  rw [List.take_of_length_le (Nat.le_succ _)]
  simp
/-- the root's child -/
theorem dn_top {x : Str} {n : List Nat} (h : cl x = 47 :: n) (hn : 47 ∉ n) : dn x = Str.ofString "/" := by
  have hh : hdOf x = Str.ofString "/" := cl_ext (by rw [hd_last (P := []) h hn, cl_sl]; rfl)
  unfold dn
  rw [hh]
  decide +kernel
theorem fold_mem (c : Nat) : ∀ (l : List (Array Nat)) (acc : Array Nat), (∀ d ∈ acc.toList, d = c) → (∀ a ∈ l, ∀ d ∈ a.toList, d = c) → ∀ d ∈ (l.foldl (· ++ ·) acc).toList, d = c
  | [], _, h, _ => h
  | a :: l, acc, h, hl => fold_mem c l (acc ++ a) (fun d hd => by
      rw [Array.toList_append] at hd
      rcases List.mem_append.mp hd with q | q
      · exact h d q
      · exact hl a (.head _) d q) fun b hb => hl b (.tail _ hb)
theorem mem_mul (k : Int) : ∀ c ∈ cl (Txt.mul (Str.ofString "/") k), c = 47 := by
  intro c hc
  unfold Txt.mul at hc
  split at hc
  · simp [cl, Str.empty] at hc
  · split at hc
    · rw [cl_sl] at hc; simpa using hc
    · refine fold_mem 47 _ #[] (fun d hd => by simp at hd) (fun a ha d hd => ?_) c hc
      have e := List.eq_of_mem_replicate ha
      rw [e] at hd
      have hd' : d ∈ cl (Str.ofString "/") := hd
      rw [cl_sl] at hd'
      simpa using hd'
theorem dn_deep {x : Str} {P n : List Nat} {ch : Nat} (h : cl x = P ++ [ch] ++ [47, 47] ++ n) (hc : ch ≠ 47) (hn : 47 ∉ n) : cl (dn x) = P ++ [ch] := by
  have hh : cl (hdOf x) = P ++ [ch] ++ [47, 47] := by
    have := hd_last (x := x) (P := P ++ [ch] ++ [47]) (n := n) (by rw [h]; simp) hn
    rw [this]; simp
  have hlen : (hdOf x).length = P.length + 3 := by rw [cl_len, hh]; simp
  unfold dn
  rw [if_neg (by omega), if_pos]
  · unfold Txt.rstripChars Txt.stripBy
    have hlo : stripLo (Str.ofString "/").cps.contains false (hdOf x) = 0 := rfl
    have c47 : (Str.ofString "/").cps.contains 47 = true := by decide +kernel
    have cch : (Str.ofString "/").cps.contains ch = false := by
      have e : (Str.ofString "/").cps = #[47] := by decide +kernel
      rw [e]; simp; exact fun q => hc q
    have hhi : stripHi (Str.ofString "/").cps.contains true (hdOf x) 0 = P.length + 1 := by
      unfold stripHi
      rw [if_pos rfl, List.drop_zero]
      show (hdOf x).length - ((cl (hdOf x)).reverse.takeWhile _).length = _
      rw [hlen, hh]
      simp only [List.reverse_append, List.reverse_cons, List.reverse_nil, List.nil_append, List.cons_append, List.takeWhile_cons, c47, cch, if_true, Bool.false_eq_true, if_false]
      simp
    have hs : stripSame (Str.ofString "/").cps.contains false true (hdOf x) = false := by
      unfold stripSame
      rw [hlo, hhi, hlen]
      simp
    rw [hs, if_neg Bool.false_ne_true]
    unfold PySem.stripped
    rw [hlo, hhi]
    show (strSub (hdOf x) 0 (P.length + 1)).cps.toList = _
    rw [StrLaws.strSub_toList, List.drop_zero]
    show (cl (hdOf x)).take _ = _
    rw [hh, show P.length + 1 - 0 = (P ++ [ch]).length by simp, List.take_left']
    rfl
  · rw [bne_iff_ne]
    intro e
    have : ch ∈ cl (hdOf x) := by rw [hh]; simp
    rw [e] at this
    exact hc (mem_mul _ _ this)
end Mine
end
section
open PySem PySem.W PyProof.Rows PySem.Calls Builtin.Str
set_option maxRecDepth 100000
set_option maxHeartbeats 1000000
namespace Mine
theorem nms_nodup : NMS.Nodup := by decide +kernel
def notIn (m : List Str) (n : Str) : Bool := !(m.any (· == n))
theorem notIn_iff {m : List Str} {n : Str} : notIn m n = true ↔ n ∉ m := by
  unfold notIn
  rw [Bool.not_eq_true', List.any_eq_false]
  constructor
  · intro h q
    exact h n q (beq_self_eq_true n)
  · intro h x hx e
    exact h (eq_of_beq e ▸ hx)
theorem filt_len : ∀ (m l : List Str), l.Nodup → l.length ≤ (l.filter (notIn m)).length + m.length
  | [], l, _ => by
    have : l.filter (notIn []) = l := List.filter_eq_self.mpr fun n _ => notIn_iff.mpr (fun h => nomatch h)
    rw [this]; exact Nat.le_refl _
  | x :: m, l, h => by
    have ih := filt_len m (l.erase x) (h.sublist List.erase_sublist)
    have e1 : l.length ≤ (l.erase x).length + 1 := by
      rw [List.length_erase]; split <;> omega
    have e2 : (l.erase x).filter (notIn m) = l.filter (notIn (x :: m)) := by
      rw [h.erase_eq_filter, List.filter_filter]
      refine List.filter_congr fun n _ => ?_
      rw [Bool.eq_iff_iff, Bool.and_eq_true, notIn_iff, notIn_iff, bne_iff_ne, List.mem_cons, not_or]
      exact And.comm
    rw [e2] at ih
    rw [List.length_cons]
    omega
theorem rwx_eq : RWX = Str.ofString "rwx" := rfl
structure Stg (c : List Str) (k : Nat) : Prop where
  sub : (upSt c k).1.Sublist NMS
  len : (upSt c k).1.length = 8 - k
  mem : ∀ s ∈ c.drop k, s ∈ (upSt c k).1
  off : ∀ p ∈ (upSt c k).2, p.1 ∉ (upSt c k).1
  perm : NMS.Perm ((upSt c k).2.map (·.1) ++ (upSt c k).1)
  lastR : ∃ r, (upSt c k).1 = r ++ [RWX]
  vals : (upSt c k).2.map (·.2) = c.take k
/-- the least that is named no more -/
theorem Stg.least {c : List Str} {k : Nat} (h : Stg c k) (h6 : c.length = 6) (hk : k < 6) :
    ∃ l r, (upSt c k).1.filter (notIn (c.drop k)) = l :: r ∧ l = leastOf (upSt c k).1 (c.drop k) ∧ l ∈ (upSt c k).1 ∧ l ∉ c.drop k ∧ l ≠ RWX ∧ ∃ s, (upSt c k).1 = s ++ [RWX] ∧ l ∈ s := by
  have nd : (upSt c k).1.Nodup := nms_nodup.sublist h.sub
  have hl := filt_len (c.drop k) (upSt c k).1 nd
  rw [h.len, List.length_drop, h6] at hl
  obtain ⟨s, hs⟩ := h.lastR
  have hf : (upSt c k).1.filter (notIn (c.drop k)) = s.filter (notIn (c.drop k)) ++ [RWX].filter (notIn (c.drop k)) := by rw [hs, List.filter_append]
  have h1 : ([RWX].filter (notIn (c.drop k))).length ≤ 1 := List.length_filter_le _ _
  rw [hf, List.length_append] at hl
  cases hq : s.filter (notIn (c.drop k)) with
  | nil => rw [hq] at hl; simp only [List.length_nil] at hl; omega
  | cons l r =>
    have hls : l ∈ s.filter (notIn (c.drop k)) := by rw [hq]; exact .head _
    have hm := List.mem_filter.mp hls
    have hlR : l ∈ (upSt c k).1 := by rw [hs]; exact List.mem_append_left _ hm.1
    refine ⟨l, r ++ [RWX].filter (notIn (c.drop k)), by rw [hf, hq]; rfl, ?_, hlR, notIn_iff.mp hm.2, fun e => ?_, s, hs, hm.1⟩
    · show l = ((upSt c k).1.filter (notIn (c.drop k))).headD _
      rw [hf, hq]; rfl
    · rw [hs] at nd
      have := (List.nodup_append.mp nd).2.2 l hm.1 RWX (.head _)
      exact this e
theorem stg (c : List Str) (h6 : c.length = 6) (hc : ∀ s ∈ c, s ∈ NMS) : ∀ k ≤ 6, Stg c k
  | 0, _ => ⟨List.Sublist.refl _, rfl, fun s hs => hc s (by simpa using hs), (fun _ h => nomatch h), List.Perm.refl _, ⟨NMS.take 7, (by decide +kernel : NMS = NMS.take 7 ++ [RWX])⟩, by rw [List.take_zero]; rfl⟩
  | k + 1, hk => by
    have h := stg c h6 hc k (by omega)
    obtain ⟨l, r, hF, hl, hlR, hlc, hlw, s, hs, hls⟩ := h.least h6 (by omega)
    have nd : (upSt c k).1.Nodup := nms_nodup.sublist h.sub
    have e1 : (upSt c (k + 1)).1 = (upSt c k).1.erase l := by rw [hl]; rfl
    have e2 : (upSt c (k + 1)).2 = (upSt c k).2 ++ [(l, c.getD k (Str.ofString ""))] := by rw [hl]; rfl
    have hgk : c.take (k + 1) = c.take k ++ [c.getD k (Str.ofString "")] := by
      rw [List.take_add_one, List.getD_eq_getElem?_getD, List.getElem?_eq_getElem (by omega)]; rfl
    refine ⟨?_, ?_, ?_, ?_, ?_, ?_, ?_⟩
    · rw [e1]; exact List.erase_sublist.trans h.sub
    · rw [e1, List.length_erase_of_mem hlR, h.len]; omega
    · intro x hx
      rw [e1]
      have hx' : x ∈ c.drop k := by
        rw [← List.drop_drop] at hx
        exact List.mem_of_mem_drop hx
      exact (List.mem_erase_of_ne (fun e => hlc (by rw [← e]; exact hx'))).mpr (h.mem x hx')
    · intro p hp
      rw [e2] at hp
      rw [e1]
      rcases List.mem_append.mp hp with hp | hp
      · exact fun q => h.off p hp (List.mem_of_mem_erase q)
      · rw [List.mem_singleton.mp hp]
        exact fun q => (nd.mem_erase_iff.mp q).1 rfl
    · rw [e1, e2, List.map_append]
      refine h.perm.trans ?_
      rw [List.append_assoc]
      exact (List.perm_cons_erase hlR).append_left _
    · rw [e1]
      refine ⟨s.erase l, ?_⟩
      rw [hs, List.erase_append_left _ hls]
    · rw [e2, List.map_append, h.vals, hgk]; rfl
end Mine
end
section
open PySem PySem.W PyProof.Rows PySem.Calls Builtin.Str
set_option maxRecDepth 100000
set_option maxHeartbeats 1000000
namespace Mine
abbrev NoS : Str := Str.ofString ""
def K (c : List Str) (i : Nat) : Str := ((upAll c).getD i (NoS, NoS)).1
def V (c : List Str) (i : Nat) : Str := ((upAll c).getD i (NoS, NoS)).2
/-- how the names hang together -/
structure Par (c : List Str) : Prop where
  len : (upAll c).length = 7
  keys : (NMS.take 7).Perm ((upAll c).map (·.1))
  vals : (upAll c).map (·.2) = c ++ [RWX]
  order : ∀ i < 7, V c i = RWX ∨ ∃ j, i < j ∧ j < 7 ∧ K c j = V c i
  keyL : ∀ k < 6, K c k = leastOf (upSt c k).1 (c.drop k)
  valC : ∀ k < 6, V c k = c.getD k NoS
section
variable {c : List Str} (h6 : c.length = 6) (hc : ∀ s ∈ c, s ∈ NMS)
include h6 hc
theorem st_last : ∃ a, (upSt c 6).1 = [a, RWX] ∧ upAll c = (upSt c 6).2 ++ [(a, RWX)] := by
  have h := stg c h6 hc 6 (Nat.le_refl _)
  obtain ⟨r, hr⟩ := h.lastR
  have hl := h.len
  rw [hr, List.length_append] at hl
  match r, hl with
  | [a], _ => exact ⟨a, hr, by unfold upAll; rw [hr]; rfl⟩
theorem upOk : UpOk c where
  len := h6
  ne := fun k hk => by
    obtain ⟨l, r, hF, _⟩ := (stg c h6 hc k (by omega)).least h6 hk
    have : ((upSt c k).1.filter fun n => !((c.drop k).any (· == n))) = l :: r := hF
    rw [this]; simp
  fresh := fun k hk q => by
    have h := stg c h6 hc k (by omega)
    obtain ⟨l, r, hF, hl, hlR, _⟩ := h.least h6 hk
    obtain ⟨p, hp, e⟩ := List.mem_map.mp q
    exact h.off p hp (by rw [e, ← hl]; exact hlR)
  last := by
    obtain ⟨a, ha, _⟩ := st_last h6 hc
    refine ⟨a, RWX, ha, fun q => ?_⟩
    obtain ⟨p, hp, e⟩ := List.mem_map.mp q
    exact (stg c h6 hc 6 (Nat.le_refl _)).off p hp (by rw [e, ha]; exact .head _)
theorem st_len : ∀ k ≤ 6, (upSt c k).2.length = k := fun k hk => by
  have := congrArg List.length (stg c h6 hc k hk).vals
  rw [List.length_map, List.length_take, h6] at this
  omega
theorem st_pre : ∀ d k, k + d = 6 → ∃ rest, (upSt c 6).2 = (upSt c k).2 ++ rest
  | 0, k, h => ⟨[], by rw [show k = 6 by omega, List.append_nil]⟩
  | d + 1, k, h => by
    obtain ⟨rest, e⟩ := st_pre d (k + 1) (by omega)
    exact ⟨(leastOf (upSt c k).1 (c.drop k), c.getD k (Str.ofString "")) :: rest, by rw [e]; show ((upSt c k).2 ++ [_]) ++ rest = _; rw [List.append_assoc]; rfl⟩
theorem pl_at (k : Nat) (hk : k < 6) : (upAll c)[k]? = some (leastOf (upSt c k).1 (c.drop k), c.getD k NoS) := by
  obtain ⟨a, _, e⟩ := st_last h6 hc
  obtain ⟨rest, e2⟩ := st_pre h6 hc (6 - (k + 1)) (k + 1) (by omega)
  have e3 : (upSt c (k + 1)).2 = (upSt c k).2 ++ [(leastOf (upSt c k).1 (c.drop k), c.getD k NoS)] := rfl
  rw [e, e2, e3, List.append_assoc, List.append_assoc, List.getElem?_append_right (by rw [st_len h6 hc k (by omega)]; exact Nat.le_refl _), st_len h6 hc k (by omega), Nat.sub_self]
  rfl
theorem pl_last : ∃ a, (upSt c 6).1 = [a, RWX] ∧ (upAll c)[6]? = some (a, RWX) := by
  obtain ⟨a, ha, e⟩ := st_last h6 hc
  refine ⟨a, ha, ?_⟩
  rw [e, List.getElem?_append_right (by rw [st_len h6 hc 6 (Nat.le_refl _)]; exact Nat.le_refl _), st_len h6 hc 6 (Nat.le_refl _)]
  rfl
omit h6 hc in
theorem kv_at {k : Nat} {p : Str × Str} (h : (upAll c)[k]? = some p) : K c k = p.1 ∧ V c k = p.2 := by
  unfold K V
  rw [List.getD_eq_getElem?_getD, h]; exact ⟨rfl, rfl⟩
theorem st_down : ∀ d k, k + d = 6 → ∀ n ∈ (upSt c k).1, n = RWX ∨ ∃ j, k ≤ j ∧ j < 7 ∧ K c j = n
  | 0, k, h, n, hn => by
    obtain ⟨a, ha, e⟩ := pl_last h6 hc
    rw [show k = 6 by omega, ha] at hn
    rcases List.mem_cons.mp hn with rfl | hn
    · exact .inr ⟨6, by omega, by omega, (kv_at e).1⟩
    · exact .inl (List.mem_singleton.mp hn)
  | d + 1, k, h, n, hn => by
    by_cases e : n = leastOf (upSt c k).1 (c.drop k)
    · exact .inr ⟨k, Nat.le_refl _, by omega, by rw [e]; exact (kv_at (pl_at h6 hc k (by omega))).1⟩
    · have hn' : n ∈ (upSt c (k + 1)).1 := (List.mem_erase_of_ne e).mpr hn
      rcases st_down d (k + 1) (by omega) n hn' with q | ⟨j, j1, j2, j3⟩
      · exact .inl q
      · exact .inr ⟨j, by omega, j2, j3⟩
theorem par : Par c := by
  obtain ⟨a, ha, e⟩ := st_last h6 hc
  have h := stg c h6 hc 6 (Nat.le_refl _)
  obtain ⟨a', ha', e6⟩ := pl_last h6 hc
  refine ⟨?_, ?_, ?_, fun i hi => ?_, fun k hk => (kv_at (pl_at h6 hc k hk)).1, fun k hk => (kv_at (pl_at h6 hc k hk)).2⟩
  · rw [e, List.length_append, st_len h6 hc 6 (Nat.le_refl _)]; rfl
  · have p := h.perm
    rw [ha] at p
    have p1 : (NMS.take 7 ++ [RWX]).Perm (((upAll c).map (·.1)) ++ [RWX]) := by
      rw [e, List.map_append]
      have e1 : NMS = NMS.take 7 ++ [RWX] := by decide +kernel
      rw [← e1, List.append_assoc]
      exact p
    exact (List.perm_append_right_iff _).mp p1
  · rw [e, List.map_append, h.vals, List.take_of_length_le (by omega)]; rfl
  · by_cases h5 : i < 6
    · have hs := stg c h6 hc i (by omega)
      obtain ⟨l, r, hF, hl, hlR, hlc, _⟩ := hs.least h6 h5
      have hv : V c i = c.getD i NoS := (kv_at (pl_at h6 hc i h5)).2
      have hm : c.getD i NoS ∈ c.drop i := by
        rw [List.drop_eq_getElem_cons (by omega), List.getD_eq_getElem?_getD, List.getElem?_eq_getElem (by omega)]
        exact .head _
      have hn : c.getD i NoS ∈ (upSt c (i + 1)).1 := (List.mem_erase_of_ne (fun q => hlc (by rw [hl, ← q]; exact hm))).mpr (hs.mem _ hm)
      rw [hv]
      rcases st_down h6 hc (6 - (i + 1)) (i + 1) (by omega) _ hn with q | ⟨j, j1, j2, j3⟩
      · exact .inl q
      · exact .inr ⟨j, by omega, j2, j3⟩
    · have : i = 6 := by omega
      subst this
      exact .inl (kv_at e6).2
end
theorem getU_mem : ∀ {U : List (Str × Str)} {i : Nat} {p : Str × Str}, (U.map (·.1)).Nodup → U[i]? = some p → getU U p.1 = some p.2
  | [], i, p, _, h => by simp at h
  | q :: U, 0, p, _, h => by
    have e : q = p := by simpa using h
    subst e
    unfold getU
    rw [List.find?_cons, beq_self_eq_true]; rfl
  | q :: U, i + 1, p, nd, h => by
    have h' : U[i]? = some p := by simpa using h
    have nd' := List.nodup_cons.mp (by simpa using nd : (q.1 :: U.map (·.1)).Nodup)
    have ne : (q.1 == p.1) = false := beq_eq_false_iff_ne.mpr fun e => nd'.1 (e ▸ List.mem_map_of_mem (List.mem_of_getElem? h'))
    have ih := getU_mem nd'.2 h'
    unfold getU at ih ⊢
    rw [List.find?_cons, ne]; exact ih
theorem Par.nodup {c : List Str} (P : Par c) : ((upAll c).map (·.1)).Nodup := P.keys.nodup_iff.mp (nms_nodup.sublist (List.take_sublist _ _))
theorem Par.at {c : List Str} (P : Par c) {i : Nat} (hi : i < 7) : (upAll c)[i]? = some (K c i, V c i) := by
  have hl : i < (upAll c).length := by rw [P.len]; exact hi
  have e : (upAll c)[i]? = some (upAll c)[i] := List.getElem?_eq_getElem hl
  rw [e]
  have := kv_at (c := c) e
  rw [this.1, this.2]
theorem Par.get {c : List Str} (P : Par c) {i : Nat} (hi : i < 7) : getU (upAll c) (K c i) = some (V c i) := getU_mem P.nodup (P.at hi)
theorem Par.key {c : List Str} (P : Par c) {i : Nat} (hi : i < 7) : K c i ∈ NMS.take 7 := P.keys.mem_iff.mpr (List.mem_map_of_mem (f := (·.1)) (List.mem_of_getElem? (P.at hi)))
theorem Par.idx {c : List Str} (P : Par c) {n : Str} (hn : n ∈ NMS.take 7) : ∃ i < 7, K c i = n := by
  obtain ⟨p, hp, e⟩ := List.mem_map.mp (P.keys.mem_iff.mp hn)
  obtain ⟨i, hi, e2⟩ := List.mem_iff_getElem.mp hp
  have hi7 : i < 7 := by rw [← P.len]; exact hi
  refine ⟨i, hi7, ?_⟩
  rw [(kv_at (c := c) (p := p) (by rw [List.getElem?_eq_getElem hi, e2])).1, e]
end Mine
end
section
open PySem PySem.W PyProof.Rows PySem.Calls Builtin.Str
set_option maxRecDepth 100000
set_option maxHeartbeats 1000000
namespace Mine
def upN (c : List Str) (n : Str) : Str := (getU (upAll c) n).getD RWX
def chain (c : List Str) : Nat → Str → Str
  | 0, n => n
  | f + 1, n => if upN c n = RWX then n else chain c f (upN c n) ++ SL2 ++ n
def rr (c : List Str) (n : Str) : Str := chain c 7 n
def WW (c : List Str) (n : Str) : Str := SL ++ rr c n
theorem nms_cl : ∀ n ∈ NMS, (cl n).length = 3 ∧ 47 ∉ cl n := by decide +kernel
theorem nms_ends : ∀ n ∈ NMS, Txt.endswith (n ++ SL2) SL = true ∧ (n ++ SL2).length = 5 ∧ n.length = 3 := by decide +kernel
theorem mem7 {n : Str} (h : n ∈ NMS.take 7) : n ∈ NMS := List.mem_of_mem_take h
theorem ne7 {n : Str} (h : n ∈ NMS.take 7) : n ≠ RWX := by
  intro e
  subst e
  exact absurd h (by decide +kernel)
theorem cl_SL : cl SL = [47] := cl_sl
theorem cl_SL2 : cl SL2 = [47, 47] := by decide +kernel
theorem sw_false {x : Str} {ch : Nat} {t : List Nat} (h : cl x = ch :: t) (hc : ch ≠ 47) : Txt.startswith x (Str.ofString "/") = false := by
  unfold Txt.startswith
  rw [StrLaws.subAt_eq]
  have e1 : (Str.ofString "/").length = 1 := by decide +kernel
  rw [e1, List.drop_zero]
  show (_ && ((cl x).take 1 == cl (Str.ofString "/"))) = false
  rw [h, cl_sl]
  have : ((ch :: t).take 1 == [47]) = false := by
    show ([ch] == [47]) = false
    rw [beq_eq_false_iff_ne]
    intro e
    exact hc (List.cons.inj e).1
  rw [this, Bool.and_false]
/-- a text that neither begins nor ends with a slash -/
structure RG (x : Str) (b : Nat) : Prop where
  len : x.length ≤ b
  head : ∃ ch t, cl x = ch :: t ∧ ch ≠ 47
  last : ∃ p ch, cl x = p ++ [ch] ∧ ch ≠ 47
theorem rg_name {n : Str} (h : n ∈ NMS) : RG n 3 := by
  obtain ⟨h3, hn⟩ := nms_cl n h
  match hq : cl n, h3, hn with
  | [a, b, d], _, hn =>
    refine ⟨by rw [cl_len, hq]; exact Nat.le_refl 3, ⟨a, [b, d], hq, fun e => hn (e ▸ .head _)⟩, ⟨[a, b], d, hq, fun e => hn (e ▸ .tail _ (.tail _ (.head _)))⟩⟩
theorem rg_app {x y : Str} {b b' : Nat} (hx : RG x b) (hy : RG y b') : RG (x ++ SL2 ++ y) (b + 2 + b') := by
  obtain ⟨l1, ⟨c1, t1, e1, n1⟩, _⟩ := hx
  obtain ⟨l2, _, ⟨p2, c2, e2, n2⟩⟩ := hy
  have e : cl (x ++ SL2 ++ y) = cl x ++ [47, 47] ++ cl y := by rw [cl_app, cl_app, cl_SL2]
  refine ⟨?_, ⟨c1, t1 ++ [47, 47] ++ cl y, by rw [e, e1]; rfl, n1⟩, ⟨cl x ++ [47, 47] ++ p2, c2, by rw [e, e2, List.append_assoc (cl x ++ [47, 47])], n2⟩⟩
  rw [cl_len, e]
  rw [cl_len] at l1 l2
  simp only [List.length_append, List.length_cons, List.length_nil]
  omega
section
variable {c : List Str} (P : Par c)
include P
theorem upN_K {i : Nat} (hi : i < 7) : upN c (K c i) = V c i := by unfold upN; rw [P.get hi]; rfl
theorem chain_eq : ∀ d i, i < 7 → 6 - i ≤ d → ∀ f g, 6 - i ≤ f → 6 - i ≤ g → chain c f (K c i) = chain c g (K c i) := by
  have top : ∀ i, i < 7 → V c i = RWX → ∀ f, chain c f (K c i) = K c i := by
    intro i hi hv f
    cases f with
    | zero => rfl
    | succ f => show (if upN c (K c i) = RWX then _ else _) = _; rw [if_pos (by rw [upN_K P hi]; exact hv)]
  intro d
  induction d with
  | zero =>
    intro i hi hd f g _ _
    have : V c i = RWX := by
      rcases P.order i hi with q | ⟨j, j1, j2, _⟩
      · exact q
      · omega
    rw [top i hi this, top i hi this]
  | succ d ih =>
    intro i hi hd f g hf hg
    by_cases hv : V c i = RWX
    · rw [top i hi hv, top i hi hv]
    · obtain ⟨j, j1, j2, j3⟩ := (P.order i hi).resolve_left hv
      match f, g, hf, hg with
      | 0, _, hf, _ => omega
      | _ + 1, 0, _, hg => omega
      | f + 1, g + 1, hf, hg =>
        show (if upN c (K c i) = RWX then _ else _) = (if upN c (K c i) = RWX then _ else _)
        rw [upN_K P hi, if_neg hv, if_neg hv, ← j3, ih j j2 (by omega) f g (by omega) (by omega)]
theorem rr_top {i : Nat} (hi : i < 7) (hv : V c i = RWX) : rr c (K c i) = K c i := by
  show (if upN c (K c i) = RWX then _ else _) = _
  rw [if_pos (by rw [upN_K P hi]; exact hv)]
theorem rr_deep {i : Nat} (hi : i < 7) (hv : V c i ≠ RWX) : rr c (K c i) = rr c (V c i) ++ SL2 ++ K c i := by
  obtain ⟨j, j1, j2, j3⟩ := (P.order i hi).resolve_left hv
  show (if upN c (K c i) = RWX then _ else _) = _
  rw [if_neg (by rw [upN_K P hi]; exact hv), upN_K P hi, ← j3]
  show chain c 6 (K c j) ++ SL2 ++ K c i = chain c 7 (K c j) ++ SL2 ++ K c i
  rw [chain_eq P 6 j j2 (by omega) 6 7 (by omega) (by omega)]
theorem rg_rr : ∀ d i, i < 7 → 6 - i ≤ d → RG (rr c (K c i)) (3 + 5 * (6 - i)) := by
  intro d
  induction d with
  | zero =>
    intro i hi hd
    have hv : V c i = RWX := by
      rcases P.order i hi with q | ⟨j, j1, j2, _⟩
      · exact q
      · omega
    rw [rr_top P hi hv]
    have g := rg_name (mem7 (P.key hi))
    exact ⟨Nat.le_trans g.len (by omega), g.head, g.last⟩
  | succ d ih =>
    intro i hi hd
    have g := rg_name (mem7 (P.key hi))
    by_cases hv : V c i = RWX
    · rw [rr_top P hi hv]
      exact ⟨Nat.le_trans g.len (by omega), g.head, g.last⟩
    · obtain ⟨j, j1, j2, j3⟩ := (P.order i hi).resolve_left hv
      rw [rr_deep P hi hv, ← j3]
      have q := rg_app (ih j j2 (by omega)) g
      exact ⟨Nat.le_trans q.len (by omega), q.head, q.last⟩
theorem rg_K {i : Nat} (hi : i < 7) : RG (rr c (K c i)) 33 := by
  have q := rg_rr P 6 i hi (by omega)
  exact ⟨Nat.le_trans q.len (by omega), q.head, q.last⟩
theorem climb : ∀ d i, i < 7 → 6 - i ≤ d → ∀ way b, RG way b → b + 5 * (6 - i) ≤ 200 → ∃ n, Climb (upAll c) n way (V c i) (if V c i = RWX then way else rr c (V c i) ++ SL2 ++ way) := by
  have top : ∀ i, V c i = RWX → ∀ way b, RG way b → b ≤ 200 → ∃ n, Climb (upAll c) n way (V c i) (if V c i = RWX then way else rr c (V c i) ++ SL2 ++ way) := by
    intro i hv way b g hb
    rw [if_pos hv, hv]
    obtain ⟨ch, t, e, hc⟩ := g.head
    exact ⟨0, .stop (sw_false e hc) (Nat.le_trans g.len hb)⟩
  intro d
  induction d with
  | zero =>
    intro i hi hd way b g hb
    refine top i ?_ way b g (by omega)
    rcases P.order i hi with q | ⟨j, j1, j2, _⟩
    · exact q
    · omega
  | succ d ih =>
    intro i hi hd way b g hb
    by_cases hv : V c i = RWX
    · exact top i hv way b g (by omega)
    · obtain ⟨j, j1, j2, j3⟩ := (P.order i hi).resolve_left hv
      have gK := rg_name (mem7 (P.key j2))
      obtain ⟨ne1, ne2, ne3⟩ := nms_ends _ (mem7 (P.key j2))
      have gw := rg_app gK g
      obtain ⟨n, hC⟩ := ih j j2 (by omega) (K c j ++ SL2 ++ way) _ gw (by omega)
      obtain ⟨ch, t, e, hc⟩ := g.head
      refine ⟨n + 1, ?_⟩
      rw [if_neg hv, ← j3]
      have er : (if V c j = RWX then K c j ++ SL2 ++ way else rr c (V c j) ++ SL2 ++ (K c j ++ SL2 ++ way)) = rr c (K c j) ++ SL2 ++ way := by
        by_cases hj : V c j = RWX
        · rw [if_pos hj, rr_top P j2 hj]
        · rw [if_neg hj, rr_deep P j2 hj]
          simp only [Str.append_assoc]
      rw [er] at hC
      exact .step (bne_iff_ne.mpr (j3 ▸ hv)) (P.get j2) (sw_false e hc) (by have := g.len; omega) (by rw [show Str.ofString "//" = SL2 from rfl, ne2]; decide) ne1 (by rw [show Str.ofString "//" = SL2 from rfl, ne2]; decide) hC
theorem wayAt {i : Nat} (hi : i < 7) : WayAt (upAll c) (K c i) (WW c (K c i)) := by
  have gK := rg_name (mem7 (P.key hi))
  obtain ⟨n, hC⟩ := climb P 6 i hi (by omega) (K c i) 3 gK (by omega)
  have er : (if V c i = RWX then K c i else rr c (V c i) ++ SL2 ++ K c i) = rr c (K c i) := by
    by_cases hv : V c i = RWX
    · rw [if_pos hv, rr_top P hi hv]
    · rw [if_neg hv, rr_deep P hi hv]
  rw [er] at hC
  have g := rg_K P hi
  obtain ⟨ch, t, e, hc⟩ := g.head
  exact ⟨V c i, n, rr c (K c i), P.get hi, hC, sw_false e hc, Nat.le_trans g.len (by decide), rfl⟩
theorem cl_WW (n : Str) : cl (WW c n) = 47 :: cl (rr c n) := by
  unfold WW
  rw [cl_app, cl_SL]; rfl
theorem ww_len {i : Nat} (hi : i < 7) : (WW c (K c i)).length ≤ 34 := by
  rw [cl_len, cl_WW P]
  have := (rg_K P hi).len
  rw [cl_len] at this
  simp only [List.length_cons]; omega
theorem bn_WW {i : Nat} (hi : i < 7) : bn (WW c (K c i)) = K c i := by
  have hn := (nms_cl _ (mem7 (P.key hi))).2
  by_cases hv : V c i = RWX
  · exact cl_ext (bn_last (P := []) (by rw [cl_WW P, rr_top P hi hv]; rfl) hn)
  · refine cl_ext (bn_last (P := 47 :: cl (rr c (V c i)) ++ [47]) ?_ hn)
    rw [cl_WW P, rr_deep P hi hv, cl_app, cl_app, cl_SL2]
    simp
theorem dn_WW_top {i : Nat} (hi : i < 7) (hv : V c i = RWX) : dn (WW c (K c i)) = SL :=
  dn_top (by rw [cl_WW P, rr_top P hi hv]) (nms_cl _ (mem7 (P.key hi))).2
theorem dn_WW_deep {i : Nat} (hi : i < 7) (hv : V c i ≠ RWX) : dn (WW c (K c i)) = WW c (V c i) := by
  obtain ⟨j, j1, j2, j3⟩ := (P.order i hi).resolve_left hv
  obtain ⟨p, ch, e, hc⟩ := (rg_K P j2).last
  refine cl_ext ?_
  rw [dn_deep (P := 47 :: p) (ch := ch) (n := cl (K c i)) ?_ hc (nms_cl _ (mem7 (P.key hi))).2]
  · rw [cl_WW P, ← j3, e]; rfl
  · rw [cl_WW P, rr_deep P hi hv, ← j3, cl_app, cl_app, cl_SL2, e]
    simp
end
end Mine
end
section
open PySem PySem.W PyProof.Rows PySem.Calls Builtin.Str
set_option maxRecDepth 100000
set_option maxHeartbeats 1000000
namespace Mine
def Ways (c : List Str) : List Str := (NMS.take 7).map (WW c)
theorem ways_len (c : List Str) : (Ways c).length = 7 := by unfold Ways; rw [List.length_map]; rfl
theorem nm_mem : ∀ k < 7, nm k ∈ NMS.take 7 := by decide +kernel
theorem nm_idx : ∀ n ∈ NMS.take 7, idxS n < 7 ∧ nm (idxS n) = n := by decide +kernel
theorem nm_at : ∀ k < 7, (NMS.take 7)[k]? = some (nm k) := by decide +kernel
theorem ways_at (c : List Str) {k : Nat} (hk : k < 7) : (Ways c).getD k PySem.Str.empty = WW c (nm k) := by
  unfold Ways
  rw [List.getD_eq_getElem?_getD, List.getElem?_map, nm_at k hk]; rfl
theorem bn_SL : bn SL = Str.empty := by decide +kernel
theorem erase_first {p : Str → Bool} : ∀ {s : List Str} {l : Str}, s.find? p = some l → s.eraseP p = s.erase l
  | [], _, h => by simp at h
  | x :: s, l, h => by
    rw [List.find?_cons] at h
    cases hp : p x with
    | true =>
      rw [hp] at h
      cases h
      rw [List.erase_cons_head, List.eraseP_cons, hp]; rfl
    | false =>
      rw [hp] at h
      have hl := List.find?_some h
      have ne : (x == l) = false := beq_eq_false_iff_ne.mpr fun e => by rw [e, hl] at hp; cases hp
      rw [List.eraseP_cons, hp, List.erase_cons_tail (by rw [ne]; exact Bool.false_ne_true), ← erase_first h]; rfl
theorem find_congr' {p q : Str → Bool} {s : List Str} (h : ∀ x ∈ s, p x = q x) : s.find? p = s.find? q := by
  rw [← List.head?_filter, ← List.head?_filter, List.filter_congr h]
section
variable {c : List Str} (P : Par c)
include P
theorem n_bn {n : Str} (h : n ∈ NMS.take 7) : bn (WW c n) = n := by
  obtain ⟨i, hi, e⟩ := P.idx h
  rw [← e]; exact bn_WW P hi
theorem n_up {n : Str} (h : n ∈ NMS.take 7) (hu : upN c n ≠ RWX) : upN c n ∈ NMS.take 7 := by
  obtain ⟨i, hi, e⟩ := P.idx h
  rw [← e, upN_K P hi] at hu ⊢
  obtain ⟨j, _, j2, j3⟩ := (P.order i hi).resolve_left hu
  rw [← j3]; exact P.key j2
theorem n_dn {n : Str} (h : n ∈ NMS.take 7) : dn (WW c n) = if upN c n = RWX then SL else WW c (upN c n) := by
  obtain ⟨i, hi, e⟩ := P.idx h
  rw [← e, upN_K P hi]
  by_cases hv : V c i = RWX
  · rw [if_pos hv]; exact dn_WW_top P hi hv
  · rw [if_neg hv]; exact dn_WW_deep P hi hv
theorem n_inj {n m : Str} (h : n ∈ NMS.take 7) (h' : m ∈ NMS.take 7) (e : WW c n = WW c m) : n = m := by
  rw [← n_bn P h, e, n_bn P h']
theorem n_top {n : Str} (h : n ∈ NMS.take 7) : WW c n ≠ SL := fun e => by
  have := n_bn P h
  rw [e, bn_SL] at this
  have h3 := (nms_cl n (mem7 h)).1
  rw [← this] at h3
  exact absurd h3 (by decide +kernel)
theorem n_hit {n m : Str} (h : n ∈ NMS.take 7) (h' : m ∈ NMS.take 7) : dn (WW c m) = WW c n ↔ upN c m = n := by
  rw [n_dn P h']
  by_cases hu : upN c m = RWX
  · rw [if_pos hu]
    exact ⟨fun e => absurd e.symm (n_top P h), fun e => absurd (e.symm.trans hu) (ne7 h)⟩
  · rw [if_neg hu]
    exact ⟨fun e => n_inj P (n_up P h' hu) h e, fun e => by rw [e]⟩
theorem n_root {m : Str} (h' : m ∈ NMS.take 7) : dn (WW c m) = SL ↔ upN c m = RWX := by
  rw [n_dn P h']
  by_cases hu : upN c m = RWX
  · rw [if_pos hu]; exact ⟨fun _ => hu, fun _ => rfl⟩
  · rw [if_neg hu]
    exact ⟨fun e => absurd e (n_top P (n_up P h' hu)), fun e => absurd e hu⟩
theorem n_len {n : Str} (h : n ∈ NMS.take 7) : (WW c n).length ≤ 34 := by
  obtain ⟨i, hi, e⟩ := P.idx h
  rw [← e]; exact ww_len P hi
theorem cnt_gen (x y : Str) (hxy : ∀ m ∈ NMS.take 7, dn (WW c m) = x ↔ upN c m = y) : cnt x ((Ways c).map dn) = cnt y (c ++ [RWX]) := by
  unfold cnt Ways
  rw [List.map_map, List.countP_map, P.keys.countP_eq, List.countP_map, ← P.vals, List.countP_map]
  refine List.countP_congr fun p hp => ?_
  obtain ⟨i, hi, e⟩ := List.mem_iff_getElem.mp hp
  have hi7 : i < 7 := by rw [← P.len]; exact hi
  have e' : (upAll c)[i]? = some p := by rw [List.getElem?_eq_getElem hi, e]
  have kv := kv_at e'
  have hx := hxy (K c i) (P.key hi7)
  rw [upN_K P hi7, kv.1, kv.2] at hx
  show ((dn (WW c p.1)) == x) = true ↔ (p.2 == y) = true
  rw [beq_iff_eq, beq_iff_eq]
  exact hx
theorem cnts_ok {k : Nat} (hk : k < 7) : cnt ((Ways c).getD k PySem.Str.empty) ((Ways c).map dn) = cnt (nm k) c := by
  rw [ways_at c hk, cnt_gen P _ (nm k) fun m hm => n_hit P (nm_mem k hk) hm]
  unfold cnt
  rw [List.countP_append]
  have : (RWX == nm k) = false := beq_eq_false_iff_ne.mpr fun e => ne7 (nm_mem k hk) e.symm
  simp [this]
theorem last_ok : cnt (Str.ofString "/") ((Ways c).map dn) = cnt (Str.ofString "rwx") c + 1 := by
  rw [show Str.ofString "/" = SL from rfl, cnt_gen P SL RWX fun m hm => n_root P hm]
  unfold cnt
  rw [List.countP_append]
  simp [show Str.ofString "rwx" = RWX from rfl]
theorem eq1_ok {k : Nat} (hk : k < 7) (h : getU (upAll c) (nm k) = some (Str.ofString "rwx")) : Str.ofString "" ++ Str.ofString "/" ++ nm k = (Ways c).getD k PySem.Str.empty := by
  obtain ⟨i, hi, e⟩ := P.idx (nm_mem k hk)
  rw [ways_at c hk]
  rw [← e, P.get hi] at h
  rw [← e]
  unfold WW
  rw [rr_top P hi (Option.some.inj h)]
  have : Str.ofString "" ++ Str.ofString "/" = SL := by decide +kernel
  rw [this]
theorem eq2_ok {k : Nat} (hk : k < 7) (u : Str) (h : getU (upAll c) (nm k) = some u) (hu : u ≠ Str.ofString "rwx") : u ∈ NMS ∧ idxS u < 7 ∧ (Ways c).getD (idxS u) PySem.Str.empty ++ Str.ofString "/" ++ Str.ofString "/" ++ nm k = (Ways c).getD k PySem.Str.empty := by
  obtain ⟨i, hi, e⟩ := P.idx (nm_mem k hk)
  rw [← e, P.get hi] at h
  have hv := Option.some.inj h
  subst hv
  obtain ⟨j, _, j2, j3⟩ := (P.order i hi).resolve_left hu
  have hm : V c i ∈ NMS.take 7 := by rw [← j3]; exact P.key j2
  obtain ⟨x1, x2⟩ := nm_idx _ hm
  refine ⟨mem7 hm, x1, ?_⟩
  rw [ways_at c x1, x2, ways_at c hk, ← e]
  unfold WW
  rw [rr_deep P hi hu]
  have s2 : Str.ofString "/" ++ Str.ofString "/" = SL2 := by decide +kernel
  simp only [Str.append_assoc]
  rw [← Str.append_assoc (Str.ofString "/") (Str.ofString "/"), s2]
theorem way_ok {k : Nat} (hk : k < 7) : WayAt (upAll c) (nm k) ((Ways c).getD k PySem.Str.empty) := by
  obtain ⟨i, hi, e⟩ := P.idx (nm_mem k hk)
  rw [ways_at c hk, ← e]
  exact wayAt P hi
theorem base_ok : (Ways c).map bn = NMS.take 7 := by
  unfold Ways
  rw [List.map_map]
  exact (List.map_congr_left fun n hn => n_bn P hn).trans (List.map_id _)
theorem small_ok : ∀ x ∈ Ways c, x.length ≤ 200 ∧ (dn x).length ≤ 200 ∧ (bn (dn x)).length ≤ 200 := by
  intro x hx
  obtain ⟨n, hn, e⟩ := List.mem_map.mp hx
  subst e
  refine ⟨Nat.le_trans (n_len P hn) (by decide), ?_⟩
  rw [n_dn P hn]
  by_cases hu : upN c n = RWX
  · rw [if_pos hu]
    exact ⟨by decide +kernel, by decide +kernel⟩
  · rw [if_neg hu]
    have hm := n_up P hn hu
    rw [n_bn P hm]
    refine ⟨Nat.le_trans (n_len P hm) (by decide), ?_⟩
    have := (nms_cl _ (mem7 hm)).1
    rw [cl_len, this]; decide
end
end Mine
end
section
open PySem PySem.W PyProof.Rows PySem.Calls Builtin.Str
set_option maxRecDepth 100000
set_option maxHeartbeats 1000000
namespace Mine
def pl (c : List Str) (n : Str) : Pl := plOf (WW c n)
theorem st_mono (c : List Str) : ∀ d k, ∀ n ∈ (upSt c (k + d)).1, n ∈ (upSt c k).1
  | 0, _, _, h => h
  | d + 1, k, n, h => st_mono c d k n (List.mem_of_mem_erase (show n ∈ (upSt c (k + d)).1.erase _ from h))
theorem mem_nms {n : Str} (h : n ∈ NMS) (hn : n ≠ RWX) : n ∈ NMS.take 7 := by
  have e : NMS = NMS.take 7 ++ [RWX] := by decide +kernel
  rw [e] at h
  exact (List.mem_append.mp h).resolve_right fun q => hn (List.mem_singleton.mp q)
section
variable {c : List Str} (h6 : c.length = 6) (hc : ∀ s ∈ c, s ∈ NMS)
include h6 hc
theorem s_mem {k : Nat} (hk : k ≤ 6) {n : Str} : n ∈ (upSt c k).1.dropLast ↔ n ∈ (upSt c k).1 ∧ n ≠ RWX := by
  have h := stg c h6 hc k hk
  obtain ⟨s, hs⟩ := h.lastR
  have nd : (upSt c k).1.Nodup := nms_nodup.sublist h.sub
  rw [hs, List.dropLast_concat]
  rw [hs] at nd
  have hd := (List.nodup_append.mp nd).2.2
  constructor
  · exact fun q => ⟨List.mem_append_left _ q, hd n q RWX (.head _)⟩
  · exact fun q => (List.mem_append.mp q.1).resolve_right fun r => q.2 (List.mem_singleton.mp r)
theorem s_7 {k : Nat} (hk : k ≤ 6) {n : Str} (h : n ∈ (upSt c k).1.dropLast) : n ∈ NMS.take 7 := by
  have q := (s_mem h6 hc hk).mp h
  exact mem_nms ((stg c h6 hc k hk).sub.subset q.1) q.2
theorem bare_iff {k : Nat} (hk : k < 6) {n : Str} (hn : n ∈ (upSt c k).1.dropLast) : bareP ((upSt c k).1.dropLast.map (pl c)) (pl c n) = notIn (c.drop k) n := by
  have P := par h6 hc
  have hn7 := s_7 h6 hc (Nat.le_of_lt hk) hn
  rw [Bool.eq_iff_iff]
  show notIn _ (WW c n) = true ↔ _
  rw [notIn_iff, notIn_iff, List.map_map]
  refine not_congr ⟨?_, ?_⟩
  · intro h
    obtain ⟨m, hm, e⟩ := List.mem_map.mp h
    have hm7 := s_7 h6 hc (Nat.le_of_lt hk) hm
    have hu := (n_hit P hn7 hm7).mp e
    have hmR := ((s_mem h6 hc (Nat.le_of_lt hk)).mp hm)
    rcases st_down h6 hc (6 - k) k (by omega) m hmR.1 with q | ⟨j, j1, j2, j3⟩
    · exact absurd q hmR.2
    · rw [← j3, upN_K P j2] at hu
      have j6 : j < 6 := by
        rcases Nat.lt_or_ge j 6 with q | q
        · exact q
        · exfalso
          have : j = 6 := by omega
          subst this
          rcases P.order 6 j2 with r | ⟨i, i1, i2, _⟩
          · exact ne7 hn7 (hu ▸ r)
          · omega
      rw [P.valC j j6] at hu
      rw [← hu, List.getD_eq_getElem?_getD, List.getElem?_eq_getElem (by omega)]
      have : c[j] ∈ c.drop k := by
        rw [List.mem_iff_getElem]
        exact ⟨j - k, by rw [List.length_drop]; omega, by rw [List.getElem_drop]; congr 1; omega⟩
      exact this
  · intro h
    obtain ⟨i, hi, e⟩ := List.mem_iff_getElem.mp h
    rw [List.length_drop, h6] at hi
    rw [List.getElem_drop] at e
    have j6 : k + i < 6 := by omega
    have hv : V c (k + i) = n := by
      rw [P.valC _ j6, List.getD_eq_getElem?_getD, List.getElem?_eq_getElem (by omega)]; exact e
    obtain ⟨l, r, hF, hl, hlR, _⟩ := (stg c h6 hc (k + i) (by omega)).least h6 j6
    have hK : K c (k + i) = l := by rw [P.keyL _ j6, hl]
    have hK7 := P.key (show k + i < 7 by omega)
    refine List.mem_map.mpr ⟨K c (k + i), (s_mem h6 hc (Nat.le_of_lt hk)).mpr ⟨st_mono c i k _ (by rw [hK]; exact hlR), ne7 hK7⟩, ?_⟩
    show dn (WW c (K c (k + i))) = WW c n
    rw [n_hit P hn7 hK7, upN_K P (by omega), hv]
theorem told_find {k : Nat} (hk : k < 6) : (upSt c k).1.dropLast.find? (fun n => bareP ((upSt c k).1.dropLast.map (pl c)) (pl c n)) = some (leastOf (upSt c k).1 (c.drop k)) := by
  rw [find_congr' (q := notIn (c.drop k)) fun n hn => bare_iff h6 hc hk hn, ← List.head?_filter]
  obtain ⟨l, r, hF, hl, hlR, hlc, _, s, hs, hls⟩ := (stg c h6 hc k (by omega)).least h6 hk
  rw [hs, List.dropLast_concat]
  rw [hs, List.filter_append] at hF
  have hm : l ∈ s.filter (notIn (c.drop k)) := List.mem_filter.mpr ⟨hls, notIn_iff.mpr hlc⟩
  cases hq : s.filter (notIn (c.drop k)) with
  | nil => rw [hq] at hm; cases hm
  | cons a t =>
    rw [hq] at hF
    rw [List.head?_cons, ← hs, ← hl]
    exact congrArg some (List.cons.inj hF).1
theorem find_pl {k : Nat} (hk : k < 6) : ((upSt c k).1.dropLast.map (pl c)).find? (bareP ((upSt c k).1.dropLast.map (pl c))) = some (pl c (leastOf (upSt c k).1 (c.drop k))) := by
  rw [List.find?_map]
  have := told_find h6 hc hk
  show Option.map (pl c) ((upSt c k).1.dropLast.find? (fun n => bareP ((upSt c k).1.dropLast.map (pl c)) (pl c n))) = _
  rw [this]; rfl
theorem toldP : ∀ k ≤ 6, toldSt (Ways c) k = ((upSt c k).1.dropLast.map (pl c), c.take k)
  | 0, _ => by
    show ((Ways c).map plOf, []) = _
    unfold Ways
    rw [List.map_map, List.take_zero]
    have e : (upSt c 0).1.dropLast = NMS.take 7 := (by decide +kernel : NMS.dropLast = NMS.take 7)
    rw [e]; rfl
  | k + 1, hk => by
    have ih := toldP k (by omega)
    have hk6 : k < 6 := by omega
    have P := par h6 hc
    obtain ⟨l, r, hF, hl, hlR, hlc, _, s, hs, hls⟩ := (stg c h6 hc k (by omega)).least h6 hk6
    have hgk : c.take (k + 1) = c.take k ++ [c.getD k NoS] := by
      rw [List.take_add_one, List.getD_eq_getElem?_getD, List.getElem?_eq_getElem (by omega)]; rfl
    show ((toldSt (Ways c) k).1.eraseP (bareP (toldSt (Ways c) k).1), (toldSt (Ways c) k).2 ++ [tellOf (bareOf (toldSt (Ways c) k).1)]) = _
    rw [ih]
    refine Prod.ext ?_ ?_
    · show ((upSt c k).1.dropLast.map (pl c)).eraseP _ = _
      rw [List.eraseP_map]
      have e := erase_first (told_find h6 hc hk6)
      show ((upSt c k).1.dropLast.eraseP (fun n => bareP ((upSt c k).1.dropLast.map (pl c)) (pl c n))).map (pl c) = _
      rw [e, ← hl]
      have e1 : (upSt c (k + 1)).1 = (upSt c k).1.erase l := by rw [hl]; rfl
      rw [e1, hs, List.dropLast_concat, List.erase_append_left _ hls, List.dropLast_concat]
    · show c.take k ++ [tellOf (bareOf ((upSt c k).1.dropLast.map (pl c)))] = _
      rw [hgk]
      congr 2
      unfold bareOf
      rw [find_pl h6 hc hk6]
      show tellOf (pl c (leastOf (upSt c k).1 (c.drop k))) = _
      have hK : leastOf (upSt c k).1 (c.drop k) = K c k := (P.keyL k hk6).symm
      have hK7 := P.key (show k < 7 by omega)
      rw [hK]
      show (if (bn (dn (WW c (K c k)))).length = 0 then Str.ofString "rwx" else bn (dn (WW c (K c k)))) = _
      rw [n_dn P hK7, upN_K P (by omega), P.valC k hk6]
      by_cases hv : c.getD k NoS = RWX
      · rw [if_pos hv, bn_SL, if_pos (by decide), hv]; rfl
      · rw [if_neg hv]
        have hm : c.getD k NoS ∈ NMS.take 7 := by
          have := n_up P hK7 (by rw [upN_K P (by omega), P.valC k hk6]; exact hv)
          rw [upN_K P (by omega), P.valC k hk6] at this
          exact this
        rw [n_bn P hm, if_neg]
        have := (nms_cl _ (mem7 hm)).1
        rw [cl_len, this]; decide
theorem ways_ok : WaysOk (Ways c) where
  w7 := ways_len c
  small := fun x hx => (small_ok (par h6 hc) x hx).1
  smallD := fun x hx => (small_ok (par h6 hc) x hx).2.1
  smallB := fun x hx => (small_ok (par h6 hc) x hx).2.2
  base := base_ok (par h6 hc)
  found := fun k hk => by
    rw [toldP h6 hc k (by omega), find_pl h6 hc hk]; rfl
end
end Mine
end
section
open PySem PySem.W PyProof.Rows PySem.Calls Builtin.Str
set_option maxRecDepth 100000
set_option maxHeartbeats 1000000
namespace Mine
theorem hits512 : ∀ a : Nat, a < 512 → (([61440].map fun b => Builtin.bitAnd ((a : Int) + 32768) b) ++ ([256, 128, 2112, 2048, 64, 32, 16, 1032, 1024, 8, 4, 2, 513, 512, 1].map fun b => Builtin.bitAnd ((a : Int) + 32768) b)) =
    [32768, 256 * ((a / 256 % 2 : Nat) : Int), 128 * ((a / 128 % 2 : Nat) : Int), 64 * ((a / 64 % 2 : Nat) : Int), 0, 64 * ((a / 64 % 2 : Nat) : Int), 32 * ((a / 32 % 2 : Nat) : Int), 16 * ((a / 16 % 2 : Nat) : Int), 8 * ((a / 8 % 2 : Nat) : Int), 0, 8 * ((a / 8 % 2 : Nat) : Int), 4 * ((a / 4 % 2 : Nat) : Int), 2 * ((a / 2 % 2 : Nat) : Int), ((a % 2 : Nat) : Int), 0, ((a % 2 : Nat) : Int)] := by decide +kernel
def ch (b : Nat) (s : String) : Str := if b = 1 then Str.ofString s else Str.ofString "-"
theorem chRow1 {i : Nat} {M B : Int} {ad : Addr} {s : String} {t t' : Tok} {b : Nat} (hi : (i : Int) ≠ 0) (hB : B ≠ 0) (hb : b < 2) (e : Builtin.bitAnd M B = B * (b : Int)) : charOf i M [(ad, B, t, s, t')] = ch b s := by
  have : b = 0 ∨ b = 1 := by omega
  rcases this with rfl | rfl
  · rw [charOf_missN hi (by show _ ≠ B; rw [e, Int.natCast_zero, Int.mul_zero]; exact hB.symm), charOf_nilN hi]; rfl
  · rw [charOf_hitN hi (by show _ = B; rw [e]; exact Int.mul_one B)]; rfl
theorem chRow3 {i : Nat} {M B1 B2 B3 : Int} {a1 a2 a3 : Addr} {s1 s2 s : String} {t1 t2 t3 u1 u2 u3 : Tok} {b : Nat} (hi : (i : Int) ≠ 0) (hB : B3 ≠ 0) (hb : b < 2) (e1 : Builtin.bitAnd M B1 ≠ B1) (e2 : Builtin.bitAnd M B2 ≠ B2) (e : Builtin.bitAnd M B3 = B3 * (b : Int)) :
    charOf i M [(a1, B1, t1, s1, u1), (a2, B2, t2, s2, u2), (a3, B3, t3, s, u3)] = ch b s := by
  rw [charOf_missN hi e1, charOf_missN hi e2]
  exact chRow1 hi hB hb e
theorem cl_join : ∀ l : List Str, cl (Txt.join (Str.ofString "") l) = (l.map cl).flatten := by
  have e0 : cl (Str.ofString "") = [] := by decide +kernel
  intro l
  unfold Txt.join
  rw [StrLaws.glued_eq_join]
  induction l with
  | nil => rfl
  | cons x r ih =>
    cases r with
    | nil => show cl x = cl x ++ []; rw [List.append_nil]
    | cons y r =>
      show cl (x ++ Str.ofString "" ++ Str.join (Str.ofString "") (y :: r)) = _
      rw [cl_app, cl_app, e0, ih]
      simp
theorem ch_cl : ∀ b < 2, ∀ s ∈ ["r", "w", "x"], (cl (ch b s)).length = 1 := by decide +kernel
theorem nm_bits : ∀ p < 2, ∀ q < 2, ∀ r < 2, cl (nm (4 * p + 2 * q + r)) = cl (ch p "r") ++ cl (ch q "w") ++ cl (ch r "x") := by decide +kernel
theorem rows512 (a : Nat) (ha : a < 512) : SixOk ((a : Int) + 32768) ∧ cl (Txt.slice (FM ((a : Int) + 32768)) (some 1) none) = cl (nm (a / 64)) ++ cl (nm (a / 8 % 8)) ++ cl (nm (a % 8)) := by
  have h := hits512 a ha
  simp only [List.map_cons, List.map_nil, List.cons_append, List.nil_append, List.cons.injEq, and_true] at h
  obtain ⟨e0, e8, e7, f1, f2, e6, e5, e4, f3, f4, e3, e2, e1, f5, f6, g0⟩ := h
  have l8 : a / 256 % 2 < 2 := Nat.mod_lt _ (by decide)
  have l7 : a / 128 % 2 < 2 := Nat.mod_lt _ (by decide)
  have l6 : a / 64 % 2 < 2 := Nat.mod_lt _ (by decide)
  have l5 : a / 32 % 2 < 2 := Nat.mod_lt _ (by decide)
  have l4 : a / 16 % 2 < 2 := Nat.mod_lt _ (by decide)
  have l3 : a / 8 % 2 < 2 := Nat.mod_lt _ (by decide)
  have l2 : a / 4 % 2 < 2 := Nat.mod_lt _ (by decide)
  have l1 : a / 2 % 2 < 2 := Nat.mod_lt _ (by decide)
  have l0 : a % 2 < 2 := Nat.mod_lt _ (by decide)
  have hc : charsOf ((a : Int) + 32768) TABLE 0 = [Str.ofString "-", ch (a / 256 % 2) "r", ch (a / 128 % 2) "w", ch (a / 64 % 2) "x", ch (a / 32 % 2) "r", ch (a / 16 % 2) "w", ch (a / 8 % 2) "x", ch (a / 4 % 2) "r", ch (a / 2 % 2) "w", ch (a % 2) "x"] := by
    generalize (a : Int) + 32768 = M at *
    show [charOf 0 M _, charOf 1 M _, charOf 2 M _, charOf 3 M _, charOf 4 M _, charOf 5 M _, charOf 6 M _, charOf 7 M _, charOf 8 M _, charOf 9 M _] = _
    have r0 : charOf 0 M [(144, 40960, 374, "l", 402), (145, 49152, 376, "s", 403), (146, 32768, 370, "-", 404), (147, 24576, 368, "b", 405), (148, 16384, 364, "d", 406), (149, 8192, 366, "c", 407), (150, 4096, 372, "p", 408)] = Str.ofString "-" := by
      rw [charOf_miss0 rfl (by rw [e0]; decide), charOf_miss0 rfl (by rw [e0]; decide)]
      exact charOf_hit0 rfl e0
    rw [r0]
    rw [chRow1 (i := 1) (b := a / 256 % 2) (by decide) (by decide) l8 e8, chRow1 (i := 2) (b := a / 128 % 2) (by decide) (by decide) l7 e7,
      chRow3 (i := 3) (b := a / 64 % 2) (by decide) (by decide) l6 (by rw [f1]; omega) (by rw [f2]; decide) e6,
      chRow1 (i := 4) (b := a / 32 % 2) (by decide) (by decide) l5 e5, chRow1 (i := 5) (b := a / 16 % 2) (by decide) (by decide) l4 e4,
      chRow3 (i := 6) (b := a / 8 % 2) (by decide) (by decide) l3 (by rw [f3]; omega) (by rw [f4]; decide) e3,
      chRow1 (i := 7) (b := a / 4 % 2) (by decide) (by decide) l2 e2, chRow1 (i := 8) (b := a / 2 % 2) (by decide) (by decide) l1 e1,
      chRow3 (i := 9) (b := a % 2) (by decide) (by decide) l0 (by rw [f5]; omega) (by rw [f6]; decide) (by rw [g0]; omega)]
  have m : "r" ∈ ["r", "w", "x"] ∧ "w" ∈ ["r", "w", "x"] ∧ "x" ∈ ["r", "w", "x"] := by decide
  have k8 := ch_cl _ l8 _ m.1
  have k7 := ch_cl _ l7 _ m.2.1
  have k6 := ch_cl _ l6 _ m.2.2
  have k5 := ch_cl _ l5 _ m.1
  have k4 := ch_cl _ l4 _ m.2.1
  have k3 := ch_cl _ l3 _ m.2.2
  have k2 := ch_cl _ l2 _ m.1
  have k1 := ch_cl _ l1 _ m.2.1
  have k0 := ch_cl _ l0 _ m.2.2
  have kd : cl (Str.ofString "-") = [45] := by decide +kernel
  have hF : cl (FM ((a : Int) + 32768)) = [45] ++ (cl (ch (a / 256 % 2) "r") ++ cl (ch (a / 128 % 2) "w") ++ cl (ch (a / 64 % 2) "x")) ++ (cl (ch (a / 32 % 2) "r") ++ cl (ch (a / 16 % 2) "w") ++ cl (ch (a / 8 % 2) "x")) ++ (cl (ch (a / 4 % 2) "r") ++ cl (ch (a / 2 % 2) "w") ++ cl (ch (a % 2) "x")) := by
    unfold FM
    rw [cl_join, hc]
    simp only [List.map_cons, List.map_nil, List.flatten_cons, List.flatten_nil, kd, List.append_assoc, List.append_nil]
  have hlen : (FM ((a : Int) + 32768)).length = 10 := by
    rw [cl_len, hF]
    simp only [List.length_append, List.length_cons, List.length_nil, k8, k7, k6, k5, k4, k3, k2, k1, k0]
  refine ⟨⟨?_, hlen⟩, ?_⟩
  · rw [hc]
    have kd1 : (Str.ofString "-").length = 1 := by decide +kernel
    simp only [List.map_cons, List.map_nil, List.sum_cons, List.sum_nil, List.length_cons, List.length_nil, cl_len, k8, k7, k6, k5, k4, k3, k2, k1, k0, kd]
    decide
  · have e1' : (some (1 : Int)) = some ((1 : Nat) : Int) := rfl
    rw [e1', slice_from _ (by rw [hlen]; decide), hF]
    have d1 : a / 64 = 4 * (a / 256 % 2) + 2 * (a / 128 % 2) + a / 64 % 2 := by omega
    have d2 : a / 8 % 8 = 4 * (a / 32 % 2) + 2 * (a / 16 % 2) + a / 8 % 2 := by omega
    have d3 : a % 8 = 4 * (a / 4 % 2) + 2 * (a / 2 % 2) + a % 2 := by omega
    rw [(congrArg (fun z => cl (nm z)) d1).trans (nm_bits _ l8 _ l7 _ l6), (congrArg (fun z => cl (nm z)) d2).trans (nm_bits _ l5 _ l4 _ l3), (congrArg (fun z => cl (nm z)) d3).trans (nm_bits _ l2 _ l1 _ l0)]
    simp only [List.append_assoc, List.cons_append, List.nil_append, List.drop_succ_cons, List.drop_zero]
end Mine
end
section
open PySem PySem.W PyProof.Rows PySem.Calls Builtin.Str
set_option maxRecDepth 100000
set_option maxHeartbeats 1000000
namespace Mine
theorem nm_cl3 : ∀ d < 8, (cl (nm d)).length = 3 ∧ nm d ∈ NMS ∧ idxS (nm d) = d := by decide +kernel
theorem cut3 {n0 n1 n2 n3 n4 n5 : List Nat} (h0 : n0.length = 3) (h1 : n1.length = 3) (h2 : n2.length = 3) (h3 : n3.length = 3) (h4 : n4.length = 3) (h5 : n5.length = 3) :
    ∀ L, L = n0 ++ n1 ++ n2 ++ (n3 ++ n4 ++ n5) → L.length = 18 ∧ (L.drop 0).take 3 = n0 ∧ (L.drop 3).take 3 = n1 ∧ (L.drop 6).take 3 = n2 ∧ (L.drop 9).take 3 = n3 ∧ (L.drop 12).take 3 = n4 ∧ (L.drop 15).take 3 = n5 := by
  match n0, n1, n2, n3, n4, n5, h0, h1, h2, h3, h4, h5 with
  | [_, _, _], [_, _, _], [_, _, _], [_, _, _], [_, _, _], [_, _, _], _, _, _, _, _, _ =>
    intro L e
    subst e
    exact ⟨rfl, rfl, rfl, rfl, rfl, rfl, rfl⟩
theorem range6 {α : Type} (g : Nat → α) : (List.range 6).map g = [g 0, g 1, g 2, g 3, g 4, g 5] := rfl
theorem six_cl {ks : List Int} {n0 n1 n2 n3 n4 n5 : Str} (h0 : (cl n0).length = 3) (h1 : (cl n1).length = 3) (h2 : (cl n2).length = 3) (h3 : (cl n3).length = 3) (h4 : (cl n4).length = 3) (h5 : (cl n5).length = 3)
    (hA : cl (Txt.slice (FM (ks.getD 0 0 + 256 * ks.getD 1 0)) (some 1) none) = cl n0 ++ cl n1 ++ cl n2) (hB : cl (Txt.slice (FM (ks.getD 2 0 + 256 * ks.getD 3 0)) (some 1) none) = cl n3 ++ cl n4 ++ cl n5) : sixOf ks = [n0, n1, n2, n3, n4, n5] := by
  have hS : cl (SGN ks) = cl n0 ++ cl n1 ++ cl n2 ++ (cl n3 ++ cl n4 ++ cl n5) := by
    unfold SGN
    rw [cl_app, cl_app, hA, hB]
    have : cl (Str.ofString "") = [] := by decide +kernel
    rw [this]; rfl
  obtain ⟨hl, q0, q1, q2, q3, q4, q5⟩ := cut3 h0 h1 h2 h3 h4 h5 _ hS
  have cut : ∀ i : Nat, i < 6 → cl (Txt.slice (SGN ks) (some (0 + (i : Int) * 3)) (some (0 + (i : Int) * 3 + 3))) = ((cl (SGN ks)).drop (3 * i)).take 3 := fun i hi => by
    have e1 : (0 + (i : Int) * 3) = ((3 * i : Nat) : Int) := by omega
    have e2 : (0 + (i : Int) * 3 + 3) = ((3 * i + 3 : Nat) : Int) := by omega
    rw [e1, show (((3 * i : Nat) : Int) + 3) = ((3 * i + 3 : Nat) : Int) by omega, slice_cl _ (by omega) (by rw [cl_len, hl]; omega), show 3 * i + 3 - 3 * i = 3 by omega]
  have c0 := cut 0 (by omega)
  have c1 := cut 1 (by omega)
  have c2 := cut 2 (by omega)
  have c3 := cut 3 (by omega)
  have c4 := cut 4 (by omega)
  have c5 := cut 5 (by omega)
  clear cut hS hl
  unfold sixOf
  rw [range6]
  generalize SGN ks = S at *
  rw [q0] at c0
  rw [show 3 * 1 = 3 from rfl, q1] at c1
  rw [show 3 * 2 = 6 from rfl, q2] at c2
  rw [show 3 * 3 = 9 from rfl, q3] at c3
  rw [show 3 * 4 = 12 from rfl, q4] at c4
  rw [show 3 * 5 = 15 from rfl, q5] at c5
  rw [cl_ext c0, cl_ext c1, cl_ext c2, cl_ext c3, cl_ext c4, cl_ext c5]
/-- the six names are the remainder's octal figures -/
theorem code_digits (x : Int) : ∃ a b : Nat, a < 512 ∧ b < 512 ∧ x.fmod 262144 = (a : Int) * 512 + b ∧ (OC x).getD 0 0 + 256 * (OC x).getD 1 0 = (a : Int) + 32768 ∧ (OC x).getD 2 0 + 256 * (OC x).getD 3 0 = (b : Int) + 32768 := by
  have c512 : (0 : Int) ≤ 512 := by decide
  have c256 : (0 : Int) ≤ 256 := by decide
  have cB : (0 : Int) ≤ 262144 := by decide
  refine ⟨((x / 512) % 512).toNat, (x % 512).toNat, by omega, by omega, ?_, ?_, ?_⟩
  · rw [Int.fmod_eq_emod_of_nonneg _ cB]; omega
  · show ((x.fdiv 512).fmod 512).fmod 256 + 256 * (128 + ((x.fdiv 512).fmod 512).fdiv 256) = _
    simp only [Int.fmod_eq_emod_of_nonneg _ c512, Int.fdiv_eq_ediv_of_nonneg _ c512, Int.fmod_eq_emod_of_nonneg _ c256, Int.fdiv_eq_ediv_of_nonneg _ c256]
    omega
  · show (x.fmod 512).fmod 256 + 256 * (128 + (x.fmod 512).fdiv 256) = _
    simp only [Int.fmod_eq_emod_of_nonneg _ c512, Int.fmod_eq_emod_of_nonneg _ c256, Int.fdiv_eq_ediv_of_nonneg _ c256]
    omega
theorem tree_ok (x : Int) : ∃ W, TreeOk x W := by
  obtain ⟨a, b, ha, hb, hx, h1, h2⟩ := code_digits x
  obtain ⟨s1, r1⟩ := rows512 a ha
  obtain ⟨s2, r2⟩ := rows512 b hb
  have d : ∀ k, k % 8 < 8 := fun k => Nat.mod_lt _ (by decide)
  have a0 : a / 64 < 8 := by omega
  have b0 : b / 64 < 8 := by omega
  have hcode : codeOf x = [nm (a / 64), nm (a / 8 % 8), nm (a % 8), nm (b / 64), nm (b / 8 % 8), nm (b % 8)] :=
    six_cl (nm_cl3 _ a0).1 (nm_cl3 _ (d _)).1 (nm_cl3 _ (d _)).1 (nm_cl3 _ b0).1 (nm_cl3 _ (d _)).1 (nm_cl3 _ (d _)).1 (by rw [h1]; exact r1) (by rw [h2]; exact r2)
  have h6 : (codeOf x).length = 6 := by rw [hcode]; rfl
  have hc : ∀ s ∈ codeOf x, s ∈ NMS := by
    rw [hcode]
    exact List.forall_mem_cons.mpr ⟨(nm_cl3 _ a0).2.1, List.forall_mem_cons.mpr ⟨(nm_cl3 _ (d _)).2.1, List.forall_mem_cons.mpr ⟨(nm_cl3 _ (d _)).2.1, List.forall_mem_cons.mpr ⟨(nm_cl3 _ b0).2.1, List.forall_mem_cons.mpr ⟨(nm_cl3 _ (d _)).2.1, List.forall_mem_cons.mpr ⟨(nm_cl3 _ (d _)).2.1, List.forall_mem_nil _⟩⟩⟩⟩⟩⟩
  have P := par h6 hc
  refine ⟨Ways (codeOf x), { s1 := by rw [h1]; exact s1, s2 := by rw [h2]; exact s2, up := upOk h6 hc, way := fun k hk => way_ok P hk, wok := ways_ok h6 hc, told := ?_, mem := hc, num := ?_, cnts := fun k hk => cnts_ok P hk, eq1 := fun k hk h => eq1_ok P hk h, eq2 := fun k hk u h hu => eq2_ok P hk u h hu, last := last_ok P }⟩
  · rw [toldP h6 hc 6 (Nat.le_refl _)]
    exact List.take_of_length_le (by rw [h6]; exact Nat.le_refl _)
  · rw [hcode, hx]
    unfold numOf
    simp only [List.foldl_cons, List.foldl_nil]
    rw [(nm_cl3 _ a0).2.2, (nm_cl3 _ (d (a / 8))).2.2, (nm_cl3 _ (d a)).2.2, (nm_cl3 _ b0).2.2, (nm_cl3 _ (d (b / 8))).2.2, (nm_cl3 _ (d b)).2.2]
    omega
end Mine
end
section
open PySem PySem.W PyProof.Rows PySem.Calls LCg LCt PySem.SeqAt
set_option maxRecDepth 100000
set_option maxHeartbeats 2000000
namespace Mine
theorem fillC29 (w : World) : Mine.hd.heap_39 w.params = Mine.hd.heap_39 w.params ∧ PySem.Challenge.rw_rt0043_01.prog = PySem.Challenge.rw_rt0043_01.prog := by
  k_with_none
  k_fill
  k_with "INTRO" =>
    intro A s Q E R B hpre hQ
    have hA := R.handled
    obtain ⟨hd', d', fr', gs', u'⟩ := A
    dsimp only at hA
    subst hA
  k_with "ENTER" =>
    case R => assumption
    case B => assumption
    case ho => k_is
    case hcd => k_is
    case hb => first | exact BindsTo.of_eq rfl | rfl
    case hl => first | exact locs rfl | (intro D; exact locs rfl)
    case c1 => rfl
    case c2 => rfl
    case c3 => rfl
    case c4 => decide
    intro L h₁ tk loose mean mg mb F N X T R
    (try dsimp only)
    k_fold
  k_with "INTROL" =>
    intro A s Q E R B hpre hQ
    have hA := R.handled
    obtain ⟨hd', d', fr', gs', u'⟩ := A
    dsimp only at hA
    subst hA
    obtain ⟨sh, sg, sd, stk, so⟩ := s
  k_with "ENTERA" =>
    case R => assumption
    case B => assumption
    case h0 => assumption
    case ho => k_is
    case hcd => k_is
    case hb => exact BindsTo.of_eq rfl
    case hl => exact locs rfl
    case c1 => rfl
    case c2 => rfl
    case c3 => rfl
    case c4 => decide
    intro H L h₁ tk loose mean mg mb hH F N l0 X T R env A1
    (try simp only [AllLt, and_true] at l0)
    k_fold
  k_with "ENTERC" =>
    case R => assumption
    case B => assumption
    case h0 => assumption
    case ho => k_is
    case hcd => k_is
    case hb => exact BindsTo.of_eq rfl
    case hkind => exact rfl
    case hnd => decide +kernel
    case c1 => rfl
    case c2 => rfl
    case c3 => rfl
    intro H L h₁ tk cells loose mean mg mb hH F N l0 Y X T R env A1
    (try simp only [AllLt, and_true] at l0)
  k_with "END" => ((try dsimp only); (rename Fr _ _ _ _ => F'); refine hQ _ _ _ (Fr.keep F') ?_; clear F')
  k_with "ENDA" => ((try dsimp only); (rename Fr _ _ _ _ => F'); (rename News _ _ _ _ => N'); subst hH; refine hQ _ _ _ (keepA F' N' hpre (by first | exact List.forall_mem_nil _ | (intro p hp; simp only [List.mem_cons, List.mem_nil_iff, or_false, List.not_mem_nil] at hp ⊢; first | assumption | (rcases hp with rfl | rfl | rfl <;> simp)))) ?_; clear F')
  k_with "call builtin:issubclass" => ((rename News _ _ _ _ => N'); refine' call_issub ?k1 ?_; (case k1 => exact (N' _ (by k_mem)).1); k_whole)
  k_with "ROOM" => ((case R => assumption); (case hk => decide); (case F => k_asm); (case N => k_asm); (case X => k_asm); (case T => k_asm); k_whole)
  k_with "call ref" => ((with_reducible show wpAny _ _ (call (Value.ref 94) _) _ _ _); (refine' Spec.useV (fspath_spec _ _ _) ?R ?hk ?F ?N ?X ?T ?_; walk_at "ROOM"; intro h' tk' F' N'; (try k_sweep)))
  k_with "call ref" => ((with_reducible show wpAny _ _ (call (Value.ref 108) _) _ _ _); (refine' Spec.useS (getsep_spec _ _ _) ?R ?hk ?F ?N ?X ?T ?_; walk_at "ROOM"; intro t' h' tk' F' N'; (try k_sweep)))
  exact ⟨rfl, rfl⟩

theorem news_law {h₀ h : Heap} {L : Addr} {a b c d : Addr × Obj} (N : News h₀ L h [a, b, c, d]) : News h₀ L h [a, d] := fun p hp => N p (by
  rcases List.mem_cons.mp hp with rfl | hp
  · exact .head _
  · rw [List.mem_singleton.mp hp]; exact .tail _ (.tail _ (.tail _ (.head _))))
theorem room_law (env : Env) : Room (callerA.deeper env) 20 := ⟨rfl, (show callerA.depth + 1 + 20 < recursionLimit by decide), (show callerA.units + 3 + 8 * 20 < cLine by decide)⟩
theorem law_new {h₀ h h' : Heap} {L I c2 : Addr} {m : Str → Option Value} {ob oc2 : Obj} {p q : Addr × Obj} {cs : List (Addr × Obj)} (F : Fr h₀ L h m) (N : News h₀ L h ((I, ob) :: p :: q :: cs)) (N3 : News h₀ L h' ((I, ob) :: p :: cs)) (hcI : ∀ p ∈ cs, p.1 ≠ I) (gc : h'.get? c2 = some oc2) (hcs : cs = [(c2, oc2)] ∨ cs = [] ∧ h.get? c2 = none) :
    (h'.get? c2 = some oc2 ∧ c2 ≠ L ∧ h₀.get? c2 = none) ∧ c2 ≠ I := by
  rcases hcs with rfl | ⟨rfl, hn⟩
  · exact ⟨N3 (c2, oc2) (.tail _ (.tail _ (.head _))), hcI _ (.head _)⟩
  · refine ⟨⟨gc, fun e => ?_, ?_⟩, fun e => ?_⟩
    · obtain ⟨oL', _, _, hL, _⟩ := F.ns
      rw [← e, hn] at hL; cases hL
    · cases q : h₀.get? c2 with
      | none => rfl
      | some o' => have := F.keep _ _ q; rw [hn] at this; cases this
    · have e1 : h.get? I = some ob := (N _ (.head _)).1
      rw [← e, hn] at e1; cases e1
theorem law_news {h₀ h h' : Heap} {L c1 c2 : Addr} {o oc2 : Obj} {a b : Addr × Obj} {cs : List (Addr × Obj)} (N : News h₀ L h (a :: b :: (185, o) :: cs)) (N3 : News h₀ L h' (a :: b :: cs)) (g : h'.get? 185 = some (tabFull c1 c2)) (nc : h'.get? c2 = some oc2 ∧ c2 ≠ L ∧ h₀.get? c2 = none) :
    News h₀ L h' (a :: b :: (185, tabFull c1 c2) :: [(c2, oc2)]) := fun p hp => by
  rcases List.mem_cons.mp hp with rfl | hp
  · exact N3 _ (.head _)
  · rcases List.mem_cons.mp hp with rfl | hp
    · exact N3 _ (.tail _ (.head _))
    · rcases List.mem_cons.mp hp with rfl | hp
      · exact ⟨g, (N _ (.tail _ (.tail _ (.head _)))).2⟩
      · rw [List.mem_singleton.mp hp]; exact nc
theorem nameW {P : Prop} {vs : List Value} {ns : List Int} (_ : IntsAre vs ns) (k : ∀ ws, ws = vs → P) : P := k vs rfl
theorem nameL {P Q R : Prop} {d a : Addr} (_ : a < d ∧ Q ∧ R) (k : ∀ dd, dd = d → P) : P := k d rfl
def LawInv (I D3 : Addr) (l3 : Obj) (i : Nat) (xs : List Value) (m : Str → Option Value) (news : List (Addr × Obj)) : Prop :=
  ∃ o cs, news = (D3, l3) :: (185, o) :: cs ∧ TabL o cs ∧ (∀ p ∈ cs, p.1 ≠ (185 : Nat)) ∧ (∀ p ∈ cs, p.1 ≠ I) ∧ ∃ ns, IntsAre xs ns
theorem hd1 : PySem.Challenge.rw_rt0043_01.Holds := by
  w_on
  refine holds_law (by decide +kernel) fun said => ?_
  refine holds_open (q := QV) (loose := [Str.ofString "_filemode_table"]) (Xt := fun s => xlAt QV LV s && recOk (RowW.records RW9) s) (XP := XL QV LV) (Yf := Hook.obs HK) (Ya := Hook.val HK) (YP := Hook.says HK) (N := 3248) left (Hook.of HK) (Hook.keeps HK) (fun s e => xl_of s (Bool.and_eq_true_iff.mp e).1) XL.keeps (by rfl) (by rfl) (by rfl) (fun s e => recFacts_of (Bool.and_eq_true_iff.mp e).2) (by rfl) (by first | assumption | decide +kernel) (by decide +kernel) ⟨rfl, rfl, rfl, rfl, rfl, by decide +kernel⟩ ?hw ?hc
  case hw => w_witness2
  case hc =>
    k_go0
    k_with "exec For" => (refine Stop.here ?_)
    k_steps
    (rename Fr _ _ _ _ => F'); (rename News _ _ _ _ => N')
    with_unfolding_all refine Stop.go (For_turns F' ?_)
    k_with "pyIter ref" => (refine Stop.here ?_)
    k_steps
    rename IntsAre _ ([237893] ++ _) => hI
    rename Frag.In _ _ => X
    rename Top _ _ _ _ _ _ => T
    rename _ < _ ∧ _ < _ ∧ 185 < _ => l1
    (rename Fr _ _ _ _ => F'); (rename News _ _ _ _ => N')
    refine nameL l1 fun D3 hD3 => ?_
    subst hD3
    refine nameW hI fun ws3 hws => ?_
    subst hws
    have N5 := news_law N'
    clear N'
    refine Stop.go (iter_listTurns (by exact rfl) F' N5 (.head _) rfl rfl ?_)
    intro I li
    have n3 : D3 ≠ I := Nat.ne_of_lt (li _ (.head _))
    have n185 : (185 : Nat) ≠ I := Nat.ne_of_lt (li _ (.tail _ (.head _)))
    have n3' : D3 ≠ (185 : Nat) := Nat.ne_of_gt l1.2.2
    rw [← vals_zip]
    refine' items_ind (α := Value) (item := fun _ v => Itm.val v) (keep := [(D3, listOf ws3.toArray 0)]) (Inv := LawInv I D3 (listOf ws3.toArray 0)) ?step ?done _ 0 _ _ ?i0
    case i0 => exact ⟨tabObj #[], [], rfl, .inl ⟨rfl, rfl⟩, List.forall_mem_nil _, List.forall_mem_nil _, _, hI⟩
    case step =>
      rintro i v xs m news vv h tk ⟨o, cs, rfl, hT, h185, hcI, ns, hns⟩ hv F1 ob1 hob1 N1
      have hv' : vv = v := hv
      subst hv'
      cases hns with | cons n t hns =>
      obtain ⟨W, hW⟩ := tree_ok n
      dsimp only [List.cons_append, List.nil_append] at N1
      k_with "call ref" => ((with_reducible show wpAny _ _ (call (Value.ref 231) _) _ _ _); refine Stop.here ?_)
      k_steps
      (rename Fr _ _ _ _ => F2); (rename News _ _ _ _ => N2)
      refine Stop.go (SpecC.use (news' := (I, ob1) :: (D3, listOf ws3.toArray 0) :: cs) (k := 20) (tree_spec _ n t W hW hT h185) (room_law _) (Nat.le_refl _) F2 N2 X T (fun p hp => .tail _ (.tail _ hp)) trivial (fun b hb => ⟨o, by rw [List.mem_singleton.mp hb]; exact .tail _ (.tail _ (.head _))⟩) (fun p hp => ?_) ?_)
      · rcases List.mem_cons.mp hp with rfl | hp
        · exact ⟨.head _, fun q => n185 (List.mem_singleton.mp q).symm⟩
        · rcases List.mem_cons.mp hp with rfl | hp
          · exact ⟨.tail _ (.head _), fun q => n3' (List.mem_singleton.mp q)⟩
          · exact ⟨.tail _ (.tail _ (.tail _ hp)), fun q => h185 p hp (List.mem_singleton.mp q)⟩
      rintro v' h' tk' F3 N3 kk ⟨rfl, c1, c2, oc2, g85, gc2, hrec, hcs⟩
      have hne : c2 ≠ (185 : Nat) := fun e => rec_ne185 hrec (by rw [e] at gc2; exact Option.some.inj (gc2.symm.trans g85))
      obtain ⟨nc2, hcI2⟩ := law_new F2 N2 N3 hcI gc2 hcs
      have N4 : News _ _ h' ((I, ob1) :: (D3, listOf ws3.toArray 0) :: (185, tabFull c1 c2) :: [(c2, oc2)]) := law_news N2 N3 g85 nc2
      clear N2 N3 F2 kk
      k_steps
      (rename Fr _ _ _ _ => F5); (rename News _ _ _ _ => N6)
      refine ⟨_, _, _, (D3, listOf ws3.toArray 0) :: (185, tabFull c1 c2) :: [(c2, oc2)], rfl, F5, N6, fun p hp q hq => ?_, ⟨.head _, trivial⟩, tabFull c1 c2, [(c2, oc2)], rfl, .inr ⟨c1, c2, oc2, rfl, rfl, hrec⟩, List.forall_mem_cons.mpr ⟨hne, List.forall_mem_nil _⟩, List.forall_mem_cons.mpr ⟨hcI2, List.forall_mem_nil _⟩, _, hns⟩
      rw [List.mem_singleton.mp hq]
      rcases List.mem_cons.mp hp with rfl | hp
      · exact n3
      · rcases List.mem_cons.mp hp with rfl | hp
        · exact n185
        · rw [List.mem_singleton.mp hp]; exact hcI2
    case done =>
      rintro i m news h tk ⟨o, cs, rfl, hT, _⟩ F1 N1
      rcases hT with ⟨rfl, rfl⟩ | ⟨c1, c2, oc2, rfl, rfl, hrec⟩
      · k_steps
      · unfold tabFull at N1
        k_steps
end Mine
end
set_option maxRecDepth 100000 in
set_option maxHeartbeats 8000000 in
theorem PySem.Challenge.cw_rt0043_01_holds : PySem.Challenge.rw_rt0043_01.Holds := by
  exact Mine.hd1
