import PyProof.Rows.All
import Wide.All
import OpenK.AllK
import Wide.FinOn
import Lean
import PySem.Challenge.RW_kt0045_01
set_option Elab.async false
set_option linter.unusedVariables false
set_option maxRecDepth 100000
set_option maxHeartbeats 8000000
section
open PySem PySem.W PyProof.Rows
set_option Elab.async false
set_option maxRecDepth 100000
set_option maxHeartbeats 8000000
namespace Mine
noncomputable def stA (i : Nat) : Option Stmt := PySem.Challenge.rw_kt0045_01.row.prog.main.body[i]?
noncomputable def stM (i j : Nat) : Option Stmt := match stA i with
  | some (.ClassDef _ _ _ b _ _ _ _ _ _ _) => b[j]?
  | _ => none
noncomputable def dP : Option Stmt → Arguments
  | some (.FunctionDef _ a _ _ _ _ _ _ _ _) => a
  | _ => ⟨[], [], none, [], [], none, []⟩
noncomputable def dB : Option Stmt → List Stmt
  | some (.FunctionDef _ _ b _ _ _ _ _ _ _) => b
  | _ => []
noncomputable def dS : Option Stmt → Scope
  | some (.FunctionDef _ _ _ _ _ _ s _ _ _) => s
  | _ => ⟨.function, [], false, false, []⟩
noncomputable def fO (name qual : Str) (st : Option Stmt) (globals : Addr) (closure : List (Str × Addr)) (dV kV doc pm : Value) (an : Option Addr) (cd ct : Value) (bu : Addr) (cls : Value) (dict : Option Addr) (slots : Array (Option Value)) : Obj :=
  ⟨cls, dict, .func { name := name, qualname := qual, params := dP st, body := .stmts (dB st), scope := dS st, globals := globals, closure := closure, defaults := dV, kwdefaults := kV, doc := doc, pyModule := pm, annotations := an, code := cd, closureTuple := ct, builtins := bu }, slots⟩
noncomputable def Kd (P : Params) : Frag := [
  (2, { cls := Value.none, data := Data.dict #[] }),
  (3, { cls := Value.type "dict", data := Data.dict #[{ hash := PyData.keyHash P (Str.ofString "__name__"), key := Value.str (Str.ofString "__name__") 165, val := Value.str (Str.ofString "law_kt0045_01") 498 }, { hash := PyData.keyHash P (Str.ofString "__doc__"), key := Value.str (Str.ofString "__doc__") 166, val := Value.none }, { hash := PyData.keyHash P (Str.ofString "__package__"), key := Value.str (Str.ofString "__package__") 167, val := Value.none }, { hash := PyData.keyHash P (Str.ofString "__loader__"), key := Value.str (Str.ofString "__loader__") 168, val := Value.builtin "__main__.__loader__#opaque" }, { hash := PyData.keyHash P (Str.ofString "__spec__"), key := Value.str (Str.ofString "__spec__") 169, val := Value.none }, { hash := PyData.keyHash P (Str.ofString "__annotations__"), key := Value.str (Str.ofString "__annotations__") 170, val := Value.ref 6 }, { hash := PyData.keyHash P (Str.ofString "__builtins__"), key := Value.str (Str.ofString "__builtins__") 171, val := Value.ref 4 }, { hash := PyData.keyHash P (Str.ofString "__file__"), key := Value.str (Str.ofString "__file__") 173, val := Value.str (Str.ofString "/claim/cut.py") 172 }, { hash := PyData.keyHash P (Str.ofString "__cached__"), key := Value.str (Str.ofString "__cached__") 174, val := Value.none }, { hash := PyData.keyHash P (Str.ofString "_wall"), key := Value.str (Str.ofString "_wall") 193, val := Value.ref 21 }, { hash := PyData.keyHash P (Str.ofString "_plain_name"), key := Value.str (Str.ofString "_plain_name") 204, val := Value.ref 28 }, { hash := PyData.keyHash P (Str.ofString "ABCMeta"), key := Value.str (Str.ofString "ABCMeta") 230, val := Value.ref 45 }, { hash := PyData.keyHash P (Str.ofString "_ABCLike"), key := Value.str (Str.ofString "_ABCLike") 273, val := Value.ref 78 }, { hash := PyData.keyHash P (Str.ofString "_abc_plain_meta"), key := Value.str (Str.ofString "_abc_plain_meta") 280, val := Value.ref 87 }, { hash := PyData.keyHash P (Str.ofString "fspath"), key := Value.str (Str.ofString "fspath") 292, val := Value.ref 94 }, { hash := PyData.keyHash P (Str.ofString "_check_arg_types"), key := Value.str (Str.ofString "_check_arg_types") 305, val := Value.ref 101 }, { hash := PyData.keyHash P (Str.ofString "_get_sep"), key := Value.str (Str.ofString "_get_sep") 314, val := Value.ref 108 }, { hash := PyData.keyHash P (Str.ofString "join"), key := Value.str (Str.ofString "join") 325, val := Value.ref 115 }, { hash := PyData.keyHash P (Str.ofString "basename"), key := Value.str (Str.ofString "basename") 334, val := Value.ref 122 }, { hash := PyData.keyHash P (Str.ofString "dirname"), key := Value.str (Str.ofString "dirname") 344, val := Value.ref 129 }, { hash := PyData.keyHash P (Str.ofString "commonpath"), key := Value.str (Str.ofString "commonpath") 350, val := Value.ref 134 }, { hash := PyData.keyHash P (Str.ofString "filterfalse"), key := Value.str (Str.ofString "filterfalse") 402, val := Value.ref 167 }, { hash := PyData.keyHash P (Str.ofString "_filter"), key := Value.str (Str.ofString "_filter") 412, val := Value.ref 178 }, { hash := PyData.keyHash P (Str.ofString "S_IFMT"), key := Value.str (Str.ofString "S_IFMT") 421, val := Value.ref 185 }, { hash := PyData.keyHash P (Str.ofString "S_IFDIR"), key := Value.str (Str.ofString "S_IFDIR") 423, val := Value.int 16384 422 }, { hash := PyData.keyHash P (Str.ofString "S_IFCHR"), key := Value.str (Str.ofString "S_IFCHR") 425, val := Value.int 8192 424 }, { hash := PyData.keyHash P (Str.ofString "S_IFBLK"), key := Value.str (Str.ofString "S_IFBLK") 427, val := Value.int 24576 426 }, { hash := PyData.keyHash P (Str.ofString "S_IFREG"), key := Value.str (Str.ofString "S_IFREG") 429, val := Value.int 32768 428 }, { hash := PyData.keyHash P (Str.ofString "S_IFIFO"), key := Value.str (Str.ofString "S_IFIFO") 431, val := Value.int 4096 430 }, { hash := PyData.keyHash P (Str.ofString "S_IFLNK"), key := Value.str (Str.ofString "S_IFLNK") 433, val := Value.int 40960 432 }, { hash := PyData.keyHash P (Str.ofString "S_IFSOCK"), key := Value.str (Str.ofString "S_IFSOCK") 435, val := Value.int 49152 434 }, { hash := PyData.keyHash P (Str.ofString "S_ISUID"), key := Value.str (Str.ofString "S_ISUID") 437, val := Value.int 2048 436 }, { hash := PyData.keyHash P (Str.ofString "S_ISGID"), key := Value.str (Str.ofString "S_ISGID") 439, val := Value.int 1024 438 }, { hash := PyData.keyHash P (Str.ofString "S_ISVTX"), key := Value.str (Str.ofString "S_ISVTX") 441, val := Value.int 512 440 }, { hash := PyData.keyHash P (Str.ofString "S_IRUSR"), key := Value.str (Str.ofString "S_IRUSR") 443, val := Value.int 256 442 }, { hash := PyData.keyHash P (Str.ofString "S_IWUSR"), key := Value.str (Str.ofString "S_IWUSR") 445, val := Value.int 128 444 }, { hash := PyData.keyHash P (Str.ofString "S_IXUSR"), key := Value.str (Str.ofString "S_IXUSR") 447, val := Value.int 64 446 }, { hash := PyData.keyHash P (Str.ofString "S_IRGRP"), key := Value.str (Str.ofString "S_IRGRP") 449, val := Value.int 32 448 }, { hash := PyData.keyHash P (Str.ofString "S_IWGRP"), key := Value.str (Str.ofString "S_IWGRP") 451, val := Value.int 16 450 }, { hash := PyData.keyHash P (Str.ofString "S_IXGRP"), key := Value.str (Str.ofString "S_IXGRP") 453, val := Value.int 8 452 }, { hash := PyData.keyHash P (Str.ofString "S_IROTH"), key := Value.str (Str.ofString "S_IROTH") 455, val := Value.int 4 454 }, { hash := PyData.keyHash P (Str.ofString "S_IWOTH"), key := Value.str (Str.ofString "S_IWOTH") 457, val := Value.int 2 456 }, { hash := PyData.keyHash P (Str.ofString "S_IXOTH"), key := Value.str (Str.ofString "S_IXOTH") 459, val := Value.int 1 458 }, { hash := PyData.keyHash P (Str.ofString "_filemode_table"), key := Value.str (Str.ofString "_filemode_table") 485, val := Value.ref 218 }, { hash := PyData.keyHash P (Str.ofString "filemode"), key := Value.str (Str.ofString "filemode") 497, val := Value.ref 225 }, { hash := PyData.keyHash P (Str.ofString "_law_cells"), key := Value.str (Str.ofString "_law_cells") 509, val := Value.ref 232 }, { hash := PyData.keyHash P (Str.ofString "_law_drawn"), key := Value.str (Str.ofString "_law_drawn") 521, val := Value.ref 239 }, { hash := PyData.keyHash P (Str.ofString "_law_figures"), key := Value.str (Str.ofString "_law_figures") 527, val := Value.ref 244 }, { hash := PyData.keyHash P (Str.ofString "_law_marks"), key := Value.str (Str.ofString "_law_marks") 533, val := Value.ref 249 }, { hash := PyData.keyHash P (Str.ofString "_law_grow"), key := Value.str (Str.ofString "_law_grow") 539, val := Value.ref 254 }, { hash := PyData.keyHash P (Str.ofString "_law_keeps"), key := Value.str (Str.ofString "_law_keeps") 553, val := Value.ref 261 }, { hash := PyData.keyHash P (Str.ofString "_law_within"), key := Value.str (Str.ofString "_law_within") 559, val := Value.ref 266 }, { hash := PyData.keyHash P (Str.ofString "law"), key := Value.str (Str.ofString "law") 565, val := Value.ref 271 }] 53 }),
  (15, { cls := Value.type "tuple", data := Data.seq #[] }),
  (17, { cls := Value.type "tuple", data := Data.seq #[Value.str (Str.ofString "k") 190] }),
  (18, { cls := Value.type "tuple", data := Data.seq #[] }),
  (20, { cls := Value.type "code", data := Data.fields #[Value.str (Str.ofString "_wall") 187, Value.str (Str.ofString "_wall") 188, Value.str (Str.ofString "/claim/cut.py") 189, Value.int 1 0, Value.int 1 0, Value.int 0 0, Value.int 0 0, Value.int 3 0, Value.ref 15, Value.bool true, Value.int 181 0, Value.ref 16, Value.none, Value.ref 17, Value.ref 18, Value.ref 19, Value.int 191 0, Value.int 1 0, Value.str (Str.ofString "/claim/cut.py") 192] }),
  (21, fO (Str.ofString "_wall") (Str.ofString "_wall") (stA 0) (3) ([]) (Value.none) (Value.none) (Value.none) (Value.str (Str.ofString "__main__") 164) (none) (Value.ref 20) (Value.none) (0) (Value.type "function") (none) (#[])),
  (22, { cls := Value.type "tuple", data := Data.seq #[] }),
  (24, { cls := Value.type "tuple", data := Data.seq #[Value.str (Str.ofString "x") 199, Value.str (Str.ofString "what") 200, Value.str (Str.ofString "kind") 201] }),
  (25, { cls := Value.type "tuple", data := Data.seq #[] }),
  (27, { cls := Value.type "code", data := Data.fields #[Value.str (Str.ofString "_plain_name") 196, Value.str (Str.ofString "_plain_name") 197, Value.str (Str.ofString "/claim/cut.py") 198, Value.int 5 0, Value.int 2 0, Value.int 0 0, Value.int 0 0, Value.int 3 0, Value.ref 22, Value.bool true, Value.int 181 0, Value.ref 23, Value.none, Value.ref 24, Value.ref 25, Value.ref 26, Value.int 202 0, Value.int 5 0, Value.str (Str.ofString "/claim/cut.py") 203] }),
  (28, fO (Str.ofString "_plain_name") (Str.ofString "_plain_name") (stA 2) (3) ([]) (Value.none) (Value.none) (Value.none) (Value.str (Str.ofString "os") 194) (none) (Value.ref 27) (Value.none) (0) (Value.type "function") (none) (#[])),
  (29, { cls := Value.type "tuple", data := Data.seq #[Value.type "type"] }),
  (36, { cls := Value.type "tuple", data := Data.seq #[] }),
  (38, { cls := Value.type "tuple", data := Data.seq #[Value.str (Str.ofString "cls") 222, Value.str (Str.ofString "subclass") 223] }),
  (39, { cls := Value.type "tuple", data := Data.seq #[] }),
  (41, { cls := Value.type "code", data := Data.fields #[Value.str (Str.ofString "register") 219, Value.str (Str.ofString "ABCMeta.register") 220, Value.str (Str.ofString "/claim/cut.py") 221, Value.int 13 0, Value.int 2 0, Value.int 0 0, Value.int 0 0, Value.int 3 0, Value.ref 36, Value.bool true, Value.int 181 0, Value.ref 37, Value.none, Value.ref 38, Value.ref 39, Value.ref 40, Value.int 224 0, Value.int 13 0, Value.str (Str.ofString "/claim/cut.py") 225] }),
  (42, fO (Str.ofString "register") (Str.ofString "ABCMeta.register") (stM 4 0) (3) ([]) (Value.none) (Value.none) (Value.none) (Value.str (Str.ofString "abc") 205) (none) (Value.ref 41) (Value.none) (0) (Value.type "function") (none) (#[])),
  (43, { cls := Value.type "tuple", data := Data.seq #[] }),
  (44, { cls := Value.type "dict", data := Data.dict #[{ hash := PyData.keyHash P (Str.ofString "__module__"), key := Value.str (Str.ofString "__module__") 214, val := Value.str (Str.ofString "abc") 205 }, { hash := PyData.keyHash P (Str.ofString "__firstlineno__"), key := Value.str (Str.ofString "__firstlineno__") 218, val := Value.int 11 217 }, { hash := PyData.keyHash P (Str.ofString "register"), key := Value.str (Str.ofString "register") 226, val := Value.ref 42 }, { hash := PyData.keyHash P (Str.ofString "__static_attributes__"), key := Value.str (Str.ofString "__static_attributes__") 227, val := Value.ref 43 }, { hash := PyData.keyHash P (Str.ofString "__doc__"), key := Value.str (Str.ofString "__doc__") 228, val := Value.none }] 2 }),
  (45, { cls := Value.type "type", data := Data.cls { name := Str.ofString "ABCMeta", bases := [Value.type "type"], mro := [Value.ref 45, Value.type "type", Value.type "object"], ns := 44, qualname := Str.ofString "ABCMeta", subclasses := [Value.ref 78] }, slots := #[some (Value.ref 29), none, some (Value.str (Str.ofString "ABCMeta") 207), some (Value.str (Str.ofString "ABCMeta") 215), some (Value.builtin "type.__new__"), some (Value.bool true)] }),
  (48, { cls := Value.type "tuple", data := Data.seq #[Value.ref 45] }),
  (55, { cls := Value.type "tuple", data := Data.seq #[] }),
  (57, { cls := Value.type "tuple", data := Data.seq #[Value.str (Str.ofString "cls") 248, Value.str (Str.ofString "instance") 249, Value.str (Str.ofString "C") 250] }),
  (58, { cls := Value.type "tuple", data := Data.seq #[] }),
  (60, { cls := Value.type "code", data := Data.fields #[Value.str (Str.ofString "__instancecheck__") 245, Value.str (Str.ofString "_ABCLike.__instancecheck__") 246, Value.str (Str.ofString "/claim/cut.py") 247, Value.int 18 0, Value.int 2 0, Value.int 0 0, Value.int 0 0, Value.int 3 0, Value.ref 55, Value.bool true, Value.int 181 0, Value.ref 56, Value.none, Value.ref 57, Value.ref 58, Value.ref 59, Value.int 251 0, Value.int 18 0, Value.str (Str.ofString "/claim/cut.py") 252] }),
  (61, fO (Str.ofString "__instancecheck__") (Str.ofString "_ABCLike.__instancecheck__") (stM 6 0) (3) ([]) (Value.none) (Value.none) (Value.none) (Value.str (Str.ofString "collections.abc") 231) (none) (Value.ref 60) (Value.none) (0) (Value.type "function") (none) (#[])),
  (62, { cls := Value.type "tuple", data := Data.seq #[] }),
  (64, { cls := Value.type "tuple", data := Data.seq #[Value.str (Str.ofString "cls") 257, Value.str (Str.ofString "C") 258] }),
  (65, { cls := Value.type "tuple", data := Data.seq #[] }),
  (67, { cls := Value.type "code", data := Data.fields #[Value.str (Str.ofString "__subclasscheck__") 254, Value.str (Str.ofString "_ABCLike.__subclasscheck__") 255, Value.str (Str.ofString "/claim/cut.py") 256, Value.int 24 0, Value.int 2 0, Value.int 0 0, Value.int 0 0, Value.int 3 0, Value.ref 62, Value.bool true, Value.int 181 0, Value.ref 63, Value.none, Value.ref 64, Value.ref 65, Value.ref 66, Value.int 259 0, Value.int 24 0, Value.str (Str.ofString "/claim/cut.py") 260] }),
  (68, fO (Str.ofString "__subclasscheck__") (Str.ofString "_ABCLike.__subclasscheck__") (stM 6 1) (3) ([]) (Value.none) (Value.none) (Value.none) (Value.str (Str.ofString "collections.abc") 231) (none) (Value.ref 67) (Value.none) (0) (Value.type "function") (none) (#[])),
  (69, { cls := Value.type "tuple", data := Data.seq #[] }),
  (71, { cls := Value.type "tuple", data := Data.seq #[Value.str (Str.ofString "cls") 265, Value.str (Str.ofString "subclass") 266] }),
  (72, { cls := Value.type "tuple", data := Data.seq #[] }),
  (74, { cls := Value.type "code", data := Data.fields #[Value.str (Str.ofString "register") 262, Value.str (Str.ofString "_ABCLike.register") 263, Value.str (Str.ofString "/claim/cut.py") 264, Value.int 29 0, Value.int 2 0, Value.int 0 0, Value.int 0 0, Value.int 3 0, Value.ref 69, Value.bool true, Value.int 181 0, Value.ref 70, Value.none, Value.ref 71, Value.ref 72, Value.ref 73, Value.int 267 0, Value.int 29 0, Value.str (Str.ofString "/claim/cut.py") 268] }),
  (75, fO (Str.ofString "register") (Str.ofString "_ABCLike.register") (stM 6 2) (3) ([]) (Value.none) (Value.none) (Value.none) (Value.str (Str.ofString "collections.abc") 231) (none) (Value.ref 74) (Value.none) (0) (Value.type "function") (none) (#[])),
  (76, { cls := Value.type "tuple", data := Data.seq #[] }),
  (77, { cls := Value.type "dict", data := Data.dict #[{ hash := PyData.keyHash P (Str.ofString "__module__"), key := Value.str (Str.ofString "__module__") 240, val := Value.str (Str.ofString "collections.abc") 231 }, { hash := PyData.keyHash P (Str.ofString "__firstlineno__"), key := Value.str (Str.ofString "__firstlineno__") 244, val := Value.int 16 243 }, { hash := PyData.keyHash P (Str.ofString "__instancecheck__"), key := Value.str (Str.ofString "__instancecheck__") 253, val := Value.ref 61 }, { hash := PyData.keyHash P (Str.ofString "__subclasscheck__"), key := Value.str (Str.ofString "__subclasscheck__") 261, val := Value.ref 68 }, { hash := PyData.keyHash P (Str.ofString "register"), key := Value.str (Str.ofString "register") 269, val := Value.ref 75 }, { hash := PyData.keyHash P (Str.ofString "__static_attributes__"), key := Value.str (Str.ofString "__static_attributes__") 270, val := Value.ref 76 }, { hash := PyData.keyHash P (Str.ofString "__doc__"), key := Value.str (Str.ofString "__doc__") 271, val := Value.none }] 2 }),
  (78, { cls := Value.type "type", data := Data.cls { name := Str.ofString "_ABCLike", bases := [Value.ref 45], mro := [Value.ref 78, Value.ref 45, Value.type "type", Value.type "object"], ns := 77, qualname := Str.ofString "_ABCLike" }, slots := #[some (Value.ref 48), none, some (Value.str (Str.ofString "_ABCLike") 233), some (Value.str (Str.ofString "_ABCLike") 241), some (Value.builtin "type.__new__"), some (Value.bool true)] }),
  (81, { cls := Value.type "tuple", data := Data.seq #[] }),
  (83, { cls := Value.type "tuple", data := Data.seq #[Value.str (Str.ofString "C") 277] }),
  (84, { cls := Value.type "tuple", data := Data.seq #[] }),
  (86, { cls := Value.type "code", data := Data.fields #[Value.str (Str.ofString "_abc_plain_meta") 274, Value.str (Str.ofString "_abc_plain_meta") 275, Value.str (Str.ofString "/claim/cut.py") 276, Value.int 31 0, Value.int 1 0, Value.int 0 0, Value.int 0 0, Value.int 3 0, Value.ref 81, Value.bool true, Value.int 181 0, Value.ref 82, Value.none, Value.ref 83, Value.ref 84, Value.ref 85, Value.int 278 0, Value.int 31 0, Value.str (Str.ofString "/claim/cut.py") 279] }),
  (87, fO (Str.ofString "_abc_plain_meta") (Str.ofString "_abc_plain_meta") (stA 7) (3) ([]) (Value.none) (Value.none) (Value.none) (Value.str (Str.ofString "collections.abc") 231) (none) (Value.ref 86) (Value.none) (0) (Value.type "function") (none) (#[])),
  (88, { cls := Value.type "tuple", data := Data.seq #[] }),
  (90, { cls := Value.type "tuple", data := Data.seq #[Value.str (Str.ofString "path") 286, Value.str (Str.ofString "kind") 287, Value.str (Str.ofString "hook") 288, Value.str (Str.ofString "given") 289] }),
  (91, { cls := Value.type "tuple", data := Data.seq #[] }),
  (93, { cls := Value.type "code", data := Data.fields #[Value.str (Str.ofString "fspath") 283, Value.str (Str.ofString "fspath") 284, Value.str (Str.ofString "/claim/cut.py") 285, Value.int 35 0, Value.int 1 0, Value.int 0 0, Value.int 0 0, Value.int 3 0, Value.ref 88, Value.bool true, Value.int 181 0, Value.ref 89, Value.none, Value.ref 90, Value.ref 91, Value.ref 92, Value.int 290 0, Value.int 35 0, Value.str (Str.ofString "/claim/cut.py") 291] }),
  (94, fO (Str.ofString "fspath") (Str.ofString "fspath") (stA 9) (3) ([]) (Value.none) (Value.none) (Value.none) (Value.str (Str.ofString "os") 281) (none) (Value.ref 93) (Value.none) (0) (Value.type "function") (none) (#[])),
  (95, { cls := Value.type "tuple", data := Data.seq #[] }),
  (97, { cls := Value.type "tuple", data := Data.seq #[Value.str (Str.ofString "funcname") 298, Value.str (Str.ofString "args") 299, Value.str (Str.ofString "hasstr") 300, Value.str (Str.ofString "hasbytes") 301, Value.str (Str.ofString "s") 302] }),
  (98, { cls := Value.type "tuple", data := Data.seq #[] }),
  (100, { cls := Value.type "code", data := Data.fields #[Value.str (Str.ofString "_check_arg_types") 295, Value.str (Str.ofString "_check_arg_types") 296, Value.str (Str.ofString "/claim/cut.py") 297, Value.int 52 0, Value.int 1 0, Value.int 0 0, Value.int 0 0, Value.int 7 0, Value.ref 95, Value.bool true, Value.int 181 0, Value.ref 96, Value.none, Value.ref 97, Value.ref 98, Value.ref 99, Value.int 303 0, Value.int 52 0, Value.str (Str.ofString "/claim/cut.py") 304] }),
  (101, fO (Str.ofString "_check_arg_types") (Str.ofString "_check_arg_types") (stA 11) (3) ([]) (Value.none) (Value.none) (Value.none) (Value.str (Str.ofString "cpy313.genericpath") 293) (none) (Value.ref 100) (Value.none) (0) (Value.type "function") (none) (#[])),
  (102, { cls := Value.type "tuple", data := Data.seq #[] }),
  (104, { cls := Value.type "tuple", data := Data.seq #[Value.str (Str.ofString "path") 311] }),
  (105, { cls := Value.type "tuple", data := Data.seq #[] }),
  (107, { cls := Value.type "code", data := Data.fields #[Value.str (Str.ofString "_get_sep") 308, Value.str (Str.ofString "_get_sep") 309, Value.str (Str.ofString "/claim/cut.py") 310, Value.int 64 0, Value.int 1 0, Value.int 0 0, Value.int 0 0, Value.int 3 0, Value.ref 102, Value.bool true, Value.int 181 0, Value.ref 103, Value.none, Value.ref 104, Value.ref 105, Value.ref 106, Value.int 312 0, Value.int 64 0, Value.str (Str.ofString "/claim/cut.py") 313] }),
  (108, fO (Str.ofString "_get_sep") (Str.ofString "_get_sep") (stA 13) (3) ([]) (Value.none) (Value.none) (Value.none) (Value.str (Str.ofString "cpy313.posixpath") 306) (none) (Value.ref 107) (Value.none) (0) (Value.type "function") (none) (#[])),
  (109, { cls := Value.type "tuple", data := Data.seq #[] }),
  (111, { cls := Value.type "tuple", data := Data.seq #[Value.str (Str.ofString "a") 318, Value.str (Str.ofString "p") 319, Value.str (Str.ofString "sep") 320, Value.str (Str.ofString "path") 321, Value.str (Str.ofString "b") 322] }),
  (112, { cls := Value.type "tuple", data := Data.seq #[] }),
  (114, { cls := Value.type "code", data := Data.fields #[Value.str (Str.ofString "join") 315, Value.str (Str.ofString "join") 316, Value.str (Str.ofString "/claim/cut.py") 317, Value.int 69 0, Value.int 1 0, Value.int 0 0, Value.int 0 0, Value.int 7 0, Value.ref 109, Value.bool true, Value.int 181 0, Value.ref 110, Value.none, Value.ref 111, Value.ref 112, Value.ref 113, Value.int 323 0, Value.int 69 0, Value.str (Str.ofString "/claim/cut.py") 324] }),
  (115, fO (Str.ofString "join") (Str.ofString "join") (stA 14) (3) ([]) (Value.none) (Value.none) (Value.none) (Value.str (Str.ofString "cpy313.posixpath") 306) (none) (Value.ref 114) (Value.none) (0) (Value.type "function") (none) (#[])),
  (116, { cls := Value.type "tuple", data := Data.seq #[] }),
  (118, { cls := Value.type "tuple", data := Data.seq #[Value.str (Str.ofString "p") 329, Value.str (Str.ofString "sep") 330, Value.str (Str.ofString "i") 331] }),
  (119, { cls := Value.type "tuple", data := Data.seq #[] }),
  (121, { cls := Value.type "code", data := Data.fields #[Value.str (Str.ofString "basename") 326, Value.str (Str.ofString "basename") 327, Value.str (Str.ofString "/claim/cut.py") 328, Value.int 86 0, Value.int 1 0, Value.int 0 0, Value.int 0 0, Value.int 3 0, Value.ref 116, Value.bool true, Value.int 181 0, Value.ref 117, Value.none, Value.ref 118, Value.ref 119, Value.ref 120, Value.int 332 0, Value.int 86 0, Value.str (Str.ofString "/claim/cut.py") 333] }),
  (122, fO (Str.ofString "basename") (Str.ofString "basename") (stA 15) (3) ([]) (Value.none) (Value.none) (Value.none) (Value.str (Str.ofString "cpy313.posixpath") 306) (none) (Value.ref 121) (Value.none) (0) (Value.type "function") (none) (#[])),
  (123, { cls := Value.type "tuple", data := Data.seq #[] }),
  (125, { cls := Value.type "tuple", data := Data.seq #[Value.str (Str.ofString "p") 338, Value.str (Str.ofString "sep") 339, Value.str (Str.ofString "i") 340, Value.str (Str.ofString "head") 341] }),
  (126, { cls := Value.type "tuple", data := Data.seq #[] }),
  (128, { cls := Value.type "code", data := Data.fields #[Value.str (Str.ofString "dirname") 335, Value.str (Str.ofString "dirname") 336, Value.str (Str.ofString "/claim/cut.py") 337, Value.int 91 0, Value.int 1 0, Value.int 0 0, Value.int 0 0, Value.int 3 0, Value.ref 123, Value.bool true, Value.int 181 0, Value.ref 124, Value.none, Value.ref 125, Value.ref 126, Value.ref 127, Value.int 342 0, Value.int 91 0, Value.str (Str.ofString "/claim/cut.py") 343] }),
  (129, fO (Str.ofString "dirname") (Str.ofString "dirname") (stA 16) (3) ([]) (Value.none) (Value.none) (Value.none) (Value.str (Str.ofString "cpy313.posixpath") 306) (none) (Value.ref 128) (Value.none) (0) (Value.type "function") (none) (#[])),
  (130, { cls := Value.type "tuple", data := Data.seq #[] }),
  (133, { cls := Value.type "code", data := Data.fields #[Value.str (Str.ofString "commonpath") 345, Value.str (Str.ofString "commonpath") 346, Value.str (Str.ofString "/claim/cut.py") 347, Value.int 99 0, Value.int 1 0, Value.int 0 0, Value.int 0 0, Value.int 3 0, Value.ref 130, Value.bool true, Value.int 181 0, Value.ref 131, Value.none, Value.none, Value.none, Value.ref 132, Value.int 348 0, Value.int 99 0, Value.str (Str.ofString "/claim/cut.py") 349] }),
  (134, fO (Str.ofString "commonpath") (Str.ofString "commonpath") (stA 17) (3) ([]) (Value.none) (Value.none) (Value.none) (Value.str (Str.ofString "cpy313.posixpath") 306) (none) (Value.ref 133) (Value.none) (0) (Value.type "function") (none) (#[])),
  (142, { cls := Value.type "tuple", data := Data.seq #[Value.str (Str.ofString "_it") 365, Value.str (Str.ofString "_func") 366] }),
  (143, { cls := Value.type "tuple", data := Data.seq #[] }),
  (145, { cls := Value.type "tuple", data := Data.seq #[Value.str (Str.ofString "self") 371, Value.str (Str.ofString "function") 372, Value.str (Str.ofString "iterable") 373] }),
  (146, { cls := Value.type "tuple", data := Data.seq #[] }),
  (148, { cls := Value.type "code", data := Data.fields #[Value.str (Str.ofString "__init__") 368, Value.str (Str.ofString "filterfalse.__init__") 369, Value.str (Str.ofString "/claim/cut.py") 370, Value.int 132 0, Value.int 3 0, Value.int 3 0, Value.int 0 0, Value.int 3 0, Value.ref 143, Value.bool true, Value.int 181 0, Value.ref 144, Value.none, Value.ref 145, Value.ref 146, Value.ref 147, Value.int 374 0, Value.int 132 0, Value.str (Str.ofString "/claim/cut.py") 375] }),
  (149, fO (Str.ofString "__init__") (Str.ofString "filterfalse.__init__") (stM 19 1) (3) ([]) (Value.none) (Value.none) (Value.none) (Value.str (Str.ofString "itertools") 351) (none) (Value.ref 148) (Value.none) (0) (Value.type "function") (none) (#[])),
  (150, { cls := Value.type "tuple", data := Data.seq #[] }),
  (152, { cls := Value.type "tuple", data := Data.seq #[Value.str (Str.ofString "self") 380] }),
  (153, { cls := Value.type "tuple", data := Data.seq #[] }),
  (155, { cls := Value.type "code", data := Data.fields #[Value.str (Str.ofString "__iter__") 377, Value.str (Str.ofString "filterfalse.__iter__") 378, Value.str (Str.ofString "/claim/cut.py") 379, Value.int 136 0, Value.int 1 0, Value.int 0 0, Value.int 0 0, Value.int 3 0, Value.ref 150, Value.bool true, Value.int 181 0, Value.ref 151, Value.none, Value.ref 152, Value.ref 153, Value.ref 154, Value.int 381 0, Value.int 136 0, Value.str (Str.ofString "/claim/cut.py") 382] }),
  (156, fO (Str.ofString "__iter__") (Str.ofString "filterfalse.__iter__") (stM 19 2) (3) ([]) (Value.none) (Value.none) (Value.none) (Value.str (Str.ofString "itertools") 351) (none) (Value.ref 155) (Value.none) (0) (Value.type "function") (none) (#[])),
  (157, { cls := Value.type "tuple", data := Data.seq #[] }),
  (159, { cls := Value.type "tuple", data := Data.seq #[Value.str (Str.ofString "self") 387, Value.str (Str.ofString "func") 388, Value.str (Str.ofString "item") 389] }),
  (160, { cls := Value.type "tuple", data := Data.seq #[] }),
  (162, { cls := Value.type "code", data := Data.fields #[Value.str (Str.ofString "__next__") 384, Value.str (Str.ofString "filterfalse.__next__") 385, Value.str (Str.ofString "/claim/cut.py") 386, Value.int 139 0, Value.int 1 0, Value.int 0 0, Value.int 0 0, Value.int 3 0, Value.ref 157, Value.bool true, Value.int 181 0, Value.ref 158, Value.none, Value.ref 159, Value.ref 160, Value.ref 161, Value.int 390 0, Value.int 139 0, Value.str (Str.ofString "/claim/cut.py") 391] }),
  (163, fO (Str.ofString "__next__") (Str.ofString "filterfalse.__next__") (stM 19 3) (3) ([]) (Value.none) (Value.none) (Value.none) (Value.str (Str.ofString "itertools") 351) (none) (Value.ref 162) (Value.none) (0) (Value.type "function") (none) (#[])),
  (164, { cls := Value.type "tuple", data := Data.seq #[Value.str (Str.ofString "_func") 393, Value.str (Str.ofString "_it") 394] }),
  (166, { cls := Value.type "dict", data := Data.dict #[{ hash := PyData.keyHash P (Str.ofString "__module__"), key := Value.str (Str.ofString "__module__") 360, val := Value.str (Str.ofString "itertools") 351 }, { hash := PyData.keyHash P (Str.ofString "__firstlineno__"), key := Value.str (Str.ofString "__firstlineno__") 364, val := Value.int 129 363 }, { hash := PyData.keyHash P (Str.ofString "__slots__"), key := Value.str (Str.ofString "__slots__") 367, val := Value.ref 142 }, { hash := PyData.keyHash P (Str.ofString "__init__"), key := Value.str (Str.ofString "__init__") 376, val := Value.ref 149 }, { hash := PyData.keyHash P (Str.ofString "__iter__"), key := Value.str (Str.ofString "__iter__") 383, val := Value.ref 156 }, { hash := PyData.keyHash P (Str.ofString "__next__"), key := Value.str (Str.ofString "__next__") 392, val := Value.ref 163 }, { hash := PyData.keyHash P (Str.ofString "__static_attributes__"), key := Value.str (Str.ofString "__static_attributes__") 395, val := Value.ref 164 }, { hash := PyData.keyHash P (Str.ofString "_func"), key := Value.str (Str.ofString "_func") 397, val := Value.ref 168 }, { hash := PyData.keyHash P (Str.ofString "_it"), key := Value.str (Str.ofString "_it") 399, val := Value.ref 169 }, { hash := PyData.keyHash P (Str.ofString "__doc__"), key := Value.str (Str.ofString "__doc__") 400, val := Value.none }] 4 }),
  (167, { cls := Value.type "type", data := Data.cls { name := Str.ofString "filterfalse", bases := [Value.type "object"], mro := [Value.ref 167, Value.type "object"], ns := 166, qualname := Str.ofString "filterfalse", hasDict := false, slotNames := [Str.ofString "_func", Str.ofString "_it"] }, slots := #[none, none, some (Value.str (Str.ofString "filterfalse") 353), some (Value.str (Str.ofString "filterfalse") 361), some (Value.builtin "object.__new__"), some (Value.bool false)] }),
  (168, { cls := Value.type "member_descriptor", data := Data.fields #[Value.str (Str.ofString "_func") 396, Value.ref 167, Value.builtin "proto.slot", Value.builtin "proto.slot#set", Value.int 1 0] }),
  (169, { cls := Value.type "member_descriptor", data := Data.fields #[Value.str (Str.ofString "_it") 398, Value.ref 167, Value.builtin "proto.slot", Value.builtin "proto.slot#set", Value.int 0 0] }),
  (172, { cls := Value.type "tuple", data := Data.seq #[] }),
  (174, { cls := Value.type "tuple", data := Data.seq #[Value.str (Str.ofString "flist") 408, Value.str (Str.ofString "skip") 409] }),
  (175, { cls := Value.type "tuple", data := Data.seq #[] }),
  (177, { cls := Value.type "code", data := Data.fields #[Value.str (Str.ofString "_filter") 405, Value.str (Str.ofString "_filter") 406, Value.str (Str.ofString "/claim/cut.py") 407, Value.int 149 0, Value.int 2 0, Value.int 0 0, Value.int 0 0, Value.int 3 0, Value.ref 172, Value.bool true, Value.int 181 0, Value.ref 173, Value.none, Value.ref 174, Value.ref 175, Value.ref 176, Value.int 410 0, Value.int 149 0, Value.str (Str.ofString "/claim/cut.py") 411] }),
  (178, fO (Str.ofString "_filter") (Str.ofString "_filter") (stA 21) (3) ([]) (Value.none) (Value.none) (Value.none) (Value.str (Str.ofString "cpy313.filecmp") 403) (none) (Value.ref 177) (Value.none) (0) (Value.type "function") (none) (#[])),
  (179, { cls := Value.type "tuple", data := Data.seq #[] }),
  (181, { cls := Value.type "tuple", data := Data.seq #[Value.str (Str.ofString "mode") 418] }),
  (182, { cls := Value.type "tuple", data := Data.seq #[] }),
  (184, { cls := Value.type "code", data := Data.fields #[Value.str (Str.ofString "S_IFMT") 415, Value.str (Str.ofString "S_IFMT") 416, Value.str (Str.ofString "/claim/cut.py") 417, Value.int 152 0, Value.int 1 0, Value.int 0 0, Value.int 0 0, Value.int 3 0, Value.ref 179, Value.bool true, Value.int 181 0, Value.ref 180, Value.none, Value.ref 181, Value.ref 182, Value.ref 183, Value.int 419 0, Value.int 152 0, Value.str (Str.ofString "/claim/cut.py") 420] }),
  (185, fO (Str.ofString "S_IFMT") (Str.ofString "S_IFMT") (stA 23) (3) ([]) (Value.none) (Value.none) (Value.none) (Value.str (Str.ofString "cpy313.stat") 413) (none) (Value.ref 184) (Value.none) (0) (Value.type "function") (none) (#[])),
  (186, { cls := Value.type "tuple", data := Data.seq #[Value.int 40960 432, Value.str (Str.ofString "l") 460] }),
  (187, { cls := Value.type "tuple", data := Data.seq #[Value.int 49152 434, Value.str (Str.ofString "s") 461] }),
  (188, { cls := Value.type "tuple", data := Data.seq #[Value.int 32768 428, Value.str (Str.ofString "-") 462] }),
  (189, { cls := Value.type "tuple", data := Data.seq #[Value.int 24576 426, Value.str (Str.ofString "b") 463] }),
  (190, { cls := Value.type "tuple", data := Data.seq #[Value.int 16384 422, Value.str (Str.ofString "d") 464] }),
  (191, { cls := Value.type "tuple", data := Data.seq #[Value.int 8192 424, Value.str (Str.ofString "c") 465] }),
  (192, { cls := Value.type "tuple", data := Data.seq #[Value.int 4096 430, Value.str (Str.ofString "p") 466] }),
  (193, { cls := Value.type "tuple", data := Data.seq #[Value.ref 186, Value.ref 187, Value.ref 188, Value.ref 189, Value.ref 190, Value.ref 191, Value.ref 192] }),
  (194, { cls := Value.type "tuple", data := Data.seq #[Value.int 256 442, Value.str (Str.ofString "r") 467] }),
  (195, { cls := Value.type "tuple", data := Data.seq #[Value.ref 194] }),
  (196, { cls := Value.type "tuple", data := Data.seq #[Value.int 128 444, Value.str (Str.ofString "w") 468] }),
  (197, { cls := Value.type "tuple", data := Data.seq #[Value.ref 196] }),
  (198, { cls := Value.type "tuple", data := Data.seq #[Value.int 2112 469, Value.str (Str.ofString "s") 470] }),
  (199, { cls := Value.type "tuple", data := Data.seq #[Value.int 2048 436, Value.str (Str.ofString "S") 471] }),
  (200, { cls := Value.type "tuple", data := Data.seq #[Value.int 64 446, Value.str (Str.ofString "x") 472] }),
  (201, { cls := Value.type "tuple", data := Data.seq #[Value.ref 198, Value.ref 199, Value.ref 200] }),
  (202, { cls := Value.type "tuple", data := Data.seq #[Value.int 32 448, Value.str (Str.ofString "r") 473] }),
  (203, { cls := Value.type "tuple", data := Data.seq #[Value.ref 202] }),
  (204, { cls := Value.type "tuple", data := Data.seq #[Value.int 16 450, Value.str (Str.ofString "w") 474] }),
  (205, { cls := Value.type "tuple", data := Data.seq #[Value.ref 204] }),
  (206, { cls := Value.type "tuple", data := Data.seq #[Value.int 1032 475, Value.str (Str.ofString "s") 476] }),
  (207, { cls := Value.type "tuple", data := Data.seq #[Value.int 1024 438, Value.str (Str.ofString "S") 477] }),
  (208, { cls := Value.type "tuple", data := Data.seq #[Value.int 8 452, Value.str (Str.ofString "x") 478] }),
  (209, { cls := Value.type "tuple", data := Data.seq #[Value.ref 206, Value.ref 207, Value.ref 208] }),
  (210, { cls := Value.type "tuple", data := Data.seq #[Value.int 4 454, Value.str (Str.ofString "r") 479] }),
  (211, { cls := Value.type "tuple", data := Data.seq #[Value.ref 210] }),
  (212, { cls := Value.type "tuple", data := Data.seq #[Value.int 2 456, Value.str (Str.ofString "w") 480] }),
  (213, { cls := Value.type "tuple", data := Data.seq #[Value.ref 212] }),
  (214, { cls := Value.type "tuple", data := Data.seq #[Value.int 513 481, Value.str (Str.ofString "t") 482] }),
  (215, { cls := Value.type "tuple", data := Data.seq #[Value.int 512 440, Value.str (Str.ofString "T") 483] }),
  (216, { cls := Value.type "tuple", data := Data.seq #[Value.int 1 458, Value.str (Str.ofString "x") 484] }),
  (217, { cls := Value.type "tuple", data := Data.seq #[Value.ref 214, Value.ref 215, Value.ref 216] }),
  (218, { cls := Value.type "tuple", data := Data.seq #[Value.ref 193, Value.ref 195, Value.ref 197, Value.ref 201, Value.ref 203, Value.ref 205, Value.ref 209, Value.ref 211, Value.ref 213, Value.ref 217] }),
  (219, { cls := Value.type "tuple", data := Data.seq #[] }),
  (221, { cls := Value.type "tuple", data := Data.seq #[Value.str (Str.ofString "mode") 489, Value.str (Str.ofString "perm") 490, Value.str (Str.ofString "index") 491, Value.str (Str.ofString "table") 492, Value.str (Str.ofString "bit") 493, Value.str (Str.ofString "char") 494] }),
  (222, { cls := Value.type "tuple", data := Data.seq #[] }),
  (224, { cls := Value.type "code", data := Data.fields #[Value.str (Str.ofString "filemode") 486, Value.str (Str.ofString "filemode") 487, Value.str (Str.ofString "/claim/cut.py") 488, Value.int 174 0, Value.int 1 0, Value.int 0 0, Value.int 0 0, Value.int 3 0, Value.ref 219, Value.bool true, Value.int 181 0, Value.ref 220, Value.none, Value.ref 221, Value.ref 222, Value.ref 223, Value.int 495 0, Value.int 174 0, Value.str (Str.ofString "/claim/cut.py") 496] }),
  (225, fO (Str.ofString "filemode") (Str.ofString "filemode") (stA 44) (3) ([]) (Value.none) (Value.none) (Value.none) (Value.str (Str.ofString "cpy313.stat") 413) (none) (Value.ref 224) (Value.none) (0) (Value.type "function") (none) (#[])),
  (226, { cls := Value.type "tuple", data := Data.seq #[] }),
  (228, { cls := Value.type "tuple", data := Data.seq #[Value.str (Str.ofString "script") 503, Value.str (Str.ofString "cells") 504, Value.str (Str.ofString "k") 505, Value.str (Str.ofString "x") 506] }),
  (229, { cls := Value.type "tuple", data := Data.seq #[] }),
  (231, { cls := Value.type "code", data := Data.fields #[Value.str (Str.ofString "_law_cells") 500, Value.str (Str.ofString "_law_cells") 501, Value.str (Str.ofString "/claim/cut.py") 502, Value.int 192 0, Value.int 1 0, Value.int 0 0, Value.int 0 0, Value.int 3 0, Value.ref 226, Value.bool true, Value.int 181 0, Value.ref 227, Value.none, Value.ref 228, Value.ref 229, Value.ref 230, Value.int 507 0, Value.int 192 0, Value.str (Str.ofString "/claim/cut.py") 508] }),
  (232, fO (Str.ofString "_law_cells") (Str.ofString "_law_cells") (stA 46) (3) ([]) (Value.none) (Value.none) (Value.none) (Value.str (Str.ofString "law_kt0045_01") 498) (none) (Value.ref 231) (Value.none) (0) (Value.type "function") (none) (#[])),
  (233, { cls := Value.type "tuple", data := Data.seq #[] }),
  (235, { cls := Value.type "tuple", data := Data.seq #[Value.str (Str.ofString "number") 513, Value.str (Str.ofString "folders") 514, Value.str (Str.ofString "name") 515, Value.str (Str.ofString "many") 516, Value.str (Str.ofString "drawn") 517, Value.str (Str.ofString "one") 518] }),
  (236, { cls := Value.type "tuple", data := Data.seq #[] }),
  (238, { cls := Value.type "code", data := Data.fields #[Value.str (Str.ofString "_law_drawn") 510, Value.str (Str.ofString "_law_drawn") 511, Value.str (Str.ofString "/claim/cut.py") 512, Value.int 197 0, Value.int 1 0, Value.int 0 0, Value.int 0 0, Value.int 3 0, Value.ref 233, Value.bool true, Value.int 181 0, Value.ref 234, Value.none, Value.ref 235, Value.ref 236, Value.ref 237, Value.int 519 0, Value.int 197 0, Value.str (Str.ofString "/claim/cut.py") 520] }),
  (239, fO (Str.ofString "_law_drawn") (Str.ofString "_law_drawn") (stA 47) (3) ([]) (Value.none) (Value.none) (Value.none) (Value.str (Str.ofString "law_kt0045_01") 498) (none) (Value.ref 238) (Value.none) (0) (Value.type "function") (none) (#[])),
  (240, { cls := Value.type "tuple", data := Data.seq #[] }),
  (243, { cls := Value.type "code", data := Data.fields #[Value.str (Str.ofString "_law_figures") 522, Value.str (Str.ofString "_law_figures") 523, Value.str (Str.ofString "/claim/cut.py") 524, Value.int 207 0, Value.int 1 0, Value.int 0 0, Value.int 0 0, Value.int 3 0, Value.ref 240, Value.bool true, Value.int 181 0, Value.ref 241, Value.none, Value.none, Value.none, Value.ref 242, Value.int 525 0, Value.int 207 0, Value.str (Str.ofString "/claim/cut.py") 526] }),
  (244, fO (Str.ofString "_law_figures") (Str.ofString "_law_figures") (stA 48) (3) ([]) (Value.none) (Value.none) (Value.none) (Value.str (Str.ofString "law_kt0045_01") 498) (none) (Value.ref 243) (Value.none) (0) (Value.type "function") (none) (#[])),
  (245, { cls := Value.type "tuple", data := Data.seq #[] }),
  (248, { cls := Value.type "code", data := Data.fields #[Value.str (Str.ofString "_law_marks") 528, Value.str (Str.ofString "_law_marks") 529, Value.str (Str.ofString "/claim/cut.py") 530, Value.int 214 0, Value.int 2 0, Value.int 0 0, Value.int 0 0, Value.int 3 0, Value.ref 245, Value.bool true, Value.int 181 0, Value.ref 246, Value.none, Value.none, Value.none, Value.ref 247, Value.int 531 0, Value.int 214 0, Value.str (Str.ofString "/claim/cut.py") 532] }),
  (249, fO (Str.ofString "_law_marks") (Str.ofString "_law_marks") (stA 49) (3) ([]) (Value.none) (Value.none) (Value.none) (Value.str (Str.ofString "law_kt0045_01") 498) (none) (Value.ref 248) (Value.none) (0) (Value.type "function") (none) (#[])),
  (250, { cls := Value.type "tuple", data := Data.seq #[] }),
  (253, { cls := Value.type "code", data := Data.fields #[Value.str (Str.ofString "_law_grow") 534, Value.str (Str.ofString "_law_grow") 535, Value.str (Str.ofString "/claim/cut.py") 536, Value.int 227 0, Value.int 3 0, Value.int 0 0, Value.int 0 0, Value.int 3 0, Value.ref 250, Value.bool true, Value.int 181 0, Value.ref 251, Value.none, Value.none, Value.none, Value.ref 252, Value.int 537 0, Value.int 227 0, Value.str (Str.ofString "/claim/cut.py") 538] }),
  (254, fO (Str.ofString "_law_grow") (Str.ofString "_law_grow") (stA 50) (3) ([]) (Value.none) (Value.none) (Value.none) (Value.str (Str.ofString "law_kt0045_01") 498) (none) (Value.ref 253) (Value.none) (0) (Value.type "function") (none) (#[])),
  (255, { cls := Value.type "tuple", data := Data.seq #[] }),
  (257, { cls := Value.type "tuple", data := Data.seq #[Value.str (Str.ofString "paths") 543, Value.str (Str.ofString "wishes") 544, Value.str (Str.ofString "one") 545, Value.str (Str.ofString "two") 546, Value.str (Str.ofString "three") 547, Value.str (Str.ofString "four") 548, Value.str (Str.ofString "inner") 549, Value.str (Str.ofString "outer") 550] }),
  (258, { cls := Value.type "tuple", data := Data.seq #[] }),
  (260, { cls := Value.type "code", data := Data.fields #[Value.str (Str.ofString "_law_keeps") 540, Value.str (Str.ofString "_law_keeps") 541, Value.str (Str.ofString "/claim/cut.py") 542, Value.int 246 0, Value.int 2 0, Value.int 0 0, Value.int 0 0, Value.int 3 0, Value.ref 255, Value.bool true, Value.int 181 0, Value.ref 256, Value.none, Value.ref 257, Value.ref 258, Value.ref 259, Value.int 551 0, Value.int 246 0, Value.str (Str.ofString "/claim/cut.py") 552] }),
  (261, fO (Str.ofString "_law_keeps") (Str.ofString "_law_keeps") (stA 51) (3) ([]) (Value.none) (Value.none) (Value.none) (Value.str (Str.ofString "law_kt0045_01") 498) (none) (Value.ref 260) (Value.none) (0) (Value.type "function") (none) (#[])),
  (262, { cls := Value.type "tuple", data := Data.seq #[] }),
  (265, { cls := Value.type "code", data := Data.fields #[Value.str (Str.ofString "_law_within") 554, Value.str (Str.ofString "_law_within") 555, Value.str (Str.ofString "/claim/cut.py") 556, Value.int 253 0, Value.int 2 0, Value.int 0 0, Value.int 0 0, Value.int 3 0, Value.ref 262, Value.bool true, Value.int 181 0, Value.ref 263, Value.none, Value.none, Value.none, Value.ref 264, Value.int 557 0, Value.int 253 0, Value.str (Str.ofString "/claim/cut.py") 558] }),
  (266, fO (Str.ofString "_law_within") (Str.ofString "_law_within") (stA 52) (3) ([]) (Value.none) (Value.none) (Value.none) (Value.str (Str.ofString "law_kt0045_01") 498) (none) (Value.ref 265) (Value.none) (0) (Value.type "function") (none) (#[])),
  (267, { cls := Value.type "tuple", data := Data.seq #[] }),
  (270, { cls := Value.type "code", data := Data.fields #[Value.str (Str.ofString "law") 560, Value.str (Str.ofString "law") 561, Value.str (Str.ofString "/claim/cut.py") 562, Value.int 265 0, Value.int 1 0, Value.int 0 0, Value.int 0 0, Value.int 3 0, Value.ref 267, Value.bool true, Value.int 181 0, Value.ref 268, Value.none, Value.none, Value.none, Value.ref 269, Value.int 563 0, Value.int 265 0, Value.str (Str.ofString "/claim/cut.py") 564] }),
  (271, fO (Str.ofString "law") (Str.ofString "law") (stA 53) (3) ([]) (Value.none) (Value.none) (Value.none) (Value.str (Str.ofString "law_kt0045_01") 498) (none) (Value.ref 270) (Value.none) (0) (Value.type "function") (none) (#[]))]
noncomputable def asL : List Addr := [2, 3, 15, 17, 18, 20, 21, 22, 24, 25, 27, 28, 29, 36, 38, 39, 41, 42, 43, 44, 45, 48, 55, 57, 58, 60, 61, 62, 64, 65, 67, 68, 69, 71, 72, 74, 75, 76, 77, 78, 81, 83, 84, 86, 87, 88, 90, 91, 93, 94, 95, 97, 98, 100, 101, 102, 104, 105, 107, 108, 109, 111, 112, 114, 115, 116, 118, 119, 121, 122, 123, 125, 126, 128, 129, 130, 133, 134, 142, 143, 145, 146, 148, 149, 150, 152, 153, 155, 156, 157, 159, 160, 162, 163, 164, 166, 167, 168, 169, 172, 174, 175, 177, 178, 179, 181, 182, 184, 185, 186, 187, 188, 189, 190, 191, 192, 193, 194, 195, 196, 197, 198, 199, 200, 201, 202, 203, 204, 205, 206, 207, 208, 209, 210, 211, 212, 213, 214, 215, 216, 217, 218, 219, 221, 222, 224, 225, 226, 228, 229, 231, 232, 233, 235, 236, 238, 239, 240, 243, 244, 245, 248, 249, 250, 253, 254, 255, 257, 258, 260, 261, 262, 265, 266, 267, 270, 271]
noncomputable def view : Program := { PySem.Challenge.rw_kt0045_01.row.prog with main := { PySem.Challenge.rw_kt0045_01.row.prog.main with body := [0, 2, 4, 6, 7, 9, 11, 13, 14, 15, 16, 17, 19, 21, 23, 24, 25, 26, 27, 28, 29, 30, 31, 32, 33, 34, 35, 36, 37, 38, 39, 40, 41, 42, 43, 44, 46, 47, 48, 49, 50, 51, 52, 53].filterMap stA } }
noncomputable def modeTable : List (List (Int × Str)) := [[(40960, "l"), (49152, "s"), (32768, "-"), (24576, "b"), (16384, "d"), (8192, "c"), (4096, "p")],
  [(256, "r")], [(128, "w")], [(2112, "s"), (2048, "S"), (64, "x")], [(32, "r")], [(16, "w")], [(1032, "s"), (1024, "S"), (8, "x")], [(4, "r")], [(2, "w")], [(513, "t"), (512, "T"), (1, "x")]]
noncomputable def lv : List (Str × WData) := [(Str.ofString "_filemode_table", .tuple (modeTable.map fun t => .tuple (t.map fun p => .tuple [.int p.1, .str p.2])))]
noncomputable def loose : List Str := [Str.ofString "filterfalse", Str.ofString "_filemode_table"]
noncomputable def hook : Hook := kHook Kd asL (fun _ => by kernel_rfl)
theorem okk : (chainsOk view && opensWell (PySem.Challenge.rw_kt0045_01.row).prog && (frees (PySem.Challenge.rw_kt0045_01.row).toRowW && (PySem.Challenge.rw_kt0045_01.row).within.isEmpty)) = true := by kernel_rfl
theorem bare : (PySem.Challenge.rw_kt0045_01.row).prog.bare := ⟨rfl, rfl, rfl, rfl, rfl, by kernel_rfl⟩
/-- the objects behind the top that the fragment does not hold -/
noncomputable def Rs (P : Params) : Frag := [
  (0, { cls := Value.type "dict", data := Data.dict #[{ hash := PyData.keyHash P (Str.ofString "__name__"), key := Value.str (Str.ofString "__name__") 1, val := Value.str (Str.ofString "builtins") 160 }, { hash := PyData.keyHash P (Str.ofString "__doc__"), key := Value.str (Str.ofString "__doc__") 2, val := Value.builtin "builtins.__doc__:str#opaque" }, { hash := PyData.keyHash P (Str.ofString "__package__"), key := Value.str (Str.ofString "__package__") 3, val := Value.builtin "builtins.__package__:str#opaque" }, { hash := PyData.keyHash P (Str.ofString "__loader__"), key := Value.str (Str.ofString "__loader__") 4, val := Value.builtin "builtins.__loader__:shared#opaque" }, { hash := PyData.keyHash P (Str.ofString "__spec__"), key := Value.str (Str.ofString "__spec__") 5, val := Value.builtin "builtins.__spec__#opaque" }, { hash := PyData.keyHash P (Str.ofString "__build_class__"), key := Value.str (Str.ofString "__build_class__") 6, val := Value.builtin "__build_class__" }, { hash := PyData.keyHash P (Str.ofString "__import__"), key := Value.str (Str.ofString "__import__") 7, val := Value.builtin "__import__" }, { hash := PyData.keyHash P (Str.ofString "abs"), key := Value.str (Str.ofString "abs") 8, val := Value.builtin "abs" }, { hash := PyData.keyHash P (Str.ofString "all"), key := Value.str (Str.ofString "all") 9, val := Value.builtin "all" }, { hash := PyData.keyHash P (Str.ofString "any"), key := Value.str (Str.ofString "any") 10, val := Value.builtin "any" }, { hash := PyData.keyHash P (Str.ofString "ascii"), key := Value.str (Str.ofString "ascii") 11, val := Value.builtin "ascii" }, { hash := PyData.keyHash P (Str.ofString "bin"), key := Value.str (Str.ofString "bin") 12, val := Value.builtin "bin" }, { hash := PyData.keyHash P (Str.ofString "breakpoint"), key := Value.str (Str.ofString "breakpoint") 13, val := Value.builtin "breakpoint" }, { hash := PyData.keyHash P (Str.ofString "callable"), key := Value.str (Str.ofString "callable") 14, val := Value.builtin "callable" }, { hash := PyData.keyHash P (Str.ofString "chr"), key := Value.str (Str.ofString "chr") 15, val := Value.builtin "chr" }, { hash := PyData.keyHash P (Str.ofString "compile"), key := Value.str (Str.ofString "compile") 16, val := Value.builtin "compile" }, { hash := PyData.keyHash P (Str.ofString "delattr"), key := Value.str (Str.ofString "delattr") 17, val := Value.builtin "delattr" }, { hash := PyData.keyHash P (Str.ofString "dir"), key := Value.str (Str.ofString "dir") 18, val := Value.builtin "dir" }, { hash := PyData.keyHash P (Str.ofString "divmod"), key := Value.str (Str.ofString "divmod") 19, val := Value.builtin "divmod" }, { hash := PyData.keyHash P (Str.ofString "eval"), key := Value.str (Str.ofString "eval") 20, val := Value.builtin "eval" }, { hash := PyData.keyHash P (Str.ofString "exec"), key := Value.str (Str.ofString "exec") 21, val := Value.builtin "exec" }, { hash := PyData.keyHash P (Str.ofString "format"), key := Value.str (Str.ofString "format") 22, val := Value.builtin "format" }, { hash := PyData.keyHash P (Str.ofString "getattr"), key := Value.str (Str.ofString "getattr") 23, val := Value.builtin "getattr" }, { hash := PyData.keyHash P (Str.ofString "globals"), key := Value.str (Str.ofString "globals") 24, val := Value.builtin "globals" }, { hash := PyData.keyHash P (Str.ofString "hasattr"), key := Value.str (Str.ofString "hasattr") 25, val := Value.builtin "hasattr" }, { hash := PyData.keyHash P (Str.ofString "hash"), key := Value.str (Str.ofString "hash") 26, val := Value.builtin "hash" }, { hash := PyData.keyHash P (Str.ofString "hex"), key := Value.str (Str.ofString "hex") 27, val := Value.builtin "hex" }, { hash := PyData.keyHash P (Str.ofString "id"), key := Value.str (Str.ofString "id") 28, val := Value.builtin "id" }, { hash := PyData.keyHash P (Str.ofString "input"), key := Value.str (Str.ofString "input") 29, val := Value.builtin "input" }, { hash := PyData.keyHash P (Str.ofString "isinstance"), key := Value.str (Str.ofString "isinstance") 30, val := Value.builtin "isinstance" }, { hash := PyData.keyHash P (Str.ofString "issubclass"), key := Value.str (Str.ofString "issubclass") 31, val := Value.builtin "issubclass" }, { hash := PyData.keyHash P (Str.ofString "iter"), key := Value.str (Str.ofString "iter") 32, val := Value.builtin "iter" }, { hash := PyData.keyHash P (Str.ofString "aiter"), key := Value.str (Str.ofString "aiter") 33, val := Value.builtin "aiter" }, { hash := PyData.keyHash P (Str.ofString "len"), key := Value.str (Str.ofString "len") 34, val := Value.builtin "len" }, { hash := PyData.keyHash P (Str.ofString "locals"), key := Value.str (Str.ofString "locals") 35, val := Value.builtin "locals" }, { hash := PyData.keyHash P (Str.ofString "max"), key := Value.str (Str.ofString "max") 36, val := Value.builtin "max" }, { hash := PyData.keyHash P (Str.ofString "min"), key := Value.str (Str.ofString "min") 37, val := Value.builtin "min" }, { hash := PyData.keyHash P (Str.ofString "next"), key := Value.str (Str.ofString "next") 38, val := Value.builtin "next" }, { hash := PyData.keyHash P (Str.ofString "anext"), key := Value.str (Str.ofString "anext") 39, val := Value.builtin "anext" }, { hash := PyData.keyHash P (Str.ofString "oct"), key := Value.str (Str.ofString "oct") 40, val := Value.builtin "oct" }, { hash := PyData.keyHash P (Str.ofString "ord"), key := Value.str (Str.ofString "ord") 41, val := Value.builtin "ord" }, { hash := PyData.keyHash P (Str.ofString "pow"), key := Value.str (Str.ofString "pow") 42, val := Value.builtin "pow" }, { hash := PyData.keyHash P (Str.ofString "print"), key := Value.str (Str.ofString "print") 43, val := Value.builtin "print" }, { hash := PyData.keyHash P (Str.ofString "repr"), key := Value.str (Str.ofString "repr") 44, val := Value.builtin "repr" }, { hash := PyData.keyHash P (Str.ofString "round"), key := Value.str (Str.ofString "round") 45, val := Value.builtin "round" }, { hash := PyData.keyHash P (Str.ofString "setattr"), key := Value.str (Str.ofString "setattr") 46, val := Value.builtin "setattr" }, { hash := PyData.keyHash P (Str.ofString "sorted"), key := Value.str (Str.ofString "sorted") 47, val := Value.builtin "sorted" }, { hash := PyData.keyHash P (Str.ofString "sum"), key := Value.str (Str.ofString "sum") 48, val := Value.builtin "sum" }, { hash := PyData.keyHash P (Str.ofString "vars"), key := Value.str (Str.ofString "vars") 49, val := Value.builtin "vars" }, { hash := PyData.keyHash P (Str.ofString "None"), key := Value.str (Str.ofString "None") 50, val := Value.none }, { hash := PyData.keyHash P (Str.ofString "Ellipsis"), key := Value.str (Str.ofString "Ellipsis") 51, val := Value.ellipsis }, { hash := PyData.keyHash P (Str.ofString "NotImplemented"), key := Value.str (Str.ofString "NotImplemented") 52, val := Value.notImplemented }, { hash := PyData.keyHash P (Str.ofString "False"), key := Value.str (Str.ofString "False") 53, val := Value.bool false }, { hash := PyData.keyHash P (Str.ofString "True"), key := Value.str (Str.ofString "True") 54, val := Value.bool true }, { hash := PyData.keyHash P (Str.ofString "bool"), key := Value.str (Str.ofString "bool") 55, val := Value.type "bool" }, { hash := PyData.keyHash P (Str.ofString "memoryview"), key := Value.str (Str.ofString "memoryview") 56, val := Value.type "memoryview" }, { hash := PyData.keyHash P (Str.ofString "bytearray"), key := Value.str (Str.ofString "bytearray") 57, val := Value.type "bytearray" }, { hash := PyData.keyHash P (Str.ofString "bytes"), key := Value.str (Str.ofString "bytes") 58, val := Value.type "bytes" }, { hash := PyData.keyHash P (Str.ofString "classmethod"), key := Value.str (Str.ofString "classmethod") 59, val := Value.type "classmethod" }, { hash := PyData.keyHash P (Str.ofString "complex"), key := Value.str (Str.ofString "complex") 60, val := Value.type "complex" }, { hash := PyData.keyHash P (Str.ofString "dict"), key := Value.str (Str.ofString "dict") 61, val := Value.type "dict" }, { hash := PyData.keyHash P (Str.ofString "enumerate"), key := Value.str (Str.ofString "enumerate") 62, val := Value.type "enumerate" }, { hash := PyData.keyHash P (Str.ofString "filter"), key := Value.str (Str.ofString "filter") 63, val := Value.type "filter" }, { hash := PyData.keyHash P (Str.ofString "float"), key := Value.str (Str.ofString "float") 64, val := Value.type "float" }, { hash := PyData.keyHash P (Str.ofString "frozenset"), key := Value.str (Str.ofString "frozenset") 65, val := Value.type "frozenset" }, { hash := PyData.keyHash P (Str.ofString "property"), key := Value.str (Str.ofString "property") 66, val := Value.type "property" }, { hash := PyData.keyHash P (Str.ofString "int"), key := Value.str (Str.ofString "int") 67, val := Value.type "int" }, { hash := PyData.keyHash P (Str.ofString "list"), key := Value.str (Str.ofString "list") 68, val := Value.type "list" }, { hash := PyData.keyHash P (Str.ofString "map"), key := Value.str (Str.ofString "map") 69, val := Value.type "map" }, { hash := PyData.keyHash P (Str.ofString "object"), key := Value.str (Str.ofString "object") 70, val := Value.type "object" }, { hash := PyData.keyHash P (Str.ofString "range"), key := Value.str (Str.ofString "range") 71, val := Value.type "range" }, { hash := PyData.keyHash P (Str.ofString "reversed"), key := Value.str (Str.ofString "reversed") 72, val := Value.type "reversed" }, { hash := PyData.keyHash P (Str.ofString "set"), key := Value.str (Str.ofString "set") 73, val := Value.type "set" }, { hash := PyData.keyHash P (Str.ofString "slice"), key := Value.str (Str.ofString "slice") 74, val := Value.type "slice" }, { hash := PyData.keyHash P (Str.ofString "staticmethod"), key := Value.str (Str.ofString "staticmethod") 75, val := Value.type "staticmethod" }, { hash := PyData.keyHash P (Str.ofString "str"), key := Value.str (Str.ofString "str") 76, val := Value.type "str" }, { hash := PyData.keyHash P (Str.ofString "super"), key := Value.str (Str.ofString "super") 77, val := Value.type "super" }, { hash := PyData.keyHash P (Str.ofString "tuple"), key := Value.str (Str.ofString "tuple") 78, val := Value.type "tuple" }, { hash := PyData.keyHash P (Str.ofString "type"), key := Value.str (Str.ofString "type") 79, val := Value.type "type" }, { hash := PyData.keyHash P (Str.ofString "zip"), key := Value.str (Str.ofString "zip") 80, val := Value.type "zip" }, { hash := PyData.keyHash P (Str.ofString "__debug__"), key := Value.str (Str.ofString "__debug__") 81, val := Value.bool true }, { hash := PyData.keyHash P (Str.ofString "BaseException"), key := Value.str (Str.ofString "BaseException") 82, val := Value.type "BaseException" }, { hash := PyData.keyHash P (Str.ofString "BaseExceptionGroup"), key := Value.str (Str.ofString "BaseExceptionGroup") 83, val := Value.type "BaseExceptionGroup" }, { hash := PyData.keyHash P (Str.ofString "Exception"), key := Value.str (Str.ofString "Exception") 84, val := Value.type "Exception" }, { hash := PyData.keyHash P (Str.ofString "GeneratorExit"), key := Value.str (Str.ofString "GeneratorExit") 85, val := Value.type "GeneratorExit" }, { hash := PyData.keyHash P (Str.ofString "KeyboardInterrupt"), key := Value.str (Str.ofString "KeyboardInterrupt") 86, val := Value.type "KeyboardInterrupt" }, { hash := PyData.keyHash P (Str.ofString "SystemExit"), key := Value.str (Str.ofString "SystemExit") 87, val := Value.type "SystemExit" }, { hash := PyData.keyHash P (Str.ofString "ArithmeticError"), key := Value.str (Str.ofString "ArithmeticError") 88, val := Value.type "ArithmeticError" }, { hash := PyData.keyHash P (Str.ofString "AssertionError"), key := Value.str (Str.ofString "AssertionError") 89, val := Value.type "AssertionError" }, { hash := PyData.keyHash P (Str.ofString "AttributeError"), key := Value.str (Str.ofString "AttributeError") 90, val := Value.type "AttributeError" }, { hash := PyData.keyHash P (Str.ofString "BufferError"), key := Value.str (Str.ofString "BufferError") 91, val := Value.type "BufferError" }, { hash := PyData.keyHash P (Str.ofString "EOFError"), key := Value.str (Str.ofString "EOFError") 92, val := Value.type "EOFError" }, { hash := PyData.keyHash P (Str.ofString "ImportError"), key := Value.str (Str.ofString "ImportError") 93, val := Value.type "ImportError" }, { hash := PyData.keyHash P (Str.ofString "LookupError"), key := Value.str (Str.ofString "LookupError") 94, val := Value.type "LookupError" }, { hash := PyData.keyHash P (Str.ofString "MemoryError"), key := Value.str (Str.ofString "MemoryError") 95, val := Value.type "MemoryError" }, { hash := PyData.keyHash P (Str.ofString "NameError"), key := Value.str (Str.ofString "NameError") 96, val := Value.type "NameError" }, { hash := PyData.keyHash P (Str.ofString "OSError"), key := Value.str (Str.ofString "OSError") 97, val := Value.type "OSError" }, { hash := PyData.keyHash P (Str.ofString "ReferenceError"), key := Value.str (Str.ofString "ReferenceError") 98, val := Value.type "ReferenceError" }, { hash := PyData.keyHash P (Str.ofString "RuntimeError"), key := Value.str (Str.ofString "RuntimeError") 99, val := Value.type "RuntimeError" }, { hash := PyData.keyHash P (Str.ofString "StopAsyncIteration"), key := Value.str (Str.ofString "StopAsyncIteration") 100, val := Value.type "StopAsyncIteration" }, { hash := PyData.keyHash P (Str.ofString "StopIteration"), key := Value.str (Str.ofString "StopIteration") 101, val := Value.type "StopIteration" }, { hash := PyData.keyHash P (Str.ofString "SyntaxError"), key := Value.str (Str.ofString "SyntaxError") 102, val := Value.type "SyntaxError" }, { hash := PyData.keyHash P (Str.ofString "SystemError"), key := Value.str (Str.ofString "SystemError") 103, val := Value.type "SystemError" }, { hash := PyData.keyHash P (Str.ofString "TypeError"), key := Value.str (Str.ofString "TypeError") 104, val := Value.type "TypeError" }, { hash := PyData.keyHash P (Str.ofString "ValueError"), key := Value.str (Str.ofString "ValueError") 105, val := Value.type "ValueError" }, { hash := PyData.keyHash P (Str.ofString "Warning"), key := Value.str (Str.ofString "Warning") 106, val := Value.type "Warning" }, { hash := PyData.keyHash P (Str.ofString "FloatingPointError"), key := Value.str (Str.ofString "FloatingPointError") 107, val := Value.type "FloatingPointError" }, { hash := PyData.keyHash P (Str.ofString "OverflowError"), key := Value.str (Str.ofString "OverflowError") 108, val := Value.type "OverflowError" }, { hash := PyData.keyHash P (Str.ofString "ZeroDivisionError"), key := Value.str (Str.ofString "ZeroDivisionError") 109, val := Value.type "ZeroDivisionError" }, { hash := PyData.keyHash P (Str.ofString "BytesWarning"), key := Value.str (Str.ofString "BytesWarning") 110, val := Value.type "BytesWarning" }, { hash := PyData.keyHash P (Str.ofString "DeprecationWarning"), key := Value.str (Str.ofString "DeprecationWarning") 111, val := Value.type "DeprecationWarning" }, { hash := PyData.keyHash P (Str.ofString "EncodingWarning"), key := Value.str (Str.ofString "EncodingWarning") 112, val := Value.type "EncodingWarning" }, { hash := PyData.keyHash P (Str.ofString "FutureWarning"), key := Value.str (Str.ofString "FutureWarning") 113, val := Value.type "FutureWarning" }, { hash := PyData.keyHash P (Str.ofString "ImportWarning"), key := Value.str (Str.ofString "ImportWarning") 114, val := Value.type "ImportWarning" }, { hash := PyData.keyHash P (Str.ofString "PendingDeprecationWarning"), key := Value.str (Str.ofString "PendingDeprecationWarning") 115, val := Value.type "PendingDeprecationWarning" }, { hash := PyData.keyHash P (Str.ofString "ResourceWarning"), key := Value.str (Str.ofString "ResourceWarning") 116, val := Value.type "ResourceWarning" }, { hash := PyData.keyHash P (Str.ofString "RuntimeWarning"), key := Value.str (Str.ofString "RuntimeWarning") 117, val := Value.type "RuntimeWarning" }, { hash := PyData.keyHash P (Str.ofString "SyntaxWarning"), key := Value.str (Str.ofString "SyntaxWarning") 118, val := Value.type "SyntaxWarning" }, { hash := PyData.keyHash P (Str.ofString "UnicodeWarning"), key := Value.str (Str.ofString "UnicodeWarning") 119, val := Value.type "UnicodeWarning" }, { hash := PyData.keyHash P (Str.ofString "UserWarning"), key := Value.str (Str.ofString "UserWarning") 120, val := Value.type "UserWarning" }, { hash := PyData.keyHash P (Str.ofString "BlockingIOError"), key := Value.str (Str.ofString "BlockingIOError") 121, val := Value.type "BlockingIOError" }, { hash := PyData.keyHash P (Str.ofString "ChildProcessError"), key := Value.str (Str.ofString "ChildProcessError") 122, val := Value.type "ChildProcessError" }, { hash := PyData.keyHash P (Str.ofString "ConnectionError"), key := Value.str (Str.ofString "ConnectionError") 123, val := Value.type "ConnectionError" }, { hash := PyData.keyHash P (Str.ofString "FileExistsError"), key := Value.str (Str.ofString "FileExistsError") 124, val := Value.type "FileExistsError" }, { hash := PyData.keyHash P (Str.ofString "FileNotFoundError"), key := Value.str (Str.ofString "FileNotFoundError") 125, val := Value.type "FileNotFoundError" }, { hash := PyData.keyHash P (Str.ofString "InterruptedError"), key := Value.str (Str.ofString "InterruptedError") 126, val := Value.type "InterruptedError" }, { hash := PyData.keyHash P (Str.ofString "IsADirectoryError"), key := Value.str (Str.ofString "IsADirectoryError") 127, val := Value.type "IsADirectoryError" }, { hash := PyData.keyHash P (Str.ofString "NotADirectoryError"), key := Value.str (Str.ofString "NotADirectoryError") 128, val := Value.type "NotADirectoryError" }, { hash := PyData.keyHash P (Str.ofString "PermissionError"), key := Value.str (Str.ofString "PermissionError") 129, val := Value.type "PermissionError" }, { hash := PyData.keyHash P (Str.ofString "ProcessLookupError"), key := Value.str (Str.ofString "ProcessLookupError") 130, val := Value.type "ProcessLookupError" }, { hash := PyData.keyHash P (Str.ofString "TimeoutError"), key := Value.str (Str.ofString "TimeoutError") 131, val := Value.type "TimeoutError" }, { hash := PyData.keyHash P (Str.ofString "IndentationError"), key := Value.str (Str.ofString "IndentationError") 132, val := Value.type "IndentationError" }, { hash := PyData.keyHash P (Str.ofString "_IncompleteInputError"), key := Value.str (Str.ofString "_IncompleteInputError") 133, val := Value.type "_IncompleteInputError" }, { hash := PyData.keyHash P (Str.ofString "IndexError"), key := Value.str (Str.ofString "IndexError") 134, val := Value.type "IndexError" }, { hash := PyData.keyHash P (Str.ofString "KeyError"), key := Value.str (Str.ofString "KeyError") 135, val := Value.type "KeyError" }, { hash := PyData.keyHash P (Str.ofString "ModuleNotFoundError"), key := Value.str (Str.ofString "ModuleNotFoundError") 136, val := Value.type "ModuleNotFoundError" }, { hash := PyData.keyHash P (Str.ofString "NotImplementedError"), key := Value.str (Str.ofString "NotImplementedError") 137, val := Value.type "NotImplementedError" }, { hash := PyData.keyHash P (Str.ofString "PythonFinalizationError"), key := Value.str (Str.ofString "PythonFinalizationError") 138, val := Value.type "PythonFinalizationError" }, { hash := PyData.keyHash P (Str.ofString "RecursionError"), key := Value.str (Str.ofString "RecursionError") 139, val := Value.type "RecursionError" }, { hash := PyData.keyHash P (Str.ofString "UnboundLocalError"), key := Value.str (Str.ofString "UnboundLocalError") 140, val := Value.type "UnboundLocalError" }, { hash := PyData.keyHash P (Str.ofString "UnicodeError"), key := Value.str (Str.ofString "UnicodeError") 141, val := Value.type "UnicodeError" }, { hash := PyData.keyHash P (Str.ofString "BrokenPipeError"), key := Value.str (Str.ofString "BrokenPipeError") 142, val := Value.type "BrokenPipeError" }, { hash := PyData.keyHash P (Str.ofString "ConnectionAbortedError"), key := Value.str (Str.ofString "ConnectionAbortedError") 143, val := Value.type "ConnectionAbortedError" }, { hash := PyData.keyHash P (Str.ofString "ConnectionRefusedError"), key := Value.str (Str.ofString "ConnectionRefusedError") 144, val := Value.type "ConnectionRefusedError" }, { hash := PyData.keyHash P (Str.ofString "ConnectionResetError"), key := Value.str (Str.ofString "ConnectionResetError") 145, val := Value.type "ConnectionResetError" }, { hash := PyData.keyHash P (Str.ofString "TabError"), key := Value.str (Str.ofString "TabError") 146, val := Value.type "TabError" }, { hash := PyData.keyHash P (Str.ofString "UnicodeDecodeError"), key := Value.str (Str.ofString "UnicodeDecodeError") 147, val := Value.type "UnicodeDecodeError" }, { hash := PyData.keyHash P (Str.ofString "UnicodeEncodeError"), key := Value.str (Str.ofString "UnicodeEncodeError") 148, val := Value.type "UnicodeEncodeError" }, { hash := PyData.keyHash P (Str.ofString "UnicodeTranslateError"), key := Value.str (Str.ofString "UnicodeTranslateError") 149, val := Value.type "UnicodeTranslateError" }, { hash := PyData.keyHash P (Str.ofString "ExceptionGroup"), key := Value.str (Str.ofString "ExceptionGroup") 150, val := Value.type "ExceptionGroup" }, { hash := PyData.keyHash P (Str.ofString "EnvironmentError"), key := Value.str (Str.ofString "EnvironmentError") 151, val := Value.type "OSError" }, { hash := PyData.keyHash P (Str.ofString "IOError"), key := Value.str (Str.ofString "IOError") 152, val := Value.type "OSError" }, { hash := PyData.keyHash P (Str.ofString "open"), key := Value.str (Str.ofString "open") 153, val := Value.builtin "open" }, { hash := PyData.keyHash P (Str.ofString "quit"), key := Value.str (Str.ofString "quit") 154, val := Value.builtin "builtins.quit#opaque" }, { hash := PyData.keyHash P (Str.ofString "exit"), key := Value.str (Str.ofString "exit") 155, val := Value.builtin "builtins.exit#opaque" }, { hash := PyData.keyHash P (Str.ofString "copyright"), key := Value.str (Str.ofString "copyright") 156, val := Value.builtin "builtins.copyright#opaque" }, { hash := PyData.keyHash P (Str.ofString "credits"), key := Value.str (Str.ofString "credits") 157, val := Value.builtin "builtins.credits#opaque" }, { hash := PyData.keyHash P (Str.ofString "license"), key := Value.str (Str.ofString "license") 158, val := Value.builtin "builtins.license#opaque" }, { hash := PyData.keyHash P (Str.ofString "help"), key := Value.str (Str.ofString "help") 159, val := Value.builtin "builtins.help#opaque" }] 159 }),
  (1, { cls := Value.type "dict", data := Data.dict #[{ hash := PyData.keyHash P (Str.ofString "builtins"), key := Value.str (Str.ofString "builtins") 162, val := Value.ref 4 }, { hash := PyData.keyHash P (Str.ofString "__main__"), key := Value.str (Str.ofString "__main__") 163, val := Value.ref 5 }] 2 }),
  (4, { cls := Value.type "module", dict := some 0 }),
  (5, { cls := Value.type "module", dict := some 3 }),
  (6, { cls := Value.type "dict", data := Data.dict #[] }),
  (7, { cls := Value.type "tuple", data := Data.seq #[] }),
  (8, { cls := Value.none, data := Data.fields #[] }),
  (9, { cls := Value.type "code", data := Data.fields #[Value.str (Str.ofString "<module>") 176, Value.str (Str.ofString "<module>") 177, Value.str (Str.ofString "/claim/cut.py") 178, Value.int 1 0, Value.int 0 0, Value.int 0 0, Value.int 0 0, Value.int 0 0, Value.ref 7, Value.bool false, Value.int 175 0, Value.ref 8, Value.none, Value.none, Value.none, Value.none, Value.int 179 0, Value.int 1 0, Value.str (Str.ofString "/claim/cut.py") 180] }),
  (10, { cls := Value.type "frame", slots := #[some (Value.ref 9), some (Value.ref 3), some (Value.ref 3), none, some (Value.str (Str.ofString "__main__") 164), none, some (Value.ref 0)] }),
  (11, { cls := Value.type "tuple", data := Data.seq #[] }),
  (12, { cls := Value.none, data := Data.fields #[Value.int 1 0, Value.int 0 0, Value.ref 20, Value.int 5 0, Value.int 0 0, Value.ref 27, Value.int 11 0, Value.int 0 0, Value.ref 34, Value.int 16 0, Value.int 0 0, Value.ref 53, Value.int 31 0, Value.int 0 0, Value.ref 86, Value.int 35 0, Value.int 0 0, Value.ref 93, Value.int 52 0, Value.int 0 0, Value.ref 100, Value.int 64 0, Value.int 0 0, Value.ref 107, Value.int 69 0, Value.int 0 0, Value.ref 114, Value.int 86 0, Value.int 0 0, Value.ref 121, Value.int 91 0, Value.int 0 0, Value.ref 128, Value.int 99 0, Value.int 0 0, Value.ref 133, Value.int 129 0, Value.int 0 0, Value.ref 140, Value.int 149 0, Value.int 0 0, Value.ref 177, Value.int 152 0, Value.int 0 0, Value.ref 184, Value.int 174 0, Value.int 0 0, Value.ref 224, Value.int 192 0, Value.int 0 0, Value.ref 231, Value.int 197 0, Value.int 0 0, Value.ref 238, Value.int 207 0, Value.int 0 0, Value.ref 243, Value.int 214 0, Value.int 0 0, Value.ref 248, Value.int 227 0, Value.int 0 0, Value.ref 253, Value.int 246 0, Value.int 0 0, Value.ref 260, Value.int 253 0, Value.int 0 0, Value.ref 265, Value.int 265 0, Value.int 0 0, Value.ref 270] }),
  (13, { cls := Value.type "code", data := Data.fields #[Value.str (Str.ofString "<module>") 182, Value.str (Str.ofString "<module>") 183, Value.str (Str.ofString "/claim/cut.py") 184, Value.int 1 0, Value.int 0 0, Value.int 0 0, Value.int 0 0, Value.int 0 0, Value.ref 11, Value.bool false, Value.int 181 0, Value.ref 12, Value.none, Value.none, Value.none, Value.none, Value.int 185 0, Value.int 1 0, Value.str (Str.ofString "/claim/cut.py") 186] }),
  (14, { cls := Value.type "frame", slots := #[some (Value.ref 13), some (Value.ref 3), some (Value.ref 3), none, some (Value.str (Str.ofString "__main__") 164), none, some (Value.ref 0)] }),
  (16, { cls := Value.none, data := Data.fields #[] }),
  (19, fO (Str.ofString "_wall") (Str.ofString "_wall") (stA 0) (0) ([]) (Value.none) (Value.none) (Value.none) (Value.none) (none) (Value.none) (Value.none) (0) (Value.none) (none) (#[])),
  (23, { cls := Value.none, data := Data.fields #[] }),
  (26, fO (Str.ofString "_plain_name") (Str.ofString "_plain_name") (stA 2) (0) ([]) (Value.none) (Value.none) (Value.none) (Value.none) (none) (Value.none) (Value.none) (0) (Value.none) (none) (#[])),
  (30, { cls := Value.type "builtin_function_or_method", data := Data.fields #[Value.builtin "type.__prepare__", Value.type "type"] }),
  (31, { cls := Value.type "dict", data := Data.dict #[{ hash := PyData.keyHash P (Str.ofString "__module__"), key := Value.str (Str.ofString "__module__") 214, val := Value.str (Str.ofString "abc") 205 }, { hash := PyData.keyHash P (Str.ofString "__qualname__"), key := Value.str (Str.ofString "__qualname__") 216, val := Value.str (Str.ofString "ABCMeta") 215 }, { hash := PyData.keyHash P (Str.ofString "__firstlineno__"), key := Value.str (Str.ofString "__firstlineno__") 218, val := Value.int 11 217 }, { hash := PyData.keyHash P (Str.ofString "register"), key := Value.str (Str.ofString "register") 226, val := Value.ref 42 }, { hash := PyData.keyHash P (Str.ofString "__static_attributes__"), key := Value.str (Str.ofString "__static_attributes__") 227, val := Value.ref 43 }] 5 }),
  (32, { cls := Value.type "tuple", data := Data.seq #[] }),
  (33, { cls := Value.none, data := Data.fields #[Value.int 13 0, Value.int 4 0, Value.ref 41] }),
  (34, { cls := Value.type "code", data := Data.fields #[Value.str (Str.ofString "ABCMeta") 209, Value.str (Str.ofString "ABCMeta") 210, Value.str (Str.ofString "/claim/cut.py") 211, Value.int 11 0, Value.int 0 0, Value.int 0 0, Value.int 0 0, Value.int 0 0, Value.ref 32, Value.bool false, Value.int 181 0, Value.ref 33, Value.none, Value.none, Value.none, Value.none, Value.int 212 0, Value.int 11 0, Value.str (Str.ofString "/claim/cut.py") 213] }),
  (35, { cls := Value.type "frame", slots := #[some (Value.ref 34), some (Value.ref 3), some (Value.ref 31), none, some (Value.str (Str.ofString "abc") 205), none, some (Value.ref 0)] }),
  (37, { cls := Value.none, data := Data.fields #[] }),
  (40, fO (Str.ofString "register") (Str.ofString "ABCMeta.register") (stM 4 0) (0) ([]) (Value.none) (Value.none) (Value.none) (Value.none) (none) (Value.none) (Value.none) (0) (Value.none) (none) (#[])),
  (46, { cls := Value.type "super", data := Data.fields #[Value.ref 45, Value.ref 45, Value.ref 45] }),
  (47, { cls := Value.type "builtin_function_or_method", data := Data.fields #[Value.builtin "object.__init_subclass__", Value.ref 45] }),
  (49, { cls := Value.type "builtin_function_or_method", data := Data.fields #[Value.builtin "type.__prepare__", Value.type "type"] }),
  (50, { cls := Value.type "dict", data := Data.dict #[{ hash := PyData.keyHash P (Str.ofString "__module__"), key := Value.str (Str.ofString "__module__") 240, val := Value.str (Str.ofString "collections.abc") 231 }, { hash := PyData.keyHash P (Str.ofString "__qualname__"), key := Value.str (Str.ofString "__qualname__") 242, val := Value.str (Str.ofString "_ABCLike") 241 }, { hash := PyData.keyHash P (Str.ofString "__firstlineno__"), key := Value.str (Str.ofString "__firstlineno__") 244, val := Value.int 16 243 }, { hash := PyData.keyHash P (Str.ofString "__instancecheck__"), key := Value.str (Str.ofString "__instancecheck__") 253, val := Value.ref 61 }, { hash := PyData.keyHash P (Str.ofString "__subclasscheck__"), key := Value.str (Str.ofString "__subclasscheck__") 261, val := Value.ref 68 }, { hash := PyData.keyHash P (Str.ofString "register"), key := Value.str (Str.ofString "register") 269, val := Value.ref 75 }, { hash := PyData.keyHash P (Str.ofString "__static_attributes__"), key := Value.str (Str.ofString "__static_attributes__") 270, val := Value.ref 76 }] 7 }),
  (51, { cls := Value.type "tuple", data := Data.seq #[] }),
  (52, { cls := Value.none, data := Data.fields #[Value.int 18 0, Value.int 4 0, Value.ref 60, Value.int 24 0, Value.int 4 0, Value.ref 67, Value.int 29 0, Value.int 4 0, Value.ref 74] }),
  (53, { cls := Value.type "code", data := Data.fields #[Value.str (Str.ofString "_ABCLike") 235, Value.str (Str.ofString "_ABCLike") 236, Value.str (Str.ofString "/claim/cut.py") 237, Value.int 16 0, Value.int 0 0, Value.int 0 0, Value.int 0 0, Value.int 0 0, Value.ref 51, Value.bool false, Value.int 181 0, Value.ref 52, Value.none, Value.none, Value.none, Value.none, Value.int 238 0, Value.int 16 0, Value.str (Str.ofString "/claim/cut.py") 239] }),
  (54, { cls := Value.type "frame", slots := #[some (Value.ref 53), some (Value.ref 3), some (Value.ref 50), none, some (Value.str (Str.ofString "collections.abc") 231), none, some (Value.ref 0)] }),
  (56, { cls := Value.none, data := Data.fields #[] }),
  (59, fO (Str.ofString "__instancecheck__") (Str.ofString "_ABCLike.__instancecheck__") (stM 6 0) (0) ([]) (Value.none) (Value.none) (Value.none) (Value.none) (none) (Value.none) (Value.none) (0) (Value.none) (none) (#[])),
  (63, { cls := Value.none, data := Data.fields #[] }),
  (66, fO (Str.ofString "__subclasscheck__") (Str.ofString "_ABCLike.__subclasscheck__") (stM 6 1) (0) ([]) (Value.none) (Value.none) (Value.none) (Value.none) (none) (Value.none) (Value.none) (0) (Value.none) (none) (#[])),
  (70, { cls := Value.none, data := Data.fields #[] }),
  (73, fO (Str.ofString "register") (Str.ofString "_ABCLike.register") (stM 6 2) (0) ([]) (Value.none) (Value.none) (Value.none) (Value.none) (none) (Value.none) (Value.none) (0) (Value.none) (none) (#[])),
  (79, { cls := Value.type "super", data := Data.fields #[Value.ref 78, Value.ref 78, Value.ref 78] }),
  (80, { cls := Value.type "builtin_function_or_method", data := Data.fields #[Value.builtin "object.__init_subclass__", Value.ref 78] }),
  (82, { cls := Value.none, data := Data.fields #[] }),
  (85, fO (Str.ofString "_abc_plain_meta") (Str.ofString "_abc_plain_meta") (stA 7) (0) ([]) (Value.none) (Value.none) (Value.none) (Value.none) (none) (Value.none) (Value.none) (0) (Value.none) (none) (#[])),
  (89, { cls := Value.none, data := Data.fields #[] }),
  (92, fO (Str.ofString "fspath") (Str.ofString "fspath") (stA 9) (0) ([]) (Value.none) (Value.none) (Value.none) (Value.none) (none) (Value.none) (Value.none) (0) (Value.none) (none) (#[])),
  (96, { cls := Value.none, data := Data.fields #[] }),
  (99, fO (Str.ofString "_check_arg_types") (Str.ofString "_check_arg_types") (stA 11) (0) ([]) (Value.none) (Value.none) (Value.none) (Value.none) (none) (Value.none) (Value.none) (0) (Value.none) (none) (#[])),
  (103, { cls := Value.none, data := Data.fields #[] }),
  (106, fO (Str.ofString "_get_sep") (Str.ofString "_get_sep") (stA 13) (0) ([]) (Value.none) (Value.none) (Value.none) (Value.none) (none) (Value.none) (Value.none) (0) (Value.none) (none) (#[])),
  (110, { cls := Value.none, data := Data.fields #[] }),
  (113, fO (Str.ofString "join") (Str.ofString "join") (stA 14) (0) ([]) (Value.none) (Value.none) (Value.none) (Value.none) (none) (Value.none) (Value.none) (0) (Value.none) (none) (#[])),
  (117, { cls := Value.none, data := Data.fields #[] }),
  (120, fO (Str.ofString "basename") (Str.ofString "basename") (stA 15) (0) ([]) (Value.none) (Value.none) (Value.none) (Value.none) (none) (Value.none) (Value.none) (0) (Value.none) (none) (#[])),
  (124, { cls := Value.none, data := Data.fields #[] }),
  (127, fO (Str.ofString "dirname") (Str.ofString "dirname") (stA 16) (0) ([]) (Value.none) (Value.none) (Value.none) (Value.none) (none) (Value.none) (Value.none) (0) (Value.none) (none) (#[])),
  (131, { cls := Value.none, data := Data.fields #[] }),
  (132, fO (Str.ofString "commonpath") (Str.ofString "commonpath") (stA 17) (0) ([]) (Value.none) (Value.none) (Value.none) (Value.none) (none) (Value.none) (Value.none) (0) (Value.none) (none) (#[])),
  (135, { cls := Value.type "tuple", data := Data.seq #[] }),
  (136, { cls := Value.type "builtin_function_or_method", data := Data.fields #[Value.builtin "type.__prepare__", Value.type "type"] }),
  (137, { cls := Value.type "dict", data := Data.dict #[{ hash := PyData.keyHash P (Str.ofString "__module__"), key := Value.str (Str.ofString "__module__") 360, val := Value.str (Str.ofString "itertools") 351 }, { hash := PyData.keyHash P (Str.ofString "__qualname__"), key := Value.str (Str.ofString "__qualname__") 362, val := Value.str (Str.ofString "filterfalse") 361 }, { hash := PyData.keyHash P (Str.ofString "__firstlineno__"), key := Value.str (Str.ofString "__firstlineno__") 364, val := Value.int 129 363 }, { hash := PyData.keyHash P (Str.ofString "__slots__"), key := Value.str (Str.ofString "__slots__") 367, val := Value.ref 142 }, { hash := PyData.keyHash P (Str.ofString "__init__"), key := Value.str (Str.ofString "__init__") 376, val := Value.ref 149 }, { hash := PyData.keyHash P (Str.ofString "__iter__"), key := Value.str (Str.ofString "__iter__") 383, val := Value.ref 156 }, { hash := PyData.keyHash P (Str.ofString "__next__"), key := Value.str (Str.ofString "__next__") 392, val := Value.ref 163 }, { hash := PyData.keyHash P (Str.ofString "__static_attributes__"), key := Value.str (Str.ofString "__static_attributes__") 395, val := Value.ref 164 }] 8 }),
  (138, { cls := Value.type "tuple", data := Data.seq #[] }),
  (139, { cls := Value.none, data := Data.fields #[Value.int 132 0, Value.int 4 0, Value.ref 148, Value.int 136 0, Value.int 4 0, Value.ref 155, Value.int 139 0, Value.int 4 0, Value.ref 162] }),
  (140, { cls := Value.type "code", data := Data.fields #[Value.str (Str.ofString "filterfalse") 355, Value.str (Str.ofString "filterfalse") 356, Value.str (Str.ofString "/claim/cut.py") 357, Value.int 129 0, Value.int 0 0, Value.int 0 0, Value.int 0 0, Value.int 0 0, Value.ref 138, Value.bool false, Value.int 181 0, Value.ref 139, Value.none, Value.none, Value.none, Value.none, Value.int 358 0, Value.int 129 0, Value.str (Str.ofString "/claim/cut.py") 359] }),
  (141, { cls := Value.type "frame", slots := #[some (Value.ref 140), some (Value.ref 3), some (Value.ref 137), none, some (Value.str (Str.ofString "itertools") 351), none, some (Value.ref 0)] }),
  (144, { cls := Value.none, data := Data.fields #[] }),
  (147, fO (Str.ofString "__init__") (Str.ofString "filterfalse.__init__") (stM 19 1) (0) ([]) (Value.none) (Value.none) (Value.none) (Value.none) (none) (Value.none) (Value.none) (0) (Value.none) (none) (#[])),
  (151, { cls := Value.none, data := Data.fields #[] }),
  (154, fO (Str.ofString "__iter__") (Str.ofString "filterfalse.__iter__") (stM 19 2) (0) ([]) (Value.none) (Value.none) (Value.none) (Value.none) (none) (Value.none) (Value.none) (0) (Value.none) (none) (#[])),
  (158, { cls := Value.none, data := Data.fields #[] }),
  (161, fO (Str.ofString "__next__") (Str.ofString "filterfalse.__next__") (stM 19 3) (0) ([]) (Value.none) (Value.none) (Value.none) (Value.none) (none) (Value.none) (Value.none) (0) (Value.none) (none) (#[])),
  (165, { cls := Value.type "list", data := Data.seq #[Value.str (Str.ofString "_it") 365, Value.str (Str.ofString "_func") 366] 1 }),
  (170, { cls := Value.type "super", data := Data.fields #[Value.ref 167, Value.ref 167, Value.ref 167] }),
  (171, { cls := Value.type "builtin_function_or_method", data := Data.fields #[Value.builtin "object.__init_subclass__", Value.ref 167] }),
  (173, { cls := Value.none, data := Data.fields #[] }),
  (176, fO (Str.ofString "_filter") (Str.ofString "_filter") (stA 21) (0) ([]) (Value.none) (Value.none) (Value.none) (Value.none) (none) (Value.none) (Value.none) (0) (Value.none) (none) (#[])),
  (180, { cls := Value.none, data := Data.fields #[] }),
  (183, fO (Str.ofString "S_IFMT") (Str.ofString "S_IFMT") (stA 23) (0) ([]) (Value.none) (Value.none) (Value.none) (Value.none) (none) (Value.none) (Value.none) (0) (Value.none) (none) (#[])),
  (220, { cls := Value.none, data := Data.fields #[] }),
  (223, fO (Str.ofString "filemode") (Str.ofString "filemode") (stA 44) (0) ([]) (Value.none) (Value.none) (Value.none) (Value.none) (none) (Value.none) (Value.none) (0) (Value.none) (none) (#[])),
  (227, { cls := Value.none, data := Data.fields #[] }),
  (230, fO (Str.ofString "_law_cells") (Str.ofString "_law_cells") (stA 46) (0) ([]) (Value.none) (Value.none) (Value.none) (Value.none) (none) (Value.none) (Value.none) (0) (Value.none) (none) (#[])),
  (234, { cls := Value.none, data := Data.fields #[] }),
  (237, fO (Str.ofString "_law_drawn") (Str.ofString "_law_drawn") (stA 47) (0) ([]) (Value.none) (Value.none) (Value.none) (Value.none) (none) (Value.none) (Value.none) (0) (Value.none) (none) (#[])),
  (241, { cls := Value.none, data := Data.fields #[] }),
  (242, fO (Str.ofString "_law_figures") (Str.ofString "_law_figures") (stA 48) (0) ([]) (Value.none) (Value.none) (Value.none) (Value.none) (none) (Value.none) (Value.none) (0) (Value.none) (none) (#[])),
  (246, { cls := Value.none, data := Data.fields #[] }),
  (247, fO (Str.ofString "_law_marks") (Str.ofString "_law_marks") (stA 49) (0) ([]) (Value.none) (Value.none) (Value.none) (Value.none) (none) (Value.none) (Value.none) (0) (Value.none) (none) (#[])),
  (251, { cls := Value.none, data := Data.fields #[] }),
  (252, fO (Str.ofString "_law_grow") (Str.ofString "_law_grow") (stA 50) (0) ([]) (Value.none) (Value.none) (Value.none) (Value.none) (none) (Value.none) (Value.none) (0) (Value.none) (none) (#[])),
  (256, { cls := Value.none, data := Data.fields #[] }),
  (259, fO (Str.ofString "_law_keeps") (Str.ofString "_law_keeps") (stA 51) (0) ([]) (Value.none) (Value.none) (Value.none) (Value.none) (none) (Value.none) (Value.none) (0) (Value.none) (none) (#[])),
  (263, { cls := Value.none, data := Data.fields #[] }),
  (264, fO (Str.ofString "_law_within") (Str.ofString "_law_within") (stA 52) (0) ([]) (Value.none) (Value.none) (Value.none) (Value.none) (none) (Value.none) (Value.none) (0) (Value.none) (none) (#[])),
  (268, { cls := Value.none, data := Data.fields #[] }),
  (269, fO (Str.ofString "law") (Str.ofString "law") (stA 53) (0) ([]) (Value.none) (Value.none) (Value.none) (Value.none) (none) (Value.none) (Value.none) (0) (Value.none) (none) (#[]))]
/-- two lists of objects, each in the order of the places, as one -/
noncomputable def mergeK : Nat → Nat → Frag → Frag → List Obj
  | 0, _, _, _ => []
  | n + 1, i, [], R => match R with
    | [] => []
    | r :: R => r.2 :: mergeK n (i + 1) [] R
  | n + 1, i, k :: K, R => match Nat.beq k.1 i with
    | true => k.2 :: mergeK n (i + 1) K R
    | false => match R with
      | [] => []
      | r :: R => r.2 :: mergeK n (i + 1) (k :: K) R
noncomputable def HF (P : Params) : List Obj := mergeK 272 0 (Kd P) (Rs P)
/-- every other object of a list -/
noncomputable def evs : List Obj → List Obj
  | [] => []
  | [x] => [x]
  | x :: _ :: r => x :: evs r
noncomputable def mkT : Nat → List Obj → BT
  | 0, _ => .nil
  | _, [] => .nil
  | n + 1, x :: r => .node x (mkT n (evs r)) (mkT n (evs r.tail))
noncomputable def T0 (P : Params) : BT := mkT 5 ((((HF P).take 15).set 3 ({ cls := Value.type "dict", data := Data.dict #[{ hash := PyData.keyHash P (Str.ofString "__name__"), key := Value.str (Str.ofString "__name__") 165, val := Value.str (Str.ofString "__main__") 164 }, { hash := PyData.keyHash P (Str.ofString "__doc__"), key := Value.str (Str.ofString "__doc__") 166, val := Value.none }, { hash := PyData.keyHash P (Str.ofString "__package__"), key := Value.str (Str.ofString "__package__") 167, val := Value.none }, { hash := PyData.keyHash P (Str.ofString "__loader__"), key := Value.str (Str.ofString "__loader__") 168, val := Value.builtin "__main__.__loader__#opaque" }, { hash := PyData.keyHash P (Str.ofString "__spec__"), key := Value.str (Str.ofString "__spec__") 169, val := Value.none }, { hash := PyData.keyHash P (Str.ofString "__annotations__"), key := Value.str (Str.ofString "__annotations__") 170, val := Value.ref 6 }, { hash := PyData.keyHash P (Str.ofString "__builtins__"), key := Value.str (Str.ofString "__builtins__") 171, val := Value.ref 4 }, { hash := PyData.keyHash P (Str.ofString "__file__"), key := Value.str (Str.ofString "__file__") 173, val := Value.str (Str.ofString "/claim/cut.py") 172 }, { hash := PyData.keyHash P (Str.ofString "__cached__"), key := Value.str (Str.ofString "__cached__") 174, val := Value.none }] 9 })).set 12 ({ cls := Value.none, data := Data.fields #[] }))
noncomputable def T1 (P : Params) : BT := mkT 9 ((((HF P).take 172).set 3 ({ cls := Value.type "dict", data := Data.dict #[{ hash := PyData.keyHash P (Str.ofString "__name__"), key := Value.str (Str.ofString "__name__") 165, val := Value.str (Str.ofString "itertools") 351 }, { hash := PyData.keyHash P (Str.ofString "__doc__"), key := Value.str (Str.ofString "__doc__") 166, val := Value.none }, { hash := PyData.keyHash P (Str.ofString "__package__"), key := Value.str (Str.ofString "__package__") 167, val := Value.none }, { hash := PyData.keyHash P (Str.ofString "__loader__"), key := Value.str (Str.ofString "__loader__") 168, val := Value.builtin "__main__.__loader__#opaque" }, { hash := PyData.keyHash P (Str.ofString "__spec__"), key := Value.str (Str.ofString "__spec__") 169, val := Value.none }, { hash := PyData.keyHash P (Str.ofString "__annotations__"), key := Value.str (Str.ofString "__annotations__") 170, val := Value.ref 6 }, { hash := PyData.keyHash P (Str.ofString "__builtins__"), key := Value.str (Str.ofString "__builtins__") 171, val := Value.ref 4 }, { hash := PyData.keyHash P (Str.ofString "__file__"), key := Value.str (Str.ofString "__file__") 173, val := Value.str (Str.ofString "/claim/cut.py") 172 }, { hash := PyData.keyHash P (Str.ofString "__cached__"), key := Value.str (Str.ofString "__cached__") 174, val := Value.none }, { hash := PyData.keyHash P (Str.ofString "_wall"), key := Value.str (Str.ofString "_wall") 193, val := Value.ref 21 }, { hash := PyData.keyHash P (Str.ofString "_plain_name"), key := Value.str (Str.ofString "_plain_name") 204, val := Value.ref 28 }, { hash := PyData.keyHash P (Str.ofString "ABCMeta"), key := Value.str (Str.ofString "ABCMeta") 230, val := Value.ref 45 }, { hash := PyData.keyHash P (Str.ofString "_ABCLike"), key := Value.str (Str.ofString "_ABCLike") 273, val := Value.ref 78 }, { hash := PyData.keyHash P (Str.ofString "_abc_plain_meta"), key := Value.str (Str.ofString "_abc_plain_meta") 280, val := Value.ref 87 }, { hash := PyData.keyHash P (Str.ofString "fspath"), key := Value.str (Str.ofString "fspath") 292, val := Value.ref 94 }, { hash := PyData.keyHash P (Str.ofString "_check_arg_types"), key := Value.str (Str.ofString "_check_arg_types") 305, val := Value.ref 101 }, { hash := PyData.keyHash P (Str.ofString "_get_sep"), key := Value.str (Str.ofString "_get_sep") 314, val := Value.ref 108 }, { hash := PyData.keyHash P (Str.ofString "join"), key := Value.str (Str.ofString "join") 325, val := Value.ref 115 }, { hash := PyData.keyHash P (Str.ofString "basename"), key := Value.str (Str.ofString "basename") 334, val := Value.ref 122 }, { hash := PyData.keyHash P (Str.ofString "dirname"), key := Value.str (Str.ofString "dirname") 344, val := Value.ref 129 }, { hash := PyData.keyHash P (Str.ofString "commonpath"), key := Value.str (Str.ofString "commonpath") 350, val := Value.ref 134 }, { hash := PyData.keyHash P (Str.ofString "filterfalse"), key := Value.str (Str.ofString "filterfalse") 402, val := Value.ref 167 }] 22 })).set 12 ({ cls := Value.none, data := Data.fields #[Value.int 1 0, Value.int 0 0, Value.ref 20, Value.int 5 0, Value.int 0 0, Value.ref 27, Value.int 11 0, Value.int 0 0, Value.ref 34, Value.int 16 0, Value.int 0 0, Value.ref 53, Value.int 31 0, Value.int 0 0, Value.ref 86, Value.int 35 0, Value.int 0 0, Value.ref 93, Value.int 52 0, Value.int 0 0, Value.ref 100, Value.int 64 0, Value.int 0 0, Value.ref 107, Value.int 69 0, Value.int 0 0, Value.ref 114, Value.int 86 0, Value.int 0 0, Value.ref 121, Value.int 91 0, Value.int 0 0, Value.ref 128, Value.int 99 0, Value.int 0 0, Value.ref 133, Value.int 129 0, Value.int 0 0, Value.ref 140] }))
noncomputable def T2 (P : Params) : BT := mkT 10 (HF P)
noncomputable abbrev pg : Program := PySem.Challenge.rw_kt0045_01.row.prog
noncomputable def bd : List Stmt := behindTheImports pg
noncomputable def envT : Env := { scope := pg.main.scope, locals := mainNs, globals := mainNs, cells := [], code := .ref 13, frame := some 14 }
noncomputable def cT : Code := .body bd envT
noncomputable def sT (T : Params → BT) (n k : Nat) (w : World) (os : OsState) : SharedT := ⟨T w.params, n, {}, #[], boot_drawn, k, os⟩
noncomputable def p0 : Pos := ⟨0, 0, 0, 0⟩
noncomputable def p1 : Pos := ⟨129, 0, 147, 27⟩
noncomputable def p2 : Pos := ⟨265, 0, 277, 48⟩
theorem pre1 : ∀ (w : World) (os : OsState), topGo treeTable pg w 11 (some (.ref 6)) 12 ⟨boot_heap w.params, #[], boot_drawn, boot_toks, os⟩ (topStub pg) = some ((sT T0 15 187 w os).abs, ⟨denote treeTable cT, cT, p0, [topFrame p0]⟩) := fun w os => by kernel_rfl
theorem blk : ∀ (w : World) (os : OsState), segRunT treeTable pg w 11 (some (.ref 6)) 1 1 (sT T0 15 187 w os) (blockOf bd envT cT p0 [topFrame p0]) = some (.next, sT T0 15 187 w os, cT, p0) := fun w os => by kernel_rfl
theorem pc1 : ∀ (w : World) (os : OsState), segRunT treeTable pg w 11 (some (.ref 6)) 1 1204 (sT T0 15 187 w os) (piecesOf (bd.take 20) envT cT p0 [topFrame p0]) = some (.next, sT T1 172 403 w os, cT, p1) := fun w os => by kernel_rfl
theorem pc2 : ∀ (w : World) (os : OsState), segRunT treeTable pg w 11 (some (.ref 6)) 1 685 (sT T1 172 403 w os) (piecesOf ((bd.drop 20).take 34) envT cT p1 [topFrame p0]) = some (.next, sT T2 272 566 w os, cT, p2) := fun w os => by kernel_rfl
theorem fin1 : ∀ (w : World) (os : OsState), topRun treeTable pg w 11 (some (.ref 6)) 2 (sT T2 272 566 w os).abs ⟨doneF .next, cT, p2, [topFrame p0]⟩ = some (sT T2 272 566 w os).abs := fun w os => by kernel_rfl
theorem bd_app : bd = (bd.take 20) ++ (((bd.drop 20).take 34) ++ []) := by kernel_rfl
theorem run1 (w : World) (os : OsState) : topRun treeTable pg w 11 (some (.ref 6)) (12 + (1 + (1204 + (685 + 2)))) ⟨boot_heap w.params, #[], boot_drawn, boot_toks, os⟩ (topStub pg) = some (sT T2 272 566 w os).abs := by
  refine go_top (pre1 w os) (piece_block (segRun_of (blk w os)) ?_)
  rw [bd_app]
  exact piece_app (segRun_of (pc1 w os)) (piece_app (segRun_of (pc2 w os)) (piece_nil (fin1 w os)))
theorem op1 : opening pg = plainProg pg.main.scope.names := by kernel_rfl
theorem op2 (s : Shared) : fenceModules? pg s = some s := by kernel_rfl
theorem size1 (w : World) : ((boot_heap w.params).isNs mainGlobals && (#[] : Array GenState).size == 0, (boot_heap w.params).objs.size, (boot_heap w.params).nsMap mainGlobals "__annotations__") = (true, 11, some (.ref 6)) := by kernel_rfl
noncomputable def H1 (P : Params) : Heap := absHeap (T2 P) 272 {}
theorem lk1 (w : World) (os : OsState) : (staticsOk (importedModules pg.main.body) (boot_heap w.params) (H1 w.params) && namesBound pg (H1 w.params) && gensDone ⟨H1 w.params, #[], boot_drawn, 566, os⟩ && laidKept (boot_heap w.params) (H1 w.params)) = true := by kernel_rfl
theorem lk2 (w : World) (os : OsState) : openSeen view loose (importedModules pg.main.body) (fun s => xlAt view lv s && recOk (RowW.records (PySem.Challenge.rw_kt0045_01.row).toRowW) s) true ⟨H1 w.params, #[], boot_drawn, 566, os⟩ = openGood view loose := by kernel_rfl
theorem lk3 (w : World) (os : OsState) : Hook.obs hook ⟨H1 w.params, #[], boot_drawn, 566, os⟩ = Hook.val hook w := by kernel_rfl
theorem left1 : LeftO (PySem.Challenge.rw_kt0045_01.row).prog view loose (fun s => xlAt view lv s && recOk (RowW.records (PySem.Challenge.rw_kt0045_01.row).toRowW) s) (Hook.obs hook) (Hook.val hook) 3900 :=
  LeftO.of_pieces (H₀ := boot_heap) (H₁ := H1) (boot_open op1 (by decide) op2) size1 run1 (by decide) fun w => funext fun os => looks_pair (lk1 w os) (looks_pair (lk2 w os) (lk3 w os))
theorem and_of {a b : Bool} (x : a = true) (y : b = true) : (a && b) = true := by rw [x, y]; rfl
noncomputable abbrev Rt1 (a b c : Bool) (_ : c = (a && b)) : Prop := b = true
noncomputable abbrev Rt2 (a b d c : Bool) (_ : c = (a && b && d)) : Prop := b = true
noncomputable abbrev Rt4 (a b d e f c : Bool) (_ : c = (a && b && d && e && f)) : Prop := b = true
theorem sa1 : Rt1 _ _ (looksOpen pg) rfl := by show _ = _; kernel_rfl
theorem sa2 : Rt2 _ _ _ (looksOpen pg) rfl := by show _ = _; kernel_rfl
theorem sa4 : namesResolve pg = true := by kernel_rfl
theorem saidL : looksOpen pg = true := by
  delta looksOpen
  exact and_of (and_of (and_of (and_of (by kernel_rfl) sa4) (by kernel_rfl)) sa2) sa1
theorem said : PySem.Challenge.rw_kt0045_01.wellSaid = true := by
  delta OpenLaw.wellSaid OpenRow.wellSaid OpenRow.partSaid
  repeat' with_reducible refine and_of ?_ ?_
  all_goals first | with_reducible exact saidL | kernel_rfl
end Mine

end
section
open PySem PySem.W PySem.Calls PyProof.Rows
set_option Elab.async false
set_option linter.unusedVariables false
namespace Mine

/-- the data that the law speaks of -/
inductive D where
  | none
  | bool (b : Bool)
  | int (i : Int)
  | str (x : Str)
  | list (l : List D)
  | tup (l : List D)
  | dict (l : List (Str × Str))
  | raw (v : Value)
  | set1
  deriving Inhabited

structure Cx where
  prog : Program
  w : World
  K : Frag

noncomputable def setLed (c : Cx) : Bool := !c.w.params.followText "set-order"
noncomputable def trueT (led : Bool) : SetTable := { mask := 7, place := #[1], dummies := #[], finger := 0, led, moves := 0, plain := true }
/-- the set of True alone -/
noncomputable def trueObj (led : Bool) : Obj := { cls := .type "set", dict := none, data := .set #[(1, .bool true)] 1 (trueT led) }
noncomputable def Le (g h : Heap) : Prop := ∀ b o, g.get? b = some o → h.get? b = some o
theorem Le.refl (g : Heap) : Le g g := fun _ _ e => e
theorem Le.trans {a b c : Heap} (x : Le a b) (y : Le b c) : Le a c := fun i o e => y i o (x i o e)

inductive DV : List (Str × Str) → List (Str × Value) → Prop
  | nil : DV [] []
  | cons {k x : Str} {t : Tok} {l : List (Str × Str)} {r : List (Str × Value)} : DV l r → DV ((k, x) :: l) ((k, .str x t) :: r)

/-- an exact list: it has no dict of its own -/
noncomputable def IsL (h : Heap) (a : Addr) (items : Array Value) : Prop := ∃ o, h.get? a = some o ∧ o.cls = .type "list" ∧ o.dict = Option.none ∧ ∃ n, o.data = .seq items n
theorem IsL.is {h : Heap} {a : Addr} {items : Array Value} (x : IsL h a items) : h.IsList a items := let ⟨o, e, c, _, r⟩ := x; ⟨o, e, c, r⟩
theorem IsL.at {h h' : Heap} {a : Addr} {items : Array Value} (x : IsL h a items) (k : ∀ o, h.get? a = some o → h'.get? a = some o) : IsL h' a items := let ⟨o, e, r⟩ := x; ⟨o, k _ e, r⟩
theorem IsL.noDict {h : Heap} {a : Addr} {items : Array Value} (x : IsL h a items) : ∀ o, h.get? a = some o → o.dict = Option.none := fun o e => by
  obtain ⟨o', e', _, d, _⟩ := x
  rw [e] at e'; cases e'; exact d
theorem IsL.of_plain {h : Heap} {a : Addr} {items : Array Value} (x : h.PlainList a items) : IsL h a items := let ⟨n, e⟩ := x; ⟨_, e, rfl, rfl, n, rfl⟩
mutual
inductive Rep (c : Cx) (h : Heap) : D → Value → Prop
  | none : Rep c h .none .none
  | bool (b : Bool) : Rep c h (.bool b) (.bool b)
  | int (i : Int) (t : Tok) : Rep c h (.int i) (.int i t)
  | str (x : Str) (t : Tok) : Rep c h (.str x) (.str x t)
  | raw (v : Value) : Rep c h (.raw v) v
  | list {a : Addr} {items : Array Value} {ds : List D} : IsL h a items → Reps c h ds items.toList → Rep c h (.list ds) (.ref a)
  | tup {a : Addr} {items : Array Value} {ds : List D} : IsTup h a items → Reps c h ds items.toList → Rep c h (.tup ds) (.ref a)
  | dict {a : Addr} {kvs : List (Str × Value)} {l : List (Str × Str)} : h.DictOf (strKind c.prog c.w) a kvs → DV l kvs → (a == sysModules) = false → Rep c h (.dict l) (.ref a)
  | set1 {a : Addr} : h.get? a = some (trueObj (setLed c)) → Rep c h .set1 (.ref a)
inductive Reps (c : Cx) (h : Heap) : List D → List Value → Prop
  | nil : Reps c h [] []
  | cons {d : D} {v : Value} {ds : List D} {vs : List Value} : Rep c h d v → Reps c h ds vs → Reps c h (d :: ds) (v :: vs)
end

theorem isL_le {g h : Heap} {a : Addr} {items : Array Value} (l : Le g h) (x : IsL g a items) : IsL h a items := x.at fun o e => l _ _ e
theorem isList_le {g h : Heap} {a : Addr} {items : Array Value} (l : Le g h) (x : IsL g a items) : h.IsList a items := (isL_le l x).is

mutual
theorem Rep.le {c : Cx} {g h : Heap} (l : Le g h) : ∀ {d : D} {v : Value}, Rep c g d v → Rep c h d v
  | _, _, .none => .none
  | _, _, .bool b => .bool b
  | _, _, .int i t => .int i t
  | _, _, .str x t => .str x t
  | _, _, .raw v => .raw v
  | _, _, .list a r => .list (isL_le l a) (Reps.le l r)
  | _, _, .tup a r => .tup (a.keeps l) (Reps.le l r)
  | _, _, .dict a r e => .dict (a.keep l) r e
  | _, _, .set1 e => .set1 (l _ _ e)
theorem Reps.le {c : Cx} {g h : Heap} (l : Le g h) : ∀ {ds : List D} {vs : List Value}, Reps c g ds vs → Reps c h ds vs
  | _, _, .nil => .nil
  | _, _, .cons a r => .cons (Rep.le l a) (Reps.le l r)
end

theorem Reps.length {c : Cx} {h : Heap} : ∀ {ds : List D} {vs : List Value}, Reps c h ds vs → ds.length = vs.length
  | _, _, .nil => rfl
  | _, _, .cons _ r => by rw [List.length_cons, List.length_cons, Reps.length r]
theorem Reps.get {c : Cx} {h : Heap} : ∀ {ds : List D} {vs : List Value} {i : Nat} {d : D}, Reps c h ds vs → ds[i]? = some d → ∃ v, vs[i]? = some v ∧ Rep c h d v
  | _, _, 0, _, .cons a _, e => by cases e; exact ⟨_, rfl, a⟩
  | _, _, i + 1, _, .cons _ r, e => by
    obtain ⟨v, hv, hr⟩ := Reps.get (i := i) r (by simpa using e)
    exact ⟨v, by simpa using hv, hr⟩
theorem Reps.getV {c : Cx} {h : Heap} : ∀ {ds : List D} {vs : List Value} {i : Nat} {v : Value}, Reps c h ds vs → vs[i]? = some v → ∃ d, ds[i]? = some d ∧ Rep c h d v
  | _, _, 0, _, .cons a _, e => by cases e; exact ⟨_, rfl, a⟩
  | _, _, i + 1, _, .cons _ r, e => by
    obtain ⟨v, hv, hr⟩ := Reps.getV (i := i) r (by simpa using e)
    exact ⟨v, by simpa using hv, hr⟩
theorem Reps.append {c : Cx} {h : Heap} : ∀ {ds ds' : List D} {vs vs' : List Value}, Reps c h ds vs → Reps c h ds' vs' → Reps c h (ds ++ ds') (vs ++ vs')
  | _, _, _, _, .nil, y => y
  | _, _, _, _, .cons a r, y => .cons a (Reps.append r y)
theorem Reps.drop {c : Cx} {h : Heap} : ∀ {ds : List D} {vs : List Value} (n : Nat), Reps c h ds vs → Reps c h (ds.drop n) (vs.drop n)
  | _, _, 0, r => by simpa using r
  | _, _, n + 1, .nil => by simpa using Reps.nil
  | _, _, n + 1, .cons _ r => by simpa using Reps.drop n r
theorem Reps.take {c : Cx} {h : Heap} : ∀ {ds : List D} {vs : List Value} (n : Nat), Reps c h ds vs → Reps c h (ds.take n) (vs.take n)
  | _, _, 0, _ => by simpa using Reps.nil
  | _, _, n + 1, .nil => by simpa using Reps.nil
  | _, _, n + 1, .cons a r => by simpa using Reps.cons a (Reps.take n r)
theorem Reps.set {c : Cx} {h : Heap} {d : D} {v : Value} (a : Rep c h d v) : ∀ {ds : List D} {vs : List Value} (n : Nat), Reps c h ds vs → Reps c h (ds.set n d) (vs.set n v)
  | _, _, _, .nil => by simpa using Reps.nil
  | _, _, 0, .cons _ r => by simpa using Reps.cons a r
  | _, _, n + 1, .cons b r => by simpa using Reps.cons b (Reps.set a n r)

/-- the heap h with the places outside of P freed -/
noncomputable def only (h : Heap) (P : Addr → Bool) : Heap := ⟨h.objs.mapIdx fun i o => if P i then o else { cls := .none, data := .freed }, h.life⟩
theorem only_get (h : Heap) (P : Addr → Bool) (b : Addr) : (only h P).get? b = if P b then h.get? b else none := by
  unfold only Heap.get?
  simp only [Array.getElem?_mapIdx]
  cases e : h.objs[b]? with
  | none => simp
  | some o =>
    simp only [Option.map_some]
    cases hp : P b <;> simp
theorem only_some {h : Heap} {P : Addr → Bool} {b : Addr} {o : Obj} (e : (only h P).get? b = some o) : P b = true ∧ h.get? b = some o := by
  rw [only_get] at e
  split at e
  · exact ⟨by assumption, e⟩
  · cases e

/-- the places of the frames that run -/
noncomputable def fr (A : Around) (a : Addr) : Prop := ∃ l, A.frames = some l ∧ ∃ e ∈ l, e.frame = some a
noncomputable def IsD (h : Heap) (a : Addr) : Prop := ∃ o es ep, h.get? a = some o ∧ o.data = .dict es ep
/-- nothing is touched but the slots of the frames' places -/
structure LeF (Φ : Addr → Prop) (h h' : Heap) : Prop where
  out : ∀ a o, ¬ Φ a → h.get? a = some o → h'.get? a = some o
  sl : ∀ a o, h.get? a = some o → ∃ sl, h'.get? a = some { o with slots := sl }
theorem LeF.of {Φ : Addr → Prop} {h h' : Heap} (l : Le h h') : LeF Φ h h' := ⟨fun a o _ e => l a o e, fun a o e => ⟨o.slots, l a o e⟩⟩
theorem LeF.refl {Φ : Addr → Prop} (h : Heap) : LeF Φ h h := LeF.of (Le.refl h)
theorem LeF.trans {Φ : Addr → Prop} {a b c : Heap} (x : LeF Φ a b) (y : LeF Φ b c) : LeF Φ a c :=
  ⟨fun i o n e => y.out i o n (x.out i o n e), fun i o e => by
    obtain ⟨sl, e1⟩ := x.sl i o e
    obtain ⟨sl', e2⟩ := y.sl i _ e1
    exact ⟨sl', e2⟩⟩
theorem LeF.live {Φ : Addr → Prop} {h h' : Heap} (x : LeF Φ h h') {a : Addr} {o : Obj} (e : h.get? a = some o) : (h'.get? a).isSome = true := by
  obtain ⟨sl, e⟩ := x.sl a o e
  rw [e]; rfl
theorem LeF.none {Φ : Addr → Prop} {h h' : Heap} (x : LeF Φ h h') {a : Addr} (e : h'.get? a = none) : h.get? a = none := by
  cases q : h.get? a with
  | none => rfl
  | some o =>
    have := x.live q
    rw [e] at this; cases this
theorem Le.none {h h' : Heap} (x : Le h h') {a : Addr} (e : h'.get? a = none) : h.get? a = none := by
  cases q : h.get? a with
  | none => rfl
  | some o => rw [x _ _ q] at e; cases e
theorem LeF.le_right {Φ : Addr → Prop} {a b c : Heap} (x : LeF Φ a b) (y : Le b c) : LeF Φ a c := x.trans (LeF.of y)
theorem LeF.le_left {Φ : Addr → Prop} {a b c : Heap} (x : Le a b) (y : LeF Φ b c) : LeF Φ a c := (LeF.of x).trans y
theorem IsD.mono {Φ : Addr → Prop} {h h' : Heap} {a : Addr} (x : IsD h a) (l : LeF Φ h h') : IsD h' a := by
  obtain ⟨o, es, ep, e, hd⟩ := x
  obtain ⟨sl, e'⟩ := l.sl _ _ e
  exact ⟨_, es, ep, e', hd⟩
theorem IsD.some {h : Heap} {a : Addr} (x : IsD h a) : h.get? a ≠ none := by
  obtain ⟨o, es, ep, e, hd⟩ := x
  rw [e]; intro q; cases q
/-- from the frozen part g of h to the frozen part g' of h': nothing of h was touched, and what was frozen anew is new -/
structure Grow (Φ : Addr → Prop) (g h g' h' : Heap) : Prop where
  keep : LeF Φ h h'
  le : Le g g'
  le' : Le g' h'
  fresh : ∀ a o, g'.get? a = some o → g.get? a = some o ∨ h.get? a = none

theorem Grow.refl {Φ : Addr → Prop} {g h : Heap} (l : Le g h) : Grow Φ g h g h := ⟨LeF.refl _, Le.refl _, l, fun _ _ e => .inl e⟩
theorem Grow.of {Φ : Addr → Prop} {g h g' h' : Heap} (k : Le h h') (l : Le g g') (l' : Le g' h') (f : ∀ a o, g'.get? a = some o → g.get? a = some o ∨ h.get? a = none) : Grow Φ g h g' h' := ⟨LeF.of k, l, l', f⟩
theorem Grow.trans {Φ : Addr → Prop} {g h g' h' g'' h'' : Heap} (x : Grow Φ g h g' h') (y : Grow Φ g' h' g'' h'') : Grow Φ g h g'' h'' :=
  ⟨x.keep.trans y.keep, x.le.trans y.le, y.le', fun a o e => by
    rcases y.fresh a o e with e | e
    · exact x.fresh a o e
    · exact .inr (x.keep.none e)⟩

noncomputable def up (g h h' : Heap) : Heap := only h' fun b => (g.get? b).isSome || (h.get? b).isNone
theorem Grow.up {Φ : Addr → Prop} {g h h' : Heap} (l : Le g h) (k : Le h h') : Grow Φ g h (up g h h') h' where
  keep := LeF.of k
  le := fun b o e => by
    unfold Mine.up
    rw [only_get, e]
    simpa using k _ _ (l _ _ e)
  le' := fun b o e => (only_some e).2
  fresh := fun a o e => by
    obtain ⟨e1, e2⟩ := only_some e
    rcases Bool.or_eq_true_iff.mp e1 with e1 | e1
    · obtain ⟨o', e3⟩ := Option.isSome_iff_exists.mp e1
      rw [k _ _ (l _ _ e3)] at e2
      exact .inl (e2 ▸ e3)
    · exact .inr (by simpa using e1)
theorem up_get {g h h' : Heap} {a : Addr} {o : Obj} (n : h.get? a = none) (e : h'.get? a = some o) : (up g h h').get? a = some o := by
  unfold up
  rw [only_get, n]
  simpa using e
theorem get_size (h : Heap) : h.get? h.objs.size = none := by
  cases e : h.get? h.objs.size with
  | none => rfl
  | some o => exact absurd (Heap.lt_size e) (Nat.lt_irrefl _)
theorem le_push (h : Heap) (o : Obj) : Le h (h.push o) := fun _ _ e => Heap.get?_push_of_some o e

/-- what is asked of the frozen part: the program's own objects, the tables -/
structure Wf (c : Cx) (g : Heap) : Prop where
  K : c.K.In g
  T : ∃ p loose mg mb, TopRead p loose mg mb g
theorem Wf.le {c : Cx} {g g' : Heap} (x : Wf c g) (l : Le g g') : Wf c g' := ⟨x.K.keeps l, let ⟨p, lo, mg, mb, t⟩ := x.T; ⟨p, lo, mg, mb, t.keeps l⟩⟩

/-- a name's place: a value of the frozen part; a list or dict of the frame's own; an own cell -/
inductive Slot where
  | val (d : D)
  | own (p : Bool) (d : D)
  | cel (d : Option D)

noncomputable abbrev Sto := List (Str × Slot)
noncomputable def Sto.get (σ : Sto) (x : Str) : Option Slot := List.lookup x σ
noncomputable def Sto.put : Sto → Str → Slot → Sto
  | [], x, s => [(x, s)]
  | p :: r, x, s => bif p.1 == x then (p.1, s) :: r else p :: Sto.put r x s
theorem Sto.get_put (σ : Sto) (x : Str) (s : Slot) (y : Str) : (σ.put x s).get y = if y = x then some s else σ.get y := by
  induction σ with
  | nil =>
    simp only [Sto.put, Sto.get, List.lookup_cons, List.lookup_nil]
    by_cases h : y = x
    · subst h; simp
    · have hf : (y == x) = false := beq_eq_false_iff_ne.mpr h
      simp only [hf, if_neg h]
  | cons p r ih =>
    obtain ⟨k, u⟩ := p
    simp only [Sto.put, Sto.get] at ih ⊢
    by_cases hk : k = x
    · subst hk
      simp only [BEq.rfl, cond_true, List.lookup_cons]
      by_cases h : y = k
      · subst h; simp
      · have hf : (y == k) = false := beq_eq_false_iff_ne.mpr h
        simp only [hf, if_neg h]
    · have : (k == x) = false := by simpa using hk
      simp only [this, cond_false, List.lookup_cons]
      by_cases h : y = k
      · subst h
        have hx : ¬ y = x := hk
        simp [hx]
      · have : (y == k) = false := by simpa using h
        simp only [this]
        exact ih

/-- a list or a dict of the frame's own, written out -/
inductive Shape (c : Cx) (g h : Heap) : Bool → D → Addr → Prop
  | list {a : Addr} {items : Array Value} {ds : List D} {p : Bool} : IsL h a items → (p = true → h.PlainList a items) → Reps c g ds items.toList → Shape c g h p (.list ds) a
  | dict {a : Addr} {kvs : List (Str × Value)} {l : List (Str × Str)} {p : Bool} : h.DictOf (strKind c.prog c.w) a kvs → DV l kvs → (a == sysModules) = false → Shape c g h p (.dict l) a

noncomputable def VarOk (c : Cx) (env : Env) (g : Heap) (m : Str → Option Value) (ow : List Addr) (h : Heap) (x : Str) : Slot → Prop
  | .val d => ∃ v, Rep c g d v ∧ ((env.kindOf x = some .local ∧ m x = some v) ∨
      ((env.kindOf x = some .cell ∨ env.kindOf x = some .free) ∧ ∃ q, env.cells.lookup x = some q ∧ q ≠ env.locals ∧ q ∉ ow ∧ h.IsCell q (some v)))
  | .own p d => env.kindOf x = some .local ∧ ∃ a, m x = some (.ref a) ∧ a ∈ ow ∧ Shape c g h p d a
  | .cel d => env.kindOf x = some .cell ∧ ∃ q v, env.cells.lookup x = some q ∧ q ∈ ow ∧ h.IsCell q v ∧ ∀ d', d = some d' → ∃ v', v = some v' ∧ Rep c g d' v'

/-- the frozen part lies in the heap; the frames' places are alive and not frozen -/
structure Top (Φ : Addr → Prop) (g h : Heap) : Prop where
  le : Le g h
  fl : ∀ a, Φ a → g.get? a = none ∧ IsD h a
theorem Top.grow {Φ : Addr → Prop} {g h g' h' : Heap} (T : Top Φ g h) (G : Grow Φ g h g' h') : Top Φ g' h' := ⟨G.le', fun a ha => ⟨by
  cases q : g'.get? a with
  | none => rfl
  | some o =>
    rcases G.fresh _ _ q with z | z
    · rw [(T.fl a ha).1] at z; cases z
    · exact absurd z (T.fl a ha).2.some, (T.fl a ha).2.mono G.keep⟩⟩

/-- the state of a frame: from the start (g₀ frozen, b all) to now (g frozen, h all); its locals m, its own objects ow -/
structure StC (Φ : Addr → Prop) (c : Cx) (g₀ b : Heap) (env : Env) (g : Heap) (m : Str → Option Value) (ow : List Addr) (σ : Sto) (h : Heap) : Prop where
  ns : h.Ns env.locals m
  kb : LeF Φ b h
  kg : Le g h
  fl : ∀ a, Φ a → g.get? a = none ∧ (a = env.locals ∨ IsD b a)
  le₀ : Le g₀ g
  fr₀ : ∀ a o, g.get? a = some o → g₀.get? a = some o ∨ b.get? a = none
  bL : b.get? env.locals = none
  bO : ∀ a ∈ ow, b.get? a = none
  gL : g.get? env.locals = none
  gO : ∀ a ∈ ow, g.get? a = none
  nL : env.locals ∉ ow
  live : ∀ a ∈ ow, (h.get? a).isSome
  wf : Wf c g
  vars : ∀ x sl, σ.get x = some sl → VarOk c env g m ow h x sl
  inj : ∀ x y p p' d d' a, σ.get x = some (.own p d) → σ.get y = some (.own p' d') → m x = some (.ref a) → m y = some (.ref a) → x = y
  kind : env.scope.kind = .function
  glob : env.globals = mainGlobals
  bui : env.builtins = builtinsNs
  capp : ∀ x y q, env.cells.lookup x = some q → env.cells.lookup y = some q → x = y

theorem ns_sl {h h' : Heap} {a : Addr} {m : Str → Option Value} (x : h.Ns a m) (k : ∀ o, h.get? a = some o → ∃ sl, h'.get? a = some { o with slots := sl }) : h'.Ns a m := by
  obtain ⟨o, es, ep, e, r⟩ := x
  obtain ⟨sl, e'⟩ := k o e
  exact ⟨_, es, ep, e', r⟩
theorem isCell_sl {h h' : Heap} {q : Addr} {v : Option Value} (x : h.IsCell q v) (k : ∀ o, h.get? q = some o → ∃ sl, h'.get? q = some { o with slots := sl }) : h'.IsCell q v := by
  obtain ⟨o, e, r⟩ := x
  obtain ⟨sl, e'⟩ := k o e
  exact ⟨_, e', r⟩
theorem StC.own_not {Φ : Addr → Prop} {c : Cx} {g₀ b : Heap} {env : Env} {g h : Heap} {m : Str → Option Value} {ow : List Addr} {σ : Sto} (S : StC Φ c g₀ b env g m ow σ h) {a : Addr} (ha : a ∈ ow) : ¬ Φ a := fun z => by
  rcases (S.fl a z).2 with q | q
  · exact S.nL (q ▸ ha)
  · exact q.some (S.bO a ha)
theorem StC.isD {Φ : Addr → Prop} {c : Cx} {g₀ b : Heap} {env : Env} {g h : Heap} {m : Str → Option Value} {ow : List Addr} {σ : Sto} (S : StC Φ c g₀ b env g m ow σ h) {a : Addr} (ha : Φ a) : IsD h a := by
  rcases (S.fl a ha).2 with q | q
  · obtain ⟨o, es, ep, e, r, _⟩ := S.ns
    exact ⟨o, es, ep, q ▸ e, r⟩
  · exact q.mono S.kb
theorem StC.top {Φ : Addr → Prop} {c : Cx} {g₀ b : Heap} {env : Env} {g h : Heap} {m : Str → Option Value} {ow : List Addr} {σ : Sto} (S : StC Φ c g₀ b env g m ow σ h) : Top Φ g h := ⟨S.kg, fun a ha => ⟨(S.fl a ha).1, S.isD ha⟩⟩

theorem Shape.mono {c : Cx} {g g' h h' : Heap} {p : Bool} {d : D} {a : Addr} (x : Shape c g h p d a) (l : Le g g') (k : ∀ o, h.get? a = some o → h'.get? a = some o) : Shape c g' h' p d a := by
  cases x with
  | list i q r => exact .list (i.at k) (fun e => (q e).at k) (r.le l)
  | dict i r e => exact .dict (i.at k) r e
theorem isCell_at {h h' : Heap} {q : Addr} {v : Option Value} (x : h.IsCell q v) (k : ∀ o, h.get? q = some o → h'.get? q = some o) : h'.IsCell q v := let ⟨o, e, r⟩ := x; ⟨o, k _ e, r⟩
theorem ns_at {h h' : Heap} {a : Addr} {m : Str → Option Value} (x : h.Ns a m) (k : ∀ o, h.get? a = some o → h'.get? a = some o) : h'.Ns a m := let ⟨o, es, ep, e, r⟩ := x; ⟨o, es, ep, k _ e, r⟩

theorem VarOk.grow {Φ : Addr → Prop} {c : Cx} {env : Env} {g g' h h' : Heap} {m : Str → Option Value} {ow : List Addr} {x : Str} {sl : Slot} (v : VarOk c env g m ow h x sl) (l : Le g g') (k : LeF Φ h h') (ho : ∀ a ∈ ow, ¬ Φ a) : VarOk c env g' m ow h' x sl := by
  cases sl with
  | val d =>
    obtain ⟨v, r, q⟩ := v
    refine ⟨v, r.le l, q.imp id fun ⟨a, p, e1, e2, e3, e4⟩ => ⟨a, p, e1, e2, e3, isCell_sl e4 (k.sl _)⟩⟩
  | own p d =>
    obtain ⟨hk, a, e1, e2, e3⟩ := v
    exact ⟨hk, a, e1, e2, e3.mono l fun o e => k.out _ _ (ho _ e2) e⟩
  | cel d =>
    obtain ⟨hk, q, v, e1, e2, e3, e4⟩ := v
    exact ⟨hk, q, v, e1, e2, isCell_sl e3 (k.sl _), fun d' e => let ⟨v', a, b⟩ := e4 d' e; ⟨v', a, b.le l⟩⟩

theorem StC.grow {Φ : Addr → Prop} {c : Cx} {g₀ b : Heap} {env : Env} {g g' h h' : Heap} {m : Str → Option Value} {ow : List Addr} {σ : Sto} (S : StC Φ c g₀ b env g m ow σ h) (G : Grow Φ g h g' h') : StC Φ c g₀ b env g' m ow σ h' where
  ns := ns_sl S.ns (G.keep.sl _)
  kb := S.kb.trans G.keep
  kg := G.le'
  fl := fun a ha => ⟨((S.top).grow G).fl a ha |>.1, (S.fl a ha).2⟩
  le₀ := S.le₀.trans G.le
  fr₀ := fun a o e => by
    rcases G.fresh a o e with e | e
    · exact S.fr₀ a o e
    · exact .inr (S.kb.none e)
  bL := S.bL
  bO := S.bO
  gL := by
    cases q : g'.get? env.locals with
    | none => rfl
    | some o =>
      obtain ⟨o', es, ep, e, _⟩ := S.ns
      rcases G.fresh _ _ q with e' | e'
      · rw [S.gL] at e'; cases e'
      · rw [e] at e'; cases e'
  gO := fun a ha => by
    cases q : g'.get? a with
    | none => rfl
    | some o =>
      obtain ⟨o', e⟩ := Option.isSome_iff_exists.mp (S.live a ha)
      rcases G.fresh _ _ q with e' | e'
      · rw [S.gO a ha] at e'; cases e'
      · rw [e] at e'; cases e'
  nL := S.nL
  live := fun a ha => by
    obtain ⟨o, e⟩ := Option.isSome_iff_exists.mp (S.live a ha)
    exact G.keep.live e
  wf := S.wf.le G.le
  vars := fun x sl e => (S.vars x sl e).grow G.le G.keep fun a ha => S.own_not ha
  inj := S.inj
  kind := S.kind
  glob := S.glob
  bui := S.bui
  capp := S.capp
end Mine

end
section
open PySem PySem.W PySem.Calls PyProof.Rows
set_option Elab.async false
set_option linter.unusedVariables false
namespace Mine

structure Room (A : Around) (n : Nat) : Prop where
  hh : A.handled = none
  dp : A.depth + n < 900
  un : A.units + 10 * n < 9900
  frs : ∃ l, A.frames = some l ∧ ∀ e ∈ l, e.scope.kind ≠ .module ∧ ∃ a, e.frame = some a
theorem Room.le {A : Around} {n k : Nat} (R : Room A n) (h : k ≤ n) : Room A k := ⟨R.hh, by have := R.dp; omega, by have := R.un; omega, R.frs⟩
theorem Room.units {A : Around} {n : Nat} (R : Room A n) : A.units < cLine := by have := R.un; show A.units < 9900; omega
theorem Room.depth {A : Around} {n : Nat} (R : Room A n) : A.depth < recursionLimit := by have := R.dp; show A.depth < 1000; omega

noncomputable abbrev Noth : Value → Shared → Prop := fun _ _ => False

noncomputable def Post (Φ : Addr → Prop) (c : Cx) (g : Heap) (s : Shared) (d : D) (v : Value) (s' : Shared) : Prop :=
  ∃ g' h' tk, s' = { s with heap := h', toks := tk } ∧ Grow Φ g s.heap g' h' ∧ Rep c g' d v

section
variable {c : Cx} {n : Nat} {A : Around} {g₀ b g : Heap} {env : Env} {m : Str → Option Value} {ow : List Addr} {σ : Sto} {s : Shared} {d : D} {v : Value}

theorem Post.same (l : Le g s.heap) (r : Rep c g d v) {tk : Nat} : Post (fr A) c g s d v { s with toks := tk } := ⟨g, s.heap, tk, rfl, Grow.refl l, r⟩
theorem Post.upd {h' : Heap} (l : Le g s.heap) (k : Le s.heap h') (r : Rep c (up g s.heap h') d v) {tk : Nat} : Post (fr A) c g s d v { s with heap := h', toks := tk } := ⟨_, h', tk, rfl, Grow.up l k, r⟩

structure Ev (c : Cx) (n : Nat) (env : Env) (σ : Sto) (e : Expr) (d : D) : Prop where
  out : ∀ A g₀ b g m ow s, Room A n → StC (fr A) c g₀ b env g m ow σ s.heap → wpAny (model c.prog c.w) A (eval e env) (Post (fr A) c g s d) Noth s

theorem noth {α : Type} {M : Model} {t : Sem α} {Q Q' : α → Shared → Prop} {E : Value → Shared → Prop} (h : wpAny M A t Q Noth s) (k : ∀ a s', Q a s' → Q' a s') : wpAny M A t Q' E s := wpAny_mono h k fun _ _ f => f.elim

theorem Ev.use {e : Expr} (x : Ev c n env σ e d) (R : Room A n) (S : StC (fr A) c g₀ b env g m ow σ s.heap) {Q : Value → Shared → Prop} {E : Value → Shared → Prop}
    (k : ∀ v g' h' tk, Grow (fr A) g s.heap g' h' → StC (fr A) c g₀ b env g' m ow σ h' → Rep c g' d v → Q v { s with heap := h', toks := tk }) : wpAny (model c.prog c.w) A (eval e env) Q E s := by
  refine noth (x.out _ _ _ _ _ _ _ R S) fun v s' h => ?_
  obtain ⟨g', h', tk, rfl, G, r⟩ := h
  exact k v g' h' tk G (S.grow G) r
theorem Ev.le {e : Expr} {k : Nat} (x : Ev c n env σ e d) (h : n ≤ k) : Ev c k env σ e d := ⟨fun A g₀ b g m ow s R S => x.out A g₀ b g m ow s (R.le h) S⟩

theorem Post.after {g' h' : Heap} {tk : Nat} {d : D} {v : Value} {s' : Shared} (G : Grow (fr A) g s.heap g' h') (p : Post (fr A) c g' { s with heap := h', toks := tk } d v s') : Post (fr A) c g s d v s' := by
  obtain ⟨g'', h'', tk'', rfl, G', r⟩ := p
  exact ⟨g'', h'', tk'', rfl, G.trans G', r⟩

-- constants
theorem Ev.cint {i : Int} {k} {pos} : Ev c n env σ (.Constant (.int i) k pos) (.int i) := ⟨fun _ _ _ _ _ _ _ _ S => wpAny_Constant_int (Post.same S.kg (.int _ _))⟩
theorem Ev.cstr {x : Str} {k} {pos} : Ev c n env σ (.Constant (.str x) k pos) (.str x) := ⟨fun _ _ _ _ _ _ _ _ S => wpAny_Constant_str (Post.same S.kg (.str _ _))⟩
theorem Ev.cbool {x : Bool} {k} {pos} : Ev c n env σ (.Constant (.bool x) k pos) (.bool x) := ⟨fun _ _ _ _ _ _ s _ S => wpAny_Constant_bool (Post.same (s := s) (tk := s.toks) S.kg (.bool _))⟩

-- names
theorem loadVal {x : Str} {Q : Value → Shared → Prop} {E : Value → Shared → Prop} (S : StC (fr A) c g₀ b env g m ow σ s.heap) (hx : σ.get x = some (.val d))
    (k : ∀ v, Rep c g d v → Q v s) (hc : (x == ("__classdict__" : Str)) = false) : wpAny (model c.prog c.w) A (loadName env x) Q E s := by
  obtain ⟨v, r, q⟩ := S.vars x _ hx
  rcases q with ⟨hk, hm⟩ | ⟨hk, a, hl, _, _, hq⟩
  · exact wpAny_loadName_local S.kind hk S.ns hm (k v r)
  · rcases hk with hk | hk
    · exact wpAny_loadName_cell S.kind hk hl hq (k v r)
    · exact wpAny_loadName_free S.kind hk hl hq (k v r) hc
theorem loadCel {x : Str} {Q : Value → Shared → Prop} {E : Value → Shared → Prop} (S : StC (fr A) c g₀ b env g m ow σ s.heap) (hx : σ.get x = some (.cel (some d)))
    (k : ∀ v, Rep c g d v → Q v s) : wpAny (model c.prog c.w) A (loadName env x) Q E s := by
  obtain ⟨hk, q, v, hl, _, hq, h4⟩ := S.vars x _ hx
  obtain ⟨v', rfl, r⟩ := h4 d rfl
  exact wpAny_loadName_cell S.kind hk hl hq (k v' r)
theorem Ev.name {x : Str} {pos} (hx : σ.get x = some (.val d)) (hd : (x == ("__debug__" : Str)) = false := by decide) (hc : (x == ("__classdict__" : Str)) = false := by decide) : Ev c n env σ (.Name x pos) d :=
  ⟨fun _ _ _ _ _ _ s _ S => wpAny_Name (loadVal S hx (fun _ r => Post.same (s := s) (tk := s.toks) S.kg r) hc) hd⟩
theorem Ev.cel {x : Str} {pos} (hx : σ.get x = some (.cel (some d))) (hd : (x == ("__debug__" : Str)) = false := by decide) : Ev c n env σ (.Name x pos) d :=
  ⟨fun _ _ _ _ _ _ s _ S => wpAny_Name (loadCel S hx (fun _ r => Post.same (s := s) (tk := s.toks) S.kg r)) hd⟩

/-- what an operation of the machine does to data -/
noncomputable def Prim (c : Cx) (n : Nat) (ds : List D) (t : List Value → Sem Value) (d : D) : Prop :=
  ∀ A g s vs, Room A n → Top (fr A) g s.heap → Wf c g → Reps c g ds vs → wpAny (model c.prog c.w) A (t vs) (Post (fr A) c g s d) Noth s

theorem Reps.two {d e : D} {u v : Value} (x : Rep c g d u) (y : Rep c g e v) : Reps c g [d, e] [u, v] := .cons x (.cons y .nil)
theorem Reps.one {d : D} {u : Value} (x : Rep c g d u) : Reps c g [d] [u] := .cons x .nil
theorem Reps.of2 {d e : D} {vs : List Value} (r : Reps c g [d, e] vs) : ∃ u v, vs = [u, v] ∧ Rep c g d u ∧ Rep c g e v := by
  cases r with | cons x r => cases r with | cons y r => cases r with | nil => exact ⟨_, _, rfl, x, y⟩
theorem Reps.of1 {d : D} {vs : List Value} (r : Reps c g [d] vs) : ∃ u, vs = [u] ∧ Rep c g d u := by
  cases r with | cons x r => cases r with | nil => exact ⟨_, rfl, x⟩
theorem Reps.of3 {d e f : D} {vs : List Value} (r : Reps c g [d, e, f] vs) : ∃ u v w, vs = [u, v, w] ∧ Rep c g d u ∧ Rep c g e v ∧ Rep c g f w := by
  cases r with | cons x r => cases r with | cons y r => cases r with | cons z r => cases r with | nil => exact ⟨_, _, _, rfl, x, y, z⟩

noncomputable def two (t : Value → Value → Sem Value) : List Value → Sem Value
  | [u, v] => t u v
  | _ => .raise .none
noncomputable def one (t : Value → Sem Value) : List Value → Sem Value
  | [u] => t u
  | _ => .raise .none

theorem Prim.use2 {t : Value → Value → Sem Value} {d e f : D} (p : Prim c n [d, e] (two t) f) (R : Room A n) (l : Top (fr A) g s.heap) (w : Wf c g) {u v : Value} (x : Rep c g d u) (y : Rep c g e v) :
    wpAny (model c.prog c.w) A (t u v) (Post (fr A) c g s f) Noth s := p A g s [u, v] R l w (Reps.two x y)

theorem Ev.bin {l r : Expr} {op : Operator} {pos} {d e f : D} (x : Ev c n env σ l d) (y : Ev c n env σ r e) (p : Prim c n [d, e] (two (binaryOp op)) f) : Ev c n env σ (.BinOp l op r pos) f := by
  constructor
  intro A g₀ b g m ow s R S
  refine wpAny_BinOp (x.use R S fun u g1 h1 t1 G1 S1 r1 => y.use R S1 fun v g2 h2 t2 G2 S2 r2 => ?_)
  exact noth (p.use2 R S2.top S2.wf (r1.le G2.le) r2) fun _ _ q => Post.after G1 (Post.after G2 q)
theorem Ev.cmp {l r : Expr} {op : CmpOp} {pos} {d e f : D} (x : Ev c n env σ l d) (y : Ev c n env σ r e) (p : Prim c n [d, e] (two (compareOp op)) f) (hm : behindInMarks op r = false := by with_unfolding_all rfl) : Ev c n env σ (.Compare l [op] [r] pos) f := by
  constructor
  intro A g₀ b g m ow s R S
  refine wpAny_Compare1 (x.use R S fun u g1 h1 t1 G1 S1 r1 => y.use R S1 fun v g2 h2 t2 G2 S2 r2 => ?_) hm
  exact noth (p.use2 R S2.top S2.wf (r1.le G2.le) r2) fun _ _ q => Post.after G1 (Post.after G2 q)

-- truth
noncomputable def PostB (Φ : Addr → Prop) (g : Heap) (s : Shared) (x : Bool) (y : Bool) (s' : Shared) : Prop := x = y ∧ ∃ g' h' tk, s' = { s with heap := h', toks := tk } ∧ Grow (Φ) g s.heap g' h'
structure Tr (c : Cx) (n : Nat) (env : Env) (σ : Sto) (e : Expr) (x : Bool) : Prop where
  out : ∀ A g₀ b g m ow s, Room A n → StC (fr A) c g₀ b env g m ow σ s.heap → wpAny (model c.prog c.w) A (isTrue e env (eval e env)) (PostB (fr A) g s x) Noth s
noncomputable def truthD : D → Bool
  | .none => false
  | .bool b => b
  | .int i => i != 0
  | .str x => x.length != 0
  | .list l => !l.isEmpty
  | .tup l => !l.isEmpty
  | .dict l => !l.isEmpty
  | .raw _ => true
  | .set1 => true
noncomputable def plainD : D → Bool
  | .dict _ => false
  | .raw _ => false
  | .set1 => false
  | _ => true
/-- short enough for the machine -/
noncomputable def fitD : D → Prop
  | .str x => x.length ≤ sizeLine
  | .list l => l.length ≤ sizeLine
  | .tup l => l.length ≤ sizeLine
  | .dict l => l.length ≤ sizeLine
  | _ => True
theorem Tr.use {e : Expr} {x : Bool} (t : Tr c n env σ e x) (R : Room A n) (S : StC (fr A) c g₀ b env g m ow σ s.heap) {Q : Bool → Shared → Prop} {E : Value → Shared → Prop}
    (k : ∀ g' h' tk, Grow (fr A) g s.heap g' h' → StC (fr A) c g₀ b env g' m ow σ h' → Q x { s with heap := h', toks := tk }) : wpAny (model c.prog c.w) A (isTrue e env (eval e env)) Q E s := by
  refine noth (t.out _ _ _ _ _ _ _ R S) fun v s' h => ?_
  obtain ⟨rfl, g', h', tk, rfl, G⟩ := h
  exact k g' h' tk G (S.grow G)
theorem DV.length : ∀ {l : List (Str × Str)} {r : List (Str × Value)}, DV l r → l.length = r.length
  | _, _, .nil => rfl
  | _, _, .cons r => by rw [List.length_cons, List.length_cons, DV.length r]
theorem truthy_D {d : D} {v : Value} (l : Le g s.heap) (r : Rep c g d v) (hf : fitD d) (ht : plainD d = true) :
    wpAny (model c.prog c.w) A (truthy v) (PostB (fr A) g s (truthD d)) Noth s := by
  have fin : ∀ tk, PostB (fr A) g s (truthD d) (truthD d) { s with toks := tk } := fun tk => ⟨rfl, g, s.heap, tk, rfl, Grow.refl l⟩
  have z := sizeLine_eq
  cases r with
  | none => exact fun _ _ _ => fin s.toks
  | bool b => exact wpAny_truthy_bool (fin s.toks)
  | int i t => exact truthy_int (fin s.toks)
  | str x t =>
    refine PySem.P.truthy_str (by simp only [fitD] at hf; omega) ?_
    have e : ((x.length : Int) != 0) = truthD (.str x) := by
      simp only [truthD]
      rw [Bool.eq_iff_iff]
      simp only [bne_iff_ne, ne_eq]
      omega
    rw [e]
    exact fin _
  | list a q =>
    rename_i ad items ds
    have hl := q.length
    simp only [Array.length_toList] at hl
    refine wpAny_truthy_list (isList_le l a) (by simp only [fitD] at hf; omega) ?_
    have e : (!items.isEmpty) = truthD (.list ds) := by
      simp only [truthD]
      cases ds with
      | nil => simp only [List.length_nil] at hl; simp [Array.isEmpty, ← hl]
      | cons x r => simp only [List.length_cons] at hl; simp [Array.isEmpty, ← hl]
    rw [e]
    exact fin _
  | tup a q =>
    rename_i ad items ds
    have hl := q.length
    simp only [Array.length_toList] at hl
    refine truthy_tuple (a.keeps l) (by simp only [fitD] at hf; omega) ?_
    have e : (!items.isEmpty) = truthD (.tup ds) := by
      simp only [truthD]
      cases ds with
      | nil => simp only [List.length_nil] at hl; simp [Array.isEmpty, ← hl]
      | cons x r => simp only [List.length_cons] at hl; simp [Array.isEmpty, ← hl]
    rw [e]
    exact fin _
  | dict a q e => cases ht
  | raw v => cases ht
  | set1 e => cases ht

theorem PostB.after {g' h' : Heap} {tk : Nat} {x y : Bool} {s' : Shared} (G : Grow (fr A) g s.heap g' h') (p : PostB (fr A) g' { s with heap := h', toks := tk } x y s') : PostB (fr A) g s x y s' := by
  obtain ⟨rfl, g'', h'', tk'', rfl, G'⟩ := p
  exact ⟨rfl, g'', h'', tk'', rfl, G.trans G'⟩

theorem Tr.value {e : Expr} {d : D} (x : Ev c n env σ e d) (hf : fitD d) (ht : plainD d = true) {y : Bool} (hy : truthD d = y)
    (he : ∀ whole, isTrue e env whole = (do let v ← whole; standAt e.pos; holding [v] (truthy v)) := by intro _; rfl) : Tr c n env σ e y := by
  constructor
  intro A g₀ b g m ow s R S
  subst hy
  refine wpAny_isTrue_value (x.use R S fun v g1 h1 t1 G1 S1 r1 => ?_) (he _)
  exact noth (truthy_D S1.kg r1 hf ht) fun _ _ q => PostB.after G1 q
theorem Tr.cmp {l r : Expr} {op : CmpOp} {pos} {d e : D} {y : Bool} (x : Ev c n env σ l d) (z : Ev c n env σ r e) (p : Prim c n [d, e] (two (compareOp op)) (.bool y)) (hm : behindInMarks op r = false := by with_unfolding_all rfl) :
    Tr c n env σ (.Compare l [op] [r] pos) y := by
  constructor
  intro A g₀ b g m ow s R S
  refine wpAny_isTrue_Compare1 (x.use R S fun u g1 h1 t1 G1 S1 r1 => z.use R S1 fun v g2 h2 t2 G2 S2 r2 => ?_) hm
  refine noth (p.use2 R S2.top S2.wf (r1.le G2.le) r2) fun v' s' q => ?_
  obtain ⟨g3, h3, t3, rfl, G3, r3⟩ := q
  cases r3
  exact wpAny_truthy_bool ⟨rfl, g3, h3, t3, rfl, G1.trans (G2.trans G3)⟩
theorem Tr.not {e : Expr} {pos} {y z : Bool} (x : Tr c n env σ e y) (hz : (!y) = z) : Tr c n env σ (.UnaryOp .Not e pos) z := by
  constructor
  intro A g₀ b g m ow s R S
  subst hz
  exact wpAny_isTrue_Not (x.use R S fun g1 h1 t1 G1 S1 => ⟨rfl, g1, h1, t1, rfl, G1⟩)
/-- and, or of tests -/
structure Al (c : Cx) (n : Nat) (env : Env) (σ : Sto) (op : BoolOp) (es : List Expr) (x : Bool) : Prop where
  out : ∀ A g₀ b g m ow s, Room A n → StC (fr A) c g₀ b env g m ow σ s.heap → wpAny (model c.prog c.w) A (allTrue op es env) (PostB (fr A) g s x) Noth s
theorem Tr.boolop {op : BoolOp} {es : List Expr} {pos} {y : Bool} (x : Al c n env σ op es y) : Tr c n env σ (.BoolOp op es pos) y := by
  constructor
  intro A g₀ b g m ow s R S
  exact wpAny_isTrue_BoolOp (x.out _ _ _ _ _ _ _ R S)
theorem Al.nil {op : BoolOp} : Al c n env σ op [] (op == .And) := ⟨fun _ _ _ g _ _ s _ S => wpAny_pure ⟨rfl, g, s.heap, s.toks, rfl, Grow.refl S.kg⟩⟩
theorem Al.orT {e : Expr} {es : List Expr} (x : Tr c n env σ e true) : Al c n env σ .Or (e :: es) true := by
  constructor
  intro A g₀ b g m ow s R S
  exact wpAny_allTrue_Or_cons (x.use R S fun g1 h1 t1 G1 S1 => ⟨rfl, g1, h1, t1, rfl, G1⟩)
theorem Al.orF {e : Expr} {es : List Expr} {y : Bool} (x : Tr c n env σ e false) (z : Al c n env σ .Or es y) : Al c n env σ .Or (e :: es) y := by
  constructor
  intro A g₀ b g m ow s R S
  refine wpAny_allTrue_Or_cons (x.use R S fun g1 h1 t1 G1 S1 => ?_)
  exact noth (z.out _ _ _ _ _ _ _ R S1) fun _ _ q => PostB.after G1 q
theorem Al.andF {e : Expr} {es : List Expr} (x : Tr c n env σ e false) : Al c n env σ .And (e :: es) false := by
  constructor
  intro A g₀ b g m ow s R S
  exact wpAny_allTrue_And_cons (x.use R S fun g1 h1 t1 G1 S1 => ⟨rfl, g1, h1, t1, rfl, G1⟩)
theorem Al.andT {e : Expr} {es : List Expr} {y : Bool} (x : Tr c n env σ e true) (z : Al c n env σ .And es y) : Al c n env σ .And (e :: es) y := by
  constructor
  intro A g₀ b g m ow s R S
  refine wpAny_allTrue_And_cons (x.use R S fun g1 h1 t1 G1 S1 => ?_)
  exact noth (z.out _ _ _ _ _ _ _ R S1) fun _ _ q => PostB.after G1 q
theorem Al.or2 {e f : Expr} {x y : Bool} (h1 : Tr c n env σ e x) (h2 : x = false → Tr c n env σ f y) : Al c n env σ .Or [e, f] (x || y) := by
  cases x with
  | true => exact Al.orT h1
  | false => cases y with
    | true => exact Al.orF h1 (Al.orT (h2 rfl))
    | false => exact Al.orF h1 (Al.orF (h2 rfl) Al.nil)
theorem Al.and2 {e f : Expr} {x y : Bool} (h1 : Tr c n env σ e x) (h2 : x = true → Tr c n env σ f y) : Al c n env σ .And [e, f] (x && y) := by
  cases x with
  | false => exact Al.andF h1
  | true => cases y with
    | true => exact Al.andT h1 (Al.andT (h2 rfl) Al.nil)
    | false => exact Al.andT h1 (Al.andF (h2 rfl))

theorem Ev.ifexp {t body orelse : Expr} {pos} {x : Bool} {d : D} (h : Tr c n env σ t x) (h1 : x = true → Ev c n env σ body d) (h2 : x = false → Ev c n env σ orelse d) : Ev c n env σ (.IfExp t body orelse pos) d := by
  constructor
  intro A g₀ b g m ow s R S
  refine wpAny_IfExp (h.use R S fun g1 h1' t1 G1 S1 => ?_)
  cases x with
  | true => exact noth ((h1 rfl).out _ _ _ _ _ _ _ R S1) fun _ _ q => Post.after G1 q
  | false => exact noth ((h2 rfl).out _ _ _ _ _ _ _ R S1) fun _ _ q => Post.after G1 q
theorem Ev.not {e : Expr} {pos} {d : D} {y : Bool} (x : Ev c n env σ e d) (hf : fitD d) (ht : plainD d = true) (hy : (!truthD d) = y) : Ev c n env σ (.UnaryOp .Not e pos) (.bool y) := by
  constructor
  intro A g₀ b g m ow s R S
  refine wpAny_UnaryOp (x.use R S fun v g1 h1 t1 G1 S1 r1 => not_of ?_)
  refine noth (truthy_D S1.kg r1 hf ht) fun y' s' q => ?_
  obtain ⟨rfl, g2, h2, t2, rfl, G2⟩ := q
  exact ⟨g2, h2, t2, rfl, G1.trans G2, hy ▸ .bool _⟩
/-- «x or y» as a value -/
theorem Ev.orv {x y : Expr} {pos} {d e : D} (h1 : Ev c n env σ x d) (hf : fitD d) (ht : plainD d = true) (h2 : truthD d = false → Ev c n env σ y e) : Ev c n env σ (.BoolOp .Or [x, y] pos) (if truthD d then d else e) := by
  constructor
  intro A g₀ b g m ow s R S
  refine wpAny_Or2 (h1.use R S fun v g1 h1 t1 G1 S1 r1 => ?_)
  refine noth (truthy_D S1.kg r1 hf ht) fun y' s' q => ?_
  obtain ⟨rfl, g2, h2', t2, rfl, G2⟩ := q
  cases hq : truthD d with
  | true => exact ⟨g2, h2', t2, rfl, G1.trans G2, r1.le G2.le⟩
  | false => exact noth ((h2 hq).out _ _ _ _ _ _ _ R (S1.grow G2)) fun _ _ q => Post.after (G1.trans G2) q
end
end Mine

end
section
open PySem PySem.W PySem.Calls PyProof.Rows
set_option Elab.async false
set_option linter.unusedVariables false
namespace Mine
section
variable {c : Cx} {n : Nat} {A : Around} {g₀ b g : Heap} {env : Env} {m : Str → Option Value} {ow : List Addr} {σ : Sto} {s : Shared} {d : D} {v : Value}

theorem prim2 {t : Value → Value → Sem Value} {d e f : D}
    (h : ∀ A g s u v, Room A n → Le g s.heap → Wf c g → Rep c g d u → Rep c g e v → wpAny (model c.prog c.w) A (t u v) (Post (fr A) c g s f) Noth s) : Prim c n [d, e] (two t) f := by
  intro A g s vs R l w r
  obtain ⟨u, v, rfl, x, y⟩ := r.of2
  exact h A g s u v R l.le w x y

theorem add_ii {i j : Int} : Prim c n [.int i, .int j] (two (binaryOp .Add)) (.int (i + j)) := prim2 fun A g s u v R l w x y => by
  cases x; cases y; exact add_int (Post.same l (.int _ _))
theorem sub_ii {i j : Int} : Prim c n [.int i, .int j] (two (binaryOp .Sub)) (.int (i - j)) := prim2 fun A g s u v R l w x y => by
  cases x; cases y; exact sub_int (Post.same l (.int _ _))
theorem mul_ii {i j : Int} (hm : IntMulOk i j) : Prim c n [.int i, .int j] (two (binaryOp .Mult)) (.int (i * j)) := prim2 fun A g s u v R l w x y => by
  cases x; cases y; exact mul_int (Post.same l (.int _ _)) hm
theorem mod_ii {i j : Int} (hj : 0 < j) : Prim c n [.int i, .int j] (two (binaryOp .Mod)) (.int (i % j)) := prim2 fun A g s u v R l w x y => by
  cases x; cases y
  refine mod_int (by omega) ?_
  rw [Int.fmod_eq_emod_of_nonneg _ (by omega)]
  exact Post.same l (.int _ _)
theorem div_ii {i j : Int} (hj : 0 < j) (hs : j.natAbs < 1073741824) : Prim c n [.int i, .int j] (two (binaryOp .FloorDiv)) (.int (i / j)) := prim2 fun A g s u v R l w x y => by
  cases x; cases y
  refine floordiv_int (by omega) ?_ (.inl (PyProof.noPylong_small hs))
  rw [Int.fdiv_eq_ediv_of_nonneg _ (by omega)]
  exact Post.same l (.int _ _)
theorem pow_ii {i j : Int} (hn : 0 ≤ j) (hsz : (Builtin.Int.intBits i : Int) * j ≤ 2 ^ 27) : Prim c n [.int i, .int j] (two (binaryOp .Pow)) (.int (i ^ j.toNat)) := prim2 fun A g s u v R l w x y => by
  cases x; cases y; exact pow_int hn hsz (Post.same l (.int _ _))
theorem and_ii {i j : Int} : Prim c n [.int i, .int j] (two (binaryOp .BitAnd)) (.int (Builtin.bitAnd i j)) := prim2 fun A g s u v R l w x y => by
  cases x; cases y; exact and_int (Post.same l (.int _ _))
theorem add_ss {x y : Str} (h : x.length + y.length ≤ sizeLine) : Prim c n [.str x, .str y] (two (binaryOp .Add)) (.str (x ++ y)) := prim2 fun A g s u v R l w x y => by
  cases x; cases y; exact add_str (fun t' tk => Post.same l (.str _ _)) h
theorem mul_si {x : Str} {k : Int} (h : MulOk x k) : Prim c n [.str x, .int k] (two (binaryOp .Mult)) (.str (Txt.mul x k)) := prim2 fun A g s u v R l w x y => by
  cases x; cases y; exact PySem.SB.mul h (fun t' tk => Post.same l (.str _ _))
-- in place
theorem iadd_ii {i j : Int} : Prim c n [.int i, .int j] (two (inplaceOp .Add)) (.int (i + j)) := prim2 fun A g s u v R l w x y => by
  cases x; cases y; exact iadd_int (Post.same l (.int _ _))
theorem idiv_ii {i j : Int} (hj : 0 < j) (hs : j.natAbs < 1073741824) : Prim c n [.int i, .int j] (two (inplaceOp .FloorDiv)) (.int (i / j)) := prim2 fun A g s u v R l w x y => by
  cases x; cases y
  refine ifloordiv_int (by omega) ?_ (.inl (PyProof.noPylong_small hs))
  rw [Int.fdiv_eq_ediv_of_nonneg _ (by omega)]
  exact Post.same l (.int _ _)
theorem iadd_ss {x y : Str} (h : x.length + y.length ≤ sizeLine) : Prim c n [.str x, .str y] (two (inplaceOp .Add)) (.str (x ++ y)) := prim2 fun A g s u v R l w x y => by
  cases x; cases y; exact iadd_str (fun t' tk => Post.same l (.str _ _)) h
-- comparisons
theorem eq_ii {i j : Int} : Prim c n [.int i, .int j] (two (compareOp .Eq)) (.bool (i == j)) := prim2 fun A g s u v R l w x y => by
  cases x; cases y; exact eq_int (Post.same (tk := s.toks) l (.bool _))
theorem eq_ss {x y : Str} : Prim c n [.str x, .str y] (two (compareOp .Eq)) (.bool (x == y)) := prim2 fun A g s u v R l w x y => by
  cases x; cases y; exact eq_str (Post.same (tk := s.toks) l (.bool _))
theorem ne_ss {x y : Str} : Prim c n [.str x, .str y] (two (compareOp .NotEq)) (.bool (x != y)) := prim2 fun A g s u v R l w x y => by
  cases x; cases y; exact ne_str (Post.same (tk := s.toks) l (.bool _))
theorem in_ss {x y : Str} : Prim c n [.str y, .str x] (two (compareOp .In)) (.bool !(Builtin.Str.occurrences x y 0 x.length 1).isEmpty) := prim2 fun A g s u v R l w x y => by
  cases x; cases y; exact in_str (Post.same (tk := s.toks) l (.bool _))

noncomputable abbrev sL (xs : List Str) : List D := xs.map D.str
theorem Reps.sL_at {h : Heap} : ∀ {xs : List Str} {vs : List Value}, Reps c h (sL xs) vs → ∀ (j : Nat) (v : Value), vs[j]? = some v → ∃ x t, xs[j]? = some x ∧ v = .str x t
  | [], _, .nil, _, _, e => by simp at e
  | _ :: _, _, .cons (.str x t) _, 0, v, e => by cases e; exact ⟨x, t, rfl, rfl⟩
  | _ :: _, _, .cons _ r, j + 1, v, e => by
    obtain ⟨x, t, a, b⟩ := Reps.sL_at r j v (by simpa using e)
    exact ⟨x, t, by simpa using a, b⟩
theorem all_eq : ∀ (xs ys : List Str), xs.length = ys.length → ((List.range xs.length).all fun j => xs[j]? == ys[j]?) = decide (xs = ys) := by
  intro xs ys h
  rw [Bool.eq_iff_iff]
  simp only [List.all_eq_true, List.mem_range, beq_iff_eq, decide_eq_true_eq]
  constructor
  · intro q
    refine List.ext_getElem? fun j => ?_
    by_cases hj : j < xs.length
    · exact q j hj
    · rw [List.getElem?_eq_none (by omega), List.getElem?_eq_none (by omega)]
  · rintro rfl; exact fun _ _ => rfl
theorem eq_ll {xs ys : List Str} : Prim c n [.list (sL xs), .list (sL ys)] (two (compareOp .Eq)) (.bool (decide (xs = ys))) := prim2 fun A g s u v R l w x y => by
  cases x with
  | list a q =>
    cases y with
    | list a' q' =>
      rename_i p items p' items'
      have e := q.length
      have e' := q'.length
      simp only [Array.length_toList, List.length_map] at e e'
      by_cases hl : xs.length = ys.length
      · refine SeqAt.eq_listAt (e := fun j => xs[j]? == ys[j]?) (isList_le l a) (isList_le l a') (by omega) R.units (fun j h1 h2 => ?_) ?_
        · obtain ⟨x, t, hx, ex⟩ := q.sL_at j items[j] (by simp [h1])
          obtain ⟨y, u, hy, ey⟩ := q'.sL_at j items'[j] (by simp [h2])
          rw [ex, ey, hx, hy]
          have := (eqGives_str x y t u).at A.in1 s
          simpa using this
        · rw [← e, all_eq xs ys hl]
          exact Post.same (tk := s.toks) l (.bool _)
      · refine SeqAt.eq_list_lengthsAt (isList_le l a) (isList_le l a') (by simp only [bne_iff_ne, ne_eq]; omega) R.units ?_
        have : decide (xs = ys) = false := decide_eq_false fun h => hl (by rw [h])
        rw [this]
        exact Post.same (tk := s.toks) l (.bool _)
theorem ne_lnil {ds : List D} : Prim c n [.list ds, .list []] (two (compareOp .NotEq)) (.bool (!ds.isEmpty)) := prim2 fun A g s u v R l w x y => by
  cases x with
  | list a q =>
    cases y with
    | list a' q' =>
      have e := q.length
      have e' := q'.length
      simp only [Array.length_toList, List.length_nil] at e e'
      cases ds with
      | nil =>
        simp only [List.length_nil] at e
        refine cmp_ofNotEq (SeqAt.RcNeAt.lists (e := fun _ => true) (isList_le l a) (isList_le l a') (by omega) R.units (fun j h1 => by omega) _ _ _ _ ?_)
        rw [← e]
        exact Post.same (tk := s.toks) l (.bool _)
      | cons d r =>
        simp only [List.length_cons] at e
        exact cmp_ofNotEq (SeqAt.RcNeAt.lists_lengths (isList_le l a) (isList_le l a') (by simp only [bne_iff_ne, ne_eq]; omega) R.units _ _ _ _ (Post.same (tk := s.toks) l (.bool _)))
/-- any list against the empty one -/
theorem eq_lnil {ds : List D} : Prim c n [.list ds, .list []] (two (compareOp .Eq)) (.bool ds.isEmpty) := prim2 fun A g s u v R l w x y => by
  cases x with
  | list a q =>
    cases y with
    | list a' q' =>
      have e := q.length
      have e' := q'.length
      simp only [Array.length_toList, List.length_nil] at e e'
      cases ds with
      | nil =>
        simp only [List.length_nil] at e
        refine SeqAt.eq_listAt (e := fun _ => true) (isList_le l a) (isList_le l a') (by omega) R.units (fun j h1 => by omega) ?_
        rw [← e]
        exact Post.same (tk := s.toks) l (.bool _)
      | cons d r =>
        simp only [List.length_cons] at e
        exact SeqAt.eq_list_lengthsAt (isList_le l a) (isList_le l a') (by simp only [bne_iff_ne, ne_eq]; omega) R.units (Post.same (tk := s.toks) l (.bool _))
/-- any dict against the empty one -/
theorem eq_dnil {ds : List (Str × Str)} : Prim c n [.dict ds, .dict []] (two (compareOp .Eq)) (.bool ds.isEmpty) := prim2 fun A g s u v R l w x y => by
  cases x with
  | dict a q hs =>
    cases y with
    | dict a' q' hs' =>
      cases q'
      cases ds with
      | nil =>
        cases q
        refine keq_eq (r := true) hs hs' (a.keep l) (a'.keep l) R.units (fun _ => .nil) ?_
        exact Post.same (tk := s.toks) l (.bool _)
      | cons d r =>
        cases q
        refine keq_eq (r := true) hs hs' (a.keep l) (a'.keep l) R.units (fun h => absurd h (by simp)) ?_
        exact Post.same (tk := s.toks) l (.bool _)
end
end Mine

end
section
open PySem PySem.W PySem.Calls PyProof.Rows
set_option Elab.async false
set_option linter.unusedVariables false
namespace Mine
section
variable {c : Cx} {n : Nat} {A : Around} {g₀ b g : Heap} {env : Env} {m : Str → Option Value} {ow : List Addr} {σ : Sto} {s : Shared} {d : D} {v : Value}

-- items
noncomputable def itemT : D → Option String
  | .list _ => some "list"
  | .tup _ => some "tuple"
  | .dict _ => some "dict"
  | .str _ => some "str"
  | _ => none
theorem tail_D {value slice : Expr} {d : D} {o i : Value} {Q : Value → Shared → Prop} {E : Value → Shared → Prop} (r : Rep c g d o) (l : Le g s.heap) (ht : (itemT d).isSome = true)
    (hs : ∃ ops, subscripted slice false o i = operate ops (getItem o i)) (h : wpAny (model c.prog c.w) A (getItem o i) Q E s) : wpAny (model c.prog c.w) A (subscriptTail value slice o i) Q E s := by
  obtain ⟨ops, hs⟩ := hs
  cases r with
  | list a q => exact tail_any (isList_le l a).typeIs slot_list_getitem.lookup h hs
  | tup a q => exact tail_any (a.keeps l).typeIs slot_tuple_getitem.lookup h hs
  | dict a q e => exact tail_any (a.keep l).typeIs slot_dict_getitem.lookup h hs
  | str x t => exact tail_any (typeIs_str s x t) PySem.F.slot_str_getitem.lookup h hs
  | _ => cases ht
theorem Ev.sub {value slice : Expr} {pos} {d e f : D} (x : Ev c n env σ value d) (y : Ev c n env σ slice e) (p : Prim c n [d, e] (two getItem) f) (ht : (itemT d).isSome = true := by rfl)
    (hs : ∀ o i, ∃ ops, subscripted slice false o i = operate ops (getItem o i) := by intro _ _; exact ⟨_, rfl⟩) : Ev c n env σ (.Subscript value slice pos) f := by
  constructor
  intro A g₀ b g m ow s R S
  refine Subscript_ (x.use R S fun u g1 h1 t1 G1 S1 r1 => y.use R S1 fun v g2 h2 t2 G2 S2 r2 => tail_D (r1.le G2.le) S2.kg ht (hs _ _) ?_)
  exact noth (p.use2 R S2.top S2.wf (r1.le G2.le) r2) fun _ _ q => Post.after G1 (Post.after G2 q)

theorem seqIndex_at {i : Int} {k : Nat} (h0 : 0 ≤ i) (h : i.toNat < k) : seqIndex? i k = some i.toNat := by
  unfold seqIndex?
  simp only [show ¬ i < 0 by omega, if_false]
  by_cases q : 0 ≤ i ∧ i < k
  · simp [q]
  · omega
theorem get_li {ds : List D} {i : Int} {d : D} (h0 : 0 ≤ i) (hs : i < 2 ^ 63) (hi : ds[i.toNat]? = some d) : Prim c n [.list ds, .int i] (two getItem) d := prim2 fun A g s u v R l w x y => by
  cases y
  cases x with
  | list a q =>
    obtain ⟨v, hv, r⟩ := q.get hi
    exact wpAny_getItem_list (isList_le l a) h0 hs (by simpa using hv) (Post.same (tk := s.toks) l r)
theorem get_ti {ds : List D} {i : Int} {d : D} (h0 : 0 ≤ i) (hs : i < 2 ^ 63) (hi : ds[i.toNat]? = some d) : Prim c n [.tup ds, .int i] (two getItem) d := prim2 fun A g s u v R l w x y => by
  cases y
  cases x with
  | tup a q =>
    obtain ⟨v, hv, r⟩ := q.get hi
    have hl := q.length
    have : i.toNat < ds.length := by
      rw [List.getElem?_eq_some_iff] at hi; exact hi.1
    simp only [Array.length_toList] at hl
    refine getItem_tuple (j := i.toNat) (a.keeps l) (by omega) hs ?_ (by simpa using hv) (Post.same (tk := s.toks) l r)
    exact seqIndex_at h0 (by omega)
theorem get_si {x : Str} {i : Int} {k : Nat} (h0 : 0 ≤ i) (hs : i < 2 ^ 63) (hi : x.cps[i.toNat]? = some k) : Prim c n [.str x, .int i] (two getItem) (.str ⟨#[k]⟩) := prim2 fun A g s u v R l w x' y => by
  cases y
  cases x'
  refine PyProof.Rows.getItem_str (c := k) ?_ ?_ (Post.same l (.str _ _))
  · simp only [Bool.or_eq_false_iff, decide_eq_false_iff_not]; omega
  · have hl : i.toNat < x.cps.size := by
      rw [Array.getElem?_eq_some_iff] at hi; exact hi.1
    have : seqIndex? i x.length = some i.toNat := by
      have : x.length = x.cps.size := rfl
      exact seqIndex_at h0 (by omega)
    rw [this]
    exact hi
noncomputable def dget (l : List (Str × Str)) (k : Str) : Option Str := (l.find? fun p => p.1 = k).map (·.2)
theorem DV.valueAt : ∀ {l : List (Str × Str)} {r : List (Str × Value)} {k x : Str}, DV l r → dget l k = some x → ∃ t, PySem.valueAt r k = some (.str x t)
  | _, _, k, x, .nil, e => by simp [dget] at e
  | _, _, k, x, .cons (k := k') (x := x') (t := t) q, e => by
    simp only [dget, List.find?_cons] at e
    simp only [PySem.valueAt, List.find?_cons]
    by_cases h : k' = k
    · subst h
      simp only [decide_true, Option.map_some, Option.some.injEq] at e
      subst e
      exact ⟨t, by simp⟩
    · have hd : decide (k' = k) = false := decide_eq_false h
      rw [hd] at e ⊢
      exact DV.valueAt q e
theorem get_ds {l : List (Str × Str)} {k x : Str} (hk : dget l k = some x) : Prim c n [.dict l, .str k] (two getItem) (.str x) := prim2 fun A g s u v R l w x' y => by
  cases y
  cases x' with
  | dict a q e =>
    obtain ⟨t, ht⟩ := q.valueAt hk
    exact wpAny_getItem_of (strKind_is _ _ _ _) (a.keep l).mapOf ht (Post.same l (.str _ _))

-- slices
noncomputable def EvO (c : Cx) (n : Nat) (env : Env) (σ : Sto) : Option Expr → Option Int → Prop
  | none, none => True
  | some e, some i => Ev c n env σ e (.int i)
  | _, _ => False
theorem EvO.use {e : Option Expr} {i : Option Int} (x : EvO c n env σ e i) (R : Room A n) (S : StC (fr A) c g₀ b env g m ow σ s.heap) {Q : Value → Shared → Prop} {E : Value → Shared → Prop}
    (k : ∀ v g' h' tk, Grow (fr A) g s.heap g' h' → StC (fr A) c g₀ b env g' m ow σ h' → (v = .none ∧ i = none ∨ ∃ j t, v = .int j t ∧ i = some j) → Q v { s with heap := h', toks := tk }) : wpAny (model c.prog c.w) A (evalPart e env) Q E s := by
  cases e with
  | none =>
    cases i with
    | none => exact wpAny_evalPart_none (k .none g s.heap s.toks (Grow.refl S.kg) S (.inl ⟨rfl, rfl⟩))
    | some i => cases x
  | some e =>
    cases i with
    | none => cases x
    | some i =>
      refine wpAny_evalPart_some (Ev.use x R S fun v g' h' tk G S' r => ?_)
      cases r
      exact k _ g' h' tk G S' (.inr ⟨_, _, rfl, rfl⟩)
/-- what a slice of d is -/
noncomputable def SlP (c : Cx) (n : Nat) (d : D) (i j : Option Int) (f : D) : Prop :=
  ∀ A g s v a vl vu, Room A n → Le g s.heap → Wf c g → Rep c g d v → s.heap.IsSliceOf a vl vu .none → (vl = .none ∧ i = none ∨ ∃ k t, vl = .int k t ∧ i = some k) → (vu = .none ∧ j = none ∨ ∃ k t, vu = .int k t ∧ j = some k) →
    wpAny (model c.prog c.w) A (getItem v (.ref a)) (Post (fr A) c g s f) Noth s
theorem Ev.slice {value : Expr} {lo hi : Option Expr} {pos pos'} {d f : D} {i j : Option Int} (x : Ev c n env σ value d) (y : EvO c n env σ lo i) (z : EvO c n env σ hi j) (p : SlP c n d i j f) (ht : (itemT d).isSome = true := by rfl) :
    Ev c n env σ (.Subscript value (.Slice lo hi none pos') pos) f := by
  constructor
  intro A g₀ b g m ow s R S
  refine Subscript_ (x.use R S fun u g1 h1 t1 G1 S1 r1 => ?_)
  refine wpAny_Slice (y.use R S1 fun vl g2 h2 t2 G2 S2 r2 => z.use R S2 fun vu g3 h3 t3 G3 S3 r3 => wpAny_evalPart_none ?_)
  have k4 : Le h3 (h3.push { cls := .type "slice", data := .fields #[vl, vu, .none] }) := le_push _ _
  have G4 : Grow (fr A) g3 h3 g3 (h3.push { cls := .type "slice", data := .fields #[vl, vu, .none] }) := Grow.of k4 (Le.refl _) (S3.kg.trans k4) fun _ _ e => .inl e
  have S4 := S3.grow G4
  refine tail_D ((r1.le G2.le).le G3.le) S4.kg ht ⟨_, rfl⟩ ?_
  refine noth (p A g3 _ u _ vl vu R S4.kg S4.wf ((r1.le G2.le).le G3.le) ⟨_, Heap.get?_push_size _ rfl, rfl, rfl⟩ r2 r3) fun _ _ q => ?_
  have G := G1.trans (G2.trans (G3.trans G4))
  obtain ⟨g5, h5, t5, rfl, G5, r5⟩ := q
  exact ⟨g5, h5, t5, rfl, G.trans G5, r5⟩

theorem slice_s {x : Str} {i j : Option Int} (hx : x.length ≤ sizeLine) : SlP c n (.str x) i j (.str (Txt.slice x i j)) := by
  intro A g s v a vl vu R l w r hsl hl hu
  cases r
  rename_i t
  obtain ⟨o, ho, hc, hd⟩ := hsl
  rcases hl with ⟨rfl, rfl⟩ | ⟨k, tk, rfl, rfl⟩ <;> rcases hu with ⟨rfl, rfl⟩ | ⟨k', tk', rfl, rfl⟩
  · exact wpAny_getItem_str_slice (l := none) (u := none) (st := none) ⟨o, ho, hc, hd⟩ rfl (post_val_or_str ⟨Nat.le_trans (Txt.slice_le x _ _) hx, fun t' k => Post.same l (.str _ _)⟩)
  · exact wpAny_getItem_str_slice (l := none) (u := some (k', tk')) (st := none) ⟨o, ho, hc, hd⟩ rfl (post_val_or_str ⟨Nat.le_trans (Txt.slice_le x _ _) hx, fun t' k => Post.same l (.str _ _)⟩)
  · exact wpAny_getItem_str_slice (l := some (k, tk)) (u := none) (st := none) ⟨o, ho, hc, hd⟩ rfl (post_val_or_str ⟨Nat.le_trans (Txt.slice_le x _ _) hx, fun t' k => Post.same l (.str _ _)⟩)
  · exact wpAny_getItem_str_slice (l := some (k, tk)) (u := some (k', tk')) (st := none) ⟨o, ho, hc, hd⟩ rfl (post_val_or_str ⟨Nat.le_trans (Txt.slice_le x _ _) hx, fun t' k => Post.same l (.str _ _)⟩)
theorem slicePick_beyond (items : Array Value) {y : Int} (h : (items.size : Int) ≤ y) : slicePick items none (some y) none = slicePick items none (some ((items.size : Nat) : Int)) none := by
  unfold slicePick sliceBounds
  have a1 : ¬ y < 0 := by omega
  have a2 : ¬ ((items.size : Int) < 0) := by omega
  have e1 : max (0 : Int) (min y (items.size : Int)) = items.size := by omega
  simp [a1, a2, e1]
theorem slice_l_to {ds : List D} {k : Nat} (hx : ds.length ≤ sizeLine) : SlP c n (.list ds) none (some (k : Int)) (.list (ds.take k)) := by
  intro A g s v a vl vu R l w r hsl hl hu
  cases r with
  | list ha q =>
    rename_i ad items
    rcases hl with ⟨rfl, _⟩ | ⟨_, _, _, e⟩
    · rcases hu with ⟨_, e⟩ | ⟨k', tk', rfl, e⟩
      · cases e
      · cases e
        have hlen := q.length
        simp only [Array.length_toList] at hlen
        have e : slicePick items none (some (k : Int)) none = (items.toList.take k).toArray := by
          by_cases hk : k ≤ items.size
          · rw [slicePick_upto items k hk]
          · rw [slicePick_beyond items (by omega), slicePick_upto items items.size (Nat.le_refl _), List.take_of_length_le (l := items.toList) (i := k) (by simp; omega), List.take_of_length_le (l := items.toList) (i := items.size) (by simp)]
        refine wpAny_getItem_list_slice (isList_le l ha) hsl .none (.int _ _) .none (by simp) ?_ (by omega)
        rw [e]
        refine Post.upd (tk := s.toks) l (le_push _ _) (.list ⟨_, up_get (get_size _) (Heap.get?_push_size _ rfl), rfl, rfl, _, rfl⟩ ?_)
        simpa using (q.take k).le (Grow.up (Φ := fr A) l (le_push _ _)).le
    · cases e
theorem slice_l_from {ds : List D} {k : Nat} (hx : ds.length ≤ sizeLine) (hk : k ≤ ds.length) : SlP c n (.list ds) (some (k : Int)) none (.list (ds.drop k)) := by
  intro A g s v a vl vu R l w r hsl hl hu
  cases r with
  | list ha q =>
    rename_i ad items
    rcases hl with ⟨_, e⟩ | ⟨k', tk', rfl, e⟩
    · cases e
    · cases e
      rcases hu with ⟨rfl, _⟩ | ⟨_, _, _, e⟩
      · have hlen := q.length
        simp only [Array.length_toList] at hlen
        have e : slicePick items (some (k : Int)) none none = (items.toList.drop k).toArray := by
          rw [slicePick_from items k (by omega)]
        refine wpAny_getItem_list_slice (isList_le l ha) hsl (.int _ _) .none .none (by simp) ?_ (by omega)
        rw [e]
        refine Post.upd (tk := s.toks) l (le_push _ _) (.list ⟨_, up_get (get_size _) (Heap.get?_push_size _ rfl), rfl, rfl, _, rfl⟩ ?_)
        simpa using (q.drop k).le (Grow.up (Φ := fr A) l (le_push _ _)).le
      · cases e
end
end Mine

end
section
open PySem PySem.W PySem.Calls PyProof.Rows
set_option Elab.async false
set_option linter.unusedVariables false
namespace Mine
section
variable {c : Cx} {n : Nat} {A : Around} {g₀ b g : Heap} {env : Env} {m : Str → Option Value} {ow : List Addr} {σ : Sto} {s : Shared} {d : D} {v : Value}

structure Evs (c : Cx) (n : Nat) (env : Env) (σ : Sto) (es : List Expr) (ds : List D) : Prop where
  out : ∀ A g₀ b g m ow s pos, Room A n → StC (fr A) c g₀ b env g m ow σ s.heap →
    wpAny (model c.prog c.w) A (spliced (backTo pos (starEach es env))) (fun vs s' => ∃ g' h' tk, s' = { s with heap := h', toks := tk } ∧ Grow (fr A) g s.heap g' h' ∧ Reps c g' ds vs) Noth s
theorem Evs.use {es : List Expr} {ds : List D} {pos} (x : Evs c n env σ es ds) (R : Room A n) (S : StC (fr A) c g₀ b env g m ow σ s.heap) {Q : List Value → Shared → Prop} {E : Value → Shared → Prop}
    (k : ∀ vs g' h' tk, Grow (fr A) g s.heap g' h' → StC (fr A) c g₀ b env g' m ow σ h' → Reps c g' ds vs → Q vs { s with heap := h', toks := tk }) : wpAny (model c.prog c.w) A (spliced (backTo pos (starEach es env))) Q E s := by
  refine noth (x.out _ _ _ _ _ _ _ pos R S) fun v s' h => ?_
  obtain ⟨g', h', tk, rfl, G, r⟩ := h
  exact k v g' h' tk G (S.grow G) r
theorem Evs.nil : Evs c n env σ [] [] := ⟨fun _ _ _ g _ _ s _ _ S => spliced_nil ⟨g, s.heap, s.toks, rfl, Grow.refl S.kg, .nil⟩⟩
theorem Evs.cons {e : Expr} {es : List Expr} {d : D} {ds : List D} (x : Ev c n env σ e d) (y : Evs c n env σ es ds) (he : starEach (e :: es) env = (false, eval e env) :: starEach es env := by rfl) : Evs c n env σ (e :: es) (d :: ds) := by
  constructor
  intro A g₀ b g m ow s pos R S
  rw [he]
  refine spliced_cons (x.use R S fun u g1 h1 t1 G1 S1 r1 => y.use R S1 fun vs g2 h2 t2 G2 S2 r2 => ?_)
  exact ⟨g2, h2, t2, rfl, G1.trans G2, .cons (r1.le G2.le) r2⟩

theorem Post.newList {ds : List D} {vs : List Value} (l : Le g s.heap) (r : Reps c g ds vs) {tk : Nat} :
    Post (fr A) c g s (.list ds) (.ref s.heap.objs.size) { s with heap := s.heap.push { cls := .type "list", data := .seq vs.toArray }, toks := tk } :=
  Post.upd l (le_push _ _) (.list ⟨_, up_get (get_size _) (Heap.get?_push_size _ rfl), rfl, rfl, _, rfl⟩ (by simpa using r.le (Grow.up (Φ := fr A) l (le_push _ _)).le))
theorem Post.newTup {ds : List D} {vs : List Value} (l : Le g s.heap) (r : Reps c g ds vs) {tk : Nat} :
    Post (fr A) c g s (.tup ds) (.ref s.heap.objs.size) { s with heap := s.heap.push { cls := .type "tuple", data := .seq vs.toArray }, toks := tk } :=
  Post.upd l (le_push _ _) (.tup ⟨_, up_get (get_size _) (Heap.get?_push_size _ rfl), rfl, _, rfl⟩ (by simpa using r.le (Grow.up (Φ := fr A) l (le_push _ _)).le))

theorem Ev.list {es : List Expr} {pos} {ds : List D} (x : Evs c n env σ es ds) (hn : ds.length ≤ sizeLine) : Ev c n env σ (.List es pos) (.list ds) := by
  constructor
  intro A g₀ b g m ow s R S
  refine List_ (x.use R S fun vs g1 h1 t1 G1 S1 r1 => wpAny_newList ?_ (by rw [← r1.length]; exact hn))
  exact Post.after (tk := t1) G1 (Post.newList (tk := t1) S1.kg r1)
theorem Ev.tup {es : List Expr} {k} {pos} {ds : List D} (x : Evs c n env σ es ds) (hn : ds.length ≤ sizeLine) : Ev c n env σ (.Tuple es k pos) (.tup ds) := by
  constructor
  intro A g₀ b g m ow s R S
  refine Tuple_ (x.use R S fun vs g1 h1 t1 G1 S1 r1 => wpAny_newTuple ?_ (by rw [← r1.length]; exact hn))
  exact Post.after (tk := t1) G1 (Post.newTup (tk := t1) S1.kg r1)
theorem sysLt {h : Heap} (w : Wf c g) (l : Le g h) : (h.objs.size == sysModules) = false := by
  obtain ⟨_, _, _, _, T⟩ := w.T
  have h3 : 3 < h.objs.size := (T.g.keeps l).lt
  exact beq_eq_false_iff_ne.mpr fun (e : h.objs.size = 1) => by omega
theorem Ev.dict0 {pos} : Ev c n env σ (.Dict [] [] pos) (.dict []) := by
  constructor
  intro A g₀ b g m ow s R S
  refine wpAny_Dict_empty ?_
  refine Post.upd (tk := s.toks) S.kg (le_push _ _) (.dict (kvs := []) ⟨_, #[], 0, up_get (get_size _) (Heap.get?_push_size _ rfl), ⟨rfl, rfl, rfl⟩, rfl, fun e he => by simp at he, .nil, .nil⟩ .nil (sysLt S.wf S.kg))

-- calls
structure Callee (c : Cx) (env : Env) (x : Str) (f : Value) : Prop where
  kind : env.kindOf x = some .globalImplicit
  found : nsIn c.K mainGlobals x = some (some f) ∨ (nsIn c.K mainGlobals x = some none ∧ bootBuiltins x = some f ∧ x ≠ "__name__")
  keep : keepIn c.K f = true ∨ (∃ id, f = .builtin id) ∨ ∃ T, f = .type T
  dbg : (x == ("__debug__" : Str)) = false

theorem Callee.eval {x : Str} {f : Value} {pos} (F : Callee c env x f) (S : StC (fr A) c g₀ b env g m ow σ s.heap) {Q : Value → Shared → Prop} {E : Value → Shared → Prop} (k : Q f s) :
    wpAny (model c.prog c.w) A (eval (.Name x pos) env) Q E s := by
  obtain ⟨_, _, mg, mb, T⟩ := S.wf.T
  rcases F.found with e | ⟨e1, e2, e3⟩
  · exact Name_function_global S.kind F.kind (loadGlobal_global (by rw [S.glob]; exact T.g.keeps S.kg) (mg_of S.wf.K T.g e) k) F.dbg
  · exact Name_function_global S.kind F.kind (loadGlobal_builtin (by rw [S.glob]; exact T.g.keeps S.kg) (mg_none_of S.wf.K T.g e1) (by rw [S.bui]; exact T.b.keeps S.kg) ((T.builtins x e3).trans e2) k) F.dbg
theorem Callee.looks {x : Str} {f : Value} (F : Callee c env x f) (h : Heap) (X : c.K.In h) : ∃ k, (k = Keeper.frame ∨ k = Keeper.machine ∨ k = Keeper.boundFrame) ∧ Looks (model c.prog c.w) h (keeperOf f) k := by
  rcases F.keep with e | ⟨id, rfl⟩ | ⟨T, rfl⟩
  · obtain ⟨k, a, b⟩ := looks_keep (M := model c.prog c.w) e X
    exact ⟨k, a.elim .inl (fun e => .inr (.inl e)), b⟩
  · exact ⟨.machine, .inr (.inl rfl), Looks.of_pure rfl⟩
  · exact ⟨.machine, .inr (.inl rfl), Looks.of_pure rfl⟩
theorem Ev.call {x : Str} {f : Value} {e : Expr} {es : List Expr} {p pos} {ds : List D} {d : D} (F : Callee c env x f) (a : Evs c n env σ (e :: es) ds) (q : Prim c n ds (fun vs => PySem.call f vs) d)
    (he : starEach (e :: es) env = (false, PySem.eval e env) :: starEach es env := by rfl) (hplain : (starEach es env).any (·.1) = false := by rfl) : Ev c n env σ (.Call (.Name x p) (e :: es) [] pos) d := by
  constructor
  intro A g₀ b g m ow s R S
  refine Call_ (F.eval S ?_)
  have hp : ∀ l : List (Bool × Sem Value), (backTo pos l).any (·.1) = l.any (·.1) := fun l => by
    induction l with
    | nil => rfl
    | cons a r ih => show (a.1 || (backTo pos r).any (·.1)) = _; rw [ih]; rfl
  refine callWith_of (P := fun h => c.K.In h) ?_ F.looks ?_
  · rw [hp, he]
    simp [hplain]
  · have h : wpAny (model c.prog c.w) A (spliced (backTo pos (starEach (e :: es) env))) (fun vs s' => c.K.In s'.heap ∧ wpAny (model c.prog c.w) A (PySem.call f ([] ++ vs) []) (Post (fr A) c g s d) Noth s') Noth s := by
      refine a.use R S fun vs g1 h1 t1 G1 S1 r1 => ⟨S1.wf.K.keeps S1.kg, ?_⟩
      exact noth (q A g1 _ vs R S1.top S1.wf r1) fun _ _ z => Post.after G1 z
    rw [he] at h ⊢
    exact evalArgs_plain h
end
end Mine

end
section
open PySem PySem.W PySem.Calls PyProof.Rows
set_option Elab.async false
set_option linter.unusedVariables false
namespace Mine
section
variable {c : Cx} {n : Nat} {A : Around} {g₀ b g : Heap} {env : Env} {m : Str → Option Value} {ow : List Addr} {σ : Sto} {s : Shared} {d : D} {v : Value}
theorem prim1 {t : Value → Sem Value} {d f : D}
    (h : ∀ A g s u, Room A n → Le g s.heap → Wf c g → Rep c g d u → wpAny (model c.prog c.w) A (t u) (Post (fr A) c g s f) Noth s) : Prim c n [d] (one t) f := by
  intro A g s vs R l w r
  obtain ⟨u, rfl, x⟩ := r.of1
  exact h A g s u R l.le w x
theorem cal1 {f : Value} {d e : D}
    (h : ∀ A g s u, Room A n → Le g s.heap → Wf c g → Rep c g d u → wpAny (model c.prog c.w) A (PySem.call f [u]) (Post (fr A) c g s e) Noth s) : Prim c n [d] (fun vs => PySem.call f vs) e := by
  intro A g s vs R l w r
  obtain ⟨u, rfl, x⟩ := r.of1
  exact h A g s u R l.le w x
theorem cal2 {f : Value} {d d' e : D}
    (h : ∀ A g s u v, Room A n → Le g s.heap → Wf c g → Rep c g d u → Rep c g d' v → wpAny (model c.prog c.w) A (PySem.call f [u, v]) (Post (fr A) c g s e) Noth s) : Prim c n [d, d'] (fun vs => PySem.call f vs) e := by
  intro A g s vs R l w r
  obtain ⟨u, v, rfl, x, y⟩ := r.of2
  exact h A g s u v R l.le w x y
theorem type_str {x : Str} : Prim c n [.str x] (fun vs => PySem.call (.type "type") vs) (.raw (.type "str")) := by
  refine cal1 fun A g s u R l w r => ?_
  cases r
  refine wpAny_call (codeAny_of_tree ?_)
  show wpAny _ _ (callAny (.type "type") ⟨_, []⟩) _ _ _
  simp only [callAny]
  refine wpAny_pure ⟨Code.quiet_builtin _ (by decide +kernel), codeAny_builtin F.entry_type_call ?_⟩
  unfold Builtin.«type.__call__»
  dsimp only
  unfold shownTypeOf
  repeat wp_step
  exact Post.same (tk := s.toks) l (.raw _)
theorem isi_str_bytes {x : Str} : Prim c n [.str x, .raw (.type "bytes")] (fun vs => PySem.call (.builtin "isinstance") vs) (.bool false) := by
  refine cal2 fun A g s u v R l w r r' => ?_
  cases r
  cases r'
  exact PySem.IsiPair.str_bytes (Post.same l (.bool _))
theorem len_D {d : D} {k : Nat} (h : match d with | .list ds => ds.length = k | _ => False) (hk : k ≤ sizeLine) : Prim c n [d] (fun vs => PySem.call (.builtin "len") vs) (.int k) := by
  refine cal1 fun A g s u R l w r => ?_
  have z := sizeLine_eq
  cases r with
  | list a q =>
    have e := q.length
    simp only [Array.length_toList] at e
    simp only at h
    refine call_len_list (isList_le l a) (by omega) ?_
    rw [← e, h]
    exact Post.same l (.int _ _)
  | _ => cases h
theorem len_s {x : Str} (hk : x.length ≤ sizeLine) : Prim c n [.str x] (fun vs => PySem.call (.builtin "len") vs) (.int x.length) := by
  refine cal1 fun A g s u R l w r => ?_
  have z := sizeLine_eq
  cases r
  exact PySem.P.len_str (by omega) (Post.same l (.int _ _))
theorem kind_isn : builtinKind "issubclass.nested" = none := by decide +kernel
theorem plain_isn : plainId "issubclass.nested" = true := by decide +kernel
theorem args_isn (a b c : Value) : argsOk "issubclass.nested" ⟨[a, b, c], []⟩ := by unfold argsOk; kernel_rfl
theorem code_fn {w : World} {prog : Program} {id : String} {b : Builtin} {args : List Value} {R : Result → Shared → Prop} (hk : builtinKind id = none) (hp : plainId id = true)
    (hb : entryFor table id = some b) (ha : argsOk id ⟨args, []⟩)
    (hc : wpAny (model prog w) A.in1 (b ⟨args, []⟩) (fun fin s' => match fin with | .done f => R (.ok f) s' | .again c' => c'.quiet = true ∧ codeAny (model prog w) A c' R s') (fun e s' => R (.error e) s') s) :
    codeAny (model prog w) A (.call (.builtin id) ⟨args, []⟩) R s := by
  refine codeAny_call_builtin hp hb ?_
  simp only [checkBuiltinCall, hk]
  unfold argsOk at ha
  split
  · rename_i sig hsig
    rw [hsig] at ha
    exact wpAny_of_eq ha hc
  · exact wpAny_pure hc
theorem code_isn {w : World} {prog : Program} {R : Result → Shared → Prop} {k : Int} {t : Tok} (h : R (.ok (.ret (.bool true))) s) :
    codeAny (model prog w) A (.call (.builtin "issubclass.nested") ⟨[.type "str", .type "str", .int k t], []⟩) R s := by
  refine code_fn kind_isn plain_isn F.entry_issubclass_nested (args_isn _ _ _) ?_
  unfold Builtin.«issubclass.nested»
  have f1 : isSubtype (.type "str") (.type "str") = pure true := by rw [isSubtype_type]; kernel_rfl
  have hty : typeOf (.type "str") = pure (.type "type") := F.isi_meta_str
  repeat (any_goals (first | assumption | (rw [if_pos hty]) | (rw [f1]) | wp_step))
theorem issub_str {T : Value} : Prim c n [.raw (.type "str"), .tup [.raw (.type "str"), .raw T]] (fun vs => PySem.call (.builtin "issubclass") vs) (.bool true) := by
  refine cal2 fun A g s u v R l w r r' => ?_
  cases r
  cases r' with
  | tup a q =>
    rename_i p items
    obtain ⟨v1, v2, e, r1, r2⟩ := q.of2
    cases r1
    cases r2
    obtain ⟨⟨cls, dd, data, sl⟩, ho, hc, k, hd⟩ := a.keeps l
    simp only at hc hd
    subst hc hd
    obtain ⟨li⟩ := items
    simp only at e
    subst e
    have hT : s.TypeIs (.ref p) "tuple" := ⟨_, ho, rfl⟩
    refine call_function_any F.kind_issubclass F.plain_issubclass F.entry_issubclass (F.args_issubclass_2 _ _) ?_
    refine issubclass_outer ?_
    unfold Builtin.«issubclass.nested» Builtin.Builtins.unionMembers
    have f1 : isSubtype (.type "tuple") (.type "tuple") = pure true := F.isi_sub_tuple
    repeat (any_goals (first | assumption | wp_step))
    repeat (any_goals (first | assumption | wp_step))
    refine code_isn ?_
    dsimp only
    repeat (any_goals (first | assumption | wp_step))
    exact Post.same (tk := s.toks) l (.bool _)

noncomputable def chars (x : Str) : List D := x.cps.toList.map fun k => D.str ⟨#[k]⟩
theorem items_chars {h : Heap} {x : Str} {items : Array Value} (I : ItemsOf (SignAt x) items x.cps.size) : Reps c h (chars x) items.toList := by
  have key : ∀ (l : List Nat) (vs : List Value), vs.length = l.length → (∀ (j : Nat) (v : Value), vs[j]? = some v → ∃ (k : Nat) (u : Tok), l[j]? = some k ∧ v = Value.str ⟨#[k]⟩ u) → Reps c h (l.map fun k => D.str ⟨#[k]⟩) vs := by
    intro l
    induction l with
    | nil => intro vs e _; cases vs with | nil => exact .nil | cons _ _ => simp at e
    | cons k r ih =>
      intro vs e H
      cases vs with
      | nil => simp at e
      | cons v q =>
        obtain ⟨k', u, e1, e2⟩ := H 0 v rfl
        simp only [List.getElem?_cons_zero, Option.some.injEq] at e1
        subst e1 e2
        exact .cons (.str _ _) (ih q (by simpa using e) fun j v hj => by simpa using H (j + 1) v (by simpa using hj))
  refine key _ _ (by simpa using I.1) fun j v hj => ?_
  obtain ⟨k, u, e1, e2⟩ := I.2 j v (by simpa using hj)
  exact ⟨k, u, by simpa using e1, e2⟩
theorem list_of_str {x : Str} (hx : x.length ≤ sizeLine) : Prim c n [.str x] (fun vs => PySem.call (.type "list") vs) (.list (chars x)) := by
  refine cal1 fun A g s u R l w r => ?_
  cases r
  refine call_list_str R.hh _ _ (fun h' tk acc' c' hk hS I => ?_) hx
  exact Post.upd l hk (.list ⟨_, up_get (get_size _) hS, rfl, rfl, _, rfl⟩ (items_chars I))

-- methods of a text
noncomputable def Fin' (Φ : Addr → Prop) (c : Cx) (d : D) (s₁ : Shared) (Q : Value → Shared → Prop) : Prop := ∀ v s', (∀ g, Le g s₁.heap → Post Φ c g s₁ d v s') → Q v s'
theorem Ev.meth1 {o e : Expr} {name : Str} {apos pos : Pos} {x y : Str} {d : D} (hx : Ev c n env σ o (.str x)) (hy : Ev c n env σ e (.str y))
    (hm : ∀ (A : Around) (s : Shared) (t : Tok) (a : Sem Value) (pos : Pos) (Q : Value → Shared → Prop), Room A n →
      wpAny (model c.prog c.w) A a (fun v s₁ => ∃ u, v = .str y u ∧ Fin' (fr A) c d s₁ Q) Noth s → MethodOnS c.prog c.w A Noth name (.str x t) pos [(false, a)] Q s)
    (hbase : attributeBase o name env (PySem.eval o env) = PySem.eval o env := by rfl) (hline : (apos.endLine == pos.line) = true := by rfl)
    (he : starEach [e] env = [(false, PySem.eval e env)] := by rfl) : Ev c n env σ (.Call (.Attribute o name apos) [e] [] pos) d := by
  constructor
  intro A g₀ b g m ow s R S
  have hb : backTo pos (starEach [e] env) = [(false, PySem.eval e env)] := by rw [he]; rfl
  refine wpAny_Call_method_lateS hbase (by rw [hb]; rfl) hline (hx.use R S fun v g1 h1 t1 G1 S1 r1 => ?_)
  cases r1
  rw [hb]
  refine hm A _ _ _ pos _ R (hy.use R S1 fun v g2 h2 t2 G2 S2 r2 => ?_)
  cases r2
  exact ⟨_, rfl, fun v'' s'' hq => Post.after G1 (Post.after G2 (hq g2 S2.kg))⟩
theorem Ev.startswith {o e : Expr} {apos pos : Pos} {x y : Str} (hx : Ev c n env σ o (.str x)) (hy : Ev c n env σ e (.str y))
    (hbase : attributeBase o (Str.ofString "startswith") env (PySem.eval o env) = PySem.eval o env := by rfl) (hline : (apos.endLine == pos.line) = true := by rfl)
    (he : starEach [e] env = [(false, PySem.eval e env)] := by rfl) : Ev c n env σ (.Call (.Attribute o (Str.ofString "startswith") apos) [e] [] pos) (.bool (Txt.startswith x y)) :=
  Ev.meth1 hx hy (fun A s t a pos Q R h => PySem.SB.startswith (wpAny_mono h (fun v s₁ ⟨u, e, q⟩ => ⟨y, u, e, q _ _ fun g l => Post.same (tk := s₁.toks) l (.bool _)⟩) fun _ _ f => f.elim)) hbase hline he
theorem Ev.endswith {o e : Expr} {apos pos : Pos} {x y : Str} (hx : Ev c n env σ o (.str x)) (hy : Ev c n env σ e (.str y))
    (hbase : attributeBase o (Str.ofString "endswith") env (PySem.eval o env) = PySem.eval o env := by rfl) (hline : (apos.endLine == pos.line) = true := by rfl)
    (he : starEach [e] env = [(false, PySem.eval e env)] := by rfl) : Ev c n env σ (.Call (.Attribute o (Str.ofString "endswith") apos) [e] [] pos) (.bool (Txt.endswith x y)) :=
  Ev.meth1 hx hy (fun A s t a pos Q R h => PySem.SB.endswith (wpAny_mono h (fun v s₁ ⟨u, e, q⟩ => ⟨y, u, e, q _ _ fun g l => Post.same (tk := s₁.toks) l (.bool _)⟩) fun _ _ f => f.elim)) hbase hline he
theorem Ev.rfind {o e : Expr} {apos pos : Pos} {x y : Str} (hx : Ev c n env σ o (.str x)) (hy : Ev c n env σ e (.str y))
    (hbase : attributeBase o (Str.ofString "rfind") env (PySem.eval o env) = PySem.eval o env := by rfl) (hline : (apos.endLine == pos.line) = true := by rfl)
    (he : starEach [e] env = [(false, PySem.eval e env)] := by rfl) : Ev c n env σ (.Call (.Attribute o (Str.ofString "rfind") apos) [e] [] pos) (.int (Txt.rfind x y)) :=
  Ev.meth1 hx hy (fun A s t a pos Q R h => PySem.SB.rfind (wpAny_mono h (fun v s₁ ⟨u, e, q⟩ => ⟨y, u, e, q _ _ fun g l => Post.same l (.int _ _)⟩) fun _ _ f => f.elim)) hbase hline he
theorem Ev.rstrip {o e : Expr} {apos pos : Pos} {x y : Str} (hx : Ev c n env σ o (.str x)) (hy : Ev c n env σ e (.str y)) (hs : x.length ≤ sizeLine)
    (hbase : attributeBase o (Str.ofString "rstrip") env (PySem.eval o env) = PySem.eval o env := by rfl) (hline : (apos.endLine == pos.line) = true := by rfl)
    (he : starEach [e] env = [(false, PySem.eval e env)] := by rfl) : Ev c n env σ (.Call (.Attribute o (Str.ofString "rstrip") apos) [e] [] pos) (.str (Txt.rstripChars x y)) :=
  Ev.meth1 hx hy (fun A s t a pos Q R h => PySem.SB.rstripChars (wpAny_mono h (fun v s₁ ⟨u, e, q⟩ => ⟨y, u, e, fun t' k => q _ _ fun g l => Post.same l (.str _ _)⟩) fun _ _ f => f.elim) hs) hbase hline he
theorem reps_strs {h : Heap} : ∀ (l : List (Str × Tok)), Reps c h (sL (l.map (·.1))) (strValues l)
  | [] => .nil
  | (x, t) :: r => .cons (.str x t) (reps_strs r)
theorem Post.strsList {l : List (Str × Tok)} {xs : List Str} {s₁ : Shared} {g : Heap} (e : l.map (·.1) = xs) (k : Le g s₁.heap) {tk : Nat} :
    Post (fr A) c g s₁ (.list (sL xs)) (.ref s₁.heap.objs.size) { s₁ with heap := s₁.heap.push { cls := .type "list", data := .seq (strValues l).toArray }, toks := tk } :=
  Post.newList k (e ▸ reps_strs l)
theorem Ev.split {o e : Expr} {apos pos : Pos} {x y : Str} (hx : Ev c n env σ o (.str x)) (hy : Ev c n env σ e (.str y)) (hs : x.length ≤ sizeLine) (hne : (y.length == 0) = false)
    (hp : (Builtin.Str.partsBetween x (Builtin.Str.occurrences x y 0 x.length (x.length + 1)) y.length).length ≤ sizeLine)
    (hbase : attributeBase o (Str.ofString "split") env (PySem.eval o env) = PySem.eval o env := by rfl) (hline : (apos.endLine == pos.line) = true := by rfl)
    (he : starEach [e] env = [(false, PySem.eval e env)] := by rfl) : Ev c n env σ (.Call (.Attribute o (Str.ofString "split") apos) [e] [] pos) (.list (sL (Txt.split x y))) := by
  refine Ev.meth1 hx hy (fun A s t a pos Q R h => ?_) hbase hline he
  refine ⟨"str", _, F.plainAttrs_str, F.slot_str_split, F.type_str_split, typeIs_str _ _ _, (fun _ e => nomatch e),
    method1_meets F.slot_str_split F.entry_str_split (wpAny_mono h (fun v s₁ h₁ => ?_) fun _ _ f => f.elim)⟩
  obtain ⟨u, rfl, q⟩ := h₁
  refine ⟨typeIs_str _ _ _, F.args_str_split_2 _ _, ?_⟩
  cases h1 : (decide (x.length < y.length) || decide (Builtin.Str.strKind x < Builtin.Str.strKind y))
  · cases hf : (Builtin.Str.occurrences x y 0 x.length (x.length + 1)).isEmpty
    · refine ⟨_, meets_str_split_sep x y t u h1 hne hf hs hp, ?_⟩
      refine q _ _ fun g l => ?_
      rw [strsFrom_eq]
      exact Post.strsList ((numbered_texts _ _).trans ((if_neg (ne_true_of_eq_false h1)).trans (if_neg (ne_true_of_eq_false hf))).symm) l
    · exact ⟨_, meets_str_split_not_found x y t u h1 hne hf, q _ _ fun g l => Post.strsList (l := [(x, t)]) (tk := s₁.toks) ((if_neg (ne_true_of_eq_false h1)).trans (if_pos hf)).symm l⟩
  · exact ⟨_, meets_str_split_cannot_occur x y t u h1, q _ _ fun g l => Post.strsList (l := [(x, t)]) (tk := s₁.toks) (if_pos h1).symm l⟩
theorem reps_values {h : Heap} : ∀ {xs : List Str} {vs : List Value}, Reps c h (sL xs) vs → ∃ l : List (Str × Tok), vs = strValues l ∧ l.map (·.1) = xs
  | [], _, .nil => ⟨[], rfl, rfl⟩
  | _ :: _, _, .cons (.str x t) r => by
    obtain ⟨l, e, e'⟩ := reps_values r
    exact ⟨(x, t) :: l, by rw [e]; rfl, by rw [List.map_cons, e']⟩
theorem Ev.join {o e : Expr} {apos pos : Pos} {x : Str} {xs : List Str} (hx : Ev c n env σ o (.str x)) (hy : Ev c n env σ e (.list (sL xs))) (hok : JoinOk x xs = true)
    (hbase : attributeBase o (Str.ofString "join") env (PySem.eval o env) = PySem.eval o env := by rfl) (hline : (apos.endLine == pos.line) = true := by rfl)
    (he : starEach [e] env = [(false, PySem.eval e env)] := by rfl) : Ev c n env σ (.Call (.Attribute o (Str.ofString "join") apos) [e] [] pos) (.str (Txt.join x xs)) := by
  constructor
  intro A g₀ b g m ow s R S
  have hb : backTo pos (starEach [e] env) = [(false, PySem.eval e env)] := by rw [he]; rfl
  refine wpAny_Call_method_lateS hbase (by rw [hb]; rfl) hline (hx.use R S fun v g1 h1 t1 G1 S1 r1 => ?_)
  cases r1
  rw [hb]
  refine ⟨"str", _, F.plainAttrs_str, F.slot_str_join, F.type_str_join, typeIs_str _ _ _, (fun _ e => nomatch e), ?_⟩
  refine callWith_of (P := fun _ => True) rfl (fun h _ => ⟨.machine, .inr (.inl rfl), Looks.of_pure rfl⟩) (evalArgs_plain (spliced_cons (hy.use R S1 fun v g2 h2 t2 G2 S2 r2 => spliced_nil ⟨trivial, ?_⟩)))
  cases r2 with
  | list a q =>
    rename_i p items
    obtain ⟨l, e, e'⟩ := reps_values q
    have ha := isList_le S2.kg a
    have hi : items = (strValues l).toArray := by rw [← e]
    rw [hi] at ha
    exact PySem.SC.join ha e' hok fun t' k => Post.after G1 (Post.after (tk := t2) G2 (Post.same S2.kg (.str _ _)))
end
end Mine

end
section
open PySem PySem.W PySem.Calls PyProof.Rows
set_option Elab.async false
set_option linter.unusedVariables false
namespace Mine
section
variable {c : Cx} {n : Nat} {A : Around} {g₀ b g : Heap} {env : Env} {m : Str → Option Value} {ow : List Addr} {σ : Sto} {s : Shared} {d : D} {v : Value} {h h' : Heap} {x : Str}

theorem LeF.but {Φ : Addr → Prop} {b h h' : Heap} (x : LeF Φ b h) (k : ∀ a o, b.get? a = some o → h'.get? a = h.get? a) : LeF Φ b h' :=
  ⟨fun a o n e => (k a o e).trans (x.out a o n e), fun a o e => by
    obtain ⟨sl, e1⟩ := x.sl a o e
    exact ⟨sl, (k a o e).trans e1⟩⟩
theorem VarOk.but {m' : Str → Option Value} {y : Str} {sl : Slot} {z : Addr} (v : VarOk c env g m ow h y sl) (hm : m' y = m y) (hs : ∀ a o, a ≠ z → h.get? a = some o → h'.get? a = some o)
    (ho : ∀ p d a, sl = .own p d → m y = some (.ref a) → a ∈ ow → Shape c g h p d a → a ≠ z)
    (hc : ∀ q v, env.cells.lookup y = some q → (q ∈ ow ∨ (q ≠ env.locals ∧ q ∉ ow)) → h.IsCell q v → q ≠ z) : VarOk c env g m' ow h' y sl := by
  cases sl with
  | val d =>
    obtain ⟨v, r, q⟩ := v
    refine ⟨v, r, ?_⟩
    rcases q with ⟨a, b⟩ | ⟨a, q, e1, e2, e3, e4⟩
    · exact .inl ⟨a, by rw [hm]; exact b⟩
    · exact .inr ⟨a, q, e1, e2, e3, isCell_at e4 fun o e => hs _ _ (hc q _ e1 (.inr ⟨e2, e3⟩) e4) e⟩
  | own p d =>
    obtain ⟨hk, a, e1, e2, e3⟩ := v
    exact ⟨hk, a, by rw [hm]; exact e1, e2, e3.mono (Le.refl _) fun o e => hs _ _ (ho p d a rfl e1 e2 e3) e⟩
  | cel d =>
    obtain ⟨hk, q, v, e1, e2, e3, e4⟩ := v
    exact ⟨hk, q, v, e1, e2, isCell_at e3 fun o e => hs _ _ (hc q _ e1 (.inl e2) e3) e, e4⟩
theorem shape_cell {q : Addr} {u : Option Value} {p : Bool} {d : D} (S : Shape c g h p d q) (C : h.IsCell q u) : False := by
  obtain ⟨o, e, hd⟩ := C
  cases S with
  | list i _ _ =>
    obtain ⟨o', e', _, _, k, hd'⟩ := i
    rw [e] at e'
    cases e'
    rw [hd] at hd'
    cases hd'
  | dict i _ _ =>
    obtain ⟨o', es, ep, e', _, hd', _⟩ := i
    rw [e] at e'
    cases e'
    rw [hd] at hd'
    cases hd'

/-- the frame's own places are touched at z alone -/
theorem StC.touch {m' : Str → Option Value} {σ' : Sto} {z : Addr} (S : StC (fr A) c g₀ b env g m ow σ h) (hz : z = env.locals ∨ z ∈ ow) (hs : Heap.SameBut z h h') (hlz : (h'.get? z).isSome) (hn : h'.Ns env.locals m')
    (hv : ∀ y sl, σ'.get y = some sl → VarOk c env g m' ow h' y sl)
    (hi : ∀ x y p p' d d' a, σ'.get x = some (.own p d) → σ'.get y = some (.own p' d') → m' x = some (.ref a) → m' y = some (.ref a) → x = y) : StC (fr A) c g₀ b env g m' ow σ' h' where
  ns := hn
  kb := S.kb.but fun a o e => hs.2 a fun q => by
    subst q
    rcases hz with q | q
    · rw [q, S.bL] at e; cases e
    · rw [S.bO _ q] at e; cases e
  kg := fun a o e => by
    rw [hs.2 a fun q => ?_]
    · exact S.kg a o e
    · subst q
      rcases hz with q | q
      · rw [q, S.gL] at e; cases e
      · rw [S.gO _ q] at e; cases e
  fl := S.fl
  le₀ := S.le₀
  fr₀ := S.fr₀
  bL := S.bL
  bO := S.bO
  gL := S.gL
  gO := S.gO
  nL := S.nL
  live := fun a ha => by
    by_cases q : a = z
    · rw [q]; exact hlz
    · rw [hs.2 a q]; exact S.live a ha
  wf := S.wf
  vars := hv
  inj := hi
  kind := S.kind
  glob := S.glob
  bui := S.bui
  capp := S.capp

theorem StC.store (S : StC (fr A) c g₀ b env g m ow σ h) (hk : env.kindOf x = some .local) (r : Rep c g d v) (hn : h'.Ns env.locals (fun y => if y = x then some v else m y)) (hs : Heap.SameBut env.locals h h') :
    StC (fr A) c g₀ b env g (fun y => if y = x then some v else m y) ow (σ.put x (.val d)) h' := by
  refine S.touch (.inl rfl) hs (by obtain ⟨o, _, _, e, _⟩ := hn; rw [e]; rfl) hn (fun y sl e => ?_) fun u w p p' d1 d2 a e1 e2 e3 e4 => ?_
  · rw [Sto.get_put] at e
    by_cases hy : y = x
    · rw [if_pos hy] at e
      cases e
      subst hy
      exact ⟨v, r, .inl ⟨hk, by simp⟩⟩
    · rw [if_neg hy] at e
      exact (S.vars y sl e).but (by simp [hy]) (fun a o ha e => (hs.2 a ha).trans e) (fun p d a _ _ ha _ q => S.nL (q ▸ ha)) fun q v _ hq _ e => by
        rcases hq with hq | hq
        · exact S.nL (e ▸ hq)
        · exact hq.1 e
  · rw [Sto.get_put] at e1 e2
    have n1 : u ≠ x := fun e => by rw [if_pos e] at e1; cases e1
    have n2 : w ≠ x := fun e => by rw [if_pos e] at e2; cases e2
    rw [if_neg n1] at e1
    rw [if_neg n2] at e2
    simp only [if_neg n1] at e3
    simp only [if_neg n2] at e4
    exact S.inj u w p p' d1 d2 a e1 e2 e3 e4

theorem StC.storeCel {od : Option D} (S : StC (fr A) c g₀ b env g m ow σ h) (hx : σ.get x = some (.cel od)) {q : Addr} (hl : env.cells.lookup x = some q) (r : Rep c g d v) (hc : h'.IsCell q (some v)) (hs : Heap.SameBut q h h') :
    StC (fr A) c g₀ b env g m ow (σ.put x (.cel (some d))) h' := by
  obtain ⟨hk, q', u, e1, e2, e3, e4⟩ := S.vars x _ hx
  rw [hl] at e1
  cases e1
  have hqL : q ≠ env.locals := fun e => S.nL (e ▸ e2)
  refine S.touch (.inr e2) hs (by obtain ⟨o, e, _⟩ := hc; rw [e]; rfl) (S.ns.sameBut hs (Ne.symm hqL)) (fun y sl e => ?_) fun u w p p' d1 d2 a f1 f2 f3 f4 => ?_
  · rw [Sto.get_put] at e
    by_cases hy : y = x
    · rw [if_pos hy] at e
      cases e
      subst hy
      exact ⟨hk, q, some v, hl, e2, hc, fun d' e => by cases e; exact ⟨v, rfl, r⟩⟩
    · rw [if_neg hy] at e
      exact (S.vars y sl e).but rfl (fun a o ha e => (hs.2 a ha).trans e) (fun p d a _ _ ha sh z => shape_cell (z ▸ sh) e3) fun q' v' f hq _ z => hy (S.capp y x q (z ▸ f) hl)
  · rw [Sto.get_put] at f1 f2
    have n1 : u ≠ x := fun e => by rw [if_pos e] at f1; cases f1
    have n2 : w ≠ x := fun e => by rw [if_pos e] at f2; cases f2
    rw [if_neg n1] at f1
    rw [if_neg n2] at f2
    exact S.inj u w p p' d1 d2 a f1 f2 f3 f4

/-- an own list or dict is turned -/
theorem StC.turn {p p' : Bool} {d d' : D} {a : Addr} (S : StC (fr A) c g₀ b env g m ow σ h) (hx : σ.get x = some (.own p d)) (ha : m x = some (.ref a)) (hs : Heap.SameBut a h h') (hd : Shape c g h' p' d' a) :
    StC (fr A) c g₀ b env g m ow (σ.put x (.own p' d')) h' := by
  obtain ⟨hk, a', e1, e2, e3⟩ := S.vars x _ hx
  rw [ha] at e1
  cases e1
  have hqL : a ≠ env.locals := fun e => S.nL (e ▸ e2)
  have hlive : (h'.get? a).isSome := by
    cases hd with
    | list i _ _ => obtain ⟨o, e, _⟩ := i; rw [e]; rfl
    | dict i _ _ => obtain ⟨o, _, _, e, _⟩ := i; rw [e]; rfl
  refine S.touch (.inr e2) hs hlive (S.ns.sameBut hs (Ne.symm hqL)) (fun y sl e => ?_) fun u w q q' d1 d2 a' f1 f2 f3 f4 => ?_
  · rw [Sto.get_put] at e
    by_cases hy : y = x
    · rw [if_pos hy] at e
      cases e
      subst hy
      exact ⟨hk, a, ha, e2, hd⟩
    · rw [if_neg hy] at e
      refine (S.vars y sl e).but rfl (fun a o ha e => (hs.2 a ha).trans e) (fun p'' d'' a'' f f' _ _ z => ?_) fun q' v' f hq C z => shape_cell e3 (z ▸ C)
      subst f z
      exact hy (S.inj y x _ _ _ _ _ e hx f' ha)
  · have key : ∀ u q d1, Sto.get (σ.put x (.own p' d')) u = some (.own q d1) → ∃ q' d2, σ.get u = some (.own q' d2) := fun u q d1 f => by
      rw [Sto.get_put] at f
      by_cases hu : u = x
      · exact ⟨p, d, by rw [hu]; exact hx⟩
      · rw [if_neg hu] at f; exact ⟨q, d1, f⟩
    obtain ⟨_, _, k1⟩ := key u q d1 f1
    obtain ⟨_, _, k2⟩ := key w q' d2 f2
    exact S.inj u w _ _ _ _ a' k1 k2 f3 f4

/-- a new object of the frame's own -/
theorem StC.newOwn (S : StC (fr A) c g₀ b env g m ow σ h) (o : Obj) (hf : o.isFreed = false) : StC (fr A) c g₀ b env g m (h.objs.size :: ow) σ (h.push o) where
  ns := S.ns.push o
  kb := S.kb.le_right (le_push _ _)
  kg := S.kg.trans (le_push _ _)
  fl := S.fl
  le₀ := S.le₀
  fr₀ := S.fr₀
  bL := S.bL
  bO := fun a ha => by
    rcases List.mem_cons.mp ha with rfl | ha
    · exact S.kb.none (get_size _)
    · exact S.bO a ha
  gL := S.gL
  gO := fun a ha => by
    rcases List.mem_cons.mp ha with rfl | ha
    · cases q : g.get? h.objs.size with
      | none => rfl
      | some o' => have := S.kg _ _ q; rw [get_size] at this; cases this
    · exact S.gO a ha
  nL := fun hm => by
    rcases List.mem_cons.mp hm with e | hm
    · exact absurd S.ns.lt (e ▸ Nat.lt_irrefl _)
    · exact S.nL hm
  live := fun a ha => by
    rcases List.mem_cons.mp ha with rfl | ha
    · rw [Heap.get?_push_size _ hf]; rfl
    · obtain ⟨o', e⟩ := Option.isSome_iff_exists.mp (S.live a ha)
      rw [Heap.get?_push_of_some _ e]; rfl
  wf := S.wf
  vars := fun y sl e => by
    have v := (S.vars y sl e).grow (Φ := fr A) (Le.refl _) (LeF.of (le_push h o)) fun a ha => S.own_not ha
    cases sl with
    | val d =>
      obtain ⟨v, r, q⟩ := v
      refine ⟨v, r, q.imp id fun ⟨a, q, e1, e2, e3, e4⟩ => ⟨a, q, e1, e2, fun hm => ?_, e4⟩⟩
      rcases List.mem_cons.mp hm with z | hm
      · obtain ⟨v', r', q'⟩ := S.vars y _ e
        rcases q' with ⟨k1, k2⟩ | ⟨_, q2, f1, _, _, f4⟩
        · rcases a with a | a <;> rw [k1] at a <;> cases a
        · rw [e1] at f1; cases f1
          exact absurd f4.lt (z ▸ Nat.lt_irrefl _)
      · exact e3 hm
    | own p d => obtain ⟨hk, a, e1, e2, e3⟩ := v; exact ⟨hk, a, e1, .tail _ e2, e3⟩
    | cel d => obtain ⟨hk, q, v, e1, e2, r⟩ := v; exact ⟨hk, q, v, e1, .tail _ e2, r⟩
  inj := S.inj
  kind := S.kind
  glob := S.glob
  bui := S.bui
  capp := S.capp

theorem StC.storeOwn {p : Bool} {a : Addr} (S : StC (fr A) c g₀ b env g m ow σ h) (hk : env.kindOf x = some .local) (ha : a ∈ ow) (hfree : ∀ y p d, σ.get y = some (.own p d) → m y ≠ some (.ref a)) (hd : Shape c g h' p d a)
    (hn : h'.Ns env.locals (fun y => if y = x then some (.ref a) else m y)) (hs : Heap.SameBut env.locals h h') :
    StC (fr A) c g₀ b env g (fun y => if y = x then some (.ref a) else m y) ow (σ.put x (.own p d)) h' := by
  refine S.touch (.inl rfl) hs (by obtain ⟨o, _, _, e, _⟩ := hn; rw [e]; rfl) hn (fun y sl e => ?_) fun u w p1 p2 d1 d2 a' e1 e2 e3 e4 => ?_
  · rw [Sto.get_put] at e
    by_cases hy : y = x
    · rw [if_pos hy] at e
      cases e
      subst hy
      exact ⟨hk, a, by simp, ha, hd⟩
    · rw [if_neg hy] at e
      exact (S.vars y sl e).but (by simp [hy]) (fun a o ha e => (hs.2 a ha).trans e) (fun p d a _ _ ha _ q => S.nL (q ▸ ha)) fun q v _ hq _ e => by
        rcases hq with hq | hq
        · exact S.nL (e ▸ hq)
        · exact hq.1 e
  · rw [Sto.get_put] at e1 e2
    by_cases n1 : u = x <;> by_cases n2 : w = x
    · rw [n1, n2]
    · exfalso
      simp only [if_pos n1] at e3
      simp only [if_neg n2] at e4
      rw [if_neg n2] at e2
      cases e3
      exact hfree w _ _ e2 e4
    · exfalso
      simp only [if_neg n1] at e3
      simp only [if_pos n2] at e4
      rw [if_neg n1] at e1
      cases e4
      exact hfree u _ _ e1 e3
    · rw [if_neg n1] at e1
      rw [if_neg n2] at e2
      simp only [if_neg n1] at e3
      simp only [if_neg n2] at e4
      exact S.inj u w _ _ _ _ a' e1 e2 e3 e4

/-- less is known -/
noncomputable def Slot.le : Slot → Slot → Prop
  | t, u => u = t ∨ (∃ d, t = .cel d ∧ u = .cel none) ∨ (∃ d, t = .own true d ∧ u = .own false d)
theorem StC.weaken {σ' : Sto} (S : StC (fr A) c g₀ b env g m ow σ h) (hw : ∀ y u, σ'.get y = some u → ∃ t, σ.get y = some t ∧ t.le u) : StC (fr A) c g₀ b env g m ow σ' h :=
  { S with
    vars := fun y u e => by
      obtain ⟨t, e1, e2⟩ := hw y u e
      have v := S.vars y t e1
      rcases e2 with rfl | ⟨d, rfl, rfl⟩ | ⟨d, rfl, rfl⟩
      · exact v
      · obtain ⟨hk, q, v, e1, e2, e3, _⟩ := v
        exact ⟨hk, q, v, e1, e2, e3, fun d' e => by cases e⟩
      · obtain ⟨hk, a, e1, e2, e3⟩ := v
        refine ⟨hk, a, e1, e2, ?_⟩
        cases e3 with
        | list i q r => exact .list i (fun e => by cases e) r
        | dict i r e => exact .dict i r e
    inj := fun x y p p' d d' a e1 e2 e3 e4 => by
      have key : ∀ x p d, σ'.get x = some (.own p d) → ∃ p d, σ.get x = some (.own p d) := fun x p d e => by
        obtain ⟨t, k1, k2⟩ := hw x _ e
        rcases k2 with k2 | ⟨_, _, k2⟩ | ⟨d, k2, _⟩
        · exact ⟨p, d, by rw [k1, ← k2]⟩
        · cases k2
        · exact ⟨_, d, by rw [k1, k2]⟩
      obtain ⟨_, _, k1⟩ := key x p d e1
      obtain ⟨_, _, k2⟩ := key y p' d' e2
      exact S.inj x y _ _ _ _ a k1 k2 e3 e4 }
end
end Mine

end
section
open PySem PySem.W PySem.Calls PyProof.Rows
set_option Elab.async false
set_option linter.unusedVariables false
namespace Mine

inductive Out where
  | next (σ : Sto)
  | brk (σ : Sto)
  | ret (d : D)

noncomputable def At' (Φ : Addr → Prop) (c : Cx) (g₀ b : Heap) (env : Env) (s : Shared) (σ : Sto) (s' : Shared) : Prop :=
  ∃ h' tk g' m' ow', s' = { s with heap := h', toks := tk } ∧ StC Φ c g₀ b env g' m' ow' σ h'
noncomputable def Back (Φ : Addr → Prop) (c : Cx) (g₀ b : Heap) (s : Shared) (d : D) (v : Value) (s' : Shared) : Prop :=
  ∃ h' tk g', s' = { s with heap := h', toks := tk } ∧ LeF Φ b h' ∧ Le g₀ g' ∧ Le g' h' ∧ (∀ a o, g'.get? a = some o → g₀.get? a = some o ∨ b.get? a = none) ∧ Rep c g' d v
noncomputable def Done (Φ : Addr → Prop) (c : Cx) (g₀ b : Heap) (env : Env) (s : Shared) : Out → Flow → Shared → Prop
  | .next σ, .next, s' => At' Φ c g₀ b env s σ s'
  | .brk σ, .brk, s' => At' Φ c g₀ b env s σ s'
  | .ret d, .ret v, s' => Back Φ c g₀ b s d v s'
  | _, _, _ => False

structure Ex (c : Cx) (n : Nat) (env : Env) (σ : Sto) (ss : List Stmt) (o : Out) : Prop where
  out : ∀ A g₀ b g m ow s, Room A n → StC (fr A) c g₀ b env g m ow σ s.heap → wpAny (model c.prog c.w) A (execs ss env) (Done (fr A) c g₀ b env s o) Noth s
structure Ex1 (c : Cx) (n : Nat) (env : Env) (σ : Sto) (st : Stmt) (o : Out) : Prop where
  out : ∀ A g₀ b g m ow s, Room A n → StC (fr A) c g₀ b env g m ow σ s.heap → wpAny (model c.prog c.w) A (exec st env) (Done (fr A) c g₀ b env s o) Noth s

section
variable {c : Cx} {n : Nat} {A : Around} {g₀ b g : Heap} {env : Env} {m : Str → Option Value} {ow : List Addr} {σ σ' σ'' : Sto} {s : Shared} {d : D} {v : Value} {h h' : Heap} {x : Str} {o : Out}

theorem Done.move {h' : Heap} {tk : Nat} {f : Flow} {s' : Shared} (q : Done (fr A) c g₀ b env { s with heap := h', toks := tk } o f s') : Done (fr A) c g₀ b env s o f s' := by
  cases o <;> cases f <;> first | exact q | (obtain ⟨h'', tk'', g', m', ow', rfl, S⟩ := q; exact ⟨h'', tk'', g', m', ow', rfl, S⟩) | (obtain ⟨h'', tk'', g', rfl, S⟩ := q; exact ⟨h'', tk'', g', rfl, S⟩)

theorem Ex.nil : Ex c n env σ [] (.next σ) := ⟨fun A g₀ b g m ow s R S => wpAny_execs_nil ⟨s.heap, s.toks, g, m, ow, rfl, S⟩⟩
theorem Ex.cons {st : Stmt} {rest : List Stmt} (x : Ex1 c n env σ st (.next σ')) (y : Ex c n env σ' rest o) : Ex c n env σ (st :: rest) o := by
  constructor
  intro A g₀ b g m ow s R S
  refine wpAny_execs_cons (noth (x.out _ _ _ _ _ _ _ R S) fun f s' q => ?_)
  cases f with
  | next =>
    obtain ⟨h', tk, g', m', ow', rfl, S'⟩ := q
    exact noth (y.out _ _ _ _ _ _ _ R S') fun _ _ q => q.move
  | _ => exact q.elim
theorem Ex.stop {st : Stmt} {rest : List Stmt} (x : Ex1 c n env σ st o) (hn : ∀ σ', o ≠ .next σ') : Ex c n env σ (st :: rest) o := by
  constructor
  intro A g₀ b g m ow s R S
  refine wpAny_execs_cons (noth (x.out _ _ _ _ _ _ _ R S) fun f s' q => ?_)
  cases f with
  | next =>
    cases o with
    | next σ' => exact absurd rfl (hn σ')
    | _ => exact q.elim
  | _ => exact q
theorem Ex.one {st : Stmt} (x : Ex1 c n env σ st o) : Ex c n env σ [st] o := by
  cases o with
  | next σ' => exact Ex.cons x Ex.nil
  | _ => exact Ex.stop x (by intro _ e; cases e)
theorem Ex.weak {ss : List Stmt} {σ₁ σ₂ : Sto} (x : Ex c n env σ₂ ss o) (hw : ∀ y u, σ₂.get y = some u → ∃ t, σ₁.get y = some t ∧ t.le u) : Ex c n env σ₁ ss o :=
  ⟨fun A g₀ b g m ow s R S => x.out _ _ _ _ _ _ _ R (S.weaken hw)⟩
theorem Ex1.weak {st : Stmt} {σ₁ σ₂ : Sto} (x : Ex1 c n env σ₂ st o) (hw : ∀ y u, σ₂.get y = some u → ∃ t, σ₁.get y = some t ∧ t.le u) : Ex1 c n env σ₁ st o :=
  ⟨fun A g₀ b g m ow s R S => x.out _ _ _ _ _ _ _ R (S.weaken hw)⟩

/-- a name is given a value -/
noncomputable def Sto.setv (σ : Sto) (x : Str) (d : D) : Sto := match σ.get x with
  | some (.cel _) => σ.put x (.cel (some d))
  | _ => σ.put x (.val d)
noncomputable def Settable (env : Env) (σ : Sto) (x : Str) : Prop := env.kindOf x = some .local ∨ ∃ od, σ.get x = some (.cel od)
theorem storeName_D {Q : Unit → Shared → Prop} {E : Value → Shared → Prop} (S : StC (fr A) c g₀ b env g m ow σ s.heap) (r : Rep c g d v) (hx : Settable env σ x)
    (k : ∀ m' h' tk, StC (fr A) c g₀ b env g m' ow (σ.setv x d) h' → Q () { s with heap := h', toks := tk }) : wpAny (model c.prog c.w) A (storeName env x v) Q E s := by
  have loc : ∀ hk : env.kindOf x = some .local, σ.setv x d = σ.put x (.val d) := fun hk => by
    unfold Sto.setv
    split
    · rename_i od e
      have := (S.vars x _ e).1
      rw [hk] at this; cases this
    · rfl
  rcases hx with hk | ⟨od, e⟩
  · refine wpAny_storeName_local hk S.ns (fun h' hn hs => k _ h' (s.toks + 1) (by rw [loc hk]; exact S.store hk r hn hs)) ?_
    rw [S.kind]; rfl
  · obtain ⟨hk, q, u, e1, e2, e3, e4⟩ := S.vars x _ e
    refine wpAny_storeName_cell S.kind hk e1 e3 fun h' hc hs => k m h' s.toks ?_
    have : σ.setv x d = σ.put x (.cel (some d)) := by unfold Sto.setv; rw [e]
    rw [this]
    exact S.storeCel e e1 r hc hs

theorem Ex1.assign {e : Expr} {p pos : Pos} (x' : Ev c n env σ e d) (hx : Settable env σ x)
    (hs : swapsWith e (some (.Name x p)) pos.line env = pure false := by rfl) : Ex1 c n env σ (.Assign [.Name x p] e pos) (.next (σ.setv x d)) := by
  constructor
  intro A g₀ b g m ow s R S
  refine wpAny_Assign_Name (x'.use R S fun v g1 h1 t1 G1 S1 r1 => storeName_D S1 r1 hx fun m' h' tk S2 => ?_) hs
  exact ⟨h', tk, g1, m', ow, rfl, S2⟩
theorem Ex1.aug {e : Expr} {p pos : Pos} {op : Operator} {d₀ d₁ d₂ : D} (h0 : σ.get x = some (.val d₀)) (x' : Ev c n env σ e d₁) (q : Prim c n [d₀, d₁] (two (inplaceOp op)) d₂) (hx : Settable env σ x)
    (hc : (x == ("__classdict__" : Str)) = false := by decide) : Ex1 c n env σ (.AugAssign (.Name x p) op e pos) (.next (σ.setv x d₂)) := by
  constructor
  intro A g₀ b g m ow s R S
  refine wpAny_AugAssign_Name (loadVal S h0 (fun u ru => ?_) hc)
  refine x'.use R S fun v g1 h1 t1 G1 S1 r1 => ?_
  refine noth (q.use2 R S1.top S1.wf (ru.le G1.le) r1) fun w s' z => ?_
  obtain ⟨g2, h2, t2, rfl, G2, r2⟩ := z
  exact storeName_D (S1.grow G2) r2 hx fun m' h' tk S2 => ⟨h', tk, g2, m', ow, rfl, S2⟩
theorem Ex1.iff {t : Expr} {body orelse : List Stmt} {pos : Pos} {y : Bool} (ht : Tr c n env σ t y) (h1 : y = true → Ex c n env σ body o) (h2 : y = false → Ex c n env σ orelse o) : Ex1 c n env σ (.If t body orelse pos) o := by
  constructor
  intro A g₀ b g m ow s R S
  refine wpAny_If (ht.use R S fun g1 h1' t1 G1 S1 => ?_)
  cases y with
  | true => exact noth ((h1 rfl).out _ _ _ _ _ _ _ R S1) fun _ _ q => q.move
  | false => exact noth ((h2 rfl).out _ _ _ _ _ _ _ R S1) fun _ _ q => q.move
theorem Ex1.brk {pos : Pos} : Ex1 c n env σ (.Break pos) (.brk σ) := ⟨fun A g₀ b g m ow s R S => wpAny_Break ⟨s.heap, s.toks, g, m, ow, rfl, S⟩⟩

-- own lists and dicts
theorem Ex1.ownList {es : List Expr} {p pos lp : Pos} {ds : List D} (x' : Evs c n env σ es ds) (hk : env.kindOf x = some .local) (hn : ds.length ≤ sizeLine)
    (hs : swapsWith (.List es lp) (some (.Name x p)) pos.line env = pure false := by rfl) : Ex1 c n env σ (.Assign [.Name x p] (.List es lp) pos) (.next (σ.put x (.own true (.list ds)))) := by
  constructor
  intro A g₀ b g m ow s R S
  refine wpAny_Assign_Name (List_ (x'.use R S fun vs g1 h1 t1 G1 S1 r1 => wpAny_newList ?_ (by rw [← r1.length]; exact hn))) hs
  have S2 := S1.newOwn { cls := .type "list", data := .seq vs.toArray } rfl
  refine wpAny_storeName_local hk S2.ns (fun h' hn' hs' => ?_) (by rw [S.kind]; rfl)
  refine ⟨h', _, g1, _, _, rfl, S2.storeOwn (p := true) hk (.head _) (fun y p d e e' => ?_) (.list (items := vs.toArray) ?_ (fun _ => ?_) (by simpa using r1)) hn' hs'⟩
  · obtain ⟨_, a, e1, e2, e3⟩ := S1.vars y _ e
    rw [e'] at e1
    cases e1
    have := S1.live _ e2
    rw [get_size] at this; cases this
  · refine ⟨_, (hs'.2 _ fun q => ?_).trans (Heap.get?_push_size _ rfl), rfl, rfl, _, rfl⟩
    exact absurd S1.ns.lt (q ▸ Nat.lt_irrefl _)
  · refine ⟨_, (hs'.2 _ fun q => ?_).trans (Heap.get?_push_size _ rfl)⟩
    exact absurd S1.ns.lt (q ▸ Nat.lt_irrefl _)
theorem Ex1.ownDict {p pos lp : Pos} (hk : env.kindOf x = some .local)
    (hs : swapsWith (.Dict [] [] lp) (some (.Name x p)) pos.line env = pure false := by rfl) : Ex1 c n env σ (.Assign [.Name x p] (.Dict [] [] lp) pos) (.next (σ.put x (.own true (.dict [])))) := by
  constructor
  intro A g₀ b g m ow s R S
  refine wpAny_Assign_Name (wpAny_Dict_empty ?_) hs
  have S2 := S.newOwn { cls := .type "dict", data := .dict #[] } rfl
  refine wpAny_storeName_local hk S2.ns (fun h' hn' hs' => ?_) (by rw [S.kind]; rfl)
  refine ⟨h', _, g, _, _, rfl, S2.storeOwn (p := true) hk (.head _) (fun y p d e e' => ?_) (.dict (kvs := []) ?_ .nil (sysLt S.wf S.kg)) hn' hs'⟩
  · obtain ⟨_, a, e1, e2, e3⟩ := S.vars y _ e
    rw [e'] at e1
    cases e1
    have := S.live _ e2
    rw [get_size] at this; cases this
  · refine ⟨_, #[], 0, (hs'.2 _ fun q => ?_).trans (Heap.get?_push_size _ rfl), ⟨rfl, rfl, rfl⟩, rfl, fun e he => by simp at he, .nil, .nil⟩
    exact absurd S.ns.lt (q ▸ Nat.lt_irrefl _)

theorem loadOwn {p : Bool} {Q : Value → Shared → Prop} {E : Value → Shared → Prop} (S : StC (fr A) c g₀ b env g m ow σ s.heap) (hx : σ.get x = some (.own p d))
    (k : ∀ a, m x = some (.ref a) → a ∈ ow → Shape c g s.heap p d a → Q (.ref a) s) : wpAny (model c.prog c.w) A (loadName env x) Q E s := by
  obtain ⟨hk, a, e1, e2, e3⟩ := S.vars x _ hx
  exact wpAny_loadName_local S.kind hk S.ns e1 (k a e1 e2 e3)

theorem Ex1.append {e : Expr} {np apos pos epos : Pos} {ds : List D} (h0 : σ.get x = some (.own true (.list ds))) (x' : Ev c n env σ e d) (hn : ds.length ≤ sizeLine)
    (hdb : (x == ("__debug__" : Str)) = false := by decide)
    (hbase : attributeBase (.Name x np) (Str.ofString "append") env (PySem.eval (.Name x np) env) = PySem.eval (.Name x np) env := by rfl) (hline : (apos.endLine == pos.line) = true := by rfl)
    (he : starEach [e] env = [(false, PySem.eval e env)] := by rfl)
    (hs : swapsWith (.Call (.Attribute (.Name x np) (Str.ofString "append") apos) [e] [] pos) none epos.line env = pure false := by rfl) :
    Ex1 c n env σ (.Expr (.Call (.Attribute (.Name x np) (Str.ofString "append") apos) [e] [] pos) epos) (.next (σ.put x (.own true (.list (ds ++ [d]))))) := by
  constructor
  intro A g₀ b g m ow s R S
  have hb : backTo pos (starEach [e] env) = [(false, PySem.eval e env)] := by rw [he]; rfl
  have hi : interactive env = false := by unfold interactive; rw [S.kind]; rfl
  refine wpAny_Expr (wpAny_Call_append hbase (by rw [hb]; rfl) hline hb ?_) hi hs
  refine wpAny_Name (loadOwn S h0 fun a e1 e2 e3 => ?_) hdb
  cases e3 with
  | list il pl rs =>
    rename_i items
    obtain ⟨k, ek⟩ := pl rfl
    refine ⟨a, items, rfl, ⟨_, k, ek, rfl, rfl, rfl⟩, ?_⟩
    refine x'.use R S fun v g1 h1 t1 G1 S1 r1 => ?_
    have hl := rs.length
    simp only [Array.length_toList] at hl
    refine wpAny_list_append_plain (items := items) ⟨k, G1.keep.out _ _ (S.own_not e2) ek⟩ (fun h' hp hsb => ?_) (by rw [← hl]; exact hn)
    refine ⟨h', _, g1, m, ow, rfl, S1.turn h0 e1 hsb (.list (IsL.of_plain hp) (fun _ => hp) ?_)⟩
    rw [Array.toList_push]
    exact Reps.append (rs.le G1.le) (Reps.one r1)

theorem setItem_listD {l : Addr} {items : Array Value} {k : Int} {t : Tok} {v : Value} {prog : Program} {w : World} {Q : Unit → Shared → Prop} {E : Value → Shared → Prop} (hl : IsL s.heap l items) (h0 : 0 ≤ k) (hfit : k < 2 ^ 63) (hn : k < items.size)
    (hQ : ∀ h', IsL h' l (items.setIfInBounds k.toNat v) → Heap.SameBut l s.heap h' → Q () { s with heap := h' }) : wpAny (model prog w) A (setItem (.ref l) (.int k t) v) Q E s := by
  have hl' := hl.is
  obtain ⟨o, ho, hc, hdi, ne, hd⟩ := id hl
  unfold setItem
  with_reducible refine wpAny_holding ?_
  refine wpAny_bind (wpAny_sequenceKey hl'.typeIs (by decide) ?_)
  refine wpAny_bind (wpAny_callSpecial?_slot (name := Str.ofString "__setitem__") hl'.typeIs slot_list_setitem (wpAny_call_entry slot_list_setitem hl'.typeIs entry_list_setitem ?_ (args_list_setitem _ _ _)))
  show wpAny _ _ (Builtin.List.listSubscript? (.int k t) >>= _) _ _ s
  refine wpAny_bind (wpAny_listSubscript_int (fitsIndex_of h0 hfit) ?_)
  clear hfit
  obtain ⟨j, rfl⟩ := Int.eq_ofNat_of_zero_le h0
  have hj : j < items.size := by omega
  show wpAny _ _ ((seqItemAt l j >>= fun r => pure (r.map (j, ·))) >>= _) _ _ s
  refine wpAny_bind (wpAny_bind (wpAny_seqItemAt ho hd (wpAny_pure ?_)))
  rw [Array.getElem?_eq_getElem hj]
  show wpAny _ _ (setSeqItemAt l j v >>= _) _ _ s
  obtain ⟨n', hd'⟩ := Obj.data_mapSeq hd (·.setIfInBounds j v)
  have hfin : IsL (s.heap.update l (Obj.mapSeq (·.setIfInBounds j v))) l (items.setIfInBounds j v) :=
    ⟨_, Heap.get?_update_self _ ho (Obj.isFreed_of_seq hd'), (Obj.cls_mapSeq ..).trans hc, by
      obtain ⟨cl, dd, dt, sl⟩ := o
      simp only at hd hdi
      subst hd hdi
      rfl, n', hd'⟩
  refine wpAny_bind (wpAny_setSeqItemAt ho hd ?_)
  first
    | exact wpAny_bind (wpAny_pure (wpAny_pure ⟨.none, rfl, wpAny_pure (hQ _ hfin (Heap.SameBut.update ..))⟩))
    | exact wpAny_pure ⟨.none, rfl, wpAny_pure (hQ _ hfin (Heap.SameBut.update ..))⟩
theorem Ex1.setList {i e : Expr} {np pos spos : Pos} {ds : List D} {k : Int} {p : Bool} (h0 : σ.get x = some (.own p (.list ds))) (xe : Ev c n env σ e d) (xi : Ev c n env σ i (.int k)) (hk0 : 0 ≤ k) (hk : k < ds.length) (hn : ds.length ≤ sizeLine)
    (hdb : (x == ("__debug__" : Str)) = false := by decide)
    (hs : swapsWith e (some (.Subscript (.Name x np) i spos)) pos.line env = pure false := by rfl) :
    Ex1 c n env σ (.Assign [.Subscript (.Name x np) i spos] e pos) (.next (σ.put x (.own false (.list (ds.set k.toNat d))))) := by
  constructor
  intro A g₀ b g m ow s R S
  have z := sizeLine_eq
  refine wpAny_Assign_Subscript (xe.use R S fun v g1 h1 t1 G1 S1 r1 => ?_) hs
  refine wpAny_Name (loadOwn S1 h0 fun a e1 e2 e3 => ?_) hdb
  refine xi.use R S1 fun iv g2 h2 t2 G2 S2 r2 => ?_
  cases r2
  cases e3 with
  | list il pl rs =>
    rename_i items
    have hl := rs.length
    simp only [Array.length_toList] at hl
    refine setItem_listD (il.at fun o e => G2.keep.out _ _ (S1.own_not e2) e) hk0 (by omega) (by omega) fun h' hp hsb => ?_
    refine ⟨h', _, g2, m, ow, rfl, S2.turn h0 e1 hsb (.list hp (fun e => by cases e) ?_)⟩
    rw [Array.toList_setIfInBounds]
    exact (rs.le G2.le).set (r1.le G2.le) _
theorem Ex1.augList {i e : Expr} {np pos spos : Pos} {op : Operator} {ds : List D} {k : Int} {p : Bool} {d₀ d₁ d₂ : D} (h0 : σ.get x = some (.own p (.list ds))) (xi : Ev c n env σ i (.int k)) (hk0 : 0 ≤ k) (hk : ds[k.toNat]? = some d₀) (hn : ds.length ≤ sizeLine)
    (xe : Ev c n env σ e d₁) (q : Prim c n [d₀, d₁] (two (inplaceOp op)) d₂)
    (hdb : (x == ("__debug__" : Str)) = false := by decide)
    (hi : ∀ ov iv new, augStore i ov iv new = (do holding [new, ov, iv] (setItem ov iv new); release [new, ov, iv] []; pure .next) := by intros; rfl) :
    Ex1 c n env σ (.AugAssign (.Subscript (.Name x np) i spos) op e pos) (.next (σ.put x (.own false (.list (ds.set k.toNat d₂))))) := by
  constructor
  intro A g₀ b g m ow s R S
  have z := sizeLine_eq
  refine wpAny_AugAssign_SubscriptAny ?_ hi
  refine wpAny_Name (loadOwn S h0 fun a e1 e2 e3 => ?_) hdb
  refine xi.use R S fun iv g1 h1 t1 G1 S1 r1 => ?_
  cases r1
  cases e3 with
  | list il pl rs =>
    rename_i items
    have hl := rs.length
    simp only [Array.length_toList] at hl
    have hkl : k.toNat < ds.length := (List.getElem?_eq_some_iff.mp hk).1
    obtain ⟨v0, hv0, rv0⟩ := rs.get hk
    refine wpAny_getItem_list (il.at fun o e => G1.keep.out _ _ (S.own_not e2) e).is hk0 (by omega) (by simpa using hv0) ?_
    refine xe.use R S1 fun v g2 h2 t2 G2 S2 r2 => ?_
    refine noth (q.use2 R S2.top S2.wf ((rv0.le G1.le).le G2.le) r2) fun w s' zz => ?_
    obtain ⟨g3, h3, t3, rfl, G3, r3⟩ := zz
    refine setItem_listD (il.at fun o e => (G1.keep.trans (G2.keep.trans G3.keep)).out _ _ (S.own_not e2) e) hk0 (by omega) (by omega) fun h' hp hsb => ?_
    refine ⟨h', _, g3, m, ow, rfl, (S2.grow G3).turn h0 e1 hsb (.list hp (fun e => by cases e) ?_)⟩
    rw [Array.toList_setIfInBounds]
    exact (((rs.le G1.le).le G2.le).le G3.le).set r3 _

noncomputable def dput (l : List (Str × Str)) (k x : Str) : List (Str × Str) := if l.any (fun p => p.1 = k) then l.map (fun p => if p.1 = k then (p.1, x) else p) else l ++ [(k, x)]
theorem DV.any : ∀ {l : List (Str × Str)} {r : List (Str × Value)} (k : Str), DV l r → r.any (fun p => p.1 = k) = l.any (fun p => p.1 = k)
  | _, _, k, .nil => rfl
  | _, _, k, .cons q => by simp only [List.any_cons, DV.any k q]
theorem DV.map {k x : Str} {t : Tok} : ∀ {l : List (Str × Str)} {r : List (Str × Value)}, DV l r → DV (l.map (fun p => if p.1 = k then (p.1, x) else p)) (r.map (fun p => if p.1 = k then (p.1, .str x t) else p))
  | _, _, .nil => .nil
  | _, _, .cons (k := k') q => by
    simp only [List.map_cons]
    by_cases hk : k' = k
    · simp only [if_pos hk]; exact .cons (DV.map q)
    · simp only [if_neg hk]; exact .cons (DV.map q)
theorem DV.snoc {k x : Str} {t : Tok} : ∀ {l : List (Str × Str)} {r : List (Str × Value)}, DV l r → DV (l ++ [(k, x)]) (r ++ [(k, .str x t)])
  | _, _, .nil => .cons .nil
  | _, _, .cons q => .cons (DV.snoc q)
theorem DV.dput {k x : Str} {t : Tok} {l : List (Str × Str)} {r : List (Str × Value)} (q : DV l r) : DV (Mine.dput l k x) (PySem.stored r k (.str x t)) := by
  unfold Mine.dput PySem.stored
  rw [q.any k]
  by_cases h : l.any (fun p => p.1 = k) = true
  · rw [if_pos h, if_pos h]; exact q.map
  · rw [if_neg h, if_neg h]; exact q.snoc
theorem Ex1.setDict {i e : Expr} {np pos spos : Pos} {ds : List (Str × Str)} {k y : Str} {p : Bool} (h0 : σ.get x = some (.own p (.dict ds))) (xe : Ev c n env σ e (.str y)) (xi : Ev c n env σ i (.str k)) (hn : ds.length ≤ sizeLine)
    (hdb : (x == ("__debug__" : Str)) = false := by decide)
    (hs : swapsWith e (some (.Subscript (.Name x np) i spos)) pos.line env = pure false := by rfl) :
    Ex1 c n env σ (.Assign [.Subscript (.Name x np) i spos] e pos) (.next (σ.put x (.own p (.dict (dput ds k y))))) := by
  constructor
  intro A g₀ b g m ow s R S
  refine wpAny_Assign_Subscript (xe.use R S fun v g1 h1 t1 G1 S1 r1 => ?_) hs
  cases r1
  refine wpAny_Name (loadOwn S1 h0 fun a e1 e2 e3 => ?_) hdb
  refine xi.use R S1 fun iv g2 h2 t2 G2 S2 r2 => ?_
  cases r2
  cases e3 with
  | dict il rs hsys =>
    rename_i kvs
    refine wpAny_setItem_pairs (strKind_is _ _ _ _) (il.at fun o e => G2.keep.out _ _ (S1.own_not e2) e) (fun h' hp hsb => ?_) (by rw [← rs.length]; exact hn)
    exact ⟨h', _, g2, m, ow, rfl, S2.turn h0 e1 hsb (.dict hp rs.dput hsys)⟩

-- the own objects are let go into the frozen part: a return
noncomputable def Sto.freeze (σ : Sto) : Sto := σ.map fun p => (p.1, match p.2 with | .own _ d => .val d | u => u)
theorem Sto.get_freeze (σ : Sto) (x : Str) : σ.freeze.get x = (σ.get x).map fun u => match u with | .own _ d => .val d | u => u := by
  unfold Sto.freeze Sto.get
  induction σ with
  | nil => rfl
  | cons p r ih =>
    obtain ⟨k, u⟩ := p
    simp only [List.map_cons, List.lookup_cons]
    cases h : x == k with
    | true => rfl
    | false => exact ih
noncomputable def cellAt' (h : Heap) (a : Addr) : Bool := match h.get? a with
  | some o => match o.data with
    | .cell _ => true
    | _ => false
  | none => false
theorem StC.freeze (S : StC (fr A) c g₀ b env g m ow σ h) : ∃ g' ow', Le g g' ∧ StC (fr A) c g₀ b env g' m ow' σ.freeze h := by
  let P : Addr → Bool := fun a => (g.get? a).isSome || (ow.contains a && !cellAt' h a)
  have hP : ∀ a o, (only h P).get? a = some o → (g.get? a = some o ∨ (a ∈ ow ∧ cellAt' h a = false)) ∧ h.get? a = some o := fun a o e => by
    obtain ⟨e1, e2⟩ := only_some e
    refine ⟨?_, e2⟩
    rcases Bool.or_eq_true_iff.mp e1 with q | q
    · obtain ⟨o', q⟩ := Option.isSome_iff_exists.mp q
      rw [S.kg _ _ q] at e2
      exact .inl (e2 ▸ q)
    · rw [Bool.and_eq_true, List.contains_iff_mem, Bool.not_eq_true'] at q
      exact .inr q
  have hle : Le g (only h P) := fun a o e => by
    rw [only_get]
    have : P a = true := by simp [P, e]
    rw [if_pos this]
    exact S.kg _ _ e
  refine ⟨only h P, ow.filter fun a => cellAt' h a, hle, ?_⟩
  exact {
    ns := S.ns
    kb := S.kb
    kg := fun a o e => (hP a o e).2
    fl := fun a ha => ⟨by
      cases q : (only h P).get? a with
      | none => rfl
      | some o =>
        rcases (hP a o q).1 with z | z
        · rw [(S.fl a ha).1] at z; cases z
        · exact absurd ha (S.own_not z.1), (S.fl a ha).2⟩
    le₀ := S.le₀.trans hle
    fr₀ := fun a o e => by
      rcases (hP a o e).1 with q | q
      · exact S.fr₀ a o q
      · exact .inr (S.bO a q.1)
    bL := S.bL
    bO := fun a ha => S.bO a (List.mem_filter.mp ha).1
    gL := by
      cases q : (only h P).get? env.locals with
      | none => rfl
      | some o =>
        rcases (hP _ o q).1 with z | z
        · rw [S.gL] at z; cases z
        · exact absurd z.1 S.nL
    gO := fun a ha => by
      obtain ⟨h1, h2⟩ := List.mem_filter.mp ha
      cases q : (only h P).get? a with
      | none => rfl
      | some o =>
        rcases (hP _ o q).1 with z | z
        · rw [S.gO _ h1] at z; cases z
        · rw [z.2] at h2; cases h2
    nL := fun hm => S.nL (List.mem_filter.mp hm).1
    live := fun a ha => S.live a (List.mem_filter.mp ha).1
    wf := S.wf.le hle
    vars := fun x sl e => by
      rw [Sto.get_freeze] at e
      obtain ⟨u, e1, e2⟩ := Option.map_eq_some_iff.mp e
      have v := S.vars x u e1
      cases u with
      | val d =>
        cases e2
        obtain ⟨v, r, q⟩ := v
        refine ⟨v, r.le hle, q.imp id fun ⟨a, q, f1, f2, f3, f4⟩ => ⟨a, q, f1, f2, fun hm => f3 (List.mem_filter.mp hm).1, f4⟩⟩
      | own p d =>
        cases e2
        obtain ⟨hk, a, f1, f2, f3⟩ := v
        have hnc : cellAt' h a = false := by
          cases q : cellAt' h a with
          | false => rfl
          | true =>
            exfalso
            unfold cellAt' at q
            split at q
            · rename_i o ho
              split at q
              · rename_i u hu
                exact shape_cell f3 ⟨o, ho, hu⟩
              · cases q
            · cases q
        have hat : ∀ o, h.get? a = some o → (only h P).get? a = some o := fun o e => by
          rw [only_get]
          have : P a = true := by simp [P, f2, hnc]
          rw [if_pos this]; exact e
        refine ⟨.ref a, ?_, .inl ⟨hk, f1⟩⟩
        cases f3 with
        | list il _ rs => exact .list (il.at hat) (rs.le hle)
        | dict il rs hsys => exact .dict (il.at hat) rs hsys
      | cel d =>
        cases e2
        obtain ⟨hk, q, v, f1, f2, f3, f4⟩ := v
        refine ⟨hk, q, v, f1, List.mem_filter.mpr ⟨f2, ?_⟩, f3, fun d' e => let ⟨v', a, b⟩ := f4 d' e; ⟨v', a, b.le hle⟩⟩
        obtain ⟨o, e, hd⟩ := f3
        unfold cellAt'
        simp only [e, hd]
    inj := fun x y p p' d d' a e1 => by
      rw [Sto.get_freeze] at e1
      obtain ⟨u, f1, f2⟩ := Option.map_eq_some_iff.mp e1
      cases u <;> cases f2
    kind := S.kind
    glob := S.glob
    bui := S.bui
    capp := S.capp }
theorem Ex1.ret {e : Expr} {pos : Pos} (x : Ev c n env σ.freeze e d) : Ex1 c n env σ (.Return (some e) pos) (.ret d) := by
  constructor
  intro A g₀ b g m ow s R S
  obtain ⟨g', ow', l, S'⟩ := S.freeze
  refine wpAny_Return_some (x.use R S' fun v g1 h1 t1 G1 S1 r1 => ?_)
  exact ⟨h1, t1, g1, rfl, S1.kb, S1.le₀, S1.kg, S1.fr₀, r1⟩
end
end Mine

end
section
open PySem PySem.W PySem.Calls PyProof.Rows
set_option Elab.async false
set_option linter.unusedVariables false
namespace Mine

noncomputable def TgtOk (t : Expr) : Prop := (∃ x p, t = .Name x p) ∨ ∃ es k p, t = .Tuple es k p

/-- what an iterator hands on, one by one -/
structure Feed (c : Cx) (A : Around) (it : Value) (wr : List Addr) (g : Heap) (ds : List D) (St : Nat → Heap → Prop) (Su : Nat → Value → Heap → Prop) (TO : Expr → Prop) : Prop where
  frame : ∀ i h h', St i h → (∀ a ∈ wr, ∀ o, h.get? a = some o → h'.get? a = some o) → St i h'
  live : ∀ i h, St i h → ∀ a ∈ wr, ∃ o, h.get? a = some o ∧ ∀ v, o.data ≠ .cell v
  next : ∀ i d (s : Shared) g', ds[i]? = some d → St i s.heap → Le g g' → Le g' s.heap →
    wpAny (model c.prog c.w) A (pyNext it) (fun r s₁ => ∃ v h' tk g'', r = some v ∧ s₁ = { s with heap := h', toks := tk } ∧ Su (i + 1) v h' ∧
      (∀ a o, a ∉ wr → s.heap.get? a = some o → h'.get? a = some o) ∧ Le g' g'' ∧ (∀ a o, g''.get? a = some o → g'.get? a = some o ∨ (s.heap.get? a = none ∧ h'.get? a = some o)) ∧ Rep c g'' d v) Noth s
  lets : ∀ t i v (s : Shared), TO t → Su i v s.heap →
    wpAny (model c.prog c.w) A (letOwnedTupleGo t it v) (fun _ s' => ∃ h' tk, s' = { s with heap := h', toks := tk } ∧ St i h' ∧ ∀ a o, a ∉ wr → s.heap.get? a = some o → h'.get? a = some o) Noth s
  self : ∀ i (s : Shared) (Q : Value → Shared → Prop) (E : Value → Shared → Prop), St i s.heap → Q it s → wpAny (model c.prog c.w) A (pyIter it) Q E s
  done : ∀ (s : Shared), St ds.length s.heap → Le g s.heap →
    wpAny (model c.prog c.w) A (pyNext it) (fun r s₁ => r = none ∧ ∃ h' tk, s₁ = { s with heap := h', toks := tk } ∧ ∀ a o, a ∉ wr → s.heap.get? a = some o → h'.get? a = some o) Noth s
noncomputable abbrev Plain (c : Cx) (A : Around) (it : Value) (wr : List Addr) (g : Heap) (ds : List D) (St : Nat → Heap → Prop) : Prop := Feed c A it wr g ds St (fun i _ h => St i h) TgtOk

section
variable {c : Cx} {n : Nat} {A : Around} {g₀ b g : Heap} {env : Env} {m : Str → Option Value} {ow : List Addr} {σ σ' σ'' : Sto} {s : Shared} {d : D} {v : Value} {h h' : Heap} {x : Str} {o : Out}

theorem lets_quiet {t : Expr} (ht : TgtOk t) {I : Addr} {v : Value} {T : String} {Q : Unit → Shared → Prop} {E : Value → Shared → Prop} (hI : s.TypeIs (.ref I) T)
    (hT : (["enumerate", "zip", "dict_itemiterator", "dict_reverseitemiterator", "odict_iterator", "itertools.zip_longest", "itertools.pairwise"].contains T) = false) (hQ : Q () s) :
    wpAny (model c.prog c.w) A (letOwnedTupleGo t (.ref I) v) Q E s := by
  rcases ht with ⟨x, p, rfl⟩ | ⟨es, k, p, rfl⟩
  · exact wpAny_pure hQ
  · cases v with
    | ref a =>
      obtain ⟨⟨cls, dd, data, sl⟩, ho, hc⟩ := hI
      simp only at hc
      subst hc
      unfold letOwnedTupleGo
      refine wpAny_bind (wpAny_load ho ?_)
      dsimp only
      split
      · rename_i e2
        have e3 := Value.type.inj e2
        subst e3
        rw [hT]
        simp only [Bool.false_and, Bool.false_eq_true, if_false]
        exact wpAny_pure hQ
      · exact wpAny_pure hQ
    | _ => exact wpAny_pure hQ

theorem feed_list (hh : A.handled = none) {I l : Addr} {items : Array Value} {ds : List D} (hl : IsL g l items) (r : Reps c g ds items.toList) :
    Plain c A (.ref I) [I] g ds (fun i h => h.IsListIter I l i) where
  frame := fun i h h' st k => let ⟨o, e, r⟩ := st; ⟨o, k I (by simp) o e, r⟩
  live := fun i h st a ha => by
    rw [List.mem_singleton.mp ha]
    obtain ⟨o, e, _, hd⟩ := st
    exact ⟨o, e, fun v => by rw [hd]; intro z; cases z⟩
  next := fun i d s g' hd st l1 l2 => by
    obtain ⟨v, hv, rv⟩ := r.get hd
    refine wpAny_pyNext_list_item st (isList_le (l1.trans l2) hl) (x := v) (by simpa using hv) fun h' hit hs => ?_
    exact ⟨v, h', s.toks, g', rfl, rfl, hit, fun a o ha e => (hs.2 a (fun q => ha (by simp [q]))).trans e, Le.refl _, fun _ _ e => .inl e, rv.le l1⟩
  lets := fun t i v s ht hit => lets_quiet (T := "list_iterator") ht (by obtain ⟨o, e, hc, _⟩ := hit; exact ⟨o, e, hc⟩) (by decide +kernel) ⟨s.heap, s.toks, rfl, hit, fun _ _ _ e => e⟩
  self := fun _ _ _ _ st hQ => wpAny_pyIter_listiter st hQ
  done := fun s st l1 => by
    have e := r.length
    simp only [Array.length_toList] at e
    refine wpAny_pyNext_list_end hh st (isList_le l1 hl) (by simp [e]) fun h' he => ⟨rfl, h', s.toks, rfl, fun a o ha e => he a o (fun q => ha (by simp [q])) e⟩
theorem feed_tup (hh : A.handled = none) {I l : Addr} {items : Array Value} {ds : List D} (hl : g.IsTuple l items) (r : Reps c g ds items.toList) :
    Plain c A (.ref I) [I] g ds (fun i h => h.IsTupleIter I l i) where
  frame := fun i h h' st k => let ⟨o, e, r⟩ := st; ⟨o, k I (by simp) o e, r⟩
  live := fun i h st a ha => by
    rw [List.mem_singleton.mp ha]
    obtain ⟨o, e, _, hd⟩ := st
    exact ⟨o, e, fun v => by rw [hd]; intro z; cases z⟩
  next := fun i d s g' hd st l1 l2 => by
    obtain ⟨v, hv, rv⟩ := r.get hd
    have hT : s.heap.IsTuple l items := let ⟨o, e, r⟩ := hl; ⟨o, l2 _ _ (l1 _ _ e), r⟩
    refine wpAny_pyNext_tuple_item st hT (x := v) (by simpa using hv) fun h' hit hs => ?_
    exact ⟨v, h', s.toks, g', rfl, rfl, hit, fun a o ha e => (hs.2 a (fun q => ha (by simp [q]))).trans e, Le.refl _, fun _ _ e => .inl e, rv.le l1⟩
  lets := fun t i v s ht hit => lets_quiet (T := "tuple_iterator") ht (by obtain ⟨o, e, hc, _⟩ := hit; exact ⟨o, e, hc⟩) (by decide +kernel) ⟨s.heap, s.toks, rfl, hit, fun _ _ _ e => e⟩
  self := fun _ _ _ _ st hQ => wpAny_pyIter_tupleiter st hQ
  done := fun s st l1 => by
    have e := r.length
    simp only [Array.length_toList] at e
    have hT : s.heap.IsTuple l items := let ⟨o, e, r⟩ := hl; ⟨o, l1 _ _ e, r⟩
    refine wpAny_pyNext_tuple_end hh st hT (by simp [e]) fun h' he => ⟨rfl, h', s.toks, rfl, fun a o ha e => he a o (fun q => ha (by simp [q])) e⟩
theorem chars_get {x : Str} {i : Nat} {d : D} (h : (chars x)[i]? = some d) : ∃ k, x.cps[i]? = some k ∧ d = .str ⟨#[k]⟩ := by
  simp only [chars, List.getElem?_map, Option.map_eq_some_iff] at h
  obtain ⟨k, e, rfl⟩ := h
  exact ⟨k, by simpa using e, rfl⟩
theorem chars_len (x : Str) : (chars x).length = x.cps.size := by simp [chars]
theorem feed_ascii (hh : A.handled = none) {I : Addr} {x : Str} {tk : Tok} :
    Plain c A (.ref I) [I] g (chars x) (fun i h => h.IsStrIter I "str_ascii_iterator" x tk i) where
  frame := fun i h h' st k => let ⟨o, e, r⟩ := st; ⟨o, k I (by simp) o e, r⟩
  live := fun i h st a ha => by
    rw [List.mem_singleton.mp ha]
    obtain ⟨o, e, _, hd⟩ := st
    exact ⟨o, e, fun v => by rw [hd]; intro z; cases z⟩
  next := fun i d s g' hd st l1 l2 => by
    obtain ⟨k, hk, rfl⟩ := chars_get hd
    refine wpAny_pyNext_ascii_item st hk fun h' hit hs => ?_
    exact ⟨_, h', s.toks + 1, g', rfl, rfl, hit, fun a o ha e => (hs.2 a (fun q => ha (by simp [q]))).trans e, Le.refl _, fun _ _ e => .inl e, .str _ _⟩
  lets := fun t i v s ht hit => lets_quiet (T := "str_ascii_iterator") ht (by obtain ⟨o, e, hc, _⟩ := hit; exact ⟨o, e, hc⟩) (by decide +kernel) ⟨s.heap, s.toks, rfl, hit, fun _ _ _ e => e⟩
  self := fun _ _ _ _ st hQ => wpAny_pyIter_striter_ascii st hQ
  done := fun s st l1 => by
    refine wpAny_pyNext_ascii_end hh st (by simp [chars_len]) fun h' he => ⟨rfl, h', s.toks, rfl, fun a o ha e => he a o (fun q => ha (by simp [q])) e⟩
theorem feed_wide (hh : A.handled = none) {I : Addr} {x : Str} {tk : Tok} :
    Plain c A (.ref I) [I] g (chars x) (fun i h => h.IsStrIter I "str_iterator" x tk i) where
  frame := fun i h h' st k => let ⟨o, e, r⟩ := st; ⟨o, k I (by simp) o e, r⟩
  live := fun i h st a ha => by
    rw [List.mem_singleton.mp ha]
    obtain ⟨o, e, _, hd⟩ := st
    exact ⟨o, e, fun v => by rw [hd]; intro z; cases z⟩
  next := fun i d s g' hd st l1 l2 => by
    obtain ⟨k, hk, rfl⟩ := chars_get hd
    refine wpAny_pyNext_wide_item st hk fun h' hit hs => ?_
    exact ⟨_, h', s.toks + 1, g', rfl, rfl, hit, fun a o ha e => (hs.2 a (fun q => ha (by simp [q]))).trans e, Le.refl _, fun _ _ e => .inl e, .str _ _⟩
  lets := fun t i v s ht hit => lets_quiet (T := "str_iterator") ht (by obtain ⟨o, e, hc, _⟩ := hit; exact ⟨o, e, hc⟩) (by decide +kernel) ⟨s.heap, s.toks, rfl, hit, fun _ _ _ e => e⟩
  self := fun _ _ _ _ st hQ => wpAny_pyIter_striter_wide st hQ
  done := fun s st l1 => by
    refine wpAny_pyNext_wide_end hh st (by simp [chars_len]) fun h' he => ⟨rfl, h', s.toks, rfl, fun a o ha e => he a o (fun q => ha (by simp [q])) e⟩

noncomputable def itemsOf : D → Option (List D)
  | .list ds => some ds
  | .tup ds => some ds
  | .str x => some (chars x)
  | _ => none

/-- iter(v) for a list, a tuple, a text -/
theorem iter_D {ds : List D} (hh : A.handled = none) (l : Le g s.heap) (r : Rep c g d v) (hd : itemsOf d = some ds) :
    wpAny (model c.prog c.w) A (pyIter v) (fun it s' => ∃ o I St, it = .ref I ∧ s' = { s with heap := s.heap.push o } ∧ o.isFreed = false ∧ I = s.heap.objs.size ∧ St 0 (s.heap.push o) ∧ Plain c A (.ref I) [I] g ds St) Noth s := by
  cases r with
  | list a q =>
    cases hd
    exact wpAny_pyIter_list (isList_le l a) ⟨_, _, _, rfl, rfl, rfl, rfl, ⟨_, Heap.get?_push_size _ rfl, rfl, rfl⟩, feed_list hh a q⟩
  | tup a q =>
    cases hd
    rename_i ad items
    have hT : s.heap.IsTuple ad items := let ⟨o, e, r⟩ := a; ⟨o, l _ _ e, r⟩
    exact wpAny_pyIter_tuple hT ⟨_, _, _, rfl, rfl, rfl, rfl, ⟨_, Heap.get?_push_size _ rfl, rfl, rfl⟩, feed_tup hh a q⟩
  | str x t =>
    cases hd
    cases ha : x.cps.all (· < 128)
    · exact wpAny_pyIter_wide ha ⟨_, _, _, rfl, rfl, rfl, rfl, ⟨_, Heap.get?_push_size _ rfl, rfl, rfl⟩, feed_wide hh⟩
    · exact wpAny_pyIter_ascii ha ⟨_, _, _, rfl, rfl, rfl, rfl, ⟨_, Heap.get?_push_size _ rfl, rfl, rfl⟩, feed_ascii hh⟩
  | _ => cases hd

/-- a step that turns an iterator -/
theorem StC.wr {g' : Heap} {wr : List Addr} (S : StC (fr A) c g₀ b env g m ow σ h) (hk : ∀ a o, a ∉ wr → h.get? a = some o → h'.get? a = some o)
    (hd : ∀ a ∈ wr, a ≠ env.locals ∧ a ∉ ow ∧ b.get? a = none ∧ g.get? a = none) (hc : ∀ a ∈ wr, ∃ o, h.get? a = some o ∧ ∀ v, o.data ≠ .cell v)
    (l : Le g g') (frh : ∀ a o, g'.get? a = some o → g.get? a = some o ∨ (h.get? a = none ∧ h'.get? a = some o)) : StC (fr A) c g₀ b env g' m ow σ h' where
  ns := ns_at S.ns fun o e => hk _ _ (fun q => (hd _ q).1 rfl) e
  kb := S.kb.but fun a o e => by
    obtain ⟨o', e'⟩ := Option.isSome_iff_exists.mp (S.kb.live e)
    rw [e']
    exact hk _ _ (fun q => by rw [(hd _ q).2.2.1] at e; cases e) e'
  fl := fun a ha => ⟨by
    cases q : g'.get? a with
    | none => rfl
    | some o =>
      rcases frh a o q with z | z
      · rw [(S.fl a ha).1] at z; cases z
      · exact absurd z.1 (S.isD ha).some, (S.fl a ha).2⟩
  kg := fun a o e => by
    rcases frh a o e with e | e
    · exact hk _ _ (fun q => by rw [(hd _ q).2.2.2] at e; cases e) (S.kg a o e)
    · exact e.2
  le₀ := S.le₀.trans l
  fr₀ := fun a o e => by
    rcases frh a o e with e | e
    · exact S.fr₀ a o e
    · exact .inr (S.kb.none e.1)
  bL := S.bL
  bO := S.bO
  gL := by
    cases q : g'.get? env.locals with
    | none => rfl
    | some o =>
      obtain ⟨o', es, ep, e, _⟩ := S.ns
      rcases frh _ _ q with e' | e'
      · rw [S.gL] at e'; cases e'
      · rw [e] at e'; cases e'.1
  gO := fun a ha => by
    cases q : g'.get? a with
    | none => rfl
    | some o =>
      obtain ⟨o', e⟩ := Option.isSome_iff_exists.mp (S.live a ha)
      rcases frh _ _ q with e' | e'
      · rw [S.gO a ha] at e'; cases e'
      · rw [e] at e'; cases e'.1
  nL := S.nL
  live := fun a ha => by
    obtain ⟨o, e⟩ := Option.isSome_iff_exists.mp (S.live a ha)
    rw [hk _ _ (fun q => (hd _ q).2.1 ha) e]; rfl
  wf := S.wf.le l
  vars := fun x sl e => by
    have v := S.vars x sl e
    cases sl with
    | val d =>
      obtain ⟨v, r, q⟩ := v
      refine ⟨v, r.le l, q.imp id fun ⟨a, q, f1, f2, f3, f4⟩ => ⟨a, q, f1, f2, f3, isCell_at f4 fun o e => hk _ _ (fun z => ?_) e⟩⟩
      obtain ⟨o1, z1, z2⟩ := hc q z
      obtain ⟨o2, y1, y2⟩ := f4
      rw [z1] at y1
      cases y1
      exact z2 _ y2
    | own p d =>
      obtain ⟨hk', a, f1, f2, f3⟩ := v
      exact ⟨hk', a, f1, f2, f3.mono l fun o e => hk _ _ (fun q => (hd _ q).2.1 f2) e⟩
    | cel d =>
      obtain ⟨hk', q, v, f1, f2, f3, f4⟩ := v
      exact ⟨hk', q, v, f1, f2, isCell_at f3 fun o e => hk _ _ (fun z => (hd _ z).2.1 f2) e, fun d' e => let ⟨v', a, b⟩ := f4 d' e; ⟨v', a, b.le l⟩⟩
  inj := S.inj
  kind := S.kind
  glob := S.glob
  bui := S.bui
  capp := S.capp

/-- all that stands beside the frame's own, as it is now -/
noncomputable def aside (env : Env) (ow : List Addr) (h : Heap) : Heap := only h fun a => !(decide (a = env.locals)) && !ow.contains a
theorem aside_get {a : Addr} {o : Obj} (h1 : a ≠ env.locals) (h2 : a ∉ ow) (e : h.get? a = some o) : (aside env ow h).get? a = some o := by
  unfold aside
  rw [only_get]
  have : (!(decide (a = env.locals)) && !ow.contains a) = true := by simp [h1, h2]
  rw [if_pos this]; exact e
theorem aside_some {a : Addr} {o : Obj} (e : (aside env ow h).get? a = some o) : a ≠ env.locals ∧ a ∉ ow ∧ h.get? a = some o := by
  obtain ⟨e1, e2⟩ := only_some e
  simp only [Bool.and_eq_true, Bool.not_eq_true', decide_eq_false_iff_not, List.contains_eq_mem] at e1
  exact ⟨e1.1, e1.2, e2⟩
theorem StC.base (S : StC (fr A) c g₀ b env g m ow σ h) : StC (fr A) c g (aside env ow h) env g m ow σ h :=
  { S with
    kb := LeF.of fun a o e => (aside_some e).2.2
    fl := fun a ha => ⟨(S.fl a ha).1, by
      by_cases q : a = env.locals
      · exact .inl q
      · obtain ⟨o, es, ep, e, hd⟩ := S.isD ha
        exact .inr ⟨o, es, ep, aside_get q (fun z => S.own_not z ha) e, hd⟩⟩
    le₀ := Le.refl _
    fr₀ := fun a o e => .inl e
    bL := by
      cases q : (aside env ow h).get? env.locals with
      | none => rfl
      | some o => exact absurd rfl (aside_some q).1
    bO := fun a ha => by
      cases q : (aside env ow h).get? a with
      | none => rfl
      | some o => exact absurd ha (aside_some q).2.1 }
theorem StC.aside_none (S : StC (fr A) c g₀ b env g m ow σ h) {a : Addr} (e : (aside env ow h).get? a = none) : b.get? a = none := by
  cases q : b.get? a with
  | none => rfl
  | some o =>
    have h1 : a ≠ env.locals := fun z => by rw [z, S.bL] at q; cases q
    have h2 : a ∉ ow := fun z => by rw [S.bO a z] at q; cases q
    obtain ⟨o', q'⟩ := Option.isSome_iff_exists.mp (S.kb.live q)
    rw [aside_get h1 h2 q'] at e; cases e
theorem StC.unb (S : StC (fr A) c g₀ b env g m ow σ h) (k : LeF (fr A) (aside env ow h) h') : LeF (fr A) b h' := by
  have key : ∀ a o, b.get? a = some o → ∀ o', h.get? a = some o' → (aside env ow h).get? a = some o' := fun a o e o' e' => by
    have h1 : a ≠ env.locals := fun z => by rw [z, S.bL] at e; cases e
    have h2 : a ∉ ow := fun z => by rw [S.bO a z] at e; cases e
    exact aside_get h1 h2 e'
  refine ⟨fun a o n e => k.out a o n (key a o e _ (S.kb.out a o n e)), fun a o e => ?_⟩
  obtain ⟨sl, e1⟩ := S.kb.sl a o e
  obtain ⟨sl', e2⟩ := k.sl a _ (key a o e _ e1)
  exact ⟨sl', e2⟩
theorem StC.unbase {g' : Heap} {m' : Str → Option Value} {ow' : List Addr} (S : StC (fr A) c g₀ b env g m ow σ h) (S' : StC (fr A) c g (aside env ow h) env g' m' ow' σ' h') : StC (fr A) c g₀ b env g' m' ow' σ' h' :=
  { S' with
    kb := S.unb S'.kb
    fl := fun a ha => ⟨(S'.fl a ha).1, (S.fl a ha).2⟩
    le₀ := S.le₀.trans S'.le₀
    fr₀ := fun a o e => by
      rcases S'.fr₀ a o e with q | q
      · exact S.fr₀ a o q
      · exact .inr (S.aside_none q)
    bL := S.bL
    bO := fun a ha => S.aside_none (S'.bO a ha) }
theorem Back.unbase {s' : Shared} (S : StC (fr A) c g₀ b env g m ow σ s.heap) (q : Back (fr A) c g (aside env ow s.heap) s d v s') : Back (fr A) c g₀ b s d v s' := by
  obtain ⟨h', tk, g', rfl, k, l, l', f, r⟩ := q
  refine ⟨h', tk, g', rfl, S.unb k, S.le₀.trans l, l', fun a o e => ?_, r⟩
  · rcases f a o e with q | q
    · exact S.fr₀ a o q
    · exact .inr (S.aside_none q)

-- targets
structure Tg (c : Cx) (n : Nat) (env : Env) (σ : Sto) (t : Expr) (d : D) (σ' : Sto) : Prop where
  out : ∀ A g₀ b g m ow s v, Room A n → StC (fr A) c g₀ b env g m ow σ s.heap → Rep c g d v → wpAny (model c.prog c.w) A (assign t env v) (fun _ s' => At' (fr A) c g₀ b env s σ' s') Noth s
theorem Tg.name {p : Pos} (hx : Settable env σ x) : Tg c n env σ (.Name x p) d (σ.setv x d) := by
  constructor
  intro A g₀ b g m ow s v R S r
  exact wpAny_assign_Name (storeName_D S r hx fun m' h' tk S' => ⟨h', tk, g, m', ow, rfl, S'⟩)

/-- the items, one by one, into a list -/
theorem draw_D {ds : List D} {it : Value} {wr : List Addr} {St : Nat → Heap → Prop} (F : Plain c A it wr g ds St) :
    ∀ (k i : Nat) (s : Shared) (g' : Heap), i + k = ds.length → St i s.heap → Le g g' → Le g' s.heap → (∀ a ∈ wr, g'.get? a = none) →
      wpAny (model c.prog c.w) A (draw it k) (fun vs s' => ∃ h' tk g'', s' = { s with heap := h', toks := tk } ∧ St ds.length h' ∧ (∀ a o, a ∉ wr → s.heap.get? a = some o → h'.get? a = some o) ∧ Le g' g'' ∧ Le g'' h' ∧
        (∀ a ∈ wr, g''.get? a = none) ∧ (∀ a o, g''.get? a = some o → g'.get? a = some o ∨ (s.heap.get? a = none ∧ h'.get? a = some o)) ∧ Reps c g'' (ds.drop i) vs) Noth s
  | 0, i, s, g', e, st, l1, l2, hw => by
    unfold draw
    refine wpAny_pure ⟨s.heap, s.toks, g', rfl, by rw [← e]; exact st, fun _ _ _ e => e, Le.refl _, l2, hw, fun _ _ e => .inl e, ?_⟩
    rw [List.drop_of_length_le (by omega)]; exact .nil
  | k + 1, i, s, g', e, st, l1, l2, hw => by
    unfold draw
    have hi : i < ds.length := by omega
    refine wpAny_bind (noth (F.next i ds[i] s g' (by simp [hi]) st l1 l2) fun r s₁ h1 => ?_)
    obtain ⟨v, h', tk, g1, rfl, rfl, st1, k1, l3, f1, r1⟩ := h1
    have hw1 : ∀ a ∈ wr, g1.get? a = none := fun a ha => by
      cases q : g1.get? a with
      | none => rfl
      | some o =>
        rcases f1 a o q with z | z
        · rw [hw a ha] at z; cases z
        · obtain ⟨o', e', _⟩ := F.live i _ st a ha
          rw [e'] at z; cases z.1
    have l4 : Le g1 h' := fun a o e => by
      rcases f1 a o e with z | z
      · exact k1 a o (fun q => by rw [hw a q] at z; cases z) (l2 _ _ z)
      · exact z.2
    dsimp only
    refine wpAny_bind (wpAny_holding (noth (draw_D F k (i + 1) _ g1 (by omega) st1 (l1.trans l3) l4 hw1) fun vs s₂ h2 => ?_))
    obtain ⟨h2, tk2, g2, rfl, st2, k2, l5, l6, hw2, f2, r2⟩ := h2
    refine wpAny_pure ⟨h2, tk2, g2, rfl, st2, fun a o ha e => k2 a o ha (k1 a o ha e), l3.trans l5, l6, hw2, fun a o e => ?_, ?_⟩
    · rcases f2 a o e with z | z
      · rcases f1 a o z with y | y
        · exact .inl y
        · refine .inr ⟨y.1, l6 _ _ e⟩
      · refine .inr ⟨?_, z.2⟩
        cases q : s.heap.get? a with
        | none => rfl
        | some o' =>
          by_cases ha : a ∈ wr
          · obtain ⟨o'', e'', _⟩ := F.live _ _ st1 a ha
            rw [e''] at z; cases z.1
          · rw [k1 a o' ha q] at z; cases z.1
    · rw [List.drop_eq_getElem_cons hi]
      exact .cons (r1.le l5) r2
end
end Mine

end
section
open PySem PySem.W PySem.Calls PyProof.Rows
set_option Elab.async false
set_option linter.unusedVariables false
namespace Mine
section
variable {c : Cx} {n : Nat} {A : Around} {g₀ b g : Heap} {env : Env} {m : Str → Option Value} {ow : List Addr} {σ σ' σ'' : Sto} {s : Shared} {d : D} {v : Value} {h h' : Heap} {x : Str} {o : Out}

theorem iterable_D {ds : List D} {Q : Bool → Shared → Prop} {E : Value → Shared → Prop} (l : Le g s.heap) (r : Rep c g d v) (hd : itemsOf d = some ds) (k : Q false s) : wpAny (model c.prog c.w) A (notIterableAtAll v) Q E s := by
  unfold notIterableAtAll
  cases r with
  | list a q => exact wpAny_bind (wpAny_specialOf (isList_le l a).typeIs F.slot_list_iter.lookup (wpAny_pure k))
  | tup a q => exact wpAny_bind (wpAny_specialOf (a.keeps l).typeIs F.slot_tuple_iter.lookup (wpAny_pure k))
  | str x t => exact wpAny_bind (wpAny_specialOf (typeIs_str s x t) F.slot_str_iter.lookup (wpAny_pure k))
  | _ => cases hd

theorem unpackItems_D {ds : List D} (hh : A.handled = none) (l : Le g s.heap) (r : Rep c g d v) (hd : itemsOf d = some ds) :
    wpAny (model c.prog c.w) A (unpackItems v ds.length none) (fun vs s' => ∃ h' tk g', s' = { s with heap := h', toks := tk } ∧ Grow (fr A) g s.heap g' h' ∧ Reps c g' ds vs) Noth s := by
  unfold unpackItems
  refine wpAny_bind (iterable_D l r hd ?_)
  simp only [Bool.false_eq_true, if_false]
  refine wpAny_bind (wpAny_holding (noth (iter_D hh l r hd) fun it s₁ h1 => ?_))
  obtain ⟨o, I, St, rfl, rfl, hf, rfl, st, F⟩ := h1
  have gI : g.get? s.heap.objs.size = none := by
    cases q : g.get? s.heap.objs.size with
    | none => rfl
    | some o' => have := l _ _ q; rw [get_size] at this; cases this
  refine wpAny_bind (wpAny_holding (noth (draw_D F ds.length 0 _ g (by omega) st (Le.refl _) (l.trans (le_push _ _)) (fun a ha => by rw [List.mem_singleton.mp ha]; exact gI)) fun vs s₂ h2 => ?_))
  obtain ⟨h2, tk2, g2, rfl, st2, k2, l5, l6, hw2, f2, r2⟩ := h2
  rw [List.drop_zero] at r2
  have hlen := r2.length
  rw [if_neg (by omega)]
  refine wpAny_bind (wpAny_holding (noth (F.done _ st2 (l5.trans l6)) fun r' s₃ h3 => ?_))
  obtain ⟨rfl, h3, tk3, rfl, k3⟩ := h3
  simp only [Option.isSome_none, Bool.false_eq_true, if_false]
  refine wpAny_pure ⟨h3, tk3, g2, rfl, Grow.of (fun a o e => ?_) l5 (fun a o e => ?_) (fun a o e => ?_), r2⟩
  · have hne : a ∉ [s.heap.objs.size] := fun q => by rw [List.mem_singleton.mp q, get_size] at e; cases e
    exact k3 a o hne (k2 a o hne (Heap.get?_push_of_some _ e))
  · exact k3 a o (fun q => by rw [hw2 a q] at e; cases e) (l6 _ _ e)
  · rcases f2 a o e with z | z
    · exact .inl z
    · refine .inr ?_
      cases q : s.heap.get? a with
      | none => rfl
      | some o' =>
        have z1 := z.1
        dsimp only at z1
        rw [Heap.get?_push_of_some _ q] at z1; cases z1

structure Tgs (c : Cx) (n : Nat) (env : Env) (σ : Sto) (es : List Expr) (ds : List D) (σ' : Sto) : Prop where
  out : ∀ A g₀ b g m ow s vs, Room A n → StC (fr A) c g₀ b env g m ow σ s.heap → Reps c g ds vs → wpAny (model c.prog c.w) A (assignInOrder ((assignEach es env).map (·.2)) vs) (fun _ s' => At' (fr A) c g₀ b env s σ' s') Noth s
theorem Tgs.nil : Tgs c n env σ [] [] σ := by
  constructor
  intro A g₀ b g m ow s vs R S r
  cases r
  exact wpAny_pure ⟨s.heap, s.toks, g, m, ow, rfl, S⟩
theorem Tgs.cons {t : Expr} {es : List Expr} {ds : List D} (x : Tg c n env σ t d σ') (y : Tgs c n env σ' es ds σ'') (he : assignEach (t :: es) env = (false, PySem.assign t env) :: assignEach es env := by rfl) : Tgs c n env σ (t :: es) (d :: ds) σ'' := by
  constructor
  intro A g₀ b g m ow s vs R S r
  rw [he]
  cases r with
  | cons r1 r2 =>
    refine wpAny_assignInOrder_more (noth (x.out _ _ _ _ _ _ _ _ R S.base r1) fun _ s' h1 => ?_)
    obtain ⟨h', tk, g', m', ow', rfl, S'⟩ := h1
    refine noth (y.out _ _ _ _ _ _ _ _ R (S.unbase S') (r2.le S'.le₀)) fun _ s'' h2 => ?_
    obtain ⟨h2, tk2, g2, m2, ow2, rfl, S2⟩ := h2
    exact ⟨h2, tk2, g2, m2, ow2, rfl, S2⟩
theorem Tgs.length {es : List Expr} (hs : (assignEach es env).length = es.length) : (assignEach es env).length = es.length := hs
theorem Tg.tup {es : List Expr} {k : Nat} {p : Pos} {ds : List D} (y : Tgs c n env σ es ds σ') (hd : itemsOf d = some ds) (hl : (assignEach es env).length = ds.length := by rfl) (hst : (assignEach es env).findIdx? (·.1) = none := by rfl) :
    Tg c n env σ (.Tuple es k p) d σ' := by
  constructor
  intro A g₀ b g m ow s v R S r
  rw [arm_assign_Tuple]
  refine wpAny_bind (wpAny_standAt ?_)
  unfold unpack
  rw [hl, hst]
  refine wpAny_bind (wpAny_holding (noth (unpackItems_D R.hh S.kg r hd) fun vs s' h1 => ?_))
  obtain ⟨h', tk, g', rfl, G, rs⟩ := h1
  refine noth (y.out _ _ _ _ _ _ _ _ R (S.grow G) rs) fun _ s'' h2 => ?_
  obtain ⟨h2, tk2, g2, m2, ow2, rfl, S2⟩ := h2
  exact ⟨h2, tk2, g2, m2, ow2, rfl, S2⟩
theorem Ex1.assignTup {es : List Expr} {e : Expr} {k : Nat} {p pos : Pos} (x : Ev c n env σ e d) (y : Tg c n env σ (.Tuple es k p) d σ')
    (hs : swapsWithSole [.Tuple es k p] e pos.line env = pure false := by rfl) (hw : swappedStores [.Tuple es k p] e env = pure none := by rfl) : Ex1 c n env σ (.Assign [.Tuple es k p] e pos) (.next σ') := by
  constructor
  intro A g₀ b g m ow s R S
  refine Assign_Tuple (x.use R S fun v g1 h1 t1 G1 S1 r1 => ?_) hs hw
  refine noth (y.out _ _ _ _ _ _ _ _ R S1 r1) fun _ s'' h2 => ?_
  obtain ⟨h2, tk2, g2, m2, ow2, rfl, S2⟩ := h2
  exact ⟨h2, tk2, g2, m2, ow2, rfl, S2⟩

-- loops
theorem codeAny_forStep {R : Result → Shared → Prop} {target : Expr} {it : Value} {body orelse : List Stmt} {prog : Program} {w : World}
    (turn : wpAny (model prog w) A (pyNext it) (fun r s₁ => match r with
      | none => wpAny (model prog w) A (execs orelse env) (fun f s₃ => R (.ok f) s₃) Noth s₁
      | some v => wpAny (model prog w) A (letOwnedTupleGo target it v) (fun _ s₂ => wpAny (model prog w) A (assign target env v) (fun _ s₃ => wpAny (model prog w) A (execs body env) (fun f s₄ => match f with
          | .next | .cont => codeAny (model prog w) A (.forLoop target it body orelse env) R s₄
          | .brk => R (.ok .next) s₄
          | .ret v => R (.ok (.ret v)) s₄) Noth s₃) Noth s₂) Noth s₁) Noth s) : codeAny (model prog w) A (.forLoop target it body orelse env) R s := by
  refine codeAny_of_tree ?_
  rw [Around.under_of_weight rfl rfl]
  show wpAny _ _ ((forTurn target it body orelse env).onRaise (fun x => do noteFrame x env; theTreesLotGoes x)) _ _ s
  refine wpAny_noted ?_
  simp only [forTurn]
  refine wpAny_bind (wpAny_standAt (wpAny_bind (wpAny_onRaise (wpAny_mono turn (fun r s₁ h₁ => ?_) fun _ _ h' => h'.elim))))
  cases r with
  | none => exact wpAny_pure ⟨rfl, codeAny_block (noth h₁ fun _ _ q => q)⟩
  | some v =>
    refine wpAny_bind (noth h₁ fun _ s₂ h₂ => ?_)
    refine wpAny_bind (noth h₂ fun _ s₃ h₃ => wpAny_bind (noth h₃ fun f s₄ h₄ => ?_))
    cases f with
    | next => exact wpAny_pure ⟨rfl, h₄⟩
    | cont => exact wpAny_pure ⟨rfl, h₄⟩
    | brk => exact wpAny_pure h₄
    | ret v => exact wpAny_pure h₄

/-- what is behind a loop over what is left -/
structure Lp (c : Cx) (n : Nat) (env : Env) (t : Expr) (body orelse : List Stmt) (rem : List D) (σ : Sto) (o : Out) : Prop where
  out : ∀ (A : Around) (g₀ b g : Heap) (m : Str → Option Value) (ow : List Addr) (s : Shared) (it : Value) (wr : List Addr) (gF : Heap) (ds : List D) (i : Nat) (St : Nat → Heap → Prop) (Su : Nat → Value → Heap → Prop) (TO : Expr → Prop),
    TO t → Room A n → Feed c A it wr gF ds St Su TO → ds.drop i = rem → i ≤ ds.length → St i s.heap → Le gF g → (∀ a ∈ wr, a ≠ env.locals ∧ a ∉ ow ∧ b.get? a = none ∧ g.get? a = none) → StC (fr A) c g₀ b env g m ow σ s.heap →
    codeAny (model c.prog c.w) A (.forLoop t it body orelse env) (fun r s' => match r with | .ok f => Done (fr A) c g₀ b env s o f s' | .error _ => False) s
theorem Lp.nil {t : Expr} {body orelse : List Stmt} (x : Ex c n env σ orelse o) : Lp c n env t body orelse [] σ o := by
  constructor
  intro A g₀ b g m ow s it wr gF ds i St Su TO hTO R F hdr hi st lF hw S
  have hi' : i = ds.length := Nat.le_antisymm hi (by rw [List.drop_eq_nil_iff] at hdr; exact hdr)
  subst hi'
  refine codeAny_forStep (noth (F.done s st (lF.trans S.kg)) fun r s₁ h1 => ?_)
  obtain ⟨rfl, h', tk, rfl, k⟩ := h1
  have S' := S.wr k hw (F.live _ _ st) (Le.refl _) (fun a o e => .inl e)
  exact noth (x.out _ _ _ _ _ _ _ R S') fun f s' q => q.move
/-- the three ways through a turn -/
theorem Lp.turn {t : Expr} {body orelse : List Stmt} {rem : List D} {σ₁ : Sto} {o' : Out} (ht : TgtOk t) (a : Tg c n env σ t d σ₁) (x : Ex c n env σ₁ body o')
    (fin : (∃ σ₂ σ₃, o' = .next σ₂ ∧ (∀ y u, σ₃.get y = some u → ∃ t, σ₂.get y = some t ∧ t.le u) ∧ Lp c n env t body orelse rem σ₃ o) ∨ (∃ σ₂, o' = .brk σ₂ ∧ o = .next σ₂) ∨ ∃ r, o' = .ret r ∧ o = .ret r) :
    Lp c n env t body orelse (d :: rem) σ o := by
  constructor
  intro A g₀ b g m ow s it wr gF ds i St Su TO hTO R F hdr hi st lF hw S
  have hlt : i < ds.length := by
    rcases Nat.lt_or_ge i ds.length with q | q
    · exact q
    · rw [List.drop_of_length_le q] at hdr; cases hdr
  have hdr2 := hdr
  rw [List.drop_eq_getElem_cons hlt] at hdr2
  have hd : ds[i] = d := (List.cons.inj hdr2).1
  have hrem : ds.drop (i + 1) = rem := (List.cons.inj hdr2).2
  refine codeAny_forStep (noth (F.next i d s g (by simp [hlt, hd]) st lF S.kg) fun r s₁ h1 => ?_)
  obtain ⟨v, h1, tk1, g1, rfl, rfl, st1, k1, l1, f1, r1⟩ := h1
  dsimp only
  refine noth (F.lets t (i + 1) v _ hTO st1) fun _ s₂ h2 => ?_
  obtain ⟨h2, tk2, rfl, st2, k2⟩ := h2
  have kk : ∀ a o, a ∉ wr → s.heap.get? a = some o → h2.get? a = some o := fun a o ha e => k2 a o ha (k1 a o ha e)
  have S2 : StC (fr A) c g₀ b env g1 m ow σ h2 := S.wr kk hw (F.live _ _ st) l1 (fun a o e => by
    rcases f1 a o e with z | z
    · exact .inl z
    · refine .inr ⟨z.1, k2 a o (fun q => ?_) z.2⟩
      obtain ⟨o', e', _⟩ := F.live _ _ st a q
      rw [e'] at z; cases z.1)
  have hw2 : ∀ a ∈ wr, g1.get? a = none := fun a ha => by
    cases q : g1.get? a with
    | none => rfl
    | some o =>
      rcases f1 a o q with z | z
      · rw [(hw a ha).2.2.2] at z; cases z
      · obtain ⟨o', e', _⟩ := F.live i _ st a ha
        rw [e'] at z; cases z.1
  have hB := S2.base
  have nF : ∀ a ∈ wr, ¬ fr A a := fun a ha z => by
    rcases (S.fl a z).2 with q | q
    · exact (hw a ha).1 q
    · exact q.some (hw a ha).2.2.1
  have wrB : ∀ a ∈ wr, ∃ o, (aside env ow h2).get? a = some o ∧ h2.get? a = some o := fun a ha => by
    obtain ⟨o, e, _⟩ := F.live _ _ st2 a ha
    exact ⟨o, aside_get (hw a ha).1 (hw a ha).2.1 e, e⟩
  refine noth (a.out _ _ _ _ _ _ _ _ R hB r1) fun _ s₃ h3 => ?_
  obtain ⟨h3, tk3, g3, m3, ow3, rfl, S3⟩ := h3
  refine noth (x.out _ _ _ _ _ _ _ R S3) fun f s₄ h4 => ?_
  rcases fin with ⟨σ₂, σ₃, rfl, hwk, lp⟩ | ⟨σ₂, rfl, rfl⟩ | ⟨rr, rfl, rfl⟩
  · cases f with
    | next =>
      obtain ⟨h4, tk4, g4, m4, ow4, rfl, S4⟩ := h4
      have st4 : St (i + 1) h4 := F.frame _ _ _ st2 fun a ha o e => by
        obtain ⟨o', e1, e2⟩ := wrB a ha
        rw [e] at e2; cases e2
        exact S4.kb.out _ _ (nF a ha) e1
      have S4' := S2.unbase S4
      have hw4 : ∀ a ∈ wr, a ≠ env.locals ∧ a ∉ ow4 ∧ b.get? a = none ∧ g4.get? a = none := fun a ha => by
        obtain ⟨o', e1, e2⟩ := wrB a ha
        refine ⟨(hw a ha).1, fun q => ?_, (hw a ha).2.2.1, ?_⟩
        · have := S4.bO a q; rw [e1] at this; cases this
        · cases q : g4.get? a with
          | none => rfl
          | some o =>
            rcases S4.fr₀ a o q with z | z
            · rw [hw2 a ha] at z; cases z
            · rw [e1] at z; cases z
      have := lp.out A g₀ b g4 m4 ow4 { s with heap := h4, toks := tk4 } it wr gF ds (i + 1) St Su TO hTO R F hrem hlt st4 ((lF.trans l1).trans S4.le₀) hw4 (S4'.weaken hwk)
      exact codeAny_mono this fun r s' q => by
        cases r with
        | ok f => exact Done.move q
        | error e => exact q
    | _ => exact h4.elim
  · cases f with
    | brk =>
      obtain ⟨h4, tk4, g4, m4, ow4, rfl, S4⟩ := h4
      exact ⟨h4, tk4, g4, m4, ow4, rfl, S2.unbase S4⟩
    | _ => exact h4.elim
  · cases f with
    | ret v =>
      have q : Back (fr A) c g1 (aside env ow h2) { s with heap := h2, toks := tk2 } rr v s₄ := by
        obtain ⟨h', tk, g', rfl, a1, a2⟩ := h4
        exact ⟨h', tk, g', rfl, a1, a2⟩
      obtain ⟨h', tk, g', rfl, a1⟩ := Back.unbase (s := { s with heap := h2, toks := tk2 }) S2 q
      exact ⟨h', tk, g', rfl, a1⟩
    | _ => exact h4.elim
theorem Lp.next {t : Expr} {body orelse : List Stmt} {rem : List D} {σ₁ σ₂ σ₃ : Sto} (ht : TgtOk t) (a : Tg c n env σ t d σ₁) (x : Ex c n env σ₁ body (.next σ₂)) (hwk : ∀ y u, σ₃.get y = some u → ∃ t, σ₂.get y = some t ∧ t.le u) (lp : Lp c n env t body orelse rem σ₃ o) :
    Lp c n env t body orelse (d :: rem) σ o := Lp.turn ht a x (.inl ⟨σ₂, σ₃, rfl, hwk, lp⟩)
theorem Lp.brk {t : Expr} {body orelse : List Stmt} {rem : List D} {σ₁ σ₂ : Sto} (ht : TgtOk t) (a : Tg c n env σ t d σ₁) (x : Ex c n env σ₁ body (.brk σ₂)) : Lp c n env t body orelse (d :: rem) σ (.next σ₂) := Lp.turn ht a x (.inr (.inl ⟨σ₂, rfl, rfl⟩))
theorem Lp.ret {t : Expr} {body orelse : List Stmt} {rem : List D} {σ₁ : Sto} {r : D} (ht : TgtOk t) (a : Tg c n env σ t d σ₁) (x : Ex c n env σ₁ body (.ret r)) : Lp c n env t body orelse (d :: rem) σ (.ret r) := Lp.turn ht a x (.inr (.inr ⟨r, rfl, rfl⟩))

theorem Ex1.forIn {t iter : Expr} {body orelse : List Stmt} {pos : Pos} {ds : List D} (x : Ev c n env σ iter d) (hd : itemsOf d = some ds) (lp : Lp c n env t body orelse ds σ o) (ht : TgtOk t)
    (hs : ∀ x, foldedSetIterable iter env x = pure x := by intro _; rfl) : Ex1 c n env σ (.For t iter body orelse pos) o := by
  constructor
  intro A g₀ b g m ow s R S
  refine wpAny_For (x.use R S fun v g1 h1 t1 G1 S1 r1 => ?_) hs
  refine noth (iter_D R.hh S1.kg r1 hd) fun it s₁ q => ?_
  obtain ⟨o', I, St, rfl, rfl, hf, rfl, st, F⟩ := q
  dsimp only at st F ⊢
  have fr : ∀ h : Heap, Le h h1 → h.get? h1.objs.size = none := fun h l => by
    cases q : h.get? h1.objs.size with
    | none => rfl
    | some o => have := l _ _ q; rw [get_size] at this; cases this
  have S2 := S1.grow (g' := g1) (h' := h1.push o') (Grow.of (le_push _ _) (Le.refl _) (S1.kg.trans (le_push _ _)) fun _ _ e => .inl e)
  have := lp.out A g₀ b g1 m ow { s with heap := h1.push o', toks := t1 } _ _ g1 ds 0 St _ TgtOk ht R F List.drop_zero (Nat.zero_le _) st (Le.refl _) (fun a ha => by
    rw [List.mem_singleton.mp ha]
    refine ⟨fun e => ?_, fun e => ?_, S1.kb.none (fr h1 (Le.refl _)), fr g1 S1.kg⟩
    · have := S1.ns.lt
      rw [← e] at this
      exact absurd this (Nat.lt_irrefl _)
    · have := S1.live _ e
      rw [get_size] at this; cases this) S2
  exact codeAny_mono this fun r s' q => by
    cases r with
    | ok f => exact Done.move q
    | error e => exact q.elim

/-- while -/
structure Wh (c : Cx) (n : Nat) (env : Env) (t : Expr) (body orelse : List Stmt) (σ : Sto) (o : Out) : Prop where
  out : ∀ A g₀ b g m ow s, Room A n → StC (fr A) c g₀ b env g m ow σ s.heap →
    codeAny (model c.prog c.w) A (.whileLoop t body orelse env) (fun r s' => match r with | .ok f => Done (fr A) c g₀ b env s o f s' | .error _ => False) s
theorem codeAny_whileStep {R : Result → Shared → Prop} {test : Expr} {body orelse : List Stmt} {prog : Program} {w : World}
    (turn : wpAny (model prog w) A (isTrue test env (eval test env)) (fun b s₂ =>
        if b then wpAny (model prog w) A (execs body env) (fun f s₃ => match f with
            | .next | .cont => codeAny (model prog w) A (.whileLoop test body orelse env) R s₃
            | .brk => R (.ok .next) s₃
            | .ret v => R (.ok (.ret v)) s₃) Noth s₂
        else wpAny (model prog w) A (execs orelse env) (fun f s₃ => R (.ok f) s₃) Noth s₂) Noth s) : codeAny (model prog w) A (.whileLoop test body orelse env) R s := by
  refine codeAny_of_tree ?_
  rw [Around.under_of_weight rfl rfl]
  show wpAny _ _ ((whileTurn test body orelse env).onRaise (fun x => do noteFrame x env; theTreesLotGoes x)) _ _ s
  refine wpAny_noted ?_
  simp only [whileTurn]
  refine wpAny_bind (noth turn fun y s₂ h₂ => ?_)
  cases y with
  | false =>
    simp only [Bool.false_eq_true, if_false] at h₂ ⊢
    exact wpAny_bind (noth h₂ fun f s₃ h₃ => wpAny_pure h₃)
  | true =>
    simp only [if_true] at h₂ ⊢
    refine wpAny_bind (noth h₂ fun f s₃ h₃ => ?_)
    cases f with
    | next => exact wpAny_pure ⟨rfl, h₃⟩
    | cont => exact wpAny_pure ⟨rfl, h₃⟩
    | brk => exact wpAny_pure h₃
    | ret v => exact wpAny_pure h₃
theorem Wh.stop {t : Expr} {body orelse : List Stmt} (y : Tr c n env σ t false) (x : Ex c n env σ orelse o) : Wh c n env t body orelse σ o := by
  constructor
  intro A g₀ b g m ow s R S
  refine codeAny_whileStep (y.use R S fun g1 h1 t1 G1 S1 => ?_)
  simp only [Bool.false_eq_true, if_false]
  exact noth (x.out _ _ _ _ _ _ _ R S1) fun f s' q => q.move
theorem Wh.next {t : Expr} {body orelse : List Stmt} {σ₂ σ₃ : Sto} (y : Tr c n env σ t true) (x : Ex c n env σ body (.next σ₂)) (hwk : ∀ y u, σ₃.get y = some u → ∃ t, σ₂.get y = some t ∧ t.le u) (w : Wh c n env t body orelse σ₃ o) : Wh c n env t body orelse σ o := by
  constructor
  intro A g₀ b g m ow s R S
  refine codeAny_whileStep (y.use R S fun g1 h1 t1 G1 S1 => ?_)
  simp only [if_true]
  refine noth (x.out _ _ _ _ _ _ _ R S1) fun f s' q => ?_
  cases f with
  | next =>
    obtain ⟨h2, t2, g2, m2, ow2, rfl, S2⟩ := q
    exact codeAny_mono (w.out _ _ _ _ _ _ { s with heap := h2, toks := t2 } R (S2.weaken hwk)) fun r s' q => by
      cases r with
      | ok f => exact Done.move q
      | error e => exact q
  | _ => exact q.elim
theorem Wh.ret {t : Expr} {body orelse : List Stmt} {r : D} (y : Tr c n env σ t true) (x : Ex c n env σ body (.ret r)) : Wh c n env t body orelse σ (.ret r) := by
  constructor
  intro A g₀ b g m ow s R S
  refine codeAny_whileStep (y.use R S fun g1 h1 t1 G1 S1 => ?_)
  simp only [if_true]
  refine noth (x.out _ _ _ _ _ _ _ R S1) fun f s' q => ?_
  cases f with
  | ret v => exact q.move
  | _ => exact q.elim
theorem Ex1.whil {t : Expr} {body orelse : List Stmt} {pos : Pos} (w : Wh c n env t body orelse σ o) : Ex1 c n env σ (.While t body orelse pos) o := by
  constructor
  intro A g₀ b g m ow s R S
  exact wpAny_While (codeAny_mono (w.out _ _ _ _ _ _ _ R S) fun r s' q => by
    cases r with
    | ok f => exact q
    | error e => exact q.elim)
theorem Ex1.tryy {body orelse : List Stmt} {h₀ : ExceptHandler} {hs : List ExceptHandler} {pos : Pos} (x : Ex c n env σ body (.next σ')) (y : Ex c n env σ' orelse o) : Ex1 c n env σ (.Try body (h₀ :: hs) orelse [] pos) o := by
  constructor
  intro A g₀ b g m ow s R S
  refine wpAny_Try_except (noth (x.out _ _ _ _ _ _ _ R S) fun f s' q => ?_)
  cases f with
  | next =>
    obtain ⟨h2, t2, g2, m2, ow2, rfl, S2⟩ := q
    exact noth (y.out _ _ _ _ _ _ _ R S2) fun _ _ q => q.move
  | _ => exact q.elim
theorem Ex1.tryRet {body orelse : List Stmt} {h₀ : ExceptHandler} {hs : List ExceptHandler} {pos : Pos} {r : D} (x : Ex c n env σ body (.ret r)) : Ex1 c n env σ (.Try body (h₀ :: hs) orelse [] pos) (.ret r) := by
  constructor
  intro A g₀ b g m ow s R S
  refine wpAny_Try_except (noth (x.out _ _ _ _ _ _ _ R S) fun f s' q => ?_)
  cases f with
  | ret v => exact q
  | _ => exact q.elim
end
end Mine

end
section
open PySem PySem.W PySem.Calls PyProof.Rows
set_option Elab.async false
set_option linter.unusedVariables false
namespace Mine
section
variable {c : Cx} {n : Nat} {A : Around} {g₀ b g : Heap} {env cenv : Env} {m : Str → Option Value} {ow : List Addr} {σ σ' σ'' : Sto} {s : Shared} {d : D} {v : Value} {h h' : Heap} {x : Str} {o : Out}

noncomputable abbrev tests (ifs : List Expr) (env : Env) : Sem Bool := forIn ifs true fun c r => if r = true then do let ok ← isTrue c env (PySem.eval c env); Pure.pure (ForInStep.yield ok) else Pure.pure (ForInStep.yield r)
structure Ts (c : Cx) (n : Nat) (env : Env) (σ : Sto) (ifs : List Expr) (x : Bool) : Prop where
  out : ∀ A g₀ b g m ow s, Room A n → StC (fr A) c g₀ b env g m ow σ s.heap → wpAny (model c.prog c.w) A (tests ifs env) (PostB (fr A) g s x) Noth s
theorem Ts.nil : Ts c n env σ [] true := ⟨fun A g₀ b g m ow s R S => wpAny_tests_nil ⟨rfl, g, s.heap, s.toks, rfl, Grow.refl S.kg⟩⟩
theorem Ts.one {e : Expr} {y : Bool} (t : Tr c n env σ e y) : Ts c n env σ [e] y := ⟨fun A g₀ b g m ow s R S => wpAny_tests_one (t.out _ _ _ _ _ _ _ R S)⟩

/-- the code of one turn of a comprehension -/
structure Turns (e : Expr) (t iter : Expr) (ifs : List Expr) (emit : Addr → Env → Sem Unit) : Prop where
  turn : ∀ (it : Value) (D : Addr) (env : Env), compTurn e 0 it (.ref D) env = (standAt iter.pos >>= fun _ => pyNext it >>= fun r => match r with
      | none => Pure.pure (.done .next)
      | some v => letOwnedTupleGo t it v >>= fun _ => PySem.assign t env v >>= fun _ => tests ifs env >>= fun ok => if ok = true then emit D env >>= fun _ => again (.compLoop e 0 it (.ref D) env) else again (.compLoop e 0 it (.ref D) env))
  plain : ∀ (i : Nat) (it acc : Value) (env : Env), (Code.compLoop e i it acc env).isFrame = false
  quiet : ∀ (i : Nat) (it acc : Value) (env : Env), (Code.compLoop e i it acc env).quiet = true
  weight : ∀ (i : Nat) (it acc : Value) (env : Env), (Code.compLoop e i it acc env).weight = 0 ∧ (Code.compLoop e i it acc env).cUnits = 0

theorem codeAny_compStep {R : Result → Shared → Prop} {e t iter : Expr} {ifs : List Expr} {emit : Addr → Env → Sem Unit} {it : Value} {D : Addr} {prog : Program} {w : World} (T : Turns e t iter ifs emit)
    (turn : wpAny (model prog w) A (pyNext it) (fun r s₁ => match r with
      | none => R (.ok .next) s₁
      | some v => wpAny (model prog w) A (letOwnedTupleGo t it v) (fun _ s₂ => wpAny (model prog w) A (assign t env v) (fun _ s₃ => wpAny (model prog w) A (tests ifs env) (fun ok s₄ =>
          if ok = true then wpAny (model prog w) A (emit D env) (fun _ s₅ => codeAny (model prog w) A (.compLoop e 0 it (.ref D) env) R s₅) Noth s₄
          else codeAny (model prog w) A (.compLoop e 0 it (.ref D) env) R s₄) Noth s₃) Noth s₂) Noth s₁) Noth s) : codeAny (model prog w) A (.compLoop e 0 it (.ref D) env) R s := by
  refine codeAny_of_tree ?_
  rw [Around.under_of_weight (T.weight _ _ _ _).1 (T.weight _ _ _ _).2]
  have hd : (model prog w).den (.compLoop e 0 it (.ref D) env) = (compTurn e 0 it (.ref D) env).onRaise (fun x => do noteFrame x env; theTreesLotGoes x) := by
    show (if (Code.compLoop e 0 it (.ref D) env).isFrame then (compTurn e 0 it (.ref D) env).onRaise (leaving env) else (compTurn e 0 it (.ref D) env).onRaise (fun x => do noteFrame x env; theTreesLotGoes x)) = _
    rw [T.plain]; rfl
  rw [hd]
  refine wpAny_noted ?_
  rw [T.turn]
  refine wpAny_bind (wpAny_standAt (wpAny_bind (noth turn fun r s₁ h₁ => ?_)))
  cases r with
  | none => exact wpAny_pure h₁
  | some v =>
    refine wpAny_bind (noth h₁ fun _ s₂ h₂ => wpAny_bind (noth h₂ fun _ s₃ h₃ => wpAny_bind (noth h₃ fun ok s₄ h₄ => ?_)))
    cases ok with
    | false => exact wpAny_pure ⟨T.quiet _ _ _ _, h₄⟩
    | true => exact wpAny_bind (noth h₄ fun _ s₅ h₅ => wpAny_pure ⟨T.quiet _ _ _ _, h₅⟩)

/-- what the accumulator is -/
structure Accu (α : Type) (D : Addr) (Ac : α → Heap → Heap → Prop) : Prop where
  live : ∀ a g h, Ac a g h → ∃ o, h.get? D = some o ∧ ∀ v, o.data ≠ .cell v
  mono : ∀ a g h g' h', Ac a g h → Le g g' → (∀ o, h.get? D = some o → h'.get? D = some o) → Ac a g' h'
/-- what stands at a is kept, but for a frame's slots -/
noncomputable def Kp (Φ : Addr → Prop) (h h' : Heap) (a : Addr) : Prop := ∀ o, h.get? a = some o → (¬ Φ a → h'.get? a = some o) ∧ ∃ sl, h'.get? a = some { o with slots := sl }
theorem Kp.of {Φ : Addr → Prop} {h h' : Heap} {a : Addr} (k : ∀ o, h.get? a = some o → h'.get? a = some o) : Kp Φ h h' a := fun o e => ⟨fun _ => k o e, o.slots, k o e⟩
theorem LeF.kp {Φ : Addr → Prop} {h h' : Heap} (l : LeF Φ h h') (a : Addr) : Kp Φ h h' a := fun o e => ⟨fun n => l.out a o n e, l.sl a o e⟩
theorem Kp.trans {Φ : Addr → Prop} {h h' h'' : Heap} {a : Addr} (x : Kp Φ h h' a) (y : Kp Φ h' h'' a) : Kp Φ h h'' a := fun o e => by
  obtain ⟨e1, sl, e2⟩ := x o e
  refine ⟨fun n => (y o (e1 n)).1 n, ?_⟩
  obtain ⟨_, sl', e3⟩ := y _ e2
  exact ⟨sl', e3⟩
theorem Kp.none {Φ : Addr → Prop} {h h' : Heap} {a : Addr} (x : Kp Φ h h' a) (e : h'.get? a = none) : h.get? a = none := by
  cases q : h.get? a with
  | none => rfl
  | some o =>
    obtain ⟨_, sl, e'⟩ := x o q
    rw [e] at e'; cases e'
theorem Kp.at {Φ : Addr → Prop} {h h' : Heap} {a : Addr} {o : Obj} (x : Kp Φ h h' a) (n : ¬ Φ a) (e : h.get? a = some o) : h'.get? a = some o := (x o e).1 n
theorem Kp.sl {Φ : Addr → Prop} {h h' : Heap} {a : Addr} {o : Obj} (x : Kp Φ h h' a) (e : h.get? a = some o) : ∃ sl, h'.get? a = some { o with slots := sl } := (x o e).2
noncomputable def Em (c : Cx) (n : Nat) (env : Env) (σ : Sto) {α : Type} (D : Addr) (Ac : α → Heap → Heap → Prop) (a a' : α) (emit : Sem Unit) : Prop :=
  ∀ A g₀ b g m ow s, Room A n → StC (fr A) c g₀ b env g m ow σ s.heap → ¬ fr A D → g.get? D = none → Ac a g s.heap →
    wpAny (model c.prog c.w) A emit (fun _ s' => ∃ h' tk g', s' = { s with heap := h', toks := tk } ∧ Le g g' ∧ Le g' h' ∧ (∀ a o, g'.get? a = some o → g.get? a = some o ∨ s.heap.get? a = none) ∧ Ac a' g' h' ∧
      (∀ a, a ≠ D → Kp (fr A) s.heap h' a)) Noth s

structure CLp (c : Cx) (n : Nat) (e : Expr) (cenv : Env) (σ : Sto) {α : Type} (D : Addr) (Ac : α → Heap → Heap → Prop) (rem : List Mine.D) (a a' : α) : Prop where
  out : ∀ (A : Around) (b g : Heap) (m : Str → Option Value) (ow : List Addr) (s : Shared) (I : Addr) (gF : Heap) (ds : List Mine.D) (i : Nat) (St : Nat → Heap → Prop) (Su : Nat → Value → Heap → Prop),
    Room A n → Feed c A (.ref I) [I] gF ds St Su TgtOk → ds.drop i = rem → i ≤ ds.length → St i s.heap → Le gF g → I ≠ cenv.locals → I ≠ D → b.get? I = none → b.get? D = none → g.get? I = none → g.get? D = none → D ≠ cenv.locals → I ∉ ow → D ∉ ow → Ac a g s.heap → StC (fr A) c g b cenv g m ow σ s.heap →
    codeAny (model c.prog c.w) A (.compLoop e 0 (.ref I) (.ref D) cenv) (fun r s' => match r with
      | .ok _ => ∃ h' tk g' m', s' = { s with heap := h', toks := tk } ∧ Le g g' ∧ Le g' h' ∧ (∀ a o, g'.get? a = some o → g.get? a = some o ∨ s.heap.get? a = none ∨ a ∈ ow) ∧ (∀ a, a ≠ cenv.locals → a ≠ I → a ≠ D → a ∉ ow → Kp (fr A) s.heap h' a) ∧
          h'.Ns cenv.locals m' ∧ g'.get? D = none ∧ g'.get? cenv.locals = none ∧ Ac a' g' h'
      | .error _ => False) s
theorem CLp.nil {e t iter : Expr} {ifs : List Expr} {emit : Addr → Env → Sem Unit} (T : Turns e t iter ifs emit) {α : Type} {D : Addr} {Ac : α → Heap → Heap → Prop} {a : α} (H : Accu α D Ac) : CLp c n e cenv σ D Ac [] a a := by
  constructor
  intro A b g m ow s I gF ds i St Su R F hdr hi st lF h1 h2 b1 b2 h3 h4 h5 h6 h7 hA S
  have hi' : i = ds.length := Nat.le_antisymm hi (by rw [List.drop_eq_nil_iff] at hdr; exact hdr)
  subst hi'
  refine codeAny_compStep T (noth (F.done s st (lF.trans S.kg)) fun r s₁ q => ?_)
  obtain ⟨rfl, h', tk, rfl, k⟩ := q
  refine ⟨h', tk, g, m, rfl, Le.refl _, fun a o e => k a o (fun q => ?_) (S.kg _ _ e), fun a o e => .inl e, fun a _ hI _ _ => Kp.of fun o e => k a o (by simpa using hI) e, ?_, h4, S.gL, ?_⟩
  · rw [List.mem_singleton.mp q, h3] at e; cases e
  · exact ns_at S.ns fun o e => k _ _ (by simpa using Ne.symm h1) e
  · exact H.mono _ _ _ _ _ hA (Le.refl _) fun o e => k _ _ (by simpa using Ne.symm h2) e
theorem CLp.turn {e t iter : Expr} {ifs : List Expr} {emit : Addr → Env → Sem Unit} (T : Turns e t iter ifs emit) (ht : TgtOk t) {α : Type} {D : Addr} {Ac : α → Heap → Heap → Prop} {a a' a'' : α} (H : Accu α D Ac) {rem : List Mine.D} {σ₁ : Sto} {y : Bool}
    (tg : Tg c n cenv σ t d σ₁) (hwk : ∀ y u, σ.get y = some u → ∃ t, σ₁.get y = some t ∧ t.le u) (ts : Ts c n cenv σ₁ ifs y) (hem : y = true → Em c n cenv σ₁ D Ac a a' (emit D cenv)) (hno : y = false → a' = a) (lp : CLp c n e cenv σ D Ac rem a' a'') :
    CLp c n e cenv σ D Ac (d :: rem) a a'' := by
  constructor
  intro A b g m ow s I gF ds i St Su R F hdr hi st lF h1 h2 b1 b2 h3 h4 h5 h6 h7 hA S
  have nI : ¬ fr A I := fun z => by
    rcases (S.fl I z).2 with q | q
    · exact h1 q
    · exact q.some b1
  have nD : ¬ fr A D := fun z => by
    rcases (S.fl D z).2 with q | q
    · exact h5 q
    · exact q.some b2
  have hlt : i < ds.length := by
    rcases Nat.lt_or_ge i ds.length with q | q
    · exact q
    · rw [List.drop_of_length_le q] at hdr; cases hdr
  have hdr2 := hdr
  rw [List.drop_eq_getElem_cons hlt] at hdr2
  have hd : ds[i] = d := (List.cons.inj hdr2).1
  have hrem : ds.drop (i + 1) = rem := (List.cons.inj hdr2).2
  refine codeAny_compStep T (noth (F.next i d s g (by simp [hlt, hd]) st lF S.kg) fun r s₁ q => ?_)
  obtain ⟨v, hp1, tk1, g1, rfl, rfl, st1, k1, l1, f1, r1⟩ := q
  dsimp only
  refine noth (F.lets t (i + 1) v _ ht st1) fun _ s₂ q => ?_
  obtain ⟨hp2, tk2, rfl, st2, k2⟩ := q
  have kk : ∀ a o, a ≠ I → s.heap.get? a = some o → hp2.get? a = some o := fun a o ha e => k2 a o (by simpa using ha) (k1 a o (by simpa using ha) e)
  have liveI := F.live _ _ st
  have hw : ∀ a ∈ [I], a ≠ cenv.locals ∧ a ∉ ow ∧ b.get? a = none ∧ g.get? a = none := fun a ha => by rw [List.mem_singleton.mp ha]; exact ⟨h1, h6, b1, h3⟩
  have f1' : ∀ a o, g1.get? a = some o → g.get? a = some o ∨ (s.heap.get? a = none ∧ hp2.get? a = some o) := fun a o e => by
    rcases f1 a o e with z | z
    · exact .inl z
    · refine .inr ⟨z.1, k2 a o (fun q => ?_) z.2⟩
      obtain ⟨o', e', _⟩ := liveI a q
      rw [e'] at z; cases z.1
  have S2 : StC (fr A) c g b cenv g1 m ow σ hp2 := S.wr (fun a o ha e => kk a o (by simpa using ha) e) hw liveI l1 f1'
  have hD2 : g1.get? D = none := by
    cases q : g1.get? D with
    | none => rfl
    | some o =>
      rcases f1' D o q with z | z
      · rw [h4] at z; cases z
      · obtain ⟨o', e', _⟩ := H.live _ _ _ hA
        rw [e'] at z; cases z.1
  have hI2 : g1.get? I = none := by
    cases q : g1.get? I with
    | none => rfl
    | some o =>
      rcases f1' I o q with z | z
      · rw [h3] at z; cases z
      · obtain ⟨o', e', _⟩ := liveI I (by simp)
        rw [e'] at z; cases z.1
  have hA2 : Ac a g1 hp2 := H.mono _ _ _ _ _ hA l1 fun o e => kk _ _ (Ne.symm h2) e
  refine noth (tg.out _ _ _ _ _ _ _ _ R S2.base r1) fun _ s₃ q => ?_
  obtain ⟨hp3, tk3, g3, m3, ow3, rfl, S3⟩ := q
  have keep3 : ∀ a, a ≠ cenv.locals → a ∉ ow → Kp (fr A) hp2 hp3 a := fun a ha hb o e => S3.kb.kp a o (aside_get ha hb e)
  have none3 : ∀ a, a ≠ cenv.locals → a ∉ ow → hp2.get? a ≠ none → g1.get? a = none → g3.get? a = none := fun a ha hb hn h0 => by
    cases q : g3.get? a with
    | none => rfl
    | some o =>
      rcases S3.fr₀ a o q with z | z
      · rw [h0] at z; cases z
      · cases q2 : hp2.get? a with
        | none => exact absurd q2 hn
        | some o2 => rw [aside_get ha hb q2] at z; cases z
  have own3 : ∀ a, a ∈ ow3 → a ∈ ow ∨ hp2.get? a = none := fun a ha => by
    by_cases hb : a ∈ ow
    · exact .inl hb
    · refine .inr ?_
      cases q : hp2.get? a with
      | none => rfl
      | some o =>
        have hL : a ≠ cenv.locals := fun z => S3.nL (z ▸ ha)
        have := S3.bO a ha
        rw [aside_get hL hb q] at this; cases this
  obtain ⟨oI, eI, cI⟩ := F.live _ _ st2 I (by simp)
  obtain ⟨oD, eD, cD⟩ := H.live _ _ _ hA2
  have hI3 := none3 I h1 h6 (by rw [eI]; simp) hI2
  have hD3 := none3 D h5 h7 (by rw [eD]; simp) hD2
  have nI3 : I ∉ ow3 := fun z => (own3 _ z).elim h6 fun q => by rw [eI] at q; cases q
  have nD3 : D ∉ ow3 := fun z => (own3 _ z).elim h7 fun q => by rw [eD] at q; cases q
  have hA3 : Ac a g3 hp3 := H.mono _ _ _ _ _ hA2 S3.le₀ fun o e => (keep3 _ h5 h7).at nD e
  have st3 : St (i + 1) hp3 := F.frame _ _ _ st2 fun a ha o e => (keep3 _ (by rw [List.mem_singleton.mp ha]; exact h1) (by rw [List.mem_singleton.mp ha]; exact h6)).at (by rw [List.mem_singleton.mp ha]; exact nI) e
  refine noth (ts.out _ _ _ _ _ _ _ R S3) fun ok s₄ q => ?_
  obtain ⟨rfl, g4, hp4, tk4, rfl, G4⟩ := q
  dsimp only at G4
  have S4 := S3.grow G4
  have hI4 : g4.get? I = none := by
    cases q : g4.get? I with
    | none => rfl
    | some o =>
      rcases G4.fresh _ _ q with z | z
      · rw [hI3] at z; cases z
      · rw [(keep3 _ h1 h6).at nI eI] at z; cases z
  have hD4 : g4.get? D = none := by
    cases q : g4.get? D with
    | none => rfl
    | some o =>
      rcases G4.fresh _ _ q with z | z
      · rw [hD3] at z; cases z
      · rw [(keep3 _ h5 h7).at nD eD] at z; cases z
  have hA4 : Ac a g4 hp4 := H.mono _ _ _ _ _ hA3 G4.le fun o e => G4.keep.out _ _ nD e
  have st4 : St (i + 1) hp4 := F.frame _ _ _ st3 fun a ha o e => G4.keep.out _ _ (by rw [List.mem_singleton.mp ha]; exact nI) e
  have le14 : Le g g4 := (l1.trans S3.le₀).trans G4.le
  have ks4 : ∀ a, a ≠ cenv.locals → a ≠ I → a ∉ ow → Kp (fr A) s.heap hp4 a := fun a ha hb hc => ((Kp.of fun o e => kk _ _ hb e).trans (keep3 _ ha hc)).trans (G4.keep.kp _)
  -- what is new in g4 was not there at the start
  have fr4 : ∀ a o, g4.get? a = some o → g.get? a = some o ∨ s.heap.get? a = none ∨ a ∈ ow := fun a o e => by
    by_cases hw : a ∈ ow
    · exact .inr (.inr hw)
    cases q : s.heap.get? a with
    | none => exact .inr (.inl rfl)
    | some o' =>
      refine .inl ?_
      by_cases ha : a = cenv.locals
      · rw [ha, S4.gL] at e; cases e
      · by_cases hb : a = I
        · rw [hb, hI4] at e; cases e
        · rcases G4.fresh _ _ e with z | z
          · rcases S3.fr₀ _ _ z with y | y
            · rcases f1' _ _ y with w | w
              · exact w
              · rw [q] at w; cases w.1
            · rw [aside_get ha hw (kk _ _ hb q)] at y; cases y
          · have := (keep3 _ ha hw).none z; rw [kk _ _ hb q] at this; cases this
  -- the rest
  have fin : ∀ (hp5 : Heap) (tk5 : Nat) (g5 : Heap), Le g4 g5 → Le g5 hp5 → (∀ a o, g5.get? a = some o → g4.get? a = some o ∨ hp4.get? a = none) → Ac a' g5 hp5 → (∀ a, a ≠ D → Kp (fr A) hp4 hp5 a) →
      codeAny (model c.prog c.w) A (.compLoop e 0 (.ref I) (.ref D) cenv) (fun r s' => match r with
        | .ok _ => ∃ h' tk g' m', s' = { s with heap := h', toks := tk } ∧ Le g g' ∧ Le g' h' ∧ (∀ a o, g'.get? a = some o → g.get? a = some o ∨ s.heap.get? a = none ∨ a ∈ ow) ∧ (∀ a, a ≠ cenv.locals → a ≠ I → a ≠ D → a ∉ ow → Kp (fr A) s.heap h' a) ∧
            h'.Ns cenv.locals m' ∧ g'.get? D = none ∧ g'.get? cenv.locals = none ∧ Ac a'' g' h'
        | .error _ => False) { s with heap := hp5, toks := tk5 } := by
    intro hp5 tk5 g5 l5 l5' f5 hA5 k5
    obtain ⟨oD4, eD4, cD4⟩ := H.live _ _ _ hA4
    have hD5 : g5.get? D = none := by
      cases q : g5.get? D with
      | none => rfl
      | some o =>
        rcases f5 _ _ q with z | z
        · rw [hD4] at z; cases z
        · rw [eD4] at z; cases z
    have hI5 : g5.get? I = none := by
      cases q : g5.get? I with
      | none => rfl
      | some o =>
        rcases f5 _ _ q with z | z
        · rw [hI4] at z; cases z
        · rw [G4.keep.out _ _ nI ((keep3 _ h1 h6).at nI eI)] at z; cases z
    have S4w : StC (fr A) c g b cenv g4 m3 ow3 σ hp4 := by
      have := S2.unbase S4
      exact this.weaken hwk
    have hO5 : ∀ a, a ∈ ow3 → g5.get? a = none := fun a ha => by
      cases q : g5.get? a with
      | none => rfl
      | some o =>
        rcases f5 _ _ q with z | z
        · rw [S4.gO a ha] at z; cases z
        · have := S4.live a ha
          rw [z] at this; cases this
    have hL5 : g5.get? cenv.locals = none := by
      cases q : g5.get? cenv.locals with
      | none => rfl
      | some o =>
        rcases f5 _ _ q with z | z
        · rw [S4.gL] at z; cases z
        · obtain ⟨oo, _, _, eo, _⟩ := S4.ns
          rw [eo] at z; cases z
    have oB : ∀ a, a ∈ ow3 → (aside cenv (I :: D :: ow3) hp5).get? a = none := fun a ha => by
      cases q : (aside cenv (I :: D :: ow3) hp5).get? a with
      | none => rfl
      | some o => exact absurd (.tail _ (.tail _ ha)) (aside_some q).2.1
    have iB : (aside cenv (I :: D :: ow3) hp5).get? I = none := by
      cases q : (aside cenv (I :: D :: ow3) hp5).get? I with
      | none => rfl
      | some o => exact absurd (.head _) (aside_some q).2.1
    have dB : (aside cenv (I :: D :: ow3) hp5).get? D = none := by
      cases q : (aside cenv (I :: D :: ow3) hp5).get? D with
      | none => rfl
      | some o => exact absurd (.tail _ (.head _)) (aside_some q).2.1
    have S5 : StC (fr A) c g5 (aside cenv (I :: D :: ow3) hp5) cenv g5 m3 ow3 σ hp5 := {
      ns := ns_sl S4w.ns fun o e => (k5 _ (Ne.symm h5)).sl e
      kb := LeF.of fun a o e => (aside_some e).2.2
      kg := l5'
      fl := fun a ha => ⟨by
        cases q : g5.get? a with
        | none => rfl
        | some o =>
          rcases f5 _ _ q with z | z
          · rw [(S4w.fl a ha).1] at z; cases z
          · exact absurd z (S4w.isD ha).some, by
        by_cases q : a = cenv.locals
        · exact .inl q
        · obtain ⟨o, es, ep, e, hd⟩ := S4w.isD ha
          obtain ⟨sl, e'⟩ := (k5 a fun z => nD (z ▸ ha)).sl e
          refine .inr ⟨_, es, ep, aside_get q (fun z => ?_) e', hd⟩
          rcases List.mem_cons.mp z with z | z
          · exact nI (z ▸ ha)
          · rcases List.mem_cons.mp z with z | z
            · exact nD (z ▸ ha)
            · exact S4w.own_not z ha⟩
      le₀ := Le.refl _
      fr₀ := fun a o e => .inl e
      bL := by
        cases q : (aside cenv (I :: D :: ow3) hp5).get? cenv.locals with
        | none => rfl
        | some o => exact absurd rfl (aside_some q).1
      bO := oB
      gL := hL5
      gO := hO5
      nL := S4.nL
      live := fun a ha => by
        obtain ⟨o, e⟩ := Option.isSome_iff_exists.mp (S4.live a ha)
        obtain ⟨sl, e'⟩ := (k5 a (fun z => nD3 (z ▸ ha))).sl e
        rw [e']; rfl
      wf := S4.wf.le l5
      vars := fun y u hy => by
        have v := S4w.vars y u hy
        cases u with
        | val d =>
          obtain ⟨v, r, q⟩ := v
          refine ⟨v, r.le l5, q.imp id fun ⟨a, q, e1, e2, e3, e4⟩ => ⟨a, q, e1, e2, e3, ?_⟩⟩
          refine isCell_sl e4 fun o e => (k5 _ (fun z => ?_)).sl e
          subst z
          obtain ⟨oc, ec, dc⟩ := e4
          rw [eD4] at ec
          cases ec
          exact cD4 _ dc
        | own p d =>
          obtain ⟨hk, a, e1, e2, e3⟩ := v
          exact ⟨hk, a, e1, e2, e3.mono l5 fun o e => (k5 _ (fun z => nD3 (z ▸ e2))).at (S4w.own_not e2) e⟩
        | cel d =>
          obtain ⟨hk, q, v, e1, e2, e3, e4⟩ := v
          exact ⟨hk, q, v, e1, e2, isCell_sl e3 fun o e => (k5 _ (fun z => nD3 (z ▸ e2))).sl e, fun d' e => let ⟨v', a, b⟩ := e4 d' e; ⟨v', a, b.le l5⟩⟩
      inj := S4w.inj
      kind := S.kind
      glob := S.glob
      bui := S.bui
      capp := S.capp }
    have st5 : St (i + 1) hp5 := F.frame _ _ _ st4 fun a ha o e => (k5 _ (by rw [List.mem_singleton.mp ha]; exact h2)).at (by rw [List.mem_singleton.mp ha]; exact nI) e
    have := lp.out A (aside cenv (I :: D :: ow3) hp5) g5 m3 ow3 { s with heap := hp5, toks := tk5 } I gF ds (i + 1) St Su R F hrem hlt st5 ((lF.trans le14).trans l5) h1 h2 iB dB hI5 hD5 h5 nI3 nD3 hA5 S5
    refine codeAny_mono this fun r s' q => ?_
    cases r with
    | error e => exact q
    | ok f =>
      obtain ⟨h', tk, g', m', rfl, q1, q2, q3, q4, q5, q6, q7, q8⟩ := q
      dsimp only at q3 q4
      have no3 : ∀ a o, a ≠ I → a ∉ ow → s.heap.get? a = some o → a ∉ ow3 := fun a o hb hd e z => (own3 a z).elim hd fun q => by rw [kk _ _ hb e] at q; cases q
      refine ⟨h', tk, g', m', rfl, (le14.trans l5).trans q1, q2, fun a o e => ?_, fun a ha hb hc hd o e => (((ks4 _ ha hb hd).trans (k5 _ hc)).trans (q4 a ha hb hc (no3 a o hb hd e))) o e, q5, q6, q7, q8⟩
      by_cases hw : a ∈ ow
      · exact .inr (.inr hw)
      cases q : s.heap.get? a with
      | none => exact .inr (.inl rfl)
      | some o' =>
        refine .inl ?_
        by_cases hc : a = D
        · rw [hc, q6] at e; cases e
        · by_cases ha : a = cenv.locals
          · rw [ha, q7] at e; cases e
          · by_cases hb : a = I
            · have hI' : g'.get? I = none := by
                cases z : g'.get? I with
                | none => rfl
                | some o =>
                  rcases q3 _ _ z with y | y | y
                  · rw [hI5] at y; cases y
                  · obtain ⟨oo, eo, _⟩ := F.live _ _ st5 I (by simp)
                    rw [eo] at y; cases y
                  · exact absurd y nI3
              rw [hb, hI'] at e; cases e
            · rcases q3 _ _ e with y | y | y
              · rcases f5 _ _ y with z | z
                · rcases fr4 _ _ z with w | w | w
                  · exact w
                  · rw [q] at w; cases w
                  · exact absurd w hw
                · have := (ks4 _ ha hb hw).none z; rw [q] at this; cases this
              · have := ((ks4 _ ha hb hw).trans (k5 _ hc)).none y; rw [q] at this; cases this
              · exact absurd y (no3 a o' hb hw q)
  cases y with
  | false =>
    simp only [Bool.false_eq_true, if_false]
    rw [hno rfl] at fin
    rw [hno rfl] at lp
    exact fin hp4 tk4 g4 (Le.refl _) G4.le' (fun a o e => .inl e) hA4 fun a _ => Kp.of fun o e => e
  | true =>
    simp only [if_true]
    refine noth (hem rfl _ _ _ _ _ _ _ R S4 nD hD4 hA4) fun _ s₅ q => ?_
    obtain ⟨hp5, tk5, g5, rfl, l5, l5', f5, hA5, k5⟩ := q
    exact fin hp5 tk5 g5 l5 l5' f5 hA5 k5
end
end Mine

end
section
open PySem PySem.W PySem.Calls PyProof.Rows
set_option Elab.async false
set_option linter.unusedVariables false
namespace Mine
section
variable {c : Cx} {n : Nat} {A : Around} {g₀ b g : Heap} {env cenv : Env} {m : Str → Option Value} {ow : List Addr} {σ σ' σ'' : Sto} {s : Shared} {d : D} {v : Value} {h h' : Heap} {x : Str} {o : Out}

theorem turns_list {elt t iter : Expr} {ifs : List Expr} {scope : Scope} {pos : Pos} :
    Turns (.ListComp elt [⟨t, iter, ifs, 0⟩] scope pos) t iter ifs (fun D env => PySem.eval elt env >>= fun y => PySem.call (.builtin "list.append") [.ref D, y] >>= fun _ => Pure.pure ()) where
  turn := fun it D env => by
    rw [compTurn_list]
    rfl
  plain := fun _ _ _ _ => rfl
  quiet := fun _ _ _ _ => rfl
  weight := fun _ _ _ _ => ⟨rfl, rfl⟩
theorem turns_dict {kx vx t iter : Expr} {ifs : List Expr} {scope : Scope} {pos : Pos} :
    Turns (.DictComp kx vx [⟨t, iter, ifs, 0⟩] scope pos) t iter ifs (fun D env => PySem.eval kx env >>= fun kv => holding [kv] (PySem.eval vx env) >>= fun vv => standAt { kx.pos with endLine := vx.pos.endLine, endCol := vx.pos.endCol } >>= fun _ => holding [kv, vv] (dictSet D kv vv)) where
  turn := fun it D env => by
    rw [compTurn_dict]
    rfl
  plain := fun _ _ _ _ => rfl
  quiet := fun _ _ _ _ => rfl
  weight := fun _ _ _ _ => ⟨rfl, rfl⟩

noncomputable def AcL (c : Cx) (D : Addr) (outs : List Mine.D) (g h : Heap) : Prop := ∃ items : Array Value, h.PlainList D items ∧ Reps c g outs items.toList
theorem accu_list {D : Addr} : Accu (List Mine.D) D (AcL c D) where
  live := fun a g h ⟨items, ⟨k, e⟩, _⟩ => ⟨_, e, fun v z => by cases z⟩
  mono := fun a g h g' h' ⟨items, p, r⟩ l k => ⟨items, p.at k, r.le l⟩
theorem em_list {D : Addr} {elt : Expr} {outs : List Mine.D} {y : Mine.D} (x : Ev c n env σ elt y) (hn : outs.length ≤ sizeLine) :
    Em c n env σ D (AcL c D) outs (outs ++ [y]) (PySem.eval elt env >>= fun y => PySem.call (.builtin "list.append") [.ref D, y] >>= fun _ => Pure.pure ()) := by
  intro A g₀ b g m ow s R S nD hD hA
  refine wpAny_bind (x.use R S fun v g1 h1 t1 G1 S1 r1 => ?_)
  obtain ⟨items, p, r⟩ := hA
  have hl := r.length
  simp only [Array.length_toList] at hl
  refine wpAny_bind (wpAny_list_append_plain (items := items) (p.at fun o e => G1.keep.out _ _ nD e) (fun h' hp hs => wpAny_pure ?_) (by rw [← hl]; exact hn))
  refine ⟨h', t1, g1, rfl, G1.le, fun a o e => ?_, G1.fresh, ⟨_, hp, ?_⟩, fun a ha => (G1.keep.kp a).trans (Kp.of fun o e => (hs.2 a ha).trans e)⟩
  · refine (hs.2 a fun q => ?_).trans (G1.le' _ _ e)
    rcases G1.fresh _ _ e with z | z
    · rw [q, hD] at z; cases z
    · obtain ⟨k, ek⟩ := p
      rw [q, ek] at z; cases z
  · rw [Array.toList_push]
    exact Reps.append (r.le G1.le) (Reps.one r1)
noncomputable def AcD (c : Cx) (D : Addr) (l : List (Str × Str)) (g h : Heap) : Prop := ∃ kvs, h.DictOf (strKind c.prog c.w) D kvs ∧ DV l kvs
theorem accu_dict {D : Addr} : Accu (List (Str × Str)) D (AcD c D) where
  live := fun a g h ⟨kvs, ⟨o, es, ep, e, _, hd, _⟩, _⟩ => ⟨o, e, fun v z => by rw [hd] at z; cases z⟩
  mono := fun a g h g' h' ⟨kvs, p, r⟩ l k => ⟨kvs, p.at k, r⟩
theorem em_dict {D : Addr} {kx vx : Expr} {l : List (Str × Str)} {k y : Str} {pp : Pos} (x1 : Ev c n env σ kx (.str k)) (x2 : Ev c n env σ vx (.str y)) (hn : l.length ≤ sizeLine) :
    Em c n env σ D (AcD c D) l (dput l k y) (PySem.eval kx env >>= fun kv => holding [kv] (PySem.eval vx env) >>= fun vv => standAt pp >>= fun _ => holding [kv, vv] (dictSet D kv vv)) := by
  intro A g₀ b g m ow s R S nD hD hA
  refine wpAny_bind (x1.use R S fun v g1 h1 t1 G1 S1 r1 => wpAny_bind (wpAny_holding (x2.use R S1 fun v2 g2 h2 t2 G2 S2 r2 => wpAny_bind (wpAny_standAt (wpAny_holding ?_)))))
  cases r1
  cases r2
  obtain ⟨kvs, p, r⟩ := hA
  have G := G1.trans G2
  refine wpAny_dictSet_pairs (strKind_is _ _ _ _) (p.at fun o e => G.keep.out _ _ nD e) (fun h' hp hs => ?_) (by rw [← r.length]; exact hn)
  refine ⟨h', _, g2, rfl, G.le, fun a o e => ?_, G.fresh, ⟨_, hp, r.dput⟩, fun a ha => (G.keep.kp a).trans (Kp.of fun o e => (hs.2 a ha).trans e)⟩
  refine (hs.2 a fun q => ?_).trans (G.le' _ _ e)
  rcases G.fresh _ _ e with z | z
  · rw [q, hD] at z; cases z
  · obtain ⟨oo, _, _, ek, _⟩ := p
    rw [q, ek] at z; cases z

-- the cells that a comprehension takes along
noncomputable def takenFrom (env : Env) : List (Str × NameKind) → List (Str × Addr) → List (Str × Addr)
  | [], acc => acc
  | (y, k) :: r, acc => takenFrom env r (match k, env.cells.lookup y with
      | .free, some q => (y, q) :: acc
      | _, _ => acc)
noncomputable def taken (scope : Scope) (env : Env) : List (Str × Addr) := takenFrom env scope.names []
theorem closure_taken {scope : Scope} (h : ∀ y, (y, NameKind.free) ∈ scope.names → (env.cells.lookup y).isSome = true) : closureFor scope env = Pure.pure (taken scope env) := by
  have key : ∀ (names : List (Str × NameKind)) (acc : List (Str × Addr)), (∀ y, (y, NameKind.free) ∈ names → (env.cells.lookup y).isSome = true) →
      (forIn names acc fun x r => match x with | (name, kind) => (if (kind == NameKind.free) = true then do let a ← cellOf env name; Pure.pure (ForInStep.yield ((name, a) :: r)) else Pure.pure (ForInStep.yield r) : Sem (ForInStep (List (Str × Addr))))) = (Pure.pure (takenFrom env names acc) : Sem _) := by
    intro names
    induction names with
    | nil => intro acc _; rfl
    | cons p r ih =>
      obtain ⟨y, k⟩ := p
      intro acc hy
      rw [List.forIn_cons]
      have ih' := fun acc => ih acc fun z hz => hy z (.tail _ hz)
      cases k with
      | free =>
        obtain ⟨q, e⟩ := Option.isSome_iff_exists.mp (hy y (.head _))
        have : cellOf env y = Pure.pure q := by unfold cellOf; rw [e]
        simp only [beq_self_eq_true, if_true, this, pure_bind]
        rw [ih']
        simp only [takenFrom, e]
      | _ =>
        simp only [show ∀ k : NameKind, k ≠ .free → (k == NameKind.free) = false from fun k hk => by simpa using hk, ne_eq, reduceCtorEq, not_false_eq_true, Bool.false_eq_true, if_false, pure_bind]
        rw [ih']
        rfl
  unfold closureFor
  have := key scope.names [] h
  simp only [bind_pure]
  exact this
theorem takenFrom_lookup {y : Str} {q : Addr} : ∀ (names : List (Str × NameKind)) (acc : List (Str × Addr)), (takenFrom env names acc).lookup y = some q → acc.lookup y = some q ∨ env.cells.lookup y = some q
  | [], acc, e => .inl e
  | (z, k) :: r, acc, e0 => by
    rcases takenFrom_lookup r _ e0 with e | e
    · clear e0
      split at e
      · rename_i q' eq
        rw [List.lookup_cons] at e
        by_cases hz : y = z
        · subst hz
          simp only [beq_self_eq_true] at e
          cases e
          exact .inr eq
        · have : (y == z) = false := by simpa using hz
          rw [this] at e
          exact .inl e
      · exact .inl e
    · exact .inr e
theorem takenFrom_mono {y : Str} : ∀ (names : List (Str × NameKind)) (acc : List (Str × Addr)), (acc.lookup y).isSome = true → ((takenFrom env names acc).lookup y).isSome = true
  | [], acc, e => e
  | (z, k) :: r, acc, e => by
    refine takenFrom_mono r _ ?_
    split
    · rw [List.lookup_cons]
      cases (y == z) with
      | true => rfl
      | false => exact e
    · exact e
theorem takenFrom_has {y : Str} : ∀ (names : List (Str × NameKind)) (acc : List (Str × Addr)), (y, NameKind.free) ∈ names → (env.cells.lookup y).isSome = true → ((takenFrom env names acc).lookup y).isSome = true
  | [], _, h, _ => by cases h
  | (z, k) :: r, acc, h, e => by
    rcases List.mem_cons.mp h with h | h
    · cases h
      refine takenFrom_mono r _ ?_
      obtain ⟨q, e'⟩ := Option.isSome_iff_exists.mp e
      simp only [e', List.lookup_cons, beq_self_eq_true, Option.isSome_some]
    · exact takenFrom_has r _ h e
theorem taken_lookup {scope : Scope} {y : Str} {q : Addr} (e : (taken scope env).lookup y = some q) : env.cells.lookup y = some q := by
  rcases takenFrom_lookup _ _ e with e | e
  · cases e
  · exact e
theorem taken_has {scope : Scope} {y : Str} {q : Addr} (h : (y, NameKind.free) ∈ scope.names) (e : env.cells.lookup y = some q) : (taken scope env).lookup y = some q := by
  obtain ⟨q', e'⟩ := Option.isSome_iff_exists.mp (takenFrom_has scope.names [] h (by rw [e]; rfl))
  have := taken_lookup (scope := scope) e'
  rw [e] at this
  cases this
  exact e'
end
end Mine

end
section
open PySem PySem.W PySem.Calls PyProof.Rows
set_option Elab.async false
set_option linter.unusedVariables false
namespace Mine
section
variable {c : Cx} {n : Nat} {A : Around} {g₀ b g : Heap} {env cenv : Env} {m : Str → Option Value} {ow : List Addr} {σ σ' σ'' σin : Sto} {s : Shared} {d : D} {v : Value} {h h' : Heap} {x : Str} {o : Out} {scope : Scope}

theorem cf_append : ∀ (names : List (Str × NameKind)) (k : Nat) (acc : List (Str × Addr)), cellsFrom k names acc = cellsFrom k names [] ++ acc
  | [], _, _ => rfl
  | (z, kd) :: r, k, acc => by
    unfold cellsFrom
    split
    · rw [cf_append r (k + 1) ((z, k) :: acc), cf_append r (k + 1) [(z, k)], List.append_assoc]; rfl
    · exact cf_append r k acc
theorem cf_some {y : Str} {q : Addr} : ∀ (names : List (Str × NameKind)) (k : Nat) (acc : List (Str × Addr)), (cellsFrom k names acc).lookup y = some q → ((y, NameKind.cell) ∈ names ∧ k ≤ q) ∨ acc.lookup y = some q
  | [], _, _, e => .inr e
  | (z, kd) :: r, k, acc, e => by
    unfold cellsFrom at e
    split at e
    · rename_i hk
      rcases cf_some r _ _ e with ⟨a, b⟩ | e
      · exact .inl ⟨.tail _ a, by omega⟩
      · rw [List.lookup_cons] at e
        by_cases hz : y = z
        · subst hz
          simp only [beq_self_eq_true] at e
          cases e
          have : kd = .cell := by simpa using hk
          subst this
          exact .inl ⟨.head _, Nat.le_refl _⟩
        · rw [show (y == z) = false by simpa using hz] at e
          exact .inr e
    · rcases cf_some r _ _ e with ⟨a, b⟩ | e
      · exact .inl ⟨.tail _ a, b⟩
      · exact .inr e
theorem cf_mono {y : Str} : ∀ (names : List (Str × NameKind)) (k : Nat) (acc : List (Str × Addr)), (acc.lookup y).isSome = true → ((cellsFrom k names acc).lookup y).isSome = true
  | [], _, _, e => e
  | (z, kd) :: r, k, acc, e => by
    unfold cellsFrom
    split
    · refine cf_mono r _ _ ?_
      rw [List.lookup_cons]
      split
      · rfl
      · exact e
    · exact cf_mono r _ _ e
theorem cf_has {y : Str} : ∀ (names : List (Str × NameKind)) (k : Nat) (acc : List (Str × Addr)), (y, NameKind.cell) ∈ names → ((cellsFrom k names acc).lookup y).isSome = true
  | [], _, _, e => by cases e
  | (z, kd) :: r, k, acc, e => by
    unfold cellsFrom
    rcases List.mem_cons.mp e with e | e
    · cases e
      rw [if_pos (by rfl)]
      exact cf_mono r _ _ (by simp [List.lookup_cons])
    · split
      · exact cf_has r _ _ e
      · exact cf_has r _ _ e
theorem lookup_none {y : Str} {α : Type} : ∀ (l : List (Str × α)), (∀ k, (y, k) ∉ l) → l.lookup y = none
  | [], _ => rfl
  | (z, k) :: r, hy => by
    rw [List.lookup_cons]
    by_cases hz : y = z
    · subst hz; exact absurd (.head _) (hy k)
    · rw [show (y == z) = false by simpa using hz]
      exact lookup_none r fun k hm => hy k (.tail _ hm)
theorem takenFrom_free {y : Str} {q : Addr} : ∀ (names : List (Str × NameKind)) (acc : List (Str × Addr)), (takenFrom env names acc).lookup y = some q → acc.lookup y = some q ∨ (y, NameKind.free) ∈ names
  | [], acc, e => .inl e
  | (z, k) :: r, acc, e0 => by
    rcases takenFrom_free r _ e0 with e | e
    · clear e0
      split at e
      · rename_i q' eq
        rw [List.lookup_cons] at e
        by_cases hz : y = z
        · subst hz
          exact .inr (.head _)
        · rw [show (y == z) = false by simpa using hz] at e
          exact .inl e
      · exact .inl e
    · exact .inr (.tail _ e)
theorem lookup_of_nodup {y : Str} {k : NameKind} : ∀ {l : List (Str × NameKind)}, (l.map (·.1)).Nodup → (y, k) ∈ l → l.lookup y = some k
  | (z, k') :: r, hn, hm => by
    rw [List.map_cons, List.nodup_cons] at hn
    rw [List.lookup_cons]
    rcases List.mem_cons.mp hm with e | e
    · cases e; simp
    · have : y ≠ z := fun q => hn.1 (q ▸ List.mem_map.mpr ⟨_, e, rfl⟩)
      rw [show (y == z) = false by simpa using this]
      exact lookup_of_nodup hn.2 e
theorem lookup_relabel_free {env : Env} : ∀ {names : List (Str × NameKind)} {x : Str}, names.lookup x = some .free →
    (names.map fun (n, k) => if (k == NameKind.free && env.scope.kind == .function && env.kindOf n == some .cell) then (n, NameKind.cell) else (n, k)).lookup x = some .free ∨
    (names.map fun (n, k) => if (k == NameKind.free && env.scope.kind == .function && env.kindOf n == some .cell) then (n, NameKind.cell) else (n, k)).lookup x = some .cell
  | [], _, h => by simp at h
  | (n, k) :: r, x, h => by
    have ih := @lookup_relabel_free env r x
    show List.lookup x ((if (k == NameKind.free && env.scope.kind == .function && env.kindOf n == some .cell) = true then (n, NameKind.cell) else (n, k)) :: _) = _ ∨ List.lookup x ((if (k == NameKind.free && env.scope.kind == .function && env.kindOf n == some .cell) = true then (n, NameKind.cell) else (n, k)) :: _) = _
    rw [List.lookup_cons] at h
    by_cases hc : (k == NameKind.free && env.scope.kind == .function && env.kindOf n == some .cell) = true
    · rw [if_pos hc]
      simp only [List.lookup_cons]
      cases hx : x == n with
      | true => exact .inr rfl
      | false => rw [hx] at h; exact ih h
    · rw [if_neg hc]
      simp only [List.lookup_cons]
      cases hx : x == n with
      | true => rw [hx] at h; cases h; exact .inl rfl
      | false => rw [hx] at h; exact ih h
theorem lookup_relabel_cell {env : Env} : ∀ {names : List (Str × NameKind)} {x : Str}, names.lookup x = some .cell →
    (names.map fun (n, k) => if (k == NameKind.free && env.scope.kind == .function && env.kindOf n == some .cell) then (n, NameKind.cell) else (n, k)).lookup x = some .cell
  | [], _, h => by simp at h
  | (n, k) :: r, x, h => by
    have ih := @lookup_relabel_cell env r x
    show List.lookup x ((if (k == NameKind.free && env.scope.kind == .function && env.kindOf n == some .cell) = true then (n, NameKind.cell) else (n, k)) :: _) = _
    rw [List.lookup_cons] at h
    by_cases hc : (k == NameKind.free && env.scope.kind == .function && env.kindOf n == some .cell) = true
    · rw [if_pos hc]
      simp only [List.lookup_cons]
      cases hx : x == n with
      | true => rfl
      | false => rw [hx] at h; exact ih h
    · rw [if_neg hc]
      simp only [List.lookup_cons]
      cases hx : x == n with
      | true => rw [hx] at h; cases h; rfl
      | false => rw [hx] at h; exact ih h

noncomputable def cEnv (scope : Scope) (env : Env) (C : Addr) : Env := compEnvC scope (cellsFrom (C + 1) scope.names (taken scope env)) C env
noncomputable def Inn (scope : Scope) (env : Env) (σ : Sto) (y : Str) (u : Slot) : Prop :=
  (∃ d, u = .val d ∧ scope.names.lookup y = some .free ∧ ((σ.get y = some (.val d) ∧ env.kindOf y ≠ some .local) ∨ σ.get y = some (.cel (some d)))) ∨ (u = .cel none ∧ scope.names.lookup y = some .cell)
structure CompOk (scope : Scope) (env : Env) (σ σin : Sto) : Prop where
  kind : scope.kind = .function
  nodup : (scope.names.map (·.1)).Nodup
  free : ∀ y, (y, NameKind.free) ∈ scope.names → (σin.get y).isSome = true
  inn : ∀ y u, σin.get y = some u → Inn scope env σ y u

theorem ge_none {a : Addr} (l : Le g h) (k : h.objs.size ≤ a) : g.get? a = none := by
  cases q : g.get? a with
  | none => rfl
  | some o => exact absurd (Heap.lt_size (l _ _ q)) (Nat.not_lt.mpr k)
theorem inn_cell (S : StC (fr A) c g₀ b env g m ow σ h) (i : Inn scope env σ x (.val d)) : ∃ q v, env.cells.lookup x = some q ∧ h.IsCell q (some v) ∧ Rep c g d v := by
  rcases i with ⟨d', e, _, i⟩ | ⟨e, _⟩
  · cases e
    rcases i with ⟨e, hk⟩ | e
    · obtain ⟨v, r, q⟩ := S.vars x _ e
      rcases q with ⟨a, _⟩ | ⟨_, q, e1, _, _, e4⟩
      · exact absurd a hk
      · exact ⟨q, v, e1, e4, r⟩
    · obtain ⟨hk, q, v, e1, e2, e3, e4⟩ := S.vars x _ e
      obtain ⟨v', rfl, r⟩ := e4 d rfl
      exact ⟨q, v', e1, e3, r⟩
  · cases e
noncomputable def innerOw (scope : Scope) (C : Addr) : List Addr := (cellsFrom (C + 1) scope.names []).map (·.2)
noncomputable def innerHeap (scope : Scope) (h : Heap) : Heap := pushCells (h.push { cls := .type "dict", data := .dict #[] }) scope.names
theorem le_innerHeap (scope : Scope) (h : Heap) : Le h (innerHeap scope h) := (le_push _ _).trans fun b o e => pushCells_keeps _ _ b o e
theorem innerCells (scope : Scope) (h : Heap) : CellsOk (innerHeap scope h) (h.objs.size + 1) (cellsFrom (h.objs.size + 1) scope.names []) := by
  have ok := cellsFrom_ok scope.names (h.push { cls := .type "dict", data := .dict #[] }) (h.objs.size + 1) [] ⟨fun _ _ hm => (nomatch hm), List.Pairwise.nil⟩ (by rw [Heap.size_push]; exact Nat.le_refl _)
  rw [Heap.size_push] at ok
  exact ok
theorem innerOw_ge {scope : Scope} {h : Heap} {a : Addr} (ha : a ∈ innerOw scope h.objs.size) : h.objs.size + 1 ≤ a := by
  obtain ⟨p, hp, rfl⟩ := List.mem_map.mp ha
  exact ((innerCells scope h).empty p.1 p.2 hp).2
theorem inner_state {h₁ : Heap} (S : StC (fr A) c g₀ b env g m ow σ h₁) (ok : CompOk scope env σ σin) (k : Le h₁ h) :
    StC (fr A) c g h₁ (cEnv scope env h.objs.size) g (fun _ => none) (innerOw scope h.objs.size) σin (innerHeap scope h) := by
  have kh : Le h (innerHeap scope h) := le_innerHeap _ _
  have gh : Le g h := S.kg.trans k
  have cs := innerCells scope h
  have hC : g.get? h.objs.size = none := ge_none gh (Nat.le_refl _)
  have hO : ∀ a ∈ innerOw scope h.objs.size, g.get? a = none := fun a ha => ge_none gh (by have := innerOw_ge ha; omega)
  have kindOf : ∀ y, (cEnv scope env h.objs.size).kindOf y = (relabel scope env).names.lookup y := fun _ => rfl
  have cells : (cEnv scope env h.objs.size).cells = cellsFrom (h.objs.size + 1) scope.names [] ++ taken scope env := cf_append _ _ _
  have split : ∀ y q, (cEnv scope env h.objs.size).cells.lookup y = some q → ((y, NameKind.cell) ∈ scope.names ∧ (y, q) ∈ cellsFrom (h.objs.size + 1) scope.names [] ∧ h.objs.size + 1 ≤ q) ∨ (env.cells.lookup y = some q ∧ q < h.objs.size) := fun y q e => by
    have e' := e
    rw [cells, List.lookup_append] at e'
    cases z : (cellsFrom (h.objs.size + 1) scope.names []).lookup y with
    | some q' =>
      rw [z] at e'
      cases e'
      have hm := mem_of_lookup z
      rcases cf_some _ _ _ z with w | w
      · exact .inl ⟨w.1, hm, (cs.empty _ _ hm).2⟩
      · cases w
    | none =>
      rw [z] at e'
      have e2 : (taken scope env).lookup y = some q := e'
      refine .inr ⟨taken_lookup e2, ?_⟩
      rcases takenFrom_free _ _ e2 with w | w
      · cases w
      · obtain ⟨u, hu⟩ := Option.isSome_iff_exists.mp (ok.free y w)
        have hl := lookup_of_nodup ok.nodup w
        have i := ok.inn y u hu
        rcases i with ⟨d, rfl, _, _⟩ | ⟨_, e⟩
        · obtain ⟨q', v, a1, a2, _⟩ := inn_cell S (ok.inn y _ hu)
          rw [taken_lookup e2] at a1
          cases a1
          exact (a2.keeps k).lt
        · rw [hl] at e; cases e
  exact {
    ns := (Heap.Ns.new h (.type "dict")).keeps (pushCells_keeps _ _)
    kb := LeF.of (k.trans kh)
    kg := gh.trans kh
    fl := fun a ha => ⟨(S.fl a ha).1, .inr (S.isD ha)⟩
    le₀ := Le.refl _
    fr₀ := fun a o e => .inl e
    bL := k.none (get_size h)
    bO := fun a ha => ge_none k (by have := innerOw_ge ha; omega)
    gL := hC
    gO := hO
    nL := fun hm => by have := innerOw_ge hm; simp only [cEnv, compEnvC] at this; omega
    live := fun a ha => by
      obtain ⟨p, hp, rfl⟩ := List.mem_map.mp ha
      obtain ⟨o, e, _⟩ := (cs.empty p.1 p.2 hp).1
      rw [e]; rfl
    wf := S.wf
    vars := fun y u hy => by
      have i := ok.inn y u hy
      rcases id i with ⟨d, rfl, hl, _⟩ | ⟨rfl, hl⟩
      · obtain ⟨q, v, a1, a2, a3⟩ := inn_cell S i
        have hq : q < h.objs.size := (a2.keeps k).lt
        refine ⟨v, a3, .inr ⟨?_, q, ?_, ?_, ?_, (a2.keeps k).keeps kh⟩⟩
        · rw [kindOf]
          exact (lookup_relabel_free hl).symm
        · rw [cells, List.lookup_append, lookup_none _ fun q' hm => ?_]
          · exact taken_has (mem_of_lookup hl) a1
          · have : ((cellsFrom (h.objs.size + 1) scope.names []).lookup y).isSome = true := by
              cases z : (cellsFrom (h.objs.size + 1) scope.names []).lookup y with
              | some _ => rfl
              | none =>
                exfalso
                have hx : ∀ {l : List (Str × Addr)}, (y, q') ∈ l → l.lookup y ≠ none := by
                  intro l
                  induction l with
                  | nil => intro hm; cases hm
                  | cons p r ih =>
                    intro hm
                    rw [List.lookup_cons]
                    split
                    · intro e; cases e
                    · rename_i hp
                      rcases List.mem_cons.mp hm with e | e
                      · rw [← e] at hp; simp at hp
                      · exact ih e
                exact hx hm z
            obtain ⟨q2, e2⟩ := Option.isSome_iff_exists.mp this
            rcases cf_some _ _ _ e2 with w | w
            · have := lookup_of_nodup ok.nodup w.1
              rw [hl] at this; cases this
            · cases w
        · exact Nat.ne_of_lt hq
        · exact fun hm => absurd (innerOw_ge hm) (Nat.not_le.mpr (Nat.lt_succ_of_lt hq))
      · obtain ⟨q, e⟩ := Option.isSome_iff_exists.mp (cf_has scope.names (h.objs.size + 1) (taken scope env) (mem_of_lookup hl))
        have hm : (y, q) ∈ cellsFrom (h.objs.size + 1) scope.names [] := by
          rcases split y q e with w | w
          · exact w.2.1
          · rw [show cellsFrom (h.objs.size + 1) scope.names (taken scope env) = _ from cells, List.lookup_append] at e
            cases z : (cellsFrom (h.objs.size + 1) scope.names []).lookup y with
            | some q' => rw [z] at e; cases e; exact mem_of_lookup z
            | none =>
              have := cf_has scope.names (h.objs.size + 1) [] (mem_of_lookup hl)
              rw [z] at this; cases this
        refine ⟨?_, q, none, e, List.mem_map.mpr ⟨_, hm, rfl⟩, (cs.empty _ _ hm).1, fun d' e => by cases e⟩
        rw [kindOf]
        exact lookup_relabel_cell hl
    inj := fun x y p p' d d' a e1 => by
      rcases ok.inn x _ e1 with ⟨_, e, _⟩ | ⟨e, _⟩ <;> cases e
    kind := ok.kind
    glob := S.glob
    bui := S.bui
    capp := fun y z q e1 e2 => by
      rcases split y q e1 with w | w <;> rcases split z q e2 with w' | w'
      · exact name_of_addr cs.apart w.2.1 w'.2.1
      · exact absurd w.2.2 (Nat.not_le.mpr (Nat.lt_succ_of_lt w'.2))
      · exact absurd w'.2.2 (Nat.not_le.mpr (Nat.lt_succ_of_lt w.2))
      · exact S.capp y z q w.1 w'.1 }

theorem wpAny_newEnvComp {M : Model} {E : Value → Shared → Prop} {cl : List (Str × Addr)} {Q : Env → Shared → Prop}
    (hQ : Q { scope, locals := s.heap.objs.size, globals := env.globals, cells := cellsFrom (s.heap.objs.size + 1) scope.names cl, qual := env.qual, func := none, code := env.code, frame := env.frame, builtins := env.builtins } { s with heap := innerHeap scope s.heap }) :
    wpAny M A (newFunctionEnv scope env.globals cl [] env.qual none .none (some env)) Q E s := by
  simp only [newFunctionEnv, Option.isSome_some, if_true]
  refine wpAny_bind (wpAny_alloc ?_)
  refine wpAny_bind (wpAny_layCells _ (fun name kind cells => by cases hkc : kind == NameKind.cell <;> simp [hkc]) _ _ _ _ ?_)
  rw [show ({ s with heap := s.heap.push { cls := .type "dict", data := .dict #[] } } : Shared).heap.objs.size = s.heap.objs.size + 1 from Heap.size_push ..]
  refine wpAny_bind ?_
  rw [List.forIn_nil]
  exact wpAny_pure (wpAny_pure hQ)

noncomputable def CompStart (c : Cx) (e : Expr) : Prop := ∀ (A : Around) (R : Result → Shared → Prop) (s : Shared) (it acc : Value) (env : Env), codeAny (model c.prog c.w) A (.compLoop e 0 it acc env) R s →
  wpAny (model c.prog c.w) A (pyIter it) (fun it' s' => codeAny (model c.prog c.w) A (.compLoop e 0 it' acc env) R s') (notedBy (model c.prog c.w) A env fun x s' => R (.error x) s') s → codeAny (model c.prog c.w) A (.compStart e 0 it acc env) R s

theorem comp_core {e : Expr} {α : Type} {Acc : Addr → α → Heap → Heap → Prop} {a a' : α} {o₀ : Obj} {newAcc : Sem Value} {ds : List D} {dd : D} {xv : Value} {PP : Value → Addr → Shared → Prop}
    (hnew : ∀ (Q : Value → Shared → Prop) (s : Shared), Q (.ref s.heap.objs.size) { s with heap := s.heap.push o₀ } → wpAny (model c.prog c.w) A newAcc Q Noth s) (hf : o₀.isFreed = false)
    (h0 : ∀ g h D, h.get? D = some o₀ → Acc D a g h)
    (fz : ∀ D g h g', (D == sysModules) = false → Acc D a' g h → Le g g' → (∀ o, h.get? D = some o → g'.get? D = some o) → Rep c g' dd (.ref D))
    (hst : CompStart c e) (R : Room A n) (S : StC (fr A) c g₀ b env g m ow σ s.heap) (r : Rep c g d xv) (hd : itemsOf d = some ds) (ok : CompOk scope env σ σin)
    (lp : ∀ C D, CLp c n e (cEnv scope env C) σin D (Acc D) ds a a')
    (k : ∀ D C h' tk g' m', Grow (fr A) g s.heap g' h' → Rep c g' dd (.ref D) → s.heap.get? C = none → g'.get? C = none → h'.Ns C m' → PP (.ref D) C { s with heap := h', toks := tk }) :
    wpAny (model c.prog c.w) A (pyIter xv) (fun it s₂ => wpAny (model c.prog c.w) A newAcc (fun acc s₃ => wpAny (model c.prog c.w) A (newFunctionEnv scope env.globals (taken scope env) [] env.qual none .none (some env)) (fun cenv s₄ =>
      codeAny (model c.prog c.w) A (.compStart e 0 it acc { cenv with scope := relabel scope env }) (fun r s' => match r with | .ok _ => PP acc cenv.locals s' | .error _ => False) s₄) Noth s₃) Noth s₂) Noth s := by
  refine noth (iter_D R.hh S.kg r hd) fun it s₁ q => ?_
  obtain ⟨oI, I, St, rfl, rfl, hfI, rfl, st, F⟩ := q
  refine hnew _ _ (wpAny_newEnvComp ?_)
  dsimp only at st F ⊢
  generalize hH : (s.heap.push oI).push o₀ = H
  have k1 : Le s.heap (s.heap.push oI) := le_push _ _
  have k2 : Le (s.heap.push oI) H := hH ▸ le_push _ _
  have k3 : Le H (innerHeap scope H) := le_innerHeap _ _
  have zI : (s.heap.push oI).objs.size = s.heap.objs.size + 1 := Heap.size_push _ _
  have zH : H.objs.size = s.heap.objs.size + 2 := by rw [← hH, Heap.size_push, zI]
  have n1 : (s.heap.objs.size : Nat) ≠ H.objs.size := by omega
  have n2 : (s.heap.objs.size : Nat) ≠ (s.heap.push oI).objs.size := by omega
  have n3 : ((s.heap.push oI).objs.size : Nat) ≠ H.objs.size := by omega
  have lt3 : ∀ a : Nat, a < s.heap.objs.size → a ≠ H.objs.size ∧ a ≠ s.heap.objs.size ∧ a ≠ (s.heap.push oI).objs.size := fun a q => by omega
  have nO : ∀ a : Nat, a < H.objs.size → a ∉ innerOw scope H.objs.size := fun a q hm => absurd (innerOw_ge hm) (Nat.not_le.mpr (Nat.lt_succ_of_lt q))
  have lt0 : (s.heap.objs.size : Nat) < H.objs.size := by omega
  have S4 := inner_state (scope := scope) (σin := σin) S ok (k1.trans k2)
  have hD : (innerHeap scope H).get? (s.heap.push oI).objs.size = some o₀ := k3 _ _ (hH ▸ Heap.get?_push_size _ hf)
  have hst4 : St 0 (innerHeap scope H) := F.frame _ _ _ st fun a ha o e => k3 _ _ (k2 _ _ e)
  have gI : g.get? s.heap.objs.size = none := ge_none S.kg (Nat.le_refl _)
  have gD : g.get? (s.heap.push oI).objs.size = none := ge_none S.kg (by omega)
  have lpp := (lp H.objs.size (s.heap.push oI).objs.size).out A s.heap g _ _ { s with heap := innerHeap scope H } s.heap.objs.size g ds 0 St _ R F List.drop_zero (Nat.zero_le _) hst4 (Le.refl _)
    n1 n2 (get_size _) (ge_none (Le.refl _) (by omega)) gI gD n3 (nO _ (by omega)) (nO _ (by omega)) (h0 _ _ _ hD) S4
  have loop : codeAny (model c.prog c.w) A (.compLoop e 0 (.ref s.heap.objs.size) (.ref (s.heap.push oI).objs.size) (cEnv scope env H.objs.size)) (fun r s' => match r with | .ok _ => PP (.ref (s.heap.push oI).objs.size) H.objs.size s' | .error _ => False) { s with heap := innerHeap scope H } := by
    refine codeAny_mono lpp fun r s' q => ?_
    cases r with
    | error e => exact q
    | ok f =>
      obtain ⟨h', tk, g', m', rfl, q1, q2, q3, q4, q5, q6, q7, q8⟩ := q
      dsimp only at q3 q4
      have old : LeF (fr A) s.heap h' := by
        have key : ∀ a o, s.heap.get? a = some o → Kp (fr A) s.heap h' a := fun a o e => by
          have hl := Heap.lt_size e
          exact (Kp.of fun o e => k3 _ _ (k2 _ _ (k1 _ _ e))).trans (q4 a (lt3 a hl).1 (lt3 a hl).2.1 (lt3 a hl).2.2 (nO _ (Nat.lt_trans hl lt0)))
        exact ⟨fun a o n e => (key a o e).at n e, fun a o e => (key a o e).sl e⟩
      let g2 := only h' fun a => (g'.get? a).isSome || decide (a = (s.heap.push oI).objs.size)
      have l2 : Le g' g2 := fun a o e => by
        show (only h' _).get? a = some o
        rw [only_get, e]
        simpa using q2 _ _ e
      have eD : ∀ o, h'.get? (s.heap.push oI).objs.size = some o → g2.get? (s.heap.push oI).objs.size = some o := fun o e => by
        show (only h' _).get? _ = some o
        rw [only_get]
        simpa using e
      have G : Grow (fr A) g s.heap g2 h' := {
        keep := old
        le := q1.trans l2
        le' := fun a o e => (only_some e).2
        fresh := fun a o e => by
          obtain ⟨e1, e2⟩ := only_some e
          cases z : s.heap.get? a with
          | none => exact .inr rfl
          | some o' =>
            refine .inl ?_
            have hl := Heap.lt_size z
            rcases Bool.or_eq_true_iff.mp e1 with e1 | e1
            · obtain ⟨o2, e3⟩ := Option.isSome_iff_exists.mp e1
              have : o2 = o := by have := q2 _ _ e3; rw [e2] at this; cases this; rfl
              subst this
              rcases q3 _ _ e3 with w | w | w
              · exact w
              · rw [k3 _ _ (k2 _ _ (k1 _ _ z))] at w; cases w
              · exact absurd w (nO a (Nat.lt_trans hl lt0))
            · have : a = (s.heap.push oI).objs.size := by simpa using e1
              exact absurd this (lt3 a hl).2.2 }
      refine k _ _ h' tk g2 m' G (fz _ _ _ _ ?_ q8 l2 eD) (ge_none (Le.refl _) (by omega)) ?_ q5
      · have := sysLt S.wf S.kg
        have h3 : sysModules < s.heap.objs.size := by
          obtain ⟨_, _, _, _, T⟩ := S.wf.T
          have h3 : 3 < s.heap.objs.size := (T.g.keeps S.kg).lt
          show 1 < s.heap.objs.size
          omega
        exact beq_eq_false_iff_ne.mpr fun e => by
          have : (s.heap.push oI).objs.size = (1 : Nat) := e
          have : (1 : Nat) < s.heap.objs.size := h3
          omega
      · cases z : g2.get? H.objs.size with
        | none => rfl
        | some o =>
          obtain ⟨e1, e2⟩ := only_some z
          rcases Bool.or_eq_true_iff.mp e1 with e1 | e1
          · have q7' : g'.get? H.objs.size = none := q7
            rw [q7'] at e1; cases e1
          · have : H.objs.size = (s.heap.push oI).objs.size := by simpa using e1
            exact absurd this.symm n3
  exact hst A _ _ _ _ _ loop (F.self 0 _ _ _ hst4 loop)
end
end Mine

end
section
open PySem PySem.W PySem.Calls PyProof.Rows
set_option Elab.async false
set_option linter.unusedVariables false
namespace Mine
section
variable {c : Cx} {n : Nat} {A : Around} {g₀ b g : Heap} {env cenv : Env} {m : Str → Option Value} {ow : List Addr} {σ σ' σ'' σin : Sto} {s : Shared} {d : D} {v : Value} {h h' : Heap} {x : Str} {o : Out} {scope : Scope}

theorem CompOk.names (ok : CompOk scope env σ σin) : ∀ x ∈ scope.names, x.2 = .local → scope.names.lookup x.1 = some .local := fun x hx e => by
  obtain ⟨y, k⟩ := x
  cases e
  exact lookup_of_nodup ok.nodup hx
theorem CompOk.closure (S : StC (fr A) c g₀ b env g m ow σ h) (ok : CompOk scope env σ σin) : closureFor scope env = pure (taken scope env) := closure_taken fun y hy => by
  obtain ⟨u, hu⟩ := Option.isSome_iff_exists.mp (ok.free y hy)
  have hl := lookup_of_nodup ok.nodup hy
  have i := ok.inn y u hu
  rcases i with ⟨d, rfl, _, _⟩ | ⟨_, e⟩
  · obtain ⟨q, v, e, _⟩ := inn_cell S (ok.inn y _ hu)
    rw [e]; rfl
  · rw [hl] at e; cases e
theorem Rep.keepC {g : Heap} {v : Value} (r : Rep c g d v) : Rep c g d v := r

/-- a comprehension as a value -/
theorem Ev.comp {e iter t : Expr} {ifs : List Expr} {pos : Pos} {α : Type} {Acc : Addr → α → Heap → Heap → Prop} {a a' : α} {o₀ : Obj} {newAcc : Sem Value} {ds : List D} {dd : D}
    (heq : PySem.eval e env = comprehension e scope env pos newAcc false (PySem.eval iter env)) (hcl : clausesOf e = [⟨t, iter, ifs, 0⟩])
    (hnew : ∀ (A : Around) (Q : Value → Shared → Prop) (s : Shared), Q (.ref s.heap.objs.size) { s with heap := s.heap.push o₀ } → wpAny (model c.prog c.w) A newAcc Q Noth s) (hf : o₀.isFreed = false)
    (h0 : ∀ g h D, h.get? D = some o₀ → Acc D a g h)
    (fz : ∀ D g h g', (D == sysModules) = false → Acc D a' g h → Le g g' → (∀ o, h.get? D = some o → g'.get? D = some o) → Rep c g' dd (.ref D))
    (hst : CompStart c e) (hs : ∀ x, foldedSetIterable iter env x = pure x)
    (x : Ev c n env σ iter d) (hd : itemsOf d = some ds) (ok : CompOk scope env σ σin) (lp : ∀ C D, CLp c n e (cEnv scope env C) σin D (Acc D) ds a a') : Ev c n env σ e dd := by
  constructor
  intro A g₀ b g m ow s R S
  rw [heq]
  refine wpAny_comprehension_free (use := none) hcl hs (ok.closure S) ok.kind ok.names (x.use R S fun v g1 h1 t1 G1 S1 r1 => ?_)
  refine noth (comp_core (PP := fun acc C s' => ∃ m, s'.heap.Ns C m ∧ ∀ h', Heap.SameBut C s'.heap h' → Post (fr A) c g s dd acc { s' with heap := h' }) (hnew A) hf h0 fz hst R S1 r1 hd ok lp ?_) fun it s₂ q => noth q fun acc s₃ q => noth q fun cenv s₄ q => codeAny_mono q fun r s' q => ?_
  · intro D C h' tk g' m' G r hC gC hN
    refine ⟨m', hN, fun h'' hs'' => ?_⟩
    refine Post.after (tk := t1) G1 ⟨g', h'', tk, rfl, ⟨G.keep.but fun a o e => hs''.2 a (by rintro rfl; rw [hC] at e; cases e), G.le, fun a o e => ?_, G.fresh⟩, r⟩
    · exact hs''.extBut a o (by rintro rfl; rw [gC] at e; cases e) (G.le' a o e)
  · cases r with
    | ok f => exact q
    | error e => exact q.elim
/-- a comprehension that a name takes at once -/
theorem Ex1.comp {e iter t : Expr} {ifs : List Expr} {pos p spos : Pos} {α : Type} {Acc : Addr → α → Heap → Heap → Prop} {a a' : α} {o₀ : Obj} {newAcc : Sem Value} {ds : List D} {dd : D}
    (hsw : swapsWith e (some (.Name x p)) spos.line env = pure true)
    (heq : evalThenUse e env (PySem.assign (.Name x p) env) = comprehension e scope env pos newAcc false (PySem.eval iter env) (some (PySem.assign (.Name x p) env)) >>= fun _ => pure ()) (hcl : clausesOf e = [⟨t, iter, ifs, 0⟩])
    (hnew : ∀ (A : Around) (Q : Value → Shared → Prop) (s : Shared), Q (.ref s.heap.objs.size) { s with heap := s.heap.push o₀ } → wpAny (model c.prog c.w) A newAcc Q Noth s) (hf : o₀.isFreed = false)
    (h0 : ∀ g h D, h.get? D = some o₀ → Acc D a g h)
    (fz : ∀ D g h g', (D == sysModules) = false → Acc D a' g h → Le g g' → (∀ o, h.get? D = some o → g'.get? D = some o) → Rep c g' dd (.ref D))
    (hst : CompStart c e) (hs : ∀ x, foldedSetIterable iter env x = pure x)
    (xi : Ev c n env σ iter d) (hd : itemsOf d = some ds) (ok : CompOk scope env σ σin) (hk : env.kindOf x = some .local) (lp : ∀ C D, CLp c n e (cEnv scope env C) σin D (Acc D) ds a a') :
    Ex1 c n env σ (.Assign [.Name x p] e spos) (.next (σ.put x (.val dd))) := by
  constructor
  intro A g₀ b g m ow s R S
  rw [exec_Assign_Name_used _ _ _ _ hsw, heq]
  refine wpAny_bind (wpAny_standAt (wpAny_bind (wpAny_bind ?_)))
  refine noth (wpAny_comprehension_free (Q := fun _ s' => Done (fr A) c g₀ b env s (.next (σ.put x (.val dd))) .next s') (use := some (PySem.assign (.Name x p) env)) hcl hs (ok.closure S) ok.kind ok.names (xi.use R S fun v g1 h1 t1 G1 S1 r1 => ?_)) fun _ s' q => wpAny_pure (wpAny_pure q)
  refine noth (comp_core (PP := fun acc C s' => wpAny (model c.prog c.w) A (PySem.assign (.Name x p) env acc) (fun _ s'' => ∃ m, s''.heap.Ns C m ∧ ∀ h', Heap.SameBut C s''.heap h' → Done (fr A) c g₀ b env s (.next (σ.put x (.val dd))) .next { s'' with heap := h' }) Noth s') (hnew A) hf h0 fz hst R S1 r1 hd ok lp ?_) fun it s₂ q => noth q fun acc s₃ q => noth q fun cenv s₄ q => codeAny_mono q fun r s' q => ?_
  · intro D C h' tk g' m' G r hC gC hN
    have S2 := S1.grow G
    refine wpAny_assign_Name (wpAny_storeName_local hk S2.ns (fun h2 hn2 hs2 => ?_) (by rw [S2.kind]; rfl))
    have S3 := S2.store hk r hn2 hs2
    have hCL : C ≠ env.locals := fun e => by
      obtain ⟨o, _, _, eo, _⟩ := S1.ns
      rw [e] at hC
      rw [hC] at eo; cases eo
    refine ⟨m', hN.sameBut hs2 hCL, fun h3 hs3 => ⟨h3, tk + 1, g', (fun y => if y = x then some (Value.ref D) else m y), ow, rfl, ?_⟩⟩
    have hbC : b.get? C = none := S1.kb.none hC
    have hoC : C ∉ ow := fun hm => by
      have := S1.live C hm
      rw [hC] at this; cases this
    have hN2 := hN.sameBut hs2 hCL
    exact StC.wr (wr := [C]) S3 (fun a o ha e => hs3.extBut a o (by simpa using ha) e) (fun a ha => by rw [List.mem_singleton.mp ha]; exact ⟨hCL, hoC, hbC, gC⟩)
      (fun a ha => by
        rw [List.mem_singleton.mp ha]
        obtain ⟨o, es, ep, e, hdt, _⟩ := hN2
        exact ⟨o, e, fun v z => by rw [hdt] at z; cases z⟩) (Le.refl _) (fun a o e => .inl e)
  · cases r with
    | ok f => exact q
    | error e => exact q.elim
end
end Mine

end
section
open PySem PySem.W PySem.Calls PyProof.Rows
set_option Elab.async false
set_option linter.unusedVariables false
namespace Mine
section
variable {c : Cx} {n : Nat} {A : Around} {g₀ b g : Heap} {env cenv : Env} {m : Str → Option Value} {ow : List Addr} {σ σ' σ'' σin : Sto} {s : Shared} {d : D} {v : Value} {h h' : Heap} {x : Str} {o : Out} {scope : Scope}

theorem Ev.listComp {elt iter t : Expr} {ifs : List Expr} {pos : Pos} {ds outs : List D} (x : Ev c n env σ iter d) (hd : itemsOf d = some ds) (ok : CompOk scope env σ σin)
    (lp : ∀ C D, CLp c n (.ListComp elt [⟨t, iter, ifs, 0⟩] scope pos) (cEnv scope env C) σin D (AcL c D) ds [] outs)
    (hs : ∀ x, foldedSetIterable iter env x = pure x := by intro _; rfl) : Ev c n env σ (.ListComp elt [⟨t, iter, ifs, 0⟩] scope pos) (.list outs) :=
  Ev.comp (o₀ := { cls := .type "list", data := .seq ([] : List Value).toArray }) (newAcc := newList []) (eval_ListComp _ _ _ _) rfl (fun A Q s h => wpAny_newObj_type h) rfl (fun g h D e => ⟨#[], ⟨_, e⟩, .nil⟩)
    (fun D g h g' _ hA l e => by
      obtain ⟨items, ⟨k, ek⟩, rs⟩ := hA
      exact .list ⟨_, e _ ek, rfl, rfl, _, rfl⟩ (rs.le l)) (fun A R s it acc env h0 h => codeAny_compStart_list h0 h) hs x hd ok lp
theorem Ex1.listComp {elt iter t : Expr} {ifs : List Expr} {pos p spos : Pos} {ds outs : List D} (xi : Ev c n env σ iter d) (hd : itemsOf d = some ds) (ok : CompOk scope env σ σin) (hk : env.kindOf x = some .local)
    (lp : ∀ C D, CLp c n (.ListComp elt [⟨t, iter, ifs, 0⟩] scope pos) (cEnv scope env C) σin D (AcL c D) ds [] outs)
    (hsw : swapsWith (.ListComp elt [⟨t, iter, ifs, 0⟩] scope pos) (some (.Name x p)) spos.line env = pure true := by rfl)
    (hs : ∀ x, foldedSetIterable iter env x = pure x := by intro _; rfl) : Ex1 c n env σ (.Assign [.Name x p] (.ListComp elt [⟨t, iter, ifs, 0⟩] scope pos) spos) (.next (σ.put x (.val (.list outs)))) :=
  Ex1.comp (o₀ := { cls := .type "list", data := .seq ([] : List Value).toArray }) (newAcc := newList []) hsw rfl rfl (fun A Q s h => wpAny_newObj_type h) rfl (fun g h D e => ⟨#[], ⟨_, e⟩, .nil⟩)
    (fun D g h g' _ hA l e => by
      obtain ⟨items, ⟨k, ek⟩, rs⟩ := hA
      exact .list ⟨_, e _ ek, rfl, rfl, _, rfl⟩ (rs.le l)) (fun A R s it acc env h0 h => codeAny_compStart_list h0 h) hs xi hd ok hk lp
theorem Ev.dictComp {kx vx iter t : Expr} {ifs : List Expr} {pos : Pos} {ds : List D} {outs : List (Str × Str)} (x : Ev c n env σ iter d) (hd : itemsOf d = some ds) (ok : CompOk scope env σ σin)
    (lp : ∀ C D, CLp c n (.DictComp kx vx [⟨t, iter, ifs, 0⟩] scope pos) (cEnv scope env C) σin D (AcD c D) ds [] outs)
    (hs : ∀ x, foldedSetIterable iter env x = pure x := by intro _; rfl) : Ev c n env σ (.DictComp kx vx [⟨t, iter, ifs, 0⟩] scope pos) (.dict outs) :=
  Ev.comp (o₀ := { cls := .type "dict", data := .dict #[] }) (newAcc := newDict) (arm_eval_DictComp _ _ _ _ _ _) rfl (fun A Q s h => wpAny_newObj_type h) rfl
    (fun g h D e => ⟨[], ⟨_, #[], 0, e, ⟨rfl, rfl, rfl⟩, rfl, fun e he => by simp at he, .nil, .nil⟩, .nil⟩)
    (fun D g h g' hs hA l e => by
      obtain ⟨kvs, p, rs⟩ := hA
      exact .dict (p.at e) rs hs) (fun A R s it acc env h0 h => codeAny_compStart_dict h0 h) hs x hd ok lp
end
end Mine

end
section
open PySem PySem.W PySem.Calls PyProof.Rows
set_option Elab.async false
set_option linter.unusedVariables false
namespace Mine
section
variable {c : Cx} {n : Nat} {A : Around} {g₀ b g : Heap} {env cenv : Env} {m : Str → Option Value} {ow : List Addr} {σ σ' σ'' σin : Sto} {s : Shared} {d : D} {v : Value} {h h' : Heap} {x : Str} {o : Out} {scope : Scope}

structure Fn (c : Cx) (f : Addr) (fd : FuncData) (body : List Stmt) : Prop where
  obj : ∃ o : Obj, c.K.lookup f = some o ∧ o.data = .func fd
  body : fd.body = .stmts body
  clo : fd.closure = []
  code : codeIn c.K fd.code fd.qualname = true
  kind : fd.scope.kind = .function
  co : fd.scope.isCoroutine = false
  gen : fd.scope.isGenerator = false
  glob : fd.globals = mainGlobals
  bui : fd.builtins = builtinsNs
  nodup : (fd.scope.names.map (·.1)).Nodup

noncomputable def entry (names : List (Str × NameKind)) (xs : List Str) (ds : List D) : Sto :=
  (xs.zip ds).map (fun p => (p.1, if names.lookup p.1 = some .cell then .cel (some p.2) else .val p.2)) ++ (names.filter fun p => p.2 == .cell && !xs.contains p.1).map fun p => (p.1, .cel none)

theorem bindL_out {kindOf : Str → Option NameKind} {y : Str} : ∀ (bs : List (Str × Value)) (m : Str → Option Value), y ∉ bs.map (·.1) → bindL kindOf bs m y = m y
  | [], _, _ => rfl
  | (z, v) :: r, m, hy => by
    unfold bindL
    rw [bindL_out r _ fun q => hy (.tail _ q)]
    split
    · have : y ≠ z := fun q => hy (by rw [q]; exact .head _)
      simp [this]
    · rfl
theorem bindC_out {kindOf : Str → Option NameKind} {y : Str} : ∀ (bs : List (Str × Value)) (m : Str → Option Value), y ∉ bs.map (·.1) → bindC kindOf bs m y = m y
  | [], _, _ => rfl
  | (z, v) :: r, m, hy => by
    unfold bindC
    rw [bindC_out r _ fun q => hy (.tail _ q)]
    split
    · rfl
    · have : y ≠ z := fun q => hy (by rw [q]; exact .head _)
      simp [this]
theorem bindL_get {kindOf : Str → Option NameKind} {y : Str} {v : Value} : ∀ (bs : List (Str × Value)) (m : Str → Option Value), (bs.map (·.1)).Nodup → (y, v) ∈ bs → kindOf y = some .local → bindL kindOf bs m y = some v
  | (z, u) :: r, m, hn, hm, hk => by
    rw [List.map_cons, List.nodup_cons] at hn
    unfold bindL
    rcases List.mem_cons.mp hm with e | e
    · cases e
      rw [bindL_out r _ hn.1, if_pos hk]
      simp
    · exact bindL_get r _ hn.2 e hk
theorem bindC_get {kindOf : Str → Option NameKind} {y : Str} {v : Value} : ∀ (bs : List (Str × Value)) (m : Str → Option Value), (bs.map (·.1)).Nodup → (y, v) ∈ bs → kindOf y = some .cell → bindC kindOf bs m y = some v
  | (z, u) :: r, m, hn, hm, hk => by
    rw [List.map_cons, List.nodup_cons] at hn
    unfold bindC
    rcases List.mem_cons.mp hm with e | e
    · cases e
      rw [bindC_out r _ hn.1, if_neg (by rw [hk]; intro e; cases e)]
      simp
    · exact bindC_get r _ hn.2 e hk
theorem lookup_map_get {f : Str × D → Slot} {y : Str} {u : Slot} : ∀ (l : List (Str × D)), (l.map fun p => (p.1, f p)).lookup y = some u → ∃ d, (y, d) ∈ l ∧ u = f (y, d)
  | (z, d) :: r, e => by
    rw [List.map_cons, List.lookup_cons] at e
    by_cases hz : y = z
    · subst hz
      simp only [beq_self_eq_true] at e
      cases e
      exact ⟨d, .head _, rfl⟩
    · rw [show (y == z) = false by simpa using hz] at e
      obtain ⟨d', h1, h2⟩ := lookup_map_get r e
      exact ⟨d', .tail _ h1, h2⟩
theorem entry_get {names : List (Str × NameKind)} {xs : List Str} {ds : List D} {y : Str} {u : Slot} (hn : (names.map (·.1)).Nodup) (e : (entry names xs ds).get y = some u) :
    (∃ d, (y, d) ∈ xs.zip ds ∧ u = if names.lookup y = some .cell then .cel (some d) else .val d) ∨ (u = .cel none ∧ names.lookup y = some .cell) := by
  unfold entry Sto.get at e
  rw [List.lookup_append] at e
  cases z : ((xs.zip ds).map (fun p => (p.1, if names.lookup p.1 = some .cell then Slot.cel (some p.2) else .val p.2))).lookup y with
  | some u' =>
    rw [z] at e
    cases e
    exact .inl (lookup_map_get _ z)
  | none =>
    rw [z] at e
    have e2 : List.lookup y ((names.filter fun p => p.2 == .cell && !xs.contains p.1).map fun p => (p.1, Slot.cel none)) = some u := e
    have hm := mem_of_lookup e2
    obtain ⟨p, hp, hq⟩ := List.mem_map.mp hm
    cases hq
    obtain ⟨h1, h2⟩ := List.mem_filter.mp hp
    refine .inr ⟨rfl, ?_⟩
    rw [Bool.and_eq_true] at h2
    have hk : p.2 = .cell := by simpa using h2.1
    have := lookup_of_nodup hn (y := p.1) (k := p.2) h1
    rw [hk] at this
    exact this
theorem zip_vals {h : Heap} {y : Str} {d : D} : ∀ {xs : List Str} {ds : List D} {bs : List (Str × Value)}, bs.map (·.1) = xs → Reps c h ds (bs.map (·.2)) → (y, d) ∈ xs.zip ds → ∃ v, (y, v) ∈ bs ∧ Rep c h d v
  | _, _, [], e, r, hm => by cases e; simp at hm
  | _, _, p :: r, e, rs, hm => by
    cases e
    rw [List.map_cons] at rs
    cases rs with
    | cons a rs =>
      rw [List.map_cons, List.zip_cons_cons] at hm
      rcases List.mem_cons.mp hm with q | q
      · cases q
        exact ⟨p.2, .head _, a⟩
      · obtain ⟨v, h1, h2⟩ := zip_vals rfl rs q
        exact ⟨v, .tail _ h1, h2⟩

theorem Room.deeper {A : Around} {n : Nat} (R : Room A (n + 1)) (env : Env) (hk : env.scope.kind ≠ .module) (hf : ∃ a, env.frame = some a) : Room (A.deeper env) n :=
  ⟨R.hh, by have := R.dp; show A.depth + 1 + n < 900; omega, by have := R.un; show A.units + 3 + 10 * n < 9900; omega, by
    obtain ⟨l, hl, h⟩ := R.frs
    refine ⟨env :: l, by show A.frames.map _ = _; rw [hl]; rfl, fun e he => ?_⟩
    rcases List.mem_cons.mp he with rfl | he
    · exact ⟨hk, hf⟩
    · exact h e he⟩
theorem fr_deeper {A : Around} {env : Env} {a : Addr} (h : fr (A.deeper env) a) : env.frame = some a ∨ fr A a := by
  obtain ⟨l, hl, e, he, hf⟩ := h
  obtain ⟨l', h1, h2⟩ : ∃ l', A.frames = some l' ∧ l = env :: l' := by
    have : A.frames.map (env :: ·) = some l := hl
    obtain ⟨l', h1, h2⟩ := Option.map_eq_some_iff.mp this
    exact ⟨l', h1, h2.symm⟩
  subst h2
  rcases List.mem_cons.mp he with rfl | he
  · exact .inl hf
  · exact .inr ⟨l', h1, e, he, hf⟩
theorem fr_of_deeper {A : Around} {env : Env} {a : Addr} (h : fr A a) : fr (A.deeper env) a := by
  obtain ⟨l, hl, e, he, hf⟩ := h
  exact ⟨env :: l, by show A.frames.map _ = _; rw [hl]; rfl, e, .tail _ he, hf⟩
theorem Room.in1 {A : Around} {n : Nat} (R : Room A (n + 1)) : Room A.in1 n :=
  ⟨R.hh, by have := R.dp; show A.depth + n < 900; omega, by have := R.un; show A.units + 1 + 10 * n < 9900; omega, R.frs⟩

theorem frame_state {f : Addr} {fd : FuncData} {body : List Stmt} (F : Fn c f fd body) {xs : List Str} {ds : List D} (hx : xs.Nodup) (hk : ∀ x ∈ xs, fd.scope.names.lookup x = some .local ∨ fd.scope.names.lookup x = some .cell)
    {s₁ : Shared} (l : Le g s.heap) (hfl : ∀ a, fr A a → g.get? a = none ∧ (a = (callEnvC fd s.heap.objs.size f).locals ∨ IsD s.heap a)) (w : Wf c g) {bs : List (Str × Value)} (hb : bs.map (·.1) = xs) (r : Reps c g ds (bs.map (·.2)))
    (X : InCallC s (callEnvC fd s.heap.objs.size f).locals (bindL (callEnvC fd s.heap.objs.size f).kindOf bs fun _ => none) (callEnvC fd s.heap.objs.size f).cells (bindC (callEnvC fd s.heap.objs.size f).kindOf bs fun _ => none) s₁) :
    ∃ m ow, StC (fr A) c g s.heap (callEnvC fd s.heap.objs.size f) g m ow (entry fd.scope.names xs ds) s₁.heap := by
  have hN : (bs.map (·.1)).Nodup := hb ▸ hx
  have hCe : (callEnvC fd s.heap.objs.size f).cells = cellsFrom (s.heap.objs.size + 1) fd.scope.names [] := rfl
  have hge : ∀ y q, (callEnvC fd s.heap.objs.size f).cells.lookup y = some q → s.heap.objs.size < q := fun y q e => X.above y q (mem_of_lookup e)
  have how : ∀ a, a ∈ ((callEnvC fd s.heap.objs.size f).cells.filterMap fun p => (callEnvC fd s.heap.objs.size f).cells.lookup p.1) ↔ ∃ y, (callEnvC fd s.heap.objs.size f).cells.lookup y = some a := fun a => by
    rw [List.mem_filterMap]
    constructor
    · rintro ⟨p, _, e⟩; exact ⟨_, e⟩
    · rintro ⟨y, e⟩; exact ⟨(y, a), mem_of_lookup e, e⟩
  refine ⟨bindL (callEnvC fd s.heap.objs.size f).kindOf bs fun _ => none, (callEnvC fd s.heap.objs.size f).cells.filterMap fun p => (callEnvC fd s.heap.objs.size f).cells.lookup p.1, ?_⟩
  exact {
    ns := X.toInCall.ns
    kb := LeF.of X.toInCall.keep
    kg := fun a o e => X.toInCall.keep a o (l a o e)
    fl := hfl
    le₀ := Le.refl _
    fr₀ := fun a o e => .inl e
    bL := get_size _
    bO := fun a ha => by
      obtain ⟨y, e⟩ := (how a).mp ha
      exact ge_none (Le.refl _) (Nat.le_of_lt (hge y a e))
    gL := ge_none l (Nat.le_refl _)
    gO := fun a ha => by
      obtain ⟨y, e⟩ := (how a).mp ha
      exact ge_none l (Nat.le_of_lt (hge y a e))
    nL := fun ha => by
      obtain ⟨y, e⟩ := (how _).mp ha
      exact absurd (hge y _ e) (Nat.lt_irrefl _)
    live := fun a ha => by
      obtain ⟨y, e⟩ := (how a).mp ha
      obtain ⟨o, e, _⟩ := X.cell y a e
      rw [e]; rfl
    wf := w
    vars := fun y u e => by
      rcases entry_get F.nodup e with ⟨d, hm, hu⟩ | ⟨rfl, hl⟩
      · obtain ⟨v, h1, h2⟩ := zip_vals hb r hm
        have hy : y ∈ xs := (List.of_mem_zip hm).1
        rcases hk y hy with hl | hl
        · rw [if_neg (by rw [hl]; intro e; cases e)] at hu
          subst hu
          exact ⟨v, h2, .inl ⟨hl, bindL_get _ _ hN h1 hl⟩⟩
        · rw [if_pos hl] at hu
          subst hu
          obtain ⟨q, e2⟩ := Option.isSome_iff_exists.mp (cf_has fd.scope.names (s.heap.objs.size + 1) [] (mem_of_lookup hl))
          refine ⟨hl, q, some v, e2, (how q).mpr ⟨y, e2⟩, ?_, fun d' e => by cases e; exact ⟨v, rfl, h2⟩⟩
          have := X.cell y q e2
          rw [bindC_get _ _ hN h1 hl] at this
          exact this
      · obtain ⟨q, e2⟩ := Option.isSome_iff_exists.mp (cf_has fd.scope.names (s.heap.objs.size + 1) [] (mem_of_lookup hl))
        exact ⟨hl, q, _, e2, (how q).mpr ⟨y, e2⟩, X.cell y q e2, fun d' e => by cases e⟩
    inj := fun x y p p' d d' a e1 => by
      rcases entry_get F.nodup e1 with ⟨d, hm, hu⟩ | ⟨hu, hl⟩
      · split at hu <;> cases hu
      · cases hu
    kind := F.kind
    glob := F.glob
    bui := F.bui
    capp := fun y z q e1 e2 => name_of_addr X.apart (mem_of_lookup e1) (mem_of_lookup e2) }

theorem Fn.enter {f : Addr} {fd : FuncData} {body : List Stmt} (F : Fn c f fd body) {xs : List Str} {es ds : List D} (hx : xs.Nodup) (hk : ∀ x ∈ xs, fd.scope.names.lookup x = some .local ∨ fd.scope.names.lookup x = some .cell)
    (hb : ∀ (A : Around) (g : Heap) (s : Shared) (vs : List Value), Le g s.heap → Reps c g es vs → wpAny (model c.prog c.w) A (bindArgs fd ⟨vs, []⟩) (fun bs s₁ => ∃ g₁ h₁ tk, s₁ = { s with heap := h₁, toks := tk } ∧ Grow (fr A) g s.heap g₁ h₁ ∧ bs.map (·.1) = xs ∧ Reps c g₁ ds (bs.map (·.2))) Noth s)
    (hE : ∀ L, Ex c n (callEnvC fd L f) (entry fd.scope.names xs ds) body (.ret d)) : Prim c (n + 1) es (fun vs => PySem.call (.ref f) vs) d := by
  intro A g s vs R l w r
  obtain ⟨o, ho, hd⟩ := F.obj
  obtain ⟨_, _, _, _, T⟩ := w.T
  refine wpAny_call (codeAny_call_function (Nat.lt_of_lt_of_le (Nat.lt_of_le_of_lt (Nat.le_add_right _ _) R.dp) (by decide)) (l.le _ _ (w.K _ _ ho)) hd F.co F.gen F.body (codeRec_of (w.K.keeps l.le) F.code) ?_)
  refine noth (hb A.in1 g s vs l.le r) fun bs s₁ q => ?_
  obtain ⟨g1, h1, t1, rfl, G1, hbs, r1⟩ := q
  rw [F.clo]
  refine wpAny_newFunctionEnv_cells F.kind (fun p hp => ?_) fun env he s₂ X => ?_
  · have hp' : p.1 ∈ xs := hbs ▸ List.mem_map.mpr ⟨p, hp, rfl⟩
    rcases hk _ hp' with hl | hl
    · exact .inl hl
    · exact .inr ⟨hl, cf_has _ _ _ (mem_of_lookup hl)⟩
  · subst he
    have l1 := l.grow G1
    obtain ⟨m, ow, S⟩ := frame_state (A := A.deeper (callEnvC fd h1.objs.size f)) F hx hk (s := { s with heap := h1, toks := t1 }) G1.le' (fun a ha => by
      rcases fr_deeper ha with q | q
      · have : a = h1.objs.size := (Option.some.inj q).symm
        exact ⟨this ▸ ge_none G1.le' (Nat.le_refl _), .inl this⟩
      · exact ⟨(l1.fl a q).1, .inr (l1.fl a q).2⟩) (w.le G1.le) hbs r1 X
    obtain ⟨h2, t2, e2⟩ := X.toInCall.same
    have e2' : s₂ = { s with heap := h2, toks := t2 } := e2
    subst e2'
    refine ⟨(T.nolimit.keeps (G1.le.trans G1.le')).keeps X.toInCall.keep, codeAny_func (noth ((hE _).out _ _ _ _ _ _ _ (R.deeper _ (by show fd.scope.kind ≠ .module; rw [F.kind]; decide) ⟨_, rfl⟩) S) fun fl s' q => ?_)⟩
    cases fl with
    | ret v =>
      obtain ⟨h3, t3, g3, rfl, k1, k2, k3, k4, r3⟩ := q
      refine ⟨g3, h3, t3, rfl, G1.trans ⟨⟨fun a o nf e => k1.out a o (fun z => ?_) e, k1.sl⟩, k2, k3, k4⟩, r3⟩
      rcases fr_deeper z with q | q
      · have : a = h1.objs.size := (Option.some.inj q).symm
        rw [this, get_size] at e; cases e
      · exact nf q
    | _ => exact q.elim
/-- a function of the program, called with as many values as it has parameters -/
theorem Fn.prim {f : Addr} {fd : FuncData} {body : List Stmt} (F : Fn c f fd body) {xs : List Str} {ds : List D} (hE : ∀ L, Ex c n (callEnvC fd L f) (entry fd.scope.names xs ds) body (.ret d)) (hlen : xs.length = ds.length) (hx : xs.Nodup) (hk : ∀ x ∈ xs, fd.scope.names.lookup x = some .local ∨ fd.scope.names.lookup x = some .cell)
    (hb : ∀ vs : List Value, vs.length = xs.length → bindArgs fd ⟨vs, []⟩ = pure (xs.zip vs)) : Prim c (n + 1) ds (fun vs => PySem.call (.ref f) vs) d :=
  F.enter hx hk (fun A g s vs l r => by
    have hv : vs.length = xs.length := by rw [hlen, r.length]
    rw [hb vs hv]
    refine wpAny_pure ⟨g, s.heap, s.toks, rfl, Grow.refl l, ?_, ?_⟩
    · rw [List.map_fst_zip (by omega)]
    · rw [List.map_snd_zip (by omega)]; exact r) hE
end
end Mine

end
section
open PySem PySem.W PySem.Calls PyProof.Rows
set_option Elab.async false
set_option linter.unusedVariables false
namespace Mine
section
variable {c : Cx} {n : Nat} {A : Around} {g₀ b g : Heap} {env cenv : Env} {m : Str → Option Value} {ow : List Addr} {σ σ' σ'' σin σ₁ : Sto} {s : Shared} {d : D} {v : Value} {h h' : Heap} {x : Str} {o : Out} {scope : Scope}

structure Glob (c : Cx) (x : Str) (f : Value) : Prop where
  found : nsIn c.K mainGlobals x = some (some f) ∨ (nsIn c.K mainGlobals x = some none ∧ bootBuiltins x = some f ∧ x ≠ "__name__")
  dbg : (x == ("__debug__" : Str)) = false
noncomputable def KeepF (c : Cx) (f : Value) : Prop := keepIn c.K f = true ∨ (∃ id, f = .builtin id) ∨ ∃ T, f = .type T
theorem Glob.eval {x : Str} {f : Value} {pos} (F : Glob c x f) (hk : env.kindOf x = some .globalImplicit) (S : StC (fr A) c g₀ b env g m ow σ s.heap) {Q : Value → Shared → Prop} {E : Value → Shared → Prop} (k : Q f s) :
    wpAny (model c.prog c.w) A (eval (.Name x pos) env) Q E s := by
  obtain ⟨_, _, mg, mb, T⟩ := S.wf.T
  rcases F.found with e | ⟨e1, e2, e3⟩
  · exact Name_function_global S.kind hk (loadGlobal_global (by rw [S.glob]; exact T.g.keeps S.kg) (mg_of S.wf.K T.g e) k) F.dbg
  · exact Name_function_global S.kind hk (loadGlobal_builtin (by rw [S.glob]; exact T.g.keeps S.kg) (mg_none_of S.wf.K T.g e1) (by rw [S.bui]; exact T.b.keeps S.kg) ((T.builtins x e3).trans e2) k) F.dbg
theorem Ev.glob {x : Str} {f : Value} {pos} (F : Glob c x f) (hk : env.kindOf x = some .globalImplicit) : Ev c n env σ (.Name x pos) (.raw f) :=
  ⟨fun _ _ _ _ _ _ s _ S => F.eval hk S (Post.same (s := s) (tk := s.toks) S.kg (.raw f))⟩
theorem Glob.callee {x : Str} {f : Value} (F : Glob c x f) (hk : env.kindOf x = some .globalImplicit) (hf : KeepF c f) : Callee c env x f := ⟨hk, F.found, hf, F.dbg⟩

theorem kindOf_of {sc : Scope} {k : NameKind} (hs : env.scope = sc) (h : sc.names.lookup x = some k) : env.kindOf x = some k := by unfold Env.kindOf; rw [hs]; exact h
theorem lookup_relabel_other {env : Env} {k₀ : NameKind} (hk₀ : k₀ ≠ .free) : ∀ {names : List (Str × NameKind)} {x : Str}, names.lookup x = some k₀ →
    (names.map fun (n, k) => if (k == NameKind.free && env.scope.kind == .function && env.kindOf n == some .cell) then (n, NameKind.cell) else (n, k)).lookup x = some k₀
  | [], _, h => by simp at h
  | (n, k) :: r, x, h => by
    have ih := @lookup_relabel_other env k₀ hk₀ r x
    show List.lookup x ((if (k == NameKind.free && env.scope.kind == .function && env.kindOf n == some .cell) = true then (n, NameKind.cell) else (n, k)) :: _) = _
    rw [List.lookup_cons] at h
    by_cases hc : (k == NameKind.free && env.scope.kind == .function && env.kindOf n == some .cell) = true
    · rw [if_pos hc]
      simp only [List.lookup_cons]
      cases hx : x == n with
      | true =>
        rw [hx] at h; cases h
        simp only [Bool.and_eq_true, beq_iff_eq] at hc
        exact absurd hc.1.1 hk₀
      | false => rw [hx] at h; exact ih h
    · rw [if_neg hc]
      simp only [List.lookup_cons]
      cases hx : x == n with
      | true => rw [hx] at h; cases h; rfl
      | false => rw [hx] at h; exact ih h
theorem kindOf_c {C : Addr} {k : NameKind} (h : scope.names.lookup x = some k) (hk : k ≠ .free) : (cEnv scope env C).kindOf x = some k := lookup_relabel_other hk h

-- the store, name by name
theorem get_eq {u : Slot} {r : Sto} : Sto.get ((x, u) :: r) x = some u := by simp [Sto.get, List.lookup_cons]
theorem get_ne {y : Str} {u : Slot} {r : Sto} {t : Option Slot} (h : (x == y) = false) (e : Sto.get r x = t) : Sto.get ((y, u) :: r) x = t := by simp only [Sto.get, List.lookup_cons, h]; exact e
theorem get_put_eq {u : Slot} : Sto.get (Sto.put σ x u) x = some u := by rw [Sto.get_put, if_pos rfl]
theorem get_put_ne {y : Str} {u : Slot} {t : Option Slot} (h : (x == y) = false) (e : σ.get x = t) : Sto.get (Sto.put σ y u) x = t := by
  rw [Sto.get_put, if_neg (by simpa using h)]
  exact e
theorem get_frz_val {d : D} (e : σ.get x = some (.val d)) : σ.freeze.get x = some (.val d) := by rw [Sto.get_freeze, e]; rfl
theorem get_frz_own {p : Bool} {d : D} (e : σ.get x = some (.own p d)) : σ.freeze.get x = some (.val d) := by rw [Sto.get_freeze, e]; rfl
theorem get_frz_cel {d : Option D} (e : σ.get x = some (.cel d)) : σ.freeze.get x = some (.cel d) := by rw [Sto.get_freeze, e]; rfl
noncomputable def Weak (σ₂ σ₃ : Sto) : Prop := ∀ y u, σ₃.get y = some u → ∃ t, σ₂.get y = some t ∧ t.le u
theorem weak_nil {σ₂ : Sto} : Weak σ₂ [] := fun y u e => by cases e
theorem weak_cons {σ₂ r : Sto} {y : Str} {t u : Slot} (h : σ₂.get y = some t) (hle : t.le u) (w : Weak σ₂ r) : Weak σ₂ ((y, u) :: r) := fun z u' e => by
  simp only [Sto.get, List.lookup_cons] at e
  by_cases hz : z = y
  · subst hz
    simp only [beq_self_eq_true] at e
    cases e
    exact ⟨t, h, hle⟩
  · rw [show (z == y) = false by simpa using hz] at e
    exact w z u' e
theorem Slot.le_refl {t : Slot} : t.le t := .inl rfl
theorem Slot.le_cel {d : Option D} : (Slot.cel d).le (.cel none) := .inr (.inl ⟨d, rfl, rfl⟩)
theorem Slot.le_own {d : D} : (Slot.own true d).le (.own false d) := .inr (.inr ⟨d, rfl, rfl⟩)

theorem Ex1.assignL {e : Expr} {p pos : Pos} (x' : Ev c n env σ e d) (hk : env.kindOf x = some .local)
    (hs : swapsWith e (some (.Name x p)) pos.line env = pure false := by rfl) : Ex1 c n env σ (.Assign [.Name x p] e pos) (.next (σ.put x (.val d))) := by
  constructor
  intro A g₀ b g m ow s R S
  have : σ.setv x d = σ.put x (.val d) := by
    unfold Sto.setv
    split
    · rename_i od e
      have := (S.vars x _ e).1
      rw [hk] at this; cases this
    · rfl
  rw [← this]
  exact (Ex1.assign x' (.inl hk) hs).out A g₀ b g m ow s R S
theorem Ex1.assignC {e : Expr} {p pos : Pos} {od : Option D} (x' : Ev c n env σ e d) (hx : σ.get x = some (.cel od))
    (hs : swapsWith e (some (.Name x p)) pos.line env = pure false := by rfl) : Ex1 c n env σ (.Assign [.Name x p] e pos) (.next (σ.put x (.cel (some d)))) := by
  have : σ.setv x d = σ.put x (.cel (some d)) := by unfold Sto.setv; rw [hx]
  rw [← this]
  exact Ex1.assign x' (.inr ⟨od, hx⟩) hs
theorem Ex1.augL {e : Expr} {p pos : Pos} {op : Operator} {d₀ d₁ d₂ : D} (h0 : σ.get x = some (.val d₀)) (x' : Ev c n env σ e d₁) (q : Prim c n [d₀, d₁] (two (inplaceOp op)) d₂) (hk : env.kindOf x = some .local)
    (hc : (x == ("__classdict__" : Str)) = false) : Ex1 c n env σ (.AugAssign (.Name x p) op e pos) (.next (σ.put x (.val d₂))) := by
  have : σ.setv x d₂ = σ.put x (.val d₂) := by unfold Sto.setv; rw [h0]
  rw [← this]
  exact Ex1.aug h0 x' q (.inl hk) hc

-- statement by statement
variable {rest : List Stmt}
theorem X.assign {e : Expr} {p pos : Pos} (x' : Ev c n env σ e d) (hk : env.kindOf x = some .local) (y : Ex c n env (σ.put x (.val d)) rest o)
    (hs : swapsWith e (some (.Name x p)) pos.line env = pure false := by rfl) : Ex c n env σ (.Assign [.Name x p] e pos :: rest) o := Ex.cons (Ex1.assignL x' hk hs) y
theorem X.assignC {e : Expr} {p pos : Pos} {od : Option D} (x' : Ev c n env σ e d) (hx : σ.get x = some (.cel od)) (y : Ex c n env (σ.put x (.cel (some d))) rest o)
    (hs : swapsWith e (some (.Name x p)) pos.line env = pure false := by rfl) : Ex c n env σ (.Assign [.Name x p] e pos :: rest) o := Ex.cons (Ex1.assignC x' hx hs) y
theorem X.aug {e : Expr} {p pos : Pos} {op : Operator} {d₀ d₁ d₂ : D} (h0 : σ.get x = some (.val d₀)) (x' : Ev c n env σ e d₁) (q : Prim c n [d₀, d₁] (two (inplaceOp op)) d₂) (hk : env.kindOf x = some .local)
    (hc : (x == ("__classdict__" : Str)) = false) (y : Ex c n env (σ.put x (.val d₂)) rest o) : Ex c n env σ (.AugAssign (.Name x p) op e pos :: rest) o := Ex.cons (Ex1.augL h0 x' q hk hc) y
theorem X.ret {e : Expr} {pos : Pos} (x : Ev c n env σ.freeze e d) : Ex c n env σ (.Return (some e) pos :: rest) (.ret d) := Ex.stop (Ex1.ret x) (by intro _ e; cases e)
theorem X.ifT {t : Expr} {body orelse : List Stmt} {pos : Pos} (ht : Tr c n env σ t true) (h1 : Ex c n env σ body (.next σ₁)) (y : Ex c n env σ₁ rest o) : Ex c n env σ (.If t body orelse pos :: rest) o :=
  Ex.cons (Ex1.iff ht (fun _ => h1) (fun e => nomatch e)) y
theorem X.ifF {t : Expr} {body orelse : List Stmt} {pos : Pos} (ht : Tr c n env σ t false) (h1 : Ex c n env σ orelse (.next σ₁)) (y : Ex c n env σ₁ rest o) : Ex c n env σ (.If t body orelse pos :: rest) o :=
  Ex.cons (Ex1.iff ht (fun e => nomatch e) (fun _ => h1)) y
theorem X.ifF0 {t : Expr} {body : List Stmt} {pos : Pos} (ht : Tr c n env σ t false) (y : Ex c n env σ rest o) : Ex c n env σ (.If t body [] pos :: rest) o :=
  Ex.cons (Ex1.iff ht (fun e => nomatch e) (fun _ => Ex.nil)) y
theorem X.ifTs {t : Expr} {body orelse : List Stmt} {pos : Pos} (ht : Tr c n env σ t true) (h1 : Ex c n env σ body o) (hn : ∀ σ', o ≠ .next σ') : Ex c n env σ (.If t body orelse pos :: rest) o :=
  Ex.stop (Ex1.iff ht (fun _ => h1) (fun e => nomatch e)) hn
theorem X.ifFs {t : Expr} {body orelse : List Stmt} {pos : Pos} (ht : Tr c n env σ t false) (h1 : Ex c n env σ orelse o) (hn : ∀ σ', o ≠ .next σ') : Ex c n env σ (.If t body orelse pos :: rest) o :=
  Ex.stop (Ex1.iff ht (fun e => nomatch e) (fun _ => h1)) hn
theorem notnext_ret : ∀ σ', Out.ret d ≠ .next σ' := by intro _ e; cases e
theorem notnext_brk : ∀ σ', Out.brk σ ≠ .next σ' := by intro _ e; cases e

/-- a function, its frame known by its scope alone -/
theorem Fn.prim' {f : Addr} {name qual : Str} {params : Arguments} {body : List Stmt} {sc : Scope} {dV kV doc pm : Value} {an : Option Addr} {cdv ct : Value} (F : Fn c f (fnOf name qual params body sc dV kV doc pm an cdv ct) body) (xs : List Str) {ds : List D} (σ : Sto) (hσ : entry sc.names xs ds = σ) (hlen : xs.length = ds.length) (hx : decide xs.Nodup = true) (hk : (xs.all fun x => sc.names.lookup x == some .local || sc.names.lookup x == some .cell) = true)
    (hb : ∀ vs : List Value, vs.length = xs.length → bindArgs (fnOf name qual params body sc dV kV doc pm an cdv ct) ⟨vs, []⟩ = pure (xs.zip vs)) (hE : ∀ env, env.scope = sc → Ex c n env σ body (.ret d)) : Prim c (n + 1) ds (fun vs => PySem.call (.ref f) vs) d := by
  refine F.prim (fun L => ?_) hlen (of_decide_eq_true hx) (fun x hm => ?_) hb
  · show Ex c n _ (entry sc.names xs ds) body (.ret d)
    rw [hσ]
    exact hE _ rfl
  · have := List.all_eq_true.mp hk x hm
    rcases Bool.or_eq_true_iff.mp this with e | e
    · exact .inl (by simpa using e)
    · exact .inr (by simpa using e)
/-- a function of one parameter and the rest -/
theorem Fn.primV {f : Addr} {name qual : Str} {params : Arguments} {body : List Stmt} {sc : Scope} {dV kV doc pm : Value} {an : Option Addr} {cdv ct : Value} (F : Fn c f (fnOf name qual params body sc dV kV doc pm an cdv ct) body) (x1 x2 : Str) {d1 d2 : D}
    (hx : (x1 == x2) = false) (hk : ([x1, x2].all fun x => sc.names.lookup x == some .local || sc.names.lookup x == some .cell) = true)
    (hb : ∀ a b : Value, bindArgs (fnOf name qual params body sc dV kV doc pm an cdv ct) ⟨[a, b], []⟩ = (newTuple [b] >>= fun t => pure [(x1, a), (x2, t)])) (σ : Sto) (hσ : entry sc.names [x1, x2] [d1, .tup [d2]] = σ) (hE : ∀ env, env.scope = sc → Ex c n env σ body (.ret d)) : Prim c (n + 1) [d1, d2] (fun vs => PySem.call (.ref f) vs) d := by
  refine F.enter (xs := [x1, x2]) (ds := [d1, .tup [d2]]) (by simpa using hx) (fun x hm => ?_) (fun A g s vs l r => ?_) (fun L => ?_)
  · have := List.all_eq_true.mp hk x hm
    rcases Bool.or_eq_true_iff.mp this with e | e
    · exact .inl (by simpa using e)
    · exact .inr (by simpa using e)
  · obtain ⟨u, v, rfl, r1, r2⟩ := r.of2
    rw [hb]
    refine wpAny_bind (wpAny_newTuple (wpAny_pure ?_) (by rw [List.length_singleton, sizeLine_eq]; omega))
    obtain ⟨g', h', tk, e, G, r3⟩ := Post.newTup (c := c) (s := s) (tk := s.toks) l (Reps.one r2)
    exact ⟨g', h', tk, e, G, rfl, .cons (r1.le G.le) (.cons r3 .nil)⟩
  · show Ex c n _ (entry sc.names [x1, x2] [d1, .tup [d2]]) body (.ret d)
    rw [hσ]
    exact hE _ rfl
theorem Tg.nameL {p : Pos} (hk : env.kindOf x = some .local) : Tg c n env σ (.Name x p) d (σ.put x (.val d)) := by
  constructor
  intro A g₀ b g m ow s v R S r
  have : σ.setv x d = σ.put x (.val d) := by
    unfold Sto.setv
    split
    · rename_i od e
      have := (S.vars x _ e).1
      rw [hk] at this; cases this
    · rfl
  rw [← this]
  exact (Tg.name (.inl hk)).out A g₀ b g m ow s v R S r
theorem Tg.nameC {p : Pos} {od : Option D} (hx : σ.get x = some (.cel od)) : Tg c n env σ (.Name x p) d (σ.put x (.cel (some d))) := by
  have : σ.setv x d = σ.put x (.cel (some d)) := by unfold Sto.setv; rw [hx]
  rw [← this]
  exact Tg.name (.inr ⟨od, hx⟩)
theorem Done.after {σ₂ : Sto} {f : Flow} {s' : Shared} (q : Done (fr A) c g₀ b env s (.next σ₁) f s') (w : Weak σ₁ σ₂) : Done (fr A) c g₀ b env s (.next σ₂) f s' := by
  cases f with
  | next =>
    obtain ⟨h', tk, g', m', ow', rfl, S'⟩ := q
    exact ⟨h', tk, g', m', ow', rfl, S'.weaken w⟩
  | _ => exact q.elim
theorem Ex.after {ss : List Stmt} {σ₂ : Sto} (x : Ex c n env σ ss (.next σ₁)) (w : Weak σ₁ σ₂) : Ex c n env σ ss (.next σ₂) :=
  ⟨fun A g₀ b g m ow s R S => noth (x.out _ _ _ _ _ _ _ R S) fun _ _ q => q.after w⟩
theorem Ex1.after {ss : Stmt} {σ₂ : Sto} (x : Ex1 c n env σ ss (.next σ₁)) (w : Weak σ₁ σ₂) : Ex1 c n env σ ss (.next σ₂) :=
  ⟨fun A g₀ b g m ow s R S => noth (x.out _ _ _ _ _ _ _ R S) fun _ _ q => q.after w⟩
theorem TgtOk.name {p : Pos} : TgtOk (.Name x p) := .inl ⟨_, _, rfl⟩
theorem TgtOk.tup {es : List Expr} {k : Nat} {p : Pos} : TgtOk (.Tuple es k p) := .inr ⟨_, _, _, rfl⟩
theorem vs1 {P : List Value → Prop} (h : ∀ a, P [a]) : ∀ vs : List Value, vs.length = 1 → P vs
  | [a], _ => h a
theorem vs2 {P : List Value → Prop} (h : ∀ a b, P [a, b]) : ∀ vs : List Value, vs.length = 2 → P vs
  | [a, b], _ => h a b
theorem vs3 {P : List Value → Prop} (h : ∀ a b c, P [a, b, c]) : ∀ vs : List Value, vs.length = 3 → P vs
  | [a, b, c], _ => h a b c
theorem Callee.ev {f : Value} {e : Expr} {es : List Expr} {p pos} {ds : List D} (F : Glob c x f) (hk : env.kindOf x = some .globalImplicit) (hf : KeepF c f) (a : Evs c n env σ (e :: es) ds) (q : Prim c n ds (fun vs => PySem.call f vs) d)
    (he : starEach (e :: es) env = (false, PySem.eval e env) :: starEach es env := by rfl) (hplain : (starEach es env).any (·.1) = false := by rfl) : Ev c n env σ (.Call (.Name x p) (e :: es) [] pos) d := Ev.call (F.callee hk hf) a q he hplain
theorem Prim.le {ds : List D} {t : List Value → Sem Value} {k : Nat} (p : Prim c n ds t d) (h : n ≤ k) : Prim c k ds t d := fun A g s vs R l w r => p A g s vs (R.le h) l w r
end
end Mine

end
section
open PySem PySem.W PySem.Calls PyProof.Rows
set_option Elab.async false
set_option linter.unusedVariables false
namespace Mine
section
variable {c : Cx} {n : Nat} {A : Around} {g₀ b g : Heap} {env cenv : Env} {m : Str → Option Value} {ow : List Addr} {σ σ' σ'' σin σ₁ : Sto} {s : Shared} {d : D} {v : Value} {h h' : Heap} {x : Str} {o : Out} {scope : Scope}

/-- a call by name, with what is behind -/
theorem callK {f : Value} {e : Expr} {es : List Expr} {p pos} {ds : List D} {Q : Value → Shared → Prop} (F : Callee c env x f) (a : Evs c n env σ (e :: es) ds) (R : Room A n) (S : StC (fr A) c g₀ b env g m ow σ s.heap)
    (k : ∀ vs g' h' tk, Grow (fr A) g s.heap g' h' → StC (fr A) c g₀ b env g' m ow σ h' → Reps c g' ds vs → wpAny (model c.prog c.w) A (PySem.call f vs) Q Noth { s with heap := h', toks := tk })
    (he : starEach (e :: es) env = (false, PySem.eval e env) :: starEach es env := by rfl) (hplain : (starEach es env).any (·.1) = false := by rfl) : wpAny (model c.prog c.w) A (PySem.eval (.Call (.Name x p) (e :: es) [] pos) env) Q Noth s := by
  refine Call_ (F.eval S ?_)
  have hp : ∀ l : List (Bool × Sem Value), (backTo pos l).any (·.1) = l.any (·.1) := fun l => by
    induction l with
    | nil => rfl
    | cons a r ih => show (a.1 || (backTo pos r).any (·.1)) = _; rw [ih]; rfl
  refine callWith_of (P := fun h => c.K.In h) ?_ F.looks ?_
  · rw [hp, he]
    simp [hplain]
  · have h : wpAny (model c.prog c.w) A (spliced (backTo pos (starEach (e :: es) env))) (fun vs s' => c.K.In s'.heap ∧ wpAny (model c.prog c.w) A (PySem.call f ([] ++ vs) []) Q Noth s') Noth s := by
      refine a.use R S fun vs g1 h1 t1 G1 S1 r1 => ⟨S1.wf.K.keeps S1.kg, ?_⟩
      exact k vs g1 h1 t1 G1 S1 r1
    rw [he] at h ⊢
    exact evalArgs_plain h

noncomputable def plus (g : Heap) (T : Addr) (o : Obj) : Heap := ⟨Array.ofFn (n := max g.objs.size (T + 1)) fun i => if i.val = T then o else (g.objs[i.val]?.getD { cls := .none, data := .freed }), g.life⟩
theorem plus_get (g : Heap) (T : Addr) (o : Obj) (hf : o.isFreed = false) (a : Addr) : (plus g T o).get? a = if a = T then some o else g.get? a := by
  have hf' : ({ cls := Value.none, data := Data.freed } : Obj).isFreed = true := rfl
  unfold plus Heap.get?
  simp only [Array.getElem?_ofFn]
  by_cases ha : a = T
  · subst ha
    have hlt : a < max g.objs.size (a + 1) := Nat.lt_of_lt_of_le (Nat.lt_succ_self _) (Nat.le_max_right _ _)
    simp only [hlt, dif_pos, if_true]
    cases o with
    | mk c d dt sl => cases dt <;> first | rfl | cases hf
  · simp only [if_neg ha]
    by_cases hlt : a < max g.objs.size (T + 1)
    · simp only [hlt, dif_pos]
      cases q : g.objs[a]? with
      | none => simp
      | some o' => simp
    · simp only [hlt, dif_neg, not_false_eq_true]
      have : g.objs[a]? = none := Array.getElem?_eq_none (Nat.le_trans (Nat.le_max_left _ _) (Nat.not_lt.mp hlt))
      rw [this]

noncomputable def enumD : Nat → List D → List D
  | _, [] => []
  | k, d :: r => .tup [.int k, d] :: enumD (k + 1) r
theorem enumD_length : ∀ (k : Nat) (ds : List D), (enumD k ds).length = ds.length
  | _, [] => rfl
  | k, _ :: r => by rw [enumD, List.length_cons, List.length_cons, enumD_length]
theorem enumD_get : ∀ (k : Nat) (ds : List D) (i : Nat) (d : D), (enumD k ds)[i]? = some d → ∃ d₀, ds[i]? = some d₀ ∧ d = .tup [.int ((k + i : Nat) : Int), d₀]
  | _, [], i, d, e => by simp [enumD] at e
  | k, d₁ :: r, 0, d, e => by
    simp only [enumD, List.getElem?_cons_zero, Option.some.injEq] at e
    exact ⟨d₁, rfl, by rw [← e]; simp⟩
  | k, d₁ :: r, i + 1, d, e => by
    simp only [enumD, List.getElem?_cons_succ] at e
    obtain ⟨d₀, h1, h2⟩ := enumD_get (k + 1) r i d e
    exact ⟨d₀, by simpa using h1, by rw [h2]; congr 4; omega⟩

noncomputable def IsTupE (t : Expr) : Prop := ∃ es k p, t = .Tuple es k p
theorem feed_enum {e it l : Addr} {It : Nat → Heap → Prop} {Cn : Heap → Prop} {items : Array Value} {ds : List D} (D : Draws c.prog c.w A.in1 it [it, l] items.size (fun i v => items[i]? = some v) (fun i h => It i h ∧ Cn h))
    (hItf : ∀ i (h h' : Heap), It i h → (∀ o, h.get? it = some o → h'.get? it = some o) → It i h') (hItl : ∀ i h, It i h → ∃ o : Obj, h.get? it = some o ∧ ∀ v, o.data ≠ .cell v)
    (hC : ∀ h, Le g h → Cn h) (hne : e ≠ it) (hel : e ≠ l) (r : Reps c g ds items.toList) :
    Feed c A (.ref e) [e, it] g (enumD 0 ds) (fun i h => (∃ old, IsEnum h e it i old) ∧ It i h) (fun i v h => (∃ a x, v = .ref a ∧ IsEnumOut h e it i x a) ∧ It i h) IsTupE where
  frame := fun i h h' st k => ⟨let ⟨old, q⟩ := st.1; ⟨old, k e (by simp) _ q⟩, hItf _ _ _ st.2 fun o q => k it (by simp) o q⟩
  live := fun i h st a ha => by
    rcases List.mem_cons.mp ha with rfl | ha
    · obtain ⟨⟨old, q⟩, _⟩ := st
      exact ⟨_, q, fun v z => by cases z⟩
    · rw [List.mem_singleton.mp ha]
      exact hItl _ _ st.2
  next := fun i d s g' hd st l1 l2 => by
    obtain ⟨d₀, hd₀, rfl⟩ := enumD_get 0 ds i d hd
    obtain ⟨v₀, hv₀, rv⟩ := r.get hd₀
    have hlt : i < items.size := by
      have := (List.getElem?_eq_some_iff.mp hv₀).1
      simpa using this
    obtain ⟨⟨old, he⟩, hI⟩ := st
    refine wpAny_pyNext_enum_itemD D he ⟨hI, hC _ (l1.trans l2)⟩ hlt hne (by simpa using ⟨hne, hel⟩) fun x h' tk hPx heo hst' htup hz hk => ?_
    have hT : g'.get? s.heap.objs.size = none := ge_none l2 (Nat.le_refl _)
    have hf : ({ cls := .type "tuple", data := .seq #[.int i tk, x] } : Obj).isFreed = false := rfl
    have lg : Le g' (plus g' s.heap.objs.size { cls := .type "tuple", data := .seq #[.int i tk, x] }) := fun a o e => by
      rw [plus_get _ _ _ hf, if_neg (fun q => by rw [q, hT] at e; cases e)]; exact e
    refine ⟨_, h', tk + 1, plus g' s.heap.objs.size { cls := .type "tuple", data := .seq #[.int i tk, x] }, rfl, rfl, ⟨⟨_, x, rfl, heo⟩, hst'.1⟩, fun a o ha e => hk a o (fun q => ha (by simp [q])) (fun q => ha (by simp [q])) e, lg, fun a o e => ?_, ?_⟩
    · rw [plus_get _ _ _ hf] at e
      by_cases ha : a = s.heap.objs.size
      · rw [if_pos ha] at e
        cases e
        exact .inr ⟨by rw [ha]; exact get_size _, by rw [ha]; exact htup⟩
      · rw [if_neg ha] at e
        exact .inl e
    · have hx : v₀ = x := by
        have : items.toList[i]? = some x := by simpa using hPx
        rw [this] at hv₀; cases hv₀; rfl
      subst hx
      rw [Nat.zero_add]
      exact .tup ⟨_, by rw [plus_get _ _ _ hf, if_pos rfl], rfl, _, rfl⟩ (.cons (.int _ _) (.cons ((rv.le l1).le lg) .nil))
  lets := fun t i v s ht hsu => by
    obtain ⟨es, k, p, rfl⟩ := ht
    obtain ⟨⟨a, x, rfl, he⟩, hI⟩ := hsu
    refine wpAny_letOwnedTupleGo_enum he fun h' he' hs' => ⟨h', s.toks, rfl, ⟨⟨x, he'⟩, hItf _ _ _ hI fun o e => hs'.extBut _ _ (Ne.symm hne) e⟩, fun a o ha e => hs'.extBut _ _ (fun q => ha (by simp [q])) e⟩
  self := fun i s Q E st hQ => by
    obtain ⟨⟨old, he⟩, _⟩ := st
    exact wpAny_pyIter_enum he hQ
  done := fun s st l1 => by
    obtain ⟨⟨old, he⟩, hI⟩ := st
    have hl := r.length
    simp only [Array.length_toList] at hl
    rw [enumD_length, hl] at he hI
    refine wpAny_pyNext_enum_endD D he ⟨hI, hC _ l1⟩ fun h' he' => ⟨rfl, h', s.toks, rfl, fun a o ha e => he' a o (fun q => ha (by simp [q])) e⟩

theorem Ex1.forEnum {t e : Expr} {body orelse : List Stmt} {p pos' pos : Pos} {ds : List D} (F : Callee c env x (.type "enumerate")) (xe : Evs c n env σ [e] [.list ds]) (ht : IsTupE t) (lp : Lp c n env t body orelse (enumD 0 ds) σ o)
    (he : starEach [e] env = (false, PySem.eval e env) :: starEach [] env := by rfl) :
    Ex1 c n env σ (.For t (.Call (.Name x p) [e] [] pos') body orelse pos) o := by
  constructor
  intro A g₀ b g m ow s R S
  refine wpAny_For (callK F xe R S (fun vs g1 h1 t1 G1 S1 r1 => ?_) he rfl) (by intro _; rfl)
  obtain ⟨v, rfl, r2⟩ := r1.of1
  cases r2 with
  | list hl rs =>
    rename_i l items
    refine call_enumerate_list (isList_le S1.kg hl) fun h' he hit hz hk => ?_
    have hne : (h1.objs.size + 1 : Nat) ≠ h1.objs.size := by omega
    have hlt : l < h1.objs.size := by
      obtain ⟨o', e', _⟩ := hl
      exact Heap.lt_size (S1.kg _ _ e')
    refine wpAny_pyIter_enum he ?_
    have hh : A.in1.handled = none := R.hh
    have D := Draws.list (prog := c.prog) (w := c.w) hh h1.objs.size l (Nat.ne_of_lt hlt) items
    have FE := feed_enum (c := c) (A := A) (g := g1) (e := h1.objs.size + 1) D (fun i h h'' st k => st.at k) (fun i h st => by
      obtain ⟨o', e', _, hd⟩ := st
      exact ⟨o', e', fun v z => by rw [hd] at z; cases z⟩) (fun h k => isList_le k hl) hne (Nat.ne_of_gt (Nat.lt_succ_of_lt hlt)) rs
    have fr : ∀ (hp : Heap), Le hp h1 → ∀ a ∈ [h1.objs.size + 1, h1.objs.size], hp.get? a = none := fun hp k a ha => by
      rcases List.mem_cons.mp ha with rfl | ha
      · exact ge_none k (Nat.le_succ _)
      · rw [List.mem_singleton.mp ha]; exact ge_none k (Nat.le_refl _)
    have S2 := S1.grow (g' := g1) (h' := h') (Grow.of hk (Le.refl _) (S1.kg.trans hk) fun _ _ e => .inl e)
    have := lp.out A g₀ b g1 m ow { s with heap := h', toks := t1 } _ _ g1 _ 0 _ _ _ ht R FE List.drop_zero (Nat.zero_le _) ⟨⟨_, he⟩, hit⟩ (Le.refl _) (fun a ha => by
      refine ⟨fun e => ?_, fun e => ?_, S1.kb.none (fr h1 (Le.refl _) a ha), fr g1 S1.kg a ha⟩
      · have hlt := S1.ns.lt
        rcases List.mem_cons.mp ha with q | q
        · rw [← e, q] at hlt; exact absurd hlt (Nat.not_lt.mpr (Nat.le_succ _))
        · rw [← e, List.mem_singleton.mp q] at hlt; exact absurd hlt (Nat.lt_irrefl _)
      · have := S1.live _ e
        rw [fr h1 (Le.refl _) a ha] at this; cases this) S2
    exact codeAny_mono this fun r s' q => by
      cases r with
      | ok f => exact Done.move q
      | error e => exact q.elim
end
end Mine

end
section
open PySem PySem.W PySem.Calls PyProof.Rows
open AutoSeq1 (wpAny_loadPart')
set_option Elab.async false
set_option linter.unusedVariables false
set_option maxRecDepth 100000
namespace Mine
section
variable {c : Cx} {n : Nat} {A : Around} {g₀ b g : Heap} {env cenv : Env} {m : Str → Option Value} {ow : List Addr} {σ σ' σ'' σin σ₁ : Sto} {s : Shared} {d : D} {v : Value} {h h' : Heap} {x : Str} {o : Out} {scope : Scope} {prog : Program} {w : World} {E : Value → Shared → Prop}

theorem nextOf_tup_item {it l : Addr} {i : Nat} {items : Array Value} {x : Value} {Q : Value → Shared → Prop} (hit : s.heap.IsTupleIter it l i) (hl : s.heap.IsTuple l items) (hx : items[i]? = some x)
    (hQ : ∀ h', h'.IsTupleIter it l (i + 1) → Heap.SameBut it s.heap h' → Q x { s with heap := h' }) : wpAny (model prog w) A (Builtin.SmallTypes.nextOf (.ref it)) Q E s := by
  obtain ⟨o, ho, hc, hd⟩ := id hit
  obtain ⟨ol, hol, _, nl, hdl⟩ := hl
  have hT : s.TypeIs (.ref it) "tuple_iterator" := ⟨o, ho, hc⟩
  unfold Builtin.SmallTypes.nextOf
  refine wpAny_bind (wpAny_callSpecial?_slot (name := Str.ofString "__next__") hT F.slot_tuple_iterator_next (wpAny_call_entry F.slot_tuple_iterator_next hT F.entry_tuple_iterator_next ?_ (F.args_tuple_iterator_next_1 _)))
  show wpAny _ _ (field (.ref it) 0 >>= _) _ _ s
  refine wpAny_bind (wpAny_field ho hd (x := .ref l) rfl ?_)
  show wpAny _ _ (if (Value.ref l == Value.none) = true then _ else _) _ _ s
  rw [if_neg (show ¬ ((Value.ref l == Value.none) = true) from Bool.false_ne_true)]
  show wpAny _ _ (field (.ref it) 1 >>= _) _ _ s
  refine wpAny_bind (wpAny_field ho hd (x := .int i 0) rfl ?_)
  show wpAny _ _ (seqItems? (.ref l) >>= _) _ _ s
  refine wpAny_bind (wpAny_seqItems hol hdl ?_)
  simp only [Int.toNat_natCast, hx]
  refine wpAny_bind (wpAny_setField ho hd (by simp) (wpAny_pure ⟨x, rfl, wpAny_pure (hQ _ ?_ (Heap.SameBut.update ..))⟩))
  exact ⟨_, Heap.get?_update_self _ ho (Obj.isFreed_of_fields (Obj.data_mapFields hd _)), (Obj.cls_mapFields ..).trans hc, by rw [Obj.data_mapFields hd]; simp [rawInt]⟩
theorem nextOf_tup_end {it l : Addr} {i : Nat} {items : Array Value} {Q : Value → Shared → Prop} (hh : A.handled = none) (hit : s.heap.IsTupleIter it l i) (hl : s.heap.IsTuple l items) (hx : items[i]? = none)
    (hE : ∀ h' e, Heap.ExtBut it s.heap h' → (∃ o, h'.get? e = some o ∧ o.cls = .type "StopIteration") → E (.ref e) { s with heap := h' }) : wpAny (model prog w) A (Builtin.SmallTypes.nextOf (.ref it)) Q E s := by
  obtain ⟨o, ho, hc, hd⟩ := id hit
  obtain ⟨ol, hol, _, nl, hdl⟩ := hl
  have hT : s.TypeIs (.ref it) "tuple_iterator" := ⟨o, ho, hc⟩
  unfold Builtin.SmallTypes.nextOf
  refine wpAny_bind (wpAny_callSpecial?_slot (name := Str.ofString "__next__") hT F.slot_tuple_iterator_next (wpAny_call_entry F.slot_tuple_iterator_next hT F.entry_tuple_iterator_next ?_ (F.args_tuple_iterator_next_1 _)))
  show wpAny _ _ (field (.ref it) 0 >>= _) _ _ s
  refine wpAny_bind (wpAny_field ho hd (x := .ref l) rfl ?_)
  show wpAny _ _ (if (Value.ref l == Value.none) = true then _ else _) _ _ s
  rw [if_neg (show ¬ ((Value.ref l == Value.none) = true) from Bool.false_ne_true)]
  show wpAny _ _ (field (.ref it) 1 >>= _) _ _ s
  refine wpAny_bind (wpAny_field ho hd (x := .int i 0) rfl ?_)
  show wpAny _ _ (seqItems? (.ref l) >>= _) _ _ s
  refine wpAny_bind (wpAny_seqItems hol hdl ?_)
  simp only [Int.toNat_natCast, hx]
  refine wpAny_bind (wpAny_rule (wpAny_bind (wpAny_setField ho hd (by simp) ?_)))
  show wpAny _ _ (newExc (.type "StopIteration") [] >>= _) _ _ _
  refine wpAny_bind ?_
  simp only [newExc, newTuple]
  refine wpAny_bind (wpAny_newObj_type ?_ (by size_fits))
  refine wpAny_bind (m := firstArgMember _ _) (wpAny_of_eq (a := Value.none) (by first | rfl | (simp only [firstArgMember]; rfl)) ?_)
  refine wpAny_newObj_type ?_ (by size_fits)
  simp only [raiseNew]
  refine wpAny_bind (wpAny_handled ?_)
  first | rw [show A.in1.handled = none from hh] | rw [hh]
  refine wpAny_bind (wpAny_pure (wpAny_throw ?_))
  exact hE _ _ (((Heap.SameBut.update ..).extBut.push _).push _) ⟨_, Heap.get?_push_size _ rfl, rfl⟩
theorem draws_tup (hh : A.handled = none) (it l : Addr) (hne : l ≠ it) (items : Array Value) : Draws prog w A it [it, l] items.size (fun i v => items[i]? = some v) (fun i h => h.IsTupleIter it l i ∧ h.IsTuple l items) where
  live := fun _ _ st => let ⟨o, ho, _⟩ := st.1; ⟨o, ho⟩
  frame := fun _ _ _ st hk => ⟨let ⟨o, e, r⟩ := st.1; ⟨o, hk it (by simp) o e, r⟩, let ⟨o, e, r⟩ := st.2; ⟨o, hk l (by simp) o e, r⟩⟩
  item := fun i s Q E hi st hQ => by
    refine nextOf_tup_item st.1 st.2 (x := items[i]) (by simp [hi]) fun h' hit' hs' => ?_
    exact hQ _ h' s.toks (by simp [hi]) ⟨hit', st.2.extBut hs'.extBut hne⟩ hs'
  done := fun s Q E st hE => nextOf_tup_end hh st.1 st.2 (by simp) hE
theorem meets_enum_tup (l : Addr) (items : Array Value) (n : Nat) (dct : Option Addr) (sl : Array (Option Value)) :
    Meets (Builtin.«enumerate.__new__» ⟨[.type "enumerate", .ref l], []⟩) (fun _ R s => s.heap.get? l = some { cls := .type "tuple", dict := dct, data := .seq items n, slots := sl } ∧
      R (.ok (.ret (.ref (s.heap.push { cls := .type "tuple_iterator", data := .fields #[.ref l, .int 0 0] }).objs.size)))
        { s with heap := (s.heap.push { cls := .type "tuple_iterator", data := .fields #[.ref l, .int 0 0] }).push { cls := .type "enumerate", data := .fields #[.none, .bool false, .ref s.heap.objs.size, rawInt 0, .none, .none] } }) :=
  .of_wp fun prog w A R s h => by
    obtain ⟨hp, g, d, tk, os⟩ := s
    obtain ⟨hl, h⟩ := h
    have hsub := sub_enumerate
    have hL : Heap.IsTuple (Shared.heap ⟨hp, g, d, tk, os⟩) l items := ⟨_, hl, rfl, n, rfl⟩
    wp_walk using wpAny_loadPart' hl
    refine wpAny_stack_any fun st => wpAny_pure ?_
    split
    · rename_i c _ _ _ _ _
      cases (c == Value.type "enumerate")
      · wp_walk using wpAny_loadPart' hl, wpAny_pyIter_tuple hL
        exact ⟨_, rfl, h⟩
      · wp_walk using wpAny_loadPart' hl, wpAny_pyIter_tuple hL
        exact ⟨_, rfl, h⟩
    · wp_walk using wpAny_loadPart' hl, wpAny_pyIter_tuple hL
      exact ⟨_, rfl, h⟩
theorem call_enum_tup {l : Addr} {items : Array Value} {Q : Value → Shared → Prop} (hL : s.heap.IsTuple l items)
    (h : ∀ h', IsEnum h' (s.heap.objs.size + 1) s.heap.objs.size 0 .none → h'.IsTupleIter s.heap.objs.size l 0 → h'.objs.size = s.heap.objs.size + 2 →
      (∀ b o, s.heap.get? b = some o → h'.get? b = some o) → Q (.ref (s.heap.objs.size + 1)) { s with heap := h' }) :
    wpAny (model prog w) A (call (.type "enumerate") [.ref l]) Q E s := by
  obtain ⟨⟨c, dct, dt, sl⟩, hl, hc, n, hd⟩ := hL
  replace hc : c = .type "tuple" := hc
  replace hd : dt = .seq items n := hd
  subst hc hd
  refine callType_new F.called_enumerate (by decide) (F.typeCall_enumerate_1 _) (F.newCall_enumerate_1 _) (fun obj => F.args_object_init_2 obj _) F.entry_enumerate_new
    (meets_enum_tup l items n dct sl) ⟨hl, ?_⟩
  have hz : (s.heap.push { cls := .type "tuple_iterator", data := .fields #[.ref l, .int 0 0] }).objs.size = s.heap.objs.size + 1 := Heap.size_push ..
  show _ ∧ _
  rw [hz]
  have he : IsEnum ((s.heap.push { cls := .type "tuple_iterator", data := .fields #[.ref l, .int 0 0] }).push
      { cls := .type "enumerate", data := .fields #[.none, .bool false, .ref s.heap.objs.size, rawInt 0, .none, .none] }) (s.heap.objs.size + 1) s.heap.objs.size 0 .none := by
    have := Heap.get?_push_size (s.heap.push { cls := .type "tuple_iterator", data := .fields #[.ref l, .int 0 0] })
      (o := { cls := .type "enumerate", data := .fields #[.none, .bool false, .ref s.heap.objs.size, rawInt 0, .none, .none] }) rfl
    rw [hz] at this; exact this
  refine ⟨⟨_, he, rfl⟩, h _ he ⟨_, Heap.get?_push_of_some _ (Heap.get?_push_size _ rfl), rfl, rfl⟩ (by rw [Heap.size_push, hz]) fun b o x => Heap.get?_push_of_some _ (Heap.get?_push_of_some _ x)⟩
theorem Ex1.forEnumT {t e : Expr} {body orelse : List Stmt} {p pos' pos : Pos} {ds : List D} (F : Callee c env x (.type "enumerate")) (xe : Evs c n env σ [e] [.tup ds]) (ht : IsTupE t) (lp : Lp c n env t body orelse (enumD 0 ds) σ o)
    (he : starEach [e] env = (false, PySem.eval e env) :: starEach [] env := by rfl) :
    Ex1 c n env σ (.For t (.Call (.Name x p) [e] [] pos') body orelse pos) o := by
  constructor
  intro A g₀ b g m ow s R S
  refine wpAny_For (callK F xe R S (fun vs g1 h1 t1 G1 S1 r1 => ?_) he rfl) (by intro _; rfl)
  obtain ⟨v, rfl, r2⟩ := r1.of1
  cases r2 with
  | tup hl rs =>
    rename_i l items
    have toT : ∀ h : Heap, Le g1 h → h.IsTuple l items := fun h k => let ⟨o, e, r⟩ := hl; ⟨o, k _ _ e, r⟩
    refine call_enum_tup (toT _ S1.kg) fun h' he hit hz hk => ?_
    have hne : (h1.objs.size + 1 : Nat) ≠ h1.objs.size := by omega
    have hlt : l < h1.objs.size := by
      obtain ⟨o', e', _⟩ := hl
      exact Heap.lt_size (S1.kg _ _ e')
    refine wpAny_pyIter_enum he ?_
    have hh : A.in1.handled = none := R.hh
    have D := draws_tup (prog := c.prog) (w := c.w) hh h1.objs.size l (Nat.ne_of_lt hlt) items
    have FE := feed_enum (c := c) (A := A) (g := g1) (e := h1.objs.size + 1) D (fun i h h'' st k => let ⟨o, e, r⟩ := st; ⟨o, k o e, r⟩) (fun i h st => by
      obtain ⟨o', e', _, hd⟩ := st
      exact ⟨o', e', fun v z => by rw [hd] at z; cases z⟩) (fun h k => toT h k) hne (Nat.ne_of_gt (Nat.lt_succ_of_lt hlt)) rs
    have fr : ∀ (hp : Heap), Le hp h1 → ∀ a ∈ [h1.objs.size + 1, h1.objs.size], hp.get? a = none := fun hp k a ha => by
      rcases List.mem_cons.mp ha with rfl | ha
      · exact ge_none k (Nat.le_succ _)
      · rw [List.mem_singleton.mp ha]; exact ge_none k (Nat.le_refl _)
    have S2 := S1.grow (g' := g1) (h' := h') (Grow.of hk (Le.refl _) (S1.kg.trans hk) fun _ _ e => .inl e)
    have := lp.out A g₀ b g1 m ow { s with heap := h', toks := t1 } _ _ g1 _ 0 _ _ _ ht R FE List.drop_zero (Nat.zero_le _) ⟨⟨_, he⟩, hit⟩ (Le.refl _) (fun a ha => by
      refine ⟨fun e => ?_, fun e => ?_, S1.kb.none (fr h1 (Le.refl _) a ha), fr g1 S1.kg a ha⟩
      · have hlt := S1.ns.lt
        rcases List.mem_cons.mp ha with q | q
        · rw [← e, q] at hlt; exact absurd hlt (Nat.not_lt.mpr (Nat.le_succ _))
        · rw [← e, List.mem_singleton.mp q] at hlt; exact absurd hlt (Nat.lt_irrefl _)
      · have := S1.live _ e
        rw [fr h1 (Le.refl _) a ha] at this; cases this) S2
    exact codeAny_mono this fun r s' q => by
      cases r with
      | ok f => exact Done.move q
      | error e => exact q.elim
end
end Mine

end
section
open PySem PySem.W PySem.Calls PyProof.Rows
set_option Elab.async false
set_option linter.unusedVariables false
set_option maxRecDepth 100000
namespace Mine
section
variable {c : Cx} {n : Nat} {A : Around} {g₀ b g : Heap} {env cenv : Env} {m : Str → Option Value} {ow : List Addr} {σ σ' σ'' σin σ₁ : Sto} {s : Shared} {d : D} {v : Value} {h h' : Heap} {x : Str} {o : Out} {scope : Scope} {prog : Program} {w : World} {E : Value → Shared → Prop}

noncomputable def rangeD (k : Nat) : List D := (List.range k).map fun (i : Nat) => D.int (i : Int)
theorem feed_range (hh : A.handled = none) {I : Addr} {k : Nat} : Plain c A (.ref I) [I] g (rangeD k) (fun i h => IsRangeIter h I (i : Int) ((k : Int) - i) 1) where
  frame := fun i h h' st kk => kk I (by simp) _ st
  live := fun i h st a ha => by
    rw [List.mem_singleton.mp ha]
    exact ⟨_, st, fun v z => by cases z⟩
  next := fun i d s g' hd st l1 l2 => by
    simp only [rangeD, List.getElem?_map, Option.map_eq_some_iff] at hd
    obtain ⟨j, hj, rfl⟩ := hd
    obtain ⟨hlt, he⟩ := List.getElem?_eq_some_iff.mp hj
    rw [List.length_range] at hlt
    rw [List.getElem_range] at he
    subst he
    refine wpAny_pyNext_range_item st (by omega) fun h' hit hs => ?_
    refine ⟨_, h', s.toks + 1, g', rfl, rfl, ?_, fun a o ha e => (hs.2 a (fun q => ha (by simp [q]))).trans e, Le.refl _, fun _ _ e => .inl e, .int _ _⟩
    have e1 : (i : Int) + 1 = ((i + 1 : Nat) : Int) := by omega
    have e2 : (k : Int) - i - 1 = (k : Int) - ((i + 1 : Nat) : Int) := by omega
    rw [e1, e2] at hit
    exact hit
  lets := fun t i v s ht hit => lets_quiet (T := "range_iterator") ht ⟨_, hit, rfl⟩ (by decide +kernel) ⟨s.heap, s.toks, rfl, hit, fun _ _ _ e => e⟩
  self := fun _ _ _ _ st hQ => wpAny_pyIter_rangeiter st hQ
  done := fun s st l1 => by
    refine wpAny_pyNext_range_end hh st ?_ fun h' he => ⟨rfl, h', s.toks, rfl, fun a o ha e => he a o (fun q => ha (by simp [q])) e⟩
    simp [rangeD]
theorem Ex1.forRange {t e : Expr} {body orelse : List Stmt} {p pos' pos : Pos} {k : Nat} (F : Callee c env x (.type "range")) (xe : Evs c n env σ [e] [.int (k : Int)]) (hk : k ≤ 1000000) (ht : TgtOk t) (lp : Lp c n env t body orelse (rangeD k) σ o)
    (he : starEach [e] env = (false, PySem.eval e env) :: starEach [] env := by rfl) :
    Ex1 c n env σ (.For t (.Call (.Name x p) [e] [] pos') body orelse pos) o := by
  constructor
  intro A g₀ b g m ow s R S
  refine wpAny_For (callK F xe R S (fun vs g1 h1 t1 G1 S1 r1 => ?_) he rfl) (by intro _; rfl)
  obtain ⟨v, rfl, r2⟩ := r1.of1
  cases r2
  refine call_range_1 ?_
  refine wpAny_pyIter_range (IsRange.new ..) (small_one (by omega) (by omega) (by omega) (by omega)) ?_
  dsimp only
  generalize hH : h1.push { cls := .type "range", data := .fields #[.int 0 t1, .int (k : Int) _, .int 1 (t1 + 1)] } = H
  have k1 : Le h1 H := hH ▸ le_push _ _
  have zH : H.objs.size = h1.objs.size + 1 := by rw [← hH, Heap.size_push]
  generalize hJ : H.push { cls := .type "range_iterator", data := .fields #[rawInt 0, rawInt (Builtin.Range.rangeSize 0 (k : Int) 1), rawInt 1] } = J
  have k2 : Le H J := hJ ▸ le_push _ _
  have st : IsRangeIter J H.objs.size ((0 : Nat) : Int) ((k : Int) - ((0 : Nat) : Int)) 1 := by
    have e : J.get? H.objs.size = _ := hJ ▸ Heap.get?_push_size _ rfl
    show J.get? _ = _
    rw [e, rangeSize_one]
    have : (if (0 : Int) < (k : Int) then (k : Int) - 0 else 0) = (k : Int) - ((0 : Nat) : Int) := by split <;> omega
    rw [this]
    rfl
  have lt : h1.objs.size ≤ H.objs.size := by omega
  have S2 := S1.grow (g' := g1) (h' := J) (Grow.of (k1.trans k2) (Le.refl _) (S1.kg.trans (k1.trans k2)) fun _ _ e => .inl e)
  have := lp.out A g₀ b g1 m ow { s with heap := J, toks := t1 + 1 + 1 } _ _ g1 _ 0 _ _ TgtOk ht R (feed_range (c := c) (g := g1) (k := k) (I := H.objs.size) R.hh) List.drop_zero (Nat.zero_le _) st (Le.refl _) (fun a ha => by
    rw [List.mem_singleton.mp ha]
    refine ⟨fun e => ?_, fun e => ?_, S1.kb.none (ge_none (Le.refl _) lt), ge_none S1.kg lt⟩
    · have hlt := S1.ns.lt
      rw [← e] at hlt
      exact absurd hlt (Nat.not_lt.mpr lt)
    · have := S1.live _ e
      rw [ge_none (Le.refl _) lt] at this; cases this) S2
  exact codeAny_mono this fun r s' q => by
    cases r with
    | ok f => exact Done.move q
    | error e => exact q.elim

noncomputable def valsD (l : List (Str × Str)) : List D := l.map fun p => D.str p.2
theorem DV.get : ∀ {l : List (Str × Str)} {r : List (Str × Value)} {i : Nat} {p : Str × Str}, DV l r → l[i]? = some p → ∃ t, r[i]? = some (p.1, .str p.2 t)
  | _, _, 0, p, .cons (t := t) q, e => by cases e; exact ⟨t, rfl⟩
  | _, _, i + 1, p, .cons q, e => by
    obtain ⟨t, ht⟩ := DV.get (i := i) q (by simpa using e)
    exact ⟨t, by simpa using ht⟩
theorem feed_vals (hh : A.handled = none) {I a : Addr} {l : List (Str × Str)} {kvs : List (Str × Value)} {ep : Nat} (hm : g.DictAt (strKind c.prog c.w) a kvs ep) (q : DV l kvs) : Plain c A (.ref I) [I] g (valsD l) (fun i h => h.IsValIter I a i kvs.length ep) where
  frame := fun i h h' st kk => let ⟨o, e, r⟩ := st; ⟨o, kk I (by simp) o e, r⟩
  live := fun i h st a ha => by
    rw [List.mem_singleton.mp ha]
    obtain ⟨o, e, _, hd⟩ := st
    exact ⟨o, e, fun v => by rw [hd]; intro z; cases z⟩
  next := fun i d s g' hd st l1 l2 => by
    simp only [valsD, List.getElem?_map, Option.map_eq_some_iff] at hd
    obtain ⟨p, hp, rfl⟩ := hd
    obtain ⟨t, ht⟩ := q.get hp
    have hm' : s.heap.DictAt (strKind c.prog c.w) a kvs ep := let ⟨o, es, e, r⟩ := hm; ⟨o, es, (l1.trans l2) _ _ e, r⟩
    refine wpAny_pyNext_values_item st hm' ht fun h' hit hs => ?_
    exact ⟨_, h', s.toks, g', rfl, rfl, hit, fun a o ha e => (hs.2 a (fun q => ha (by simp [q]))).trans e, Le.refl _, fun _ _ e => .inl e, .str _ _⟩
  lets := fun t i v s ht hit => lets_quiet (T := "dict_valueiterator") ht (by obtain ⟨o, e, hc, _⟩ := hit; exact ⟨o, e, hc⟩) (by decide +kernel) ⟨s.heap, s.toks, rfl, hit, fun _ _ _ e => e⟩
  self := fun _ _ _ _ st hQ => wpAny_pyIter_valiter st hQ
  done := fun s st l1 => by
    have hm' : s.heap.DictAt (strKind c.prog c.w) a kvs ep := let ⟨o, es, e, r⟩ := hm; ⟨o, es, l1 _ _ e, r⟩
    refine wpAny_pyNext_values_end hh st hm' ?_ fun h' he => ⟨rfl, h', s.toks, rfl, fun a o ha e => he a o (fun q => ha (by simp [q])) e⟩
    simp [valsD, q.length]
theorem Ex1.forValues {t e : Expr} {body orelse : List Stmt} {apos pos' pos : Pos} {l : List (Str × Str)} (xe : Ev c n env σ e (.dict l)) (ht : TgtOk t) (lp : Lp c n env t body orelse (valsD l) σ o)
    (hbase : attributeBase e (Str.ofString "values") env (PySem.eval e env) = PySem.eval e env := by rfl) (hline : (apos.endLine == pos'.line) = true := by rfl) :
    Ex1 c n env σ (.For t (.Call (.Attribute e (Str.ofString "values") apos) [] [] pos') body orelse pos) o := by
  constructor
  intro A g₀ b g m ow s R S
  refine wpAny_For (wpAny_Call_method_lateS hbase (by rfl) hline (xe.use R S fun v g1 h1 t1 G1 S1 r1 => ?_)) (by intro _; rfl)
  cases r1 with
  | dict hd q hsys =>
    rename_i a kvs
    have hd1 := hd.keep S1.kg
    refine ⟨"dict", _, F.plainAttrs_dict, F.slot_dict_values, F.type_dict_values, hd1.typeIs, hd1.mapOf.noDict, ?_⟩
    refine callWith_method0 (env := env) (call_meetsIn F.slot_dict_values hd1.typeIs F.entry_dict_values (F.args_dict_values_1 _) (meets_dict_values _ a hsys) ⟨⟨kvs, hd1⟩, ?_⟩)
    dsimp only
    obtain ⟨o0, es, ep, e0, r0⟩ := hd
    have hm : g1.DictAt (strKind c.prog c.w) a kvs ep := ⟨o0, es, e0, r0⟩
    generalize hH : h1.push { cls := .type "dict_values", data := .fields #[.ref a] } = H
    have k1 : Le h1 H := hH ▸ le_push _ _
    have zH : H.objs.size = h1.objs.size + 1 := by rw [← hH, Heap.size_push]
    refine wpAny_pyIter_values (d := a) (kvs := kvs) (ep := ep) (knd := strKind c.prog c.w) ⟨_, hH ▸ Heap.get?_push_size _ rfl, rfl, rfl⟩ ⟨o0, es, (S1.kg.trans k1) _ _ e0, r0⟩ ?_
    dsimp only
    generalize hJ : H.push { cls := .type "dict_valueiterator", data := .fields #[.ref a, .int 0 0, .int kvs.length 0, .int ep 0] } = J
    have k2 : Le H J := hJ ▸ le_push _ _
    have st : J.IsValIter H.objs.size a 0 kvs.length ep := ⟨_, hJ ▸ Heap.get?_push_size _ rfl, rfl, rfl⟩
    have lt : h1.objs.size ≤ H.objs.size := by omega
    have S2 := S1.grow (g' := g1) (h' := J) (Grow.of (k1.trans k2) (Le.refl _) (S1.kg.trans (k1.trans k2)) fun _ _ e => .inl e)
    have := lp.out A g₀ b g1 m ow { s with heap := J, toks := t1 } _ _ g1 _ 0 _ _ TgtOk ht R (feed_vals R.hh hm q) List.drop_zero (Nat.zero_le _) st (Le.refl _) (fun a ha => by
      rw [List.mem_singleton.mp ha]
      refine ⟨fun e => ?_, fun e => ?_, S1.kb.none (ge_none (Le.refl _) lt), ge_none S1.kg lt⟩
      · have hlt := S1.ns.lt
        rw [← e] at hlt
        exact absurd hlt (Nat.not_lt.mpr lt)
      · have := S1.live _ e
        rw [ge_none (Le.refl _) lt] at this; cases this) S2
    exact codeAny_mono this fun r s' q => by
      cases r with
      | ok f => exact Done.move q
      | error e => exact q.elim
end
end Mine

end
section
open PySem PySem.W PySem.Calls PyProof.Rows
set_option Elab.async false
set_option linter.unusedVariables false
namespace Mine
section
variable {c : Cx} {n : Nat} {A : Around} {g₀ b g : Heap} {env cenv : Env} {m : Str → Option Value} {ow : List Addr} {σ σ' σ'' σin σ₁ : Sto} {s : Shared} {d : D} {v : Value} {h h' : Heap} {x : Str} {o : Out} {scope : Scope}

theorem weak_put {u : Slot} (hx : σ.get x = none) : Weak (σ.put x u) σ := fun y t e => ⟨t, by rw [Sto.get_put, if_neg (fun q => by rw [q, hx] at e; cases e)]; exact e, .inl rfl⟩
theorem weak_refl : Weak σ σ := fun y t e => ⟨t, e, .inl rfl⟩
theorem Lp.after {t : Expr} {body orelse : List Stmt} {rem : List D} {σ₂ : Sto} (x : Lp c n env t body orelse rem σ (.next σ₁)) (w : Weak σ₁ σ₂) : Lp c n env t body orelse rem σ (.next σ₂) := by
  constructor
  intro A g₀ b g m ow s it wr gF ds i St Su TO hTO R F hdr hi st lF hw S
  refine codeAny_mono (x.out A g₀ b g m ow s it wr gF ds i St Su TO hTO R F hdr hi st lF hw S) fun r s' q => ?_
  cases r with
  | ok f => exact q.after w
  | error e => exact q
theorem Lp.fold {α β : Type} {t : Expr} {body orelse : List Stmt} (ht : TgtOk t) (enc : α → D) (step : β → α → β) (S : β → Sto) (I : β → Prop) : ∀ (xs : List α) (b : β), I b →
    (∀ b, I b → ∀ x ∈ xs, I (step b x) ∧ ∃ σ₁ σ₂, Tg c n env (S b) t (enc x) σ₁ ∧ Ex c n env σ₁ body (.next σ₂) ∧ Weak σ₂ (S (step b x))) → (I (xs.foldl step b) → Ex c n env (S (xs.foldl step b)) orelse o) →
    Lp c n env t body orelse (xs.map enc) (S b) o
  | [], b, hI, _, he => Lp.nil (he hI)
  | x :: r, b, hI, h, he => by
    obtain ⟨hI', σ₁, σ₂, h1, h2, h3⟩ := h b hI x (.head _)
    exact Lp.next ht h1 h2 h3 (Lp.fold ht enc step S I r _ hI' (fun b hb y hy => h b hb y (.tail _ hy)) he)
theorem Lp.find {α : Type} {t : Expr} {body orelse : List Stmt} (ht : TgtOk t) (enc : α → D) (p : α → Bool) (S : Sto) (σo : Option α → Sto) : ∀ (xs : List α),
    (∀ x ∈ xs, ∃ σ₁, Tg c n env S t (enc x) σ₁ ∧ (p x = false → ∃ σ₂, Ex c n env σ₁ body (.next σ₂) ∧ Weak σ₂ S) ∧ (p x = true → ∃ σ₂, Ex c n env σ₁ body (.brk σ₂) ∧ Weak σ₂ (σo (some x)))) →
    (xs.find? p = none → Ex c n env S orelse (.next (σo none))) → Lp c n env t body orelse (xs.map enc) S (.next (σo (xs.find? p)))
  | [], _, he => Lp.nil (he rfl)
  | x :: r, h, he => by
    obtain ⟨σ₁, h1, h2, h3⟩ := h x (.head _)
    cases hp : p x with
    | true =>
      obtain ⟨σ₂, h4, h5⟩ := h3 hp
      rw [List.find?_cons_of_pos hp]
      exact (Lp.brk ht h1 h4).after h5
    | false =>
      obtain ⟨σ₂, h4, h5⟩ := h2 hp
      have e : (x :: r).find? p = r.find? p := List.find?_cons_of_neg (by simp [hp])
      rw [e] at he ⊢
      exact Lp.next ht h1 h4 h5 (Lp.find ht enc p S σo r (fun y hy => h y (.tail _ hy)) he)
theorem CLp.list {α : Type} {elt t iter : Expr} {ifs : List Expr} {pos : Pos} {D₀ : Addr} (ht : TgtOk t) (enc : α → D) (p : α → Bool) (f : α → D) : ∀ (xs : List α) (outs : List D), outs.length + xs.length ≤ sizeLine →
    (∀ x ∈ xs, ∃ σ₁, Tg c n cenv σ t (enc x) σ₁ ∧ Weak σ₁ σ ∧ Ts c n cenv σ₁ ifs (p x) ∧ (p x = true → Ev c n cenv σ₁ elt (f x))) →
    CLp c n (.ListComp elt [⟨t, iter, ifs, 0⟩] scope pos) cenv σ D₀ (AcL c D₀) (xs.map enc) outs (outs ++ (xs.filter p).map f)
  | [], outs, _, _ => by simpa using CLp.nil turns_list accu_list
  | x :: r, outs, hl, h => by
    obtain ⟨σ₁, h1, h2, h3, h4⟩ := h x (.head _)
    simp only [List.length_cons] at hl
    have hr := fun y hy => h y (.tail _ hy)
    cases hp : p x with
    | false =>
      rw [List.filter_cons_of_neg (by simp [hp])]
      rw [hp] at h3
      exact CLp.turn turns_list ht accu_list h1 h2 h3 (fun e => by cases e) (fun _ => rfl) (CLp.list ht enc p f r outs (by omega) hr)
    | true =>
      rw [List.filter_cons_of_pos hp]
      rw [hp] at h3
      have : CLp c n (.ListComp elt [⟨t, iter, ifs, 0⟩] scope pos) cenv σ D₀ (AcL c D₀) (r.map enc) (outs ++ [f x]) ((outs ++ [f x]) ++ (r.filter p).map f) := CLp.list ht enc p f r (outs ++ [f x]) (by simp; omega) hr
      rw [List.append_assoc] at this
      exact CLp.turn turns_list ht accu_list h1 h2 h3 (fun _ => em_list (h4 hp) (by omega)) (fun e => by cases e) this
theorem CLp.dict {α : Type} {kx vx t iter : Expr} {ifs : List Expr} {pos : Pos} {D₀ : Addr} (ht : TgtOk t) (enc : α → D) (fk fv : α → Str) : ∀ (xs : List α) (outs : List (Str × Str)), outs.length + xs.length ≤ sizeLine →
    (∀ x ∈ xs, ∃ σ₁, Tg c n cenv σ t (enc x) σ₁ ∧ Weak σ₁ σ ∧ Ts c n cenv σ₁ ifs true ∧ Ev c n cenv σ₁ kx (.str (fk x)) ∧ Ev c n cenv σ₁ vx (.str (fv x))) →
    CLp c n (.DictComp kx vx [⟨t, iter, ifs, 0⟩] scope pos) cenv σ D₀ (AcD c D₀) (xs.map enc) outs (xs.foldl (fun l x => dput l (fk x) (fv x)) outs)
  | [], outs, _, _ => CLp.nil turns_dict accu_dict
  | x :: r, outs, hl, h => by
    obtain ⟨σ₁, h1, h2, h3, h4, h5⟩ := h x (.head _)
    simp only [List.length_cons] at hl
    have hlen : (dput outs (fk x) (fv x)).length ≤ outs.length + 1 := by
      unfold dput
      split <;> simp
    exact CLp.turn turns_dict ht accu_dict h1 h2 h3 (fun _ => em_dict h4 h5 (by omega)) (fun e => by cases e) (CLp.dict ht enc fk fv r _ (by omega) fun y hy => h y (.tail _ hy))

-- what the heap's start holds
noncomputable def toD (K : Frag) : Nat → Value → Option D
  | 0, _ => none
  | _ + 1, .int i _ => some (.int i)
  | _ + 1, .str x _ => some (.str x)
  | k + 1, .ref a => match K.lookup a with
    | some o => match o.data with
      | .seq items _ => if o.cls == .type "tuple" then (items.toList.mapM (toD K k)).map D.tup else none
      | _ => none
    | none => none
  | _ + 1, _ => none
theorem toDs {K : Frag} {k : Nat} (ih : ∀ v d, toD K k v = some d → Rep c g d v) : ∀ (vs : List Value) (ds : List D), vs.mapM (toD K k) = some ds → Reps c g ds vs
  | [], ds, e => by
    simp only [List.mapM_nil] at e
    cases e
    exact .nil
  | v :: r, ds, e => by
    rw [List.mapM_cons] at e
    cases h1 : toD K k v with
    | none => rw [h1] at e; cases e
    | some d =>
      rw [h1] at e
      cases h2 : r.mapM (toD K k) with
      | none =>
        rw [h2] at e; cases e
      | some ds' =>
        rw [h2] at e
        cases e
        exact .cons (ih v d h1) (toDs ih r ds' h2)
theorem toD_rep {K : Frag} (X : K.In g) : ∀ (k : Nat) (v : Value) (d : D), toD K k v = some d → Rep c g d v
  | 0, _, _, e => by simp [toD] at e
  | k + 1, .int i t, d, e => by simp only [toD, Option.some.injEq] at e; subst e; exact .int _ _
  | k + 1, .str x t, d, e => by simp only [toD, Option.some.injEq] at e; subst e; exact .str _ _
  | k + 1, .ref a, d, e => by
    unfold toD at e
    split at e
    · rename_i o ho
      split at e
      · rename_i items nn hd
        split at e
        · rename_i hc
          obtain ⟨ds, e1, rfl⟩ := Option.map_eq_some_iff.mp e
          exact .tup ⟨o, X _ _ ho, by simpa using hc, nn, hd⟩ (toDs (toD_rep X k) _ _ e1)
        · cases e
      · cases e
    · cases e
  | k + 1, .none, d, e => by simp [toD] at e
  | k + 1, .bool _, d, e => by simp [toD] at e
theorem Ev.globD {x : Str} {f : Value} {pos} {k : Nat} (F : Glob c x f) (hk : env.kindOf x = some .globalImplicit) (e : toD c.K k f = some d) : Ev c n env σ (.Name x pos) d :=
  ⟨fun _ _ _ _ _ _ s _ S => F.eval hk S (Post.same (s := s) (tk := s.toks) S.kg (toD_rep S.wf.K k f d e))⟩
end
end Mine

end
section
open PySem PySem.W PySem.Calls PyProof.Rows
set_option Elab.async false
set_option linter.unusedVariables false
namespace Mine
section
variable {c : Cx} {n : Nat} {A : Around} {g₀ b g : Heap} {env cenv : Env} {m : Str → Option Value} {ow : List Addr} {σ σ' σ'' σin σ₁ : Sto} {s : Shared} {d : D} {v : Value} {h h' : Heap} {x : Str} {o : Out} {scope : Scope}

theorem lt_line {k : Nat} (h : k ≤ 10000) : k ≤ sizeLine := by rw [sizeLine_eq]; omega
theorem Ex.nilW (w : Weak σ σ') : Ex c n env σ [] (.next σ') := Ex.after Ex.nil w
theorem Ev.subOwn {i : Expr} {np pos : Pos} {ds : List D} {k : Int} {p : Bool} (h0 : σ.get x = some (.own p (.list ds))) (xi : Ev c n env σ i (.int k)) (hk0 : 0 ≤ k) (hs : k < 2 ^ 63) (hk : ds[k.toNat]? = some d)
    (hdb : (x == ("__debug__" : Str)) = false := by kernel_rfl) (ht : ∀ o i', ∃ ops, subscripted i false o i' = operate ops (getItem o i') := by intro _ _; exact ⟨_, rfl⟩) : Ev c n env σ (.Subscript (.Name x np) i pos) d := by
  constructor
  intro A g₀ b g m ow s R S
  refine Subscript_ (wpAny_Name (loadOwn S h0 fun a e1 e2 e3 => ?_) hdb)
  refine xi.use R S fun iv g1 h1 t1 G1 S1 r1 => ?_
  cases r1
  cases e3 with
  | list il pl rs =>
    rename_i items
    obtain ⟨v0, hv0, rv0⟩ := rs.get hk
    obtain ⟨ops, hops⟩ := ht (.ref a) (.int k (by assumption))
    refine tail_any (il.at fun o e => G1.keep.out _ _ (S.own_not e2) e).is.typeIs slot_list_getitem.lookup ?_ hops
    exact wpAny_getItem_list (il.at fun o e => G1.keep.out _ _ (S.own_not e2) e).is hk0 hs (by simpa using hv0) (Post.after (tk := t1) G1 (Post.same (tk := t1) S1.kg (rv0.le G1.le)))
theorem Lp.folds {α β : Type} {t : Expr} {body orelse : List Stmt} (ht : TgtOk t) (enc : α → D) (step : β → α → β) (S : β → Sto) (I : List α → β → Prop)
    (h : ∀ x r b, I (x :: r) b → I r (step b x) ∧ ∃ σ₁ σ₂, Tg c n env (S b) t (enc x) σ₁ ∧ Ex c n env σ₁ body (.next σ₂) ∧ Weak σ₂ (S (step b x))) (he : ∀ b, I [] b → Ex c n env (S b) orelse (.next (S b))) :
    ∀ (xs : List α) (b : β), I xs b → Lp c n env t body orelse (xs.map enc) (S b) (.next (S (xs.foldl step b)))
  | [], b, hI => Lp.nil (he b hI)
  | x :: r, b, hI => by
    obtain ⟨hI', σ₁, σ₂, h1, h2, h3⟩ := h x r b hI
    exact Lp.next ht h1 h2 h3 (Lp.folds ht enc step S I h he r _ hI')
end
end Mine

end
section
open PySem PySem.W PySem.Calls PyProof.Rows
set_option Elab.async false
set_option linter.unusedVariables false
namespace Mine
section
variable {c : Cx} {n : Nat} {A : Around} {g₀ b g : Heap} {env cenv : Env} {m : Str → Option Value} {ow : List Addr} {σ σ' σ'' σin σ₁ : Sto} {s : Shared} {d e : D} {v : Value} {h h' : Heap} {x : Str} {o : Out} {scope : Scope}

theorem Ev.ifI {t body orelse : Expr} {pos} {x : Bool} {i j : Int} (h : Tr c n env σ t x) (h1 : x = true → Ev c n env σ body (.int i)) (h2 : x = false → Ev c n env σ orelse (.int j)) : Ev c n env σ (.IfExp t body orelse pos) (.int (if x then i else j)) :=
  Ev.ifexp h (fun q => by rw [if_pos q]; exact h1 q) (fun q => by rw [if_neg (ne_true_of_eq_false q)]; exact h2 q)
theorem Ev.ifS {t body orelse : Expr} {pos} {x : Bool} {i j : Str} (h : Tr c n env σ t x) (h1 : x = true → Ev c n env σ body (.str i)) (h2 : x = false → Ev c n env σ orelse (.str j)) : Ev c n env σ (.IfExp t body orelse pos) (.str (if x then i else j)) :=
  Ev.ifexp h (fun q => by rw [if_pos q]; exact h1 q) (fun q => by rw [if_neg (ne_true_of_eq_false q)]; exact h2 q)

/-- the names taken along -/
noncomputable def capt (l : List (Str × D)) : Sto := l.map fun p => (p.1, .val p.2)
theorem capt_get : ∀ {l : List (Str × D)} {y : Str} {u : Slot}, (capt l).get y = some u → ∃ d, (y, d) ∈ l ∧ u = .val d
  | (z, d) :: r, y, u, e => by
    simp only [capt, List.map_cons, Sto.get, List.lookup_cons] at e
    by_cases hz : y = z
    · subst hz
      simp only [beq_self_eq_true] at e
      cases e
      exact ⟨d, .head _, rfl⟩
    · rw [show (y == z) = false by simpa using hz] at e
      obtain ⟨d', h1, h2⟩ := capt_get (l := r) (y := y) (u := u) e
      exact ⟨d', .tail _ h1, h2⟩
theorem capt_has : ∀ {l : List (Str × D)} {y : Str}, y ∈ l.map (·.1) → ((capt l).get y).isSome = true
  | (z, d) :: r, y, hm => by
    simp only [capt, List.map_cons, Sto.get, List.lookup_cons]
    by_cases hz : y = z
    · subst hz; simp
    · rw [show (y == z) = false by simpa using hz]
      rcases List.mem_cons.mp hm with q | q
      · exact absurd q hz
      · exact capt_has (l := r) q
inductive Caps (env : Env) (σ : Sto) : List (Str × D) → Prop
  | nil : Caps env σ []
  | val {y : Str} {d : D} {r : List (Str × D)} : σ.get y = some (.val d) → env.kindOf y ≠ some .local → Caps env σ r → Caps env σ ((y, d) :: r)
  | cel {y : Str} {d : D} {r : List (Str × D)} : σ.get y = some (.cel (some d)) → Caps env σ r → Caps env σ ((y, d) :: r)
theorem Caps.at {l : List (Str × D)} (h : Caps env σ l) : ∀ p ∈ l, (σ.get p.1 = some (.val p.2) ∧ env.kindOf p.1 ≠ some .local) ∨ σ.get p.1 = some (.cel (some p.2)) := by
  induction h with
  | nil => intro p hp; cases hp
  | val a b _ ih =>
    intro p hp
    rcases List.mem_cons.mp hp with e | e
    · rw [e]; exact .inl ⟨a, b⟩
    · exact ih p e
  | cel a _ ih =>
    intro p hp
    rcases List.mem_cons.mp hp with e | e
    · rw [e]; exact .inr a
    · exact ih p e
theorem CompOk.of {l : List (Str × D)} (hk : scope.kind = .function) (hn : decide (scope.names.map (·.1)).Nodup = true) (hf : (scope.names.filter (·.2 == .free)).map (·.1) = l.map (·.1)) (hc : Caps env σ l) : CompOk scope env σ (capt l) where
  kind := hk
  nodup := of_decide_eq_true hn
  free := fun y hy => capt_has (by rw [← hf]; exact List.mem_map.mpr ⟨_, List.mem_filter.mpr ⟨hy, rfl⟩, rfl⟩)
  inn := fun y u e => by
    obtain ⟨d, hm, rfl⟩ := capt_get e
    refine .inl ⟨d, rfl, ?_, hc.at _ hm⟩
    have : y ∈ (scope.names.filter (·.2 == .free)).map (·.1) := by rw [hf]; exact List.mem_map.mpr ⟨_, hm, rfl⟩
    obtain ⟨p, hp, rfl⟩ := List.mem_map.mp this
    obtain ⟨h1, h2⟩ := List.mem_filter.mp hp
    have hk : p.2 = .free := by simpa using h2
    rw [← hk]
    exact lookup_of_nodup (of_decide_eq_true hn) h1
/-- a list comprehension over items, all of them kept or those of a test -/
theorem Ev.lc {α : Type} {elt iter t : Expr} {ifs : List Expr} {pos : Pos} (enc : α → D) (p : α → Bool) (f : α → D) (xs : List α) (l : List (Str × D)) (x : Ev c n env σ iter d) (hd : itemsOf d = some (xs.map enc)) (ok : CompOk scope env σ (capt l)) (ht : TgtOk t) (hl : xs.length ≤ sizeLine)
    (h : ∀ C, ∀ x ∈ xs, ∃ σ₁, Tg c n (cEnv scope env C) (capt l) t (enc x) σ₁ ∧ Weak σ₁ (capt l) ∧ Ts c n (cEnv scope env C) σ₁ ifs (p x) ∧ (p x = true → Ev c n (cEnv scope env C) σ₁ elt (f x)))
    (hs : ∀ x, foldedSetIterable iter env x = pure x := by intro _; rfl) : Ev c n env σ (.ListComp elt [⟨t, iter, ifs, 0⟩] scope pos) (.list ((xs.filter p).map f)) :=
  Ev.listComp x hd ok (fun C D => by
    have := CLp.list (c := c) (n := n) (cenv := cEnv scope env C) (σ := capt l) (elt := elt) (t := t) (iter := iter) (ifs := ifs) (pos := pos) (scope := scope) (D₀ := D) ht enc p f xs [] (by simpa using hl) (h C)
    simpa using this) hs
theorem Ex1.lc {α : Type} {y : Str} {elt iter t : Expr} {ifs : List Expr} {pos pp spos : Pos} (enc : α → D) (p : α → Bool) (f : α → D) (xs : List α) (l : List (Str × D)) (x : Ev c n env σ iter d) (hd : itemsOf d = some (xs.map enc)) (ok : CompOk scope env σ (capt l)) (hk : env.kindOf y = some .local) (ht : TgtOk t) (hl : xs.length ≤ sizeLine)
    (h : ∀ C, ∀ x ∈ xs, ∃ σ₁, Tg c n (cEnv scope env C) (capt l) t (enc x) σ₁ ∧ Weak σ₁ (capt l) ∧ Ts c n (cEnv scope env C) σ₁ ifs (p x) ∧ (p x = true → Ev c n (cEnv scope env C) σ₁ elt (f x)))
    (hsw : swapsWith (.ListComp elt [⟨t, iter, ifs, 0⟩] scope pos) (some (.Name y pp)) spos.line env = pure true)
    (hs : ∀ x, foldedSetIterable iter env x = pure x := by intro _; rfl) : Ex1 c n env σ (.Assign [.Name y pp] (.ListComp elt [⟨t, iter, ifs, 0⟩] scope pos) spos) (.next (σ.put y (.val (.list ((xs.filter p).map f))))) :=
  Ex1.listComp x hd ok hk (fun C D => by
    have := CLp.list (c := c) (n := n) (cenv := cEnv scope env C) (σ := capt l) (elt := elt) (t := t) (iter := iter) (ifs := ifs) (pos := pos) (scope := scope) (D₀ := D) ht enc p f xs [] (by simpa using hl) (h C)
    simpa using this) hsw hs
theorem Ev.lcA {α : Type} {elt iter t : Expr} {pos : Pos} (enc : α → D) (f : α → D) (xs : List α) (l : List (Str × D)) (x : Ev c n env σ iter d) (hd : itemsOf d = some (xs.map enc)) (ok : CompOk scope env σ (capt l)) (ht : TgtOk t) (hl : xs.length ≤ sizeLine)
    (h : ∀ C, ∀ x ∈ xs, ∃ σ₁, Tg c n (cEnv scope env C) (capt l) t (enc x) σ₁ ∧ Weak σ₁ (capt l) ∧ Ev c n (cEnv scope env C) σ₁ elt (f x))
    (hs : ∀ x, foldedSetIterable iter env x = pure x := by intro _; rfl) : Ev c n env σ (.ListComp elt [⟨t, iter, [], 0⟩] scope pos) (.list (xs.map f)) := by
  have := Ev.lc enc (fun _ => true) f xs l x hd ok ht hl (fun C x hx => let ⟨σ₁, a, b, e⟩ := h C x hx; ⟨σ₁, a, b, Ts.nil, fun _ => e⟩) (pos := pos) hs
  rw [show xs.filter (fun _ => true) = xs from List.filter_eq_self.mpr fun _ _ => rfl] at this
  exact this
theorem Ex1.lcA {α : Type} {y : Str} {elt iter t : Expr} {pos pp spos : Pos} (enc : α → D) (f : α → D) (xs : List α) (l : List (Str × D)) (x : Ev c n env σ iter d) (hd : itemsOf d = some (xs.map enc)) (ok : CompOk scope env σ (capt l)) (hk : env.kindOf y = some .local) (ht : TgtOk t) (hl : xs.length ≤ sizeLine)
    (h : ∀ C, ∀ x ∈ xs, ∃ σ₁, Tg c n (cEnv scope env C) (capt l) t (enc x) σ₁ ∧ Weak σ₁ (capt l) ∧ Ev c n (cEnv scope env C) σ₁ elt (f x))
    (hsw : swapsWith (.ListComp elt [⟨t, iter, [], 0⟩] scope pos) (some (.Name y pp)) spos.line env = pure true)
    (hs : ∀ x, foldedSetIterable iter env x = pure x := by intro _; rfl) : Ex1 c n env σ (.Assign [.Name y pp] (.ListComp elt [⟨t, iter, [], 0⟩] scope pos) spos) (.next (σ.put y (.val (.list (xs.map f))))) := by
  have := Ex1.lc enc (fun _ => true) f xs l x hd ok hk ht hl (fun C x hx => let ⟨σ₁, a, b, e⟩ := h C x hx; ⟨σ₁, a, b, Ts.nil, fun _ => e⟩) hsw hs
  rw [show xs.filter (fun _ => true) = xs from List.filter_eq_self.mpr fun _ _ => rfl] at this
  exact this
theorem swaps_true {elt : Expr} {gens : List Comprehension} {pos pp spos : Pos} {sc : Scope} {y : Str} (hs : env.scope = sc) (h1 : (sc.kind == .function) = true) (h2 : (sc.names.lookup y == some .local) = true) (h3 : (pp.line == pos.line) = true) (h4 : (scope.names.any fun (n, k) => n == y && (k == .local || k == .cell)) = false) :
    swapsWith (.ListComp elt gens scope pos) (some (.Name y pp)) spos.line env = pure true := by
  have hb : env.blockKind == .function := by
    unfold Env.blockKind
    rw [hs]
    have : sc.kind = .function := by simpa using h1
    rw [this]; rfl
  have hk : env.kindOf y == some .local := by unfold Env.kindOf; rw [hs]; exact h2
  have hp : (pp.line == (Expr.ListComp elt gens scope pos).pos.line) = true := h3
  unfold swapsWith
  show (pure (env.blockKind == .function && env.kindOf y == some .local && pp.line == (Expr.ListComp elt gens scope pos).pos.line && !(scope.names.any fun (n, k) => n == y && (k == .local || k == .cell))) : Sem Bool) = pure true
  rw [h4, hp, hb, hk]
  rfl
end
end Mine

end
section
open PySem PySem.W PySem.Calls PyProof.Rows
set_option Elab.async false
set_option linter.unusedVariables false
namespace Mine
section
variable {c : Cx} {n : Nat} {A : Around} {g₀ b g : Heap} {env cenv : Env} {m : Str → Option Value} {ow : List Addr} {σ σ' σ'' σin σ₁ : Sto} {s : Shared} {d e : D} {v : Value} {h h' : Heap} {x : Str} {o : Out} {scope : Scope}

noncomputable def tabM (xs : List Str) (f : Str → Str) : List (Str × Str) := xs.map fun x => (x, f x)
theorem dput_new {l : List (Str × Str)} {k x : Str} (h : k ∉ l.map (·.1)) : dput l k x = l ++ [(k, x)] := by
  unfold dput
  rw [if_neg]
  simp only [List.any_eq_true, decide_eq_true_eq, not_exists, not_and]
  intro p hp e
  exact h (e ▸ List.mem_map.mpr ⟨p, hp, rfl⟩)
theorem foldl_dput (f : Str → Str) : ∀ (xs : List Str) (l : List (Str × Str)), (l.map (·.1) ++ xs).Nodup → xs.foldl (fun l x => dput l x (f x)) l = l ++ tabM xs f
  | [], l, _ => by simp [tabM]
  | x :: r, l, hn => by
    have hx : x ∉ l.map (·.1) := by
      intro hm
      rw [List.nodup_append] at hn
      exact hn.2.2 x hm x (.head _) rfl
    rw [List.foldl_cons, dput_new hx, foldl_dput f r _ (by simpa using hn)]
    simp [tabM]
theorem dget_tab {xs : List Str} {f : Str → Str} {k : Str} (h : k ∈ xs) : dget (tabM xs f) k = some (f k) := by
  induction xs with
  | nil => cases h
  | cons x r ih =>
    unfold dget tabM
    rw [List.map_cons, List.find?_cons]
    by_cases hx : x = k
    · subst hx; simp
    · simp only [hx, decide_false]
      exact ih ((List.mem_cons.mp h).resolve_left (Ne.symm hx))
theorem Ev.dc {vx t iter : Expr} {kx : Expr} {pos : Pos} (f : Str → Str) (xs : List Str) (l : List (Str × D)) (x : Ev c n env σ iter d) (hd : itemsOf d = some (xs.map D.str)) (ok : CompOk scope env σ (capt l)) (ht : TgtOk t) (hl : xs.length ≤ sizeLine) (hn : xs.Nodup)
    (h : ∀ C, ∀ x ∈ xs, ∃ σ₁, Tg c n (cEnv scope env C) (capt l) t (.str x) σ₁ ∧ Weak σ₁ (capt l) ∧ Ev c n (cEnv scope env C) σ₁ kx (.str x) ∧ Ev c n (cEnv scope env C) σ₁ vx (.str (f x)))
    (hs : ∀ x, foldedSetIterable iter env x = pure x := by intro _; rfl) : Ev c n env σ (.DictComp kx vx [⟨t, iter, [], 0⟩] scope pos) (.dict (tabM xs f)) := by
  have e : xs.foldl (fun l x => dput l x (f x)) [] = tabM xs f := by
    rw [foldl_dput f xs [] (by simpa using hn)]; rfl
  rw [← e]
  exact Ev.dictComp x hd ok (fun C _ => CLp.dict ht D.str id f xs [] (by simpa using hl) fun x hx => let ⟨σ₁, a, b, e1, e2⟩ := h C x hx; ⟨σ₁, a, b, Ts.nil, e1, e2⟩) hs
theorem same_guard {x : Str} (h : False) : (x == x) = false := h.elim
theorem get_capt_eq {r : List (Str × D)} : (capt ((x, d) :: r)).get x = some (.val d) := by simp [capt, Sto.get, List.lookup_cons]
theorem get_capt_ne {y : Str} {r : List (Str × D)} {t : Option Slot} (h : (x == y) = false) (e : (capt r).get x = t) : (capt ((y, d) :: r)).get x = t := by
  simp only [capt, List.map_cons, Sto.get, List.lookup_cons, h]
  exact e
theorem swaps_cellD {kx vx : Expr} {gens : List Comprehension} {pos pp : Pos} {line : Nat} {sc : Scope} {y : Str} (hs : env.scope = sc) (h2 : (sc.names.lookup y == some .local) = false) : swapsWith (.DictComp kx vx gens scope pos) (some (.Name y pp)) line env = pure false := by
  have hk : (env.kindOf y == some .local) = false := by unfold Env.kindOf; rw [hs]; exact h2
  unfold swapsWith
  show (pure (env.blockKind == .function && env.kindOf y == some .local && pp.line == (Expr.DictComp kx vx gens scope pos).pos.line && !(scope.names.any fun (n, k) => n == y && (k == .local || k == .cell))) : Sem Bool) = pure false
  rw [hk]
  simp
theorem swaps_cellL {kx : Expr} {gens : List Comprehension} {pos pp : Pos} {line : Nat} {sc : Scope} {y : Str} (hs : env.scope = sc) (h2 : (sc.names.lookup y == some .local) = false) : swapsWith (.ListComp kx gens scope pos) (some (.Name y pp)) line env = pure false := by
  have hk : (env.kindOf y == some .local) = false := by unfold Env.kindOf; rw [hs]; exact h2
  unfold swapsWith
  show (pure (env.blockKind == .function && env.kindOf y == some .local && pp.line == (Expr.ListComp kx gens scope pos).pos.line && !(scope.names.any fun (n, k) => n == y && (k == .local || k == .cell))) : Sem Bool) = pure false
  rw [hk]
  simp
theorem Ex1.whilT {t : Expr} {body orelse : List Stmt} {pos : Pos} (w : Wh c n env t body orelse σ o) : Ex1 c n env σ (.While t body orelse pos) o := Ex1.whil w
theorem Tr.nameB {p : Pos} {y : Bool} (x' : Ev c n env σ (.Name x p) (.bool y)) : Tr c n env σ (.Name x p) y := Tr.value x' trivial rfl rfl
end
end Mine

end
section
open PySem PySem.W PySem.Calls PyProof.Rows
set_option Elab.async false
set_option linter.unusedVariables false
namespace Mine
section
variable {c : Cx} {n : Nat} {A : Around} {g₀ b g : Heap} {env cenv : Env} {m : Str → Option Value} {ow : List Addr} {σ σ' σ'' σin σ₁ : Sto} {s : Shared} {d e : D} {v : Value} {h h' : Heap} {x : Str} {o : Out} {scope : Scope}

theorem Ev.dict1 {ke ve : Expr} {pos : Pos} {k y : Str} (xk : Ev c n env σ ke (.str k)) (xv : Ev c n env σ ve (.str y)) : Ev c n env σ (.Dict [some ke] [ve] pos) (.dict [(k, y)]) := by
  constructor
  intro A g₀ b g m ow s R S
  refine wpAny_Dict_pairs (knd := strKind c.prog c.w) (pairs := [(PySem.eval ke env, do let x ← PySem.eval ve env; standAt pos; pure x)]) rfl (by simp) (by simp) ?_
  generalize hH : s.heap.push { cls := .type "dict", data := .dict #[] } = H
  have kH : Le s.heap H := hH ▸ le_push _ _
  have eD : H.get? s.heap.objs.size = some { cls := .type "dict", data := .dict #[] } := hH ▸ Heap.get?_push_size _ rfl
  have S0 := S.grow (g' := g) (h' := H) (Grow.of kH (Le.refl _) (S.kg.trans kH) fun _ _ e => .inl e)
  have gD : g.get? s.heap.objs.size = none := ge_none S.kg (Nat.le_refl _)
  refine evalPairs_cons (xk.use (s := { s with heap := H }) R S0 fun kv g1 h1 t1 G1 S1 r1 => wpAny_bind (xv.use R S1 fun vv g2 h2 t2 G2 S2 r2 => wpAny_bind (wpAny_standAt (wpAny_pure (evalPairs_nil ?_)))))
  cases r1
  cases r2
  rename_i tk tv
  have G := G1.trans G2
  have nD : ¬ fr A s.heap.objs.size := fun z => (S.isD z).some (get_size _)
  have eD2 := G.keep.out _ _ nD eD
  refine ⟨[(k, .str y tv)], ⟨strKind_is _ _ _ _, rfl, trivial⟩, ⟨_, #[], 0, eD2, ⟨rfl, rfl, rfl⟩, rfl, fun e he => by simp at he, .nil, .nil⟩, fun h3 hd hs => ?_⟩
  -- the new dict is let into the frozen part
  have gD2 : g2.get? s.heap.objs.size = none := by
    cases q : g2.get? s.heap.objs.size with
    | none => rfl
    | some o =>
      rcases G.fresh _ _ q with z | z
      · rw [gD] at z; cases z
      · rw [eD] at z; cases z
  have k3 : ∀ a o, a ≠ s.heap.objs.size → h2.get? a = some o → h3.get? a = some o := fun a o ha e => (hs.2 a ha).trans e
  obtain ⟨o3, es, ep, e3, r3⟩ := hd
  have hf3 : o3.isFreed = false := by
    have hc : o3.data = .dict es ep := r3.2.1
    clear r3 e3
    obtain ⟨cl, dd, dt, sl⟩ := o3
    simp only at hc
    subst hc
    rfl
  let g3 := plus g2 s.heap.objs.size o3
  have l3 : Le g2 g3 := fun a o e => by
    show (plus _ _ _).get? a = some o
    rw [plus_get _ _ _ hf3, if_neg (fun q => by rw [q, gD2] at e; cases e)]; exact e
  refine ⟨g3, h3, _, rfl, ⟨⟨fun a o nf e => ?_, fun a o e => ?_⟩, G.le.trans l3, fun a o e => ?_, fun a o e => ?_⟩, .dict (kvs := merged [] [(k, .str y tv)]) ⟨o3, es, ep, ?_, r3⟩ ?_ (sysLt S.wf S.kg)⟩
  · exact k3 a o (Nat.ne_of_lt (Heap.lt_size e)) (G.keep.out _ _ nf (kH _ _ e))
  · obtain ⟨sl, e'⟩ := G.keep.sl _ _ (kH _ _ e)
    exact ⟨sl, k3 a _ (Nat.ne_of_lt (Heap.lt_size e)) e'⟩
  · have e' : (plus g2 s.heap.objs.size o3).get? a = some o := e
    rw [plus_get _ _ _ hf3] at e'
    by_cases ha : a = s.heap.objs.size
    · rw [if_pos ha] at e'
      cases e'
      rw [ha]; exact e3
    · rw [if_neg ha] at e'
      exact k3 a o ha (G.le' _ _ e')
  · have e' : (plus g2 s.heap.objs.size o3).get? a = some o := e
    rw [plus_get _ _ _ hf3] at e'
    by_cases ha : a = s.heap.objs.size
    · exact .inr (by rw [ha]; exact get_size _)
    · rw [if_neg ha] at e'
      rcases G.fresh _ _ e' with z | z
      · exact .inl z
      · refine .inr ?_
        cases q : s.heap.get? a with
        | none => rfl
        | some o' =>
          have z' : H.get? a = none := z
          rw [kH _ _ q] at z'; cases z'
  · show (plus _ _ _).get? _ = _
    rw [plus_get _ _ _ hf3, if_pos rfl]
  · exact .cons .nil
end
end Mine

end
section
open PySem PySem.W PySem.Calls PyProof.Rows
set_option Elab.async false
set_option linter.unusedVariables false
namespace Mine
section
variable {c : Cx} {n : Nat} {A : Around} {g₀ b g : Heap} {env cenv : Env} {m : Str → Option Value} {ow : List Addr} {σ σ' σ'' σin σ₁ : Sto} {s : Shared} {d e : D} {v : Value} {h h' : Heap} {x : Str} {o : Out} {scope : Scope}

noncomputable def hitV (y : Str) : Value → Bool
  | .str z _ => z == y
  | _ => false
theorem any_hit {y : Str} : ∀ {xs : List Str} {vs : List Value}, Reps c g (sL xs) vs → vs.any (hitV y) = xs.contains y
  | [], _, .nil => rfl
  | x :: r, _, .cons (.str _ t) q => by
    rw [List.any_cons, List.contains_cons, any_hit q]
    congr 1
    show (x == y) = (y == x)
    rw [Bool.eq_iff_iff]
    simp only [beq_iff_eq]
    exact eq_comm
/-- «e not in x», x a list of texts of the frame's own -/
theorem Tr.notInOwn {l : Expr} {np pos : Pos} {y : Str} {xs : List Str} {p : Bool} (xe : Ev c n env σ l (.str y)) (h0 : σ.get x = some (.own p (.list (sL xs)))) (hdb : (x == ("__debug__" : Str)) = false := by kernel_rfl) :
    Tr c n env σ (.Compare l [.NotIn] [.Name x np] pos) (!xs.contains y) := by
  constructor
  intro A g₀ b g m ow s R S
  refine wpAny_isTrue_Compare1 (xe.use R S fun u g1 h1 t1 G1 S1 r1 => ?_) (by rfl)
  cases r1
  refine wpAny_Name (loadOwn S1 h0 fun a e1 e2 e3 => ?_) hdb
  cases e3 with
  | list il pl rs =>
    rename_i items
    refine SeqAt.notIn_listAt (hitV y) il.is (fun z hz => ?_) ?_
    · obtain ⟨i, hi, rfl⟩ := List.getElem_of_mem (Array.mem_toList_iff.mpr hz)
      obtain ⟨w', t', e4, e5⟩ := rs.sL_at i _ (List.getElem?_eq_getElem hi)
      rw [e5]
      exact (eqGives_str _ _ _ _).at A.in1 _
    · have e : items.any (hitV y) = xs.contains y := by
        rw [← any_hit rs]; simp
      rw [e]
      exact wpAny_truthy_bool ⟨rfl, g1, h1, t1, rfl, G1⟩
end
end Mine

end
section
open PySem PySem.W PySem.Calls PyProof.Rows
set_option maxRecDepth 100000
set_option maxHeartbeats 1000000
namespace Mine
theorem type_lcont : typeOf (.builtin "list.__contains__") = pure (.type "wrapper_descriptor") := by show builtinType _ = _; rw [builtinType_eq_fast]; kernel_rfl
theorem wd_get : typeLookup (.type "wrapper_descriptor") "__get__" = pure (some (.builtin "wrapper_descriptor.__get__")) := by rw [typeLookup_type, builtinLookup_eq_fast]; kernel_rfl
theorem wd_set : typeLookup (.type "wrapper_descriptor") "__set__" = pure none := by rw [typeLookup_type, builtinLookup_eq_fast]; kernel_rfl
theorem wd_del : typeLookup (.type "wrapper_descriptor") "__delete__" = pure none := by rw [typeLookup_type, builtinLookup_eq_fast]; kernel_rfl
theorem wd_slot : PySem.Slot "wrapper_descriptor" "__get__" "wrapper_descriptor.__get__" :=
  .of (owner := "wrapper_descriptor") (n := "__get__") (by rw [typeLookup_type, builtinLookup_eq_fast]; kernel_rfl) (by decide +kernel) (by decide +kernel) (by decide +kernel)
    (by first | exact .inl (by decide +kernel) | exact .inr (by decide +kernel)) (by rw [isSubtype_type]; kernel_rfl)
theorem wd_entry : entryFor table "wrapper_descriptor.__get__" = some Builtin.«wrapper_descriptor.__get__» := entryFor_of_tree (by kernel_rfl)
theorem wd_args (a b c : Value) : argsOk "wrapper_descriptor.__get__" ⟨[a, b, c], []⟩ := by unfold argsOk; kernel_rfl
theorem lc_owner : ".".intercalate ("list.__contains__".cutAt '.').dropLast = "list" := by decide +kernel
theorem lc_sub : isSubtype (Value.type "list") (Value.type (".".intercalate ("list.__contains__".cutAt '.').dropLast)) = pure true := by rw [lc_owner, isSubtype_type]; kernel_rfl
theorem hit_contains (a : Addr) (xs : Array Value) (k : Nat) (sl : Array (Option Value)) (u : Tok) :
    Meets (Builtin.«object.__getattribute__» ⟨[.ref a, .str (Str.ofString "__contains__") u], []⟩) (fun A R s => s.heap.get? a = some { cls := .type "list", dict := none, data := .seq xs k, slots := sl } ∧
      R (.ok (.ret (.ref s.heap.objs.size))) { s with heap := s.heap.push { cls := .type "method-wrapper", data := .fields #[.builtin "list.__contains__", .ref a] } }) :=
  Meets.of_wp fun prog w A R s hs => by
    obtain ⟨hp, g, d, tk, os⟩ := s
    obtain ⟨hx, hs⟩ := hs
    have hT : (⟨hp, g, d, tk, os⟩ : Shared).TypeIs (.ref a) "list" := ⟨_, hx, rfl⟩
    have f1 := F.slot_list_contains.lookup
    have f2 := F.slot_list_contains.bind (.ref a)
    have f3 := type_lcont
    have f4 := wd_get
    have f5 := wd_set
    have f6 := wd_del
    have f7 := lc_sub
    unfold Builtin.«object.__getattribute__»
    repeat (any_goals (first | assumption | wp_step))
    refine codeAny_call_builtin wd_slot.plain wd_entry (wd_slot.check _ _ _ _ _ _ _ _ f3 (wd_args _ _ _) ?_)
    unfold Builtin.«wrapper_descriptor.__get__»
    refine wpAny_bind (wpAny_of_eq (a := (.builtin "list.__contains__", some (.ref a), some (.type "list"))) (by first | rfl | kernel_rfl) ?_)
    dsimp only
    repeat (any_goals (first | assumption | wp_step))
    exact ⟨_, rfl, hs⟩
theorem getAttr_contains {prog : Program} {w : World} {A : Around} {E : Value → Shared → Prop} {s : Shared} {a : Addr} {xs : Array Value} {Q : Value → Shared → Prop} (hl : s.heap.IsList a xs) (hd : ∀ o, s.heap.get? a = some o → o.dict = none)
    (h : Q (.ref s.heap.objs.size) { s with heap := s.heap.push { cls := .type "method-wrapper", data := .fields #[.builtin "list.__contains__", .ref a] }, toks := s.toks + 1 }) :
    wpAny (model prog w) A (getAttr (.ref a) (Str.ofString "__contains__") true) Q E s := by
  obtain ⟨o, hx, hc, k, hdat⟩ := hl
  have hd := hd o hx
  obtain ⟨c, dct, dat, sl⟩ := o
  simp only at hc hdat hd
  subst hc hdat hd
  obtain ⟨hp, g, d, tk, os⟩ := s
  have hT : ∀ tk', (⟨hp, g, d, tk', os⟩ : Shared).TypeIs (.ref a) "list" := fun _ => ⟨_, hx, rfl⟩
  have f3 := F.slot_list_getattribute.lookup
  have f4 := F.slot_list_getattribute.bind (.ref a)
  have f5 := am_list_getattr_none
  unfold getAttr getAttrBy
  repeat (any_goals (first | assumption | exact hT _ | ((with_reducible show wpAny _ _ (call (Value.builtin "list.__getattribute__") _ _) _ _ _); refine call_meets F.slot_list_getattribute (hT _) am_entry_list_getattribute (F.args_list_getattribute_2 _ _) (hit_contains a xs k sl _) ⟨hx, ?_⟩) | wp_step))
  show wpAny _ _ (handedOut (.ref hp.objs.size)) _ _ _
  rw [handedOut_of rfl]
  exact wpAny_pure h
end Mine

end
section
open PySem PySem.W PySem.Calls PyProof.Rows
set_option Elab.async false
set_option linter.unusedVariables false
set_option maxRecDepth 100000
namespace Mine
section
variable {c : Cx} {n : Nat} {A : Around} {g₀ b g : Heap} {env cenv : Env} {m : Str → Option Value} {ow : List Addr} {σ σ' σ'' σin σ₁ : Sto} {s : Shared} {d e : D} {v : Value} {h h' : Heap} {x : Str} {o : Out} {scope : Scope} {prog : Program} {w : World} {E : Value → Shared → Prop}

/-- «next(it)» at a list's iterator -/
theorem next_list_item {it l : Addr} {i : Nat} {items : Array Value} {y : Value} {Q : Value → Shared → Prop} (hit : s.heap.IsListIter it l i) (hl : s.heap.IsList l items) (hx : items[i]? = some y)
    (hQ : ∀ h', h'.IsListIter it l (i + 1) → Heap.SameBut it s.heap h' → Q y { s with heap := h' }) : wpAny (model prog w) A (call (.builtin "next") [.ref it]) Q E s := by
  obtain ⟨o, ho, hc, hd⟩ := id hit
  obtain ⟨ol, hol, _, nl, hdl⟩ := hl
  refine call_function_entry (by decide +kernel) (by decide +kernel) kdk_entry_next (kdk_args_next _) ?_
  unfold Builtin.«next»
  refine wpAny_bind (m := someArgs "next" 1 2 _) (wpAny_of_eq (a := [Value.ref it]) (by first | rfl | kernel_rfl!) ?_)
  dsimp only
  refine wpAny_bind (wpAny_specialOf (name := Str.ofString "__next__") hit.typeIs slot_listiter_next.lookup ?_)
  refine wpAny_ite_split (fun hab => absurd hab (by decide)) (fun _ => ?_)
  refine wpAny_bind (wpAny_callSpecial?_slot (name := Str.ofString "__next__") hit.typeIs slot_listiter_next
    (wpAny_call_entry slot_listiter_next hit.typeIs entry_listiter_next ?_ (args_listiter_next _)))
  show wpAny _ _ (field (.ref it) 0 >>= _) _ _ s
  refine wpAny_bind (wpAny_field ho hd (x := .ref l) rfl ?_)
  show wpAny _ _ (if (Value.ref l == Value.none) = true then _ else _) _ _ s
  rw [if_neg (show ¬ ((Value.ref l == Value.none) = true) from Bool.false_ne_true)]
  show wpAny _ _ (field (.ref it) 1 >>= _) _ _ s
  refine wpAny_bind (wpAny_field ho hd (x := .int i 0) rfl ?_)
  show wpAny _ _ (seqItems? (.ref l) >>= _) _ _ s
  refine wpAny_bind (wpAny_seqItems hol hdl ?_)
  simp only [Int.toNat_natCast, hx]
  refine wpAny_bind (wpAny_setField ho hd (by simp) (wpAny_pure ⟨y, rfl, wpAny_pure ⟨_, rfl, hQ _ ?_ (Heap.SameBut.update ..)⟩⟩))
  exact ⟨_, Heap.get?_update_self _ ho (Obj.isFreed_of_fields (Obj.data_mapFields hd _)), (Obj.cls_mapFields ..).trans hc, by
    rw [Obj.data_mapFields hd]; simp [rawInt]⟩
/-- a StopIteration in flight, as it was made -/
structure NewStop (h h' : Heap) (it e : Addr) : Prop where
  ext : Heap.ExtBut it h h'
  new : h.get? e = none
  there : ∃ o vs, h'.get? e = some o ∧ o.cls = .type "StopIteration" ∧ o.data = .fields vs ∧ vs[1]? = some .none
theorem next_list_end {it l : Addr} {i : Nat} {items : Array Value} {Q : Value → Shared → Prop} (hh : A.handled = none) (hit : s.heap.IsListIter it l i) (hl : s.heap.IsList l items) (hx : items[i]? = none)
    (hE : ∀ h' e, NewStop s.heap h' it e → E (.ref e) { s with heap := h' }) : wpAny (model prog w) A (call (.builtin "next") [.ref it]) Q E s := by
  obtain ⟨o, ho, hc, hd⟩ := id hit
  obtain ⟨ol, hol, _, nl, hdl⟩ := hl
  refine call_function_entry (by decide +kernel) (by decide +kernel) kdk_entry_next (kdk_args_next _) ?_
  unfold Builtin.«next»
  refine wpAny_bind (m := someArgs "next" 1 2 _) (wpAny_of_eq (a := [Value.ref it]) (by first | rfl | kernel_rfl!) ?_)
  dsimp only
  refine wpAny_bind (wpAny_specialOf (name := Str.ofString "__next__") hit.typeIs slot_listiter_next.lookup ?_)
  refine wpAny_ite_split (fun hab => absurd hab (by decide)) (fun _ => ?_)
  refine wpAny_bind (wpAny_callSpecial?_slot (name := Str.ofString "__next__") hit.typeIs slot_listiter_next
    (wpAny_call_entry slot_listiter_next hit.typeIs entry_listiter_next ?_ (args_listiter_next _)))
  show wpAny _ _ (field (.ref it) 0 >>= _) _ _ s
  refine wpAny_bind (wpAny_field ho hd (x := .ref l) rfl ?_)
  show wpAny _ _ (if (Value.ref l == Value.none) = true then _ else _) _ _ s
  rw [if_neg (show ¬ ((Value.ref l == Value.none) = true) from Bool.false_ne_true)]
  show wpAny _ _ (field (.ref it) 1 >>= _) _ _ s
  refine wpAny_bind (wpAny_field ho hd (x := .int i 0) rfl ?_)
  show wpAny _ _ (seqItems? (.ref l) >>= _) _ _ s
  refine wpAny_bind (wpAny_seqItems hol hdl ?_)
  simp only [Int.toNat_natCast, hx]
  refine wpAny_bind (wpAny_rule (wpAny_bind (wpAny_setField ho hd (by simp) ?_)))
  show wpAny _ _ (newExc (.type "StopIteration") [] >>= _) _ _ _
  refine wpAny_bind ?_
  simp only [newExc, newTuple]
  refine wpAny_bind (wpAny_newObj_type ?_ (by size_fits))
  refine wpAny_bind (m := firstArgMember _ _) (wpAny_of_eq (a := Value.none) (by first | rfl | (simp only [firstArgMember]; rfl)) ?_)
  refine wpAny_newObj_type ?_ (by size_fits)
  simp only [raiseNew]
  refine wpAny_bind (wpAny_handled ?_)
  rw [show A.in1.in1.handled = none from hh]
  refine wpAny_bind (wpAny_pure (wpAny_throw ?_))
  refine hE _ _ ⟨((Heap.SameBut.update ..).extBut.push _).push _, Heap.get?_none_of_le ?_, _, _, Heap.get?_push_size _ rfl, rfl, rfl, ?_⟩
  · simp only [Heap.size_push, Heap.size_after_update]
    exact Nat.le_succ _
  · rfl

/-- the call of a list's `__contains__`, taken off -/
theorem call_mw {mw l : Addr} {items : Array Value} {y : Value} {Q : Value → Shared → Prop} (e : Value → Bool) (hm : ∃ dd sl, s.heap.get? mw = some { cls := .type "method-wrapper", dict := dd, data := .fields #[.builtin "list.__contains__", .ref l], slots := sl })
    (hl : s.heap.IsList l items) (he : ∀ z, z ∈ items → SeqAt.EqAt A.in1 s z y (e z)) (h : Q (.bool (items.any e)) s) : wpAny (model prog w) A (call (.ref mw) [y]) Q E s := by
  obtain ⟨dd, sl, hm⟩ := hm
  obtain ⟨⟨cls, dd, data, sl⟩, ho, hc, n, hd⟩ := id hl
  simp only at hc hd
  subst hc hd
  refine wpAny_call (codeAny_of_tree ?_)
  show wpAny _ _ (callAny (.ref mw) ⟨[y], []⟩) _ _ _
  simp only [callAny]
  refine wpAny_bind (wpAny_load hm ?_)
  dsimp only
  have ck : checkBoundCall "list.__contains__" ⟨[.ref l, y], []⟩ = pure () := by
    have := F.args_list_contains_2 (.ref l) y
    unfold argsOk at this
    unfold checkBoundCall
    kernel_rfl
  have e1 : (Value.type "method-wrapper" == Value.type "method") = false := by decide
  have e2 : (Value.type "method-wrapper" == Value.type "builtin_function_or_method") = false := by decide
  simp only [e1, e2, bne, beq_self_eq_true, Bool.or_true, Bool.not_false, if_true]
  show wpAny _ _ (checkBoundCall "list.__contains__" ⟨[.ref l, y], []⟩ >>= _) _ _ _
  refine wpAny_bind (wpAny_of_eq ck ?_)
  show wpAny _ _ (again (.builtin "list.__contains__" ⟨[.ref l, y], []⟩)) _ _ _
  refine wpAny_pure ⟨plainId_quiet F.slot_list_contains.plain _, codeAny_builtin F.entry_list_contains ?_⟩
  rw [Around.under_plainId F.slot_list_contains.plain _]
  exact SeqAt.list_containsAt l items n dd sl y e prog w A _ s ⟨ho, he, h⟩
end
end Mine

end
section
open PySem PySem.W PySem.Calls PyProof.Rows
set_option Elab.async false
set_option linter.unusedVariables false
set_option maxRecDepth 100000
namespace Mine
section
variable {c : Cx} {n : Nat} {A : Around} {g₀ b g : Heap} {env cenv : Env} {m : Str → Option Value} {ow : List Addr} {σ σ' σ'' σin σ₁ : Sto} {s : Shared} {d e : D} {v : Value} {h h' : Heap} {x : Str} {o : Out} {scope : Scope} {prog : Program} {w : World} {E : Value → Shared → Prop}

/-- a function's frame, by the machine's own means -/
theorem Fn.enterK {f : Addr} {fd : FuncData} {body : List Stmt} (F : Fn c f fd body) {xs : List Str} (hk : ∀ x ∈ xs, fd.scope.names.lookup x = some .local) {vs : List Value} (hlen : xs.length = vs.length)
    (hb : bindArgs fd ⟨vs, []⟩ = pure (xs.zip vs)) (hdp : A.depth < recursionLimit) (l : Le g s.heap) (W : Wf c g) {R : Result → Shared → Prop}
    (h : ∀ h2 t2, Fr s.heap s.heap.objs.size h2 (bindL (callEnvC fd s.heap.objs.size f).kindOf (xs.zip vs) fun _ => none) →
      wpAny (model c.prog c.w) (A.deeper (callEnvC fd s.heap.objs.size f)) (execs body (callEnvC fd s.heap.objs.size f)) (fun fl s' => R (.ok (.ret (match fl with | .ret v => v | _ => .none))) s')
        (fun e s' => wpAny (model c.prog c.w) (A.deeper (callEnvC fd s.heap.objs.size f)) (leaving (callEnvC fd s.heap.objs.size f) e) (fun _ s'' => R (.error e) s'') (fun e' s'' => R (.error e') s'') s') { s with heap := h2, toks := t2 }) :
    codeAny (model c.prog c.w) A (.call (.ref f) ⟨vs, []⟩) R s := by
  obtain ⟨o, ho, hd⟩ := F.obj
  obtain ⟨_, _, _, _, T⟩ := W.T
  refine codeAny_call_function hdp (l _ _ (W.K _ _ ho)) hd F.co F.gen F.body (codeRec_of (W.K.keeps l) F.code) ?_
  rw [hb]
  refine wpAny_pure ?_
  rw [F.clo]
  refine wpAny_newFunctionEnv_cells F.kind (fun p hp => .inl (hk _ (List.of_mem_zip hp).1)) fun env he s₂ X => ?_
  subst he
  obtain ⟨h2, t2, e2⟩ := X.toInCall.same
  subst e2
  exact ⟨(T.nolimit.keeps l).keeps X.toInCall.keep, codeAny_func (h h2 t2 ⟨X.toInCall.ns, X.toInCall.keep, X.toInCall.fresh⟩)⟩

/-- the same, the frame known by its scope alone -/
theorem Fn.enterK' {f : Addr} {name qual : Str} {params : Arguments} {body : List Stmt} {sc : Scope} {dV kV doc pm : Value} {an : Option Addr} {cdv ct : Value} (F : Fn c f (fnOf name qual params body sc dV kV doc pm an cdv ct) body) (xs : List Str) {vs : List Value} (hlen : xs.length = vs.length)
    (hx : decide xs.Nodup = true) (hk : (xs.all fun x => sc.names.lookup x == some .local) = true) (hb : bindArgs (fnOf name qual params body sc dV kV doc pm an cdv ct) ⟨vs, []⟩ = pure (xs.zip vs)) (hdp : A.depth < recursionLimit) (l : Le g s.heap) (W : Wf c g) {R : Result → Shared → Prop}
    (h : ∀ env m h2 t2, env.scope = sc → sc.kind = .function → env.globals = mainGlobals → env.builtins = builtinsNs → env.frame = some env.locals → env.locals = s.heap.objs.size → (∀ p ∈ xs.zip vs, m p.1 = some p.2) → Fr s.heap env.locals h2 m →
      wpAny (model c.prog c.w) (A.deeper env) (execs body env) (fun fl s' => R (.ok (.ret (match fl with | .ret v => v | _ => .none))) s')
        (fun e s' => wpAny (model c.prog c.w) (A.deeper env) (leaving env e) (fun _ s'' => R (.error e) s'') (fun e' s'' => R (.error e') s'') s') { s with heap := h2, toks := t2 }) :
    codeAny (model c.prog c.w) A (.call (.ref f) ⟨vs, []⟩) R s := by
  have hk' : ∀ x ∈ xs, sc.names.lookup x = some .local := fun x hm => by simpa using List.all_eq_true.mp hk x hm
  refine F.enterK hk' hlen hb hdp l W fun h2 t2 X => ?_
  refine h _ _ h2 t2 rfl F.kind F.glob F.bui rfl rfl (fun p hp => ?_) X
  refine bindL_get _ _ ?_ hp ?_
  · rw [List.map_fst_zip (by omega)]
    exact of_decide_eq_true hx
  · exact hk' _ (List.of_mem_zip hp).1

theorem Glob.evalR {x : Str} {f : Value} {pos} (F : Glob c x f) (hs : env.scope.kind = .function) (hk : env.kindOf x = some .globalImplicit) (hg : env.globals = mainGlobals) (hb : env.builtins = builtinsNs) (l : Le g s.heap) (W : Wf c g)
    {Q : Value → Shared → Prop} (k : Q f s) : wpAny (model c.prog c.w) A (PySem.eval (.Name x pos) env) Q E s := by
  obtain ⟨_, _, mg, mb, T⟩ := W.T
  rcases F.found with e | ⟨e1, e2, e3⟩
  · exact Name_function_global hs hk (loadGlobal_global (by rw [hg]; exact T.g.keeps l) (mg_of W.K T.g e) k) F.dbg
  · exact Name_function_global hs hk (loadGlobal_builtin (by rw [hg]; exact T.g.keeps l) (mg_none_of W.K T.g e1) (by rw [hb]; exact T.b.keeps l) ((T.builtins x e3).trans e2) k) F.dbg

noncomputable def Plainly (M : Model) (h : Heap) (f : Value) : Prop := ∃ k, (k = Keeper.frame ∨ k = Keeper.machine ∨ k = Keeper.boundFrame) ∧ Looks M h (keeperOf f) k
theorem Plainly.builtin {M : Model} {h : Heap} {id : String} : Plainly M h (.builtin id) := ⟨.machine, .inr (.inl rfl), Looks.of_pure rfl⟩
theorem Plainly.type {M : Model} {h : Heap} {T : String} : Plainly M h (.type T) := ⟨.machine, .inr (.inl rfl), Looks.of_pure rfl⟩
theorem Plainly.mw {M : Model} {h : Heap} {a : Addr} {vs : Array Value} (hm : ∃ dd sl, h.get? a = some { cls := .type "method-wrapper", dict := dd, data := .fields vs, slots := sl }) : Plainly M h (.ref a) := by
  obtain ⟨dd, sl, hm⟩ := hm
  refine ⟨.machine, .inr (.inl rfl), fun A Q E s k q => ?_⟩
  unfold keeperOf
  refine wpAny_bind (wpAny_load (k _ _ hm) ?_)
  exact wpAny_pure q
theorem callR1 {f : Value} {e : Expr} {p pos : Pos} {Q : Value → Shared → Prop}
    (hn : wpAny (model prog w) A (eval (.Name x p) env) (fun f s₁ => wpAny (model prog w) A (eval e env) (fun v s₂ => Plainly (model prog w) s₂.heap f ∧ wpAny (model prog w) A (call f [v]) Q E s₂) E s₁) E s)
    (he : starEach [e] env = [(false, PySem.eval e env)] := by rfl) : wpAny (model prog w) A (eval (.Call (.Name x p) [e] [] pos) env) Q E s := by
  have hb : backTo pos (starEach [e] env) = [(false, PySem.eval e env)] := by rw [he]; rfl
  refine Call_ (wpAny_mono hn (fun f s₁ h₁ => ?_) fun _ _ z => z)
  rw [hb]
  refine callWith_of (P := fun h => Plainly (model prog w) h f) rfl (fun h q => q) (evalArgs_plain (spliced_cons (wpAny_mono h₁ (fun v s₂ h₂ => spliced_nil ?_) fun _ _ z => z)))
  exact h₂
theorem callR2 {f : Value} {e e' : Expr} {p pos : Pos} {Q : Value → Shared → Prop}
    (hn : wpAny (model prog w) A (eval (.Name x p) env) (fun f s₁ => wpAny (model prog w) A (eval e env) (fun v s₂ => wpAny (model prog w) A (eval e' env) (fun v' s₃ => Plainly (model prog w) s₃.heap f ∧ wpAny (model prog w) A (call f [v, v']) Q E s₃) E s₂) E s₁) E s)
    (he : starEach [e, e'] env = [(false, PySem.eval e env), (false, PySem.eval e' env)] := by rfl) : wpAny (model prog w) A (eval (.Call (.Name x p) [e, e'] [] pos) env) Q E s := by
  have hb : backTo pos (starEach [e, e'] env) = [(false, PySem.eval e env), (false, PySem.eval e' env)] := by rw [he]; rfl
  refine Call_ (wpAny_mono hn (fun f s₁ h₁ => ?_) fun _ _ z => z)
  rw [hb]
  refine callWith_of (P := fun h => Plainly (model prog w) h f) rfl (fun h q => q) (evalArgs_plain (spliced_cons (wpAny_mono h₁ (fun v s₂ h₂ => spliced_cons (wpAny_mono h₂ (fun v' s₃ h₃ => spliced_nil ?_) fun _ _ z => z)) fun _ _ z => z)))
  exact h₃
/-- «iter(l)» of a list -/
theorem iter_list {l : Addr} {items : Array Value} {Q : Value → Shared → Prop} (hl : s.heap.IsList l items)
    (h : Q (.ref s.heap.objs.size) { s with heap := s.heap.push { cls := .type "list_iterator", data := .fields #[.ref l, .int 0 0] } }) : wpAny (model prog w) A (call (.builtin "iter") [.ref l]) Q E s := by
  refine call_function_entry (by decide +kernel) (by decide +kernel) kdk_entry_iter (kdk_args_iter _) ?_
  unfold Builtin.«iter»
  refine wpAny_bind (m := someArgs "iter" 1 2 _) (wpAny_of_eq (a := [Value.ref l]) (by first | rfl | kernel_rfl!) ?_)
  show wpAny _ _ (pyIter (.ref l) >>= _) _ _ _
  exact wpAny_bind (wpAny_pyIter_list hl (wpAny_pure ⟨_, rfl, h⟩))
end
end Mine

end
section
open PySem PySem.W PySem.Calls PyProof.Rows
open AutoSeq1 (wpAny_loadPart')
open SeqAt (EqAt)
set_option Elab.async false
set_option linter.unusedVariables false
set_option maxRecDepth 100000
set_option maxHeartbeats 4000000
namespace Mine
noncomputable def ltS (x y : Str) : Bool := decide (x.cps.toList < y.cps.toList)
/-- one list of texts before another -/
noncomputable def ltL : List Str → List Str → Bool
  | [], [] => false
  | [], _ :: _ => true
  | _ :: _, [] => false
  | x :: r, y :: t => if x == y then ltL r t else ltS x y
theorem ltL_nil (ys : List Str) : ltL [] ys = decide (0 < ys.length) := by cases ys <;> rfl
theorem ltL_nil2 (xs : List Str) : ltL xs [] = false := by cases xs <;> rfl
/-- the texts that lie in a list -/
noncomputable def TextsAt (items : Array Value) (xs : List Str) : Prop := items.size = xs.length ∧ ∀ j (h : j < items.size), ∃ x t, xs[j]? = some x ∧ items[j] = .str x t
theorem TextsAt.of {c : Cx} {h : Heap} {xs : List Str} {items : Array Value} (r : Reps c h (sL xs) items.toList) : TextsAt items xs := by
  have hl := r.length
  simp only [List.length_map, Array.length_toList] at hl
  refine ⟨hl.symm, fun j hj => ?_⟩
  obtain ⟨x, t, h1, h2⟩ := r.sL_at j items[j] (by simp [hj])
  exact ⟨x, t, h1, h2⟩
theorem plain_eql : plainId "list.__eq__.loop" = true := by decide +kernel
theorem lt_loopD (l b : Addr) (items items2 : Array Value) (n n2 : Nat) (dd dd2 : Option Addr) (sl sl2 : Array (Option Value)) (xs ys : List Str) (h1 : TextsAt items xs) (h2 : TextsAt items2 ys) (k : Nat) :
    ∀ i : Nat, items.size - i = k → i ≤ items.size → i ≤ items2.size → Meets (Builtin.«list.__eq__.loop» ⟨[.ref l, .ref b, rawInt i, rawInt 0], []⟩)
      (fun A R s => s.heap.get? l = some { cls := .type "list", dict := dd, data := .seq items n, slots := sl } ∧ s.heap.get? b = some { cls := .type "list", dict := dd2, data := .seq items2 n2, slots := sl2 } ∧
        R (.ok (.ret (.bool (ltL (xs.drop i) (ys.drop i))))) s) := by
  have fin0 : ∀ i, i ≤ items.size → i ≤ items2.size → (items[((i : Nat) : Int).toNat]? = none ∨ items2[((i : Nat) : Int).toNat]? = none) → ltL (xs.drop i) (ys.drop i) = decide (items.size < items2.size) := by
    intro i hi hi2 hq
    have e1 := h1.1
    have e2 := h2.1
    rcases hq with hq | hq
    · have : items.size ≤ i := by simpa using hq
      rw [List.drop_eq_nil_of_le (by omega), ltL_nil, List.length_drop]
      rw [Bool.eq_iff_iff]
      simp only [decide_eq_true_eq]
      omega
    · have : items2.size ≤ i := by simpa using hq
      rw [List.drop_eq_nil_of_le (as := ys) (by omega), ltL_nil2]
      exact (decide_eq_false (by omega)).symm
  induction k with
  | zero =>
    intro i hk hi hi2 prog w A R s h
    obtain ⟨hp, g, d, tk, os⟩ := s; obtain ⟨hl, hb, h⟩ := h
    have hi1 : items[((i : Nat) : Int).toNat]? = none := by simp; omega
    rw [fin0 i hi hi2 (.inl hi1)] at h
    wp_walk using wpAny_loadPart' hl, wpAny_loadPart' hb
    rw [hi1]
    wp_walk using wpAny_loadPart' hl, wpAny_loadPart' hb
    exact h
  | succ k ih =>
    intro i hk hi hi2 prog w A R s h
    obtain ⟨hp, g, d, tk, os⟩ := s; obtain ⟨hl, hb, h⟩ := h
    have hlt : i < items.size := by omega
    obtain ⟨x, t, ex, ev⟩ := h1.2 i hlt
    have hi1 : items[((i : Nat) : Int).toNat]? = some (.str x t) := by rw [← ev]; simp [hlt]
    have hxl : i < xs.length := by rw [← h1.1]; exact hlt
    have hxd : xs.drop i = x :: xs.drop (i + 1) := by
      rw [List.drop_eq_getElem_cons hxl, (List.getElem?_eq_some_iff.mp ex).2]
    by_cases hlt2 : i < items2.size
    · obtain ⟨y, u, ey, ev2⟩ := h2.2 i hlt2
      have hi2 : items2[((i : Nat) : Int).toNat]? = some (.str y u) := by rw [← ev2]; simp [hlt2]
      have hyl : i < ys.length := by rw [← h2.1]; exact hlt2
      have hyd : ys.drop i = y :: ys.drop (i + 1) := by
        rw [List.drop_eq_getElem_cons hyl, (List.getElem?_eq_some_iff.mp ey).2]
      have hc : ((i : Int) + 1) = ((i + 1 : Nat) : Int) := by push_cast; rfl
      rw [hxd, hyd, ltL] at h
      wp_walk using wpAny_loadPart' hl, wpAny_loadPart' hb
      rw [hi1, hi2]
      refine wpAny_bind ((eqGives_str x y t u).at A.in1 _ prog w _ _ ?_)
      cases hb' : x == y with
      | true =>
        rw [hb', if_pos rfl] at h
        wp_walk
        rw [hc]
        exact ⟨plainId_quiet plain_eql _, codeAny_builtin MeetsSeq3.entry_eq_loop (by
          rw [Around.under_plainId plain_eql _]
          exact ih (i + 1) (by omega) hlt hlt2 prog w A R _ ⟨hl, hb, h⟩)⟩
      | false =>
        rw [hb', if_neg (by simp)] at h
        wp_walk using wpAny_loadPart' hl, wpAny_loadPart' hb
        rw [hi1, hi2]
        refine wpAny_bind ?_
        show wpAny _ _ (compareOp .Lt (.str x t) (.str y u)) _ _ _
        exact PyProof.Rows.lt_str (wpAny_pure h)
    · have hi2n : items2[((i : Nat) : Int).toNat]? = none := by simp; omega
      rw [fin0 i hi hi2 (.inr hi2n)] at h
      wp_walk using wpAny_loadPart' hl, wpAny_loadPart' hb
      rw [hi1, hi2n]
      wp_walk using wpAny_loadPart' hl, wpAny_loadPart' hb
      exact h
theorem gt_loopD (l b : Addr) (items items2 : Array Value) (n n2 : Nat) (dd dd2 : Option Addr) (sl sl2 : Array (Option Value)) (xs ys : List Str) (h1 : TextsAt items xs) (h2 : TextsAt items2 ys) (k : Nat) :
    ∀ i : Nat, items.size - i = k → i ≤ items.size → i ≤ items2.size → Meets (Builtin.«list.__eq__.loop» ⟨[.ref l, .ref b, rawInt i, rawInt 4], []⟩)
      (fun A R s => s.heap.get? l = some { cls := .type "list", dict := dd, data := .seq items n, slots := sl } ∧ s.heap.get? b = some { cls := .type "list", dict := dd2, data := .seq items2 n2, slots := sl2 } ∧
        R (.ok (.ret (.bool (ltL (ys.drop i) (xs.drop i))))) s) := by
  have fin0 : ∀ i, i ≤ items.size → i ≤ items2.size → (items[((i : Nat) : Int).toNat]? = none ∨ items2[((i : Nat) : Int).toNat]? = none) → ltL (ys.drop i) (xs.drop i) = decide (items2.size < items.size) := by
    intro i hi hi2 hq
    have e1 := h1.1
    have e2 := h2.1
    rcases hq with hq | hq
    · have : items.size ≤ i := by simpa using hq
      rw [List.drop_eq_nil_of_le (as := xs) (by omega), ltL_nil2]
      exact (decide_eq_false (by omega)).symm
    · have : items2.size ≤ i := by simpa using hq
      rw [List.drop_eq_nil_of_le (as := ys) (by omega), ltL_nil, List.length_drop]
      rw [Bool.eq_iff_iff]
      simp only [decide_eq_true_eq]
      omega
  induction k with
  | zero =>
    intro i hk hi hi2 prog w A R s h
    obtain ⟨hp, g, d, tk, os⟩ := s; obtain ⟨hl, hb, h⟩ := h
    have hi1 : items[((i : Nat) : Int).toNat]? = none := by simp; omega
    rw [fin0 i hi hi2 (.inl hi1)] at h
    wp_walk using wpAny_loadPart' hl, wpAny_loadPart' hb
    rw [hi1]
    wp_walk using wpAny_loadPart' hl, wpAny_loadPart' hb
    exact h
  | succ k ih =>
    intro i hk hi hi2 prog w A R s h
    obtain ⟨hp, g, d, tk, os⟩ := s; obtain ⟨hl, hb, h⟩ := h
    have hlt : i < items.size := by omega
    obtain ⟨x, t, ex, ev⟩ := h1.2 i hlt
    have hi1 : items[((i : Nat) : Int).toNat]? = some (.str x t) := by rw [← ev]; simp [hlt]
    have hxl : i < xs.length := by rw [← h1.1]; exact hlt
    have hxd : xs.drop i = x :: xs.drop (i + 1) := by
      rw [List.drop_eq_getElem_cons hxl, (List.getElem?_eq_some_iff.mp ex).2]
    by_cases hlt2 : i < items2.size
    · obtain ⟨y, u, ey, ev2⟩ := h2.2 i hlt2
      have hi2 : items2[((i : Nat) : Int).toNat]? = some (.str y u) := by rw [← ev2]; simp [hlt2]
      have hyl : i < ys.length := by rw [← h2.1]; exact hlt2
      have hyd : ys.drop i = y :: ys.drop (i + 1) := by
        rw [List.drop_eq_getElem_cons hyl, (List.getElem?_eq_some_iff.mp ey).2]
      have hc : ((i : Int) + 1) = ((i + 1 : Nat) : Int) := by push_cast; rfl
      rw [hxd, hyd, ltL, show (y == x) = (x == y) from by rw [Bool.eq_iff_iff]; simp only [beq_iff_eq]; exact eq_comm] at h
      wp_walk using wpAny_loadPart' hl, wpAny_loadPart' hb
      rw [hi1, hi2]
      refine wpAny_bind ((eqGives_str x y t u).at A.in1 _ prog w _ _ ?_)
      cases hb' : x == y with
      | true =>
        rw [hb', if_pos rfl] at h
        wp_walk
        rw [hc]
        exact ⟨plainId_quiet plain_eql _, codeAny_builtin MeetsSeq3.entry_eq_loop (by
          rw [Around.under_plainId plain_eql _]
          exact ih (i + 1) (by omega) hlt hlt2 prog w A R _ ⟨hl, hb, h⟩)⟩
      | false =>
        rw [hb', if_neg (by simp)] at h
        wp_walk using wpAny_loadPart' hl, wpAny_loadPart' hb
        rw [hi1, hi2]
        refine wpAny_bind ?_
        show wpAny _ _ (compareOp .Gt (.str x t) (.str y u)) _ _ _
        exact PySem.P.gt_str (wpAny_pure h)
    · have hi2n : items2[((i : Nat) : Int).toNat]? = none := by simp; omega
      rw [fin0 i hi hi2 (.inr hi2n)] at h
      wp_walk using wpAny_loadPart' hl, wpAny_loadPart' hb
      rw [hi1, hi2n]
      wp_walk using wpAny_loadPart' hl, wpAny_loadPart' hb
      exact h
theorem list_ltD (l b : Addr) (items items2 : Array Value) (n n2 : Nat) (dd dd2 : Option Addr) (sl sl2 : Array (Option Value)) (xs ys : List Str) (h1 : TextsAt items xs) (h2 : TextsAt items2 ys) :
    Meets (Builtin.«list.__lt__» ⟨[.ref l, .ref b], []⟩)
      (fun A R s => s.heap.get? l = some { cls := .type "list", dict := dd, data := .seq items n, slots := sl } ∧ s.heap.get? b = some { cls := .type "list", dict := dd2, data := .seq items2 n2, slots := sl2 } ∧
        R (.ok (.ret (.bool (ltL xs ys)))) s) := by
  intro prog w A R s h
  obtain ⟨hp, g, d, tk, os⟩ := s; obtain ⟨hl, hb, h⟩ := h
  have hsub := sub_list_self
  wp_walk using wpAny_loadPart' hl, wpAny_loadPart' hb
  exact ⟨plainId_quiet plain_eql _, codeAny_builtin MeetsSeq3.entry_eq_loop (by
    rw [Around.under_plainId plain_eql _]
    exact lt_loopD l b items items2 n n2 dd dd2 sl sl2 xs ys h1 h2 _ 0 rfl (Nat.zero_le _) (Nat.zero_le _) prog w A R _ ⟨hl, hb, h⟩)⟩
theorem list_gtD (l b : Addr) (items items2 : Array Value) (n n2 : Nat) (dd dd2 : Option Addr) (sl sl2 : Array (Option Value)) (xs ys : List Str) (h1 : TextsAt items xs) (h2 : TextsAt items2 ys) :
    Meets (Builtin.«list.__gt__» ⟨[.ref l, .ref b], []⟩)
      (fun A R s => s.heap.get? l = some { cls := .type "list", dict := dd, data := .seq items n, slots := sl } ∧ s.heap.get? b = some { cls := .type "list", dict := dd2, data := .seq items2 n2, slots := sl2 } ∧
        R (.ok (.ret (.bool (ltL ys xs)))) s) := by
  intro prog w A R s h
  obtain ⟨hp, g, d, tk, os⟩ := s; obtain ⟨hl, hb, h⟩ := h
  have hsub := sub_list_self
  wp_walk using wpAny_loadPart' hl, wpAny_loadPart' hb
  exact ⟨plainId_quiet plain_eql _, codeAny_builtin MeetsSeq3.entry_eq_loop (by
    rw [Around.under_plainId plain_eql _]
    exact gt_loopD l b items items2 n n2 dd dd2 sl sl2 xs ys h1 h2 _ 0 rfl (Nat.zero_le _) (Nat.zero_le _) prog w A R _ ⟨hl, hb, h⟩)⟩

theorem rc_lt {A : Around} {s : Shared} {prog : Program} {w : World} {E : Value → Shared → Prop} {l b : Addr} {items items2 : Array Value} {xs ys : List Str} {Q : Value → Shared → Prop} (hl : s.heap.IsList l items) (hb : s.heap.IsList b items2) (h1 : TextsAt items xs) (h2 : TextsAt items2 ys) (hu : A.units < cLine)
    (h : Q (.bool (ltL xs ys)) s) : wpAny (model prog w) A (richCompare .Lt (.ref l) (.ref b)) Q E s := by
  obtain ⟨⟨cls, dd, data, sl⟩, ho, hc, n, hd⟩ := id hl
  obtain ⟨⟨cls2, dd2, data2, sl2⟩, ho2, hc2, n2, hd2⟩ := id hb
  simp only at hc hd hc2 hd2
  subst hc hd hc2 hd2
  refine richCompare_meets_room (op := .Lt) ⟨_, ho, rfl⟩ ⟨_, ho2, rfl⟩ F.slot_list_lt F.entry_list_lt (F.args_list_lt_2 _ _) (list_ltD l b items items2 n n2 dd dd2 sl sl2 xs ys h1 h2) ⟨ho, ho2, ?_⟩ hu
  exact show Value.bool _ ≠ Value.notImplemented ∧ Q (.bool (ltL xs ys)) s from ⟨(fun x => nomatch x), h⟩
theorem rc_gt {A : Around} {s : Shared} {prog : Program} {w : World} {E : Value → Shared → Prop} {l b : Addr} {items items2 : Array Value} {xs ys : List Str} {Q : Value → Shared → Prop} (hl : s.heap.IsList l items) (hb : s.heap.IsList b items2) (h1 : TextsAt items xs) (h2 : TextsAt items2 ys) (hu : A.units < cLine)
    (h : Q (.bool (ltL ys xs)) s) : wpAny (model prog w) A (richCompare .Gt (.ref l) (.ref b)) Q E s := by
  obtain ⟨⟨cls, dd, data, sl⟩, ho, hc, n, hd⟩ := id hl
  obtain ⟨⟨cls2, dd2, data2, sl2⟩, ho2, hc2, n2, hd2⟩ := id hb
  simp only at hc hd hc2 hd2
  subst hc hd hc2 hd2
  refine richCompare_meets_room (op := .Gt) ⟨_, ho, rfl⟩ ⟨_, ho2, rfl⟩ F.slot_list_gt F.entry_list_gt (F.args_list_gt_2 _ _) (list_gtD l b items items2 n n2 dd dd2 sl sl2 xs ys h1 h2) ⟨ho, ho2, ?_⟩ hu
  exact show Value.bool _ ≠ Value.notImplemented ∧ Q (.bool (ltL ys xs)) s from ⟨(fun x => nomatch x), h⟩
end Mine

end
section
open PySem PySem.W PySem.Calls PyProof.Rows
set_option Elab.async false
set_option linter.unusedVariables false
set_option maxRecDepth 100000
set_option maxHeartbeats 4000000
namespace Mine
section
variable {c : Cx} {n : Nat} {A : Around} {g : Heap} {s : Shared} {R : Result → Shared → Prop}
noncomputable def minF (b : List Str) (l : List (List Str)) : List Str := l.foldl (fun b x => if ltL x b then x else b) b
noncomputable def maxF (b : List Str) (l : List (List Str)) : List Str := l.foldl (fun b x => if ltL b x then x else b) b
noncomputable abbrev llD (xss : List (List Str)) : List D := xss.map fun xs => .list (sL xs)
theorem iterAt {h h' : Heap} {it l : Addr} {i : Nat} (x : h.IsListIter it l i) (k : ∀ o, h.get? it = some o → h'.get? it = some o) : h'.IsListIter it l i := let ⟨o, e, r⟩ := x; ⟨o, k o e, r⟩
theorem min_loopD {I L S : Addr} {items : Array Value} {xss : List (List Str)} (hh : A.handled = none) (hu : A.in1.units < cLine) (hL : IsL g L items) (r : Reps c g (llD xss) items.toList) (gI : g.get? I = none) (gS : g.get? S = none) (SI : S ≠ I) :
    ∀ (k j : Nat) (s : Shared) (vb : Value) (cc : Nat) (best : List Str), xss.length - j = k → j ≤ xss.length → Le g s.heap → s.heap.IsListIter I L j → Rep c g (.list (sL best)) vb →
      s.heap.get? S = some { cls := .type "list", dict := none, data := .seq #[vb, vb] cc, slots := #[] } →
      (∀ v h' tk, Rep c g (.list (sL (minF best (xss.drop j)))) v → (∀ b o, b ≠ I → b ≠ S → s.heap.get? b = some o → h'.get? b = some o) → R (.ok (.ret v)) { s with heap := h', toks := tk }) →
      codeAny (model c.prog c.w) A (.builtin "min.loop" ⟨[.ref I, .none, .ref S], []⟩) R s := by
  have hname : (toString "min" ++ toString ".loop" : String) = "min.loop" := by decide
  have hlen := r.length
  simp only [List.length_map, Array.length_toList] at hlen
  intro k
  induction k with
  | zero =>
    intro j s vb cc best hk hj lg hit rb hS hR
    refine codeAny_builtin F.entry_min_loop ?_
    rw [Around.under_plainId F.plain_min_loop _]
    show wpAny _ A.in1 (seqItems? (.ref S) >>= _) _ _ s
    refine wpAny_bind (wpAny_seqItems hS rfl ?_)
    show wpAny _ A.in1 (tryCatch (pyNext (.ref I)) _ >>= _) _ _ s
    refine wpAny_bind (wpAny_tryCatch (wpAny_pyNext_list_end hh hit (isList_le lg hL) (by rw [Array.getElem?_eq_none]; omega) fun h' hk' => ?_))
    have hS' := hk' S _ SI hS
    show wpAny _ A.in1 (updateSeq S (fun _ => #[]) >>= _) _ _ _
    refine wpAny_bind ?_
    refine wpAny_updateSeq hS' rfl (wpAny_bind (wpAny_letGo (wpAny_pure ?_)))
    refine hR vb _ s.toks ?_ fun b o hbw hbS e => (Heap.get?_update_other _ _ (Ne.symm hbS)).trans (hk' b o hbw e)
    rw [List.drop_eq_nil_of_le (by omega)]
    exact rb
  | succ k ih =>
    intro j s vb cc best hk hj lg hit rb hS hR
    have hlt : j < xss.length := by omega
    have hdr : xss.drop j = xss[j] :: xss.drop (j + 1) := List.drop_eq_getElem_cons hlt
    obtain ⟨v, hv, rv⟩ := r.get (d := .list (sL xss[j])) (i := j) (by simp [hlt])
    refine codeAny_builtin F.entry_min_loop ?_
    rw [Around.under_plainId F.plain_min_loop _]
    show wpAny _ A.in1 (seqItems? (.ref S) >>= _) _ _ s
    refine wpAny_bind (wpAny_seqItems hS rfl ?_)
    show wpAny _ A.in1 (tryCatch (pyNext (.ref I)) _ >>= _) _ _ s
    refine wpAny_bind (wpAny_tryCatch (wpAny_pyNext_list_item hit (isList_le lg hL) (x := v) (by simpa using hv) fun h' hit' hk' => ?_))
    have hS' := (hk'.2 S SI).trans hS
    have lg' : Le g h' := fun a o e => (hk'.2 a (fun q => by rw [q, gI] at e; cases e)).trans (lg _ _ e)
    show wpAny _ A.in1 (tryCatch (holding [v, v] (richCompare .Lt v vb >>= _)) _ >>= _) _ _ _
    cases rv with
    | list av qv =>
      cases rb with
      | list ab qb =>
        refine wpAny_bind (wpAny_tryCatch (wpAny_holding (wpAny_bind (rc_lt (s := { s with heap := h' }) (isList_le lg' av) (isList_le lg' ab) (TextsAt.of qv) (TextsAt.of qb) hu ?_))))
        refine wpAny_bind (wpAny_holding (wpAny_truthy_bool ?_))
        refine wpAny_bind (wpAny_letGo (wpAny_pure ?_))
        cases hb : ltL xss[j] best with
        | true =>
          simp only [if_true]
          refine wpAny_bind ?_
          refine wpAny_updateSeq hS' rfl (wpAny_bind (wpAny_letGo ?_))
          rw [hname]
          refine wpAny_pure ⟨plainId_quiet F.plain_min_loop _, ih (j + 1) _ _ _ xss[j] (by omega) hlt ?_ (iterAt hit' fun o e => (Heap.get?_update_other _ _ SI).trans e) (.list av qv) (Heap.get?_update_self _ hS' rfl)
            fun v' h'' tk'' hP' hk'' => ?_⟩
          · exact fun a o e => (Heap.get?_update_other _ _ (fun q => by rw [← q, gS] at e; cases e)).trans (lg' _ _ e)
          · refine hR v' h'' tk'' ?_ fun b o hbw hbS e => hk'' b o hbw hbS ((Heap.get?_update_other _ _ (Ne.symm hbS)).trans ((hk'.2 b hbw).trans e))
            rw [hdr, minF, List.foldl_cons, if_pos hb]
            exact hP'
        | false =>
          simp only [Bool.false_eq_true, if_false]
          refine wpAny_bind (wpAny_letGo ?_)
          rw [hname]
          refine wpAny_pure ⟨plainId_quiet F.plain_min_loop _, ih (j + 1) _ _ cc best (by omega) hlt lg' hit' (.list ab qb) hS' fun v' h'' tk'' hP' hk'' => ?_⟩
          refine hR v' h'' tk'' ?_ fun b o hbw hbS e => hk'' b o hbw hbS ((hk'.2 b hbw).trans e)
          rw [hdr, minF, List.foldl_cons, if_neg (by rw [hb]; simp)]
          exact hP'
/-- min of a list of lists of texts -/
theorem min_ll {x : List Str} {xss : List (List Str)} : Prim c (n + 1) [.list (llD (x :: xss))] (fun vs => PySem.call (.builtin "min") vs) (.list (sL (minF x xss))) := by
  have hname : (toString "min" ++ toString ".loop" : String) = "min.loop" := by decide
  refine cal1 fun A g s u RR l w ru => ?_
  cases ru with
  | list hL rL =>
    rename_i L items
    have hlen := rL.length
    simp only [List.length_map, List.length_cons, Array.length_toList] at hlen
    refine call_function_tree F.kind_min F.plain_min F.entry_min (F.args_min1 _) ?_
    show wpAny _ A.in1 (Builtin.Builtins.bindParams "min" ["key", "default"] 0 ⟨[], []⟩ >>= _) _ _ s
    refine wpAny_bind (wpAny_of_eq (show Builtin.Builtins.bindParams "min" ["key", "default"] 0 ⟨[], []⟩ = pure [none, none] from rfl) ?_)
    refine wpAny_bind (wpAny_pure ?_)
    refine wpAny_bind (wpAny_pyIter_list (isList_le l hL) ?_)
    refine wpAny_bind (wpAny_newObj_type ?_)
    rw [hname]
    dsimp only
    generalize hH : (s.heap.push { cls := .type "list_iterator", data := .fields #[.ref L, .int 0 0] }) = H1
    have zH : H1.objs.size = s.heap.objs.size + 1 := by rw [← hH, Heap.size_push]
    have k1 : Le s.heap H1 := hH ▸ le_push _ _
    have it1 : H1.IsListIter s.heap.objs.size L 0 := hH ▸ ⟨_, Heap.get?_push_size _ rfl, rfl, rfl⟩
    generalize hH2 : (H1.push { cls := .type "list", data := .seq #[] }) = H2
    have k2 : Le H1 H2 := hH2 ▸ le_push _ _
    have it2 : H2.IsListIter s.heap.objs.size L 0 := iterAt it1 fun o e => k2 _ _ e
    have eS : H2.get? H1.objs.size = some { cls := .type "list", data := .seq #[] } := hH2 ▸ Heap.get?_push_size _ rfl
    have gI : g.get? s.heap.objs.size = none := ge_none l (Nat.le_refl _)
    have gS : g.get? H1.objs.size = none := ge_none l (by omega)
    have SI : H1.objs.size ≠ s.heap.objs.size := by
      intro q
      have : (H1.objs.size : Nat) = s.heap.objs.size := q
      omega
    have lg2 : Le g H2 := l.trans (k1.trans k2)
    obtain ⟨v, hv, rv⟩ := rL.get (d := .list (sL x)) (i := 0) rfl
    refine wpAny_pure ⟨plainId_quiet F.plain_min_loop _, codeAny_builtin F.entry_min_loop ?_⟩
    rw [Around.under_plainId F.plain_min_loop _]
    show wpAny _ A.in1 (seqItems? (.ref H1.objs.size) >>= _) _ _ _
    refine wpAny_bind (wpAny_seqItems eS rfl ?_)
    show wpAny _ A.in1 (tryCatch (pyNext (.ref s.heap.objs.size)) _ >>= _) _ _ _
    refine wpAny_bind (wpAny_tryCatch (wpAny_pyNext_list_item it2 (isList_le lg2 hL) (x := v) (by simpa using hv) fun h' hit' hk' => ?_))
    have eS' := (hk'.2 _ SI).trans eS
    have lg' : Le g h' := fun a o e => (hk'.2 a (fun q => by rw [q, gI] at e; cases e)).trans (lg2 _ _ e)
    show wpAny _ A.in1 (updateSeq H1.objs.size (fun _ => #[v, v]) >>= _) _ _ _
    refine wpAny_bind ?_
    refine wpAny_updateSeq eS' rfl ?_
    rw [hname]
    refine wpAny_pure ⟨plainId_quiet F.plain_min_loop _, min_loopD (A := A) (xss := x :: xss) RR.hh (by have := RR.un; show A.units + 1 < 9900; omega) hL rL gI gS SI xss.length 1 _ v _ x (by simp) (by simp) ?_ (iterAt hit' fun o e => (Heap.get?_update_other _ _ SI).trans e) rv (Heap.get?_update_self _ eS' rfl) fun v' h'' tk'' hP' hk'' => ?_⟩
    · exact fun a o e => (Heap.get?_update_other _ _ (fun q => by rw [← q, gS] at e; cases e)).trans (lg' _ _ e)
    · have kk : Le s.heap h'' := fun a o e => by
        have n1 : a ≠ s.heap.objs.size := Nat.ne_of_lt (Heap.lt_size e)
        have n2 : a ≠ H1.objs.size := Nat.ne_of_lt (Heap.lt_size (k1 _ _ e))
        exact hk'' a o n1 n2 ((Heap.get?_update_other _ _ (Ne.symm n2)).trans ((hk'.2 a n1).trans (k2 _ _ (k1 _ _ e))))
      exact ⟨g, h'', tk'', rfl, Grow.of kk (Le.refl _) (l.trans kk) fun _ _ e => .inl e, hP'⟩
theorem max_loopD {I L S : Addr} {items : Array Value} {xss : List (List Str)} (hh : A.handled = none) (hu : A.in1.units < cLine) (hL : IsL g L items) (r : Reps c g (llD xss) items.toList) (gI : g.get? I = none) (gS : g.get? S = none) (SI : S ≠ I) :
    ∀ (k j : Nat) (s : Shared) (vb : Value) (cc : Nat) (best : List Str), xss.length - j = k → j ≤ xss.length → Le g s.heap → s.heap.IsListIter I L j → Rep c g (.list (sL best)) vb →
      s.heap.get? S = some { cls := .type "list", dict := none, data := .seq #[vb, vb] cc, slots := #[] } →
      (∀ v h' tk, Rep c g (.list (sL (maxF best (xss.drop j)))) v → (∀ b o, b ≠ I → b ≠ S → s.heap.get? b = some o → h'.get? b = some o) → R (.ok (.ret v)) { s with heap := h', toks := tk }) →
      codeAny (model c.prog c.w) A (.builtin "max.loop" ⟨[.ref I, .none, .ref S], []⟩) R s := by
  have hname : (toString "max" ++ toString ".loop" : String) = "max.loop" := by decide
  have hlen := r.length
  simp only [List.length_map, Array.length_toList] at hlen
  intro k
  induction k with
  | zero =>
    intro j s vb cc best hk hj lg hit rb hS hR
    refine codeAny_builtin F.entry_max_loop ?_
    rw [Around.under_plainId F.plain_max_loop _]
    show wpAny _ A.in1 (seqItems? (.ref S) >>= _) _ _ s
    refine wpAny_bind (wpAny_seqItems hS rfl ?_)
    show wpAny _ A.in1 (tryCatch (pyNext (.ref I)) _ >>= _) _ _ s
    refine wpAny_bind (wpAny_tryCatch (wpAny_pyNext_list_end hh hit (isList_le lg hL) (by rw [Array.getElem?_eq_none]; omega) fun h' hk' => ?_))
    have hS' := hk' S _ SI hS
    show wpAny _ A.in1 (updateSeq S (fun _ => #[]) >>= _) _ _ _
    refine wpAny_bind ?_
    refine wpAny_updateSeq hS' rfl (wpAny_bind (wpAny_letGo (wpAny_pure ?_)))
    refine hR vb _ s.toks ?_ fun b o hbw hbS e => (Heap.get?_update_other _ _ (Ne.symm hbS)).trans (hk' b o hbw e)
    rw [List.drop_eq_nil_of_le (by omega)]
    exact rb
  | succ k ih =>
    intro j s vb cc best hk hj lg hit rb hS hR
    have hlt : j < xss.length := by omega
    have hdr : xss.drop j = xss[j] :: xss.drop (j + 1) := List.drop_eq_getElem_cons hlt
    obtain ⟨v, hv, rv⟩ := r.get (d := .list (sL xss[j])) (i := j) (by simp [hlt])
    refine codeAny_builtin F.entry_max_loop ?_
    rw [Around.under_plainId F.plain_max_loop _]
    show wpAny _ A.in1 (seqItems? (.ref S) >>= _) _ _ s
    refine wpAny_bind (wpAny_seqItems hS rfl ?_)
    show wpAny _ A.in1 (tryCatch (pyNext (.ref I)) _ >>= _) _ _ s
    refine wpAny_bind (wpAny_tryCatch (wpAny_pyNext_list_item hit (isList_le lg hL) (x := v) (by simpa using hv) fun h' hit' hk' => ?_))
    have hS' := (hk'.2 S SI).trans hS
    have lg' : Le g h' := fun a o e => (hk'.2 a (fun q => by rw [q, gI] at e; cases e)).trans (lg _ _ e)
    show wpAny _ A.in1 (tryCatch (holding [v, v] (richCompare .Gt v vb >>= _)) _ >>= _) _ _ _
    cases rv with
    | list av qv =>
      cases rb with
      | list ab qb =>
        refine wpAny_bind (wpAny_tryCatch (wpAny_holding (wpAny_bind (rc_gt (s := { s with heap := h' }) (isList_le lg' av) (isList_le lg' ab) (TextsAt.of qv) (TextsAt.of qb) hu ?_))))
        refine wpAny_bind (wpAny_holding (wpAny_truthy_bool ?_))
        refine wpAny_bind (wpAny_letGo (wpAny_pure ?_))
        cases hb : ltL best xss[j] with
        | true =>
          simp only [if_true]
          refine wpAny_bind ?_
          refine wpAny_updateSeq hS' rfl (wpAny_bind (wpAny_letGo ?_))
          rw [hname]
          refine wpAny_pure ⟨plainId_quiet F.plain_max_loop _, ih (j + 1) _ _ _ xss[j] (by omega) hlt ?_ (iterAt hit' fun o e => (Heap.get?_update_other _ _ SI).trans e) (.list av qv) (Heap.get?_update_self _ hS' rfl)
            fun v' h'' tk'' hP' hk'' => ?_⟩
          · exact fun a o e => (Heap.get?_update_other _ _ (fun q => by rw [← q, gS] at e; cases e)).trans (lg' _ _ e)
          · refine hR v' h'' tk'' ?_ fun b o hbw hbS e => hk'' b o hbw hbS ((Heap.get?_update_other _ _ (Ne.symm hbS)).trans ((hk'.2 b hbw).trans e))
            rw [hdr, maxF, List.foldl_cons, if_pos hb]
            exact hP'
        | false =>
          simp only [Bool.false_eq_true, if_false]
          refine wpAny_bind (wpAny_letGo ?_)
          rw [hname]
          refine wpAny_pure ⟨plainId_quiet F.plain_max_loop _, ih (j + 1) _ _ cc best (by omega) hlt lg' hit' (.list ab qb) hS' fun v' h'' tk'' hP' hk'' => ?_⟩
          refine hR v' h'' tk'' ?_ fun b o hbw hbS e => hk'' b o hbw hbS ((hk'.2 b hbw).trans e)
          rw [hdr, maxF, List.foldl_cons, if_neg (by rw [hb]; simp)]
          exact hP'
/-- max of a list of lists of texts -/
theorem max_ll {x : List Str} {xss : List (List Str)} : Prim c (n + 1) [.list (llD (x :: xss))] (fun vs => PySem.call (.builtin "max") vs) (.list (sL (maxF x xss))) := by
  have hname : (toString "max" ++ toString ".loop" : String) = "max.loop" := by decide
  refine cal1 fun A g s u RR l w ru => ?_
  cases ru with
  | list hL rL =>
    rename_i L items
    have hlen := rL.length
    simp only [List.length_map, List.length_cons, Array.length_toList] at hlen
    refine call_function_tree F.kind_max F.plain_max F.entry_max (F.args_max1 _) ?_
    show wpAny _ A.in1 (Builtin.Builtins.bindParams "max" ["key", "default"] 0 ⟨[], []⟩ >>= _) _ _ s
    refine wpAny_bind (wpAny_of_eq (show Builtin.Builtins.bindParams "max" ["key", "default"] 0 ⟨[], []⟩ = pure [none, none] from rfl) ?_)
    refine wpAny_bind (wpAny_pure ?_)
    refine wpAny_bind (wpAny_pyIter_list (isList_le l hL) ?_)
    refine wpAny_bind (wpAny_newObj_type ?_)
    rw [hname]
    dsimp only
    generalize hH : (s.heap.push { cls := .type "list_iterator", data := .fields #[.ref L, .int 0 0] }) = H1
    have zH : H1.objs.size = s.heap.objs.size + 1 := by rw [← hH, Heap.size_push]
    have k1 : Le s.heap H1 := hH ▸ le_push _ _
    have it1 : H1.IsListIter s.heap.objs.size L 0 := hH ▸ ⟨_, Heap.get?_push_size _ rfl, rfl, rfl⟩
    generalize hH2 : (H1.push { cls := .type "list", data := .seq #[] }) = H2
    have k2 : Le H1 H2 := hH2 ▸ le_push _ _
    have it2 : H2.IsListIter s.heap.objs.size L 0 := iterAt it1 fun o e => k2 _ _ e
    have eS : H2.get? H1.objs.size = some { cls := .type "list", data := .seq #[] } := hH2 ▸ Heap.get?_push_size _ rfl
    have gI : g.get? s.heap.objs.size = none := ge_none l (Nat.le_refl _)
    have gS : g.get? H1.objs.size = none := ge_none l (by omega)
    have SI : H1.objs.size ≠ s.heap.objs.size := by
      intro q
      have : (H1.objs.size : Nat) = s.heap.objs.size := q
      omega
    have lg2 : Le g H2 := l.trans (k1.trans k2)
    obtain ⟨v, hv, rv⟩ := rL.get (d := .list (sL x)) (i := 0) rfl
    refine wpAny_pure ⟨plainId_quiet F.plain_max_loop _, codeAny_builtin F.entry_max_loop ?_⟩
    rw [Around.under_plainId F.plain_max_loop _]
    show wpAny _ A.in1 (seqItems? (.ref H1.objs.size) >>= _) _ _ _
    refine wpAny_bind (wpAny_seqItems eS rfl ?_)
    show wpAny _ A.in1 (tryCatch (pyNext (.ref s.heap.objs.size)) _ >>= _) _ _ _
    refine wpAny_bind (wpAny_tryCatch (wpAny_pyNext_list_item it2 (isList_le lg2 hL) (x := v) (by simpa using hv) fun h' hit' hk' => ?_))
    have eS' := (hk'.2 _ SI).trans eS
    have lg' : Le g h' := fun a o e => (hk'.2 a (fun q => by rw [q, gI] at e; cases e)).trans (lg2 _ _ e)
    show wpAny _ A.in1 (updateSeq H1.objs.size (fun _ => #[v, v]) >>= _) _ _ _
    refine wpAny_bind ?_
    refine wpAny_updateSeq eS' rfl ?_
    rw [hname]
    refine wpAny_pure ⟨plainId_quiet F.plain_max_loop _, max_loopD (A := A) (xss := x :: xss) RR.hh (by have := RR.un; show A.units + 1 < 9900; omega) hL rL gI gS SI xss.length 1 _ v _ x (by simp) (by simp) ?_ (iterAt hit' fun o e => (Heap.get?_update_other _ _ SI).trans e) rv (Heap.get?_update_self _ eS' rfl) fun v' h'' tk'' hP' hk'' => ?_⟩
    · exact fun a o e => (Heap.get?_update_other _ _ (fun q => by rw [← q, gS] at e; cases e)).trans (lg' _ _ e)
    · have kk : Le s.heap h'' := fun a o e => by
        have n1 : a ≠ s.heap.objs.size := Nat.ne_of_lt (Heap.lt_size e)
        have n2 : a ≠ H1.objs.size := Nat.ne_of_lt (Heap.lt_size (k1 _ _ e))
        exact hk'' a o n1 n2 ((Heap.get?_update_other _ _ (Ne.symm n2)).trans ((hk'.2 a n1).trans (k2 _ _ (k1 _ _ e))))
      exact ⟨g, h'', tk'', rfl, Grow.of kk (Le.refl _) (l.trans kk) fun _ _ e => .inl e, hP'⟩
end
end Mine

end
section
open PySem PySem.W PySem.Calls PyProof.Rows
open AutoSeq1 (wpAny_loadPart')
set_option Elab.async false
set_option linter.unusedVariables false
set_option maxRecDepth 100000
set_option maxHeartbeats 4000000
namespace Mine
theorem map_iter : PySem.Slot "map" "__iter__" "map.__iter__" :=
  .of (owner := "map") (n := "__iter__") (by rw [typeLookup_type, builtinLookup_eq_fast]; kernel_rfl) (by decide +kernel) (by decide +kernel) (by decide +kernel)
    (by first | exact .inl (by decide +kernel) | exact .inr (by decide +kernel)) (by rw [isSubtype_type]; kernel_rfl)
theorem map_next : PySem.Slot "map" "__next__" "map.__next__" :=
  .of (owner := "map") (n := "__next__") (by rw [typeLookup_type, builtinLookup_eq_fast]; kernel_rfl) (by decide +kernel) (by decide +kernel) (by decide +kernel)
    (by first | exact .inl (by decide +kernel) | exact .inr (by decide +kernel)) (by rw [isSubtype_type]; kernel_rfl)
theorem map_init : PySem.Slot "map" "__init__" "object.__init__" :=
  .of (owner := "object") (n := "__init__") (by rw [typeLookup_type, builtinLookup_eq_fast]; kernel_rfl) (by decide +kernel) (by decide +kernel) (by decide +kernel)
    (by first | exact .inl (by decide +kernel) | exact .inr (by decide +kernel)) (by rw [isSubtype_type]; kernel_rfl)
theorem map_mro : mroOf (.type "map") = pure [.type "map", .type "object"] := by rw [mroOf_type]; kernel_rfl
theorem map_lookup_new : typeLookup (.type "map") "__new__" = pure (some (.builtin "map.__new__")) := by rw [typeLookup_type, builtinLookup_eq_fast]; kernel_rfl
theorem map_called : TypeCalled "map" "map.__new__" "object.__init__" :=
  ⟨by decide +kernel, by decide +kernel, ⟨_, _, map_mro⟩, madeBy_type map_mro map_lookup_new (by decide +kernel), by decide +kernel, by rw [isSubtype_type]; kernel_rfl, map_init⟩
theorem map_typeCall (a b : Value) : checkTypeCall "map" ⟨[a, b], []⟩ = pure () := by kernel_rfl
theorem map_newCall (a b : Value) : checkBuiltinCall "map.__new__" ⟨[.type "map", a, b], []⟩ = pure () := by kernel_rfl
theorem map_entry_new : entryFor table "map.__new__" = some Builtin.«map.__new__» := entryFor_of_tree (by kernel_rfl)
theorem map_entry_next : entryFor table "map.__next__" = some Builtin.«map.__next__» := entryFor_of_tree (by kernel_rfl)
theorem map_entry_iter : entryFor table "map.__iter__" = some Builtin.«dict_keyiterator.__iter__» :=
  entryFor_alias (id' := "dict_keyiterator.__iter__") (by kernel_rfl) (by first | rfl | decide +kernel | (unfold String.splitOn; simp +decide [String.splitOnAux])) (by decide +kernel) (by kernel_rfl)
theorem map_args_next (a : Value) : argsOk "map.__next__" ⟨[a], []⟩ := by unfold argsOk; kernel_rfl
theorem map_args_iter (a : Value) : argsOk "map.__iter__" ⟨[a], []⟩ := by unfold argsOk; kernel_rfl
theorem map_args_init (o a b : Value) : argsOk "object.__init__" ⟨[o, a, b], []⟩ := by unfold argsOk; kernel_rfl
theorem map_sub : isSubtype (.type "map") (.type "map") = pure true := by rw [isSubtype_type]; kernel_rfl
theorem map_no_len : typeLookup (.type "map") "__len__" = pure none := by rw [typeLookup_type, builtinLookup_eq_fast]; kernel_rfl
theorem map_no_hint : typeLookup (.type "map") "__length_hint__" = pure none := by rw [typeLookup_type, builtinLookup_eq_fast]; kernel_rfl
theorem meets_map_new (f : Value) (l : Addr) (items : Array Value) (n : Nat) (dct : Option Addr) (sl : Array (Option Value)) :
    Meets (Builtin.«map.__new__» ⟨[.type "map", f, .ref l], []⟩) (fun _ R s => s.heap.get? l = some { cls := .type "list", dict := dct, data := .seq items n, slots := sl } ∧
      R (.ok (.ret (.ref ((s.heap.push { cls := .type "list_iterator", data := .fields #[.ref l, .int 0 0] }).push { cls := .type "tuple", data := .seq #[.ref s.heap.objs.size] }).objs.size)))
        { s with heap := ((s.heap.push { cls := .type "list_iterator", data := .fields #[.ref l, .int 0 0] }).push { cls := .type "tuple", data := .seq #[.ref s.heap.objs.size] }).push { cls := .type "map", data := .fields #[.ref (s.heap.push { cls := .type "list_iterator", data := .fields #[.ref l, .int 0 0] }).objs.size, f] } }) :=
  .of_wp fun prog w A R s h => by
    obtain ⟨hp, g, d, tk, os⟩ := s; obtain ⟨hl, h⟩ := h
    have hsub := map_sub
    have hL : Heap.IsList (Shared.heap ⟨hp, g, d, tk, os⟩) l items := ⟨_, hl, rfl, n, rfl⟩
    wp_walk using wpAny_loadPart' hl, wpAny_pyIter_list hL
    exact ⟨_, rfl, h⟩
section
variable {c : Cx} {n : Nat} {A : Around} {g : Heap} {s : Shared} {prog : Program} {w : World} {E : Value → Shared → Prop}
noncomputable abbrev mapObj (tp : Addr) (f : Value) : Obj := { cls := .type "map", data := .fields #[.ref tp, f] }
noncomputable abbrev tup1 (it : Addr) : Obj := { cls := .type "tuple", data := .seq #[.ref it] }
theorem call_map {f : Value} {l : Addr} {items : Array Value} {Q : Value → Shared → Prop} (hL : s.heap.IsList l items)
    (h : ∀ h', Le s.heap h' → h'.get? (s.heap.objs.size + 2) = some (mapObj (s.heap.objs.size + 1) f) → h'.get? (s.heap.objs.size + 1) = some (tup1 s.heap.objs.size) → h'.IsListIter s.heap.objs.size l 0 → Q (.ref (s.heap.objs.size + 2)) { s with heap := h' }) :
    wpAny (model prog w) A (call (.type "map") [f, .ref l]) Q E s := by
  obtain ⟨⟨cl, dct, dt, sl⟩, hl, hc, n, hd⟩ := hL
  simp only at hc hd
  subst hc hd
  refine callType_new map_called (by decide) (map_typeCall _ _) (map_newCall _ _) (fun obj => map_args_init obj _ _) map_entry_new (meets_map_new f l items n dct sl) ⟨hl, ?_⟩
  generalize hH1 : s.heap.push { cls := .type "list_iterator", data := .fields #[.ref l, .int 0 0] } = H1
  have z1 : H1.objs.size = s.heap.objs.size + 1 := by rw [← hH1, Heap.size_push]
  have k1 : Le s.heap H1 := hH1 ▸ le_push _ _
  generalize hH2 : H1.push { cls := .type "tuple", data := .seq #[.ref s.heap.objs.size] } = H2
  have z2 : H2.objs.size = s.heap.objs.size + 2 := by rw [← hH2, Heap.size_push, z1]
  have k2 : Le H1 H2 := hH2 ▸ le_push _ _
  generalize hH3 : H2.push { cls := .type "map", data := .fields #[.ref H1.objs.size, f] } = H3
  have k3 : Le H2 H3 := hH3 ▸ le_push _ _
  have e3 : H3.get? H2.objs.size = some (mapObj H1.objs.size f) := hH3 ▸ Heap.get?_push_size _ rfl
  have e2 : H2.get? H1.objs.size = some (tup1 s.heap.objs.size) := hH2 ▸ Heap.get?_push_size _ rfl
  have e1 : H1.get? s.heap.objs.size = some { cls := .type "list_iterator", data := .fields #[.ref l, .int 0 0] } := hH1 ▸ Heap.get?_push_size _ rfl
  show _ ∧ _
  refine ⟨⟨_, e3, rfl⟩, ?_⟩
  rw [z2]
  rw [z2, z1] at e3
  rw [z1] at e2
  exact h H3 (k1.trans (k2.trans k3)) e3 (k3 _ _ e2) ⟨_, k3 _ _ (k2 _ _ e1), rfl, rfl⟩
theorem map_self {mp tp : Addr} {f : Value} {Q : Value → Shared → Prop} (hm : s.heap.get? mp = some (mapObj tp f)) (h : Q (.ref mp) s) : wpAny (model prog w) A (pyIter (.ref mp)) Q E s := by
  have hT : s.TypeIs (.ref mp) "map" := ⟨_, hm, rfl⟩
  refine wpAny_pyIter_slot hT map_iter (wpAny_call_entry map_iter hT map_entry_iter ?_ (map_args_iter _))
  show wpAny _ _ (ret (.ref mp)) _ _ s
  exact wpAny_pure ⟨_, rfl, "map", _, hT, map_next.lookup, h⟩
theorem map_next_open {mp tp it : Addr} {f : Value} {Q : Option Value → Shared → Prop} (hm : s.heap.get? mp = some (mapObj tp f)) (ht : s.heap.get? tp = some (tup1 it))
    (h : wpAny (model prog w) A.in1 (Builtin.SmallTypes.nextOf (.ref it)) (fun v s₁ => s₁.heap.get? mp = some (mapObj tp f) ∧ wpAny (model prog w) A.in1 (call f [v]) (fun r s₂ => Q (some r) s₂) Noth s₁)
      (fun e s₁ => s₁.TypeIs e "StopIteration" ∧ Q none s₁) s) : wpAny (model prog w) A (pyNext (.ref mp)) Q E s := by
  have hT : s.TypeIs (.ref mp) "map" := ⟨_, hm, rfl⟩
  unfold pyNext
  refine wpAny_bind (wpAny_attempt (wpAny_callSpecial?_slot (name := Str.ofString "__next__") hT map_next (wpAny_call_entry map_next hT map_entry_next ?_ (map_args_next _))))
  show wpAny _ _ (field (.ref mp) 0 >>= _) _ _ s
  refine wpAny_bind (wpAny_field hm rfl (x := .ref tp) rfl ?_)
  show wpAny _ _ (seqItems? (.ref tp) >>= _) _ _ s
  refine wpAny_bind (wpAny_seqItems ht rfl ?_)
  dsimp only
  have e : ∀ (k : Value → Array Value → Sem (ForInStep (Array Value))), forIn #[Value.ref it] (#[] : Array Value) k = (k (.ref it) #[] >>= fun r => match r with | .done b => pure b | .yield b => pure b) := fun k => by
    rw [← Array.forIn_toList]
    simp only [List.forIn_cons, List.forIn_nil]
    congr 1
    funext r
    cases r <;> rfl
  rw [e]
  refine wpAny_bind (wpAny_bind (wpAny_bind (wpAny_holding (wpAny_mono h (fun v s₁ hv => wpAny_pure ?_) fun ex s₁ he => ?_))))
  · obtain ⟨hm1, hv⟩ := hv
    refine wpAny_pure ?_
    refine wpAny_bind (wpAny_field hm1 rfl (x := f) rfl ?_)
    refine wpAny_bind (wpAny_holding (wpAny_mono hv (fun r s₂ hr => ?_) fun _ _ z => z.elim))
    exact wpAny_bind (wpAny_letGo (wpAny_pure ⟨_, rfl, wpAny_pure hr⟩))
  · obtain ⟨hTe, hq⟩ := he
    refine wpAny_bind (wpAny_isInstance (T := "StopIteration") (b := true) hTe isSubtype_stop ?_)
    exact wpAny_pure hq
end
end Mine

end
section
open PySem PySem.W PySem.Calls PyProof.Rows
open AutoSeq1 (wpAny_loadPart')
set_option Elab.async false
set_option linter.unusedVariables false
set_option maxRecDepth 100000
set_option maxHeartbeats 4000000
namespace Mine
section
variable {c : Cx} {n : Nat} {A : Around} {g : Heap} {s : Shared} {E : Value → Shared → Prop}
/-- a map over a list of texts, at the place i -/
structure MapS (c : Cx) (Φ : Addr → Prop) (g : Heap) (mp tp it l : Addr) (f : Value) (xs : List Str) (i : Nat) (h : Heap) : Prop where
  top : Top Φ g h
  wf : Wf c g
  gm : g.get? mp = some (mapObj tp f)
  gt : g.get? tp = some (tup1 it)
  gl : ∃ items : Array Value, IsL g l items ∧ Reps c g (sL xs) items.toList
  git : g.get? it = none
  it : h.IsListIter it l i
  le : i ≤ xs.length
theorem MapS.move {Φ : Addr → Prop} {mp tp it l : Addr} {f : Value} {xs : List Str} {i : Nat} {h h' : Heap} (S : MapS c Φ g mp tp it l f xs i h) {S' : Addr} (gS : g.get? S' = none) (nS : S' ≠ it) (nF : ¬ Φ S') (k : ∀ a o, a ≠ S' → h.get? a = some o → h'.get? a = some o) : MapS c Φ g mp tp it l f xs i h' :=
  ⟨⟨fun a o e => k a o (fun q => by rw [q, gS] at e; cases e) (S.top.le _ _ e), fun a ha => ⟨(S.top.fl a ha).1, by
    obtain ⟨o, es, ep, e, hd⟩ := (S.top.fl a ha).2
    exact ⟨o, es, ep, k a o (fun q => nF (q ▸ ha)) e, hd⟩⟩⟩, S.wf, S.gm, S.gt, S.gl, S.git, iterAt S.it fun o e => k _ _ (Ne.symm nS) e, S.le⟩
theorem MapS.nit {Φ : Addr → Prop} {mp tp it l : Addr} {f : Value} {xs : List Str} {i : Nat} {h : Heap} (S : MapS c Φ g mp tp it l f xs i h) : ¬ Φ it := fun z => by
  obtain ⟨o, es, ep, e, hd⟩ := (S.top.fl it z).2
  obtain ⟨o', e', _, hd'⟩ := S.it
  rw [e] at e'; cases e'
  rw [hd] at hd'; cases hd'
theorem map_step {mp tp it l : Addr} {f : Value} {xs : List Str} {i k : Nat} (R : Room A (k + 1)) (pf : ∀ x ∈ xs, Prim c k [.str x] (fun vs => PySem.call f vs) (.str x)) (S : MapS c (fr A) g mp tp it l f xs i s.heap) :
    wpAny (model c.prog c.w) A (pyNext (.ref mp)) (fun r s₁ => ∃ h' tk, s₁ = { s with heap := h', toks := tk } ∧ (∀ a, a ≠ it → Kp (fr A) s.heap h' a) ∧ match xs[i]? with
      | none => r = none
      | some x => ∃ t, r = some (.str x t) ∧ MapS c (fr A) g mp tp it l f xs (i + 1) h') Noth s := by
  obtain ⟨items, hl, hr⟩ := S.gl
  have hlen := hr.length
  simp only [Array.length_toList, List.length_map] at hlen
  have nit := S.nit
  refine map_next_open (S.top.le _ _ S.gm) (S.top.le _ _ S.gt) ?_
  cases hx : xs[i]? with
  | none =>
    have hxn : items[i]? = none := by
      rw [Array.getElem?_eq_none]
      have := List.getElem?_eq_none_iff.mp hx
      omega
    exact wpAny_nextOf_list_end R.hh S.it (isList_le S.top.le hl) hxn fun h' e hext he => ⟨he, h', s.toks, rfl, fun a ha => Kp.of fun o e => hext a o ha e, rfl⟩
  | some x =>
    obtain ⟨v, hv, rv⟩ := hr.get (d := .str x) (i := i) (by rw [List.getElem?_map, hx]; rfl)
    have hlt : i < xs.length := (List.getElem?_eq_some_iff.mp hx).1
    refine wpAny_nextOf_list_item S.it (isList_le S.top.le hl) (by simpa using hv) fun h1 hit1 hs1 => ?_
    have S1 : Top (fr A) g h1 := ⟨fun a o e => (hs1.2 a (fun q => by rw [q, S.git] at e; cases e)).trans (S.top.le _ _ e), fun a ha => ⟨(S.top.fl a ha).1, by
      obtain ⟨o, es, ep, e, hd⟩ := (S.top.fl a ha).2
      exact ⟨o, es, ep, (hs1.2 a (fun q => nit (q ▸ ha))).trans e, hd⟩⟩⟩
    refine ⟨S1.le _ _ S.gm, noth (pf x (List.mem_of_getElem? hx) A.in1 g { s with heap := h1 } [v] R.in1 S1 S.wf (Reps.one rv)) fun v2 s₂ q => ?_⟩
    obtain ⟨g2, h2, t2, rfl, G2, r2⟩ := q
    cases r2
    rename_i t
    have G2' : Grow (fr A) g h1 g2 h2 := G2
    have S2 := S1.grow G2'
    refine ⟨h2, t2, rfl, fun a ha => (Kp.of fun o e => (hs1.2 a ha).trans e).trans (G2'.keep.kp a), t, rfl, ⟨fun a o e => G2'.le' _ _ (G2'.le _ _ e), fun a ha => ⟨(S.top.fl a ha).1, (S2.fl a ha).2⟩⟩, S.wf, S.gm, S.gt, ⟨items, hl, hr⟩, S.git, iterAt hit1 fun o e => G2'.keep.out _ _ nit e, hlt⟩
theorem map_loop {mp tp it l S' : Addr} {f res : Value} {xs : List Str} {kk : Nat} {R' : Result → Shared → Prop} (R : Room A (kk + 2)) (pf : ∀ x ∈ xs, Prim c kk [.str x] (fun vs => PySem.call f vs) (.str x))
    (gS : g.get? S' = none) (nS : S' ≠ it) (nF : ¬ fr A S') (hxs : xs.length ≤ 1000) :
    ∀ (k i : Nat) (s : Shared) (acc : Array Value) (cc : Nat), xs.length - i ≤ k → MapS c (fr A) g mp tp it l f xs i s.heap → s.heap.get? S' = some { cls := .type "list", dict := none, data := .seq acc cc, slots := #[] } → Reps c g (sL (xs.take i)) acc.toList →
      (∀ h' tk acc' cc', (∀ a, a ≠ it → a ≠ S' → Kp (fr A) s.heap h' a) → h'.get? S' = some { cls := .type "list", dict := none, data := .seq acc' cc', slots := #[] } → Reps c g (sL xs) acc'.toList → R' (.ok (.ret res)) { s with heap := h', toks := tk }) →
      codeAny (model c.prog c.w) A (.builtin "list.extend.loop" ⟨[.ref S', .ref mp, res], []⟩) R' s := by
  intro k
  induction k with
  | zero =>
    intro i s acc cc hk S hS hacc hR
    refine codeAny_builtin F.entry_extend_loop ?_
    rw [Around.under_plainId F.plain_extend_loop _]
    show wpAny _ A.in1 (pyNext (.ref mp) >>= _) _ _ s
    refine wpAny_bind (noth (map_step (A := A.in1) R.in1 pf S) fun r s₁ q => ?_)
    obtain ⟨h', tk, rfl, kp, q⟩ := q
    have e : xs[i]? = none := List.getElem?_eq_none (by omega)
    rw [e] at q
    have q' : r = none := q
    subst q'
    refine wpAny_pure (hR h' tk acc cc (fun a h1 _ => kp a h1) ((kp S' nS).at nF hS) ?_)
    rw [List.take_of_length_le (by omega)] at hacc
    exact hacc
  | succ k ih =>
    intro i s acc cc hk S hS hacc hR
    refine codeAny_builtin F.entry_extend_loop ?_
    rw [Around.under_plainId F.plain_extend_loop _]
    show wpAny _ A.in1 (pyNext (.ref mp) >>= _) _ _ s
    refine wpAny_bind (noth (map_step (A := A.in1) R.in1 pf S) fun r s₁ q => ?_)
    obtain ⟨h', tk, rfl, kp, q⟩ := q
    have hS' := (kp S' nS).at nF hS
    cases hx : xs[i]? with
    | none =>
      rw [hx] at q
      have q' : r = none := q
      subst q'
      refine wpAny_pure (hR h' tk acc cc (fun a h1 _ => kp a h1) hS' ?_)
      rw [List.take_of_length_le (List.getElem?_eq_none_iff.mp hx)] at hacc
      exact hacc
    | some x =>
      rw [hx] at q
      obtain ⟨t, rfl, S1⟩ := q
      have hlt : i < xs.length := (List.getElem?_eq_some_iff.mp hx).1
      have hal := hacc.length
      simp only [List.length_map, Array.length_toList, List.length_take] at hal
      show wpAny _ A.in1 (updateSeq S' (·.push (.str x t)) >>= _) _ _ _
      refine wpAny_bind ?_
      refine wpAny_updateSeq hS' rfl (wpAny_pure ⟨plainId_quiet F.plain_extend_loop _, ih (i + 1) { s with heap := h'.update S' (Obj.mapSeq (·.push (.str x t))), toks := tk } (acc.push (.str x t)) _ (by omega) (S1.move gS nS nF fun a o ha e => (Heap.get?_update_other _ _ (Ne.symm ha)).trans e) (Heap.get?_update_self _ hS' rfl) ?_ fun h2 tk2 acc2 cc2 k2 hS2 r2 => ?_⟩)
        (by have z := sizeLine_eq; omega) (by show (acc.push (.str x t)).size ≤ sizeLine + 1; have z := sizeLine_eq; rw [Array.size_push]; omega)
      · rw [Array.toList_push, List.take_add_one, hx, show sL (xs.take i ++ (some x).toList) = sL (xs.take i) ++ [D.str x] by simp]
        exact Reps.append hacc (Reps.one (.str _ _))
      · exact hR h2 tk2 acc2 cc2 (fun a h1 h3 => ((kp a h1).trans (Kp.of fun o e => (Heap.get?_update_other _ _ (Ne.symm h3)).trans e)).trans (k2 a h1 h3)) hS2 r2
theorem collect_map {mp tp it l : Addr} {f : Value} {xs : List Str} {kk : Nat} {Q : List Value → Shared → Prop} (R : Room A (kk + 2)) (pf : ∀ x ∈ xs, Prim c kk [.str x] (fun vs => PySem.call f vs) (.str x)) (hxs : xs.length ≤ 1000) (S : MapS c (fr A) g mp tp it l f xs 0 s.heap)
    (hQ : ∀ h' tk (acc : Array Value), (∀ a, a ≠ it → (s.heap.get? a).isSome → Kp (fr A) s.heap h' a) → Reps c g (sL xs) acc.toList → Q acc.toList { s with heap := h', toks := tk }) : wpAny (model c.prog c.w) A (collect (.ref mp)) Q E s := by
  have gS : g.get? s.heap.objs.size = none := ge_none S.top.le (Nat.le_refl _)
  have nS : s.heap.objs.size ≠ it := by
    obtain ⟨o, e, _⟩ := S.it
    exact Nat.ne_of_gt (Heap.lt_size e)
  have nF : ¬ fr A s.heap.objs.size := fun z => (S.top.fl _ z).2.some (get_size _)
  have hSI : s.heap.objs.size ≠ mp := fun q => by
    have := S.gm
    rw [← q, gS] at this; cases this
  unfold collect
  refine wpAny_bind (wpAny_runValue (codeAny_builtin F.entry_proto_collect ?_))
  rw [Around.under_plainId F.plain_proto_collect _]
  show wpAny _ A.in1 (newList [] >>= fun l => again (.builtin "list.__iadd__" ⟨[l, .ref mp], []⟩)) _ _ s
  refine wpAny_bind (wpAny_newObj_type ?_)
  refine wpAny_pure ⟨plainId_quiet F.plain_list_iadd _, codeAny_builtin F.entry_list_iadd ?_⟩
  rw [Around.under_plainId F.plain_list_iadd _]
  have S1 := S.move gS nS nF (h' := s.heap.push { cls := .type "list", data := .seq ([] : List Value).toArray }) fun a o _ e => Heap.get?_push_of_some _ e
  have k1 : Le s.heap (s.heap.push { cls := .type "list", data := .seq ([] : List Value).toArray }) := le_push _ _
  have e1 : (s.heap.push { cls := .type "list", data := .seq ([] : List Value).toArray }).get? s.heap.objs.size = some { cls := .type "list", data := .seq ([] : List Value).toArray } := Heap.get?_push_size _ rfl
  generalize (s.heap.push { cls := .type "list", data := .seq ([] : List Value).toArray }) = H1 at S1 k1 e1 ⊢
  show wpAny _ A.in1 (Builtin.List.listExtendWith (.ref s.heap.objs.size) (.ref mp) (.ref s.heap.objs.size)) _ _ _
  have hm1 := S1.top.le _ _ S1.gm
  have hT : (⟨H1, s.gens, s.drawn, s.toks, s.os⟩ : Shared).TypeIs (.ref mp) "map" := ⟨_, hm1, rfl⟩
  unfold Builtin.List.listExtendWith
  refine wpAny_bind (wpAny_typeOf hT ?_)
  have h1 : Builtin.List.listSameRef (.ref s.heap.objs.size) (.ref mp) = false := by simp [Builtin.List.listSameRef, hSI]
  have h2 : (Value.type "map" == Value.type "list") = false := by decide
  have h3 : (Value.type "map" == Value.type "tuple") = false := by decide
  simp only [h1, h2, h3, Bool.or_false, Bool.false_eq_true, if_false]
  refine wpAny_bind (map_self (s := { s with heap := H1 }) hm1 ?_)
  refine wpAny_bind (wpAny_holding ?_)
  unfold Builtin.List.listLengthHint
  refine wpAny_bind (wpAny_specialOf hT map_no_len ?_)
  show wpAny _ A.in1 (specialOf (Value.ref mp) (Str.ofString "__length_hint__") >>= _) _ _ _
  refine wpAny_bind (wpAny_specialOf hT map_no_hint ?_)
  refine wpAny_pure ?_
  show wpAny _ A.in1 (rule "list.extend.makes-room" >>= fun _ => Builtin.List.listTouch (.ref s.heap.objs.size) >>= fun _ =>
    again (.builtin "list.extend.loop" ⟨[.ref s.heap.objs.size, .ref mp, .ref s.heap.objs.size], []⟩)) _ _ _
  refine wpAny_bind (wpAny_rule ?_)
  refine wpAny_bind ?_
  show wpAny _ A.in1 (updateSeq s.heap.objs.size (·.push .none) >>= fun _ => updateSeq s.heap.objs.size (·.pop)) _ _ _
  refine wpAny_bind (wpAny_updateSeq e1 rfl ?_)
  have e2 := Heap.get?_update_self (Obj.mapSeq (·.push Value.none)) e1 rfl
  refine wpAny_updateSeq (hz := by seq_fits) e2 rfl ?_
  have e3 := Heap.get?_update_self (Obj.mapSeq (·.pop)) e2 rfl
  have k3 : ∀ a o, a ≠ s.heap.objs.size → H1.get? a = some o → ((H1.update s.heap.objs.size (Obj.mapSeq (·.push Value.none))).update s.heap.objs.size (Obj.mapSeq (·.pop))).get? a = some o := fun a o ha e => (Heap.get?_update_other _ _ (Ne.symm ha)).trans ((Heap.get?_update_other _ _ (Ne.symm ha)).trans e)
  have S3 := S1.move (S' := s.heap.objs.size) gS nS nF k3
  refine wpAny_pure ⟨plainId_quiet F.plain_extend_loop _, map_loop (A := A) (mp := mp) (it := it) R pf gS nS nF hxs xs.length 0 { s with heap := (H1.update s.heap.objs.size (Obj.mapSeq (·.push Value.none))).update s.heap.objs.size (Obj.mapSeq (·.pop)) } _ _ (by omega) S3 e3 .nil fun h' tk acc' cc' k' hS' r' => ?_⟩
  show wpAny _ A (load s.heap.objs.size >>= _) _ _ _
  refine wpAny_bind (wpAny_load hS' ?_)
  refine wpAny_pure (hQ h' tk acc' (fun a ha hs => ?_) r')
  obtain ⟨o, e⟩ := Option.isSome_iff_exists.mp hs
  have hne : a ≠ s.heap.objs.size := Nat.ne_of_lt (Heap.lt_size e)
  exact (Kp.of fun o e => k3 _ _ hne (k1 _ _ e)).trans (k' a ha hne)
theorem call_tuple_map {mp tp it l : Addr} {f : Value} {xs : List Str} {kk : Nat} {Q : Value → Shared → Prop} (R : Room A (kk + 4)) (pf : ∀ x ∈ xs, Prim c kk [.str x] (fun vs => PySem.call f vs) (.str x)) (hxs : xs.length ≤ 1000) (S : MapS c (fr A) g mp tp it l f xs 0 s.heap)
    (hQ : ∀ h' tk (acc : Array Value), (∀ a, a ≠ it → (s.heap.get? a).isSome → Kp (fr A) s.heap h' a) → Reps c g (sL xs) acc.toList → Q (.ref h'.objs.size) { s with heap := h'.push { cls := .type "tuple", data := .seq acc }, toks := tk }) :
    wpAny (model c.prog c.w) A (call (.type "tuple") [.ref mp]) Q E s := by
  refine callType_codes (Q₁ := fun obj s₁ => s₁.TypeIs obj "tuple" ∧ Q obj s₁) F.called_tuple (F.typeCall_tuple_1 _) F.entry_object_init ?_ fun obj s₁ h₁ => ?_
  · refine codeAny_of_tree ?_
    show wpAny _ A.in1.in1 (do checkBuiltinCall "tuple.__new__" ⟨[.type "tuple", .ref mp], []⟩; again (.builtin "tuple.__new__" ⟨[.type "tuple", .ref mp], []⟩)) _ _ s
    refine wpAny_bind (wpAny_of_eq (F.newCall_tuple_1 _) (wpAny_pure ⟨plainId_quiet F.plain_tuple_new _, codeAny_builtin F.entry_tuple_new ?_⟩))
    rw [Around.under_plainId F.plain_tuple_new _]
    have hsub := sub_tuple_self
    have hinit := init_tuple_lookup
    have hmh := madeHere_tuple
    have hTI : s.TypeIs (.ref mp) "map" := ⟨_, S.top.le _ _ S.gm, rfl⟩
    have S' : MapS c (fr A.in1.in1) g mp tp it l f xs 0 s.heap := S
    have R' : Room A.in1.in1 (kk + 2) := R.in1.in1
    wp_walk using wpAny_typeOf hTI, collect_map R' pf hxs S'
    intro h' tk acc hk hacc
    have hal := hacc.length
    simp only [List.length_map, Array.length_toList] at hal
    show wpAny _ _ (Builtin.Tuple.tupleExact acc.toList.toArray >>= fun v => ret v) _ _ _
    unfold Builtin.Tuple.tupleExact
    refine wpAny_bind (wpAny_newObj_type ?_ (by show acc.toList.toArray.size ≤ sizeLine; simp only [Array.toArray_toList]; have z := sizeLine_eq; omega))
    refine wpAny_pure ?_
    have e : acc.toList.toArray = acc := by simp
    rw [e]
    exact ⟨⟨_, Heap.get?_push_size _ rfl, rfl⟩, hQ h' tk acc hk hacc⟩
  · exact ⟨h₁.1, F.args_object_init_2 obj _, object_init_meets F.called_tuple.init.lookup F.called_tuple.made (by decide) _ _ A.in1 _ s₁ ⟨h₁.1, rfl, h₁.2⟩⟩
/-- «tuple(map(f, l))» of a list of texts, f giving each text back -/
theorem Ev.tupMap {x1 x2 : Str} {f : Value} {ef el : Expr} {p1 p2 pos1 pos2 : Pos} {env : Env} {σ : Sto} {xs : List Str} {kk : Nat} (G1 : Glob c x1 (.type "tuple")) (K1 : env.kindOf x1 = some .globalImplicit) (G2 : Glob c x2 (.type "map")) (K2 : env.kindOf x2 = some .globalImplicit)
    (ef' : Ev c (kk + 4) env σ ef (.raw f)) (el' : Ev c (kk + 4) env σ el (.list (sL xs))) (pf : ∀ x ∈ xs, Prim c kk [.str x] (fun vs => PySem.call f vs) (.str x)) (hxs : xs.length ≤ 1000)
    (he1 : starEach [.Call (.Name x2 p2) [ef, el] [] pos2] env = [(false, PySem.eval (.Call (.Name x2 p2) [ef, el] [] pos2) env)] := by rfl) (he2 : starEach [ef, el] env = [(false, PySem.eval ef env), (false, PySem.eval el env)] := by rfl) :
    Ev c (kk + 4) env σ (.Call (.Name x1 p1) [.Call (.Name x2 p2) [ef, el] [] pos2] [] pos1) (.tup (sL xs)) := by
  constructor
  intro A g₀ b g m ow s R S
  refine callR1 (f := .none) (Glob.evalR (g := g) G1 S.kind K1 S.glob S.bui S.kg S.wf (callR2 (f := .none) (Glob.evalR (g := g) G2 S.kind K2 S.glob S.bui S.kg S.wf (ef'.use R S fun v1 g1 h1 t1 Gr1 S1 r1 => el'.use R S1 fun v2 g2 h2 t2 Gr2 S2 r2 => ⟨Plainly.type, ?_⟩)) he2)) he1
  cases r1
  cases r2 with
  | list hl rl =>
    rename_i l items
    refine call_map (s := { s with heap := h2, toks := t2 }) (isList_le S2.kg hl) fun h3 k3 em et hit => ⟨Plainly.type, ?_⟩
    dsimp only at k3 em et hit
    have n0 : h2.get? h2.objs.size = none := get_size _
    have n1 : h2.get? (h2.objs.size + 1) = none := ge_none (Le.refl _) (Nat.le_succ _)
    have n2 : h2.get? (h2.objs.size + 2) = none := ge_none (Le.refl _) (Nat.le_add_right _ _)
    let P : Addr → Bool := fun a => (g2.get? a).isSome || decide (a = h2.objs.size + 1) || decide (a = h2.objs.size + 2)
    have lP : Le g2 (only h3 P) := fun a o e => by
      rw [only_get, if_pos (by simp [P, e])]
      exact k3 _ _ (S2.kg _ _ e)
    have nP : ∀ a o, (only h3 P).get? a = some o → g2.get? a = some o ∨ h2.get? a = none := fun a o e => by
      obtain ⟨e1, e2⟩ := only_some e
      cases q : g2.get? a with
      | some o' =>
        have := k3 _ _ (S2.kg _ _ q)
        rw [e2] at this; cases this
        exact .inl rfl
      | none =>
        refine .inr ?_
        have e1' : ((g2.get? a).isSome || decide (a = h2.objs.size + 1) || decide (a = h2.objs.size + 2)) = true := e1
        rw [q] at e1'
        simp only [Option.isSome_none, Bool.false_or, Bool.or_eq_true, decide_eq_true_eq] at e1'
        rcases e1' with e3 | e3 <;> rw [e3] <;> assumption
    have M0 : MapS c (fr A) (only h3 P) (h2.objs.size + 2) (h2.objs.size + 1) h2.objs.size l f xs 0 h3 := by
      refine ⟨⟨fun a o e => (only_some e).2, fun a ha => ⟨?_, ?_⟩⟩, S2.wf.le lP, ?_, ?_, ⟨items, isL_le lP hl, rl.le lP⟩, ?_, hit, Nat.zero_le _⟩
      · cases q : (only h3 P).get? a with
        | none => rfl
        | some o =>
          rcases nP a o q with z | z
          · rw [(S2.fl a ha).1] at z; cases z
          · exact absurd z (S2.isD ha).some
      · obtain ⟨o, es, ep, e, hd⟩ := S2.isD ha
        exact ⟨o, es, ep, k3 _ _ e, hd⟩
      · rw [only_get, if_pos (by simp [P])]; exact em
      · rw [only_get, if_pos (by simp [P])]; exact et
      · rw [only_get, if_neg]
        have : g2.get? h2.objs.size = none := S2.kg.none n0
        simp [P, this]
    refine call_tuple_map (s := { s with heap := h3, toks := t2 }) R pf hxs M0 fun h5 t5 acc k5 r5 => ?_
    dsimp only at k5 ⊢
    have key : ∀ a o, h2.get? a = some o → Kp (fr A) h3 h5 a := fun a o e => k5 a (fun q => by rw [q, n0] at e; cases e) (by rw [k3 _ _ e]; rfl)
    have key5 : ∀ a o, h2.get? a = some o → Kp (fr A) h2 (h5.push { cls := .type "tuple", data := .seq acc }) a := fun a o e => ((Kp.of fun o e => k3 _ _ e).trans (key a o e)).trans (Kp.of fun o e => Heap.get?_push_of_some _ e)
    have n5 : h2.get? h5.objs.size = none := by
      cases q : h2.get? h5.objs.size with
      | none => rfl
      | some o =>
        obtain ⟨sl, z⟩ := (key _ o q).sl (k3 _ _ q)
        rw [get_size] at z; cases z
    refine Post.after (tk := t1) Gr1 (Post.after (tk := t2) Gr2 ⟨only (h5.push { cls := .type "tuple", data := .seq acc }) fun a => (g2.get? a).isSome || decide (a = h5.objs.size), _, t5, rfl, ⟨⟨fun a o nf e => (key5 a o e).at nf e, fun a o e => (key5 a o e).sl e⟩, fun a o e => ?_, fun a o e => (only_some e).2, fun a o e => ?_⟩, ?_⟩)
    · have e' := S2.kg _ _ e
      rw [only_get, if_pos (by simp [e])]
      exact (key5 a o e').at (fun z => by rw [(S2.fl a z).1] at e; cases e) e'
    · obtain ⟨e1, e2⟩ := only_some e
      rcases Bool.or_eq_true_iff.mp e1 with e1 | e1
      · obtain ⟨o', q⟩ := Option.isSome_iff_exists.mp e1
        have e' := S2.kg _ _ q
        have := (key5 a o' e').at (fun z => by rw [(S2.fl a z).1] at q; cases q) e'
        rw [e2] at this; cases this
        exact .inl q
      · have : a = h5.objs.size := by simpa using e1
        exact .inr (by rw [this]; exact n5)
    · refine .tup ⟨_, by rw [only_get, if_pos (by simp)]; exact Heap.get?_push_size _ rfl, rfl, _, rfl⟩ ?_
      have st : ∀ {gg : Heap} {ys : List Str} {vs : List Value}, Reps c (only h3 P) (sL ys) vs → Reps c gg (sL ys) vs := by
        intro gg ys
        induction ys with
        | nil => intro vs r; cases r; exact .nil
        | cons y t ih =>
          intro vs r
          cases r with
          | cons a r =>
            cases a
            exact .cons (.str _ _) (ih r)
      exact st r5
end
end Mine

end
section
open PySem PySem.W PySem.Calls PyProof.Rows
open AutoSeq1 (wpAny_loadPart')
set_option Elab.async false
set_option linter.unusedVariables false
set_option maxRecDepth 100000
set_option maxHeartbeats 4000000
namespace Mine
noncomputable abbrev emptySet (led : Bool) : Obj := { cls := .type "set", dict := none, data := .set #[] 0 (.fresh 0 0 led) }
theorem lay_true (led : Bool) : layNew (.fresh 0 0 led) #[] 1 (.bool true) = (#[(1, .bool true)], trueT led, false, false) := by cases led <;> kernel_rfl
theorem put_true (led : Bool) : Obj.putSet #[(1, .bool true)] (trueT led) (emptySet led) = trueObj led := by cases led <;> rfl
theorem fits_true (led : Bool) : (trueT led).fits 1 = true := by cases led <;> rfl
theorem full_true (led : Bool) : (trueT led).tooFull = false := by cases led <;> decide +kernel
section
variable {prog : Program} {w : World} {A : Around} {E : Value → Shared → Prop} {s : Shared}
theorem hash_true {Q : Int → Shared → Prop} (h : ∀ tk, Q 1 { s with toks := tk }) : wpAny (model prog w) A (pyHash (.bool true)) Q E s := by
  have hT : s.TypeIs (.bool true) "bool" := rfl
  show wpAny _ _ (pyHashByItsType (.bool true)) _ _ _
  unfold pyHashByItsType
  have hv : [Value.bool true].any Value.onHeap = false := rfl
  refine wpAny_bind ?_
  rw [cRoomFor, if_neg (by rw [hv]; exact Bool.false_ne_true)]; refine wpAny_pure ?_
  refine wpAny_bind (wpAny_specialOf hT F.slot_bool_hash.lookup ?_)
  rw [if_neg (by decide)]
  refine wpAny_bind (wpAny_specialOf hT F.slot_bool_hash.lookup ?_)
  show wpAny _ _ (callSpecialIfBoundUnlessNone? (.bool true) "__hash__" _ >>= _) Q E s
  refine wpAny_bind (wpAny_callSpecialIfBoundUnlessNone?_slot hT F.slot_bool_hash
    (wpAny_call_entry F.slot_bool_hash hT F.entry_int_hash ?_ (F.args_int_hash_1 _)))
  show wpAny _ _ (do ret (← mkInt (rawHash 1))) _ _ s
  refine wpAny_ret_mkInt ?_
  have hr := rawHash_range 1
  show wpAny _ _ (if (decide (-(2 : Int) ^ 63 ≤ rawHash 1) && decide (rawHash 1 < 2 ^ 63)) = true then _ else _) Q E _
  rw [if_pos (by rw [decide_eq_true hr.1, decide_eq_true hr.2]; rfl)]
  rw [show (if (rawHash 1 == -1) = true then (-2 : Int) else rawHash 1) = 1 from by decide +kernel]
  exact wpAny_pure (h _)
theorem set_add_first {a : Addr} {led : Bool} {Q : Value → Shared → Prop} (hS : s.heap.get? a = some (emptySet led))
    (h : ∀ h' tk, Heap.SameBut a s.heap h' → h'.get? a = some (trueObj led) → Q .none { s with heap := h', toks := tk }) : wpAny (model prog w) A (call (.builtin "set.add") [.ref a, .bool true]) Q E s := by
  refine wpAny_call_entry F.slot_set_add ⟨_, hS, rfl⟩ F.entry_set_add ?_ (F.args_set_add_2 _ _)
  unfold Builtin.«set.add» Builtin.Frozenset.oneOther
  simp only [List.isEmpty_nil, bind_assoc]
  unfold Builtin.Frozenset.addrOf setAdd
  refine wpAny_bind (wpAny_pure ?_)
  try dsimp only
  refine wpAny_bind (wpAny_pure ?_)
  try dsimp only
  refine wpAny_bind ?_
  refine wpAny_holding ?_
  refine wpAny_bind (hash_true fun tk => ?_)
  unfold setAddHashed setAddHashedIn
  refine wpAny_holding (wpAny_bind (wpAny_setState_of (s := { s with toks := tk }) hS rfl rfl ?_))
  dsimp only
  rw [show byScan (.bool true) #[] = true from by decide +kernel]
  simp only [↓reduceIte]
  unfold setAddByScan
  refine wpAny_bind ?_
  refine wpAny_bind (wpAny_rule ?_)
  refine wpAny_bind (m := setScan _ _ _ _ _) (wpAny_pure (a := ScanMet.absent) ?_)
  dsimp only
  rw [lay_true]
  dsimp only
  refine wpAny_bind (wpAny_pure (a := ()) ?_)
  rw [if_pos (show (trueT led).plain = true from rfl)]
  refine wpAny_bind (wpAny_pure (a := true) ?_)
  simp only [if_true, full_true, Bool.and_false, Bool.false_eq_true, if_false]
  refine wpAny_bind (wpAny_storeSet_of (s := { s with toks := tk }) hS rfl ?_)
  refine wpAny_pure (wpAny_pure (wpAny_pure ⟨_, rfl, h _ tk (Heap.SameBut.update ..) ?_⟩))
  have := Heap.get?_update_self (Obj.putSet #[(1, .bool true)] (trueT led)) hS (by rw [put_true]; rfl)
  rw [put_true] at this
  exact this
/-- once more -/
theorem set_add_again {a : Addr} {led : Bool} {Q : Value → Shared → Prop} (hS : s.heap.get? a = some (trueObj led))
    (h : ∀ tk, Q .none { s with toks := tk }) : wpAny (model prog w) A (call (.builtin "set.add") [.ref a, .bool true]) Q E s := by
  refine wpAny_call_entry F.slot_set_add ⟨_, hS, rfl⟩ F.entry_set_add ?_ (F.args_set_add_2 _ _)
  unfold Builtin.«set.add» Builtin.Frozenset.oneOther
  simp only [List.isEmpty_nil, bind_assoc]
  unfold Builtin.Frozenset.addrOf setAdd
  refine wpAny_bind (wpAny_pure ?_)
  try dsimp only
  refine wpAny_bind (wpAny_pure ?_)
  try dsimp only
  refine wpAny_bind ?_
  refine wpAny_holding ?_
  refine wpAny_bind (hash_true fun tk => ?_)
  unfold setAddHashed setAddHashedIn
  refine wpAny_holding (wpAny_bind (wpAny_setState_of (s := { s with toks := tk }) hS rfl (fits_true led) ?_))
  dsimp only
  rw [show byScan (.bool true) #[(1, .bool true)] = true from by decide +kernel]
  simp only [↓reduceIte]
  unfold setAddByScan
  refine wpAny_bind ?_
  refine wpAny_bind (wpAny_rule ?_)
  show wpAny _ _ (setScanFrom a (.bool true) 1 true [(1, .bool true)] 0 >>= _) _ _ _
  unfold setScanFrom
  rw [if_pos (by decide)]
  refine wpAny_bind (wpAny_bind (wpAny_setEpoch_of (s := { s with toks := tk }) hS rfl (fits_true led) ?_))
  refine wpAny_bind (m := eqBool _ _) ?_
  unfold eqBool
  refine wpAny_holding ?_
  rw [if_pos (by decide)]
  refine wpAny_bind (wpAny_rule (wpAny_pure ?_))
  simp only [Bool.and_self, if_true]
  refine wpAny_pure (wpAny_pure (wpAny_pure ?_))
  exact wpAny_pure ⟨_, rfl, h tk⟩
end
end Mine

end
section
open PySem PySem.W PySem.Calls PyProof.Rows
open AutoSeq1 (wpAny_loadPart')
set_option Elab.async false
set_option linter.unusedVariables false
set_option maxRecDepth 100000
set_option maxHeartbeats 4000000
namespace Mine
section
variable {c : Cx} {n : Nat} {A : Around} {g₀ b g : Heap} {env cenv : Env} {m : Str → Option Value} {ow : List Addr} {σ σ' σ'' σin : Sto} {s : Shared} {d : D} {v : Value} {h h' : Heap} {x : Str} {o : Out} {scope : Scope}
theorem turns_set {elt t iter : Expr} {ifs : List Expr} {scope : Scope} {pos : Pos} :
    Turns (.SetComp elt [⟨t, iter, ifs, 0⟩] scope pos) t iter ifs (fun D env => PySem.eval elt env >>= fun y => standAt elt.pos >>= fun _ => PySem.call (.builtin "set.add") [.ref D, y] >>= fun _ => Pure.pure ()) where
  turn := fun it D env => by rfl
  plain := fun _ _ _ _ => rfl
  quiet := fun _ _ _ _ => rfl
  weight := fun _ _ _ _ => ⟨rfl, rfl⟩
noncomputable def AcS (c : Cx) (D : Addr) (y : Bool) (g h : Heap) : Prop := h.get? D = some (if y then trueObj (setLed c) else emptySet (setLed c))
theorem accu_set {D : Addr} : Accu Bool D (AcS c D) where
  live := fun y g h e => ⟨_, e, fun v z => by cases y <;> cases z⟩
  mono := fun y g h g' h' e l k => k _ e
theorem em_set {D : Addr} {elt : Expr} {y : Bool} {pp : Pos} (x : Ev c n env σ elt (.bool true)) :
    Em c n env σ D (AcS c D) y true (PySem.eval elt env >>= fun y => standAt pp >>= fun _ => PySem.call (.builtin "set.add") [.ref D, y] >>= fun _ => Pure.pure ()) := by
  intro A g₀ b g m ow s R S nD hD hA
  refine wpAny_bind (x.use R S fun v g1 h1 t1 G1 S1 r1 => wpAny_bind (wpAny_standAt ?_))
  cases r1
  have hA1 : AcS c D y g1 h1 := G1.keep.out _ _ nD hA
  cases y with
  | false =>
    refine wpAny_bind (set_add_first (s := { s with heap := h1, toks := t1 }) hA1 fun h' tk hs e => wpAny_pure ?_)
    refine ⟨h', tk, g1, rfl, G1.le, fun a o e => ?_, G1.fresh, e, fun a ha => (G1.keep.kp a).trans (Kp.of fun o e => (hs.2 a ha).trans e)⟩
    refine (hs.2 a fun q => ?_).trans (G1.le' _ _ e)
    rcases G1.fresh _ _ e with z | z
    · rw [q, hD] at z; cases z
    · have hA' : s.heap.get? D = some _ := hA
      rw [q, hA'] at z; cases z
  | true =>
    refine wpAny_bind (set_add_again (s := { s with heap := h1, toks := t1 }) hA1 fun tk => wpAny_pure ?_)
    exact ⟨h1, tk, g1, rfl, G1.le, G1.le', G1.fresh, hA1, fun a ha => G1.keep.kp a⟩
theorem CLp.set {α : Type} {elt t iter : Expr} {ifs : List Expr} {pos : Pos} {D₀ : Addr} (ht : TgtOk t) (enc : α → D) : ∀ (xs : List α) (y : Bool),
    (∀ x ∈ xs, ∃ σ₁, Tg c n cenv σ t (enc x) σ₁ ∧ Weak σ₁ σ ∧ Ts c n cenv σ₁ ifs true ∧ Ev c n cenv σ₁ elt (.bool true)) →
    CLp c n (.SetComp elt [⟨t, iter, ifs, 0⟩] scope pos) cenv σ D₀ (AcS c D₀) (xs.map enc) y (y || !xs.isEmpty)
  | [], y, _ => by simpa using CLp.nil turns_set accu_set
  | x :: r, y, h => by
    obtain ⟨σ₁, h1, h2, h3, h4⟩ := h x (.head _)
    have := CLp.set ht enc r true (fun y hy => h y (.tail _ hy)) (elt := elt) (iter := iter) (pos := pos) (D₀ := D₀)
    rw [Bool.true_or] at this
    rw [show (y || !(x :: r).isEmpty) = true from by simp]
    exact CLp.turn turns_set ht accu_set h1 h2 h3 (fun _ => em_set h4) (fun e => by cases e) this
theorem start_set {prog : Program} {w : World} {R : Result → Shared → Prop} {elt target iter : Expr} {ifs : List Expr} {rest : List Comprehension} {scope : Scope} {pos : Pos} {it acc : Value} {env : Env}
    (h0 : codeAny (model prog w) A (.compLoop (.SetComp elt (⟨target, iter, ifs, 0⟩ :: rest) scope pos) 0 it acc env) R s)
    (h : wpAny (model prog w) A (pyIter it) (fun it' s' => codeAny (model prog w) A (.compLoop (.SetComp elt (⟨target, iter, ifs, 0⟩ :: rest) scope pos) 0 it' acc env) R s') (notedBy (model prog w) A env fun x s' => R (.error x) s') s) :
    codeAny (model prog w) A (.compStart (.SetComp elt (⟨target, iter, ifs, 0⟩ :: rest) scope pos) 0 it acc env) R s := by
  refine codeAny_of_tree ?_
  show wpAny _ _ ((compStart (.SetComp elt (⟨target, iter, ifs, 0⟩ :: rest) scope pos) 0 it acc env).onRaise (fun x => do noteFrame x env; standAt theWindowsPlace)) _ _ s
  refine wpAny_notedAt ?_
  unfold compStart
  show wpAny _ _ (ask >>= _) _ _ s
  refine wpAny_bind (wpAny_askSetting (wpAny_ite ?_))
  split
  · first
      | exact wpAny_bind (wpAny_pure (wpAny_pure (And.intro rfl h0)))
      | exact wpAny_pure (And.intro rfl h0)
  · first
      | exact wpAny_bind (wpAny_rule (wpAny_bind (wpAny_standAt (wpAny_bind (wpAny_mono h (fun it' s' h' => wpAny_pure (And.intro rfl h')) fun _ _ x => x)))))
      | (refine wpAny_bind (wpAny_rule ?_); show wpAny _ _ (standAt iter.pos >>= _) _ _ s; exact wpAny_bind (wpAny_standAt (wpAny_bind (wpAny_mono h (fun it' s' h' => wpAny_pure (And.intro rfl h')) fun _ _ x => x))))
theorem new_set {A : Around} {Q : Value → Shared → Prop} {s : Shared} (h : Q (.ref s.heap.objs.size) { s with heap := s.heap.push (emptySet (setLed c)) }) : wpAny (model c.prog c.w) A (newSet (.type "set")) Q Noth s := by
  unfold newSet setsByText
  refine wpAny_bind (wpAny_bind (wpAny_askSetting (wpAny_pure ?_)))
  dsimp only
  simp only [newObj]
  exact wpAny_bind (wpAny_alloc (wpAny_pure h))
/-- a set comprehension whose items are all True -/
theorem Ev.setTrue {α : Type} {elt iter t : Expr} {pos : Pos} (enc : α → D) (xs : List α) (l : List (Str × D)) (x : Ev c n env σ iter d) (hd : itemsOf d = some (xs.map enc)) (hne : xs ≠ []) (ok : CompOk scope env σ (capt l)) (ht : TgtOk t)
    (h : ∀ C, ∀ x ∈ xs, ∃ σ₁, Tg c n (cEnv scope env C) (capt l) t (enc x) σ₁ ∧ Weak σ₁ (capt l) ∧ Ev c n (cEnv scope env C) σ₁ elt (.bool true))
    (hs : ∀ x, foldedSetIterable iter env x = pure x := by intro _; rfl) : Ev c n env σ (.SetComp elt [⟨t, iter, [], 0⟩] scope pos) .set1 :=
  Ev.comp (o₀ := emptySet (setLed c)) (newAcc := newSet (.type "set")) (a := false) (a' := true) (Acc := AcS c) (arm_eval_SetComp _ _ _ _ _) rfl (fun A Q s h => new_set h) rfl (fun g h D e => e)
    (fun D g h g' _ hA l e => .set1 (e _ hA)) (fun A R s it acc env h0 h => start_set h0 h) hs x hd ok
    (fun C D => by
      have := CLp.set (c := c) (n := n) (cenv := cEnv scope env C) (σ := capt l) (elt := elt) (t := t) (iter := iter) (ifs := []) (pos := pos) (scope := scope) (D₀ := D) ht enc xs false (fun x hx => let ⟨σ₁, a, b, e⟩ := h C x hx; ⟨σ₁, a, b, Ts.nil, e⟩)
      rw [show (false || !xs.isEmpty) = true from by cases xs with | nil => exact absurd rfl hne | cons _ _ => rfl] at this
      exact this)
end
end Mine

end
section
open PySem PySem.W PySem.Calls PyProof.Rows
open AutoSeq1 (wpAny_loadPart')
set_option Elab.async false
set_option linter.unusedVariables false
set_option maxRecDepth 100000
set_option maxHeartbeats 4000000
namespace Mine
theorem si_next : PySem.Slot "set_iterator" "__next__" "set_iterator.__next__" :=
  .of (owner := "set_iterator") (n := "__next__") (by rw [typeLookup_type, builtinLookup_eq_fast]; kernel_rfl) (by decide +kernel) (by decide +kernel) (by decide +kernel)
    (by first | exact .inl (by decide +kernel) | exact .inr (by decide +kernel)) (by rw [isSubtype_type]; kernel_rfl)
theorem si_entry : entryFor table "set_iterator.__next__" = some Builtin.«set_iterator.__next__» := entryFor_of_tree (by kernel_rfl)
theorem si_args (a : Value) : argsOk "set_iterator.__next__" ⟨[a], []⟩ := by unfold argsOk; kernel_rfl
theorem set_iter_entry : entryFor table "set.__iter__" = some Builtin.«frozenset.__iter__» :=
  entryFor_alias (id' := "frozenset.__iter__") (by kernel_rfl) (by first | rfl | decide +kernel | (unfold String.splitOn; simp +decide [String.splitOnAux])) (by decide +kernel) (by kernel_rfl)
noncomputable abbrev siObj (a : Addr) (slot i : Int) : Obj := { cls := .type "set_iterator", data := .fields #[rawInt slot, rawInt i, .ref a, rawInt 1, rawInt 1] }
section
variable {c : Cx} {n : Nat} {A : Around} {E : Value → Shared → Prop} {s : Shared}
theorem set1_iter {a : Addr} {Q : Value → Shared → Prop} (hS : s.heap.get? a = some (trueObj (setLed c))) (h : Q (.ref s.heap.objs.size) { s with heap := s.heap.push (siObj a 0 0) }) : wpAny (model c.prog c.w) A (pyIter (.ref a)) Q E s := by
  have hT : s.TypeIs (.ref a) "set" := ⟨_, hS, rfl⟩
  refine wpAny_pyIter_slot hT F.slot_set_iter (wpAny_call_entry F.slot_set_iter hT set_iter_entry ?_ (F.args_set_iter_1 _))
  unfold Builtin.«frozenset.__iter__» Builtin.Frozenset.slot0 Builtin.Frozenset.addrOf Builtin.Frozenset.sizeOf setDrawn setsByText
  refine wpAny_bind (wpAny_bind (wpAny_pure (wpAny_pure ?_)))
  refine wpAny_bind (wpAny_bind (wpAny_setEntries_of hS rfl (fits_true _) (wpAny_pure ?_)))
  refine wpAny_bind ?_
  refine wpAny_bind (wpAny_setState_of hS rfl (fits_true _) ?_)
  refine wpAny_bind (wpAny_bind (wpAny_askSetting (wpAny_pure (wpAny_pure ?_))))
  have e : (!c.w.params.followText "set-order" && (!(trueT (setLed c)).plain && decide ((#[((1 : Int), Value.bool true)] : Array (Int × Value)).size > 1))) = false := by
    rw [show (!(trueT (setLed c)).plain && decide ((#[((1 : Int), Value.bool true)] : Array (Int × Value)).size > 1)) = false from by rfl]
    simp
  show wpAny _ _ (if (!c.w.params.followText "set-order" && (!(trueT (setLed c)).plain && decide ((#[((1 : Int), Value.bool true)] : Array (Int × Value)).size > 1))) = true then _ else _) _ _ _
  rw [e]
  simp only [Bool.false_eq_true, if_false]
  refine wpAny_bind (wpAny_pure ?_)
  refine wpAny_bind (wpAny_setEpoch_of hS rfl (fits_true _) ?_)
  unfold newFields
  refine wpAny_bind (wpAny_newObj_type ?_)
  refine wpAny_pure ⟨_, rfl, "set_iterator", _, ⟨_, Heap.get?_push_size _ rfl, rfl⟩, si_next.lookup, h⟩
theorem pick_one (f : Nat → Nat) (e : Int × Value) : pickOrder f #[e] = #[e] := by
  unfold pickOrder pickOrder.go
  simp [Nat.mod_one, pickOrder.go]
theorem below_one0 : SetTable.below #[1] 0 = 0 := by decide +kernel
theorem below_one2 : SetTable.below #[1] 2 = 1 := by decide +kernel
/-- the first item: True -/
theorem set1_next {a it : Addr} {Q : Option Value → Shared → Prop} (hS : s.heap.get? a = some (trueObj (setLed c))) (hi : s.heap.get? it = some (siObj a 0 0))
    (h : ∀ h' sl, h'.get? it = some (siObj a sl 1) → (sl = 0 ∨ sl = 2) → (c.w.params.followText "set-order" = false → sl = 2) → Heap.SameBut it s.heap h' → Q (some (.bool true)) { s with heap := h' }) : wpAny (model c.prog c.w) A (pyNext (.ref it)) Q E s := by
  have hT : s.TypeIs (.ref it) "set_iterator" := ⟨_, hi, rfl⟩
  unfold pyNext
  refine wpAny_bind (wpAny_attempt (wpAny_callSpecial?_slot (name := Str.ofString "__next__") hT si_next (wpAny_call_entry si_next hT si_entry ?_ (si_args _))))
  unfold Builtin.«set_iterator.__next__» setNext setWalk setsByText
  refine wpAny_bind (wpAny_pure ?_)
  refine wpAny_bind (wpAny_fieldsOf hi rfl ?_)
  show wpAny _ _ (setEntries a >>= _) _ _ _
  refine wpAny_bind (wpAny_setEntries_of hS rfl (fits_true _) ?_)
  rw [if_neg (by decide)]
  refine wpAny_bind ?_
  refine wpAny_bind (wpAny_setState_of hS rfl (fits_true _) ?_)
  refine wpAny_bind (wpAny_bind (wpAny_askSetting (wpAny_pure ?_)))
  have fin : ∀ sl : Int, (sl = 0 ∨ sl = 2) → (c.w.params.followText "set-order" = false → sl = 2) → wpAny (model c.prog c.w) A.in1 (do
          setField (.ref it) 0 (rawInt sl)
          setField (.ref it) 1 (rawInt (0 + 1))
          ret (.bool true)) (fun fin s' => ∃ v, fin = Fin.done (Flow.ret v) ∧ wpAny (model c.prog c.w) A (pure (some v)) Q E s') Noth s := fun sl hsl hsl2 => by
    refine wpAny_bind (wpAny_setField hi rfl (by simp) ?_)
    have e1 := Heap.get?_update_self (Obj.mapFields (·.setIfInBounds 0 (rawInt sl))) hi rfl
    refine wpAny_bind (wpAny_setField e1 rfl (by simp) ?_)
    have e2 := Heap.get?_update_self (Obj.mapFields (·.setIfInBounds 1 (rawInt (0 + 1)))) e1 rfl
    exact wpAny_pure ⟨_, rfl, wpAny_pure (h _ sl e2 hsl hsl2 ((Heap.SameBut.update ..).trans (Heap.SameBut.update ..)))⟩
  cases hb : c.w.params.followText "set-order" with
  | true =>
    have hb' : (model c.prog c.w).w.params.followText "set-order" = true := hb
    rw [if_pos hb']
    dsimp only
    rw [if_neg (by decide)]
    refine wpAny_bind ?_
    refine wpAny_bind (wpAny_setState_of hS rfl (fits_true _) ?_)
    refine wpAny_bind (wpAny_bind (wpAny_askSetting (wpAny_pure ?_)))
    rw [if_pos hb']
    refine wpAny_bind (wpAny_askSetting (wpAny_pure ?_))
    refine wpAny_pure ?_
    rw [pick_one]
    exact wpAny_mono (fin 0 (.inl rfl) (fun q => by rw [hb] at q; cases q)) (fun _ _ z => z) fun _ _ z => z.elim
  | false =>
    have hb' : ¬ (model c.prog c.w).w.params.followText "set-order" = true := by
      show ¬ c.w.params.followText "set-order" = true
      rw [hb]; simp
    have hled : setLed c = true := by unfold setLed; rw [hb]; rfl
    rw [if_neg hb']
    dsimp only
    refine wpAny_bind ?_
    refine wpAny_of_eq (a := ()) ?_ ?_
    · show (if (!(trueT (setLed c)).led && !(#[((1 : Int), Value.bool true)] : Array (Int × Value)).isEmpty) = true then unsupported "set:maker-not-led" else pure ()) = pure ()
      rw [if_neg]
      rw [hled]; decide
    · refine wpAny_pure ?_
      rw [show (trueT (setLed c)).place = #[1] from rfl, show Int.toNat 0 = 0 from rfl, below_one0]
      exact wpAny_mono (fin 2 (.inr rfl) (fun _ => rfl)) (fun _ _ z => z) fun _ _ z => z.elim
/-- and no more -/
theorem set1_end {a it : Addr} {sl : Int} {Q : Option Value → Shared → Prop} (hh : A.handled = none) (hS : s.heap.get? a = some (trueObj (setLed c))) (hi : s.heap.get? it = some (siObj a sl 1)) (hs : sl = 0 ∨ sl = 2) (hsl : c.w.params.followText "set-order" = false → sl = 2)
    (h : ∀ h', Heap.ExtBut it s.heap h' → Q none { s with heap := h' }) : wpAny (model c.prog c.w) A (pyNext (.ref it)) Q E s := by
  have hT : s.TypeIs (.ref it) "set_iterator" := ⟨_, hi, rfl⟩
  unfold pyNext
  refine wpAny_bind (wpAny_attempt (wpAny_callSpecial?_slot (name := Str.ofString "__next__") hT si_next (wpAny_call_entry si_next hT si_entry ?_ (si_args _))))
  unfold Builtin.«set_iterator.__next__» setNext setWalk setsByText
  refine wpAny_bind (wpAny_pure ?_)
  refine wpAny_bind (wpAny_fieldsOf hi rfl ?_)
  show wpAny _ _ (setEntries a >>= _) _ _ _
  refine wpAny_bind (wpAny_setEntries_of hS rfl (fits_true _) ?_)
  rw [if_neg (by decide)]
  refine wpAny_bind ?_
  refine wpAny_bind (wpAny_setState_of hS rfl (fits_true _) ?_)
  refine wpAny_bind (wpAny_bind (wpAny_askSetting (wpAny_pure ?_)))
  have fin : wpAny (model c.prog c.w) A.in1 (setField (.ref it) 2 Value.none >>= fun _ => newExc (.type "StopIteration") [] >>= fun e => (raiseNew e : Sem Fin)) (fun fin s' => ∃ v, fin = Fin.done (Flow.ret v) ∧ wpAny (model c.prog c.w) A (pure (some v)) Q E s')
      (fun e s' => wpAny (model c.prog c.w) A (isInstance e (.type "StopIteration") >>= fun b => if b = true then pure none else throw e) Q E s') s := by
    refine wpAny_bind (wpAny_setField hi rfl (by simp) ?_)
    refine wpAny_bind ?_
    simp only [newExc, newTuple]
    refine wpAny_bind (wpAny_newObj_type ?_ (by size_fits))
    refine wpAny_bind (m := firstArgMember _ _) (wpAny_of_eq (a := Value.none) (by first | rfl | (simp only [firstArgMember]; rfl)) ?_)
    refine wpAny_newObj_type ?_ (by size_fits)
    simp only [raiseNew]
    refine wpAny_bind (wpAny_handled ?_)
    rw [show A.in1.handled = none from hh]
    refine wpAny_bind (wpAny_pure (wpAny_throw ?_))
    refine wpAny_bind (wpAny_isInstance (T := "StopIteration") (b := true) ⟨_, Heap.get?_push_size _ rfl, rfl⟩ isSubtype_stop ?_)
    exact wpAny_pure (h _ (((Heap.SameBut.update ..).extBut.push _).push _))
  cases hb : c.w.params.followText "set-order" with
  | true =>
    have hb' : (model c.prog c.w).w.params.followText "set-order" = true := hb
    rw [if_pos hb']
    dsimp only
    rw [if_neg (by decide)]
    refine wpAny_bind ?_
    refine wpAny_bind (wpAny_setState_of hS rfl (fits_true _) ?_)
    refine wpAny_bind (wpAny_bind (wpAny_askSetting (wpAny_pure ?_)))
    rw [if_pos hb']
    refine wpAny_bind (wpAny_askSetting (wpAny_pure ?_))
    refine wpAny_pure ?_
    rw [pick_one]
    exact wpAny_mono fin (fun _ _ z => z) fun _ _ z => z
  | false =>
    have hb' : ¬ (model c.prog c.w).w.params.followText "set-order" = true := by
      show ¬ c.w.params.followText "set-order" = true
      rw [hb]; simp
    have hled : setLed c = true := by unfold setLed; rw [hb]; rfl
    have hs2 := hsl hb
    subst hs2
    rw [if_neg hb']
    dsimp only
    refine wpAny_bind ?_
    refine wpAny_of_eq (a := ()) ?_ ?_
    · show (if (!(trueT (setLed c)).led && !(#[((1 : Int), Value.bool true)] : Array (Int × Value)).isEmpty) = true then unsupported "set:maker-not-led" else pure ()) = pure ()
      rw [if_neg]
      rw [hled]; decide
    · refine wpAny_pure ?_
      rw [show (trueT (setLed c)).place = #[1] from rfl, show Int.toNat 2 = 2 from rfl, below_one2]
      exact wpAny_mono fin (fun _ _ z => z) fun _ _ z => z
/-- «x, = s», s the set of True alone -/
theorem unpack_set1 {a : Addr} (hh : A.handled = none) (hS : s.heap.get? a = some (trueObj (setLed c))) :
    wpAny (model c.prog c.w) A (unpackItems (.ref a) 1 none) (fun vs s' => ∃ h' tk, s' = { s with heap := h', toks := tk } ∧ Le s.heap h' ∧ vs = [.bool true]) Noth s := by
  have hT : s.TypeIs (.ref a) "set" := ⟨_, hS, rfl⟩
  unfold unpackItems notIterableAtAll
  refine wpAny_bind (wpAny_bind (wpAny_specialOf hT F.slot_set_iter.lookup (wpAny_pure ?_)))
  show wpAny _ _ (if false = true then _ else _) _ _ _
  simp only [Bool.false_eq_true, if_false]
  refine wpAny_bind (wpAny_holding (set1_iter hS ?_))
  have k1 : Le s.heap (s.heap.push (siObj a 0 0)) := le_push _ _
  have e1 : (s.heap.push (siObj a 0 0)).get? s.heap.objs.size = some (siObj a 0 0) := Heap.get?_push_size _ rfl
  have ne : ∀ b o, s.heap.get? b = some o → b ≠ s.heap.objs.size := fun b o e => Nat.ne_of_lt (Heap.lt_size e)
  refine wpAny_bind (wpAny_holding ?_)
  unfold draw
  refine wpAny_bind (set1_next (s := { s with heap := s.heap.push (siObj a 0 0) }) (k1 _ _ hS) e1 fun h' sl hi hsl hsl2 hs => ?_)
  dsimp only
  unfold draw
  refine wpAny_bind (wpAny_holding (wpAny_pure (wpAny_pure ?_)))
  rw [if_neg (by simp)]
  have hS' := (hs.2 a (ne _ _ hS)).trans (k1 _ _ hS)
  refine wpAny_bind (wpAny_holding (set1_end (s := { s with heap := h' }) hh hS' hi hsl hsl2 fun h2 h2e => ?_))
  simp only [Option.isSome_none, Bool.false_eq_true, if_false]
  exact wpAny_pure ⟨h2, s.toks, rfl, fun b o e => h2e b o (ne _ _ e) ((hs.2 b (ne _ _ e)).trans (k1 _ _ e)), rfl⟩
theorem Tg.set1 {env : Env} {σ : Sto} {x : Str} {k : Nat} {p p' : Pos} (hk : env.kindOf x = some .local) (hl : (assignEach [.Name x p'] env).length = 1 := by rfl) (hst : (assignEach [.Name x p'] env).findIdx? (·.1) = none := by rfl)
    (he : assignEach [.Name x p'] env = [(false, PySem.assign (.Name x p') env)] := by rfl) :
    Tg c n env σ (.Tuple [.Name x p'] k p) .set1 (σ.put x (.val (.bool true))) := by
  constructor
  intro A g₀ b g m ow s v R S r
  cases r with
  | set1 e =>
    rename_i a
    rw [arm_assign_Tuple]
    refine wpAny_bind (wpAny_standAt ?_)
    unfold unpack
    rw [hl, hst]
    refine wpAny_bind (wpAny_holding (noth (unpack_set1 R.hh (S.kg _ _ e)) fun vs s' h1 => ?_))
    obtain ⟨h', tk, rfl, kk, rfl⟩ := h1
    have S1 := S.grow (g' := g) (h' := h') (Grow.of kk (Le.refl _) (S.kg.trans kk) fun _ _ e => .inl e)
    refine noth ((Tgs.cons (Tg.nameL hk) Tgs.nil he).out _ _ _ _ _ _ { s with heap := h', toks := tk } _ R S1 (Reps.one (.bool true))) fun _ s'' h2 => ?_
    obtain ⟨h2, tk2, g2, m2, ow2, rfl, S2⟩ := h2
    exact ⟨h2, tk2, g2, m2, ow2, rfl, S2⟩
end
end Mine

end
section
open PySem PySem.W PySem.Calls PyProof.Rows
set_option Elab.async false
set_option linter.unusedVariables false
namespace Mine
theorem cps_ext {x y : Str} (h : x.cps.toList = y.cps.toList) : x = y := by
  cases x; cases y
  congr 1
  exact Array.toList_inj.mp h
theorem natlt_trans {a b c : List Nat} (h1 : a < b) (h2 : b < c) : a < c := List.lt_trans h1 h2
theorem natlt_irrefl (a : List Nat) : ¬ a < a := List.lt_irrefl a
theorem natlt_tri (a b : List Nat) : a < b ∨ a = b ∨ b < a := by
  rcases Decidable.em (a < b) with h | h
  · exact .inl h
  · rcases Decidable.em (b < a) with h' | h'
    · exact .inr (.inr h')
    · exact .inr (.inl (List.le_antisymm h' h))
theorem ltS_trans {x y z : Str} (h1 : ltS x y = true) (h2 : ltS y z = true) : ltS x z = true := by
  unfold ltS at *
  rw [decide_eq_true_eq] at *
  exact natlt_trans h1 h2
theorem ltS_irrefl (x : Str) : ltS x x = false := decide_eq_false (natlt_irrefl _)
theorem ltS_tri (x y : Str) : ltS x y = true ∨ x = y ∨ ltS y x = true := by
  unfold ltS
  simp only [decide_eq_true_eq]
  rcases natlt_tri x.cps.toList y.cps.toList with h | h | h
  · exact .inl h
  · exact .inr (.inl (cps_ext h))
  · exact .inr (.inr h)
theorem ltL_cons_same {x : Str} {r t : List Str} : ltL (x :: r) (x :: t) = ltL r t := by rw [ltL, if_pos (by simp)]
theorem ltL_cons_ne {x y : Str} {r t : List Str} (h : x ≠ y) : ltL (x :: r) (y :: t) = ltS x y := by rw [ltL, if_neg (by simpa using h)]
theorem ltL_irrefl : ∀ a : List Str, ltL a a = false
  | [] => rfl
  | x :: r => by rw [ltL_cons_same]; exact ltL_irrefl r
theorem ltL_trans : ∀ {a b c : List Str}, ltL a b = true → ltL b c = true → ltL a c = true
  | [], _, [], _, h2 => by rw [ltL_nil2] at h2; cases h2
  | [], _, _ :: _, _, _ => rfl
  | _ :: _, [], _, h1, _ => by rw [ltL_nil2] at h1; cases h1
  | _ :: _, _ :: _, [], _, h2 => by rw [ltL_nil2] at h2; cases h2
  | x :: r, y :: t, z :: u, h1, h2 => by
    by_cases e1 : x = y
    · subst e1
      rw [ltL_cons_same] at h1
      by_cases e2 : x = z
      · subst e2
        rw [ltL_cons_same] at h2 ⊢
        exact ltL_trans h1 h2
      · rw [ltL_cons_ne e2] at h2 ⊢
        exact h2
    · rw [ltL_cons_ne e1] at h1
      by_cases e2 : y = z
      · subst e2
        rw [ltL_cons_ne e1]
        exact h1
      · rw [ltL_cons_ne e2] at h2
        have h3 := ltS_trans h1 h2
        rw [ltL_cons_ne]
        · exact h3
        · rintro rfl
          rw [ltS_irrefl] at h3; cases h3
theorem ltL_asymm {a b : List Str} (h : ltL a b = true) : ltL b a = false := by
  cases q : ltL b a with
  | false => rfl
  | true =>
    have := ltL_trans h q
    rw [ltL_irrefl] at this; cases this
theorem ltL_tri : ∀ a b : List Str, ltL a b = true ∨ a = b ∨ ltL b a = true
  | [], [] => .inr (.inl rfl)
  | [], _ :: _ => .inl rfl
  | _ :: _, [] => .inr (.inr rfl)
  | x :: r, y :: t => by
    by_cases e : x = y
    · subst e
      rw [ltL_cons_same, ltL_cons_same]
      rcases ltL_tri r t with h | h | h
      · exact .inl h
      · exact .inr (.inl (by rw [h]))
      · exact .inr (.inr h)
    · rw [ltL_cons_ne e, ltL_cons_ne (Ne.symm e)]
      rcases ltS_tri x y with h | h | h
      · exact .inl h
      · exact absurd h e
      · exact .inr (.inr h)
theorem minF_le : ∀ (l : List (List Str)) (b : List Str), ∀ x ∈ b :: l, ltL x (minF b l) = false
  | [], b, x, hx => by
    rw [List.mem_singleton.mp hx]
    exact ltL_irrefl b
  | y :: r, b, x, hx => by
    have ih := minF_le r (if ltL y b then y else b)
    have e : minF b (y :: r) = minF (if ltL y b then y else b) r := by unfold minF; rw [List.foldl_cons]
    rw [e]
    have h0 := ih _ (.head _)
    rcases List.mem_cons.mp hx with rfl | hx
    · by_cases q : ltL y x = true
      · rw [if_pos q] at h0 ⊢
        cases z : ltL x (minF y r) with
        | false => rfl
        | true =>
          have := ltL_trans q z
          rw [h0] at this; cases this
      · rw [if_neg q] at h0 ⊢
        exact h0
    · rcases List.mem_cons.mp hx with rfl | hx
      · by_cases q : ltL x b = true
        · rw [if_pos q] at h0 ⊢
          exact h0
        · rw [if_neg q] at h0 ⊢
          cases z : ltL x (minF b r) with
          | false => rfl
          | true =>
            rcases ltL_tri b (minF b r) with t1 | t1 | t1
            · rw [h0] at t1; cases t1
            · rw [← t1] at z; exact absurd z q
            · exact absurd (ltL_trans z t1) q
      · exact ih x (.tail _ hx)
theorem maxF_ge : ∀ (l : List (List Str)) (b : List Str), ∀ x ∈ b :: l, ltL (maxF b l) x = false
  | [], b, x, hx => by
    rw [List.mem_singleton.mp hx]
    exact ltL_irrefl b
  | y :: r, b, x, hx => by
    have ih := maxF_ge r (if ltL b y then y else b)
    have e : maxF b (y :: r) = maxF (if ltL b y then y else b) r := by unfold maxF; rw [List.foldl_cons]
    rw [e]
    have h0 := ih _ (.head _)
    rcases List.mem_cons.mp hx with rfl | hx
    · by_cases q : ltL x y = true
      · rw [if_pos q] at h0 ⊢
        cases z : ltL (maxF y r) x with
        | false => rfl
        | true =>
          have := ltL_trans z q
          rw [h0] at this; cases this
      · rw [if_neg q] at h0 ⊢
        exact h0
    · rcases List.mem_cons.mp hx with rfl | hx
      · by_cases q : ltL b x = true
        · rw [if_pos q] at h0 ⊢
          exact h0
        · rw [if_neg q] at h0 ⊢
          cases z : ltL (maxF b r) x with
          | false => rfl
          | true =>
            rcases ltL_tri b (maxF b r) with t1 | t1 | t1
            · exact absurd (ltL_trans t1 z) q
            · rw [← t1] at z; exact absurd z q
            · rw [h0] at t1; cases t1
      · exact ih x (.tail _ hx)
end Mine

end
section
open PySem PySem.W PySem.Calls PyProof.Rows
set_option Elab.async false
set_option linter.unusedVariables false
set_option maxRecDepth 100000
set_option maxHeartbeats 4000000
namespace Mine
local macro_rules | `(tactic| walk_at "get") => `(tactic| (repeat (first
  | with_reducible exact get_eq
  | with_reducible exact get_put_eq
  | with_reducible exact get_capt_eq
  | (with_reducible apply get_ne
     · (fail_if_success (with_reducible refine same_guard ?_)); kernel_rfl)
  | (with_reducible apply get_put_ne
     · (fail_if_success (with_reducible refine same_guard ?_)); kernel_rfl)
  | (with_reducible apply get_capt_ne
     · (fail_if_success (with_reducible refine same_guard ?_)); kernel_rfl))))
local macro_rules | `(tactic| walk_at "gets") => `(tactic| first
  | (walk_at "get"; done)
  | (with_reducible apply get_frz_val; walk_at "get"; done)
  | (with_reducible apply get_frz_own; walk_at "get"; done)
  | (with_reducible apply get_frz_cel; walk_at "get"; done))
local macro_rules | `(tactic| walk_at "kind") => `(tactic| first | exact kindOf_of (by assumption) (by kernel_rfl) | exact kindOf_c (by kernel_rfl) (by decide))
local macro_rules | `(tactic| walk_at "fn") => `(tactic| exact ⟨⟨_, rfl, rfl⟩, rfl, rfl, by kernel_rfl, rfl, rfl, rfl, rfl, rfl, of_decide_eq_true (by kernel_rfl)⟩)
local macro_rules | `(tactic| walk_at "name") => `(tactic| first
  | (with_reducible apply Ev.name
     · walk_at "gets"
     · kernel_rfl
     · kernel_rfl)
  | (with_reducible apply Ev.cel
     · walk_at "gets"
     · kernel_rfl))
local macro_rules | `(tactic| walk_at "side") => `(tactic| first | assumption | omega | (simp only [sizeLine_eq] at *; omega) | decide)
local macro_rules | `(tactic| walk_at "ur") => `(tactic| with_unfolding_all rfl)
local macro_rules | `(tactic| walk_at "prim") => `(tactic| first
  | with_reducible exact add_ii | with_reducible exact sub_ii | with_reducible exact and_ii | with_reducible exact eq_ii | with_reducible exact eq_ss | with_reducible exact ne_ss
  | with_reducible exact iadd_ii | with_reducible exact eq_lnil | with_reducible exact ne_lnil | with_reducible exact eq_dnil | with_reducible exact eq_ll | with_reducible exact in_ss
  | (with_reducible refine mul_ii (IntMulOk.of_left ?_); decide +kernel) | (with_reducible refine add_ss ?_; walk_at "side") | (with_reducible refine iadd_ss ?_; walk_at "side") | (with_reducible refine mod_ii ?_; walk_at "side") | (with_reducible refine div_ii ?_ ?_ <;> walk_at "side") | (with_reducible refine idiv_ii ?_ ?_ <;> walk_at "side"))
local macro_rules | `(tactic| walk_at "ev") => `(tactic| first
  | with_reducible exact Ev.cint
  | with_reducible exact Ev.cstr
  | with_reducible exact Ev.cbool
  | with_reducible exact Ev.dict0
  | walk_at "name"
  | (with_reducible apply Ev.bin
     · walk_at "ev"
     · walk_at "ev"
     · walk_at "prim")
  | (with_reducible apply Ev.cmp
     · walk_at "ev"
     · walk_at "ev"
     · walk_at "prim"
     · walk_at "ur")
  | (with_reducible apply Ev.tup
     · walk_at "evs"
     · exact lt_line (by decide))
  | (with_reducible apply Ev.list
     · walk_at "evs"
     · exact lt_line (by decide))
  | (with_reducible apply Ev.startswith
     · walk_at "ev"
     · walk_at "ev"
     · walk_at "ur"
     · walk_at "ur"
     · walk_at "ur")
  | (with_reducible apply Ev.endswith
     · walk_at "ev"
     · walk_at "ev"
     · walk_at "ur"
     · walk_at "ur"
     · walk_at "ur")
  | (with_reducible apply Ev.rfind
     · walk_at "ev"
     · walk_at "ev"
     · walk_at "ur"
     · walk_at "ur"
     · walk_at "ur")
  | (with_reducible apply Ev.rstrip
     · walk_at "ev"
     · walk_at "ev"
     · walk_at "side"
     · walk_at "ur"
     · walk_at "ur"
     · walk_at "ur"))
local macro_rules | `(tactic| walk_at "evs") => `(tactic| first
  | with_reducible exact Evs.nil
  | (with_reducible apply Evs.cons
     · walk_at "ev"
     · walk_at "evs"
     · walk_at "ur"))
local macro_rules | `(tactic| walk_at "tr") => `(tactic| first
  | (with_reducible apply Tr.cmp
     · walk_at "ev"
     · walk_at "ev"
     · walk_at "prim"
     · walk_at "ur")
  | (with_reducible apply Tr.not
     · walk_at "tr"
     · rfl)
  | (with_reducible apply Tr.boolop; with_reducible apply Al.or2
     · walk_at "tr"
     · intro _; walk_at "tr")
  | (with_reducible apply Tr.boolop; with_reducible apply Al.and2
     · walk_at "tr"
     · intro _; walk_at "tr")
  | (with_reducible apply Tr.value
     · walk_at "ev"
     · first | exact trivial | walk_at "side"
     · rfl
     · rfl
     · intro _; walk_at "ur"))
local macro_rules | `(tactic| walk_at "getd") => `(tactic| (walk_at "get"; done))
local macro_rules | `(tactic| walk_at "weak") => `(tactic| (show Weak _ _; walk_at "weak1"))
local macro_rules | `(tactic| walk_at "weak1") => `(tactic| first
  | with_reducible exact weak_nil
  | (with_reducible refine weak_cons (by walk_at "getd") Slot.le_refl ?_; walk_at "weak1")
  | (with_reducible refine weak_cons (by walk_at "getd") Slot.le_cel ?_; walk_at "weak1")
  | (with_reducible refine weak_cons (by walk_at "getd") Slot.le_own ?_; walk_at "weak1"))

section
noncomputable abbrev Kf (w : World) : Frag := Kd w.params
noncomputable abbrev cx (w : World) : Cx := ⟨PySem.Challenge.rw_kt0045_01.row.prog, w, Kf w⟩
variable {w : World} {n : Nat} {env : Env} {σ : Sto}
theorem glob_type : Glob (cx w) "type" (.type "type") := ⟨.inr ⟨by kernel_rfl, by kernel_rfl, by decide +kernel⟩, by kernel_rfl⟩
theorem glob_str : Glob (cx w) "str" (.type "str") := ⟨.inr ⟨by kernel_rfl, by kernel_rfl, by decide +kernel⟩, by kernel_rfl⟩
theorem glob_bytes : Glob (cx w) "bytes" (.type "bytes") := ⟨.inr ⟨by kernel_rfl, by kernel_rfl, by decide +kernel⟩, by kernel_rfl⟩
theorem glob_issubclass : Glob (cx w) "issubclass" (.builtin "issubclass") := ⟨.inr ⟨by kernel_rfl, by kernel_rfl, by decide +kernel⟩, by kernel_rfl⟩
theorem glob_isinstance : Glob (cx w) "isinstance" (.builtin "isinstance") := ⟨.inr ⟨by kernel_rfl, by kernel_rfl, by decide +kernel⟩, by kernel_rfl⟩
theorem glob_fspath : Glob (cx w) "fspath" (.ref 94) := ⟨.inl (by kernel_rfl), by kernel_rfl⟩
theorem keep_ty {c : Cx} {T : String} : KeepF c (.type T) := .inr (.inr ⟨_, rfl⟩)
theorem keep_bi {c : Cx} {T : String} : KeepF c (.builtin T) := .inr (.inl ⟨_, rfl⟩)
theorem keep_fspath : KeepF (cx w) (.ref 94) := .inl (by kernel_rfl)

theorem sp_fspath {x : Str} (hx : x.length ≤ sizeLine) : Prim (cx w) 1 [.str x] (fun vs => PySem.call (.ref 94) vs) (.str x) := by
  refine Fn.prim' (by walk_at "fn") ["path"] [("path", .val (.str x))] (by kernel_rfl) rfl (by kernel_rfl) (by kernel_rfl) (vs1 fun a => rfl) fun env hs => ?_
  conv => arg 5; whnf
  refine X.assign (Callee.ev glob_type (by walk_at "kind") keep_ty (Evs.cons (by walk_at "name") Evs.nil) type_str) (by walk_at "kind") ?_
  refine X.ifTs (Tr.value (Callee.ev glob_issubclass (by walk_at "kind") keep_bi (Evs.cons (by walk_at "name") (Evs.cons (Ev.tup (Evs.cons (Ev.glob glob_str (by walk_at "kind")) (Evs.cons (Ev.glob glob_bytes (by walk_at "kind")) Evs.nil)) (by decide)) Evs.nil)) issub_str) trivial rfl rfl) ?_ notnext_ret
  exact X.ret (by walk_at "name")
end
section
variable {w : World} {n : Nat} {env : Env} {σ : Sto}
theorem glob_get_sep : Glob (cx w) "_get_sep" (.ref 108) := ⟨.inl (by kernel_rfl), by kernel_rfl⟩
theorem keep_get_sep : KeepF (cx w) (.ref 108) := .inl (by kernel_rfl)
theorem glob_join : Glob (cx w) "join" (.ref 115) := ⟨.inl (by kernel_rfl), by kernel_rfl⟩
theorem keep_join : KeepF (cx w) (.ref 115) := .inl (by kernel_rfl)
theorem glob_len : Glob (cx w) "len" (.builtin "len") := ⟨.inr ⟨by kernel_rfl, by kernel_rfl, by decide +kernel⟩, by kernel_rfl⟩
noncomputable abbrev slash : Str := Str.ofString "/"
theorem sp_get_sep {x : Str} : Prim (cx w) 1 [.str x] (fun vs => PySem.call (.ref 108) vs) (.str slash) := by
  refine Fn.prim' (by walk_at "fn") ["path"] [("path", .val (.str x))] (by kernel_rfl) rfl (by kernel_rfl) (by kernel_rfl) (vs1 fun a => rfl) fun env hs => ?_
  conv => arg 5; whnf
  refine X.ifFs (Tr.value (Callee.ev glob_isinstance (by walk_at "kind") keep_bi (Evs.cons (by walk_at "ev") (Evs.cons (Ev.glob glob_bytes (by walk_at "kind")) Evs.nil)) isi_str_bytes) trivial rfl rfl) ?_ notnext_ret
  exact X.ret (by walk_at "ev")
noncomputable def joinS (a b : Str) : Str := if (Txt.startswith b slash || !(a.length != 0)) = true then b else if Txt.endswith a slash = true then a ++ b else a ++ (slash ++ b)
theorem slash_len : slash.length = 1 := by kernel_rfl
theorem sp_join {x y : Str} (hx : x.length ≤ 1000) (hy : y.length ≤ 1000) : Prim (cx w) 2 [.str x, .str y] (fun vs => PySem.call (.ref 115) vs) (.str (joinS x y)) := by
  refine Fn.primV (by walk_at "fn") "a" "p" (by kernel_rfl) (by kernel_rfl) (fun a b => rfl) [("a", .val (.str x)), ("p", .val (.tup [.str y]))] (by kernel_rfl) fun env hs => ?_
  conv => arg 5; whnf
  have hx' : x.length ≤ sizeLine := lt_line (by omega)
  have hy' : y.length ≤ sizeLine := lt_line (by omega)
  have h1 : x.length + y.length ≤ sizeLine := lt_line (by omega)
  have h2 : slash.length + y.length ≤ sizeLine := lt_line (by rw [slash_len]; omega)
  have h3 : x.length + (slash ++ y).length ≤ sizeLine := lt_line (by have : (slash ++ y).length = slash.length + y.length := by exact Array.size_append
                                                                     rw [this, slash_len]; omega)
  refine X.assign (Callee.ev glob_fspath (by walk_at "kind") keep_fspath (by walk_at "evs") (sp_fspath hx')) (by walk_at "kind") ?_
  refine X.assign (Callee.ev glob_get_sep (by walk_at "kind") keep_get_sep (by walk_at "evs") sp_get_sep) (by walk_at "kind") ?_
  refine X.assign (by walk_at "ev") (by walk_at "kind") ?_
  refine Ex.cons (σ' := [("path", .val (.str (joinS x y)))]) (Ex1.tryy (Ex.one (Ex1.forIn (by walk_at "ev") rfl (Lp.next TgtOk.name (Tg.nameL (by walk_at "kind")) ?_ (fun _ _ e => ⟨_, e, .inl rfl⟩) (Lp.nil Ex.nil)) TgtOk.name)) Ex.nil) (X.ret (by walk_at "ev"))
  refine X.assign (Callee.ev glob_fspath (by walk_at "kind") keep_fspath (by walk_at "evs") (sp_fspath hy')) (by walk_at "kind") ?_
  refine Ex.one (Ex1.iff (by walk_at "tr") (fun c1 => ?_) (fun c1 => Ex.one (Ex1.iff (by walk_at "tr") (fun c2 => ?_) (fun c2 => ?_))))
  · have e : joinS x y = y := if_pos c1
    rw [e]
    exact Ex.after (X.assign (by walk_at "ev") (by walk_at "kind") Ex.nil) (by walk_at "weak")
  · have e : joinS x y = x ++ y := (if_neg (ne_true_of_eq_false c1)).trans (if_pos c2)
    rw [e]
    exact Ex.after (X.aug (by walk_at "getd") (by walk_at "ev") (by walk_at "prim") (by walk_at "kind") (by kernel_rfl) Ex.nil) (by walk_at "weak")
  · have e : joinS x y = x ++ (slash ++ y) := (if_neg (ne_true_of_eq_false c1)).trans (if_neg (ne_true_of_eq_false c2))
    rw [e]
    exact Ex.after (X.aug (by walk_at "getd") (by walk_at "ev") (by walk_at "prim") (by walk_at "kind") (by kernel_rfl) Ex.nil) (by walk_at "weak")
end
section
variable {w : World} {n : Nat} {env : Env} {σ : Sto}
theorem glob_basename : Glob (cx w) "basename" (.ref 122) := ⟨.inl (by kernel_rfl), by kernel_rfl⟩
theorem keep_basename : KeepF (cx w) (.ref 122) := .inl (by kernel_rfl)
theorem glob_dirname : Glob (cx w) "dirname" (.ref 129) := ⟨.inl (by kernel_rfl), by kernel_rfl⟩
theorem keep_dirname : KeepF (cx w) (.ref 129) := .inl (by kernel_rfl)
noncomputable def baseS (p : Str) : Str := Txt.slice p (some (Txt.rfind p slash + 1)) none
noncomputable def headS (p : Str) : Str := Txt.slice p none (some (Txt.rfind p slash + 1))
noncomputable def dirS (p : Str) : Str := if ((headS p).length != 0 && headS p != Txt.mul slash (headS p).length) = true then Txt.rstripChars (headS p) slash else headS p
theorem sp_basename {x : Str} (hx : x.length ≤ 1000) : Prim (cx w) 2 [.str x] (fun vs => PySem.call (.ref 122) vs) (.str (baseS x)) := by
  refine Fn.prim' (by walk_at "fn") ["p"] [("p", .val (.str x))] (by kernel_rfl) rfl (by kernel_rfl) (by kernel_rfl) (vs1 fun a => rfl) fun env hs => ?_
  conv => arg 5; whnf
  have hx' : x.length ≤ sizeLine := lt_line (by omega)
  refine X.assign (Callee.ev glob_fspath (by walk_at "kind") keep_fspath (by walk_at "evs") (sp_fspath hx')) (by walk_at "kind") ?_
  refine X.assign (Callee.ev glob_get_sep (by walk_at "kind") keep_get_sep (by walk_at "evs") sp_get_sep) (by walk_at "kind") ?_
  refine X.assign (by walk_at "ev") (by walk_at "kind") ?_
  exact X.ret (Ev.slice (i := some (Txt.rfind x slash + 1)) (j := none) (by walk_at "ev") (show Ev _ _ _ _ _ _ by walk_at "ev") trivial (slice_s hx'))
theorem sp_dirname {x : Str} (hx : x.length ≤ 1000) : Prim (cx w) 2 [.str x] (fun vs => PySem.call (.ref 129) vs) (.str (dirS x)) := by
  refine Fn.prim' (by walk_at "fn") ["p"] [("p", .val (.str x))] (by kernel_rfl) rfl (by kernel_rfl) (by kernel_rfl) (vs1 fun a => rfl) fun env hs => ?_
  conv => arg 5; whnf
  have hx' : x.length ≤ sizeLine := lt_line (by omega)
  have hh : (headS x).length ≤ sizeLine := Nat.le_trans (Txt.slice_le x _ _) hx'
  have hm : MulOk slash ((headS x).length : Int) := by
    have h1 : (headS x).length ≤ 1000 := Nat.le_trans (Txt.slice_le x _ _) hx
    have e : slash.length = 1 := slash_len
    refine ⟨?_, fun h _ hc => ?_, fun _ _ => ?_⟩
    · simp only [Bool.or_eq_false_iff, decide_eq_false_iff_not]
      constructor <;> omega
    · rw [e] at hc
      have h2 : (1 : Int) ≤ (2 ^ 63 - 1) / ((headS x).length : Int) := by
        rw [Int.le_ediv_iff_mul_le (by omega)]
        omega
      have h3 : ((1 : Nat) : Int) = 1 := rfl
      omega
    · rw [e]
      unfold Builtin.Str.tooLong
      simp only [sizeLine_eq, decide_eq_false_iff_not]
      omega
  refine X.assign (Callee.ev glob_fspath (by walk_at "kind") keep_fspath (by walk_at "evs") (sp_fspath hx')) (by walk_at "kind") ?_
  refine X.assign (Callee.ev glob_get_sep (by walk_at "kind") keep_get_sep (by walk_at "evs") sp_get_sep) (by walk_at "kind") ?_
  refine X.assign (by walk_at "ev") (by walk_at "kind") ?_
  refine X.assign (Ev.slice (i := none) (j := some (Txt.rfind x slash + 1)) (by walk_at "ev") trivial (show Ev _ _ _ _ _ _ by walk_at "ev") (slice_s hx')) (by walk_at "kind") ?_
  change Ex _ _ _ (Sto.put _ _ (.val (.str (headS x)))) _ _
  refine Ex.cons (σ' := [("head", .val (.str (dirS x)))]) (Ex1.iff (Tr.boolop (Al.and2 (by walk_at "tr") (fun _ => Tr.cmp (by walk_at "ev") (Ev.bin (by walk_at "ev") (Callee.ev glob_len (by walk_at "kind") keep_bi (by walk_at "evs") (len_s hh)) (mul_si hm)) ne_ss))) (fun c1 => ?_) (fun c1 => ?_)) (X.ret (by walk_at "ev"))
  · have e : dirS x = Txt.rstripChars (headS x) slash := if_pos c1
    rw [e]
    exact Ex.after (X.assign (by walk_at "ev") (by walk_at "kind") Ex.nil) (by walk_at "weak")
  · have e : dirS x = headS x := if_neg (ne_true_of_eq_false c1)
    rw [e]
    exact Ex.after Ex.nil (by walk_at "weak")
end
section
variable {w : World} {n : Nat} {env : Env} {σ : Sto}
theorem glob_ifmt : Glob (cx w) "S_IFMT" (.ref 185) := ⟨.inl (by kernel_rfl), by kernel_rfl⟩
theorem keep_ifmt : KeepF (cx w) (.ref 185) := .inl (by kernel_rfl)
theorem glob_table : Glob (cx w) "_filemode_table" (.ref 218) := ⟨.inl (by kernel_rfl), by kernel_rfl⟩
theorem glob_enum : Glob (cx w) "enumerate" (.type "enumerate") := ⟨.inr ⟨by kernel_rfl, by kernel_rfl, by decide +kernel⟩, by kernel_rfl⟩
theorem glob_filemode : Glob (cx w) "filemode" (.ref 225) := ⟨.inl (by kernel_rfl), by kernel_rfl⟩
theorem keep_filemode : KeepF (cx w) (.ref 225) := .inl (by kernel_rfl)
theorem sp_ifmt {i : Int} : Prim (cx w) 1 [.int i] (fun vs => PySem.call (.ref 185) vs) (.int (Builtin.bitAnd i 61440)) := by
  refine Fn.prim' (by walk_at "fn") ["mode"] [("mode", .val (.int i))] (by kernel_rfl) rfl (by kernel_rfl) (by kernel_rfl) (vs1 fun a => rfl) fun env hs => ?_
  conv => arg 5; whnf
  exact X.ret (by walk_at "ev")
noncomputable def rowD (p : Int × Str) : D := .tup [.int p.1, .str p.2]
noncomputable def tabD (t : List (Int × Str)) : D := .tup (t.map rowD)
theorem table_eq : toD (cx w).K 5 (.ref 218) = some (.tup (modeTable.map tabD)) := by kernel_rfl
noncomputable def hit (k : Nat) (m : Int) (p : Int × Str) : Bool := if k = 0 then Builtin.bitAnd m 61440 == p.1 else Builtin.bitAnd m p.1 == p.1
noncomputable def pick (k : Nat) (m : Int) (t : List (Int × Str)) : Str := match t.find? (hit k m) with
  | some p => p.2
  | none => if k = 0 then Str.ofString "?" else Str.ofString "-"
noncomputable def permOf (m : Int) : Nat → List (List (Int × Str)) → List Str
  | _, [] => []
  | k, t :: r => pick k m t :: permOf m (k + 1) r
theorem keyk (k : Nat) : ((k : Int) == 0) = decide (k = 0) := by
  rw [Bool.eq_iff_iff]
  simp only [beq_iff_eq, decide_eq_true_eq]
  omega
noncomputable def fmS (i : Int) (outs : List Str) : Sto := [("mode", .val (.int i)), ("perm", .own true (.list (sL outs)))]
noncomputable def fmT (i : Int) (k : Nat) (outs : List Str) : Sto := [("mode", .val (.int i)), ("index", .val (.int (k : Int))), ("perm", .own true (.list (sL outs)))]
theorem permOf_length (i : Int) : ∀ (k : Nat) (ts : List (List (Int × Str))), (permOf i k ts).length = ts.length
  | _, [] => rfl
  | k, t :: r => by rw [permOf, List.length_cons, List.length_cons, permOf_length]
theorem join_ok10 {xs : List Str} (h : xs.length ≤ 100) (h1 : ∀ x ∈ xs, x.length ≤ 100) : JoinOk (Str.ofString "") xs = true := by
  have key : ∀ (l : List Str) (a : Nat), (∀ x ∈ l, x.length ≤ 100) → l.foldl (fun a x => a + x.length + (Str.ofString "").length) a ≤ a + 100 * l.length := by
    intro l
    induction l with
    | nil => intro a _; simp
    | cons x r ih =>
      intro a hx
      rw [List.foldl_cons, List.length_cons]
      have e : (Str.ofString "").length = 0 := by kernel_rfl
      have := ih (a + x.length + (Str.ofString "").length) fun y hy => hx y (.tail _ hy)
      have := hx x (.head _)
      omega
  unfold JoinOk Builtin.Str.tooLong
  have := key xs 0 h1
  have e : xs.toArray.foldl (fun a x => a + x.length + (Str.ofString "").length) 0 = xs.foldl (fun a x => a + x.length + (Str.ofString "").length) 0 := by simp
  rw [e]
  simp only [Bool.not_eq_true', decide_eq_false_iff_not, sizeLine_eq]
  omega
theorem pick_len {k : Nat} {m : Int} {t : List (Int × Str)} (h : ∀ p ∈ t, p.2.length ≤ 1) : (pick k m t).length ≤ 1 := by
  unfold pick
  split
  · rename_i p e
    exact h p (List.mem_of_find?_eq_some e)
  · split
    · exact (by kernel_rfl : (Str.ofString "?").length = 1) ▸ Nat.le_refl _
    · exact (by kernel_rfl : (Str.ofString "-").length = 1) ▸ Nat.le_refl _
theorem perm_len {i : Int} : ∀ (k : Nat) (ts : List (List (Int × Str))), (∀ t ∈ ts, ∀ p ∈ t, p.2.length ≤ 1) → ∀ x ∈ permOf i k ts, x.length ≤ 1
  | _, [], _, x, hx => by cases hx
  | k, t :: r, h, x, hx => by
    rcases List.mem_cons.mp hx with rfl | hx
    · exact pick_len (h t (.head _))
    · exact perm_len (k + 1) r (fun t' ht => h t' (.tail _ ht)) x hx
theorem table_len : ∀ t ∈ modeTable, ∀ p ∈ t, p.2.length ≤ 1 := by decide +kernel
theorem sp_filemode {i : Int} : Prim (cx w) 3 [.int i] (fun vs => PySem.call (.ref 225) vs) (.str (Txt.join (Str.ofString "") (permOf i 0 modeTable))) := by
  refine Fn.prim' (by walk_at "fn") ["mode"] [("mode", .val (.int i))] (by kernel_rfl) rfl (by kernel_rfl) (by kernel_rfl) (vs1 fun a => rfl) fun env hs => ?_
  conv => arg 5; whnf
  refine Ex.cons (Ex1.ownList (by walk_at "evs") (by walk_at "kind") (lt_line (by decide))) ?_
  refine Ex.cons (σ' := fmS i (permOf i 0 modeTable)) (Ex1.weak (σ₂ := fmS i []) (Ex1.forEnumT (glob_enum.callee (by walk_at "kind") keep_ty) (Evs.cons (Ev.globD glob_table (by walk_at "kind") table_eq) Evs.nil) ⟨_, _, _, rfl⟩ ?_) (by unfold fmS; rw [show sL [] = [] from rfl]; walk_at "weak")) ?_
  · refine (?_ : ∀ (tables : List (List (Int × Str))) (k : Nat) (outs : List Str), outs.length + tables.length ≤ 10 → (∀ t ∈ tables, t.length ≤ 100) → Lp (cx w) 2 env _ _ _ (enumD k (tables.map tabD)) (fmS i outs) (.next (fmS i (outs ++ permOf i k tables)))) modeTable 0 [] (by decide) (by decide)
    intro tables
    induction tables with
    | nil =>
      intro k outs _ _
      rw [permOf, List.append_nil]
      exact Lp.nil Ex.nil
    | cons t r ih =>
      intro k outs hl ht
      simp only [List.length_cons] at hl
      have := ih (k + 1) (outs ++ [pick k i t]) (by simp; omega) (fun t' h => ht t' (.tail _ h))
      rw [List.append_assoc] at this
      refine Lp.next TgtOk.tup (Tg.tup (Tgs.cons (Tg.nameL (by walk_at "kind")) (Tgs.cons (Tg.nameL (by walk_at "kind")) Tgs.nil)) rfl) ?_ (σ₂ := fmS i (outs ++ [pick k i t])) (fun _ _ e => ⟨_, e, .inl rfl⟩) this
      refine Ex.weak (σ₂ := ("table", .val (tabD t)) :: fmT i k outs) (Ex.one (Ex1.forIn (d := tabD t) (by walk_at "ev") rfl (Lp.find TgtOk.tup rowD (hit k i) (("table", .val (tabD t)) :: fmT i k outs) (fun r => fmS i (outs ++ [match r with
        | some p => p.2
        | none => if k = 0 then Str.ofString "?" else Str.ofString "-"])) t ?_ ?_) TgtOk.tup)) (by unfold fmS fmT; walk_at "weak")
      · intro p hp
        have hpk : hit k i p = if k = 0 then Builtin.bitAnd i 61440 == p.1 else Builtin.bitAnd i p.1 == p.1 := rfl
        have ha : (sL outs).length ≤ sizeLine := lt_line (by simp; omega)
        have hap : fmS i (outs ++ [p.2]) = ([("mode", .val (.int i)), ("perm", .own true (.list (sL outs ++ [.str p.2])))] : Sto) := by unfold fmS; rw [show sL (outs ++ [p.2]) = sL outs ++ [.str p.2] by simp]
        refine ⟨_, Tg.tup (ds := [.int p.1, .str p.2]) (Tgs.cons (Tg.nameL (by walk_at "kind")) (Tgs.cons (Tg.nameL (by walk_at "kind")) Tgs.nil)) rfl, fun h => ?_, fun h => ?_⟩
        · refine ⟨_, Ex.one (Ex1.iff (y := ((k : Int) == 0)) (by unfold fmT; walk_at "tr") (fun h0 => Ex.one (Ex1.iff (Tr.cmp (Callee.ev glob_ifmt (by walk_at "kind") keep_ifmt (by unfold fmT; walk_at "evs") (sp_ifmt.le (by omega))) (by unfold fmT; walk_at "ev") eq_ii) (fun h1 => ?_) (fun h1 => Ex.nil)))
            (fun h0 => Ex.one (Ex1.iff (by unfold fmT; walk_at "tr") (fun h1 => ?_) (fun h1 => Ex.nil)))), by unfold fmT; walk_at "weak"⟩
          · rw [keyk, decide_eq_true_eq] at h0
            rw [hpk, if_pos h0, h1] at h; cases h
          · rw [keyk, decide_eq_false_iff_not] at h0
            rw [hpk, if_neg h0, h1] at h; cases h
        · refine ⟨_, Ex.one (Ex1.iff (y := ((k : Int) == 0)) (by unfold fmT; walk_at "tr") (fun h0 => Ex.one (Ex1.iff (Tr.cmp (Callee.ev glob_ifmt (by walk_at "kind") keep_ifmt (by unfold fmT; walk_at "evs") (sp_ifmt.le (by omega))) (by unfold fmT; walk_at "ev") eq_ii) (fun h1 => Ex.cons (Ex1.append (by unfold fmT; walk_at "getd") (by unfold fmT; walk_at "ev") ha) (Ex.one Ex1.brk)) (fun h1 => ?_)))
            (fun h0 => Ex.one (Ex1.iff (by unfold fmT; walk_at "tr") (fun h1 => Ex.cons (Ex1.append (by unfold fmT; walk_at "getd") (by unfold fmT; walk_at "ev") ha) (Ex.one Ex1.brk)) (fun h1 => ?_)))), by rw [hap]; unfold fmT; walk_at "weak"⟩
          · rw [keyk, decide_eq_true_eq] at h0
            rw [hpk, if_pos h0, h1] at h; cases h
          · rw [keyk, decide_eq_false_iff_not] at h0
            rw [hpk, if_neg h0, h1] at h; cases h
      · intro _
        have ha : (sL outs).length ≤ sizeLine := lt_line (by simp; omega)
        have hap : ∀ y : Str, fmS i (outs ++ [y]) = ([("mode", .val (.int i)), ("perm", .own true (.list (sL outs ++ [.str y])))] : Sto) := fun y => by unfold fmS; rw [show sL (outs ++ [y]) = sL outs ++ [.str y] by simp]
        refine Ex.one (Ex1.iff (y := ((k : Int) == 0)) (by unfold fmT; walk_at "tr") (fun h0 => ?_) (fun h0 => ?_))
        · rw [keyk, decide_eq_true_eq] at h0
          rw [if_pos h0, hap]
          exact Ex.after (Ex.one (Ex1.append (by unfold fmT; walk_at "getd") (by walk_at "ev") ha)) (by unfold fmT; walk_at "weak")
        · rw [keyk, decide_eq_false_iff_not] at h0
          rw [if_neg h0, hap]
          exact Ex.after (Ex.one (Ex1.append (by unfold fmT; walk_at "getd") (by walk_at "ev") ha)) (by unfold fmT; walk_at "weak")
  · unfold fmS
    exact X.ret (Ev.join (by walk_at "ev") (by walk_at "ev") (join_ok10 (by rw [permOf_length]; decide) (fun x hx => Nat.le_trans (perm_len 0 modeTable table_len x hx) (by decide))))
end
section
variable {w : World} {n : Nat} {env : Env} {σ : Sto}
noncomputable abbrev iL (l : List Int) : List D := l.map D.int
noncomputable def baseCells : List Int := [297907, 32834, 16534, 34597, 18247, 42094]
noncomputable def cellsF : Nat → List Int → List Int → List Int
  | _, acc, [] => acc
  | k, acc, x :: r => cellsF (k + 1) (acc.set k ((acc[k]?.getD 0) + x % 76800000000)) r
theorem sp_cells {ns : List Int} (hn : ns.length ≤ 100) : Prim (cx w) 1 [.list (iL ns)] (fun vs => PySem.call (.ref 232) vs) (.list (iL (cellsF 0 baseCells (ns.take 6)))) := by
  refine Fn.prim' (by walk_at "fn") ["script"] [("script", .val (.list (iL ns)))] (by kernel_rfl) rfl (by kernel_rfl) (by kernel_rfl) (vs1 fun a => rfl) fun env hs => ?_
  conv => arg 5; whnf
  refine Ex.cons (Ex1.ownList (by walk_at "evs") (by walk_at "kind") (lt_line (by decide))) ?_
  refine Ex.cons (σ' := [("cells", .own false (.list (iL (cellsF 0 baseCells (ns.take 6)))))]) (Ex1.weak (σ₂ := [("script", .val (.list (iL ns))), ("cells", .own false (.list (iL baseCells)))]) (Ex1.forEnum (ds := (iL ns).take 6) (glob_enum.callee (by walk_at "kind") keep_ty) (Evs.cons (Ev.slice (i := none) (j := some (6 : Nat)) (by walk_at "ev") trivial (Ev.cint : Ev _ _ _ _ _ (.int (6 : Int))) (slice_l_to (lt_line (by simp; omega)))) Evs.nil) ⟨_, _, _, rfl⟩ ?_) ?_) ?_
  · have e : (iL ns).take 6 = iL (ns.take 6) := by simp [iL, List.map_take]
    rw [e]
    refine (?_ : ∀ (xs : List Int) (k : Nat) (acc : List Int), acc.length = 6 → k + xs.length ≤ 6 → Lp (cx w) 0 env _ _ _ (enumD k (iL xs)) [("script", .val (.list (iL ns))), ("cells", .own false (.list (iL acc)))] (.next [("cells", .own false (.list (iL (cellsF k acc xs))))])) (ns.take 6) 0 baseCells (by decide) (by simp; omega)
    intro xs
    induction xs with
    | nil =>
      intro k acc _ _
      exact Lp.nil (Ex.after Ex.nil (by rw [cellsF]; walk_at "weak"))
    | cons x r ih =>
      intro k acc hl hk
      simp only [List.length_cons] at hk
      have hget : acc[k]? = some (acc[k]?.getD 0) := by
        rw [List.getElem?_eq_getElem (by omega)]; rfl
      have hset : (iL acc).set ((k : Int)).toNat (.int ((acc[k]?.getD 0) + x % 76800000000)) = iL (acc.set k ((acc[k]?.getD 0) + x % 76800000000)) := by
        rw [Int.toNat_natCast]; simp [iL, List.map_set]
      refine Lp.next TgtOk.tup (Tg.tup (Tgs.cons (Tg.nameL (by walk_at "kind")) (Tgs.cons (Tg.nameL (by walk_at "kind")) Tgs.nil)) rfl)
        (Ex.one (Ex1.augList (k := (k : Int)) (by walk_at "getd") (by walk_at "ev") (by omega) (d₀ := .int (acc[k]?.getD 0)) (by rw [Int.toNat_natCast, List.getElem?_map, hget]; rfl) (lt_line (by simp; omega)) (by walk_at "ev") iadd_ii)) ?_ (ih (k + 1) _ (by simp; exact hl) (by omega))
      rw [hset]
      walk_at "weak"
  · change Weak _ [("script", .val (.list (iL ns))), ("cells", .own false (.list [.int 297907, .int 32834, .int 16534, .int 34597, .int 18247, .int 42094]))]
    walk_at "weak"
  · exact X.ret (by walk_at "ev")

noncomputable def dStep (b : List Str × Int) (p : Str × Int) : List Str × Int := (b.1 ++ [joinS ((b.1[(b.2 % p.2).toNat]?).getD slash) p.1], b.2 / p.2)
noncomputable def dRows : List (Str × Int) := [("p", 1), ("q", 2), ("r", 3), ("s", 4)]
noncomputable def digits : List Str := [48, 49, 50, 51, 52, 53, 54, 55].map fun k => ⟨#[k]⟩
noncomputable def eStep (fs : List Str) (b : List (Str × Str) × Int) (one : Str) : List (Str × Str) × Int := (dput b.1 one (joinS ((fs[(b.2 % 5).toNat]?).getD slash) one), b.2 / 5)
noncomputable def dFolders (num : Int) : List Str × Int := dRows.foldl dStep ([slash], num)
theorem joinS_len (a b : Str) : (joinS a b).length ≤ a.length + 1 + b.length := by
  unfold joinS
  have e : ∀ x y : Str, (x ++ y).length = x.length + y.length := fun x y => Array.size_append
  split
  · omega
  · split
    · rw [e]; omega
    · rw [e, e, slash_len]; omega
theorem mod_range {i j : Int} (hj : 0 < j) : 0 ≤ i % j ∧ i % j < j := ⟨Int.emod_nonneg _ (by omega), Int.emod_lt_of_pos _ hj⟩
theorem chars_digits : chars (Str.ofString "01234567") = sL digits := by kernel_rfl
noncomputable def dI (r : List (Str × Int)) (b : List Str × Int) : Prop := ∃ pre, pre ++ r = dRows ∧ b.1.length = pre.length + 1 ∧ ∀ f ∈ b.1, f.length ≤ 10 * b.1.length
theorem dRows_at : ∀ i : Nat, i < 4 → (dRows[i]?.getD ("", 0)).2 = (i : Int) + 1 ∧ (dRows[i]?.getD ("", 0)).1.length ≤ 1 := by decide +kernel
theorem dI_at {x : Str × Int} {r : List (Str × Int)} {b : List Str × Int} (h : dI (x :: r) b) : x.2 = (b.1.length : Int) ∧ x.1.length ≤ 1 ∧ b.1.length ≤ 4 := by
  obtain ⟨pre, h1, h2, _⟩ := h
  have hl : pre.length + (r.length + 1) = 4 := by
    have := congrArg List.length h1
    rw [List.length_append, List.length_cons] at this
    exact this
  have hg : dRows[pre.length]? = some x := by rw [← h1]; simp
  have hlt : pre.length < 4 := by omega
  obtain ⟨a1, a2⟩ := dRows_at pre.length hlt
  rw [hg] at a1 a2
  simp only [Option.getD_some] at a1 a2
  exact ⟨by rw [a1, h2]; omega, a2, by omega⟩
noncomputable def dStS (b : List Str × Int) : Sto := [("folders", .own true (.list (sL b.1))), ("number", .val (.int b.2))]
noncomputable def eS (fs : List Str) (b : List (Str × Str) × Int) : Sto := [("folders", .own true (.list (sL fs))), ("drawn", .own true (.dict b.1)), ("number", .val (.int b.2))]
noncomputable def dFinal (num : Int) : List (Str × Str) × Int := digits.foldl (eStep (dFolders num).1) ([], (dFolders num).2)
noncomputable def drawnOf (num : Int) : List (Str × Str) := (dFinal num).1
theorem chars_digits' : itemsOf (.str (Str.ofString "01234567")) = some (digits.map D.str) := congrArg some chars_digits
theorem dput_len (l : List (Str × Str)) (k x : Str) : (dput l k x).length ≤ l.length + 1 := by
  unfold dput
  split <;> simp
theorem dFolders_ok (num : Int) : (dFolders num).1.length = 5 ∧ ∀ f ∈ (dFolders num).1, f.length ≤ 50 := by
  have key : ∀ (r : List (Str × Int)) (b : List Str × Int), (∀ p ∈ r, p.1.length ≤ 1) → (∀ f ∈ b.1, f.length ≤ 10 * b.1.length) → (r.foldl dStep b).1.length = b.1.length + r.length ∧ ∀ f ∈ (r.foldl dStep b).1, f.length ≤ 10 * (r.foldl dStep b).1.length := by
    intro r
    induction r with
    | nil => intro b _ h; exact ⟨by simp, h⟩
    | cons p r ih =>
      intro b hp h
      have hp1 := hp p (.head _)
      have hg : ((b.1[(b.2 % p.2).toNat]?).getD slash).length ≤ 10 * b.1.length + 1 := by
        cases hq : b.1[(b.2 % p.2).toNat]? with
        | none => rw [Option.getD_none, slash_len]; omega
        | some f =>
          have := h f (List.mem_of_getElem? hq)
          rw [Option.getD_some]; omega
      have := ih (dStep b p) (fun q hq => hp q (.tail _ hq)) (fun f hf => by
        simp only [dStep, List.mem_append, List.mem_singleton, List.length_append, List.length_singleton] at hf ⊢
        rcases hf with hf | hf
        · have := h f hf; omega
        · rw [hf]
          have := joinS_len ((b.1[(b.2 % p.2).toNat]?).getD slash) p.1
          omega)
      rw [List.foldl_cons]
      refine ⟨?_, this.2⟩
      have e2 : (dStep b p).1.length = b.1.length + 1 := by simp [dStep]
      rw [this.1, e2, List.length_cons]
      omega
  have := key dRows ([slash], num) (by decide +kernel) (fun f hf => by rw [List.mem_singleton.mp hf]; exact (by decide +kernel : slash.length ≤ 10))
  have e : (dFolders num).1.length = 5 := by rw [dFolders.eq_1, this.1]; rfl
  refine ⟨e, fun f hf => ?_⟩
  rw [dFolders.eq_1] at hf e
  have := this.2 f hf
  omega
theorem sp_drawn {num : Int} : Prim (cx w) 3 [.int num] (fun vs => PySem.call (.ref 239) vs) (.dict (drawnOf num)) := by
  refine Fn.prim' (by walk_at "fn") ["number"] [("number", .val (.int num))] (by kernel_rfl) rfl (by kernel_rfl) (by kernel_rfl) (vs1 fun a => rfl) fun env hs => ?_
  conv => arg 5; whnf
  refine Ex.cons (Ex1.ownList (by walk_at "evs") (by walk_at "kind") (lt_line (by decide))) ?_
  with_reducible refine Ex.cons (σ' := dStS (dFolders num)) ?_ ?_
  · with_reducible refine Ex1.weak (σ₂ := dStS ([slash], num)) ?_ ?_
    · with_reducible refine Ex1.forIn (d := .list (dRows.map fun p => .tup [.str p.1, .int p.2])) (ds := dRows.map fun p => .tup [.str p.1, .int p.2]) ?_ ?_ ?_ ?_ ?_
      · change Ev _ _ _ _ _ (.list [.tup [.str (Str.ofString "p"), .int 1], .tup [.str (Str.ofString "q"), .int 2], .tup [.str (Str.ofString "r"), .int 3], .tup [.str (Str.ofString "s"), .int 4]])
        walk_at "ev"
      · rfl
      · rw [dFolders.eq_1 num]
        with_reducible refine Lp.folds TgtOk.tup (fun p : Str × Int => D.tup [.str p.1, .int p.2]) dStep dStS dI ?_ (fun b _ => Ex.nil) dRows ([slash], num) ?_
        · rintro ⟨name, many⟩ r ⟨fs, nu⟩ hI
          obtain ⟨a1, a2, a3⟩ := dI_at hI
          dsimp only at a1 a2 a3
          have hm : (0 : Int) < many := by
            obtain ⟨pre, h1, h2, h3⟩ := hI
            dsimp only at h2
            omega
          obtain ⟨m1, m2⟩ := mod_range (i := nu) hm
          have hlt : (nu % many).toNat < fs.length := by omega
          have hget : fs[(nu % many).toNat]? = some (fs[(nu % many).toNat]?.getD slash) := by rw [List.getElem?_eq_getElem hlt]; rfl
          have hmem : (fs[(nu % many).toNat]?.getD slash) ∈ fs := by rw [List.getElem?_eq_getElem hlt]; exact List.getElem_mem hlt
          obtain ⟨pre, h1, h2, h3⟩ := hI
          dsimp only at h2 h3
          have hlen := h3 _ hmem
          refine ⟨⟨pre ++ [(name, many)], by simpa using h1, by simp [dStep]; exact h2, fun f hf => ?_⟩, ?_⟩
          · simp only [dStep, List.mem_append, List.mem_singleton, List.length_append, List.length_singleton] at hf ⊢
            rcases hf with hf | hf
            · have := h3 f hf; omega
            · rw [hf]
              have := joinS_len (fs[(nu % many).toNat]?.getD slash) name
              omega
          · refine ⟨_, dStS (dStep (fs, nu) (name, many)), Tg.tup (ds := [.str name, .int many]) (Tgs.cons (Tg.nameL (by walk_at "kind")) (Tgs.cons (Tg.nameL (by walk_at "kind")) Tgs.nil)) rfl, ?_, fun _ _ e => ⟨_, e, .inl rfl⟩⟩
            unfold dStS
            refine Ex.cons (Ex1.append (by walk_at "getd") (Callee.ev glob_join (by walk_at "kind") keep_join (Evs.cons (Ev.subOwn (by walk_at "getd") (by walk_at "ev") m1 (by omega) (by rw [List.getElem?_map, hget]; rfl)) (Evs.cons (by walk_at "ev") Evs.nil)) (sp_join (by omega) (by omega))) (lt_line (by simp; omega))) (Ex.cons (Ex1.augL (by walk_at "getd") (by walk_at "ev") (idiv_ii hm (by omega)) (by walk_at "kind") (by kernel_rfl)) (Ex.nilW ?_))
            unfold dStep
            rw [show sL (fs ++ [joinS (fs[(nu % many).toNat]?.getD slash) name]) = sL fs ++ [.str (joinS (fs[(nu % many).toNat]?.getD slash) name)] by simp]
            walk_at "weak"
        · refine ⟨[], rfl, rfl, fun f hf => ?_⟩
          rw [List.mem_singleton.mp hf]
          exact (by decide +kernel : slash.length ≤ 10)
      · exact TgtOk.tup
      · intro _; rfl
    · unfold dStS
      rw [show sL [slash] = [.str slash] from rfl]
      walk_at "weak"
  refine Ex.cons (Ex1.ownDict (by walk_at "kind")) ?_
  obtain ⟨f1, f2⟩ := dFolders_ok num
  refine Ex.cons (σ' := eS (dFolders num).1 (dFinal num)) (Ex1.weak (σ₂ := eS (dFolders num).1 ([], (dFolders num).2)) (Ex1.forIn (ds := digits.map D.str) (by walk_at "ev") chars_digits' ?_ TgtOk.name) (by unfold dStS eS; walk_at "weak")) ?_
  · rw [dFinal.eq_1 num]
    refine Lp.folds TgtOk.name D.str (eStep (dFolders num).1) (eS (dFolders num).1) (fun r b => b.1.length + r.length ≤ 8 ∧ ∀ x ∈ r, x.length ≤ 1) ?_ (fun b _ => Ex.nil) digits ([], (dFolders num).2) ⟨(by decide : 0 + digits.length ≤ 8), by decide +kernel⟩
    rintro one r ⟨dr, nu⟩ ⟨hI, hone⟩
    obtain ⟨m1, m2⟩ := mod_range (i := nu) (j := 5) (by omega)
    have hlt : (nu % 5).toNat < (dFolders num).1.length := by omega
    have hget : (dFolders num).1[(nu % 5).toNat]? = some ((dFolders num).1[(nu % 5).toNat]?.getD slash) := by rw [List.getElem?_eq_getElem hlt]; rfl
    have hmem : ((dFolders num).1[(nu % 5).toNat]?.getD slash) ∈ (dFolders num).1 := by rw [List.getElem?_eq_getElem hlt]; exact List.getElem_mem hlt
    have hlen := f2 _ hmem
    have h1 := hone one (.head _)
    have hdl := dput_len dr one (joinS ((dFolders num).1[(nu % 5).toNat]?.getD slash) one)
    simp only [List.length_cons] at hI
    refine ⟨⟨by show (dput dr one (joinS ((dFolders num).1[(nu % 5).toNat]?.getD slash) one)).length + r.length ≤ 8; omega, fun x hx => hone x (.tail _ hx)⟩, _, eS (dFolders num).1 (eStep (dFolders num).1 (dr, nu) one), Tg.nameL (by walk_at "kind"), ?_, fun _ _ e => ⟨_, e, .inl rfl⟩⟩
    unfold eS
    refine Ex.cons (Ex1.setDict (by walk_at "getd") (Callee.ev glob_join (by walk_at "kind") keep_join (Evs.cons (Ev.subOwn (by walk_at "getd") (by walk_at "ev") m1 (by omega) (by rw [List.getElem?_map, hget]; rfl)) (Evs.cons (by walk_at "ev") Evs.nil)) (sp_join (by omega) (by omega))) (by walk_at "ev") (lt_line (show dr.length ≤ 10000 by omega)))
      (Ex.cons (Ex1.augL (by walk_at "getd") (by walk_at "ev") (idiv_ii (by omega) (by omega)) (by walk_at "kind") (by kernel_rfl)) (Ex.nilW ?_))
    unfold eStep
    walk_at "weak"
  · unfold eS drawnOf
    exact X.ret (by walk_at "ev")
end
section
variable {w : World} {n : Nat} {env : Env} {σ : Sto}
theorem glob_range : Glob (cx w) "range" (.type "range") := ⟨.inr ⟨by kernel_rfl, by kernel_rfl, by decide +kernel⟩, by kernel_rfl⟩
noncomputable def one1 (k : Nat) : Str := ⟨#[k]⟩
noncomputable def inS (x y : Str) : Bool := !(Builtin.Str.occurrences y x 0 y.length 1).isEmpty
noncomputable def rowOf (c : Nat → Nat) : Str := ⟨#[c 0, c 1, c 2, c 3, c 4, c 5, c 6, c 7, c 8, c 9]⟩
noncomputable def upF (c : Nat → Nat) (k : Nat) : Int := if inS (one1 (c (3 + 3 * k))) "sStT" then 2 ^ (2 - k) else 0
noncomputable def figF (c : Nat → Nat) (k : Nat) : Int := (if one1 (c (1 + 3 * k)) == Str.ofString "r" then 4 else 0) + (if one1 (c (2 + 3 * k)) == Str.ofString "w" then 2 else 0) + (if inS (one1 (c (3 + 3 * k))) "xst" then 1 else 0)
noncomputable def figStep (c : Nat → Nat) (figs : List Int) (k : Nat) : List Int := (figs.set 0 (figs[0]?.getD 0 + upF c k)).set (k + 1) (figF c k)
noncomputable def figs (c : Nat → Nat) : List Int := [0, 1, 2].foldl (figStep c) [0, 0, 0, 0]
noncomputable def octS (i : Int) : Str := ⟨#[48 + i.toNat]⟩
noncomputable def gS (row : Str) (figs : List Int) : Sto := [("row", .val (.str row)), ("figures", .own false (.list (iL figs)))]
theorem row_slice (c : Nat → Nat) (k : Nat) (hk : k < 3) : Txt.slice (rowOf c) (some (1 + 3 * (k : Int))) (some (4 + 3 * (k : Int))) = ⟨#[c (1 + 3 * k), c (2 + 3 * k), c (3 + 3 * k)]⟩ := by
  match k, hk with
  | 0, _ => rfl
  | 1, _ => rfl
  | 2, _ => rfl
theorem in_ss' {c : Cx} {x y : Str} : Prim c n [.str y, .str x] (two (compareOp .In)) (.bool (inS y x)) := in_ss
theorem bits2 : Builtin.Int.intBits 2 = 2 := by decide +kernel
theorem figStep_eq (c : Nat → Nat) (b : List Int) (k : Nat) (hk : k < 3) : iL (figStep c b k) = ((iL b).set (0 : Int).toNat (D.int (b[0]?.getD 0 + if inS (one1 (c (3 + 3 * k))) (Str.ofString "sStT") then 2 ^ (2 - (k : Int)).toNat else 0))).set ((k : Int) + 1).toNat (D.int (figF c k)) := by
  have e1 : (2 - (k : Int)).toNat = 2 - k := by omega
  have e2 : ((k : Int) + 1).toNat = k + 1 := by omega
  rw [e1, e2]
  simp only [figStep, iL, List.map_set, upF]
  rfl
theorem evo_some {c : Cx} {e : Expr} {i : Int} (x : Ev c n env σ e (.int i)) : EvO c n env σ (some e) (some i) := x
theorem dig_at : ∀ k : Nat, k < 8 → (Str.ofString "01234567").cps[k]? = some (48 + k) := by decide +kernel
theorem figs_ok (c : Nat → Nat) : (figs c).length = 4 ∧ ∀ i ∈ figs c, 0 ≤ i ∧ i < 8 := by
  have hu : ∀ k, k < 3 → upF c k = 0 ∨ upF c k = 2 ^ (2 - k) := fun k _ => by unfold upF; split <;> simp
  have hf : ∀ k, 0 ≤ figF c k ∧ figF c k < 8 := fun k => by unfold figF; split <;> split <;> split <;> decide
  have e : figs c = [0 + upF c 0 + upF c 1 + upF c 2, figF c 0, figF c 1, figF c 2] := by simp [figs, figStep]
  rw [e]
  refine ⟨rfl, fun i hi => ?_⟩
  simp only [List.mem_cons, List.not_mem_nil, or_false] at hi
  have h0 := hu 0 (by omega)
  have h1 := hu 1 (by omega)
  have h2 := hu 2 (by omega)
  simp only [Nat.sub_zero, Nat.reducePow, Nat.reduceSub, Int.reducePow] at h0 h1 h2
  rcases hi with hi | hi | hi | hi
  · omega
  · rw [hi]; exact hf 0
  · rw [hi]; exact hf 1
  · rw [hi]; exact hf 2
theorem sp_figures (c : Nat → Nat) : Prim (cx w) 1 [.str (rowOf c)] (fun vs => PySem.call (.ref 244) vs) (.list ((figs c).map fun i => .str (octS i))) := by
  refine Fn.prim' (by walk_at "fn") ["row"] [("row", .val (.str (rowOf c)))] (by kernel_rfl) rfl (by kernel_rfl) (by kernel_rfl) (vs1 fun a => rfl) fun env hs => ?_
  conv => arg 5; whnf
  refine Ex.cons (Ex1.ownList (by walk_at "evs") (by walk_at "kind") (lt_line (by decide))) ?_
  refine Ex.cons (σ' := gS (rowOf c) (figs c)) (Ex1.weak (σ₂ := gS (rowOf c) [0, 0, 0, 0]) (Ex1.forRange (k := 3) (glob_range.callee (by walk_at "kind") keep_ty) (Evs.cons Ev.cint Evs.nil) (by omega) TgtOk.name ?_) ?_) ?_
  · rw [show rangeD 3 = ([0, 1, 2] : List Nat).map (fun (k : Nat) => D.int (k : Int)) from rfl, figs.eq_1 c]
    refine Lp.folds TgtOk.name (fun k : Nat => D.int (k : Int)) (figStep c) (gS (rowOf c)) (fun r b => (∀ k ∈ r, k < 3) ∧ b.length = 4) ?_ (fun b _ => Ex.nil) [0, 1, 2] [0, 0, 0, 0] ⟨by decide, rfl⟩
    rintro k r b ⟨hI, hb⟩
    have hk := hI k (.head _)
    have hsz : (rowOf c).length ≤ sizeLine := lt_line (show 10 ≤ 10000 by omega)
    have hg0 : b[0]? = some (b[0]?.getD 0) := by rw [List.getElem?_eq_getElem (by omega)]; rfl
    refine ⟨⟨fun j hj => hI j (.tail _ hj), by simp [figStep]; exact hb⟩, _, gS (rowOf c) (figStep c b k), Tg.nameL (by walk_at "kind"), ?_, fun _ _ e => ⟨_, e, .inl rfl⟩⟩
    unfold gS
    refine Ex.cons (Ex1.assignTup (d := .str (Txt.slice (rowOf c) (some (1 + 3 * (k : Int))) (some (4 + 3 * (k : Int))))) (Ev.slice (by walk_at "ev") (evo_some (by walk_at "ev")) (evo_some (by walk_at "ev")) (slice_s hsz))
      (Tg.tup (ds := [.str (one1 (c (1 + 3 * k))), .str (one1 (c (2 + 3 * k))), .str (one1 (c (3 + 3 * k)))]) (Tgs.cons (Tg.nameL (by walk_at "kind")) (Tgs.cons (Tg.nameL (by walk_at "kind")) (Tgs.cons (Tg.nameL (by walk_at "kind")) Tgs.nil))) (by rw [row_slice c k hk]; rfl))) ?_
    refine Ex.cons (Ex1.augList (k := 0) (d₀ := .int (b[0]?.getD 0)) (by walk_at "getd") Ev.cint (by omega) (by show (iL b)[0]? = _; rw [List.getElem?_map, hg0]; rfl) (lt_line (by simp; omega)) (Ev.ifI (Tr.cmp (by walk_at "ev") (by walk_at "ev") in_ss') (fun _ => Ev.bin Ev.cint (by walk_at "ev") (pow_ii (by omega) ?_)) (fun _ => Ev.cint)) iadd_ii) ?_
    · rw [bits2]
      omega
    refine Ex.cons (Ex1.setList (d := .int (figF c k)) (k := (k : Int) + 1) (by walk_at "getd") (Ev.bin (Ev.bin (Ev.ifI (by walk_at "tr") (fun _ => Ev.cint) (fun _ => Ev.cint)) (Ev.ifI (by walk_at "tr") (fun _ => Ev.cint) (fun _ => Ev.cint)) add_ii) (Ev.ifI (Tr.cmp (by walk_at "ev") (by walk_at "ev") in_ss') (fun _ => Ev.cint) (fun _ => Ev.cint)) add_ii) (by walk_at "ev") (by omega) (by simp; omega) (lt_line (by simp; omega))) (Ex.nilW ?_)
    rw [figStep_eq c b k hk]
    walk_at "weak"
  · change Weak _ [("row", .val (.str (rowOf c))), ("figures", .own false (.list [.int 0, .int 0, .int 0, .int 0]))]
    walk_at "weak"
  · unfold gS
    have hf := figs_ok c
    refine X.ret (Ev.lcA D.int (fun i => D.str (octS i)) (figs c) [] (by walk_at "ev") rfl (CompOk.of rfl (by kernel_rfl) (by kernel_rfl) .nil) TgtOk.name (lt_line (by rw [hf.1]; omega)) fun C i hi => ⟨_, Tg.nameL (by walk_at "kind"), weak_put rfl, ?_⟩)
    have h8 := hf.2 i hi
    refine Ev.sub Ev.cstr (by walk_at "ev") (get_si (k := 48 + i.toNat) h8.1 (by omega) ?_)
    exact dig_at i.toNat (by omega)
end
section
variable {w : World} {n : Nat} {env : Env} {σ : Sto}
structure Wish where
  one : Str
  two : Str
  three : Str
  four : Str
noncomputable def wishD (q : Wish) : D := .list (sL [q.one, q.two, q.three, q.four])
noncomputable def wishesD (ws : List Wish) : D := .list (ws.map wishD)
noncomputable def upd (μ : Str → Str) (one other : Str) : Str → Str := fun x => if μ x = μ other then μ one else μ x
noncomputable def others (μ : Str → Str) (q : Wish) : List Str := if μ q.three == μ q.four then [q.two, q.three] else [q.two]
noncomputable def stepM (one : Str) (b : (Str → Str) × Bool) (o : Str) : (Str → Str) × Bool := (upd b.1 one o, b.2 || b.1 o != b.1 one)
noncomputable def rowM (b : (Str → Str) × Bool) (q : Wish) : (Str → Str) × Bool := (others b.1 q).foldl (stepM q.one) b
noncomputable def roundM (ws : List Wish) (μ : Str → Str) : (Str → Str) × Bool := ws.foldl rowM (μ, false)
noncomputable def loopM (ws : List Wish) : Nat → (Str → Str) → Str → Str
  | 0, μ => μ
  | k + 1, μ => if (roundM ws μ).2 = true then loopM ws k (roundM ws μ).1 else (roundM ws μ).1
noncomputable def Within (files : List Str) (ws : List Wish) : Prop := ∀ q ∈ ws, q.one ∈ files ∧ q.two ∈ files ∧ q.three ∈ files ∧ q.four ∈ files
noncomputable def mS (files : List Str) (ws : List Wish) (mg : Bool) (μ : Str → Str) : Sto := [("files", .val (.list (sL files))), ("wishes", .val (wishesD ws)), ("merged", .val (.bool mg)), ("marks", .cel (some (.dict (tabM files μ)))), ("old", .cel none), ("new", .cel none)]
noncomputable def Inv (files : List Str) (μ : Str → Str) : Prop := ∀ x ∈ files, μ x ∈ files ∧ μ (μ x) = μ x
noncomputable def meas (files : List Str) (μ : Str → Str) : Nat := (files.filter fun x => μ x == x).length
theorem filter_lt {α : Type} {p q : α → Bool} : ∀ {l : List α} {a : α}, (∀ x ∈ l, p x = true → q x = true) → a ∈ l → q a = true → p a = false → (l.filter p).length < (l.filter q).length
  | x :: r, a, h, hm, hq, hp => by
    have hr := fun y hy => h y (List.mem_cons_of_mem _ hy)
    have hle : ∀ l : List α, (∀ x ∈ l, p x = true → q x = true) → (l.filter p).length ≤ (l.filter q).length := by
      intro l
      induction l with
      | nil => intro _; simp
      | cons y t ih =>
        intro hh
        have := ih fun z hz => hh z (.tail _ hz)
        have hy := hh y (.head _)
        cases hpy : p y with
        | true =>
          rw [List.filter_cons_of_pos hpy, List.filter_cons_of_pos (hy hpy)]
          simp only [List.length_cons]
          omega
        | false =>
          rw [List.filter_cons_of_neg (by simp [hpy])]
          rw [List.filter_cons]
          split
          · simp only [List.length_cons]; omega
          · exact this
    rcases List.mem_cons.mp hm with e | e
    · subst e
      rw [List.filter_cons_of_neg (by simp [hp]), List.filter_cons_of_pos hq]
      have := hle r hr
      simp only [List.length_cons]
      omega
    · have ih := filter_lt hr e hq hp
      have hx := h x (.head _)
      cases hpy : p x with
      | true =>
        rw [List.filter_cons_of_pos hpy, List.filter_cons_of_pos (hx hpy)]
        simp only [List.length_cons]
        omega
      | false =>
        rw [List.filter_cons_of_neg (by simp [hpy]), List.filter_cons]
        split
        · simp only [List.length_cons]; omega
        · exact ih
theorem upd_inv {files : List Str} {μ : Str → Str} {one other : Str} (h : Inv files μ) (h1 : one ∈ files) : Inv files (upd μ one other) := by
  intro x hx
  obtain ⟨a1, a2⟩ := h x hx
  obtain ⟨b1, b2⟩ := h one h1
  unfold upd
  by_cases e : μ x = μ other
  · simp only [if_pos e]
    refine ⟨b1, ?_⟩
    rw [b2]
    split <;> rfl
  · simp only [if_neg e]
    refine ⟨a1, ?_⟩
    rw [a2, if_neg e]
theorem upd_same {μ : Str → Str} {one other : Str} (h : μ other = μ one) : upd μ one other = μ := by
  funext x
  unfold upd
  split
  · rename_i e; rw [e, h]
  · rfl
theorem upd_meas {files : List Str} {μ : Str → Str} {one other : Str} (h : Inv files μ) (h1 : one ∈ files) (h2 : other ∈ files) (hne : μ other ≠ μ one) : meas files (upd μ one other) < meas files μ := by
  obtain ⟨b1, b2⟩ := h one h1
  obtain ⟨c1, c2⟩ := h other h2
  refine filter_lt (a := μ other) (fun x hx hp => ?_) c1 (by simpa using c2) ?_
  · simp only [upd, beq_iff_eq] at hp ⊢
    split at hp
    · rename_i e
      rw [← hp, b2] at e
      exact absurd e.symm hne
    · exact hp
  · simp only [upd, beq_eq_false_iff_ne, ne_eq]
    rw [if_pos c2]
    exact fun e => hne e.symm
noncomputable def MI (files : List Str) (M : Nat) (b : (Str → Str) × Bool) : Prop := Inv files b.1 ∧ meas files b.1 ≤ M ∧ (b.2 = true → meas files b.1 < M)
theorem step_MI {files : List Str} {M : Nat} {b : (Str → Str) × Bool} {one o : Str} (h : MI files M b) (h1 : one ∈ files) (h2 : o ∈ files) : MI files M (stepM one b o) := by
  obtain ⟨a1, a2, a3⟩ := h
  refine ⟨upd_inv a1 h1, ?_, ?_⟩
  · by_cases e : b.1 o = b.1 one
    · show meas files (upd b.1 one o) ≤ M
      rw [upd_same e]; exact a2
    · have := upd_meas a1 h1 h2 e
      show meas files (upd b.1 one o) ≤ M
      omega
  · intro hb
    by_cases e : b.1 o = b.1 one
    · have : b.2 = true := by simpa [stepM, e] using hb
      show meas files (upd b.1 one o) < M
      rw [upd_same e]; exact a3 this
    · have := upd_meas a1 h1 h2 e
      show meas files (upd b.1 one o) < M
      omega
theorem others_in {files : List Str} {ws : List Wish} {q : Wish} {μ : Str → Str} (hin : Within files ws) (hq : q ∈ ws) : ∀ o ∈ others μ q, o ∈ files := by
  obtain ⟨a, b, c, d⟩ := hin q hq
  intro o ho
  unfold others at ho
  split at ho
  · simp only [List.mem_cons, List.not_mem_nil, or_false] at ho
    rcases ho with rfl | rfl
    · exact b
    · exact c
  · rw [List.mem_singleton.mp ho]; exact b
theorem steps_MI {files : List Str} {M : Nat} {one : Str} (h1 : one ∈ files) : ∀ (l : List Str) (b : (Str → Str) × Bool), (∀ o ∈ l, o ∈ files) → MI files M b → MI files M (l.foldl (stepM one) b)
  | [], b, _, h => h
  | o :: r, b, hl, h => steps_MI h1 r _ (fun y hy => hl y (.tail _ hy)) (step_MI h h1 (hl o (.head _)))
theorem row_MI {files : List Str} {ws : List Wish} {M : Nat} {b : (Str → Str) × Bool} {q : Wish} (hin : Within files ws) (hq : q ∈ ws) (h : MI files M b) : MI files M (rowM b q) :=
  steps_MI (hin q hq).1 _ _ (others_in hin hq) h
theorem round_MI {files : List Str} {M : Nat} : ∀ (ws : List Wish) (b : (Str → Str) × Bool), Within files ws → MI files M b → MI files M (ws.foldl rowM b)
  | [], b, _, h => h
  | q :: r, b, hin, h => round_MI r _ (fun p hp => hin p (.tail _ hp)) (row_MI hin (.head _) h)
noncomputable def iS (files : List Str) (ws : List Wish) (q : Wish) (b : (Str → Str) × Bool) : Sto := [("files", .val (.list (sL files))), ("wishes", .val (wishesD ws)), ("one", .val (.str q.one)), ("two", .val (.str q.two)), ("three", .val (.str q.three)), ("four", .val (.str q.four)), ("merged", .val (.bool b.2)), ("marks", .cel (some (.dict (tabM files b.1)))), ("old", .cel none), ("new", .cel none)]
theorem sp_marks {files : List Str} {ws : List Wish} (hf : files.Nodup) (hl : files.length ≤ 9) (hw : ws.length ≤ 10) (hin : Within files ws) : Prim (cx w) 1 [.list (sL files), wishesD ws] (fun vs => PySem.call (.ref 249) vs) (.dict (tabM files (loopM ws 10 fun x => x))) := by
  refine Fn.prim' (by walk_at "fn") ["files", "wishes"] [("files", .val (.list (sL files))), ("wishes", .val (wishesD ws)), ("marks", .cel none), ("old", .cel none), ("new", .cel none)] (by kernel_rfl) rfl (by kernel_rfl) (by kernel_rfl) (vs2 fun a b => rfl) fun env hs => ?_
  conv => arg 5; whnf
  have hfs : (sL files).length ≤ sizeLine := lt_line (by simp; omega)
  refine X.assignC (Ev.dc (fun x => x) files [] (by walk_at "ev") rfl (CompOk.of rfl (by kernel_rfl) (by kernel_rfl) .nil) TgtOk.name (lt_line (by omega)) hf fun C x hx => ⟨_, Tg.nameL (by walk_at "kind"), weak_put rfl, by walk_at "ev", by walk_at "ev"⟩) (by walk_at "getd") ?_ (swaps_cellD hs (by kernel_rfl))
  refine X.assign (by walk_at "ev") (by walk_at "kind") ?_
  refine Ex.weak (σ₂ := mS files ws true fun x => x) ?_ (by unfold mS; walk_at "weak")
  refine Ex.cons (σ' := mS files ws false (loopM ws 10 fun x => x)) (Ex1.whil ?_) ?_
  · refine (?_ : ∀ (k : Nat) (μ : Str → Str), Inv files μ → meas files μ ≤ k → Wh (cx w) 0 env _ _ _ (mS files ws true μ) (.next (mS files ws false (loopM ws (k + 1) μ)))) 9 (fun x => x) (fun x hx => ⟨hx, rfl⟩) (by unfold meas; exact Nat.le_trans (List.length_filter_le _ _) (by omega))
    intro k
    induction k using Nat.strongRecOn with
    | ind k ih =>
      intro μ hI hm
      have hR : MI files (meas files μ) (roundM ws μ) := round_MI ws (μ, false) hin ⟨hI, Nat.le_refl _, fun e => by cases e⟩
      refine Wh.next (σ₂ := mS files ws (roundM ws μ).2 (roundM ws μ).1) (σ₃ := mS files ws (roundM ws μ).2 (roundM ws μ).1) (Tr.nameB (by unfold mS; walk_at "ev")) ?_ (fun _ _ e => ⟨_, e, .inl rfl⟩) ?_
      · refine X.assign (by walk_at "ev") (by walk_at "kind") (Ex.weak (σ₂ := mS files ws false μ) (Ex.one (Ex1.forIn (ds := ws.map wishD) (by unfold mS wishesD; walk_at "ev") rfl ?_ TgtOk.tup)) (by unfold mS; walk_at "weak"))
        rw [roundM]
        refine Lp.folds TgtOk.tup wishD rowM (fun b => mS files ws b.2 b.1) (fun r b => (∀ q ∈ r, q ∈ ws) ∧ MI files (meas files μ) b) ?_ (fun b _ => Ex.nil) ws (μ, false) ⟨fun q hq => hq, ⟨hI, Nat.le_refl _, fun e => by cases e⟩⟩
        rintro q r b ⟨hq, hb⟩
        have hqw := hq q (.head _)
        obtain ⟨q1, q2, q3, q4⟩ := hin q hqw
        refine ⟨⟨fun p hp => hq p (.tail _ hp), row_MI hin hqw hb⟩, _, mS files ws (rowM b q).2 (rowM b q).1, Tg.tup (ds := [.str q.one, .str q.two, .str q.three, .str q.four]) (Tgs.cons (Tg.nameL (by walk_at "kind")) (Tgs.cons (Tg.nameL (by walk_at "kind")) (Tgs.cons (Tg.nameL (by walk_at "kind")) (Tgs.cons (Tg.nameL (by walk_at "kind")) Tgs.nil)))) rfl, ?_, fun _ _ e => ⟨_, e, .inl rfl⟩⟩
        refine Ex.weak (σ₂ := iS files ws q b) ?_ (by unfold mS iS; walk_at "weak")
        refine Ex.cons (σ' := iS files ws q (rowM b q)) (Ex1.forIn (d := .list (sL (others b.1 q))) (ds := (others b.1 q).map D.str) ?_ rfl ?_ TgtOk.name) (Ex.nilW (by unfold mS iS; walk_at "weak"))
        · unfold iS
          refine Ev.ifexp (x := (b.1 q.three == b.1 q.four)) (Tr.cmp (Ev.sub (by walk_at "ev") (by walk_at "ev") (get_ds (dget_tab q3))) (Ev.sub (by walk_at "ev") (by walk_at "ev") (get_ds (dget_tab q4))) eq_ss) (fun e => ?_) (fun e => ?_)
          · rw [others, if_pos e]
            show Ev _ _ _ _ _ (.list [.str q.two, .str q.three])
            exact Ev.list (by walk_at "evs") (lt_line (by show 2 ≤ 10000; omega))
          · rw [others, if_neg (ne_true_of_eq_false e)]
            show Ev _ _ _ _ _ (.list [.str q.two])
            exact Ev.list (by walk_at "evs") (lt_line (by show 1 ≤ 10000; omega))
        · rw [rowM]
          refine Lp.folds TgtOk.name D.str (stepM q.one) (iS files ws q) (fun r b => (∀ o ∈ r, o ∈ files) ∧ MI files (meas files μ) b) ?_ (fun b _ => Ex.nil) (others b.1 q) b ⟨others_in hin hqw, hb⟩
          rintro o r b' ⟨ho, hb'⟩
          have ho1 := ho o (.head _)
          refine ⟨⟨fun p hp => ho p (.tail _ hp), step_MI hb' q1 ho1⟩, _, iS files ws q (stepM q.one b' o), Tg.nameL (by walk_at "kind"), ?_, fun _ _ e => ⟨_, e, .inl rfl⟩⟩
          unfold iS
          refine X.assignC (Ev.sub (by walk_at "ev") (by walk_at "ev") (get_ds (dget_tab ho1))) (by walk_at "getd") ?_
          refine X.assignC (Ev.sub (by walk_at "ev") (by walk_at "ev") (get_ds (dget_tab q1))) (by walk_at "getd") ?_
          refine Ex.one (Ex1.iff (y := (b'.1 o != b'.1 q.one)) (by walk_at "tr") (fun e => ?_) (fun e => ?_))
          · refine X.assignC (Ev.dc (upd b'.1 q.one o) files [("marks", .dict (tabM files b'.1)), ("new", .str (b'.1 q.one)), ("old", .str (b'.1 o))] (by walk_at "ev") rfl (CompOk.of rfl (by kernel_rfl) rfl (.cel (by walk_at "getd") (.cel (by walk_at "getd") (.cel (by walk_at "getd") .nil)))) TgtOk.name (lt_line (by omega)) hf fun C x hx => ⟨_, Tg.nameL (by walk_at "kind"), weak_put (by rfl), by walk_at "ev", ?_⟩) (by walk_at "getd") ?_ (swaps_cellD hs (by kernel_rfl))
            · refine Ev.ifexp (x := (b'.1 x == b'.1 o)) (Tr.cmp (Ev.sub (by walk_at "ev") (by walk_at "ev") (get_ds (dget_tab hx))) (by walk_at "ev") eq_ss) (fun e1 => ?_) (fun e1 => ?_)
              · rw [show upd b'.1 q.one o x = b'.1 q.one from if_pos (by simpa using e1)]
                walk_at "ev"
              · rw [show upd b'.1 q.one o x = b'.1 x from if_neg (by simpa using e1)]
                exact Ev.sub (by walk_at "ev") (by walk_at "ev") (get_ds (dget_tab hx))
            · refine X.assign (by walk_at "ev") (by walk_at "kind") (Ex.nilW ?_)
              have e2 : (stepM q.one b' o).2 = true := by show (b'.2 || b'.1 o != b'.1 q.one) = true; rw [e]; simp
              rw [e2]
              unfold stepM
              walk_at "weak"
          · refine Ex.nilW ?_
            have e1 : b'.1 o = b'.1 q.one := by simpa using e
            have e2 : stepM q.one b' o = b' := by
              unfold stepM
              rw [upd_same e1, e]
              simp
            rw [e2]
            walk_at "weak"
      · cases hc : (roundM ws μ).2 with
        | false =>
          have e : loopM ws (k + 1) μ = (roundM ws μ).1 := by rw [loopM, if_neg (by rw [hc]; simp)]
          rw [e]
          exact Wh.stop (Tr.nameB (by unfold mS; walk_at "ev")) (Ex.nilW (by unfold mS; walk_at "weak"))
        | true =>
          have hlt := hR.2.2 hc
          have e : loopM ws (k + 1) μ = loopM ws k (roundM ws μ).1 := by rw [loopM, if_pos hc]
          rw [e]
          obtain ⟨k', rfl⟩ : ∃ k', k = k' + 1 := ⟨k - 1, by omega⟩
          exact ih k' (by omega) _ hR.1 (by omega)
  · unfold mS
    exact X.ret (by walk_at "ev")
end
section
variable {w : World} {n : Nat} {env : Env} {σ : Sto}
theorem glob_marks : Glob (cx w) "_law_marks" (.ref 249) := ⟨.inl (by kernel_rfl), by kernel_rfl⟩
theorem keep_marks : KeepF (cx w) (.ref 249) := .inl (by kernel_rfl)
theorem glob_grow : Glob (cx w) "_law_grow" (.ref 254) := ⟨.inl (by kernel_rfl), by kernel_rfl⟩
theorem keep_grow : KeepF (cx w) (.ref 254) := .inl (by kernel_rfl)
theorem glob_filter : Glob (cx w) "_filter" (.ref 178) := ⟨.inl (by kernel_rfl), by kernel_rfl⟩
theorem keep_filter : KeepF (cx w) (.ref 178) := .inl (by kernel_rfl)
/-- what is asked of _filter -/
noncomputable def FilterOk (w : World) : Prop := ∀ xs ys : List Str, xs.length ≤ 100 → ys.length ≤ 100 → Prim (cx w) 10 [.list (sL xs), .list (sL ys)] (fun vs => PySem.call (.ref 178) vs) (.list (sL (xs.filter fun x => !ys.contains x)))
noncomputable def wishL (q : Wish) : List Str := [q.one, q.two, q.three, q.four]
noncomputable def placeOf (folder : Str) (block : List Str) : Str := if block.length = 1 then folder else joinS folder (Txt.join (Str.ofString "") block)
noncomputable def innerOf (ws : List Wish) (block : List Str) : List Wish := ws.filter fun q => ((wishL q).filter fun x => !block.contains x).isEmpty
noncomputable def blockOf (μ : Str → Str) (l : List Str) : List Str := match l with
  | [] => []
  | a :: r => (a :: r).filter fun x => μ x == μ a
noncomputable def putAll (block : List Str) (below g : List (Str × Str)) : List (Str × Str) := block.foldl (fun g o => dput g o ((dget below o).getD slash)) g
noncomputable def growLoop (rec : Str → List Str → List Wish → List (Str × Str)) (μ : Str → Str) (folder : Str) (files : List Str) (ws : List Wish) : Nat → List Str → List (Str × Str) → Option (List (Str × Str))
  | _, [], g => some g
  | 0, _ :: _, _ => none
  | k + 1, a :: r, g =>
    if blockOf μ (a :: r) = files then none
    else if rec (placeOf folder (blockOf μ (a :: r))) (blockOf μ (a :: r)) (innerOf ws (blockOf μ (a :: r))) = [] then none
    else growLoop rec μ folder files ws k ((a :: r).filter fun x => !(blockOf μ (a :: r)).contains x) (putAll (blockOf μ (a :: r)) (rec (placeOf folder (blockOf μ (a :: r))) (blockOf μ (a :: r)) (innerOf ws (blockOf μ (a :: r)))) g)
noncomputable def growOf : Nat → Str → List Str → List Wish → List (Str × Str)
  | 0, _, _, _ => []
  | n + 1, folder, files, ws => if files.length = 1 then (if ws.isEmpty then [(files.head?.getD slash, joinS folder (files.head?.getD slash))] else [])
    else (growLoop (growOf n) (loopM ws 10 fun x => x) folder files ws files.length files []).getD []
theorem blockOf_sub {μ : Str → Str} {l : List Str} : List.Sublist (blockOf μ l) l := by
  cases l with
  | nil => exact List.Sublist.refl _
  | cons a r => exact List.filter_sublist
theorem blockOf_head {μ : Str → Str} {a : Str} {r : List Str} : a ∈ blockOf μ (a :: r) := List.mem_filter.mpr ⟨.head _, by simp⟩
theorem dget_dput_self (l : List (Str × Str)) (k x : Str) : (dget (dput l k x) k).isSome = true := by
  unfold dput
  split
  · rename_i h
    unfold dget
    rw [Option.isSome_map]
    obtain ⟨p, hp, hk⟩ := List.any_eq_true.mp h
    rw [List.find?_isSome]
    refine ⟨(p.1, x), List.mem_map.mpr ⟨p, hp, if_pos (by simpa using hk)⟩, hk⟩
  · unfold dget
    rw [Option.isSome_map, List.find?_isSome]
    exact ⟨(k, x), by simp, by simp⟩
theorem dget_isSome {l : List (Str × Str)} {k : Str} : (dget l k).isSome = true ↔ k ∈ l.map (·.1) := by
  unfold dget
  rw [Option.isSome_map, List.find?_isSome, List.mem_map]
  constructor
  · rintro ⟨p, hp, hk⟩; exact ⟨p, hp, by simpa using hk⟩
  · rintro ⟨p, hp, hk⟩; exact ⟨p, hp, by simpa using hk⟩
theorem dput_keys {l : List (Str × Str)} {k x y : Str} : y ∈ (dput l k x).map (·.1) ↔ y ∈ l.map (·.1) ∨ y = k := by
  unfold dput
  split
  · rename_i h
    rw [List.map_map]
    have e : (fun p : Str × Str => p.1) ∘ (fun p => if p.1 = k then (p.1, x) else p) = fun p => p.1 := by
      funext p
      simp only [Function.comp]
      split <;> rfl
    rw [e]
    refine ⟨.inl, fun q => q.elim id fun q => ?_⟩
    obtain ⟨p, hp, hk⟩ := List.any_eq_true.mp h
    rw [q]
    exact List.mem_map.mpr ⟨p, hp, by simpa using hk⟩
  · simp
theorem putAll_keys {below : List (Str × Str)} {y : Str} : ∀ (block : List Str) (g : List (Str × Str)), y ∈ (putAll block below g).map (·.1) ↔ y ∈ g.map (·.1) ∨ y ∈ block
  | [], g => by simp [putAll]
  | o :: r, g => by
    have := putAll_keys (below := below) (y := y) r (dput g o ((dget below o).getD slash))
    unfold putAll at this ⊢
    rw [List.foldl_cons, this, dput_keys]
    simp only [List.mem_cons]
    constructor
    · rintro ((h | h) | h) <;> simp [h]
    · rintro (h | h | h) <;> simp [h]
theorem growLoop_keys {rec : Str → List Str → List Wish → List (Str × Str)} {μ : Str → Str} {folder : Str} {files : List Str} {ws : List Wish} : ∀ (k : Nat) (left : List Str) (g g' : List (Str × Str)), growLoop rec μ folder files ws k left g = some g' → ∀ y, (y ∈ g.map (·.1) ∨ y ∈ left) → y ∈ g'.map (·.1)
  | _, [], g, g', e, y, h => by
    simp only [growLoop, Option.some.injEq] at e
    rw [← e]
    exact h.elim id fun q => by cases q
  | 0, a :: r, g, g', e, y, h => by simp [growLoop] at e
  | k + 1, a :: r, g, g', e, y, h => by
    rw [growLoop] at e
    split at e
    · cases e
    · split at e
      · cases e
      · refine growLoop_keys k _ _ g' e y ?_
        rw [putAll_keys]
        by_cases hb : y ∈ blockOf μ (a :: r)
        · exact .inl (.inr hb)
        · rcases h with h | h
          · exact .inl (.inl h)
          · exact .inr (List.mem_filter.mpr ⟨h, by simpa using hb⟩)
theorem growOf_keys {n : Nat} {folder : Str} {files : List Str} {ws : List Wish} (h : growOf n folder files ws ≠ []) : ∀ y ∈ files, y ∈ (growOf n folder files ws).map (·.1) := by
  cases n with
  | zero => exact absurd rfl h
  | succ n =>
    unfold growOf at h ⊢
    split
    · rename_i h1
      rw [if_pos h1] at h
      intro y hy
      by_cases h2 : ws.isEmpty = true
      · rw [if_pos h2]
        match files, h1 with
        | [f], _ =>
          rw [List.mem_singleton.mp hy]
          simp
      · rw [if_neg h2] at h
        exact absurd rfl h
    · rename_i h1
      rw [if_neg h1] at h
      intro y hy
      cases e : growLoop (growOf n) (loopM ws 10 fun x => x) folder files ws files.length files [] with
      | none => rw [e] at h; exact absurd rfl h
      | some g => exact growLoop_keys _ _ _ _ e y (.inr hy)
end
section
variable {w : World} {n : Nat} {env : Env} {σ : Sto}
noncomputable def gA (folder : Str) (files : List Str) (ws : List Wish) (left : List Str) (g : List (Str × Str)) : Sto := [("folder", .val (.str folder)), ("files", .val (.list (sL files))), ("wishes", .val (wishesD ws)), ("marks", .cel (some (.dict (tabM files (loopM ws 10 fun x => x))))), ("left", .cel (some (.list (sL left)))), ("block", .cel none), ("grown", .own true (.dict g))]
theorem join_empty_len (l : List Str) (h : ∀ x ∈ l, x.length ≤ 1) : (Txt.join (Str.ofString "") l).length ≤ l.length := by
  show (Builtin.Str.glued (Str.ofString "") l).length ≤ _
  rw [StrLaws.glued_eq_join]
  have h0 := PySem.StrLaws.join_length_le (Str.ofString "") l
  have e : (Str.ofString "").length = 0 := by kernel_rfl
  rw [e, Nat.mul_zero, Nat.add_zero] at h0
  refine Nat.le_trans h0 ?_
  clear h0
  induction l with
  | nil => simp
  | cons x r ih =>
    rw [List.map_cons, List.sum_cons, List.length_cons]
    have := ih fun y hy => h y (.tail _ hy)
    have := h x (.head _)
    omega
theorem inner_length (ws : List Wish) (block : List Str) : (innerOf ws block).length ≤ ws.length := List.length_filter_le _ _
theorem inner_within (ws : List Wish) (block : List Str) : Within block (innerOf ws block) := by
  intro q hq
  have := (List.mem_filter.mp hq).2
  rw [List.isEmpty_iff, List.filter_eq_nil_iff] at this
  have h := fun x (hx : x ∈ wishL q) => by
    have := this x hx
    simpa using this
  exact ⟨h _ (by simp [wishL]), h _ (by simp [wishL]), h _ (by simp [wishL]), h _ (by simp [wishL])⟩
noncomputable def ouG (folder : Str) (files : List Str) (ws : List Wish) : Option (List (Str × Str)) → Out
  | none => .ret (.dict [])
  | some g => .next (gA folder files ws [] g)
theorem putAll_len {below : List (Str × Str)} : ∀ (block : List Str) (g : List (Str × Str)), (putAll block below g).length ≤ g.length + block.length
  | [], g => by simp [putAll]
  | o :: r, g => by
    have h1 := putAll_len (below := below) r (dput g o ((dget below o).getD slash))
    have h2 := dput_len g o ((dget below o).getD slash)
    unfold putAll at h1 ⊢
    rw [List.foldl_cons, List.length_cons]
    omega
theorem filter_len {block left : List Str} (h : List.Sublist block left) (hn : left.Nodup) : (left.filter fun x => !block.contains x).length + block.length ≤ left.length := by
  clear hn
  have mono : ∀ (p q : Str → Bool) (l : List Str), (∀ x, p x = true → q x = true) → (l.filter p).length ≤ (l.filter q).length := by
    intro p q l hh
    induction l with
    | nil => simp
    | cons y t ih =>
      rw [List.filter_cons, List.filter_cons]
      cases hpy : p y with
      | true =>
        rw [hh y hpy]
        simp only [if_true, List.length_cons]
        omega
      | false =>
        simp only [Bool.false_eq_true, if_false]
        split
        · simp only [List.length_cons]; omega
        · exact ih
  induction h with
  | slnil => simp
  | cons a h ih =>
    rename_i l₁ l₂
    rw [List.filter_cons, List.length_cons]
    split
    · simp only [List.length_cons]; omega
    · omega
  | cons_cons a h ih =>
    rename_i l₁ l₂
    rw [List.filter_cons, if_neg (by simp), List.length_cons, List.length_cons]
    have := mono (fun x => !(a :: l₁).contains x) (fun x => !l₁.contains x) l₂ (fun x hx => by
      simp only [List.contains_cons, Bool.not_or, Bool.and_eq_true] at hx
      exact hx.2)
    omega
noncomputable def gL (folder : Str) (files : List Str) (ws : List Wish) (left block : List Str) (below g : List (Str × Str)) : Sto := [("folder", .val (.str folder)), ("files", .val (.list (sL files))), ("wishes", .val (wishesD ws)), ("marks", .cel (some (.dict (tabM files (loopM ws 10 fun x => x))))), ("left", .cel (some (.list (sL left)))), ("block", .cel (some (.list (sL block)))), ("below", .val (.dict below)), ("grown", .own true (.dict g))]
theorem sp_grow (hfil : FilterOk w) : ∀ (n : Nat) (folder : Str) (files : List Str) (ws : List Wish), files.Nodup → files ≠ [] → files.length ≤ n → files.length ≤ 9 → (∀ f ∈ files, f.length ≤ 1) → Within files ws → ws.length ≤ 10 → folder.length + 20 * n ≤ 900 →
    Prim (cx w) (n + 12) [.str folder, .list (sL files), wishesD ws] (fun vs => PySem.call (.ref 254) vs) (.dict (growOf n folder files ws)) := by
  intro n
  induction n with
  | zero =>
    intro folder files ws _ hne hl
    exact absurd (List.length_eq_zero_iff.mp (Nat.le_zero.mp hl)) hne
  | succ n ih =>
    intro folder files ws hf hne hl hl9 h1 hin hw hfo
    refine Fn.prim' (by walk_at "fn") ["folder", "files", "wishes"] [("folder", .val (.str folder)), ("files", .val (.list (sL files))), ("wishes", .val (wishesD ws)), ("marks", .cel none), ("left", .cel none), ("block", .cel none)] (by kernel_rfl) rfl (by kernel_rfl) (by kernel_rfl) (vs3 fun a b c => rfl) fun env hs => ?_
    conv => arg 5; whnf
    have hlen : Prim (cx w) (n + 12) [.list (sL files)] (fun vs => PySem.call (.builtin "len") vs) (.int files.length) := len_D (by simp) (lt_line (by omega))
    by_cases hc : files.length = 1
    · obtain ⟨f, rfl⟩ : ∃ f, files = [f] := by
        match files, hc with
        | [f], _ => exact ⟨f, rfl⟩
      have hf1 := h1 f (.head _)
      rw [growOf, if_pos hc]
      refine X.ifTs (Tr.cmp (d := .int 1) (Callee.ev glob_len (by walk_at "kind") keep_bi (by walk_at "evs") hlen) Ev.cint (by have := eq_ii (c := cx w) (n := n + 12) (i := 1) (j := 1); exact this)) ?_ notnext_ret
      refine X.ret (Ev.ifexp (x := ws.isEmpty) (Tr.cmp (d := wishesD ws) (by walk_at "ev") (by walk_at "ev") (by unfold wishesD; have := eq_lnil (c := cx w) (n := n + 12) (ds := ws.map wishD); simpa using this)) (fun e => ?_) (fun e => ?_))
      · rw [if_pos e]
        exact Ev.dict1 (Ev.sub (by walk_at "ev") (by walk_at "ev") (get_li (by omega) (by omega) rfl)) (Callee.ev glob_join (by walk_at "kind") keep_join (Evs.cons (by walk_at "ev") (Evs.cons (Ev.sub (by walk_at "ev") (by walk_at "ev") (get_li (by omega) (by omega) rfl)) Evs.nil)) ((sp_join (by omega) (by show f.length ≤ 1000; omega)).le (by omega)))
      · rw [if_neg (ne_true_of_eq_false e)]
        walk_at "ev"
    · rw [growOf, if_neg hc]
      refine X.ifF0 (Tr.cmp (d := .int files.length) (Callee.ev glob_len (by walk_at "kind") keep_bi (by walk_at "evs") hlen) Ev.cint (by have := eq_ii (c := cx w) (n := n + 12) (i := files.length) (j := 1); rwa [show ((files.length : Int) == 1) = false from by rw [beq_eq_false_iff_ne]; omega] at this)) ?_
      refine X.assignC (Callee.ev glob_marks (by walk_at "kind") keep_marks (by walk_at "evs") ((sp_marks hf hl9 hw hin).le (by omega))) (by walk_at "getd") ?_
      refine Ex.cons (Ex1.ownDict (by walk_at "kind")) ?_
      refine X.assignC (by walk_at "ev") (by walk_at "getd") ?_
      refine Ex.weak (σ₂ := gA folder files ws files []) ?_ (by unfold gA; walk_at "weak")
      have key : ∀ (t : Expr) (body : List Stmt), (∀ (k : Nat) (left : List Str) (g : List (Str × Str)), List.Sublist left files → left.length ≤ k → g.length + left.length ≤ 10 →
          Wh (cx w) (n + 12) env t body [] (gA folder files ws left g) (ouG folder files ws (growLoop (growOf n) (loopM ws 10 fun x => x) folder files ws k left g))) →
          ∀ (p : Pos) (rest : List Stmt), (∀ g, Ex (cx w) (n + 12) env (gA folder files ws [] g) rest (.ret (.dict g))) → Ex (cx w) (n + 12) env (gA folder files ws files []) (.While t body [] p :: rest) (.ret (.dict ((growLoop (growOf n) (loopM ws 10 fun x => x) folder files ws files.length files []).getD []))) := by
        intro t body hW p rest hrest
        have := hW files.length files [] (List.Sublist.refl _) (Nat.le_refl _) (by simp; omega)
        cases e : growLoop (growOf n) (loopM ws 10 fun x => x) folder files ws files.length files [] with
        | none =>
          rw [e] at this
          exact Ex.stop (Ex1.whil this) notnext_ret
        | some g =>
          rw [e] at this
          exact Ex.cons (Ex1.whil this) (hrest g)
      refine key _ _ ?_ _ _ (fun g => by unfold gA; exact X.ret (by walk_at "ev"))
      intro k
      have stop : ∀ (k : Nat) (g : List (Str × Str)), growLoop (growOf n) (loopM ws 10 fun x => x) folder files ws k [] g = some g := fun k g => by cases k <;> rfl
      induction k with
      | zero =>
        intro left g hs1 hl1 hg
        have : left = [] := List.length_eq_zero_iff.mp (Nat.le_zero.mp hl1)
        subst this
        rw [stop]
        exact Wh.stop (Tr.cmp (d := .list (sL [])) (by unfold gA; walk_at "ev") (by walk_at "ev") (by have := ne_lnil (c := cx w) (n := n + 12) (ds := sL []); exact this)) Ex.nil
      | succ k ihk =>
        intro left g hs1 hl1 hg
        cases left with
        | nil =>
          rw [stop]
          exact Wh.stop (Tr.cmp (d := .list (sL [])) (by unfold gA; walk_at "ev") (by walk_at "ev") (by have := ne_lnil (c := cx w) (n := n + 12) (ds := sL []); exact this)) Ex.nil
        | cons a r =>
          have hsub := hs1.subset
          have ha : a ∈ files := hsub (.head _)
          have hbs : List.Sublist (blockOf (loopM ws 10 fun x => x) (a :: r)) files := blockOf_sub.trans hs1
          have hne2 : Prim (cx w) (n + 12) [.list (sL (a :: r)), .list []] (two (compareOp .NotEq)) (.bool true) := ne_lnil (ds := sL (a :: r))
          rw [growLoop]
          have hblk : ∀ (C : Addr) (x : Str), x ∈ a :: r → x ∈ files := fun C x hx => hsub hx
          by_cases hb : blockOf (loopM ws 10 fun x => x) (a :: r) = files
          · rw [if_pos hb]
            refine Wh.ret (Tr.cmp (d := .list (sL (a :: r))) (e := .list []) (by unfold gA; walk_at "ev") (by walk_at "ev") hne2) ?_
            unfold gA
            refine X.assignC (d := .list (sL (blockOf (loopM ws 10 fun x => x) (a :: r)))) (Ev.lc D.str (fun x => (loopM ws 10 fun x => x) x == (loopM ws 10 fun x => x) a) D.str (a :: r) [("left", .list (sL (a :: r))), ("marks", .dict (tabM files (loopM ws 10 fun x => x)))] (by walk_at "ev") rfl (CompOk.of rfl (by kernel_rfl) rfl (.cel (by walk_at "getd") (.cel (by walk_at "getd") .nil))) TgtOk.name (lt_line (by omega)) fun C x hx => ⟨_, Tg.nameL (by walk_at "kind"), weak_put rfl, Ts.one (Tr.cmp (Ev.sub (by walk_at "ev") (by walk_at "ev") (get_ds (dget_tab (hblk C x hx)))) (Ev.sub (by walk_at "ev") (Ev.sub (by walk_at "ev") (by walk_at "ev") (get_li (d := .str a) (by omega) (by omega) rfl)) (get_ds (dget_tab ha))) eq_ss), fun _ => by walk_at "ev"⟩) (by walk_at "getd") ?_ (swaps_cellL hs (by kernel_rfl))
            refine X.ifTs (Tr.cmp (by walk_at "ev") (by walk_at "ev") (by have := eq_ll (c := cx w) (n := n + 12) (xs := blockOf (loopM ws 10 fun x => x) (a :: r)) (ys := files); rwa [decide_eq_true hb] at this)) (X.ret (by walk_at "ev")) notnext_ret
          · rw [if_neg hb]
            have hBn : (blockOf (loopM ws 10 fun x => x) (a :: r)).Nodup := hbs.nodup hf
            have hBne : blockOf (loopM ws 10 fun x => x) (a :: r) ≠ [] := fun e => by
              have := blockOf_head (μ := loopM ws 10 fun x => x) (a := a) (r := r)
              rw [e] at this; cases this
            have hBl : (blockOf (loopM ws 10 fun x => x) (a :: r)).length < files.length := by
              rcases Nat.lt_or_ge (blockOf (loopM ws 10 fun x => x) (a :: r)).length files.length with q | q
              · exact q
              · exact absurd (hbs.eq_of_length_le q) hb
            have hBleft := filter_len (block := blockOf (loopM ws 10 fun x => x) (a :: r)) blockOf_sub (hs1.nodup hf)
            have hB1 : ∀ f ∈ blockOf (loopM ws 10 fun x => x) (a :: r), f.length ≤ 1 := fun f hf' => h1 f (hbs.subset hf')
            have hjl := join_empty_len _ hB1
            have hP : (placeOf folder (blockOf (loopM ws 10 fun x => x) (a :: r))).length ≤ folder.length + 10 := by
              unfold placeOf
              split
              · omega
              · have := joinS_len folder (Txt.join (Str.ofString "") (blockOf (loopM ws 10 fun x => x) (a :: r)))
                omega
            have hrec := ih (placeOf folder (blockOf (loopM ws 10 fun x => x) (a :: r))) (blockOf (loopM ws 10 fun x => x) (a :: r)) (innerOf ws (blockOf (loopM ws 10 fun x => x) (a :: r))) hBn hBne (by omega) (by omega) hB1 (inner_within _ _) (Nat.le_trans (inner_length _ _) hw) (by omega)
            have hfl := hfil (a :: r) (blockOf (loopM ws 10 fun x => x) (a :: r)) (by omega) (by omega)
            by_cases hw0 : (growOf n (placeOf folder (blockOf (loopM ws 10 fun x => x) (a :: r))) (blockOf (loopM ws 10 fun x => x) (a :: r)) (innerOf ws (blockOf (loopM ws 10 fun x => x) (a :: r)))) = []
            · rw [if_pos hw0]
              refine Wh.ret (Tr.cmp (d := .list (sL (a :: r))) (e := .list []) (by unfold gA; walk_at "ev") (by walk_at "ev") hne2) ?_
              unfold gA
              refine X.assignC (d := .list (sL (blockOf (loopM ws 10 fun x => x) (a :: r)))) (Ev.lc D.str (fun x => (loopM ws 10 fun x => x) x == (loopM ws 10 fun x => x) a) D.str (a :: r) [("left", .list (sL (a :: r))), ("marks", .dict (tabM files (loopM ws 10 fun x => x)))] (by walk_at "ev") rfl (CompOk.of rfl (by kernel_rfl) rfl (.cel (by walk_at "getd") (.cel (by walk_at "getd") .nil))) TgtOk.name (lt_line (by omega)) fun C x hx => ⟨_, Tg.nameL (by walk_at "kind"), weak_put rfl, Ts.one (Tr.cmp (Ev.sub (by walk_at "ev") (by walk_at "ev") (get_ds (dget_tab (hblk C x hx)))) (Ev.sub (by walk_at "ev") (Ev.sub (by walk_at "ev") (by walk_at "ev") (get_li (d := .str a) (by omega) (by omega) rfl)) (get_ds (dget_tab ha))) eq_ss), fun _ => by walk_at "ev"⟩) (by walk_at "getd") ?_ (swaps_cellL hs (by kernel_rfl))
              refine X.ifF0 (Tr.cmp (by walk_at "ev") (by walk_at "ev") (by have := eq_ll (c := cx w) (n := n + 12) (xs := (blockOf (loopM ws 10 fun x => x) (a :: r))) (ys := files); rwa [decide_eq_false hb] at this)) ?_
              refine X.assignC (Callee.ev glob_filter (by walk_at "kind") keep_filter (by walk_at "evs") (hfl.le (by omega))) (by walk_at "getd") ?_
              refine Ex.cons (Ex1.lc (fun q => .list (sL (wishL q))) (fun q => ((wishL q).filter fun x => !(blockOf (loopM ws 10 fun x => x) (a :: r)).contains x).isEmpty) (fun q => .list (sL (wishL q))) ws [("block", .list (sL (blockOf (loopM ws 10 fun x => x) (a :: r))))] (d := wishesD ws) (by walk_at "ev") rfl (CompOk.of rfl (by kernel_rfl) rfl (.cel (by walk_at "getd") .nil)) (by walk_at "kind") TgtOk.name (lt_line (by omega)) (fun C q hq => ⟨_, Tg.nameL (by walk_at "kind"), weak_put rfl, Ts.one (Tr.cmp (Callee.ev glob_filter (by walk_at "kind") keep_filter (by walk_at "evs") ((hfil (wishL q) (blockOf (loopM ws 10 fun x => x) (a :: r)) (by show 4 ≤ 100; omega) (by omega)).le (by omega))) (by walk_at "ev") (by have := eq_lnil (c := cx w) (n := n + 12) (ds := sL ((wishL q).filter fun x => !(blockOf (loopM ws 10 fun x => x) (a :: r)).contains x)); simpa using this)), fun _ => by walk_at "ev"⟩) (swaps_true hs (by kernel_rfl) (by kernel_rfl) (by kernel_rfl) (by kernel_rfl))) ?_
              change Ex _ _ _ (Sto.put _ _ (.val (wishesD (innerOf ws (blockOf (loopM ws 10 fun x => x) (a :: r)))))) _ _
              refine X.assign (d := .str (placeOf folder (blockOf (loopM ws 10 fun x => x) (a :: r)))) (Ev.ifexp (x := (((blockOf (loopM ws 10 fun x => x) (a :: r)).length : Int) == 1)) (Tr.cmp (Callee.ev glob_len (by walk_at "kind") keep_bi (by walk_at "evs") (len_D (by simp) (lt_line (by omega)))) Ev.cint eq_ii) (fun e => ?_) (fun e => ?_)) (by walk_at "kind") ?_
              · rw [placeOf, if_pos (by have := eq_of_beq e; omega)]
                walk_at "ev"
              · rw [placeOf, if_neg (by have := ne_of_beq_false e; omega)]
                exact Callee.ev glob_join (by walk_at "kind") keep_join (Evs.cons (by walk_at "ev") (Evs.cons (Ev.join (by walk_at "ev") (by walk_at "ev") (join_ok10 (by omega) (fun x hx => Nat.le_trans (hB1 x hx) (by omega)))) Evs.nil)) ((sp_join (by omega) (by omega)).le (by omega))
              refine X.assign (Callee.ev glob_grow (by walk_at "kind") keep_grow (by walk_at "evs") hrec) (by walk_at "kind") ?_
              rw [hw0]
              refine X.ifTs (Tr.cmp (by walk_at "ev") (by walk_at "ev") (by have := eq_dnil (c := cx w) (n := n + 12) (ds := []); exact this)) (X.ret (by walk_at "ev")) notnext_ret
            · rw [if_neg hw0]
              refine Wh.next (σ₂ := gA folder files ws ((a :: r).filter fun x => !(blockOf (loopM ws 10 fun x => x) (a :: r)).contains x) (putAll (blockOf (loopM ws 10 fun x => x) (a :: r)) (growOf n (placeOf folder (blockOf (loopM ws 10 fun x => x) (a :: r))) (blockOf (loopM ws 10 fun x => x) (a :: r)) (innerOf ws (blockOf (loopM ws 10 fun x => x) (a :: r)))) g)) (σ₃ := gA folder files ws ((a :: r).filter fun x => !(blockOf (loopM ws 10 fun x => x) (a :: r)).contains x) (putAll (blockOf (loopM ws 10 fun x => x) (a :: r)) (growOf n (placeOf folder (blockOf (loopM ws 10 fun x => x) (a :: r))) (blockOf (loopM ws 10 fun x => x) (a :: r)) (innerOf ws (blockOf (loopM ws 10 fun x => x) (a :: r)))) g)) (Tr.cmp (d := .list (sL (a :: r))) (e := .list []) (by unfold gA; walk_at "ev") (by walk_at "ev") hne2) ?_ (fun _ _ e => ⟨_, e, .inl rfl⟩) (ihk _ _ (List.filter_sublist.trans hs1) ?_ ?_)
              rotate_left
              · have : 0 < (blockOf (loopM ws 10 fun x => x) (a :: r)).length := List.length_pos_iff.mpr hBne
                simp only [List.length_cons] at hl1 hBleft
                omega
              · have := putAll_len (below := (growOf n (placeOf folder (blockOf (loopM ws 10 fun x => x) (a :: r))) (blockOf (loopM ws 10 fun x => x) (a :: r)) (innerOf ws (blockOf (loopM ws 10 fun x => x) (a :: r))))) (blockOf (loopM ws 10 fun x => x) (a :: r)) g
                omega
              unfold gA
              refine X.assignC (d := .list (sL (blockOf (loopM ws 10 fun x => x) (a :: r)))) (Ev.lc D.str (fun x => (loopM ws 10 fun x => x) x == (loopM ws 10 fun x => x) a) D.str (a :: r) [("left", .list (sL (a :: r))), ("marks", .dict (tabM files (loopM ws 10 fun x => x)))] (by walk_at "ev") rfl (CompOk.of rfl (by kernel_rfl) rfl (.cel (by walk_at "getd") (.cel (by walk_at "getd") .nil))) TgtOk.name (lt_line (by omega)) fun C x hx => ⟨_, Tg.nameL (by walk_at "kind"), weak_put rfl, Ts.one (Tr.cmp (Ev.sub (by walk_at "ev") (by walk_at "ev") (get_ds (dget_tab (hblk C x hx)))) (Ev.sub (by walk_at "ev") (Ev.sub (by walk_at "ev") (by walk_at "ev") (get_li (d := .str a) (by omega) (by omega) rfl)) (get_ds (dget_tab ha))) eq_ss), fun _ => by walk_at "ev"⟩) (by walk_at "getd") ?_ (swaps_cellL hs (by kernel_rfl))
              refine X.ifF0 (Tr.cmp (by walk_at "ev") (by walk_at "ev") (by have := eq_ll (c := cx w) (n := n + 12) (xs := (blockOf (loopM ws 10 fun x => x) (a :: r))) (ys := files); rwa [decide_eq_false hb] at this)) ?_
              refine X.assignC (Callee.ev glob_filter (by walk_at "kind") keep_filter (by walk_at "evs") (hfl.le (by omega))) (by walk_at "getd") ?_
              refine Ex.cons (Ex1.lc (fun q => .list (sL (wishL q))) (fun q => ((wishL q).filter fun x => !(blockOf (loopM ws 10 fun x => x) (a :: r)).contains x).isEmpty) (fun q => .list (sL (wishL q))) ws [("block", .list (sL (blockOf (loopM ws 10 fun x => x) (a :: r))))] (d := wishesD ws) (by walk_at "ev") rfl (CompOk.of rfl (by kernel_rfl) rfl (.cel (by walk_at "getd") .nil)) (by walk_at "kind") TgtOk.name (lt_line (by omega)) (fun C q hq => ⟨_, Tg.nameL (by walk_at "kind"), weak_put rfl, Ts.one (Tr.cmp (Callee.ev glob_filter (by walk_at "kind") keep_filter (by walk_at "evs") ((hfil (wishL q) (blockOf (loopM ws 10 fun x => x) (a :: r)) (by show 4 ≤ 100; omega) (by omega)).le (by omega))) (by walk_at "ev") (by have := eq_lnil (c := cx w) (n := n + 12) (ds := sL ((wishL q).filter fun x => !(blockOf (loopM ws 10 fun x => x) (a :: r)).contains x)); simpa using this)), fun _ => by walk_at "ev"⟩) (swaps_true hs (by kernel_rfl) (by kernel_rfl) (by kernel_rfl) (by kernel_rfl))) ?_
              change Ex _ _ _ (Sto.put _ _ (.val (wishesD (innerOf ws (blockOf (loopM ws 10 fun x => x) (a :: r)))))) _ _
              refine X.assign (d := .str (placeOf folder (blockOf (loopM ws 10 fun x => x) (a :: r)))) (Ev.ifexp (x := (((blockOf (loopM ws 10 fun x => x) (a :: r)).length : Int) == 1)) (Tr.cmp (Callee.ev glob_len (by walk_at "kind") keep_bi (by walk_at "evs") (len_D (by simp) (lt_line (by omega)))) Ev.cint eq_ii) (fun e => ?_) (fun e => ?_)) (by walk_at "kind") ?_
              · rw [placeOf, if_pos (by have := eq_of_beq e; omega)]
                walk_at "ev"
              · rw [placeOf, if_neg (by have := ne_of_beq_false e; omega)]
                exact Callee.ev glob_join (by walk_at "kind") keep_join (Evs.cons (by walk_at "ev") (Evs.cons (Ev.join (by walk_at "ev") (by walk_at "ev") (join_ok10 (by omega) (fun x hx => Nat.le_trans (hB1 x hx) (by omega)))) Evs.nil)) ((sp_join (by omega) (by omega)).le (by omega))
              refine X.assign (Callee.ev glob_grow (by walk_at "kind") keep_grow (by walk_at "evs") hrec) (by walk_at "kind") ?_
              refine X.ifF0 (Tr.cmp (by walk_at "ev") (by walk_at "ev") (by have := eq_dnil (c := cx w) (n := n + 12) (ds := (growOf n (placeOf folder (blockOf (loopM ws 10 fun x => x) (a :: r))) (blockOf (loopM ws 10 fun x => x) (a :: r)) (innerOf ws (blockOf (loopM ws 10 fun x => x) (a :: r))))); rwa [show (growOf n (placeOf folder (blockOf (loopM ws 10 fun x => x) (a :: r))) (blockOf (loopM ws 10 fun x => x) (a :: r)) (innerOf ws (blockOf (loopM ws 10 fun x => x) (a :: r)))).isEmpty = false from by cases hq : (growOf n (placeOf folder (blockOf (loopM ws 10 fun x => x) (a :: r))) (blockOf (loopM ws 10 fun x => x) (a :: r)) (innerOf ws (blockOf (loopM ws 10 fun x => x) (a :: r)))) with | nil => exact absurd hq hw0 | cons _ _ => rfl] at this)) ?_
              refine Ex.weak (σ₂ := gL folder files ws ((a :: r).filter fun x => !(blockOf (loopM ws 10 fun x => x) (a :: r)).contains x) (blockOf (loopM ws 10 fun x => x) (a :: r)) (growOf n (placeOf folder (blockOf (loopM ws 10 fun x => x) (a :: r))) (blockOf (loopM ws 10 fun x => x) (a :: r)) (innerOf ws (blockOf (loopM ws 10 fun x => x) (a :: r)))) g) ?_ (by unfold gL; walk_at "weak")
              refine Ex.cons (σ' := gL folder files ws ((a :: r).filter fun x => !(blockOf (loopM ws 10 fun x => x) (a :: r)).contains x) (blockOf (loopM ws 10 fun x => x) (a :: r)) (growOf n (placeOf folder (blockOf (loopM ws 10 fun x => x) (a :: r))) (blockOf (loopM ws 10 fun x => x) (a :: r)) (innerOf ws (blockOf (loopM ws 10 fun x => x) (a :: r)))) (putAll (blockOf (loopM ws 10 fun x => x) (a :: r)) (growOf n (placeOf folder (blockOf (loopM ws 10 fun x => x) (a :: r))) (blockOf (loopM ws 10 fun x => x) (a :: r)) (innerOf ws (blockOf (loopM ws 10 fun x => x) (a :: r)))) g)) (Ex1.forIn (ds := (blockOf (loopM ws 10 fun x => x) (a :: r)).map D.str) (by unfold gL; walk_at "ev") rfl ?_ TgtOk.name) (Ex.nilW (by unfold gL; walk_at "weak"))
              rw [putAll]
              refine Lp.folds TgtOk.name D.str (fun g o => dput g o ((dget (growOf n (placeOf folder (blockOf (loopM ws 10 fun x => x) (a :: r))) (blockOf (loopM ws 10 fun x => x) (a :: r)) (innerOf ws (blockOf (loopM ws 10 fun x => x) (a :: r)))) o).getD slash)) (gL folder files ws ((a :: r).filter fun x => !(blockOf (loopM ws 10 fun x => x) (a :: r)).contains x) (blockOf (loopM ws 10 fun x => x) (a :: r)) (growOf n (placeOf folder (blockOf (loopM ws 10 fun x => x) (a :: r))) (blockOf (loopM ws 10 fun x => x) (a :: r)) (innerOf ws (blockOf (loopM ws 10 fun x => x) (a :: r))))) (fun qq b => (∀ o ∈ qq, o ∈ (blockOf (loopM ws 10 fun x => x) (a :: r))) ∧ b.length + qq.length ≤ 30) ?_ (fun b _ => Ex.nil) (blockOf (loopM ws 10 fun x => x) (a :: r)) g ⟨fun o ho => ho, by omega⟩
              rintro o r' b ⟨ho, hbl⟩
              simp only [List.length_cons] at hbl
              have hk := growOf_keys hw0 o (ho o (.head _))
              have hk2 : dget (growOf n (placeOf folder (blockOf (loopM ws 10 fun x => x) (a :: r))) (blockOf (loopM ws 10 fun x => x) (a :: r)) (innerOf ws (blockOf (loopM ws 10 fun x => x) (a :: r)))) o = some ((dget (growOf n (placeOf folder (blockOf (loopM ws 10 fun x => x) (a :: r))) (blockOf (loopM ws 10 fun x => x) (a :: r)) (innerOf ws (blockOf (loopM ws 10 fun x => x) (a :: r)))) o).getD slash) := by
                obtain ⟨y, hy⟩ := Option.isSome_iff_exists.mp (dget_isSome.mpr hk)
                rw [hy]; rfl
              have hdl := dput_len b o ((dget (growOf n (placeOf folder (blockOf (loopM ws 10 fun x => x) (a :: r))) (blockOf (loopM ws 10 fun x => x) (a :: r)) (innerOf ws (blockOf (loopM ws 10 fun x => x) (a :: r)))) o).getD slash)
              refine ⟨⟨fun y hy => ho y (.tail _ hy), by omega⟩, _, _, Tg.nameL (by walk_at "kind"), Ex.cons (Ex1.setDict (by unfold gL; walk_at "getd") (Ev.sub (by unfold gL; walk_at "ev") (by walk_at "ev") (get_ds hk2)) (by walk_at "ev") (lt_line (by omega))) Ex.nil, by unfold gL; walk_at "weak"⟩
end
section
variable {w : World} {n : Nat} {env : Env} {σ : Sto}
theorem glob_common : Glob (cx w) "commonpath" (.ref 134) := ⟨.inl (by kernel_rfl), by kernel_rfl⟩
theorem keep_common : KeepF (cx w) (.ref 134) := .inl (by kernel_rfl)
noncomputable def AbsP (p : Str) : Prop := Txt.startswith p slash = true ∧ p.length ≤ 300
noncomputable def AbsQ (p : Str) : Prop := Txt.startswith p slash = true ∧ p.length ≤ 200
theorem AbsQ.p {p : Str} (h : AbsQ p) : AbsP p := ⟨h.1, Nat.le_trans h.2 (by omega)⟩
/-- what is asked of commonpath -/
structure CommonOk (w : World) (cm : List Str → Str) : Prop where
  call : ∀ ps : List Str, ps ≠ [] → ps.length ≤ 10 → (∀ p ∈ ps, AbsP p) → Prim (cx w) 12 [.list (sL ps)] (fun vs => PySem.call (.ref 134) vs) (.str (cm ps))
  abs : ∀ ps : List Str, ps ≠ [] → ps.length ≤ 10 → (∀ p ∈ ps, AbsQ p) → AbsP (cm ps)
noncomputable def pathAt (pd : List (Str × Str)) (k : Str) : Str := (dget pd k).getD slash
noncomputable def innerS (cm : List Str → Str) (pd : List (Str × Str)) (q : Wish) : Str := cm [pathAt pd q.one, pathAt pd q.two]
noncomputable def outerS (cm : List Str → Str) (pd : List (Str × Str)) (q : Wish) : Str := cm [pathAt pd q.three, pathAt pd q.four]
noncomputable def badS (cm : List Str → Str) (pd : List (Str × Str)) (q : Wish) : Bool := innerS cm pd q == outerS cm pd q || cm [innerS cm pd q, outerS cm pd q] != outerS cm pd q
noncomputable def keepsOf (cm : List Str → Str) (pd : List (Str × Str)) (ws : List Wish) : Bool := ws.all fun q => !badS cm pd q
noncomputable def kS (pd : List (Str × Str)) (ws : List Wish) : Sto := [("paths", .val (.dict pd)), ("wishes", .val (wishesD ws))]
theorem pathAt_get {pd : List (Str × Str)} {k : Str} (h : k ∈ pd.map (·.1)) : dget pd k = some (pathAt pd k) := by
  obtain ⟨y, hy⟩ := Option.isSome_iff_exists.mp (dget_isSome.mpr h)
  unfold pathAt
  rw [hy]; rfl
theorem two_absQ {a b : Str} (ha : AbsQ a) (hb : AbsQ b) : ∀ p ∈ [a, b], AbsQ p := by
  intro p hp
  simp only [List.mem_cons, List.not_mem_nil, or_false] at hp
  rcases hp with rfl | rfl
  · exact ha
  · exact hb
theorem two_abs {a b : Str} (ha : AbsP a) (hb : AbsP b) : ∀ p ∈ [a, b], AbsP p := by
  intro p hp
  simp only [List.mem_cons, List.not_mem_nil, or_false] at hp
  rcases hp with rfl | rfl
  · exact ha
  · exact hb
theorem sp_keeps {cm : List Str → Str} (C : CommonOk w cm) {pd : List (Str × Str)} {ws : List Wish} (hin : ∀ q ∈ ws, ∀ k ∈ wishL q, k ∈ pd.map (·.1)) (hp : ∀ k ∈ pd.map (·.1), AbsQ (pathAt pd k)) :
    Prim (cx w) 13 [.dict pd, wishesD ws] (fun vs => PySem.call (.ref 261) vs) (.bool (keepsOf cm pd ws)) := by
  refine Fn.prim' (by walk_at "fn") ["paths", "wishes"] [("paths", .val (.dict pd)), ("wishes", .val (wishesD ws))] (by kernel_rfl) rfl (by kernel_rfl) (by kernel_rfl) (vs2 fun a b => rfl) fun env hs => ?_
  conv => arg 5; whnf
  have fin : ∀ (st : Stmt) (rest : List Stmt), Ex1 (cx w) 12 env (kS pd ws) st (if keepsOf cm pd ws = true then .next (kS pd ws) else .ret (.bool false)) → Ex (cx w) 12 env (kS pd ws) rest (.ret (.bool true)) → Ex (cx w) 12 env (kS pd ws) (st :: rest) (.ret (.bool (keepsOf cm pd ws))) := by
    intro st rest h1 h2
    cases hk : keepsOf cm pd ws with
    | true =>
      rw [hk, if_pos rfl] at h1
      exact Ex.cons h1 h2
    | false =>
      rw [hk, if_neg (by simp)] at h1
      exact Ex.stop h1 notnext_ret
  refine fin _ _ (Ex1.forIn (d := wishesD ws) (ds := ws.map wishD) (by unfold kS; walk_at "ev") rfl ?_ TgtOk.tup) (by unfold kS; exact X.ret (by walk_at "ev"))
  unfold keepsOf
  refine (?_ : ∀ (l : List Wish), (∀ q ∈ l, q ∈ ws) → Lp (cx w) 12 env _ _ _ (l.map wishD) (kS pd ws) (if (l.all fun q => !badS cm pd q) = true then .next (kS pd ws) else .ret (.bool false))) ws (fun q hq => hq)
  intro l
  induction l with
  | nil => intro _; exact Lp.nil Ex.nil
  | cons q r ih =>
    intro hl
    have hq := hl q (.head _)
    have e1 := hin q hq q.one (by simp [wishL])
    have e2 := hin q hq q.two (by simp [wishL])
    have e3 := hin q hq q.three (by simp [wishL])
    have e4 := hin q hq q.four (by simp [wishL])
    have b12 := two_absQ (hp _ e1) (hp _ e2)
    have a12 := fun p h => (b12 p h).p
    have b34 := two_absQ (hp _ e3) (hp _ e4)
    have a34 := fun p h => (b34 p h).p
    have ai : AbsP (innerS cm pd q) := C.abs _ (by simp) (by simp) b12
    have ao : AbsP (outerS cm pd q) := C.abs _ (by simp) (by simp) b34
    have c1 := C.call [pathAt pd q.one, pathAt pd q.two] (by simp) (by simp) a12
    have c2 := C.call [pathAt pd q.three, pathAt pd q.four] (by simp) (by simp) a34
    have c3 := C.call [innerS cm pd q, outerS cm pd q] (by simp) (by simp) (two_abs ai ao)
    have hsz : ∀ a b : Str, ([D.str a, D.str b] : List D).length ≤ sizeLine := fun a b => lt_line (by show 2 ≤ 10000; omega)
    cases hb : badS cm pd q with
    | true =>
      rw [show ((q :: r).all fun q => !badS cm pd q) = false from by simp [hb], if_neg (by simp)]
      refine Lp.ret TgtOk.tup (Tg.tup (ds := [.str q.one, .str q.two, .str q.three, .str q.four]) (Tgs.cons (Tg.nameL (by walk_at "kind")) (Tgs.cons (Tg.nameL (by walk_at "kind")) (Tgs.cons (Tg.nameL (by walk_at "kind")) (Tgs.cons (Tg.nameL (by walk_at "kind")) Tgs.nil)))) rfl) ?_
      unfold kS
      refine X.assign (d := .str (innerS cm pd q)) (Callee.ev glob_common (by walk_at "kind") keep_common (Evs.cons (Ev.list (Evs.cons (Ev.sub (by walk_at "ev") (by walk_at "ev") (get_ds (pathAt_get e1))) (Evs.cons (Ev.sub (by walk_at "ev") (by walk_at "ev") (get_ds (pathAt_get e2))) Evs.nil)) (hsz _ _)) Evs.nil) c1) (by walk_at "kind") ?_
      refine X.assign (d := .str (outerS cm pd q)) (Callee.ev glob_common (by walk_at "kind") keep_common (Evs.cons (Ev.list (Evs.cons (Ev.sub (by walk_at "ev") (by walk_at "ev") (get_ds (pathAt_get e3))) (Evs.cons (Ev.sub (by walk_at "ev") (by walk_at "ev") (get_ds (pathAt_get e4))) Evs.nil)) (hsz _ _)) Evs.nil) c2) (by walk_at "kind") ?_
      exact Ex.one (Ex1.iff (y := badS cm pd q) (Tr.boolop (Al.or2 (by walk_at "tr") (fun _ => Tr.cmp (Callee.ev glob_common (by walk_at "kind") keep_common (Evs.cons (Ev.list (by walk_at "evs") (hsz _ _)) Evs.nil) c3) (by walk_at "ev") ne_ss))) (fun _ => X.ret (by walk_at "ev")) (fun e => by rw [hb] at e; cases e))
    | false =>
      rw [show ((q :: r).all fun q => !badS cm pd q) = (r.all fun q => !badS cm pd q) from by simp [hb]]
      refine Lp.next TgtOk.tup (Tg.tup (ds := [.str q.one, .str q.two, .str q.three, .str q.four]) (Tgs.cons (Tg.nameL (by walk_at "kind")) (Tgs.cons (Tg.nameL (by walk_at "kind")) (Tgs.cons (Tg.nameL (by walk_at "kind")) (Tgs.cons (Tg.nameL (by walk_at "kind")) Tgs.nil)))) rfl) ?_ (fun _ _ e => ⟨_, e, .inl rfl⟩) (σ₂ := kS pd ws) (ih fun p hp => hl p (.tail _ hp))
      unfold kS
      refine X.assign (d := .str (innerS cm pd q)) (Callee.ev glob_common (by walk_at "kind") keep_common (Evs.cons (Ev.list (Evs.cons (Ev.sub (by walk_at "ev") (by walk_at "ev") (get_ds (pathAt_get e1))) (Evs.cons (Ev.sub (by walk_at "ev") (by walk_at "ev") (get_ds (pathAt_get e2))) Evs.nil)) (hsz _ _)) Evs.nil) c1) (by walk_at "kind") ?_
      refine X.assign (d := .str (outerS cm pd q)) (Callee.ev glob_common (by walk_at "kind") keep_common (Evs.cons (Ev.list (Evs.cons (Ev.sub (by walk_at "ev") (by walk_at "ev") (get_ds (pathAt_get e3))) (Evs.cons (Ev.sub (by walk_at "ev") (by walk_at "ev") (get_ds (pathAt_get e4))) Evs.nil)) (hsz _ _)) Evs.nil) c2) (by walk_at "kind") ?_
      exact Ex.one (Ex1.iff (y := badS cm pd q) (Tr.boolop (Al.or2 (by walk_at "tr") (fun _ => Tr.cmp (Callee.ev glob_common (by walk_at "kind") keep_common (Evs.cons (Ev.list (by walk_at "evs") (hsz _ _)) Evs.nil) c3) (by walk_at "ev") ne_ss))) (fun e => by rw [hb] at e; cases e) (fun _ => Ex.nilW (by walk_at "weak")))
end
section
variable {w : World} {n : Nat} {env : Env} {σ : Sto}
theorem ff_makes : makesIn (Kf w) 167 = true := by kernel_rfl
theorem ff_init : findIn (Kf w) (.ref 167) "__init__" = some (some (.ref 149)) := by kernel_rfl
theorem ff_iter : findIn (Kf w) (.ref 167) "__iter__" = some (some (.ref 156)) := by kernel_rfl
theorem ff_next : findIn (Kf w) (.ref 167) "__next__" = some (some (.ref 163)) := by kernel_rfl
theorem ff_fn149 : typeIn (Kf w) (.ref 149) = some (.type "function") := by kernel_rfl
theorem ff_fn156 : typeIn (Kf w) (.ref 156) = some (.type "function") := by kernel_rfl
theorem ff_fn163 : typeIn (Kf w) (.ref 163) = some (.type "function") := by kernel_rfl
theorem ff_sa : findIn (Kf w) (.ref 167) "__setattr__" = some (some (.builtin "object.__setattr__")) := by kernel_rfl
theorem ff_over : plainOver (Kf w) 167 = true := by kernel_rfl
theorem ff_tk_it : takerIn (Kf w) 167 "_it" = some (some (.ref 169)) := by kernel_rfl
theorem ff_tk_func : takerIn (Kf w) 167 "_func" = some (some (.ref 168)) := by kernel_rfl
theorem ff_ty_it : typeIn (Kf w) (.ref 169) = some (.type "member_descriptor") := by kernel_rfl
theorem ff_ty_func : typeIn (Kf w) (.ref 168) = some (.type "member_descriptor") := by kernel_rfl
theorem ff_pg (x : Str) (h : x = Str.ofString "_it" ∨ x = Str.ofString "_func") : plainGet (Kf w) 167 x = true := by rcases h with rfl | rfl <;> kernel_rfl
theorem ff_isc : isClsIn (Kf w) 167 = true := by kernel_rfl
theorem ff_f_it : findIn (Kf w) (.ref 167) "_it" = some (some (.ref 169)) := by kernel_rfl
theorem ff_f_func : findIn (Kf w) (.ref 167) "_func" = some (some (.ref 168)) := by kernel_rfl
theorem ff_g_it : specialIn (Kf w) (.ref 169) "__get__" = some (some (.builtin "member_descriptor.__get__")) := by kernel_rfl
theorem ff_g_func : specialIn (Kf w) (.ref 168) "__get__" = some (some (.builtin "member_descriptor.__get__")) := by kernel_rfl
theorem ff_t_it : takesIn (Kf w) (.ref 169) = some true := by kernel_rfl
theorem ff_t_func : takesIn (Kf w) (.ref 168) = some true := by kernel_rfl
theorem ff_s_it : slotIn (Kf w) 169 167 = some 1 := by kernel_rfl
theorem ff_s_func : slotIn (Kf w) 168 167 = some 0 := by kernel_rfl
theorem glob_iter : Glob (cx w) "iter" (.builtin "iter") := ⟨.inr ⟨by kernel_rfl, by kernel_rfl, by decide +kernel⟩, by kernel_rfl⟩
theorem glob_next : Glob (cx w) "next" (.builtin "next") := ⟨.inr ⟨by kernel_rfl, by kernel_rfl, by decide +kernel⟩, by kernel_rfl⟩
theorem glob_bool : Glob (cx w) "bool" (.type "bool") := ⟨.inr ⟨by kernel_rfl, by kernel_rfl, by decide +kernel⟩, by kernel_rfl⟩
noncomputable abbrev ffObj (dx mw it : Addr) : Obj := { cls := .ref 167, dict := some dx, data := .plain, slots := #[some (.ref mw), some (.ref it)] }
theorem only_size (h : Heap) (P : Addr → Bool) : (only h P).objs.size = h.objs.size := by unfold only; simp
theorem name_loc {M : Model} {A : Around} {s : Shared} {env : Env} {m : Str → Option Value} {x : Str} {v : Value} {p : Pos} {h₀ : Heap} {Q : Value → Shared → Prop} {E : Value → Shared → Prop} {sc : Scope} (hs : env.scope = sc) (hk : sc.kind = .function) (hx : sc.names.lookup x = some .local) (F : Fr h₀ env.locals s.heap m) (hm : m x = some v) (hd : (x == ("__debug__" : Str)) = false) (k : Q v s) :
    wpAny M A (PySem.eval (.Name x p) env) Q E s := wpAny_Name (wpAny_loadName_local (by rw [hs]; exact hk) (kindOf_of hs hx) F.ns hm k) hd
theorem ff_init_run {A : Around} {g : Heap} {s : Shared} {x dx mw l : Addr} {items : Array Value} {R : Result → Shared → Prop} (W : Wf (cx w) g) (lg : Le g s.heap) (hx : s.heap.get? x = some (instObj 167 dx)) (hdx : s.heap.get? dx = some emptyDict) (gx : g.get? x = none) (hl : IsL s.heap l items) (hdp : A.depth < recursionLimit)
    (h : ∀ h' tk it, (∀ b o, b ≠ x → s.heap.get? b = some o → h'.get? b = some o) → s.heap.get? it = none → h'.IsListIter it l 0 → h'.get? x = some (ffObj dx mw it) → R (.ok (.ret .none)) { s with heap := h', toks := tk }) :
    codeAny (model (cx w).prog (cx w).w) A (.call (.ref 149) ⟨[.ref x, .ref mw, .ref l], []⟩) R s := by
  refine Fn.enterK' (by walk_at "fn") ["self", "function", "iterable"] rfl (by kernel_rfl) (by kernel_rfl) rfl hdp lg W fun env m h2 t2 hs hk hg hb hf hL hm F => ?_
  have m1 : m (Str.ofString "self") = some (.ref x) := hm (_, _) (.head _)
  have m2 : m (Str.ofString "function") = some (.ref mw) := hm (_, _) (.tail _ (.head _))
  have m3 : m (Str.ofString "iterable") = some (.ref l) := hm (_, _) (.tail _ (.tail _ (.head _)))
  have ks : env.scope.kind = .function := (congrArg Scope.kind hs).trans hk
  have dne : dx ≠ x := fun q => by rw [q, hx] at hdx; cases hdx
  have gle : Le g (only s.heap fun a => !decide (a = x)) := fun a o e => by
    rw [only_get, if_pos (by simpa using fun q => by rw [q, gx] at e; cases e)]
    exact lg _ _ e
  have F0 : Fr (only s.heap fun a => !decide (a = x)) env.locals h2 m := ⟨F.ns, fun b o e => F.keep _ _ (only_some e).2, by rw [only_size]; exact F.above⟩
  have X0 : (Kf w).In (only s.heap fun a => !decide (a = x)) := W.K.keeps gle
  have lne : l ≠ x := fun q => by
    obtain ⟨o, e, hc, _⟩ := hl
    rw [q, hx] at e
    cases e
    cases hc
  have lt : x < s.heap.objs.size := Heap.lt_size hx
  have hz2 : s.heap.objs.size ≤ h2.objs.size := hL ▸ Nat.le_of_lt F.ns.lt
  refine wpAny_execs_cons (plainObj_wpAny_Assign_Attribute (callR1 (f := .builtin "iter") (Glob.evalR (g := g) glob_iter ks (kindOf_of hs (by kernel_rfl)) hg hb (fun a o e => F.keep _ _ (lg a o e)) W ?_)))
  refine name_loc hs hk (by kernel_rfl) F m3 (by kernel_rfl) ⟨Plainly.builtin, iter_list (isList_le F.keep hl) ?_⟩
  have itne : h2.objs.size ≠ x := Nat.ne_of_gt (Nat.lt_of_lt_of_le lt hz2)
  refine name_loc hs hk (by kernel_rfl) (F.push _) m1 (by kernel_rfl) ?_
  dsimp only
  generalize hH : h2.push { cls := .type "list_iterator", data := .fields #[.ref l, .int 0 0] } = H
  have kH : Le h2 H := hH ▸ le_push _ _
  have eI : H.get? h2.objs.size = some { cls := .type "list_iterator", data := .fields #[.ref l, .int 0 0] } := hH ▸ Heap.get?_push_size _ rfl
  have F1 : Fr (only s.heap fun a => !decide (a = x)) env.locals H m := hH ▸ F0.push _
  have N1 : News (only s.heap fun a => !decide (a = x)) env.locals H [(x, instObj 167 dx), (h2.objs.size, { cls := .type "list_iterator", data := .fields #[.ref l, .int 0 0] })] := fun p hp => by
    rcases List.mem_cons.mp hp with rfl | hp
    · refine ⟨kH _ _ (F.keep _ _ hx), ?_, by rw [only_get]; simp⟩
      show x ≠ env.locals
      rw [hL]; exact Nat.ne_of_lt lt
    · rw [List.mem_singleton.mp hp]
      refine ⟨eI, Nat.ne_of_gt F.ns.lt, ?_⟩
      · exact Heap.get?_none_of_le (by rw [only_size]; exact hz2)
  have I1 : InstAt H x (instObj 167 dx) 167 (some emptyDict) := ⟨(N1 _ (.head _)).1, rfl, rfl, kH _ _ (F.keep _ _ hdx)⟩
  refine set_slot (s := { s with heap := H, toks := t2 }) (K := Kf w) (C := 167) (p := 169) (i := 1) (ox' := { cls := .ref 167, dict := some dx, data := .plain, slots := #[none, some (.ref h2.objs.size)] }) F1 X0 N1 I1 ff_sa ff_over ff_tk_it ff_ty_it ff_s_it (by omega) rfl rfl (.head fun p hp => by rw [List.mem_singleton.mp hp]; exact itne) fun h3 F3 N3 => ?_
  dsimp only
  refine wpAny_execs_cons (plainObj_wpAny_Assign_Attribute ?_)
  refine name_loc hs hk (by kernel_rfl) F3 m2 (by kernel_rfl) (name_loc hs hk (by kernel_rfl) F3 m1 (by kernel_rfl) ?_)
  have dx3 : h3.get? dx = some emptyDict := F3.keep _ _ (by rw [only_get, if_pos (by simpa using dne)]; exact hdx)
  have I3 : InstAt h3 x { cls := .ref 167, dict := some dx, data := .plain, slots := #[none, some (.ref h2.objs.size)] } 167 (some emptyDict) := ⟨(N3 _ (.head _)).1, rfl, rfl, dx3⟩
  refine set_slot (s := { s with heap := h3, toks := t2 + 1 }) (K := Kf w) (C := 167) (p := 168) (i := 0) (ox' := ffObj dx mw h2.objs.size) F3 X0 N3 I3 ff_sa ff_over ff_tk_func ff_ty_func ff_s_func (by omega) rfl rfl (.head fun p hp => by rw [List.mem_singleton.mp hp]; exact itne) fun h4 F4 N4 => ?_
  refine wpAny_execs_nil ?_
  refine h h4 _ h2.objs.size (fun b o hb e => F4.keep _ _ (by rw [only_get, if_pos (by simpa using hb)]; exact e)) (Heap.get?_none_of_le hz2) ⟨_, (N4 _ (.tail _ (.head _))).1, rfl, rfl⟩ (N4 _ (.head _)).1
end
section
variable {w : World} {n : Nat} {env : Env} {σ : Sto}
theorem get_slot' {K : Frag} {M : World} {prog : Program} {A : Around} {s : Shared} {E : Value → Shared → Prop} {x C p : Addr} {ox : Obj} {od : Obj} {name : Str} {v : Value} {i : Nat} {expr : Bool} {Q : Value → Shared → Prop} (X : K.In s.heap) (I : InstAt s.heap x ox C (some od)) (hg : plainGet K C name = true) (hc : isClsIn K C = true)
    (ha : findIn K (.ref C) name = some (some (.ref p))) (hn : specialIn K (.ref p) "__get__" = some (some (.builtin "member_descriptor.__get__"))) (ht : takesIn K (.ref p) = some true) (hp : slotIn K p C = some i)
    (hv : (ox.slots[i]?).join = some v) (hh : handedIn v = true) (h : Q v { s with toks := s.toks + 1 }) : wpAny (model prog M) A (getAttr (.ref x) name expr) Q E s :=
  get_bind X I (plainGet_of hg).1 (findObj_data hc ha hn ht) (plainGet_of hg).2 (wpAny_call (slot_get (s := { s with toks := s.toks + 1 }) X I hp hv (handed_on hh h)))
theorem funFrames_of {h base : Heap} : ∀ l : List Env, (∀ e ∈ l, e.scope.kind ≠ .module ∧ ∃ a, e.frame = some a ∧ base.get? a = none ∧ IsD h a) → h.FunFrames base l
  | [], _ => trivial
  | e :: r, H => by
    obtain ⟨h1, a, h2, h3, o, es, ep, h4, h5⟩ := H e (.head _)
    exact ⟨h1, ⟨a, o, h2, h3, h4, fun vs q => by rw [h5] at q; cases q⟩, funFrames_of r fun e' he => H e' (.tail _ he)⟩
/-- an iterator of filterfalse over a list of texts, at the place i -/
structure FFS (w : World) (Φ : Addr → Prop) (g : Heap) (x dx mw it l sk : Addr) (xs ys : List Str) (i : Nat) (h : Heap) : Prop where
  top : Top Φ g h
  wf : Wf (cx w) g
  gx : g.get? x = some (ffObj dx mw it)
  gdx : g.get? dx = some emptyDict
  gmw : ∃ dd sl, g.get? mw = some { cls := .type "method-wrapper", dict := dd, data := .fields #[.builtin "list.__contains__", .ref sk], slots := sl }
  gl : ∃ items : Array Value, IsL g l items ∧ Reps (cx w) g (sL xs) items.toList
  gsk : ∃ items : Array Value, IsL g sk items ∧ Reps (cx w) g (sL ys) items.toList
  git : g.get? it = none
  it : h.IsListIter it l i
  le : i ≤ xs.length
/-- what next gives -/
noncomputable def FFNext (w : World) (Φ : Addr → Prop) (g : Heap) (x dx mw it l sk : Addr) (xs ys : List Str) (i : Nat) (s : Shared) (r : Option Value) (h' : Heap) : Prop :=
  (∀ a, a ≠ it → Kp Φ s.heap h' a) ∧ match (xs.drop i).dropWhile fun y => ys.contains y with
  | [] => r = none
  | y :: rest => ∃ t j, r = some (.str y t) ∧ xs.drop j = rest ∧ FFS w Φ g x dx mw it l sk xs ys j h'
noncomputable def FFInv (w : World) (s : Shared) (env : Env) (x mw it l : Addr) (xs ys : List Str) (i₀ k : Nat) (s' : Shared) : Prop :=
  ∃ i h' tk m', s' = { s with heap := h', toks := tk } ∧ k = xs.length - i ∧ i ≤ xs.length ∧ Fr (only s.heap fun a => !decide (a = it)) env.locals h' m' ∧ m' (Str.ofString "self") = some (.ref x) ∧ m' (Str.ofString "func") = some (.ref mw) ∧
    h'.IsListIter it l i ∧ ((xs.drop i).dropWhile fun y => ys.contains y) = (xs.drop i₀).dropWhile fun y => ys.contains y
theorem iter_at {h h' : Heap} {it l : Addr} {i : Nat} (x : h.IsListIter it l i) (k : ∀ o, h.get? it = some o → h'.get? it = some o) : h'.IsListIter it l i := let ⟨o, e, r⟩ := x; ⟨o, k o e, r⟩
theorem any_hit' {g : Heap} {y : Str} {ys : List Str} {items : Array Value} (r : Reps (cx w) g (sL ys) items.toList) : items.any (hitV y) = ys.contains y := by
  rw [← any_hit r]; simp
theorem ff_next_run {A : Around} {g : Heap} {s : Shared} {x dx mw it l sk : Addr} {xs ys : List Str} {i₀ : Nat} (hh : A.handled = none) (hdp : A.depth < recursionLimit) (hfr : ∃ l, A.frames = some l ∧ ∀ e ∈ l, e.scope.kind ≠ .module ∧ ∃ a, e.frame = some a) (S : FFS w (fr A) g x dx mw it l sk xs ys i₀ s.heap) :
    wpAny (model (cx w).prog (cx w).w) A (pyNext (.ref x)) (fun r s₁ => ∃ h' tk, s₁ = { s with heap := h', toks := tk } ∧ FFNext w (fr A) g x dx mw it l sk xs ys i₀ s r h') Noth s := by
  have lg := S.top.le
  have X : (Kf w).In s.heap := S.wf.K.keeps lg
  have I : InstAt s.heap x (ffObj dx mw it) 167 (some emptyDict) := ⟨lg _ _ S.gx, rfl, rfl, lg _ _ S.gdx⟩
  have nit : ¬ fr A it := fun z => by
    obtain ⟨o, es, ep, e, hd⟩ := (S.top.fl it z).2
    obtain ⟨o', e', _, hd'⟩ := S.it
    rw [e] at e'; cases e'
    rw [hd] at hd'; cases hd'
  have gle : Le g (only s.heap fun a => !decide (a = it)) := fun a o e => by
    rw [only_get, if_pos (by simpa using fun q => by rw [q, S.git] at e; cases e)]
    exact lg _ _ e
  have ltit : it < s.heap.objs.size := by obtain ⟨o, e, _⟩ := S.it; exact Heap.lt_size e
  unfold pyNext
  refine wpAny_bind (wpAny_attempt (special_fn (name := "__next__") (args := []) X I ff_next ff_fn163 ?_))
  refine wpAny_call (Fn.enterK' (by walk_at "fn") ["self"] rfl (by kernel_rfl) (by kernel_rfl) rfl hdp lg S.wf fun env m h2 t2 hs hk hg hb hf hL hm F => ?_)
  have m1 : m (Str.ofString "self") = some (.ref x) := hm (_, _) (.head _)
  have ks : env.scope.kind = .function := (congrArg Scope.kind hs).trans hk
  have itL : it ≠ env.locals := by rw [hL]; exact Nat.ne_of_lt ltit
  have F0 : Fr (only s.heap fun a => !decide (a = it)) env.locals h2 m := ⟨F.ns, fun b o e => F.keep _ _ (only_some e).2, by rw [only_size]; exact F.above⟩
  have it2 : h2.IsListIter it l i₀ := iter_at S.it fun o e => F.keep _ _ e
  -- facts at any later heap
  have gx' : ∀ h', Le (only s.heap fun a => !decide (a = it)) h' → InstAt h' x (ffObj dx mw it) 167 (some emptyDict) := fun h' k => ⟨k _ _ (gle _ _ S.gx), rfl, rfl, k _ _ (gle _ _ S.gdx)⟩
  have kp : ∀ h' : Heap, Le (only s.heap fun a => !decide (a = it)) h' → ∀ a, a ≠ it → Kp (fr A) s.heap h' a := fun h' k a ha => Kp.of fun o e => k _ _ (by rw [only_get, if_pos (by simpa using ha)]; exact e)
  have XK : ∀ h' : Heap, Le (only s.heap fun a => !decide (a = it)) h' → (Kf w).In h' := fun h' k => S.wf.K.keeps (gle.trans k)
  refine wpAny_execs_cons (wpAny_Assign_Name (Attribute_any_ (name_loc hs hk (by kernel_rfl) F0 m1 (by kernel_rfl) ?_)) (by rfl))
  refine get_slot' (s := { s with heap := h2, toks := t2 }) (XK h2 F0.keep) (gx' _ F0.keep) (ff_pg _ (.inr rfl)) ff_isc ff_f_func ff_g_func ff_t_func ff_s_func rfl rfl ?_
  refine wpAny_storeName_local (kindOf_of hs (by kernel_rfl)) F0.ns (fun h3 hn3 hs3 => ?_) (by rw [ks]; rfl)
  have F3 := F0.set hn3 hs3
  have it3 : h3.IsListIter it l i₀ := iter_at it2 fun o e => (hs3.2 _ itL).trans e
  refine wpAny_execs_cons (wpAny_While (codeAny_whileLoop (FFInv w s env x mw it l xs ys i₀) ?_ (xs.length - i₀) ⟨i₀, h3, _, _, rfl, rfl, S.le, F3, ?_, ?_, it3, rfl⟩))
  · rintro k s' ⟨i, h4, t4, m4, rfl, rfl, hi, F4, ms, mf, hit, hdw⟩
    have g4 : Le g h4 := gle.trans F4.keep
    obtain ⟨items, hl, hr⟩ := S.gl
    have hlen := hr.length
    simp only [Array.length_toList, List.length_map] at hlen
    refine wpAny_isTrue_value (wpAny_Constant_bool (wpAny_truthy_bool ?_))
    simp only [if_true]
    refine wpAny_passesOwn PassesOwn.leaving ?_
    refine wpAny_execs_cons (wpAny_Assign_Name (callR1 (f := .builtin "next") (Glob.evalR (g := g) glob_next ks (kindOf_of hs (by kernel_rfl)) hg hb g4 S.wf (Attribute_any_ (name_loc hs hk (by kernel_rfl) F4 ms (by kernel_rfl) ?_)))) (by rfl))
    refine get_slot' (s := { s with heap := h4, toks := t4 }) (XK h4 F4.keep) (gx' _ F4.keep) (ff_pg _ (.inl rfl)) ff_isc ff_f_it ff_g_it ff_t_it ff_s_it rfl rfl ⟨Plainly.builtin, ?_⟩
    cases hy : xs[i]? with
    | none =>
      have hxn : items[i]? = none := by
        rw [Array.getElem?_eq_none]
        have := List.getElem?_eq_none_iff.mp hy
        omega
      have hdn : xs.drop i = [] := List.drop_eq_nil_of_le (List.getElem?_eq_none_iff.mp hy)
      refine next_list_end (items := items) hh hit (isList_le g4 hl) hxn fun h5 e N => ?_
      obtain ⟨outer, hfr1, hfr2⟩ := hfr
      obtain ⟨oe, vs, he, hec, hed, hev⟩ := N.there
      have ne4 : ∀ a o, a ≠ it → s.heap.get? a = some o → h5.get? a = some o := fun a o ha hao => N.ext a o ha (F4.keep _ _ (by rw [only_get, if_pos (by simpa using ha)]; exact hao))
      have bs : ∀ a o, (only s.heap fun a => @decide (¬ fr A a ∧ a ≠ it) (Classical.propDecidable _)).get? a = some o → (¬ fr A a ∧ a ≠ it) ∧ s.heap.get? a = some o := fun a o q => by
        obtain ⟨q1, q2⟩ := only_some q
        exact ⟨@of_decide_eq_true _ (Classical.propDecidable _) q1, q2⟩
      have bn : ∀ a, fr A a → (only s.heap fun a => @decide (¬ fr A a ∧ a ≠ it) (Classical.propDecidable _)).get? a = none := fun a ha => by
        cases q : (only s.heap fun a => @decide (¬ fr A a ∧ a ≠ it) (Classical.propDecidable _)).get? a with
        | none => rfl
        | some o => exact absurd ha (bs a o q).1.1
      have bL : (only s.heap fun a => @decide (¬ fr A a ∧ a ≠ it) (Classical.propDecidable _)).get? env.locals = none := Heap.get?_none_of_le (by rw [only_size, hL]; exact Nat.le_refl _)
      refine wpAny_leaving_first (base := only s.heap fun a => @decide (¬ fr A a ∧ a ≠ it) (Classical.propDecidable _)) (outer := outer) (L := env.locals) (Around.frames_deeper hfr1) (funFrames_of _ fun e' he' => ?_) hf he (fun a o q => ne4 a o (bs a o q).1.2 (bs a o q).2) ?_ hed hev fun h6 HL => ?_
      · rcases List.mem_cons.mp he' with rfl | he'
        · refine ⟨by rw [ks]; decide, _, hf, bL, ?_⟩
          obtain ⟨o, es, ep, e1, e2, _⟩ := F4.ns
          exact ⟨o, es, ep, N.ext _ _ (Ne.symm itL) e1, e2⟩
        · obtain ⟨k1, a, k2⟩ := hfr2 e' he'
          have ha : fr A a := ⟨outer, hfr1, e', he', k2⟩
          refine ⟨k1, a, k2, bn a ha, ?_⟩
          obtain ⟨o, es, ep, e1, e2⟩ := (S.top.fl a ha).2
          exact ⟨o, es, ep, ne4 a o (fun q => nit (q ▸ ha)) e1, e2⟩
      · cases q : (only s.heap fun a => @decide (¬ fr A a ∧ a ≠ it) (Classical.propDecidable _)).get? e with
        | none => rfl
        | some o =>
          have := F4.keep e o (by rw [only_get, if_pos (by simpa using (bs e o q).1.2)]; exact (bs e o q).2)
          rw [N.new] at this; cases this
      · obtain ⟨k1, _, ⟨ob, _, _, _, _, hob, hobc, _⟩, k4⟩ := HL
        refine wpAny_bind (wpAny_isInstance (T := "StopIteration") (b := true) ⟨ob, hob, hobc.trans hec⟩ isSubtype_stop ?_)
        refine wpAny_pure ⟨h6, _, rfl, fun a ha o hao => ⟨fun nf => k1 a o ?_, ?_⟩, ?_⟩
        · rw [only_get, if_pos (@decide_eq_true _ (Classical.propDecidable _) ⟨nf, ha⟩)]
          exact hao
        · by_cases hfa : fr A a
          · obtain ⟨o', es, ep, e1, e2⟩ := (S.top.fl a hfa).2
            rw [hao] at e1; cases e1
            exact k4 a o (ne4 a o ha hao) fun vs q => by rw [e2] at q; cases q
          · refine ⟨o.slots, k1 a o ?_⟩
            rw [only_get, if_pos (@decide_eq_true _ (Classical.propDecidable _) ⟨hfa, ha⟩)]
            exact hao
        · rw [← hdw, hdn]
          rfl
    | some y =>
      obtain ⟨vy, hvy, ry⟩ := hr.get (d := .str y) (i := i) (by rw [List.getElem?_map, hy]; rfl)
      cases ry
      rename_i ty
      refine next_list_item (items := items) hit (isList_le g4 hl) (by simpa using hvy) fun h5 hit5 hs5 => ?_
      have F5 : Fr (only s.heap fun a => !decide (a = it)) env.locals h5 m4 := ⟨F4.ns.sameBut hs5 (Ne.symm itL), fun b o e => (hs5.2 b (fun q => by rw [q, only_get] at e; simp at e)).trans (F4.keep b o e), F4.above⟩
      refine wpAny_storeName_local (kindOf_of hs (by kernel_rfl)) F5.ns (fun h6 hn6 hs6 => ?_) (by rw [ks]; rfl)
      have F6 := F5.set hn6 hs6
      have it6 : h6.IsListIter it l (i + 1) := iter_at hit5 fun o e => (hs6.2 _ itL).trans e
      have g6 : Le g h6 := gle.trans F6.keep
      have fm : (if (Str.ofString "func") = (Str.ofString "item") then some (Value.str y ty) else m4 (Str.ofString "func")) = some (.ref mw) := by rw [if_neg (by decide +kernel)]; exact mf
      have fs : (if (Str.ofString "self") = (Str.ofString "item") then some (Value.str y ty) else m4 (Str.ofString "self")) = some (.ref x) := by rw [if_neg (by decide +kernel)]; exact ms
      have fi : (if (Str.ofString "item") = (Str.ofString "item") then some (Value.str y ty) else m4 (Str.ofString "item")) = some (.str y ty) := if_pos rfl
      have hilt : i < xs.length := (List.getElem?_eq_some_iff.mp hy).1
      have hdr : xs.drop i = y :: xs.drop (i + 1) := by
        rw [List.drop_eq_getElem_cons hilt]
        rw [(List.getElem?_eq_some_iff.mp hy).2]
      obtain ⟨sks, hsk, rsk⟩ := S.gsk
      obtain ⟨mdd, msl, gm⟩ := S.gmw
      refine wpAny_execs_cons (wpAny_If (wpAny_isTrue_BoolOp (wpAny_allTrue_Or_cons (wpAny_isTrue_Compare1 (name_loc hs hk (by kernel_rfl) F6 fm (by kernel_rfl) (wpAny_Constant_none (wpAny_is_other rfl (by simp) (wpAny_truthy_bool ?_))))))))
      simp only [Bool.false_eq_true, if_false]
      refine wpAny_allTrue_Or_cons (wpAny_isTrue_Compare1 (name_loc hs hk (by kernel_rfl) F6 fm (by kernel_rfl) (Glob.evalR (g := g) glob_bool ks (kindOf_of hs (by kernel_rfl)) hg hb g6 S.wf (wpAny_is_other rfl (by simp) (wpAny_truthy_bool ?_)))))
      simp only [Bool.false_eq_true, if_false]
      refine wpAny_allTrue_Or_nil ?_
      simp only [Bool.false_eq_true, if_false]
      refine wpAny_execs_cons (wpAny_If (wpAny_isTrue_Not (wpAny_isTrue_value (callR1 (f := .none) (name_loc hs hk (by kernel_rfl) F6 fm (by kernel_rfl) (name_loc hs hk (by kernel_rfl) F6 fi (by kernel_rfl) ⟨Plainly.mw ⟨mdd, msl, g6 _ _ gm⟩, ?_⟩))))))
      refine call_mw (hitV y) ⟨mdd, msl, g6 _ _ gm⟩ (isList_le g6 hsk) (fun z hz => ?_) (wpAny_truthy_bool ?_)
      · obtain ⟨i', hi', rfl⟩ := List.getElem_of_mem (Array.mem_toList_iff.mpr hz)
        obtain ⟨w', t', e4, e5⟩ := rsk.sL_at i' _ (List.getElem?_eq_getElem hi')
        rw [e5]
        exact (eqGives_str _ _ _ _).at _ _
      rw [any_hit' rsk]
      cases hc : ys.contains y with
      | true =>
        simp only [Bool.not_true, Bool.false_eq_true, if_false]
        refine wpAny_execs_nil (wpAny_execs_nil (wpAny_execs_nil ?_))
        exact ⟨_, (by omega : xs.length - (i + 1) < xs.length - i), i + 1, h6, _, _, rfl, rfl, hilt, F6, fs, fm, it6, by rw [← hdw, hdr, List.dropWhile_cons_of_pos (by simpa using hc)]⟩
      | false =>
        simp only [Bool.not_false, if_true]
        refine wpAny_execs_cons (wpAny_Return_some (name_loc hs hk (by kernel_rfl) F6 fi (by kernel_rfl) ?_))
        refine wpAny_pure ⟨h6, _, rfl, kp h6 F6.keep, ?_⟩
        rw [← hdw, hdr, List.dropWhile_cons_of_neg (by simpa using hc)]
        exact ⟨ty, i + 1, rfl, rfl, ⟨⟨g6, fun a ha => ⟨(S.top.fl a ha).1, by
          obtain ⟨o, es, ep, e, hd⟩ := (S.top.fl a ha).2
          have na : a ≠ it := fun q => nit (q ▸ ha)
          exact ⟨o, es, ep, F6.keep _ _ (by rw [only_get, if_pos (by simpa using na)]; exact e), hd⟩⟩⟩, S.wf, S.gx, S.gdx, S.gmw, S.gl, S.gsk, S.git, it6, hilt⟩⟩
  · rw [if_neg (by decide +kernel)]
    exact m1
  · rw [if_pos rfl]
end
section
variable {w : World} {n : Nat} {env : Env} {σ : Sto}
theorem ff_dm_len : findIn (Kf w) (.ref 167) "__len__" = some none := by kernel_rfl
theorem ff_dm_hint : findIn (Kf w) (.ref 167) "__length_hint__" = some none := by kernel_rfl
theorem inst_iter {K : Frag} {M : Model} {A : Around} {s : Shared} {E : Value → Shared → Prop} {x C f : Addr} {ox : Obj} {od : Option Obj} {next : Value} {Q : Value → Shared → Prop} (X : K.In s.heap) (I : InstAt s.heap x ox C od) (hs : findIn K (.ref C) "__iter__" = some (some (.ref f))) (hf : typeIn K (.ref f) = some (.type "function"))
    (hn : findIn K (.ref C) "__next__" = some (some next))
    (h : wpAny M A (call (.ref f) [.ref x]) (fun v s' => v = .ref x ∧ (∀ b o, s.heap.get? b = some o → s'.heap.get? b = some o) ∧ Q (.ref x) s') E s) : wpAny M A (pyIter (.ref x)) Q E s := by
  have one : ∀ refuse : Sem Value, wpAny M A (callSpecialIfBoundUnlessNone? (.ref x) "__iter__" refuse) (fun r s' => r = some (.ref x) ∧ (∀ b o, s.heap.get? b = some o → s'.heap.get? b = some o) ∧ Q (.ref x) s') E s := by
    intro refuse
    have fin2 : wpAny M A (if (Value.ref f == Value.none) = true then (refuse >>= fun v => pure (some v)) else (call (.ref f) [.ref x] >>= fun v => pure (some v))) (fun r s' => r = some (.ref x) ∧ (∀ b o, s.heap.get? b = some o → s'.heap.get? b = some o) ∧ Q (.ref x) s') E s := by
      rw [if_neg (show ¬ ((Value.ref f == Value.none) = true) from Bool.false_ne_true)]
      exact wpAny_bind (wpAny_mono h (fun v s' h' => wpAny_pure ⟨by rw [h'.1], h'.2⟩) fun _ _ z => z)
    simp only [callSpecialIfBoundUnlessNone?, bindSpecialIfBound?]
    refine wpAny_holding (wpAny_bind (wpAny_bind (wpAny_bind (I.type.here ((looks_findIn X hs).here ?_)))))
    refine wpAny_bind (wpAny_askSetting (wpAny_ite ?_))
    split
    · exact wpAny_bind ((bind_fn X _ hf).here (wpAny_pure (by exact fin2)))
    · exact wpAny_tryCatch (wpAny_bind ((bind_fn X _ hf).here (wpAny_pure (by exact fin2))))
  unfold pyIter
  refine wpAny_bind (wpAny_bind (I.type.here ((looks_findIn X hs).here ?_)))
  show wpAny M A (callSpecialIfBoundUnlessNone? (.ref x) "__iter__" _ >>= _) Q E s
  refine wpAny_bind (wpAny_mono (one _) (fun r s' hr => ?_) fun _ _ z => z)
  obtain ⟨rfl, hk, hq⟩ := hr
  have t : Looks M s'.heap (typeOf (.ref x)) (.ref C) := I.type.keeps hk
  have fi : Looks M s'.heap (typeLookup (.ref C) "__next__") (some next) := looks_findIn (fun a o e => hk _ _ (X a o e)) hn
  unfold specialOf
  exact wpAny_bind (wpAny_bind (t.here (fi.here (wpAny_pure hq))))
theorem ff_iter_run {A : Around} {g : Heap} {s : Shared} {x : Addr} {R : Result → Shared → Prop} (W : Wf (cx w) g) (lg : Le g s.heap) (hdp : A.depth < recursionLimit)
    (h : ∀ h' tk, Le s.heap h' → R (.ok (.ret (.ref x))) { s with heap := h', toks := tk }) : codeAny (model (cx w).prog (cx w).w) A (.call (.ref 156) ⟨[.ref x], []⟩) R s := by
  refine Fn.enterK' (by walk_at "fn") ["self"] rfl (by kernel_rfl) (by kernel_rfl) rfl hdp lg W fun env m h2 t2 hs hk hg hb hf hL hm F => ?_
  have m1 : m (Str.ofString "self") = some (.ref x) := hm (_, _) (.head _)
  exact wpAny_execs_cons (wpAny_Return_some (name_loc hs hk (by kernel_rfl) F m1 (by kernel_rfl) (h h2 t2 F.keep)))
theorem filter_dw (p : Str → Bool) : ∀ l : List Str, (l.filter fun y => !p y) = match l.dropWhile p with
    | [] => []
    | y :: r => y :: r.filter fun y => !p y
  | [] => rfl
  | a :: r => by
    cases h : p a with
    | true =>
      rw [List.dropWhile_cons_of_pos h, List.filter_cons_of_neg (by simp [h])]
      exact filter_dw p r
    | false => rw [List.dropWhile_cons_of_neg (by simp [h]), List.filter_cons_of_pos (by simp [h])]
theorem dw_len (p : Str → Bool) : ∀ (l : List Str) {y : Str} {r : List Str}, l.dropWhile p = y :: r → r.length < l.length
  | [], _, _, e => by cases e
  | a :: t, y, r, e => by
    cases h : p a with
    | true =>
      rw [List.dropWhile_cons_of_pos h] at e
      have := dw_len p t e
      simp only [List.length_cons]; omega
    | false =>
      rw [List.dropWhile_cons_of_neg (by simp [h])] at e
      cases e
      simp
theorem FFS.move {Φ : Addr → Prop} {g : Heap} {x dx mw it l sk : Addr} {xs ys : List Str} {i : Nat} {h h' : Heap} (S : FFS w Φ g x dx mw it l sk xs ys i h) {S' : Addr} (gS : g.get? S' = none) (nS : S' ≠ it) (nF : ¬ Φ S') (k : ∀ a o, a ≠ S' → h.get? a = some o → h'.get? a = some o) : FFS w Φ g x dx mw it l sk xs ys i h' :=
  ⟨⟨fun a o e => k a o (fun q => by rw [q, gS] at e; cases e) (S.top.le _ _ e), fun a ha => ⟨(S.top.fl a ha).1, by
    obtain ⟨o, es, ep, e, hd⟩ := (S.top.fl a ha).2
    exact ⟨o, es, ep, k a o (fun q => nF (q ▸ ha)) e, hd⟩⟩⟩, S.wf, S.gx, S.gdx, S.gmw, S.gl, S.gsk, S.git, iter_at S.it fun o e => k _ _ (Ne.symm nS) e, S.le⟩
theorem ff_loop {A : Around} {g : Heap} {x dx mw it l sk S' : Addr} {xs ys : List Str} {R : Result → Shared → Prop} (hh : A.handled = none) (hdp : A.depth < recursionLimit) (hfr : ∃ l, A.frames = some l ∧ ∀ e ∈ l, e.scope.kind ≠ .module ∧ ∃ a, e.frame = some a)
    (gS : g.get? S' = none) (nS : S' ≠ it) (nF : ¬ fr A S') (hxs : xs.length ≤ 1000) :
    ∀ (k i : Nat) (s : Shared) (acc : Array Value) (cc : Nat) (done : List Str), xs.length - i ≤ k → FFS w (fr A) g x dx mw it l sk xs ys i s.heap → s.heap.get? S' = some { cls := .type "list", dict := none, data := .seq acc cc, slots := #[] } → Reps (cx w) g (sL done) acc.toList → done.length + (xs.length - i) ≤ 1000 →
      (∀ h' tk acc' cc', (∀ a, a ≠ it → a ≠ S' → Kp (fr A) s.heap h' a) → h'.get? S' = some { cls := .type "list", dict := none, data := .seq acc' cc', slots := #[] } → Reps (cx w) g (sL (done ++ (xs.drop i).filter fun y => !ys.contains y)) acc'.toList → R (.ok (.ret .none)) { s with heap := h', toks := tk }) →
      codeAny (model (cx w).prog (cx w).w) A (.builtin "list.extend.loop" ⟨[.ref S', .ref x, .none], []⟩) R s := by
  intro k
  induction k with
  | zero =>
    intro i s acc cc done hk S hS hacc hd hR
    refine codeAny_builtin F.entry_extend_loop ?_
    rw [Around.under_plainId F.plain_extend_loop _]
    show wpAny _ A.in1 (pyNext (.ref x) >>= _) _ _ s
    refine wpAny_bind (noth (ff_next_run (A := A.in1) hh hdp hfr S) fun r s₁ q => ?_)
    obtain ⟨h', tk, rfl, kp, q⟩ := q
    have e : xs.drop i = [] := List.drop_eq_nil_of_le (by omega)
    rw [e] at q
    have q' : r = none := q
    subst q'
    refine wpAny_pure (hR h' tk acc cc (fun a h1 _ => kp a h1) ((kp S' nS).at nF hS) (by rw [e]; simpa using hacc))
  | succ k ih =>
    intro i s acc cc done hk S hS hacc hd hR
    refine codeAny_builtin F.entry_extend_loop ?_
    rw [Around.under_plainId F.plain_extend_loop _]
    show wpAny _ A.in1 (pyNext (.ref x) >>= _) _ _ s
    refine wpAny_bind (noth (ff_next_run (A := A.in1) hh hdp hfr S) fun r s₁ q => ?_)
    obtain ⟨h', tk, rfl, kp, q⟩ := q
    have hS' := (kp S' nS).at nF hS
    have hfil := filter_dw (fun y => ys.contains y) (xs.drop i)
    cases hdw : (xs.drop i).dropWhile fun y => ys.contains y with
    | nil =>
      rw [hdw] at q hfil
      have q' : r = none := q
      subst q'
      exact wpAny_pure (hR h' tk acc cc (fun a h1 _ => kp a h1) hS' (by rw [hfil]; simpa using hacc))
    | cons y rest =>
      rw [hdw] at q hfil
      obtain ⟨t, j, rfl, hj, S1⟩ := q
      have hlen := dw_len _ _ hdw
      have hjl : rest.length = xs.length - j := by rw [← hj, List.length_drop]
      rw [List.length_drop] at hlen
      have hal := hacc.length
      simp only [List.length_map, Array.length_toList] at hal
      show wpAny _ A.in1 (updateSeq S' (·.push (.str y t)) >>= _) _ _ _
      refine wpAny_bind ?_
      refine wpAny_updateSeq hS' rfl (wpAny_pure ⟨plainId_quiet F.plain_extend_loop _, ih j { s with heap := h'.update S' (Obj.mapSeq (·.push (.str y t))), toks := tk } (acc.push (.str y t)) _ (done ++ [y]) (by omega) (S1.move gS nS nF fun a o ha e => (Heap.get?_update_other _ _ (Ne.symm ha)).trans e) (Heap.get?_update_self _ hS' rfl) ?_ ?_ fun h2 tk2 acc2 cc2 k2 hS2 r2 => ?_⟩)
        (by have z := sizeLine_eq; omega) (by show (acc.push (.str y t)).size ≤ sizeLine + 1; have z := sizeLine_eq; rw [Array.size_push]; omega)
      · rw [Array.toList_push, show sL (done ++ [y]) = sL done ++ [D.str y] by simp]
        exact Reps.append hacc (Reps.one (.str _ _))
      · simp only [List.length_append, List.length_singleton]; omega
      · refine hR h2 tk2 acc2 cc2 (fun a h1 h3 => ((kp a h1).trans (Kp.of fun o e => (Heap.get?_update_other _ _ (Ne.symm h3)).trans e)).trans (k2 a h1 h3)) hS2 ?_
        rw [hfil, ← hj]
        rw [List.append_assoc] at r2
        exact r2
end
section
variable {w : World} {n : Nat} {env : Env} {σ : Sto}
theorem glob_list : Glob (cx w) "list" (.type "list") := ⟨.inr ⟨by kernel_rfl, by kernel_rfl, by decide +kernel⟩, by kernel_rfl⟩
theorem glob_ff : Glob (cx w) "filterfalse" (.ref 167) := ⟨.inl (by kernel_rfl), by kernel_rfl⟩
theorem keepin_ff : keepIn (Kf w) (.ref 167) = true := by kernel_rfl
theorem Reps.strs {c : Cx} {g g' : Heap} : ∀ {xs : List Str} {vs : List Value}, Reps c g (sL xs) vs → Reps c g' (sL xs) vs
  | [], _, .nil => .nil
  | _ :: _, _, .cons (.str x t) r => .cons (.str x t) (Reps.strs r)
/-- list(x) of such an iterator -/
theorem ff_list {A : Around} {g : Heap} {s : Shared} {x dx mw it l sk : Addr} {xs ys : List Str} {Q : Value → Shared → Prop} {E : Value → Shared → Prop} (hh : A.handled = none) (hdp : A.depth < recursionLimit) (hfr : ∃ l, A.frames = some l ∧ ∀ e ∈ l, e.scope.kind ≠ .module ∧ ∃ a, e.frame = some a)
    (S : FFS w (fr A) g x dx mw it l sk xs ys 0 s.heap) (hxs : xs.length ≤ 1000)
    (h : ∀ h' tk acc' cc', (∀ a, a ≠ it → a ≠ s.heap.objs.size → Kp (fr A) s.heap h' a) → h'.get? s.heap.objs.size = some { cls := .type "list", dict := none, data := .seq acc' cc', slots := #[] } → Reps (cx w) g (sL (xs.filter fun y => !ys.contains y)) acc'.toList → Q (.ref s.heap.objs.size) { s with heap := h', toks := tk }) :
    wpAny (model (cx w).prog (cx w).w) A (call (.type "list") [.ref x]) Q E s := by
  refine callType_codes (Q₁ := fun obj s₁ => obj = .ref s.heap.objs.size ∧ s₁ = { s with heap := s.heap.push { cls := .type "list", data := .seq #[] } }) F.called_list (F.typeCall_list_1 _) F.entry_list_init (code_list_new _ ⟨rfl, rfl⟩) fun obj s₁ h₁ => ?_
  obtain ⟨rfl, rfl⟩ := h₁
  have hS : (s.heap.push { cls := .type "list", data := .seq #[] }).get? s.heap.objs.size = some { cls := .type "list", data := .seq #[] } := Heap.get?_push_size _ rfl
  refine ⟨⟨_, hS, rfl⟩, F.args_list_init_2 _ _, ?_⟩
  have gS : g.get? s.heap.objs.size = none := ge_none S.top.le (Nat.le_refl _)
  have nS : s.heap.objs.size ≠ it := by
    obtain ⟨o, e, _⟩ := S.it
    exact Nat.ne_of_gt (Heap.lt_size e)
  have nF : ¬ fr A s.heap.objs.size := fun z => (S.top.fl _ z).2.some (get_size _)
  have S1 := S.move gS nS nF (h' := s.heap.push { cls := .type "list", data := .seq #[] }) fun a o _ e => Heap.get?_push_of_some _ e
  show wpAny _ A.in1.in1 (do let old ← Builtin.List.listItems (.ref s.heap.objs.size); Builtin.List.listUpdate (.ref s.heap.objs.size) (fun _ => #[]); letGo old.toList.reverse; Builtin.List.listExtendWith (.ref s.heap.objs.size) (.ref x) .none) _ _ _
  refine wpAny_bind ?_
  unfold Builtin.List.listItems
  refine wpAny_bind (wpAny_seqItems hS rfl (wpAny_pure ?_))
  show wpAny _ A.in1.in1 (updateSeq s.heap.objs.size (fun _ => #[]) >>= fun _ => letGo (#[] : Array Value).toList.reverse >>= fun _ => Builtin.List.listExtendWith (.ref s.heap.objs.size) (.ref x) .none) _ _ _
  refine wpAny_bind (wpAny_updateSeq hS rfl ?_)
  have hS2 := Heap.get?_update_self (Obj.mapSeq (fun _ => (#[] : Array Value))) hS rfl
  have S2 := S1.move gS nS nF (h' := (s.heap.push { cls := .type "list", data := .seq #[] }).update s.heap.objs.size (Obj.mapSeq (fun _ => (#[] : Array Value)))) fun a o ha e => (Heap.get?_update_other _ _ (Ne.symm ha)).trans e
  refine wpAny_bind (wpAny_letGo ?_)
  have k2 : ∀ a, a ≠ it → a ≠ s.heap.objs.size → Kp (fr A) s.heap ((s.heap.push { cls := .type "list", data := .seq #[] }).update s.heap.objs.size (Obj.mapSeq (fun _ => (#[] : Array Value)))) a := fun a _ ha => Kp.of fun o e => (Heap.get?_update_other _ _ (Ne.symm ha)).trans (Heap.get?_push_of_some _ e)
  generalize (s.heap.push { cls := .type "list", data := .seq #[] }).update s.heap.objs.size (Obj.mapSeq (fun _ => (#[] : Array Value))) = H2 at hS2 S2 k2 ⊢
  have X2 : (Kf w).In H2 := S2.wf.K.keeps S2.top.le
  have I2 : InstAt H2 x (ffObj dx mw it) 167 (some emptyDict) := ⟨S2.top.le _ _ S2.gx, rfl, rfl, S2.top.le _ _ S2.gdx⟩
  have xS : s.heap.objs.size ≠ x := fun q => by
    have := S.gx
    rw [← q, gS] at this; cases this
  unfold Builtin.List.listExtendWith
  refine wpAny_bind (I2.type.here ?_)
  have h1 : Builtin.List.listSameRef (.ref s.heap.objs.size) (.ref x) = false := by simp [Builtin.List.listSameRef, xS]
  have h2 : (Value.ref 167 == Value.type "list") = false := by decide
  have h3 : (Value.ref 167 == Value.type "tuple") = false := by decide
  simp only [h1, h2, h3, Bool.or_false, Bool.false_eq_true, if_false]
  refine wpAny_bind (inst_iter X2 I2 ff_iter ff_fn156 ff_next (wpAny_call (ff_iter_run (s := { s with heap := H2 }) S2.wf S2.top.le hdp fun H3 t3 k3 => ⟨rfl, k3, ?_⟩)))
  have S3 := S2.move (S' := s.heap.objs.size) gS nS nF (h' := H3) fun a o _ e => k3 _ _ e
  have hS3 := k3 _ _ hS2
  have X3 : (Kf w).In H3 := S3.wf.K.keeps S3.top.le
  have I3 : InstAt H3 x (ffObj dx mw it) 167 (some emptyDict) := ⟨S3.top.le _ _ S3.gx, rfl, rfl, S3.top.le _ _ S3.gdx⟩
  refine wpAny_bind (wpAny_holding ?_)
  unfold Builtin.List.listLengthHint
  unfold specialOf
  refine wpAny_bind (wpAny_bind (I3.type.here ((looks_findIn X3 ff_dm_len).here ?_)))
  show wpAny _ _ ((typeOf (.ref x) >>= fun t => typeLookup t "__length_hint__") >>= _) _ _ _
  refine wpAny_bind (wpAny_bind (I3.type.here ((looks_findIn X3 ff_dm_hint).here ?_)))
  refine wpAny_pure ?_
  show wpAny _ _ (rule "list.extend.makes-room" >>= fun _ => Builtin.List.listTouch (.ref s.heap.objs.size) >>= fun _ =>
    again (.builtin "list.extend.loop" ⟨[.ref s.heap.objs.size, .ref x, .none], []⟩)) _ _ _
  refine wpAny_bind (wpAny_rule ?_)
  refine wpAny_bind ?_
  show wpAny _ _ (updateSeq s.heap.objs.size (·.push .none) >>= fun _ => updateSeq s.heap.objs.size (·.pop)) _ _ _
  refine wpAny_bind (wpAny_updateSeq hS3 rfl ?_)
  have hS4 := Heap.get?_update_self (Obj.mapSeq (·.push Value.none)) hS3 rfl
  refine wpAny_updateSeq (hz := by seq_fits) hS4 rfl ?_
  have hS5 := Heap.get?_update_self (Obj.mapSeq (·.pop)) hS4 rfl
  have S5 := S3.move (S' := s.heap.objs.size) gS nS nF (h' := (H3.update s.heap.objs.size (Obj.mapSeq (·.push Value.none))).update s.heap.objs.size (Obj.mapSeq (·.pop))) fun a o ha e => (Heap.get?_update_other _ _ (Ne.symm ha)).trans ((Heap.get?_update_other _ _ (Ne.symm ha)).trans e)
  have k5 : ∀ a, a ≠ it → a ≠ s.heap.objs.size → Kp (fr A) s.heap ((H3.update s.heap.objs.size (Obj.mapSeq (·.push Value.none))).update s.heap.objs.size (Obj.mapSeq (·.pop))) a := fun a h1 ha => (k2 a h1 ha).trans (Kp.of fun o e => (Heap.get?_update_other _ _ (Ne.symm ha)).trans ((Heap.get?_update_other _ _ (Ne.symm ha)).trans (k3 _ _ e)))
  refine wpAny_pure ⟨plainId_quiet F.plain_extend_loop _, ff_loop (A := A.in1) (x := x) (it := it) hh hdp hfr gS nS nF hxs xs.length 0 { s with heap := (H3.update s.heap.objs.size (Obj.mapSeq (·.push Value.none))).update s.heap.objs.size (Obj.mapSeq (·.pop)), toks := t3 } _ _ [] (by omega) S5 hS5 .nil (by simpa using hxs) fun h' tk acc' cc' k' hS' r' => ?_⟩
  refine ⟨rfl, h h' tk acc' cc' (fun a h1 h2 => (k5 a h1 h2).trans (k' a h1 h2)) hS' ?_⟩
  simpa using r'
end
section
variable {w : World} {n : Nat} {env : Env} {σ : Sto}
theorem plainly_ff {h : Heap} (X : (Kf w).In h) : Plainly (model (cx w).prog (cx w).w) h (.ref 167) := by
  obtain ⟨k, a, b⟩ := looks_keep (M := model (cx w).prog (cx w).w) keepin_ff X
  exact ⟨k, a.elim .inl (fun e => .inr (.inl e)), b⟩
theorem sp_filter : FilterOk w := by
  intro xs ys hx hy
  refine Fn.prim' (by walk_at "fn") ["flist", "skip"] [("flist", .val (.list (sL xs))), ("skip", .val (.list (sL ys)))] (by kernel_rfl) rfl (by kernel_rfl) (by kernel_rfl) (vs2 fun a b => rfl) fun env hs => ?_
  conv => arg 5; whnf
  refine X.ret ⟨fun A g₀ b g m ow s R S => ?_⟩
  have ks : env.scope.kind = .function := S.kind
  refine callR1 (f := .none) (Glob.evalR (g := g) glob_list ks (kindOf_of hs (by kernel_rfl)) S.glob S.bui S.kg S.wf (callR2 (f := .none) (Glob.evalR (g := g) glob_ff ks (kindOf_of hs (by kernel_rfl)) S.glob S.bui S.kg S.wf (Attribute_any_ (wpAny_Name (loadVal S (d := .list (sL ys)) (by walk_at "gets") (fun v rv => ?_) (by kernel_rfl)) (by kernel_rfl))))))
  cases rv with
  | list hsk rsk =>
    rename_i sk sks
    refine getAttr_contains (isList_le S.kg hsk) (fun o e => (isL_le S.kg hsk).noDict o e) ?_
    generalize hH1 : s.heap.push { cls := .type "method-wrapper", data := .fields #[.builtin "list.__contains__", .ref sk] } = H1
    have k1 : Le s.heap H1 := hH1 ▸ le_push _ _
    have z1 : H1.objs.size = s.heap.objs.size + 1 := by rw [← hH1, Heap.size_push]
    have eM : H1.get? s.heap.objs.size = some { cls := .type "method-wrapper", data := .fields #[.builtin "list.__contains__", .ref sk] } := hH1 ▸ Heap.get?_push_size _ rfl
    have S1 := S.grow (g' := g) (h' := H1) (Grow.of k1 (Le.refl _) (S.kg.trans k1) fun _ _ e => .inl e)
    refine wpAny_Name (loadVal (s := { s with heap := H1, toks := s.toks + 1 }) S1 (d := .list (sL xs)) (by walk_at "gets") (fun v2 rv2 => ?_) (by kernel_rfl)) (by kernel_rfl)
    cases rv2 with
    | list hl rl =>
      rename_i l items
      have lg1 : Le g H1 := S1.kg
      refine ⟨plainly_ff (S.wf.K.keeps lg1), wpAny_call ?_⟩
      have hdp : A.depth + 1 < recursionLimit := by have := R.dp; show A.depth + 1 < 1000; omega
      have Y := makes_of (M := model (cx w).prog (cx w).w) (S.wf.K.keeps lg1) ff_makes
      refine make_core (h := H1) (C := 167) (init := .ref 149) Y (looks_findIn (S.wf.K.keeps lg1) ff_init) (fun self => bind_fn (S.wf.K.keeps lg1) self ff_fn149) (.inl rfl) ?_
      generalize hH2 : (H1.push emptyDict).push (instObj 167 H1.objs.size) = H2
      have k2 : Le H1 H2 := hH2 ▸ (le_push _ _).trans (le_push _ _)
      have ex : H2.get? (H1.objs.size + 1) = some (instObj 167 H1.objs.size) := by
        have := Heap.get?_push_size (H1.push emptyDict) (o := instObj 167 H1.objs.size) rfl
        rw [Heap.size_push] at this
        rw [← hH2]; exact this
      have ed : H2.get? H1.objs.size = some emptyDict := by rw [← hH2]; exact Heap.get?_push_of_some _ (Heap.get?_push_size _ rfl)
      have gx : g.get? (H1.objs.size + 1) = none := ge_none S.kg (by omega)
      have gd : g.get? H1.objs.size = none := ge_none S.kg (by omega)
      have gm : g.get? s.heap.objs.size = none := ge_none S.kg (Nat.le_refl _)
      have lg2 : Le g H2 := lg1.trans k2
      refine ff_init_run (g := g) (s := { s with heap := H2, toks := s.toks + 1 }) (dx := H1.objs.size) S.wf lg2 ex ed gx (isL_le lg2 hl) hdp fun h3 t3 it k3 itn hit hx3 => ⟨rfl, Plainly.type, ?_⟩
      have nx : ∀ a o, s.heap.get? a = some o → a ≠ H1.objs.size + 1 := fun a o e q => by
        have := Heap.lt_size e
        rw [q] at this
        have h4 : (H1.objs.size + 1 : Nat) < s.heap.objs.size := this
        omega
      have k4 : Le s.heap h3 := fun a o e => k3 _ _ (nx a o e) (k2 _ _ (k1 _ _ e))
      have mn : s.heap.objs.size ≠ H1.objs.size + 1 := by
        intro q
        have : (s.heap.objs.size : Nat) = H1.objs.size + 1 := q
        omega
      have dn : H1.objs.size ≠ H1.objs.size + 1 := Nat.ne_of_lt (Nat.lt_succ_self _)
      have eM3 := k3 _ _ mn (k2 _ _ eM)
      have eD3 := k3 _ _ dn ed
      let P : Addr → Bool := fun a => (g.get? a).isSome || decide (a = H1.objs.size + 1) || decide (a = H1.objs.size) || decide (a = s.heap.objs.size)
      have lP : Le g (only h3 P) := fun a o e => by
        rw [only_get, if_pos (by simp [P, e])]
        exact k4 _ _ (S.kg _ _ e)
      have nP : ∀ a o, (only h3 P).get? a = some o → g.get? a = some o ∨ s.heap.get? a = none := fun a o e => by
        obtain ⟨e1, e2⟩ := only_some e
        cases q : g.get? a with
        | some o' =>
          have := k4 _ _ (S.kg _ _ q)
          rw [e2] at this; cases this
          exact .inl rfl
        | none =>
          refine .inr ?_
          have e1' : ((g.get? a).isSome || decide (a = H1.objs.size + 1) || decide (a = H1.objs.size) || decide (a = s.heap.objs.size)) = true := e1
          rw [q] at e1'
          simp only [Option.isSome_none, Bool.false_or, Bool.or_eq_true, decide_eq_true_eq] at e1'
          refine Heap.get?_none_of_le ?_
          rcases e1' with (e3 | e3) | e3 <;> rw [e3] <;> first | exact Nat.le_refl _ | (show (s.heap.objs.size : Nat) ≤ _; omega)
      have itS : s.heap.get? it = none := by
        cases q : s.heap.get? it with
        | none => rfl
        | some o => have := k2 _ _ (k1 _ _ q); rw [itn] at this; cases this
      have F0 : FFS w (fr A) (only h3 P) (H1.objs.size + 1) H1.objs.size s.heap.objs.size it l sk xs ys 0 h3 := by
        refine ⟨⟨fun a o e => (only_some e).2, fun a ha => ⟨?_, ?_⟩⟩, S.wf.le lP, ?_, ?_, ⟨none, #[], ?_⟩, ⟨items, isL_le lP hl, Reps.strs rl⟩, ⟨sks, isL_le lP hsk, Reps.strs rsk⟩, ?_, hit, Nat.zero_le _⟩
        · cases q : (only h3 P).get? a with
          | none => rfl
          | some o =>
            rcases nP a o q with z | z
            · rw [(S.fl a ha).1] at z; cases z
            · exact absurd z (S.isD ha).some
        · obtain ⟨o, es, ep, e, hd⟩ := S.isD ha
          exact ⟨o, es, ep, k4 _ _ e, hd⟩
        · rw [only_get, if_pos (by simp [P])]; exact hx3
        · rw [only_get, if_pos (by simp [P])]; exact eD3
        · rw [only_get, if_pos (by simp [P])]; exact eM3
        · cases q : (only h3 P).get? it with
          | none => rfl
          | some o =>
            exfalso
            have e1' : ((g.get? it).isSome || decide (it = H1.objs.size + 1) || decide (it = H1.objs.size) || decide (it = s.heap.objs.size)) = true := (only_some q).1
            have gi : g.get? it = none := S.kg.none itS
            rw [gi] at e1'
            simp only [Option.isSome_none, Bool.false_or, Bool.or_eq_true, decide_eq_true_eq] at e1'
            have itn' : H2.get? it = none := itn
            rcases e1' with (e3 | e3) | e3
            · rw [e3, ex] at itn'; cases itn'
            · rw [e3, ed] at itn'; cases itn'
            · rw [e3, k2 _ _ eM] at itn'; cases itn'
      refine ff_list (s := { s with heap := h3, toks := t3 }) R.hh (by show A.depth < 1000; have := R.dp; omega) R.frs F0 (by omega) fun h5 t5 acc cc k5 hS5 r5 => ?_
      have ne : ∀ a o, s.heap.get? a = some o → a ≠ it ∧ a ≠ h3.objs.size := fun a o e => ⟨fun q => (by rw [q, itS] at e; cases e), Nat.ne_of_lt (Heap.lt_size (k4 _ _ e))⟩
      refine ⟨only h5 fun a => (g.get? a).isSome || decide (a = h3.objs.size), h5, t5, rfl, ⟨⟨fun a o nf e => ?_, fun a o e => ?_⟩, fun a o e => ?_, fun a o e => (only_some e).2, fun a o e => ?_⟩, ?_⟩
      · exact (k5 a (ne a o e).1 (ne a o e).2).at nf (k4 _ _ e)
      · exact (k5 a (ne a o e).1 (ne a o e).2).sl (k4 _ _ e)
      · have e' := S.kg _ _ e
        rw [only_get, if_pos (by simp [e])]
        exact (k5 a (ne a o e').1 (ne a o e').2).at (fun z => by rw [(S.fl a z).1] at e; cases e) (k4 _ _ e')
      · obtain ⟨e1, e2⟩ := only_some e
        rcases Bool.or_eq_true_iff.mp e1 with e1 | e1
        · obtain ⟨o', q⟩ := Option.isSome_iff_exists.mp e1
          have e' := S.kg _ _ q
          have := (k5 a (ne a o' e').1 (ne a o' e').2).at (fun z => by rw [(S.fl a z).1] at q; cases q) (k4 _ _ e')
          rw [e2] at this; cases this
          exact .inl q
        · have : a = h3.objs.size := by simpa using e1
          refine .inr (k4.none ?_)
          rw [this]; exact get_size _
      · exact .list ⟨_, by rw [only_get, if_pos (by simp)]; exact hS5, rfl, rfl, _, rfl⟩ (Reps.strs r5)
end
section
variable {w : World} {n : Nat} {env : Env} {σ : Sto}
theorem glob_tuple : Glob (cx w) "tuple" (.type "tuple") := ⟨.inr ⟨by kernel_rfl, by kernel_rfl, by decide +kernel⟩, by kernel_rfl⟩
theorem glob_map : Glob (cx w) "map" (.type "map") := ⟨.inr ⟨by kernel_rfl, by kernel_rfl, by decide +kernel⟩, by kernel_rfl⟩
theorem glob_min : Glob (cx w) "min" (.builtin "min") := ⟨.inr ⟨by kernel_rfl, by kernel_rfl, by decide +kernel⟩, by kernel_rfl⟩
theorem glob_max : Glob (cx w) "max" (.builtin "max") := ⟨.inr ⟨by kernel_rfl, by kernel_rfl, by decide +kernel⟩, by kernel_rfl⟩
noncomputable abbrev dotS : Str := Str.ofString "."
noncomputable def compsOf (p : Str) : List Str := (Txt.split p slash).filter fun x => x.length != 0 && x != dotS
/-- what two lists share at their heads -/
noncomputable def cpre : List Str → List Str → List Str
  | x :: r, y :: t => if x == y then x :: cpre r t else []
  | _, _ => []
noncomputable def cmS : List Str → Str
  | [] => slash
  | p :: r => slash ++ Txt.join slash (cpre (minF (compsOf p) (r.map compsOf)) (maxF (compsOf p) (r.map compsOf)))
theorem slash_eq : slash = ⟨#[47]⟩ := by kernel_rfl
theorem join_len : ∀ (l : List Str), l ≠ [] → (Str.join slash l).length + 1 = (l.map (·.length)).sum + l.length
  | [], h => absurd rfl h
  | [x], _ => by
    show x.length + 1 = _
    simp
  | x :: y :: r, _ => by
    have h := join_len (y :: r) (by simp)
    have e : (Str.join slash (x :: y :: r)).length = x.length + slash.length + (Str.join slash (y :: r)).length := by
      show (x ++ slash ++ Str.join slash (y :: r)).length = _
      have e1 : ∀ a b : Str, (a ++ b).length = a.length + b.length := fun a b => Array.size_append
      rw [e1, e1]
    rw [e, slash_len]
    simp only [List.map_cons, List.sum_cons, List.length_cons] at h ⊢
    omega
theorem split_ne (p : Str) : Txt.split p slash ≠ [] := by
  unfold Txt.split
  split
  · simp
  · split
    · simp
    · unfold Builtin.Str.partsBetween
      rename_i h1 h2
      cases hq : Builtin.Str.occurrences p slash 0 p.length (p.length + 1) with
      | nil => simp
      | cons a r => simp
theorem split_sum (p : Str) : ((Txt.split p slash).map (·.length)).sum + (Txt.split p slash).length = p.length + 1 := by
  have h := join_len _ (split_ne p)
  rw [StrLaws.join_split] at h
  exact h.symm
theorem sum_mem {l : List Nat} {a : Nat} (h : a ∈ l) : a ≤ l.sum := by
  induction l with
  | nil => cases h
  | cons b r ih =>
    rw [List.sum_cons]
    rcases List.mem_cons.mp h with rfl | h
    · omega
    · have := ih h; omega
theorem sum_sublist {l l' : List Nat} (h : List.Sublist l l') : l.sum ≤ l'.sum := by
  induction h with
  | slnil => simp
  | cons a _ ih => rw [List.sum_cons]; omega
  | cons_cons a _ ih => rw [List.sum_cons, List.sum_cons]; omega
theorem parts_len (p : Str) (h : p.length ≤ 1000) : (Builtin.Str.partsBetween p (Builtin.Str.occurrences p slash 0 p.length (p.length + 1)) slash.length).length ≤ sizeLine := by
  unfold Builtin.Str.partsBetween
  have := StrLaws.occ_length_le p slash 0 p.length (p.length + 1)
  simp only [List.length_map, List.length_zip, List.length_cons, List.length_append, List.length_nil]
  rw [sizeLine_eq]
  omega
theorem comps_sub (p : Str) : List.Sublist (compsOf p) (Txt.split p slash) := List.filter_sublist
theorem comps_sum (p : Str) : ((compsOf p).map (·.length)).sum + (compsOf p).length ≤ p.length + 1 := by
  have h := split_sum p
  have h1 := sum_sublist ((comps_sub p).map (·.length))
  have h2 := (comps_sub p).length_le
  omega
theorem cpre_sub : ∀ a b : List Str, List.Sublist (cpre a b) a
  | [], _ => by simp [cpre]
  | x :: r, [] => by simp [cpre]
  | x :: r, y :: t => by
    unfold cpre
    split
    · exact (cpre_sub r t).cons_cons x
    · exact List.nil_sublist _
theorem joinok_of {l : List Str} (h : (l.map (·.length)).sum + l.length ≤ 10000) : JoinOk slash l = true := by
  have key : ∀ (l : List Str) (a : Nat), l.foldl (fun a x => a + x.length + slash.length) a = a + (l.map (·.length)).sum + l.length := by
    intro l
    induction l with
    | nil => intro a; simp
    | cons x r ih =>
      intro a
      rw [List.foldl_cons, ih, slash_len]
      simp only [List.map_cons, List.sum_cons, List.length_cons]
      omega
  unfold JoinOk Builtin.Str.tooLong
  have e : l.toArray.foldl (fun a x => a + x.length + slash.length) 0 = l.foldl (fun a x => a + x.length + slash.length) 0 := by simp
  rw [e, key]
  simp only [Bool.not_eq_true', decide_eq_false_iff_not, sizeLine_eq]
  omega
theorem minF_mem : ∀ (l : List (List Str)) (b : List Str), minF b l ∈ b :: l
  | [], b => by simp [minF]
  | x :: r, b => by
    unfold minF
    rw [List.foldl_cons]
    have := minF_mem r (if ltL x b then x else b)
    unfold minF at this
    rcases List.mem_cons.mp this with e | e
    · rw [e]
      split <;> simp
    · exact .tail _ (.tail _ e)
theorem maxF_mem : ∀ (l : List (List Str)) (b : List Str), maxF b l ∈ b :: l
  | [], b => by simp [maxF]
  | x :: r, b => by
    unfold maxF
    rw [List.foldl_cons]
    have := maxF_mem r (if ltL b x then x else b)
    unfold maxF at this
    rcases List.mem_cons.mp this with e | e
    · rw [e]
      split <;> simp
    · exact .tail _ (.tail _ e)
end
section
variable {w : World} {n : Nat} {env : Env} {σ : Sto}
theorem start_true {q : Str} (h : AbsP q) : Txt.startswith q slash = true := h.1
theorem Ev.boolT {c : Cx} {e : Expr} {b : Bool} (x : Ev c n env σ e (.bool b)) (hb : b = true) : Ev c n env σ e (.bool true) := hb ▸ x
theorem kind_free_ne {scope : Scope} {env : Env} {C : Addr} {y : Str} (h : scope.names.lookup y = some .free) : (cEnv scope env C).kindOf y ≠ some .local := by
  show (relabel scope env).names.lookup y ≠ some .local
  rcases lookup_relabel_free (env := env) h with e | e
  · intro q; rw [show (relabel scope env).names.lookup y = _ from e] at q; cases q
  · intro q; rw [show (relabel scope env).names.lookup y = _ from e] at q; cases q
theorem split_each {q x : Str} (h : x ∈ Txt.split q slash) : x.length ≤ q.length + 1 := by
  have h1 := split_sum q
  have h2 := sum_mem (List.mem_map.mpr ⟨x, h, rfl⟩ : x.length ∈ (Txt.split q slash).map (·.length))
  omega
noncomputable def cmL (ps : List Str) (s1 s2 common : List Str) : Sto := [("paths", .val (.tup (sL ps))), ("sep", .cel (some (.str slash))), ("isabs", .val (.bool true)), ("s1", .val (.list (sL s1))), ("s2", .val (.list (sL s2))), ("common", .val (.list (sL common)))]
/-- the state behind the try's first statements -/
noncomputable def cmB (ps : List Str) : Sto := [("paths", .val (.tup (sL ps))), ("sep", .cel (some (.str slash))), ("curdir", .cel (some (.str dotS)))]
theorem slash_join_len (l : List Str) : (Txt.join slash l).length ≤ (l.map (·.length)).sum + l.length := by
  show (Builtin.Str.glued slash l).length ≤ _
  rw [StrLaws.glued_eq_join]
  have h0 := PySem.StrLaws.join_length_le slash l
  rw [slash_len] at h0
  omega
theorem sp_common {p : Str} {r : List Str} (hl : (p :: r).length ≤ 10) (h : ∀ q ∈ p :: r, AbsP q) : Prim (cx w) 12 [.list (sL (p :: r))] (fun vs => PySem.call (.ref 134) vs) (.str (cmS (p :: r))) := by
  refine Fn.prim' (by walk_at "fn") ["paths"] [("paths", .val (.list (sL (p :: r)))), ("sep", .cel none), ("curdir", .cel none)] (by kernel_rfl) rfl (by kernel_rfl) (by kernel_rfl) (vs1 fun a => rfl) fun env hs => ?_
  conv => arg 5; whnf
  have hlen : ∀ q ∈ p :: r, q.length ≤ sizeLine := fun q hq => lt_line (by have := (h q hq).2; omega)
  refine X.assign (d := .tup (sL (p :: r))) (Ev.tupMap (kk := 7) glob_tuple (by walk_at "kind") glob_map (by walk_at "kind") (Ev.glob glob_fspath (by walk_at "kind")) (by walk_at "ev") (fun q hq => (sp_fspath (hlen q hq)).le (by omega)) (by omega)) (by walk_at "kind") ?_
  refine X.ifF0 (Tr.not (y := true) (Tr.value (d := .tup (sL (p :: r))) (by walk_at "ev") (lt_line (by simp at hl ⊢; omega)) rfl rfl) rfl) ?_
  refine X.ifF (σ₁ := cmB (p :: r)) (Tr.value (d := .bool false) (Callee.ev glob_isinstance (by walk_at "kind") keep_bi (Evs.cons (d := .str p) (Ev.sub (by walk_at "ev") (by walk_at "ev") (get_ti (i := 0) (by omega) (by omega) rfl)) (Evs.cons (Ev.glob glob_bytes (by walk_at "kind")) Evs.nil)) isi_str_bytes) trivial rfl rfl) ?_ ?_
  · refine X.assignC (d := .str slash) (by walk_at "ev") (by walk_at "getd") ?_
    refine X.assignC (d := .str dotS) (by walk_at "ev") (by walk_at "getd") (Ex.nilW ?_)
    unfold cmB
    walk_at "weak"
  refine Ex.stop (Ex1.tryRet ?_) notnext_ret
  unfold cmB
  refine Ex.cons (Ex1.lcA D.str (fun q => .list (sL (Txt.split q slash))) (p :: r) [("sep", .str slash)] (d := .tup (sL (p :: r))) (by walk_at "ev") rfl (CompOk.of rfl (by kernel_rfl) rfl (.cel (by walk_at "getd") .nil)) (by walk_at "kind") TgtOk.name (lt_line (by omega)) (fun C q hq => ⟨_, Tg.nameL (by walk_at "kind"), weak_put rfl, ?_⟩) (swaps_true hs (by kernel_rfl) (by kernel_rfl) (by kernel_rfl) (by kernel_rfl))) ?_
  · with_reducible apply Ev.split
    · walk_at "ev"
    · walk_at "ev"
    · exact hlen q hq
    · exact (by kernel_rfl : (slash.length == 0) = false)
    · exact parts_len q (by have := (h q hq).2; omega)
    · walk_at "ur"
    · walk_at "ur"
    · walk_at "ur"
  refine Ex.cons (Ex1.tryy (Ex.one (Ex1.assignTup (d := .set1) (Ev.setTrue D.str (p :: r) [("sep", .str slash)] (d := .tup (sL (p :: r))) (by walk_at "ev") rfl (by simp) (CompOk.of rfl (by kernel_rfl) rfl (.cel (by walk_at "getd") .nil)) TgtOk.name (fun C q hq => ⟨_, Tg.nameL (by walk_at "kind"), weak_put rfl, ?_⟩)) (Tg.set1 (by walk_at "kind")))) Ex.nil) ?_
  · refine Ev.boolT (b := Txt.startswith q slash) ?_ (start_true (h q hq))
    walk_at "ev"
  refine Ex.cons (Ex1.lcA (fun q => .list (sL (Txt.split q slash))) (fun q => .list (sL (compsOf q))) (p :: r) [("curdir", .str dotS)] (d := .list ((p :: r).map fun q => .list (sL (Txt.split q slash)))) (by walk_at "ev") rfl (CompOk.of rfl (by kernel_rfl) rfl (.cel (by walk_at "getd") .nil)) (by walk_at "kind") TgtOk.name (lt_line (by omega)) (fun C q hq => ⟨_, Tg.nameL (by walk_at "kind"), weak_put rfl, ?_⟩) (swaps_true hs (by kernel_rfl) (by kernel_rfl) (by kernel_rfl) (by kernel_rfl))) ?_
  · have hq3 := (h q hq).2
    refine Ev.lc D.str (fun x => x.length != 0 && x != dotS) D.str (Txt.split q slash) [("curdir", .str dotS)] (d := .list (sL (Txt.split q slash))) (by walk_at "ev") rfl (CompOk.of rfl (by kernel_rfl) rfl (.val (by walk_at "getd") (kind_free_ne (by kernel_rfl)) .nil)) TgtOk.name (lt_line ?_) (fun C' x hx => ⟨_, Tg.nameL (by walk_at "kind"), weak_put rfl, Ts.one (Tr.boolop (Al.and2 (Tr.value (d := .str x) (by walk_at "ev") (lt_line ?_) rfl rfl) (fun _ => by walk_at "tr"))), fun _ => by walk_at "ev"⟩)
    · have := split_sum q
      omega
    · have := split_each hx
      omega
  rw [show ((p :: r).map fun q => D.list (sL (compsOf q))) = llD (compsOf p :: r.map compsOf) from by simp [llD]]
  refine X.assign (d := .list (sL (minF (compsOf p) (r.map compsOf)))) (Callee.ev glob_min (by walk_at "kind") keep_bi (Evs.cons (d := .list (llD (compsOf p :: r.map compsOf))) (by walk_at "ev") Evs.nil) min_ll) (by walk_at "kind") ?_
  refine X.assign (d := .list (sL (maxF (compsOf p) (r.map compsOf)))) (Callee.ev glob_max (by walk_at "kind") keep_bi (Evs.cons (d := .list (llD (compsOf p :: r.map compsOf))) (by walk_at "ev") Evs.nil) max_ll) (by walk_at "kind") ?_
  refine X.assign (d := .list (sL (minF (compsOf p) (r.map compsOf)))) (by walk_at "ev") (by walk_at "kind") ?_
  have hm1 := minF_mem (r.map compsOf) (compsOf p)
  have hm2 := maxF_mem (r.map compsOf) (compsOf p)
  have hle : ltL (maxF (compsOf p) (r.map compsOf)) (minF (compsOf p) (r.map compsOf)) = false := minF_le _ _ _ hm2
  obtain ⟨q0, hq0, e0⟩ : ∃ q ∈ p :: r, compsOf q = minF (compsOf p) (r.map compsOf) := by
    rcases List.mem_cons.mp hm1 with e | e
    · exact ⟨p, .head _, e.symm⟩
    · obtain ⟨q, h1, h2⟩ := List.mem_map.mp e
      exact ⟨q, .tail _ h1, h2⟩
  rw [cmS]
  generalize minF (compsOf p) (r.map compsOf) = s1 at hle e0 ⊢
  generalize maxF (compsOf p) (r.map compsOf) = s2 at hle ⊢
  have hs1 := comps_sum q0
  rw [e0] at hs1
  have hq3 := (h q0 hq0).2
  refine Ex.weak (σ₂ := cmL (p :: r) s1 s2 s1) ?_ (by unfold cmL; walk_at "weak")
  refine Ex.cons (σ' := cmL (p :: r) s1 s2 (cpre s1 s2)) (Ex1.forEnum (ds := sL s1) (glob_enum.callee (by walk_at "kind") keep_ty) (Evs.cons (by unfold cmL; walk_at "ev") Evs.nil) ⟨_, _, _, rfl⟩ ?_) ?_
  · refine (?_ : ∀ (rem1 pre rem2 : List Str), s1 = pre ++ rem1 → s2 = pre ++ rem2 → ltL rem2 rem1 = false → Lp (cx w) 11 env _ _ _ (enumD pre.length (sL rem1)) (cmL (p :: r) s1 s2 s1) (.next (cmL (p :: r) s1 s2 (pre ++ cpre rem1 rem2)))) s1 [] s2 rfl rfl hle
    intro rem1
    induction rem1 with
    | nil =>
      intro pre rem2 e1 e2 hlt
      rw [show pre ++ cpre [] rem2 = s1 from by rw [e1]; simp [cpre]]
      exact Lp.nil Ex.nil
    | cons x t ih =>
      intro pre rem2 e1 e2 hlt
      cases rem2 with
      | nil => cases hlt
      | cons y u =>
        have hx : s1[pre.length]? = some x := by rw [e1]; simp
        have hy : s2[pre.length]? = some y := by rw [e2]; simp
        have hpl : pre.length < s1.length := by rw [e1]; simp
        by_cases hxy : x = y
        · subst hxy
          rw [ltL_cons_same] at hlt
          have := ih (pre ++ [x]) u (by rw [e1]; simp) (by rw [e2]; simp) hlt
          rw [show (pre ++ [x]) ++ cpre t u = pre ++ cpre (x :: t) (x :: u) from by rw [cpre, if_pos (by simp)]; simp, show (pre ++ [x]).length = pre.length + 1 from by simp] at this
          refine Lp.next TgtOk.tup (Tg.tup (ds := [.int (pre.length : Nat), .str x]) (Tgs.cons (Tg.nameL (by walk_at "kind")) (Tgs.cons (Tg.nameL (by walk_at "kind")) Tgs.nil)) rfl) (σ₂ := cmL (p :: r) s1 s2 s1) ?_ (fun _ _ e => ⟨_, e, .inl rfl⟩) this
          refine Ex.one (Ex1.iff (y := (x != x)) (Tr.cmp (by unfold cmL; walk_at "ev") (Ev.sub (d := .list (sL s2)) (e := .int (pre.length : Nat)) (f := .str x) (by unfold cmL; walk_at "ev") (by unfold cmL; walk_at "ev") (get_li (by omega) (by omega) (by rw [Int.toNat_natCast, List.getElem?_map, hy]; rfl))) ne_ss) (fun e => by simp at e) (fun _ => Ex.nilW (by unfold cmL; walk_at "weak")))
        · rw [show pre ++ cpre (x :: t) (y :: u) = pre from by rw [cpre, if_neg (by simpa using hxy)]; simp]
          have et : (sL s1).take pre.length = sL pre := by rw [e1]; simp [sL]
          have hsl : SlP (cx w) 11 (.list (sL s1)) none (some (pre.length : Int)) (.list (sL pre)) := by
            have := slice_l_to (c := cx w) (n := 11) (ds := sL s1) (k := pre.length) (lt_line (by simp; omega))
            rwa [et] at this
          refine Lp.after (Lp.brk TgtOk.tup (Tg.tup (ds := [.int (pre.length : Nat), .str x]) (Tgs.cons (Tg.nameL (by walk_at "kind")) (Tgs.cons (Tg.nameL (by walk_at "kind")) Tgs.nil)) rfl)
            (Ex.one (Ex1.iff (y := (x != y)) (Tr.cmp (by unfold cmL; walk_at "ev") (Ev.sub (d := .list (sL s2)) (e := .int (pre.length : Nat)) (f := .str y) (by unfold cmL; walk_at "ev") (by unfold cmL; walk_at "ev") (get_li (by omega) (by omega) (by rw [Int.toNat_natCast, List.getElem?_map, hy]; rfl))) ne_ss)
              (fun _ => X.assign (d := .list (sL pre)) (Ev.slice (i := none) (j := some (pre.length : Int)) (by unfold cmL; walk_at "ev") trivial (evo_some (by unfold cmL; walk_at "ev")) hsl) (by walk_at "kind") (Ex.one Ex1.brk))
              (fun e => by simp [hxy] at e)))) (by unfold cmL; walk_at "weak")
  · have hc := cpre_sub s1 s2
    have hsum := sum_sublist (hc.map (·.length))
    have hcl := hc.length_le
    unfold cmL
    refine X.assign (d := .str slash) (Ev.ifexp (x := true) (Tr.nameB (by walk_at "ev")) (fun _ => by walk_at "ev") (fun e => by cases e)) (by walk_at "kind") ?_
    have hj : JoinOk slash (cpre s1 s2) = true := joinok_of (by omega)
    refine X.ret (Ev.bin (by walk_at "ev") (Ev.join (xs := cpre s1 s2) (by walk_at "ev") (by walk_at "ev") hj) (add_ss (lt_line ?_)))
    have := slash_join_len (cpre s1 s2)
    rw [slash_len]
    omega
end
section
variable {w : World} {n : Nat} {env : Env} {σ : Sto}
noncomputable def pathStr (cs : List Str) : Str := slash ++ Txt.join slash cs
theorem start_slash (x : Str) : Txt.startswith (slash ++ x) slash = true := by
  unfold Txt.startswith
  rw [StrLaws.subAt_eq, Bool.and_eq_true]
  constructor
  · rw [decide_eq_true_eq, Str.length_append]
    omega
  · rw [Str.cps_append, slash_eq]
    simp [Str.length]
theorem cmS_path (p : Str) (r : List Str) : cmS (p :: r) = pathStr (cpre (minF (compsOf p) (r.map compsOf)) (maxF (compsOf p) (r.map compsOf))) := rfl
theorem cmS_len {p : Str} {r : List Str} {k : Nat} (h : ∀ q ∈ p :: r, q.length ≤ k) : (cmS (p :: r)).length ≤ k + 2 := by
  rw [cmS_path, pathStr, Str.length_append, slash_len]
  have h1 := slash_join_len (cpre (minF (compsOf p) (r.map compsOf)) (maxF (compsOf p) (r.map compsOf)))
  have hc := cpre_sub (minF (compsOf p) (r.map compsOf)) (maxF (compsOf p) (r.map compsOf))
  have hsum := sum_sublist (hc.map (·.length))
  have hcl := hc.length_le
  obtain ⟨q0, hq0, e0⟩ : ∃ q ∈ p :: r, compsOf q = minF (compsOf p) (r.map compsOf) := by
    rcases List.mem_cons.mp (minF_mem (r.map compsOf) (compsOf p)) with e | e
    · exact ⟨p, .head _, e.symm⟩
    · obtain ⟨q, h1, h2⟩ := List.mem_map.mp e
      exact ⟨q, .tail _ h1, h2⟩
  have hs := comps_sum q0
  rw [e0] at hs
  have := h q0 hq0
  omega
theorem common_ok : CommonOk w cmS where
  call := fun ps h1 h2 h3 => match ps, h1 with
    | _ :: _, _ => sp_common h2 h3
  abs := fun ps h1 h2 h3 => match ps, h1 with
    | _ :: _, _ => ⟨start_slash _, Nat.le_trans (cmS_len fun q hq => (h3 q hq).2) (by omega)⟩
end
section
/-! texts of paths -/
noncomputable abbrev ch (x : Str) : List Nat := x.cps.toList
theorem str_ext {x y : Str} (h : ch x = ch y) : x = y := cps_ext h
theorem ch_append (x y : Str) : ch (x ++ y) = ch x ++ ch y := by
  show (x.cps ++ y.cps).toList = _
  rw [Array.toList_append]
theorem ch_len (x : Str) : (ch x).length = x.length := by simp [Str.length]
theorem ch_slash : ch slash = [47] := by rw [slash_eq]
noncomputable def GoodC (x : Str) : Prop := ch x ≠ [] ∧ ∀ c ∈ ch x, 48 ≤ c
noncomputable def flat : List Str → List Nat
  | [] => []
  | x :: r => 47 :: (ch x ++ flat r)
theorem flat_append : ∀ a b : List Str, flat (a ++ b) = flat a ++ flat b
  | [], b => rfl
  | x :: r, b => by
    show 47 :: (ch x ++ flat (r ++ b)) = 47 :: (ch x ++ flat r) ++ flat b
    rw [flat_append r b]; simp
theorem ch_join : ∀ (x : Str) (r : List Str), ch (Str.join slash (x :: r)) = ch x ++ flat r
  | x, [] => by show ch x = _; simp [flat]
  | x, y :: r => by
    show ch (x ++ slash ++ Str.join slash (y :: r)) = _
    rw [ch_append, ch_append, ch_slash, ch_join y r]
    simp [flat]
theorem tjoin (l : List Str) : Txt.join slash l = Str.join slash l := StrLaws.glued_eq_join slash l
theorem ch_path_cons (x : Str) (r : List Str) : ch (pathStr (x :: r)) = flat (x :: r) := by
  unfold pathStr
  rw [ch_append, ch_slash, tjoin, ch_join]
  rfl
theorem pathStr_nil : pathStr [] = slash := by kernel_rfl
theorem ch_path : ∀ cs : List Str, cs ≠ [] → ch (pathStr cs) = flat cs
  | [], h => absurd rfl h
  | x :: r, _ => ch_path_cons x r
theorem path_as_join (x : Str) (r : List Str) : pathStr (x :: r) = Str.join slash (⟨#[]⟩ :: x :: r) := by
  apply str_ext
  rw [ch_path_cons, ch_join]
  rfl
theorem uniq_aux : ∀ (r t : List Str) (x y : List Nat), 47 ∉ x → 47 ∉ y → (∀ z ∈ r, 47 ∉ ch z) → (∀ z ∈ t, 47 ∉ ch z) → x ++ flat r = y ++ flat t → x = y ∧ r = t := by
  intro r
  induction r with
  | nil =>
    intro t x
    induction x with
    | nil =>
      intro y _ hy _ _ e
      cases y with
      | nil =>
        cases t with
        | nil => exact ⟨rfl, rfl⟩
        | cons b t => simp [flat] at e
      | cons d y => simp [flat] at e
    | cons c x ih =>
      intro y hx hy hr ht e
      cases y with
      | nil =>
        cases t with
        | nil => simp [flat] at e
        | cons b t =>
          simp only [flat, List.nil_append, List.cons_append, List.cons.injEq] at e
          exact absurd (List.mem_cons.mpr (.inl e.1.symm)) hx
      | cons d y =>
        simp only [List.cons_append, List.cons.injEq] at e
        obtain ⟨a, b⟩ := ih y (fun h => hx (.tail _ h)) (fun h => hy (.tail _ h)) hr ht e.2
        exact ⟨by rw [e.1, a], b⟩
  | cons a r ihr =>
    intro t x
    induction x with
    | nil =>
      intro y _ hy hr ht e
      cases y with
      | nil =>
        cases t with
        | nil => simp [flat] at e
        | cons b t =>
          simp only [flat, List.nil_append, List.cons.injEq, true_and] at e
          obtain ⟨p, q⟩ := ihr t (ch a) (ch b) (hr a (.head _)) (ht b (.head _)) (fun z hz => hr z (.tail _ hz)) (fun z hz => ht z (.tail _ hz)) e
          exact ⟨rfl, by rw [str_ext p, q]⟩
      | cons d y =>
        simp only [flat, List.nil_append, List.cons_append, List.cons.injEq] at e
        exact absurd (List.mem_cons.mpr (.inl e.1)) hy
    | cons c x ih =>
      intro y hx hy hr ht e
      cases y with
      | nil =>
        cases t with
        | nil => simp [flat] at e
        | cons b t =>
          simp only [flat, List.nil_append, List.cons_append, List.cons.injEq] at e
          exact absurd (List.mem_cons.mpr (.inl e.1.symm)) hx
      | cons d y =>
        simp only [List.cons_append, List.cons.injEq] at e
        obtain ⟨p, q⟩ := ih y (fun h => hx (.tail _ h)) (fun h => hy (.tail _ h)) hr ht e.2
        exact ⟨by rw [e.1, p], q⟩
theorem join_inj {l1 l2 : List Str} (h1 : l1 ≠ []) (h2 : l2 ≠ []) (f1 : ∀ z ∈ l1, 47 ∉ ch z) (f2 : ∀ z ∈ l2, 47 ∉ ch z) (e : Str.join slash l1 = Str.join slash l2) : l1 = l2 := by
  cases l1 with
  | nil => exact absurd rfl h1
  | cons x r =>
    cases l2 with
    | nil => exact absurd rfl h2
    | cons y t =>
      have := congrArg ch e
      rw [ch_join, ch_join] at this
      obtain ⟨a, b⟩ := uniq_aux r t (ch x) (ch y) (f1 x (.head _)) (f2 y (.head _)) (fun z hz => f1 z (.tail _ hz)) (fun z hz => f2 z (.tail _ hz)) this
      rw [str_ext a, b]
theorem GoodC.free {x : Str} (h : GoodC x) : 47 ∉ ch x := fun hm => absurd (h.2 _ hm) (by omega)
theorem split_join (l : List Str) (h : l ≠ []) (f : ∀ z ∈ l, 47 ∉ ch z) : Txt.split (Str.join slash l) slash = l := by
  refine join_inj (split_ne _) h ?_ f (StrLaws.join_split _ _)
  intro z hz
  rw [slash_eq] at hz
  exact StrLaws.split_free _ 47 z hz
noncomputable def GoodL (cs : List Str) : Prop := ∀ z ∈ cs, GoodC z
theorem GoodL.append {a b : List Str} (ha : GoodL a) (hb : GoodL b) : GoodL (a ++ b) := fun z hz => (List.mem_append.mp hz).elim (ha z) (hb z)
theorem GoodL.one {x : Str} (h : GoodC x) : GoodL [x] := fun z hz => by rw [List.mem_singleton.mp hz]; exact h
theorem GoodL.nil : GoodL [] := fun z hz => by cases hz
theorem GoodL.cons {x : Str} {r : List Str} (h : GoodC x) (hr : GoodL r) : GoodL (x :: r) := fun z hz => (List.mem_cons.mp hz).elim (fun e => e ▸ h) (hr z)
theorem dot_eq : dotS = ⟨#[46]⟩ := by kernel_rfl
theorem good_keep {x : Str} (h : GoodC x) : (x.length != 0 && x != dotS) = true := by
  rw [Bool.and_eq_true, bne_iff_ne, bne_iff_ne]
  constructor
  · intro e
    rw [← ch_len] at e
    exact h.1 (List.length_eq_zero_iff.mp e)
  · intro e
    have := h.2 46 (by rw [e, dot_eq]; simp [ch])
    omega
theorem comps_path {cs : List Str} (h : GoodL cs) : compsOf (pathStr cs) = cs := by
  unfold compsOf
  cases cs with
  | nil => kernel_rfl
  | cons x r =>
    rw [path_as_join, split_join _ (by simp)]
    · rw [List.filter_cons, if_neg (by decide +kernel), List.filter_eq_self]
      exact fun z hz => good_keep (h z hz)
    · intro z hz
      rcases List.mem_cons.mp hz with rfl | hz
      · exact List.not_mem_nil
      · exact (h z hz).free
theorem path_inj {a b : List Str} (ha : GoodL a) (hb : GoodL b) (e : pathStr a = pathStr b) : a = b := by
  rw [← comps_path ha, ← comps_path hb, e]
theorem path_len_flat (cs : List Str) : (pathStr cs).length ≤ (flat cs).length + 1 := by
  cases cs with
  | nil => rw [pathStr_nil, slash_len]; simp [flat]
  | cons x r => rw [← ch_len, ch_path_cons]; omega
/-- the last slash -/
theorem rfind_at {s : Str} {a b : List Nat} (e : ch s = a ++ 47 :: b) (hb : 47 ∉ b) : Txt.rfind s slash = a.length := by
  unfold Txt.rfind
  rw [slash_eq]
  have hA : ∀ i, StrLaws.At s ⟨#[47]⟩ s.length i ↔ (ch s)[i]? = some 47 := fun i => StrLaws.subAt_one s 47 i
  have h0 : StrLaws.At s ⟨#[47]⟩ s.length a.length := (hA _).mpr (by rw [e]; simp)
  rcases StrLaws.last_spec s ⟨#[47]⟩ with ⟨_, h⟩ | ⟨i, h1, h2, h3⟩
  · exact absurd h0 (h _)
  · rw [h1]
    rcases Nat.lt_trichotomy i a.length with h | h | h
    · exact absurd h0 (h3 _ h)
    · rw [h]
    · have := (hA i).mp h2
      rw [e, List.getElem?_append_right (by omega)] at this
      obtain ⟨k, hk⟩ : ∃ k, i - a.length = k + 1 := ⟨i - a.length - 1, by omega⟩
      rw [hk, List.getElem?_cons_succ] at this
      exact absurd (List.mem_of_getElem? this) hb
theorem slice_to {s : Str} {k : Nat} (h : k ≤ (ch s).length) : ch (Txt.slice s none (some (k : Int))) = (ch s).take k := by
  have := StrLaws.sliceText_to (x := s) (j := (k : Int)) ⟨by omega, by show (k : Int) ≤ ((ch s).length : Int); omega⟩
  have e : Txt.slice s none (some (k : Int)) = StrLaws.sliceText s none (some (k : Int)) := rfl
  rw [e, this]
  simp [ch]
theorem slice_from {s : Str} {k : Nat} (h : k ≤ (ch s).length) : ch (Txt.slice s (some (k : Int)) none) = (ch s).drop k := by
  have := StrLaws.sliceText_from (x := s) (i := (k : Int)) ⟨by omega, by show (k : Int) ≤ ((ch s).length : Int); omega⟩
  have e : Txt.slice s (some (k : Int)) none = StrLaws.sliceText s (some (k : Int)) none := rfl
  rw [e, this]
  simp only [ch, Int.toNat_natCast]
  apply List.take_of_length_le
  rw [List.length_drop]
  omega
theorem flat_snoc (cs : List Str) (x : Str) : flat (cs ++ [x]) = flat cs ++ 47 :: ch x := by rw [flat_append]; simp [flat]
theorem ch_path_snoc (cs : List Str) (x : Str) : ch (pathStr (cs ++ [x])) = flat cs ++ 47 :: ch x := by rw [ch_path _ (by simp), flat_snoc]
theorem base_path {cs : List Str} {x : Str} (hx : GoodC x) : baseS (pathStr (cs ++ [x])) = x := by
  apply str_ext
  unfold baseS
  rw [rfind_at (ch_path_snoc cs x) hx.free, show ((flat cs).length : Int) + 1 = (((flat cs).length + 1 : Nat) : Int) by omega, slice_from (by rw [ch_path_snoc]; simp), ch_path_snoc]
  rw [List.drop_append, List.drop_eq_nil_of_le (by omega)]
  simp
theorem base_root : baseS (pathStr []) = ⟨#[]⟩ := by kernel_rfl
theorem head_path {cs : List Str} {x : Str} (hx : GoodC x) : ch (headS (pathStr (cs ++ [x]))) = flat cs ++ [47] := by
  unfold headS
  rw [rfind_at (ch_path_snoc cs x) hx.free, show ((flat cs).length : Int) + 1 = (((flat cs).length + 1 : Nat) : Int) by omega, slice_to (by rw [ch_path_snoc]; simp), ch_path_snoc]
  rw [List.take_append, List.take_of_length_le (by omega)]
  simp
theorem ch_ofList (l : List Nat) : ch ⟨l.toArray⟩ = l := by simp [ch]
theorem ch_mul (n : Nat) : ∀ c ∈ ch (Txt.mul slash (n : Int)), c = 47 := by
  unfold Txt.mul
  split
  · intro c hc; cases hc
  · split
    · rw [ch_slash]; intro c hc; exact List.mem_singleton.mp hc
    · have key : ∀ (m : Nat) (acc : Array Nat), (∀ c ∈ acc.toList, c = 47) → ∀ c ∈ ((List.replicate m slash.cps).foldl (· ++ ·) acc).toList, c = 47 := by
        intro m
        induction m with
        | zero => intro acc h; exact h
        | succ m ih =>
          intro acc h
          rw [List.replicate_succ, List.foldl_cons]
          refine ih _ fun c hc => ?_
          rw [Array.toList_append, List.mem_append] at hc
          rcases hc with hc | hc
          · exact h c hc
          · have : c ∈ ch slash := hc
            rw [ch_slash] at this
            exact List.mem_singleton.mp this
      exact key _ #[] (fun c hc => by cases hc)
theorem dir_path {cs : List Str} {x : Str} (hc : GoodL cs) (hx : GoodC x) : dirS (pathStr (cs ++ [x])) = pathStr cs := by
  have hh := head_path (cs := cs) hx
  have hlen : (headS (pathStr (cs ++ [x]))).length = (flat cs).length + 1 := by rw [← ch_len, hh]; simp
  rcases List.eq_nil_or_concat cs with rfl | ⟨ds, z, rfl⟩
  · have e : headS (pathStr ([] ++ [x])) = slash := by
      apply str_ext
      rw [hh, ch_slash]; rfl
    unfold dirS
    rw [e, if_neg (by decide +kernel), pathStr_nil]
  · rw [List.concat_eq_append] at *
    have hz := hc z (by simp)
    obtain ⟨c0, u, hcu⟩ : ∃ c0 u, ch z = u ++ [c0] := by
      rcases List.eq_nil_or_concat (ch z) with e | ⟨u, c0, e⟩
      · exact absurd e hz.1
      · exact ⟨c0, u, by rw [e, List.concat_eq_append]⟩
    have hc0 : 48 ≤ c0 := hz.2 c0 (by rw [hcu]; simp)
    have hne : headS (pathStr (ds ++ [z] ++ [x])) ≠ Txt.mul slash ((headS (pathStr (ds ++ [z] ++ [x]))).length : Int) := by
      intro e
      have h1 := ch_mul (headS (pathStr (ds ++ [z] ++ [x]))).length
      rw [← e, hh, flat_snoc, hcu] at h1
      have := h1 c0 (by simp)
      omega
    unfold dirS
    rw [if_pos (by rw [Bool.and_eq_true, bne_iff_ne, bne_iff_ne]; exact ⟨by rw [hlen]; omega, hne⟩)]
    apply str_ext
    unfold Txt.rstripChars
    have hcont : ∀ k : Nat, slash.cps.contains k = (k == 47) := by
      intro k
      rw [slash_eq]
      simp [BEq.beq]
    rw [PyProof.Rows.stripBy_eq]
    show (Builtin.Str.strSub _ _ _).cps.toList = _
    rw [StrLaws.strSub_toList]
    have e1 : stripLo slash.cps.contains false (headS (pathStr (ds ++ [z] ++ [x]))) = 0 := rfl
    rw [e1]
    have e2 : stripHi slash.cps.contains true (headS (pathStr (ds ++ [z] ++ [x]))) 0 = (flat (ds ++ [z])).length := by
      unfold stripHi
      rw [if_pos rfl, List.drop_zero, hlen]
      have : (headS (pathStr (ds ++ [z] ++ [x]))).cps.toList = flat (ds ++ [z]) ++ [47] := hh
      rw [this, flat_snoc, hcu]
      simp only [List.reverse_append, List.reverse_cons, List.reverse_nil, List.nil_append, List.cons_append]
      rw [List.takeWhile_cons, if_pos (by rw [hcont]; decide), List.takeWhile_cons, if_neg (by rw [hcont]; simp; omega)]
      simp
    rw [e2]
    have : (headS (pathStr (ds ++ [z] ++ [x]))).cps.toList = flat (ds ++ [z]) ++ [47] := hh
    rw [this, List.drop_zero, Nat.sub_zero, List.take_left, ch_path _ (by simp)]
theorem join_path {cs : List Str} {x : Str} (hc : GoodL cs) (hx : GoodC x) : joinS (pathStr cs) x = pathStr (cs ++ [x]) := by
  have h1 : Txt.startswith x slash = false := by
    unfold Txt.startswith
    rw [StrLaws.subAt_eq, Bool.and_eq_false_iff]
    right
    obtain ⟨c, r, hcr⟩ : ∃ c r, ch x = c :: r := by
      cases e : ch x with
      | nil => exact absurd e hx.1
      | cons c r => exact ⟨c, r, rfl⟩
    have : 48 ≤ c := hx.2 c (by rw [hcr]; exact .head _)
    have e1 : x.cps.toList = c :: r := hcr
    have e2 : slash.cps.toList = [47] := ch_slash
    rw [e1, e2, slash_len]
    simp
    omega
  have h2 : ((pathStr cs).length != 0) = true := by
    rw [bne_iff_ne, pathStr, Str.length_append, slash_len]
    omega
  unfold joinS
  rw [h1, h2, if_neg (by simp)]
  rcases List.eq_nil_or_concat cs with rfl | ⟨ds, z, rfl⟩
  · rw [pathStr_nil, if_pos (by kernel_rfl)]
    apply str_ext
    rw [ch_append, ch_slash, ch_path _ (by simp)]
    simp [flat]
  · rw [List.concat_eq_append] at *
    have hz := hc z (by simp)
    obtain ⟨c0, u, hcu⟩ : ∃ c0 u, ch z = u ++ [c0] := by
      rcases List.eq_nil_or_concat (ch z) with e | ⟨u, c0, e⟩
      · exact absurd e hz.1
      · exact ⟨c0, u, by rw [e, List.concat_eq_append]⟩
    have hc0 : 48 ≤ c0 := hz.2 c0 (by rw [hcu]; simp)
    have h3 : Txt.endswith (pathStr (ds ++ [z])) slash = false := by
      unfold Txt.endswith
      rw [StrLaws.subAt_eq, Bool.and_eq_false_iff]
      right
      have e1 : (pathStr (ds ++ [z])).cps.toList = (flat ds ++ 47 :: u) ++ [c0] := by
        have := ch_path_snoc ds z
        rw [hcu] at this
        simpa [ch] using this
      have e2 : slash.cps.toList = [47] := ch_slash
      have e3 : (pathStr (ds ++ [z])).length - slash.length = (flat ds ++ 47 :: u).length := by
        rw [slash_len, ← ch_len, ch, e1]
        simp
      rw [e3, e1, e2, slash_len, List.drop_left]
      simp
      omega
    rw [h3, if_neg (by simp)]
    apply str_ext
    rw [ch_append, ch_append, ch_slash, ch_path _ (by simp), ch_path _ (by simp), flat_snoc (ds ++ [z]) x]
    simp
end
section
/-! common prefixes -/
noncomputable def lcpL : List (List Str) → List Str
  | [] => []
  | c :: r => cpre (minF c r) (maxF c r)
noncomputable def IsLcp (L : List Str) (cs : List (List Str)) : Prop := (∀ c ∈ cs, L <+: c) ∧ ∀ M : List Str, (∀ c ∈ cs, M <+: c) → M <+: L
theorem cpre_le : ∀ {a b c : List Str}, ltL c a = false → ltL b c = false → cpre a b <+: c
  | [], b, c, _, _ => by rw [cpre.eq_2 _ _ (by simp)]; exact List.nil_prefix
  | x :: r, [], c, _, _ => by rw [cpre.eq_2 _ _ (by simp)]; exact List.nil_prefix
  | x :: r, y :: t, c, h1, h2 => by
    rw [cpre]
    split
    · rename_i e
      rw [beq_iff_eq] at e
      subst e
      cases c with
      | nil => cases h1
      | cons z c' =>
        by_cases e : z = x
        · subst e
          rw [ltL_cons_same] at h1 h2
          exact List.prefix_cons_inj z |>.mpr (cpre_le h1 h2)
        · rw [ltL_cons_ne e] at h1
          rw [ltL_cons_ne (Ne.symm e)] at h2
          rcases ltS_tri z x with q | q | q
          · rw [h1] at q; cases q
          · exact absurd q e
          · rw [h2] at q; cases q
    · exact List.nil_prefix
theorem cpre_most : ∀ {M a b : List Str}, M <+: a → M <+: b → M <+: cpre a b
  | [], _, _, _, _ => List.nil_prefix
  | x :: m, a, b, ⟨u, hu⟩, ⟨v, hv⟩ => by
    subst hu
    subst hv
    rw [List.cons_append, List.cons_append, cpre, if_pos (by simp)]
    exact List.prefix_cons_inj x |>.mpr (cpre_most ⟨u, rfl⟩ ⟨v, rfl⟩)
theorem lcp_spec : ∀ {cs : List (List Str)}, cs ≠ [] → IsLcp (lcpL cs) cs
  | [], h => absurd rfl h
  | c :: r, _ => ⟨fun d hd => cpre_le (minF_le r c d hd) (maxF_ge r c d hd), fun M hM => cpre_most (hM _ (minF_mem r c)) (hM _ (maxF_mem r c))⟩
theorem pre_anti {a b : List Str} (h1 : a <+: b) (h2 : b <+: a) : a = b := h1.eq_of_length_le h2.length_le
theorem cmS_lcp {cs : List (List Str)} (h : ∀ c ∈ cs, GoodL c) : cmS (cs.map pathStr) = pathStr (lcpL cs) := by
  cases cs with
  | nil => exact pathStr_nil.symm
  | cons c r =>
    show pathStr (cpre (minF (compsOf (pathStr c)) ((r.map pathStr).map compsOf)) (maxF (compsOf (pathStr c)) ((r.map pathStr).map compsOf))) = _
    have e : (r.map pathStr).map compsOf = r := by
      rw [List.map_map]
      conv => rhs; rw [← List.map_id r]
      exact List.map_congr_left fun d hd => comps_path (h d (.tail _ hd))
    rw [e, comps_path (h c (.head _))]
    rfl
theorem lcp_good {cs : List (List Str)} (hc : cs ≠ []) (h : ∀ c ∈ cs, GoodL c) : GoodL (lcpL cs) := by
  cases cs with
  | nil => exact absurd rfl hc
  | cons c r =>
    intro z hz
    exact h c (.head _) z (((lcp_spec hc).1 c (.head _)).subset hz)
noncomputable def Strict (a b : List Str) : Prop := a <+: b ∧ a ≠ b
theorem Strict.at {L M t : List Str} (h : Strict L M) (ht : M <+: t) : t[L.length]? = M[L.length]? := by
  obtain ⟨u, rfl⟩ := ht
  have hlt : L.length < M.length := by
    rcases Nat.lt_or_ge L.length M.length with q | q
    · exact q
    · exact absurd (h.1.eq_of_length_le q) h.2
  rw [List.getElem?_append_left hlt]
/-- what a wish asks of paths -/
noncomputable def KeptQ (C : Str → List Str) (q : Wish) : Prop := Strict (lcpL [C q.three, C q.four]) (lcpL [C q.one, C q.two])
theorem lcp2_le {a b : List Str} : lcpL [a, b] <+: a ∧ lcpL [a, b] <+: b := by
  have := (lcp_spec (cs := [a, b]) (by simp)).1
  exact ⟨this a (by simp), this b (by simp)⟩
theorem lcp2_most {a b M : List Str} (h1 : M <+: a) (h2 : M <+: b) : M <+: lcpL [a, b] :=
  (lcp_spec (cs := [a, b]) (by simp)).2 M fun c hc => by
    simp only [List.mem_cons, List.not_mem_nil, or_false] at hc
    rcases hc with rfl | rfl
    · exact h1
    · exact h2
theorem cmS_lcp2 {a b : List Str} (h : ∀ c ∈ [a, b], GoodL c) : cmS [pathStr a, pathStr b] = pathStr (lcpL [a, b]) := by
  have e := cmS_lcp h
  rwa [List.map_cons, List.map_cons, List.map_nil] at e
theorem bad_iff {pd : List (Str × Str)} {C : Str → List Str} {q : Wish} (h : ∀ k ∈ wishL q, pathAt pd k = pathStr (C k) ∧ GoodL (C k)) : badS cmS pd q = false ↔ KeptQ C q := by
  obtain ⟨e1, g1⟩ := h q.one (by simp [wishL])
  obtain ⟨e2, g2⟩ := h q.two (by simp [wishL])
  obtain ⟨e3, g3⟩ := h q.three (by simp [wishL])
  obtain ⟨e4, g4⟩ := h q.four (by simp [wishL])
  have two : ∀ {a b : List Str}, GoodL a → GoodL b → ∀ c ∈ [a, b], GoodL c := by
    intro a b ha hb c hc
    simp only [List.mem_cons, List.not_mem_nil, or_false] at hc
    rcases hc with rfl | rfl
    · exact ha
    · exact hb
  have ci : innerS cmS pd q = pathStr (lcpL [C q.one, C q.two]) := by
    unfold innerS
    rw [e1, e2]
    exact cmS_lcp2 (two g1 g2)
  have co : outerS cmS pd q = pathStr (lcpL [C q.three, C q.four]) := by
    unfold outerS
    rw [e3, e4]
    exact cmS_lcp2 (two g3 g4)
  have gi : GoodL (lcpL [C q.one, C q.two]) := lcp_good (by simp) (two g1 g2)
  have go : GoodL (lcpL [C q.three, C q.four]) := lcp_good (by simp) (two g3 g4)
  have cb : cmS [innerS cmS pd q, outerS cmS pd q] = pathStr (lcpL [lcpL [C q.one, C q.two], lcpL [C q.three, C q.four]]) := by
    rw [ci, co]
    exact cmS_lcp2 (two gi go)
  unfold badS
  rw [cb, ci, co, Bool.or_eq_false_iff, beq_eq_false_iff_ne, bne_eq_false_iff_eq]
  constructor
  · rintro ⟨h1, h2⟩
    have h3 := path_inj (lcp_good (by simp) (two gi go)) go h2
    refine ⟨?_, fun e => h1 (by rw [e])⟩
    have := (lcp2_le (a := lcpL [C q.one, C q.two]) (b := lcpL [C q.three, C q.four])).1
    rwa [h3] at this
  · rintro ⟨h1, h2⟩
    refine ⟨fun e => h2 (path_inj gi go e).symm, ?_⟩
    rw [pre_anti lcp2_le.2 (lcp2_most h1 (List.prefix_refl _))]
theorem keeps_iff {pd : List (Str × Str)} {C : Str → List Str} {ws : List Wish} (h : ∀ q ∈ ws, ∀ k ∈ wishL q, pathAt pd k = pathStr (C k) ∧ GoodL (C k)) : keepsOf cmS pd ws = true ↔ ∀ q ∈ ws, KeptQ C q := by
  unfold keepsOf
  rw [List.all_eq_true]
  constructor
  · intro hh q hq
    have := hh q hq
    rw [Bool.not_eq_true'] at this
    exact (bad_iff (h q hq)).mp this
  · intro hh q hq
    rw [Bool.not_eq_true']
    exact (bad_iff (h q hq)).mpr (hh q hq)
end
section
/-! the marks -/
theorem steps_fix {one : Str} : ∀ (l : List Str) (b : (Str → Str) × Bool), (l.foldl (stepM one) b).2 = false → l.foldl (stepM one) b = b ∧ ∀ o ∈ l, b.1 o = b.1 one
  | [], b, _ => ⟨rfl, fun o ho => by cases ho⟩
  | o :: r, b, h => by
    rw [List.foldl_cons] at h ⊢
    obtain ⟨h1, h2⟩ := steps_fix r _ h
    rw [h1] at h
    have h3 : (b.2 || b.1 o != b.1 one) = false := h
    rw [Bool.or_eq_false_iff, bne_eq_false_iff_eq] at h3
    have e : stepM one b o = b := by
      unfold stepM
      rw [upd_same h3.2, h3.2, h3.1]
      simp
      rw [← h3.1]
    rw [e] at h1 h2 ⊢
    refine ⟨h1, fun y hy => ?_⟩
    rcases List.mem_cons.mp hy with rfl | hy
    · exact h3.2
    · exact h2 y hy
theorem rows_fix : ∀ (ws : List Wish) (b : (Str → Str) × Bool), (ws.foldl rowM b).2 = false → ws.foldl rowM b = b ∧ ∀ q ∈ ws, ∀ o ∈ others b.1 q, b.1 o = b.1 q.one
  | [], b, _ => ⟨rfl, fun q hq => by cases hq⟩
  | q :: r, b, h => by
    rw [List.foldl_cons] at h ⊢
    obtain ⟨h1, h2⟩ := rows_fix r _ h
    rw [h1] at h
    obtain ⟨h3, h4⟩ := steps_fix _ _ h
    have e : rowM b q = b := h3
    rw [e] at h1 h2 ⊢
    refine ⟨h1, fun y hy => ?_⟩
    rcases List.mem_cons.mp hy with rfl | hy
    · exact h4
    · exact h2 y hy
noncomputable def Fix (ws : List Wish) (μ : Str → Str) : Prop := ∀ q ∈ ws, ∀ o ∈ others μ q, μ o = μ q.one
theorem loop_fix {files : List Str} {ws : List Wish} (hin : Within files ws) : ∀ (k : Nat) (μ : Str → Str), Inv files μ → meas files μ < k → Fix ws (loopM ws k μ)
  | 0, μ, _, h => absurd h (Nat.not_lt_zero _)
  | k + 1, μ, hI, h => by
    have hR : MI files (meas files μ) (roundM ws μ) := round_MI ws (μ, false) hin ⟨hI, Nat.le_refl _, fun e => by cases e⟩
    rw [loopM]
    split
    · rename_i hc
      have := hR.2.2 hc
      exact loop_fix hin k _ hR.1 (by omega)
    · rename_i hc
      rw [Bool.not_eq_true] at hc
      obtain ⟨h1, h2⟩ := rows_fix ws (μ, false) hc
      have e : (roundM ws μ).1 = μ := congrArg Prod.fst h1
      rw [e]
      exact h2
noncomputable def mark (ws : List Wish) : Str → Str := loopM ws 10 fun x => x
theorem mark_fix {files : List Str} {ws : List Wish} (hin : Within files ws) (hl : files.length ≤ 9) : Fix ws (mark ws) :=
  loop_fix hin 10 _ (fun x hx => ⟨hx, rfl⟩) (by unfold meas; exact Nat.lt_of_le_of_lt (List.length_filter_le _ _) (by omega))
/-- marks never join what f tells apart -/
noncomputable def Sep {α : Type} (files : List Str) (f : Str → α) (μ : Str → Str) : Prop := ∀ x ∈ files, μ x ∈ files ∧ f (μ x) = f x
theorem upd_sep {α : Type} {files : List Str} {f : Str → α} {μ : Str → Str} {one o : Str} (h : Sep files f μ) (h1 : one ∈ files) (ho : o ∈ files) (e : f one = f o) : Sep files f (upd μ one o) := by
  intro x hx
  unfold upd
  split
  · rename_i hq
    refine ⟨(h one h1).1, ?_⟩
    rw [(h one h1).2, e, ← (h o ho).2, ← hq, (h x hx).2]
  · exact h x hx
theorem steps_sep {α : Type} {files : List Str} {f : Str → α} {one : Str} (h1 : one ∈ files) : ∀ (l : List Str) (b : (Str → Str) × Bool), (∀ o ∈ l, o ∈ files ∧ f one = f o) → Sep files f b.1 → Sep files f (l.foldl (stepM one) b).1
  | [], b, _, h => h
  | o :: r, b, hl, h => steps_sep h1 r _ (fun y hy => hl y (.tail _ hy)) (upd_sep h h1 (hl o (.head _)).1 (hl o (.head _)).2)
/-- what f must meet for every wish -/
noncomputable def Agrees {α : Type} (f : Str → α) (q : Wish) : Prop := f q.one = f q.two ∧ (f q.three = f q.four → f q.one = f q.three)
theorem row_sep {α : Type} {files : List Str} {f : Str → α} {q : Wish} {b : (Str → Str) × Bool} (hq : q.one ∈ files ∧ q.two ∈ files ∧ q.three ∈ files ∧ q.four ∈ files) (ha : Agrees f q) (h : Sep files f b.1) : Sep files f (rowM b q).1 := by
  obtain ⟨h1, h2, h3, h4⟩ := hq
  refine steps_sep h1 _ _ ?_ h
  intro o ho
  unfold others at ho
  split at ho
  · rename_i e
    rw [beq_iff_eq] at e
    have e34 : f q.three = f q.four := by rw [← (h _ h3).2, ← (h _ h4).2, e]
    simp only [List.mem_cons, List.not_mem_nil, or_false] at ho
    rcases ho with rfl | rfl
    · exact ⟨h2, ha.1⟩
    · exact ⟨h3, ha.2 e34⟩
  · rw [List.mem_singleton.mp ho]; exact ⟨h2, ha.1⟩
theorem rows_sep {α : Type} {files : List Str} {f : Str → α} : ∀ (ws : List Wish) (b : (Str → Str) × Bool), Within files ws → (∀ q ∈ ws, Agrees f q) → Sep files f b.1 → Sep files f (ws.foldl rowM b).1
  | [], b, _, _, h => h
  | q :: r, b, hin, ha, h => rows_sep r _ (fun p hp => hin p (.tail _ hp)) (fun p hp => ha p (.tail _ hp)) (row_sep (hin q (.head _)) (ha q (.head _)) h)
theorem loop_sep {α : Type} {files : List Str} {f : Str → α} {ws : List Wish} (hin : Within files ws) (ha : ∀ q ∈ ws, Agrees f q) : ∀ (k : Nat) (μ : Str → Str), Sep files f μ → Sep files f (loopM ws k μ)
  | 0, μ, h => h
  | k + 1, μ, h => by
    have hr : Sep files f (roundM ws μ).1 := rows_sep ws (μ, false) hin ha h
    rw [loopM]
    split
    · exact loop_sep hin ha k _ hr
    · exact hr
theorem mark_sep {α : Type} {files : List Str} {f : Str → α} {ws : List Wish} (hin : Within files ws) (ha : ∀ q ∈ ws, Agrees f q) : Sep files f (mark ws) := loop_sep hin ha 10 _ fun x hx => ⟨hx, rfl⟩
end
section
/-! the grown tree: what it is -/
theorem dget_dput (l : List (Str × Str)) (k x j : Str) : dget (dput l k x) j = if j = k then some x else dget l j := by
  induction l with
  | nil =>
    unfold dput dget
    simp only [List.any_nil, Bool.false_eq_true, if_false, List.nil_append, List.find?_cons, List.find?_nil]
    by_cases h : k = j
    · subst h; simp
    · simp [h, Ne.symm h]
  | cons p r ih =>
    unfold dput dget at ih ⊢
    by_cases hp : p.1 = k
    · simp only [List.any_cons, hp, decide_true, Bool.true_or, if_true, List.map_cons, List.find?_cons]
      by_cases hj : k = j
      · subst hj; simp
      · have e : ∀ t : List (Str × Str), ((t.map fun p => if p.1 = k then (p.1, x) else p).find? fun p => decide (p.1 = j)).map (·.2) = (t.find? fun p => decide (p.1 = j)).map (·.2) := by
          intro t
          induction t with
          | nil => rfl
          | cons a t iht =>
            rw [List.map_cons, List.find?_cons, List.find?_cons]
            by_cases ha : a.1 = k
            · rw [if_pos ha]
              have : decide (a.1 = j) = false := by rw [ha]; simpa using hj
              simp only [this]
              exact iht
            · rw [if_neg ha]
              cases decide (a.1 = j) with
              | true => rfl
              | false => exact iht
        simp only [hj, Ne.symm hj, decide_false, if_false]
        exact e r
    · by_cases hr : (r.any fun p => decide (p.1 = k)) = true
      · rw [if_pos hr] at ih
        simp only [List.any_cons, hp, decide_false, Bool.false_or, hr, if_true, List.map_cons, List.find?_cons, if_false]
        cases hpj : decide (p.1 = j) with
        | true =>
          have : j ≠ k := fun e => hp (by rw [← e]; simpa using hpj)
          simp [this]
        | false => exact ih
      · rw [if_neg hr] at ih
        simp only [List.any_cons, hp, decide_false, Bool.false_or, hr, Bool.false_eq_true, if_false, List.cons_append, List.find?_cons]
        cases hpj : decide (p.1 = j) with
        | true =>
          have : j ≠ k := fun e => hp (by rw [← e]; simpa using hpj)
          simp [this]
        | false => exact ih
theorem pathAt_dput (l : List (Str × Str)) (k x j : Str) : pathAt (dput l k x) j = if j = k then x else pathAt l j := by
  unfold pathAt
  rw [dget_dput]
  split <;> rfl
theorem pathAt_putAll {below : List (Str × Str)} {j : Str} : ∀ (block : List Str) (g : List (Str × Str)), pathAt (putAll block below g) j = if j ∈ block then pathAt below j else pathAt g j
  | [], g => by simp [putAll]
  | o :: r, g => by
    have h := pathAt_putAll (below := below) (j := j) r (dput g o ((dget below o).getD slash))
    unfold putAll at h ⊢
    rw [List.foldl_cons, h, pathAt_dput]
    by_cases h1 : j ∈ r
    · simp [h1]
    · by_cases h2 : j = o
      · subst h2; simp [h1, pathAt]
      · simp [h1, h2]
noncomputable def clsOf (μ : Str → Str) (files : List Str) (f : Str) : List Str := files.filter fun x => μ x == μ f
noncomputable def subOf (rec : Str → List Str → List Wish → List (Str × Str)) (μ : Str → Str) (folder : Str) (files : List Str) (ws : List Wish) (f : Str) : List (Str × Str) := rec (placeOf folder (clsOf μ files f)) (clsOf μ files f) (innerOf ws (clsOf μ files f))
theorem cls_mem {μ : Str → Str} {files : List Str} {f x : Str} : x ∈ clsOf μ files f ↔ x ∈ files ∧ μ x = μ f := by
  unfold clsOf
  rw [List.mem_filter, beq_iff_eq]
theorem cls_eq {μ : Str → Str} {files : List Str} {f g : Str} (h : μ f = μ g) : clsOf μ files f = clsOf μ files g := by unfold clsOf; rw [h]
theorem cls_sub {μ : Str → Str} {files : List Str} {f : Str} : List.Sublist (clsOf μ files f) files := List.filter_sublist
noncomputable def Sat (μ : Str → Str) (files left : List Str) : Prop := ∃ P : Str → Bool, left = files.filter P ∧ ∀ x y, μ x = μ y → P x = P y
theorem Sat.all {μ : Str → Str} {files : List Str} : Sat μ files files := ⟨fun _ => true, (List.filter_eq_self.mpr fun _ _ => rfl).symm, fun _ _ _ => rfl⟩
theorem Sat.block {μ : Str → Str} {files : List Str} {a : Str} {r : List Str} (h : Sat μ files (a :: r)) : a ∈ files ∧ blockOf μ (a :: r) = clsOf μ files a ∧ Sat μ files ((a :: r).filter fun x => !(blockOf μ (a :: r)).contains x) ∧ ∀ f, f ∈ (a :: r).filter (fun x => !(blockOf μ (a :: r)).contains x) ↔ f ∈ a :: r ∧ μ f ≠ μ a := by
  obtain ⟨P, e, hP⟩ := h
  have ha : a ∈ files.filter P := by rw [← e]; exact .head _
  have ha' := List.mem_filter.mp ha
  have hb : blockOf μ (a :: r) = clsOf μ files a := by
    show (a :: r).filter (fun x => μ x == μ a) = _
    rw [e, List.filter_filter]
    refine List.filter_congr fun x hx => ?_
    cases hq : (μ x == μ a) with
    | false => simp
    | true => rw [hP x a (beq_iff_eq.mp hq), ha'.2]; rfl
  have hm : ∀ f, f ∈ (a :: r).filter (fun x => !(blockOf μ (a :: r)).contains x) ↔ f ∈ a :: r ∧ μ f ≠ μ a := by
    intro f
    rw [List.mem_filter]
    constructor
    · rintro ⟨h1, h2⟩
      refine ⟨h1, fun h3 => ?_⟩
      rw [hb] at h2
      have h4 : f ∈ files := (List.mem_filter.mp (e ▸ h1 : f ∈ files.filter P)).1
      have : f ∈ clsOf μ files a := cls_mem.mpr ⟨h4, h3⟩
      simp [this] at h2
    · rintro ⟨h1, h2⟩
      refine ⟨h1, ?_⟩
      rw [hb]
      have : f ∉ clsOf μ files a := fun h => h2 (cls_mem.mp h).2
      simpa using this
  refine ⟨ha'.1, hb, ⟨fun x => P x && !(μ x == μ a), ?_, fun x y h => (by show (P x && !(μ x == μ a)) = (P y && !(μ y == μ a)); rw [hP x y h, h])⟩, hm⟩
  rw [e, List.filter_filter]
  refine List.filter_congr fun x hx => ?_
  rw [← e, hb]
  have : (clsOf μ files a).contains x = (μ x == μ a) := by
    rw [Bool.eq_iff_iff, List.contains_iff_mem, cls_mem, beq_iff_eq]
    exact ⟨fun h => h.2, fun h => ⟨hx, h⟩⟩
  rw [this, Bool.and_comm]
theorem growLoop_at {rec : Str → List Str → List Wish → List (Str × Str)} {μ : Str → Str} {folder : Str} {files : List Str} {ws : List Wish} : ∀ (k : Nat) (left : List Str) (g g' : List (Str × Str)), Sat μ files left → growLoop rec μ folder files ws k left g = some g' →
    (∀ f ∈ left, subOf rec μ folder files ws f ≠ [] ∧ clsOf μ files f ≠ files ∧ pathAt g' f = pathAt (subOf rec μ folder files ws f) f) ∧ ∀ f, f ∉ left → pathAt g' f = pathAt g f
  | _, [], g, g', _, e => by
    simp only [growLoop, Option.some.injEq] at e
    subst e
    exact ⟨fun f hf => (by cases hf), fun _ _ => rfl⟩
  | 0, a :: r, g, g', _, e => by simp [growLoop] at e
  | k + 1, a :: r, g, g', hs, e => by
    obtain ⟨ha, hb, hs', hm⟩ := hs.block
    rw [growLoop] at e
    split at e
    · cases e
    · rename_i h1
      split at e
      · cases e
      · rename_i h2
        obtain ⟨i1, i2⟩ := growLoop_at k _ _ g' hs' e
        have hsub : ∀ f, μ f = μ a → subOf rec μ folder files ws f = rec (placeOf folder (blockOf μ (a :: r))) (blockOf μ (a :: r)) (innerOf ws (blockOf μ (a :: r))) := by
          intro f hf
          unfold subOf
          rw [hb, cls_eq hf]
        refine ⟨fun f hf => ?_, fun f hf => ?_⟩
        · by_cases hq : μ f = μ a
          · have hnot : f ∉ (a :: r).filter (fun x => !(blockOf μ (a :: r)).contains x) := fun h => ((hm f).mp h).2 hq
            have hin : f ∈ blockOf μ (a :: r) := by
              show f ∈ (a :: r).filter (fun x => μ x == μ a)
              exact List.mem_filter.mpr ⟨hf, by simpa using hq⟩
            refine ⟨by rw [hsub f hq]; exact h2, by rw [cls_eq hq, ← hb]; exact h1, ?_⟩
            rw [i2 f hnot, pathAt_putAll, if_pos hin, hsub f hq]
          · exact i1 f ((hm f).mpr ⟨hf, hq⟩)
        · have hnot : f ∉ (a :: r).filter (fun x => !(blockOf μ (a :: r)).contains x) := fun h => hf ((hm f).mp h).1
          have hnb : f ∉ blockOf μ (a :: r) := fun h => hf (blockOf_sub.subset h)
          rw [i2 f hnot, pathAt_putAll, if_neg hnb]
theorem growLoop_ok {rec : Str → List Str → List Wish → List (Str × Str)} {μ : Str → Str} {folder : Str} {files : List Str} {ws : List Wish} : ∀ (k : Nat) (left : List Str) (g : List (Str × Str)), Sat μ files left → left.length ≤ k → (∀ f ∈ left, subOf rec μ folder files ws f ≠ [] ∧ clsOf μ files f ≠ files) → ∃ g', growLoop rec μ folder files ws k left g = some g'
  | _, [], g, _, _, _ => ⟨g, by simp [growLoop]⟩
  | 0, a :: r, g, _, h, _ => by simp at h
  | k + 1, a :: r, g, hs, hl, h => by
    obtain ⟨ha, hb, hs', hm⟩ := hs.block
    obtain ⟨h1, h2⟩ := h a (.head _)
    rw [growLoop, if_neg (by rw [hb]; exact h2), if_neg (by rw [hb]; exact h1)]
    refine growLoop_ok k _ _ hs' ?_ fun f hf => h f ((hm f).mp hf).1
    have : ((a :: r).filter fun x => !(blockOf μ (a :: r)).contains x).length < (a :: r).length := by
      have hlt := List.length_filter_lt_length_iff_exists (p := fun x => !(blockOf μ (a :: r)).contains x) (l := a :: r)
      refine hlt.mpr ⟨a, .head _, ?_⟩
      have := blockOf_head (μ := μ) (a := a) (r := r)
      simpa using this
    omega
/-- the folders below the tree's top -/
noncomputable def nameOf (block : List Str) : Str := Txt.join (Str.ofString "") block
noncomputable def dsOf : Nat → List Str → List Wish → Str → List Str
  | 0, _, _, _ => []
  | n + 1, files, ws, f => if files.length = 1 then [] else if (clsOf (mark ws) files f).length = 1 then dsOf n (clsOf (mark ws) files f) (innerOf ws (clsOf (mark ws) files f)) f else nameOf (clsOf (mark ws) files f) :: dsOf n (clsOf (mark ws) files f) (innerOf ws (clsOf (mark ws) files f)) f
theorem ds_one {n : Nat} {files : List Str} {ws : List Wish} {f : Str} (h : files.length = 1) : dsOf n files ws f = [] := by
  cases n with
  | zero => rfl
  | succ n => rw [dsOf, if_pos h]
theorem grow_some {n : Nat} {folder : Str} {files : List Str} {ws : List Wish} (hc : files.length ≠ 1) (h : growOf (n + 1) folder files ws ≠ []) : ∀ f ∈ files, subOf (growOf n) (mark ws) folder files ws f ≠ [] ∧ clsOf (mark ws) files f ≠ files ∧ pathAt (growOf (n + 1) folder files ws) f = pathAt (subOf (growOf n) (mark ws) folder files ws f) f := by
  rw [growOf, if_neg hc] at h ⊢
  cases e : growLoop (growOf n) (loopM ws 10 fun x => x) folder files ws files.length files [] with
  | none => rw [e] at h; exact absurd rfl h
  | some g => exact (growLoop_at _ _ _ _ Sat.all e).1
theorem grow_made {n : Nat} {folder : Str} {files : List Str} {ws : List Wish} (hc : files.length ≠ 1) (hne : files ≠ []) (h : ∀ f ∈ files, subOf (growOf n) (mark ws) folder files ws f ≠ [] ∧ clsOf (mark ws) files f ≠ files) : growOf (n + 1) folder files ws ≠ [] := by
  obtain ⟨g, hg⟩ := growLoop_ok (g := []) files.length files Sat.all (Nat.le_refl _) h
  rw [growOf, if_neg hc]
  have e : growLoop (growOf n) (loopM ws 10 fun x => x) folder files ws files.length files [] = some g := hg
  rw [e]
  obtain ⟨a, r, rfl⟩ : ∃ a r, files = a :: r := by
    cases files with
    | nil => exact absurd rfl hne
    | cons a r => exact ⟨a, r, rfl⟩
  have := growLoop_keys _ _ _ _ e a (.inr (.head _))
  intro hg0
  have hg1 : g = [] := hg0
  rw [hg1] at this
  cases this
end
section
/-! the grown tree: what it keeps -/
noncomputable def Dig (f : Str) : Prop := ∃ k, 48 ≤ k ∧ k < 56 ∧ ch f = [k]
theorem Dig.good {f : Str} (h : Dig f) : GoodC f := by
  obtain ⟨k, h1, h2, e⟩ := h
  refine ⟨by rw [e]; simp, fun c hc => ?_⟩
  rw [e] at hc
  rw [List.mem_singleton.mp hc]; exact h1
theorem ch_name : ∀ block : List Str, ch (nameOf block) = block.flatMap ch := by
  have e0 : ch (Str.ofString "") = [] := by kernel_rfl
  have key : ∀ (x : Str) (r : List Str), ch (Str.join (Str.ofString "") (x :: r)) = (x :: r).flatMap ch := by
    intro x r
    induction r generalizing x with
    | nil => show ch x = _; simp
    | cons y r ih =>
      show ch (x ++ Str.ofString "" ++ Str.join (Str.ofString "") (y :: r)) = _
      rw [ch_append, ch_append, e0, ih y]
      simp
  intro block
  have e : nameOf block = Str.join (Str.ofString "") block := StrLaws.glued_eq_join _ block
  rw [e]
  cases block with
  | nil => kernel_rfl
  | cons x r => exact key x r
noncomputable def namesOf (x : Str) : List Str := (ch x).map fun c => ⟨#[c]⟩
theorem names_name {block : List Str} (h : ∀ f ∈ block, Dig f) : namesOf (nameOf block) = block := by
  unfold namesOf
  rw [ch_name]
  induction block with
  | nil => rfl
  | cons x r ih =>
    obtain ⟨k, _, _, e⟩ := h x (.head _)
    rw [List.flatMap_cons, List.map_append, ih fun f hf => h f (.tail _ hf), e]
    have : (⟨#[k]⟩ : Str) = x := str_ext (by rw [e])
    rw [List.map_singleton, this]
    rfl
theorem name_good {block : List Str} (hne : block ≠ []) (h : ∀ f ∈ block, Dig f) : GoodC (nameOf block) := by
  constructor
  · rw [ch_name]
    cases block with
    | nil => exact absurd rfl hne
    | cons x r =>
      obtain ⟨k, _, _, e⟩ := h x (.head _)
      rw [List.flatMap_cons, e]; simp
  · intro c hc
    rw [ch_name, List.mem_flatMap] at hc
    obtain ⟨f, hf, hcf⟩ := hc
    exact (h f hf).good.2 c hcf
theorem name_one (f : Str) : nameOf [f] = f := str_ext (by rw [ch_name]; simp)
theorem one_of {l : List Str} {f : Str} (h : l.length = 1) (hf : f ∈ l) : l = [f] := by
  match l, h with
  | [x], _ => rw [List.mem_singleton.mp hf]
theorem cls_self {μ : Str → Str} {files : List Str} {f : Str} (h : f ∈ files) : f ∈ clsOf μ files f := cls_mem.mpr ⟨h, rfl⟩
theorem placeOf_path {cs block : List Str} (hc : GoodL cs) (hne : block ≠ []) (h : ∀ f ∈ block, Dig f) : placeOf (pathStr cs) block = pathStr (if block.length = 1 then cs else cs ++ [nameOf block]) := by
  unfold placeOf
  split
  · rfl
  · exact join_path hc (name_good hne h)
theorem grow_paths : ∀ (n : Nat) (cs files : List Str) (ws : List Wish), GoodL cs → (∀ f ∈ files, Dig f) → growOf n (pathStr cs) files ws ≠ [] → ∀ f ∈ files, pathAt (growOf n (pathStr cs) files ws) f = pathStr (cs ++ dsOf n files ws f ++ [f]) ∧ GoodL (dsOf n files ws f)
  | 0, _, _, _, _, _, h => absurd rfl h
  | n + 1, cs, files, ws, hc, hd, h => by
    intro f hf
    have hgf := (hd f hf).good
    by_cases h1 : files.length = 1
    · have e := one_of h1 hf
      subst e
      rw [ds_one rfl, List.append_nil]
      rw [growOf, if_pos h1] at h ⊢
      split at h
      · rename_i h2
        rw [if_pos h2]
        refine ⟨?_, GoodL.nil⟩
        show (dget [(f, joinS (pathStr cs) f)] f).getD slash = _
        rw [← join_path hc hgf]
        simp [dget]
      · exact absurd rfl h
    · obtain ⟨a1, a2, a3⟩ := grow_some h1 h f hf
      rw [a3]
      have hcl := cls_self (μ := mark ws) hf
      have hcd : ∀ g ∈ clsOf (mark ws) files f, Dig g := fun g hg => hd g (cls_mem.mp hg).1
      have hcn : clsOf (mark ws) files f ≠ [] := fun e => by rw [e] at hcl; cases hcl
      unfold subOf at a1 ⊢
      rw [placeOf_path hc hcn hcd] at a1 ⊢
      rw [dsOf, if_neg h1]
      by_cases h2 : (clsOf (mark ws) files f).length = 1
      · rw [if_pos h2] at a1 ⊢
        rw [if_pos h2]
        exact grow_paths n cs _ _ hc hcd a1 f hcl
      · rw [if_neg h2] at a1 ⊢
        rw [if_neg h2]
        have hn := name_good hcn hcd
        obtain ⟨b1, b2⟩ := grow_paths n (cs ++ [nameOf (clsOf (mark ws) files f)]) _ _ (hc.append (GoodL.one hn)) hcd a1 f hcl
        refine ⟨?_, GoodL.cons hn b2⟩
        rw [b1]
        simp
theorem lcp_split {cs r t : List Str} {x y : Str} (h : x ≠ y) : lcpL [cs ++ x :: r, cs ++ y :: t] <+: cs := by
  obtain ⟨h1, h2⟩ := lcp2_le (a := cs ++ x :: r) (b := cs ++ y :: t)
  generalize lcpL [cs ++ x :: r, cs ++ y :: t] = M at h1 h2 ⊢
  induction cs generalizing M with
  | nil =>
    cases M with
    | nil => exact List.nil_prefix
    | cons m M =>
      obtain ⟨u, hu⟩ := h1
      obtain ⟨v, hv⟩ := h2
      simp only [List.cons_append, List.nil_append, List.cons.injEq] at hu hv
      exact absurd (hu.1.symm.trans hv.1) h
  | cons c cs ih =>
    cases M with
    | nil => exact List.nil_prefix
    | cons m M =>
      rw [List.cons_append, List.cons_prefix_cons] at h1 h2
      rw [List.cons_prefix_cons]
      exact ⟨h1.1, ih M h1.2 h2.2⟩
theorem ds_head {n : Nat} {cs files : List Str} {ws : List Wish} (hc : files.length ≠ 1) {f : Str} (hf : f ∈ files) : ∃ t, cs ++ dsOf (n + 1) files ws f ++ [f] = cs ++ nameOf (clsOf (mark ws) files f) :: t := by
  rw [dsOf, if_neg hc]
  by_cases h2 : (clsOf (mark ws) files f).length = 1
  · rw [if_pos h2, ds_one h2, one_of h2 (cls_self hf), name_one]
    exact ⟨[], by simp⟩
  · rw [if_neg h2]
    exact ⟨dsOf n (clsOf (mark ws) files f) (innerOf ws (clsOf (mark ws) files f)) f ++ [f], by simp⟩
theorem keptQ_congr {C D : Str → List Str} {q : Wish} (h : ∀ k ∈ wishL q, C k = D k) (hk : KeptQ C q) : KeptQ D q := by
  unfold KeptQ at hk ⊢
  rwa [h q.one (by simp [wishL]), h q.two (by simp [wishL]), h q.three (by simp [wishL]), h q.four (by simp [wishL])] at hk
theorem grow_keeps : ∀ (n : Nat) (folder : Str) (cs files : List Str) (ws : List Wish), (∀ f ∈ files, Dig f) → files.length ≤ 9 → Within files ws → growOf n folder files ws ≠ [] → ∀ q ∈ ws, KeptQ (fun f => cs ++ dsOf n files ws f ++ [f]) q
  | 0, _, _, _, _, _, _, _, h => absurd rfl h
  | n + 1, folder, cs, files, ws, hd, hl, hin, h => by
    intro q hq
    obtain ⟨q1, q2, q3, q4⟩ := hin q hq
    by_cases h1 : files.length = 1
    · rw [growOf, if_pos h1] at h
      split at h
      · rename_i h2
        rw [List.isEmpty_iff] at h2
        rw [h2] at hq; cases hq
      · exact absurd rfl h
    · have hfix := mark_fix hin hl q hq
      have e12 : mark ws q.two = mark ws q.one := hfix q.two (by unfold others; split <;> simp)
      by_cases h34 : mark ws q.three = mark ws q.four
      · have e13 : mark ws q.three = mark ws q.one := hfix q.three (by unfold others; rw [if_pos (by simpa using h34)]; simp)
        obtain ⟨a1, a2, a3⟩ := grow_some h1 h q.one q1
        have hB : ∀ k ∈ wishL q, k ∈ clsOf (mark ws) files q.one := by
          intro k hk
          simp only [wishL, List.mem_cons, List.not_mem_nil, or_false] at hk
          rcases hk with rfl | rfl | rfl | rfl
          · exact cls_self q1
          · exact cls_mem.mpr ⟨q2, e12⟩
          · exact cls_mem.mpr ⟨q3, e13⟩
          · exact cls_mem.mpr ⟨q4, h34.symm.trans e13⟩
        have hqi : q ∈ innerOf ws (clsOf (mark ws) files q.one) := by
          unfold innerOf
          rw [List.mem_filter, List.isEmpty_iff, List.filter_eq_nil_iff]
          exact ⟨hq, fun k hk => by simpa using hB k hk⟩
        have ih := grow_keeps n _ (if (clsOf (mark ws) files q.one).length = 1 then cs else cs ++ [nameOf (clsOf (mark ws) files q.one)]) _ _ (fun g hg => hd g (cls_mem.mp hg).1) (Nat.le_trans cls_sub.length_le hl) (inner_within _ _) a1 q hqi
        have hC : ∀ k ∈ wishL q, cs ++ dsOf (n + 1) files ws k ++ [k] = (if (clsOf (mark ws) files q.one).length = 1 then cs else cs ++ [nameOf (clsOf (mark ws) files q.one)]) ++ dsOf n (clsOf (mark ws) files q.one) (innerOf ws (clsOf (mark ws) files q.one)) k ++ [k] := by
          intro k hk
          rw [dsOf, if_neg h1, cls_eq (cls_mem.mp (hB k hk)).2]
          split
          · rfl
          · simp
        exact keptQ_congr (fun k hk => (hC k hk).symm) ih
      · obtain ⟨t1, e1⟩ := ds_head (n := n) (cs := cs) (ws := ws) h1 q1
        obtain ⟨t2, e2⟩ := ds_head (n := n) (cs := cs) (ws := ws) h1 q2
        obtain ⟨t3, e3⟩ := ds_head (n := n) (cs := cs) (ws := ws) h1 q3
        obtain ⟨t4, e4⟩ := ds_head (n := n) (cs := cs) (ws := ws) h1 q4
        unfold KeptQ
        show Strict (lcpL [cs ++ dsOf (n + 1) files ws q.three ++ [q.three], cs ++ dsOf (n + 1) files ws q.four ++ [q.four]]) (lcpL [cs ++ dsOf (n + 1) files ws q.one ++ [q.one], cs ++ dsOf (n + 1) files ws q.two ++ [q.two]])
        rw [e1, e2, e3, e4, cls_eq e12]
        have hne : nameOf (clsOf (mark ws) files q.three) ≠ nameOf (clsOf (mark ws) files q.four) := by
          intro e
          have d3 := names_name (block := clsOf (mark ws) files q.three) fun g hg => hd g (cls_mem.mp hg).1
          have d4 := names_name (block := clsOf (mark ws) files q.four) fun g hg => hd g (cls_mem.mp hg).1
          rw [e, d4] at d3
          have := cls_self (μ := mark ws) q3
          rw [← d3] at this
          exact h34 (cls_mem.mp this).2
        have ho : lcpL [cs ++ nameOf (clsOf (mark ws) files q.three) :: t3, cs ++ nameOf (clsOf (mark ws) files q.four) :: t4] <+: cs := lcp_split hne
        have hi : cs ++ [nameOf (clsOf (mark ws) files q.one)] <+: lcpL [cs ++ nameOf (clsOf (mark ws) files q.one) :: t1, cs ++ nameOf (clsOf (mark ws) files q.one) :: t2] :=
          lcp2_most ⟨t1, by simp⟩ ⟨t2, by simp⟩
        refine ⟨ho.trans ((List.prefix_append cs _).trans hi), fun e => ?_⟩
        have l1 := ho.length_le
        have l2 := hi.length_le
        rw [e] at l1
        simp only [List.length_append, List.length_singleton] at l2
        omega
end
section
/-! a drawn tree that keeps all -/
inductive Chain (T : Str → List Str) : List Str → List Str → Prop
  | nil (files : List Str) : Chain T files []
  | cons {files block ds : List Str} : block ≠ [] → (∀ f ∈ block, f ∈ files) → block.length ≤ files.length → lcpL (block.map T) ≠ lcpL (files.map T) → Chain T block ds → Chain T files (nameOf block :: ds)
theorem other_file {files : List Str} (hn : files.Nodup) (h0 : files ≠ []) (h1 : files.length ≠ 1) (f : Str) : ∃ g ∈ files, g ≠ f := by
  match files, h0, h1 with
  | a :: b :: r, _, _ =>
    have hab : a ≠ b := fun e => by
      have := List.nodup_cons.mp hn
      exact this.1 (by rw [e]; exact .head _)
    by_cases e : a = f
    · exact ⟨b, by simp, fun e2 => hab (e.trans e2.symm)⟩
    · exact ⟨a, by simp, e⟩
theorem ext_at {L t : List Str} {x : Str} : L <+: t → t[L.length]? = some x → L ++ [x] <+: t := by
  rintro ⟨u, rfl⟩ h
  rw [List.getElem?_append_right (Nat.le_refl _), Nat.sub_self] at h
  cases u with
  | nil => cases h
  | cons y u =>
    simp only [List.getElem?_cons_zero, Option.some.injEq] at h
    subst h
    exact ⟨u, by simp⟩
theorem at_ext {L t : List Str} {x : Str} : L ++ [x] <+: t → t[L.length]? = some x := by
  rintro ⟨u, rfl⟩
  simp
theorem not_ext {L : List Str} {x : Str} : ¬ L ++ [x] <+: L := fun h => by
  have := h.length_le
  simp at this
  omega
theorem strict_at {L t : List Str} (h : Strict L t) : ∃ x, t[L.length]? = some x := by
  obtain ⟨⟨u, rfl⟩, h2⟩ := h
  cases u with
  | nil => simp at h2
  | cons y u => exact ⟨y, by simp⟩
noncomputable def Leaf (T : Str → List Str) (files : List Str) : Prop := ∀ f ∈ files, ∀ g ∈ files, T f <+: T g → f = g
theorem grow_kept (T : Str → List Str) : ∀ (n : Nat) (folder : Str) (files : List Str) (ws : List Wish), files.Nodup → files ≠ [] → files.length ≤ n → Within files ws → Leaf T files → (∀ q ∈ ws, KeptQ T q) → growOf n folder files ws ≠ [] ∧ ∀ f ∈ files, Chain T files (dsOf n files ws f)
  | 0, _, files, _, _, h0, h, _, _, _ => absurd (List.length_eq_zero_iff.mp (Nat.le_zero.mp h)) h0
  | n + 1, folder, files, ws, hn, h0, hl, hin, hleaf, hk => by
    by_cases h1 : files.length = 1
    · have hw : ws = [] := by
        cases ws with
        | nil => rfl
        | cons q r =>
          obtain ⟨q1, q2, q3, q4⟩ := hin q (.head _)
          have hq := hk q (.head _)
          have e := one_of h1 q1
          rw [e] at q2 q3 q4
          unfold KeptQ at hq
          rw [List.mem_singleton.mp q2, List.mem_singleton.mp q3, List.mem_singleton.mp q4] at hq
          exact absurd rfl hq.2
      subst hw
      refine ⟨?_, fun f hf => by rw [ds_one h1]; exact .nil _⟩
      rw [growOf, if_pos h1]
      simp
    · obtain ⟨L1, L2⟩ := lcp_spec (cs := files.map T) (by simpa using h0)
      generalize hLe : lcpL (files.map T) = L at L1 L2
      have hpre : ∀ f ∈ files, L <+: T f := fun f hf => L1 _ (List.mem_map.mpr ⟨f, hf, rfl⟩)
      have hmost : ∀ M : List Str, (∀ f ∈ files, M <+: T f) → M <+: L := fun M hM => L2 M fun c hc => by
        obtain ⟨f, hf, rfl⟩ := List.mem_map.mp hc
        exact hM f hf
      have hstrict : ∀ f ∈ files, Strict L (T f) := fun f hf => ⟨hpre f hf, fun e => by
        obtain ⟨g, hg, hgf⟩ := other_file hn h0 h1 f
        have := hpre g hg
        rw [e] at this
        exact hgf (hleaf f hf g hg this).symm⟩
      have hag : ∀ q ∈ ws, Agrees (fun f => (T f)[L.length]?) q := by
        intro q hq
        obtain ⟨q1, q2, q3, q4⟩ := hin q hq
        obtain ⟨k1, k2⟩ := hk q hq
        have hO : L <+: lcpL [T q.three, T q.four] := lcp2_most (hpre _ q3) (hpre _ q4)
        have hI : Strict L (lcpL [T q.one, T q.two]) := ⟨hO.trans k1, fun e => k2 (pre_anti k1 (e ▸ hO))⟩
        have e12 : (T q.one)[L.length]? = (T q.two)[L.length]? := (hI.at lcp2_le.1).trans (hI.at lcp2_le.2).symm
        refine ⟨e12, fun e34 => ?_⟩
        obtain ⟨x, hx⟩ := strict_at (hstrict _ q3)
        have e34' : (T q.three)[L.length]? = (T q.four)[L.length]? := e34
        have m3 := ext_at (hpre _ q3) hx
        have m4 := ext_at (hpre _ q4) (e34' ▸ hx)
        have m1 := ((lcp2_most m3 m4).trans k1).trans lcp2_le.1
        show (T q.one)[L.length]? = (T q.three)[L.length]?
        rw [hx]
        exact at_ext m1
      have hsep := mark_sep hin hag
      have hcls : ∀ f ∈ files, ∀ x, (T f)[L.length]? = some x → ∀ g ∈ clsOf (mark ws) files f, L ++ [x] <+: T g := by
        intro f hf x hx g hg
        obtain ⟨g1, g2⟩ := cls_mem.mp hg
        have e1 : (T (mark ws g))[L.length]? = (T g)[L.length]? := (hsep g g1).2
        have e2 : (T (mark ws f))[L.length]? = (T f)[L.length]? := (hsep f hf).2
        rw [g2, e2] at e1
        exact ext_at (hpre g g1) (e1 ▸ hx)
      have hne : ∀ f ∈ files, clsOf (mark ws) files f ≠ files := by
        intro f hf e
        obtain ⟨x, hx⟩ := strict_at (hstrict f hf)
        have := hcls f hf x hx
        rw [e] at this
        exact not_ext (hmost _ this)
      have hlt : ∀ f ∈ files, (clsOf (mark ws) files f).length ≤ n := by
        intro f hf
        have h2 := (cls_sub (μ := mark ws) (files := files) (f := f))
        rcases Nat.lt_or_ge (clsOf (mark ws) files f).length files.length with q | q
        · omega
        · exact absurd (h2.eq_of_length_le q) (hne f hf)
      have hdeep : ∀ f ∈ files, lcpL ((clsOf (mark ws) files f).map T) ≠ L := by
        intro f hf e
        obtain ⟨x, hx⟩ := strict_at (hstrict f hf)
        have hc := hcls f hf x hx
        have hcl := cls_self (μ := mark ws) hf
        have := (lcp_spec (cs := (clsOf (mark ws) files f).map T) (fun e => by rw [List.map_eq_nil_iff] at e; rw [e] at hcl; cases hcl)).2 (L ++ [x]) fun c hcm => by
          obtain ⟨g, hg, rfl⟩ := List.mem_map.mp hcm
          exact hc g hg
        rw [e] at this
        exact not_ext this
      have hrec : ∀ f ∈ files, ∀ folder', growOf n folder' (clsOf (mark ws) files f) (innerOf ws (clsOf (mark ws) files f)) ≠ [] ∧ ∀ g ∈ clsOf (mark ws) files f, Chain T (clsOf (mark ws) files f) (dsOf n (clsOf (mark ws) files f) (innerOf ws (clsOf (mark ws) files f)) g) := by
        intro f hf folder'
        have hcl := cls_self (μ := mark ws) hf
        exact grow_kept T n folder' _ _ (cls_sub.nodup hn) (fun e => by rw [e] at hcl; cases hcl) (hlt f hf) (inner_within _ _) (fun a ha b hb => hleaf a (cls_mem.mp ha).1 b (cls_mem.mp hb).1) fun q hq => hk q (List.mem_filter.mp hq).1
      refine ⟨grow_made h1 h0 fun f hf => ⟨(hrec f hf _).1, hne f hf⟩, fun f hf => ?_⟩
      rw [dsOf, if_neg h1]
      have hcl := cls_self (μ := mark ws) hf
      split
      · rename_i h2
        rw [ds_one h2]
        exact .nil _
      · refine .cons (fun e => by rw [e] at hcl; cases hcl) (fun g hg => (cls_mem.mp hg).1) cls_sub.length_le ?_ ((hrec f hf slash).2 f hcl)
        rw [hLe]
        exact hdeep f hf
end
section
/-! the row of filemode, read as figures -/
theorem and_all {m b : Nat} : m &&& b = b ↔ ∀ i, b.testBit i = true → m.testBit i = true := by
  constructor
  · intro h i hi
    have := congrArg (fun x => x.testBit i) h
    simp only [Nat.testBit_and] at this
    rw [hi] at this
    simpa using this
  · intro h
    apply Nat.eq_of_testBit_eq
    intro i
    rw [Nat.testBit_and]
    cases hb : b.testBit i with
    | false => simp
    | true => rw [h i hb]; rfl
theorem and_one {m j : Nat} : m &&& 2 ^ j = 2 ^ j ↔ m.testBit j = true := by
  rw [and_all]
  constructor
  · intro h; exact h j Nat.testBit_two_pow_self
  · intro h i hi
    rw [Nat.testBit_two_pow, decide_eq_true_eq] at hi
    rw [← hi]; exact h
theorem and_two {m j k : Nat} : m &&& (2 ^ j ||| 2 ^ k) = 2 ^ j ||| 2 ^ k ↔ m.testBit j = true ∧ m.testBit k = true := by
  rw [and_all]
  constructor
  · intro h
    exact ⟨h j (by rw [Nat.testBit_or, Nat.testBit_two_pow_self]; rfl), h k (by rw [Nat.testBit_or, Nat.testBit_two_pow_self, Bool.or_true])⟩
  · rintro ⟨h1, h2⟩ i hi
    rw [Nat.testBit_or, Nat.testBit_two_pow, Nat.testBit_two_pow, Bool.or_eq_true, decide_eq_true_eq, decide_eq_true_eq] at hi
    rcases hi with hi | hi
    · rw [← hi]; exact h1
    · rw [← hi]; exact h2
theorem bitAnd_nat (m b : Nat) : Builtin.bitAnd (m : Int) (b : Int) = ((m &&& b : Nat) : Int) := by
  unfold Builtin.bitAnd
  rw [decide_eq_true (by omega : (0 : Int) ≤ (m : Int)), decide_eq_true (by omega : (0 : Int) ≤ (b : Int))]
  simp
theorem hit1 {k m j : Nat} {s : Str} {b : Int} (hk : k ≠ 0) (hb : b = ((2 ^ j : Nat) : Int)) : hit k (m : Int) (b, s) = m.testBit j := by
  unfold hit
  rw [if_neg hk, hb, bitAnd_nat, Bool.eq_iff_iff, beq_iff_eq, ← and_one]
  exact Int.ofNat_inj
theorem hit2 {k m i j : Nat} {s : Str} {b : Int} (hk : k ≠ 0) (hb : b = ((2 ^ i ||| 2 ^ j : Nat) : Int)) : hit k (m : Int) (b, s) = (m.testBit i && m.testBit j) := by
  unfold hit
  rw [if_neg hk, hb, bitAnd_nat, Bool.eq_iff_iff, beq_iff_eq, Bool.and_eq_true, ← and_two]
  exact Int.ofNat_inj
theorem pick1 {k m j : Nat} {s : Str} {b : Int} (hk : k ≠ 0) (hb : b = ((2 ^ j : Nat) : Int)) : pick k (m : Int) [(b, s)] = if m.testBit j then s else Str.ofString "-" := by
  unfold pick
  rw [List.find?_cons, hit1 hk hb]
  cases m.testBit j with
  | true => rfl
  | false => simp [hk]
theorem pick3 {k m i j : Nat} {s1 s2 s3 : Str} {b1 b2 b3 : Int} (hk : k ≠ 0) (h1 : b1 = ((2 ^ i ||| 2 ^ j : Nat) : Int)) (h2 : b2 = ((2 ^ i : Nat) : Int)) (h3 : b3 = ((2 ^ j : Nat) : Int)) : pick k (m : Int) [(b1, s1), (b2, s2), (b3, s3)] = if m.testBit i && m.testBit j then s1 else if m.testBit i then s2 else if m.testBit j then s3 else Str.ofString "-" := by
  unfold pick
  rw [List.find?_cons, hit2 hk h1, List.find?_cons, hit1 hk h2, List.find?_cons, hit1 hk h3]
  cases m.testBit i <;> cases m.testBit j <;> simp [hk]
theorem pick_sing {k : Nat} {m : Int} {t : List (Int × Str)} (h : ∀ p ∈ t, (ch p.2).length = 1) : (ch (pick k m t)).length = 1 := by
  unfold pick
  split
  · rename_i p e
    exact h p (List.mem_of_find?_eq_some e)
  · split <;> kernel_rfl
noncomputable def cOf (m : Int) (k : Nat) : Nat := (ch (pick k m (modeTable[k]?.getD [])))[0]?.getD 0
theorem table_one : ∀ t ∈ modeTable, ∀ p ∈ t, (ch p.2).length = 1 := by decide +kernel
theorem one_c {m : Int} {k : Nat} (hk : k < 10) : one1 (cOf m k) = pick k m (modeTable[k]?.getD []) := by
  have hm : modeTable[k]?.getD [] ∈ modeTable := by
    have : k < modeTable.length := hk
    rw [List.getElem?_eq_getElem this]
    exact List.getElem_mem this
  have h1 := pick_sing (k := k) (m := m) (table_one _ hm)
  apply str_ext
  unfold cOf one1
  match hq : ch (pick k m (modeTable[k]?.getD [])), h1 with
  | [x], _ => simp
theorem perm_list (m : Int) : permOf m 0 modeTable = [0, 1, 2, 3, 4, 5, 6, 7, 8, 9].map fun k => one1 (cOf m k) := by
  have e : permOf m 0 modeTable = [0, 1, 2, 3, 4, 5, 6, 7, 8, 9].map fun k => pick k m (modeTable[k]?.getD []) := rfl
  rw [e]
  refine List.map_congr_left fun k hk => (one_c ?_).symm
  simp only [List.mem_cons, List.not_mem_nil, or_false] at hk
  omega
theorem row_is (m : Int) : Txt.join (Str.ofString "") (permOf m 0 modeTable) = rowOf (cOf m) := by
  apply str_ext
  have := ch_name (permOf m 0 modeTable)
  unfold nameOf at this
  rw [this, perm_list]
  rfl
noncomputable def b2 (b : Bool) : Int := if b then 1 else 0
theorem fig_r (p q s t : Bool) : (if (if p then Str.ofString "r" else Str.ofString "-") == Str.ofString "r" then (4 : Int) else 0) + (if (if q then Str.ofString "w" else Str.ofString "-") == Str.ofString "w" then 2 else 0) + (if inS (if s && t then Str.ofString "s" else if s then Str.ofString "S" else if t then Str.ofString "x" else Str.ofString "-") "xst" then 1 else 0) = 4 * b2 p + 2 * b2 q + b2 t := by
  revert p q s t
  decide +kernel
theorem fig_t (p q s t : Bool) : (if (if p then Str.ofString "r" else Str.ofString "-") == Str.ofString "r" then (4 : Int) else 0) + (if (if q then Str.ofString "w" else Str.ofString "-") == Str.ofString "w" then 2 else 0) + (if inS (if s && t then Str.ofString "t" else if s then Str.ofString "T" else if t then Str.ofString "x" else Str.ofString "-") "xst" then 1 else 0) = 4 * b2 p + 2 * b2 q + b2 t := by
  revert p q s t
  decide +kernel
theorem up_s (s t : Bool) : inS (if s && t then Str.ofString "s" else if s then Str.ofString "S" else if t then Str.ofString "x" else Str.ofString "-") "sStT" = s := by
  revert s t
  decide +kernel
theorem up_t (s t : Bool) : inS (if s && t then Str.ofString "t" else if s then Str.ofString "T" else if t then Str.ofString "x" else Str.ofString "-") "sStT" = s := by
  revert s t
  decide +kernel
theorem bit_val (m j : Nat) : b2 (m.testBit j) = ((m / 2 ^ j % 2 : Nat) : Int) := by
  rw [Nat.testBit_eq_decide_div_mod_eq, b2]
  have : m / 2 ^ j % 2 < 2 := Nat.mod_lt _ (by omega)
  split
  · rename_i h
    rw [decide_eq_true_eq] at h
    rw [h]; rfl
  · rename_i h
    rw [decide_eq_true_eq] at h
    have : m / 2 ^ j % 2 = 0 := by omega
    rw [this]; rfl
theorem figs_are (m : Nat) : figs (cOf (m : Int)) = [(m : Int) / 512 % 8, (m : Int) / 64 % 8, (m : Int) / 8 % 8, (m : Int) % 8] := by
  have e : figs (cOf (m : Int)) = [0 + upF (cOf (m : Int)) 0 + upF (cOf (m : Int)) 1 + upF (cOf (m : Int)) 2, figF (cOf (m : Int)) 0, figF (cOf (m : Int)) 1, figF (cOf (m : Int)) 2] := by simp [figs, figStep]
  have p1 : one1 (cOf (m : Int) 1) = if m.testBit 8 then Str.ofString "r" else Str.ofString "-" := (one_c (by omega)).trans (pick1 (by omega) (by decide))
  have p2 : one1 (cOf (m : Int) 2) = if m.testBit 7 then Str.ofString "w" else Str.ofString "-" := (one_c (by omega)).trans (pick1 (by omega) (by decide))
  have p3 : one1 (cOf (m : Int) 3) = if m.testBit 11 && m.testBit 6 then Str.ofString "s" else if m.testBit 11 then Str.ofString "S" else if m.testBit 6 then Str.ofString "x" else Str.ofString "-" := (one_c (by omega)).trans (pick3 (by omega) (by decide) (by decide) (by decide))
  have p4 : one1 (cOf (m : Int) 4) = if m.testBit 5 then Str.ofString "r" else Str.ofString "-" := (one_c (by omega)).trans (pick1 (by omega) (by decide))
  have p5 : one1 (cOf (m : Int) 5) = if m.testBit 4 then Str.ofString "w" else Str.ofString "-" := (one_c (by omega)).trans (pick1 (by omega) (by decide))
  have p6 : one1 (cOf (m : Int) 6) = if m.testBit 10 && m.testBit 3 then Str.ofString "s" else if m.testBit 10 then Str.ofString "S" else if m.testBit 3 then Str.ofString "x" else Str.ofString "-" := (one_c (by omega)).trans (pick3 (by omega) (by decide) (by decide) (by decide))
  have p7 : one1 (cOf (m : Int) 7) = if m.testBit 2 then Str.ofString "r" else Str.ofString "-" := (one_c (by omega)).trans (pick1 (by omega) (by decide))
  have p8 : one1 (cOf (m : Int) 8) = if m.testBit 1 then Str.ofString "w" else Str.ofString "-" := (one_c (by omega)).trans (pick1 (by omega) (by decide))
  have p9 : one1 (cOf (m : Int) 9) = if m.testBit 9 && m.testBit 0 then Str.ofString "t" else if m.testBit 9 then Str.ofString "T" else if m.testBit 0 then Str.ofString "x" else Str.ofString "-" := (one_c (by omega)).trans (pick3 (by omega) (by decide) (by decide) (by decide))
  have f0 : figF (cOf (m : Int)) 0 = 4 * b2 (m.testBit 8) + 2 * b2 (m.testBit 7) + b2 (m.testBit 6) := by
    unfold figF
    rw [show 1 + 3 * 0 = 1 from rfl, show 2 + 3 * 0 = 2 from rfl, show 3 + 3 * 0 = 3 from rfl, p1, p2, p3]
    exact fig_r _ _ _ _
  have f1 : figF (cOf (m : Int)) 1 = 4 * b2 (m.testBit 5) + 2 * b2 (m.testBit 4) + b2 (m.testBit 3) := by
    unfold figF
    rw [show 1 + 3 * 1 = 4 from rfl, show 2 + 3 * 1 = 5 from rfl, show 3 + 3 * 1 = 6 from rfl, p4, p5, p6]
    exact fig_r _ _ _ _
  have f2 : figF (cOf (m : Int)) 2 = 4 * b2 (m.testBit 2) + 2 * b2 (m.testBit 1) + b2 (m.testBit 0) := by
    unfold figF
    rw [show 1 + 3 * 2 = 7 from rfl, show 2 + 3 * 2 = 8 from rfl, show 3 + 3 * 2 = 9 from rfl, p7, p8, p9]
    exact fig_t _ _ _ _
  have u0 : upF (cOf (m : Int)) 0 = 4 * b2 (m.testBit 11) := by
    unfold upF
    rw [show 3 + 3 * 0 = 3 from rfl, p3, up_s]
    cases m.testBit 11 <;> rfl
  have u1 : upF (cOf (m : Int)) 1 = 2 * b2 (m.testBit 10) := by
    unfold upF
    rw [show 3 + 3 * 1 = 6 from rfl, p6, up_s]
    cases m.testBit 10 <;> rfl
  have u2 : upF (cOf (m : Int)) 2 = b2 (m.testBit 9) := by
    unfold upF
    rw [show 3 + 3 * 2 = 9 from rfl, p9, up_t]
    cases m.testBit 9 <;> rfl
  rw [e, f0, f1, f2, u0, u1, u2]
  simp only [bit_val, Nat.reducePow]
  have c0 : (0 : Int) + 4 * ((m / 2048 % 2 : Nat) : Int) + 2 * ((m / 1024 % 2 : Nat) : Int) + ((m / 512 % 2 : Nat) : Int) = (m : Int) / 512 % 8 := by omega
  have c1 : 4 * ((m / 256 % 2 : Nat) : Int) + 2 * ((m / 128 % 2 : Nat) : Int) + ((m / 64 % 2 : Nat) : Int) = (m : Int) / 64 % 8 := by omega
  have c2 : 4 * ((m / 32 % 2 : Nat) : Int) + 2 * ((m / 16 % 2 : Nat) : Int) + ((m / 8 % 2 : Nat) : Int) = (m : Int) / 8 % 8 := by omega
  have c3 : 4 * ((m / 4 % 2 : Nat) : Int) + 2 * ((m / 2 % 2 : Nat) : Int) + ((m / 1 % 2 : Nat) : Int) = (m : Int) % 8 := by omega
  rw [c0, c1, c2, c3]
/-- the wish of a mode -/
noncomputable def wishOf (m : Int) : Wish := ⟨octS (m / 512 % 8), octS (m / 64 % 8), octS (m / 8 % 8), octS (m % 8)⟩
theorem told_wish {m : Int} (h : 0 ≤ m) : D.list ((figs (cOf m)).map fun i => .str (octS i)) = wishD (wishOf m) := by
  obtain ⟨k, rfl⟩ := Int.eq_ofNat_of_zero_le h
  rw [figs_are]
  rfl
end
section
/-! drawn tree, chains of folders -/
theorem digits_dig : ∀ f ∈ digits, Dig f := by
  intro f hf
  unfold digits at hf
  obtain ⟨k, hk, rfl⟩ := List.mem_map.mp hf
  simp only [List.mem_cons, List.not_mem_nil, or_false] at hk
  exact ⟨k, by omega, by omega, rfl⟩
theorem dig_digits {f : Str} (h : Dig f) : f ∈ digits := by
  obtain ⟨k, h1, h2, e⟩ := h
  have : f = ⟨#[k]⟩ := str_ext (by rw [e])
  rw [this]
  unfold digits
  refine List.mem_map.mpr ⟨k, ?_, rfl⟩
  simp only [List.mem_cons, List.not_mem_nil, or_false]
  omega
theorem digits_nodup : digits.Nodup := by decide +kernel
theorem digits_len : digits.length = 8 := rfl
noncomputable def names4 : List Str := ["p", "q", "r", "s"]
theorem names4_ok : ∀ z ∈ names4, GoodC z ∧ ¬ Dig z := by
  intro z hz
  have key : ∀ z ∈ names4, ∃ k, 112 ≤ k ∧ k ≤ 115 ∧ ch z = [k] := by
    intro z hz
    simp only [names4, List.mem_cons, List.not_mem_nil, or_false] at hz
    rcases hz with rfl | rfl | rfl | rfl
    · exact ⟨112, by omega, by omega, by kernel_rfl⟩
    · exact ⟨113, by omega, by omega, by kernel_rfl⟩
    · exact ⟨114, by omega, by omega, by kernel_rfl⟩
    · exact ⟨115, by omega, by omega, by kernel_rfl⟩
  obtain ⟨k, h1, h2, e⟩ := key z hz
  refine ⟨⟨by rw [e]; simp, fun c hc => by rw [e] at hc; rw [List.mem_singleton.mp hc]; omega⟩, ?_⟩
  rintro ⟨j, j1, j2, e'⟩
  rw [e] at e'
  have : k = j := by simpa using e'
  omega
noncomputable def Named (f : Str) : Prop := ∃ cs, f = pathStr cs ∧ ∀ z ∈ cs, z ∈ names4
theorem Named.root : Named slash := ⟨[], pathStr_nil.symm, fun z hz => by cases hz⟩
theorem named_join {f x : Str} (h : Named f) (hx : x ∈ names4) : Named (joinS f x) := by
  obtain ⟨cs, rfl, h2⟩ := h
  refine ⟨cs ++ [x], join_path (fun z hz => (names4_ok z (h2 z hz)).1) (names4_ok x hx).1, fun z hz => ?_⟩
  rcases List.mem_append.mp hz with q | q
  · exact h2 z q
  · rw [List.mem_singleton.mp q]; exact hx
theorem folders_named (num : Int) : ∀ f ∈ (dFolders num).1, Named f := by
  have key : ∀ (r : List (Str × Int)) (b : List Str × Int), (∀ p ∈ r, p.1 ∈ names4) → (∀ f ∈ b.1, Named f) → ∀ f ∈ (r.foldl dStep b).1, Named f := by
    intro r
    induction r with
    | nil => intro b _ h; exact h
    | cons p r ih =>
      intro b hp h
      rw [List.foldl_cons]
      refine ih _ (fun q hq => hp q (.tail _ hq)) fun f hf => ?_
      simp only [dStep, List.mem_append, List.mem_singleton] at hf
      rcases hf with hf | rfl
      · exact h f hf
      · refine named_join ?_ (hp p (.head _))
        cases hq : b.1[(b.2 % p.2).toNat]? with
        | none => exact Named.root
        | some g => exact h g (List.mem_of_getElem? hq)
  refine key dRows ([slash], num) (by decide +kernel) fun f hf => ?_
  rw [List.mem_singleton.mp hf]
  exact Named.root
/-- a file's path in the drawn tree -/
noncomputable def Leafy (x f : Str) : Prop := ∃ cs, x = pathStr (cs ++ [f]) ∧ (∀ z ∈ cs, z ∈ names4) ∧ x.length ≤ 60
theorem drawn_leafy (num : Int) : ∀ f ∈ digits, Leafy (pathAt (drawnOf num) f) f := by
  have key : ∀ (l : List Str) (b : List (Str × Str) × Int), (∀ f ∈ l, Dig f) → ∀ f, (f ∈ l ∨ Leafy (pathAt b.1 f) f) → Leafy (pathAt (l.foldl (eStep (dFolders num).1) b).1 f) f := by
    intro l
    induction l with
    | nil => intro b _ f h; exact h.elim (fun q => by cases q) id
    | cons o r ih =>
      intro b hd f h
      rw [List.foldl_cons]
      refine ih _ (fun g hg => hd g (.tail _ hg)) f ?_
      by_cases hfo : f = o
      · right
        subst hfo
        show Leafy (pathAt (dput b.1 f _) f) f
        rw [pathAt_dput, if_pos rfl]
        have hn : Named (((dFolders num).1[(b.2 % 5).toNat]?).getD slash) ∧ (((dFolders num).1[(b.2 % 5).toNat]?).getD slash).length ≤ 50 := by
          cases hq : (dFolders num).1[(b.2 % 5).toNat]? with
          | none => exact ⟨Named.root, by rw [Option.getD_none, slash_len]; omega⟩
          | some g => exact ⟨folders_named num g (List.mem_of_getElem? hq), (dFolders_ok num).2 g (List.mem_of_getElem? hq)⟩
        obtain ⟨⟨cs, h1, h2⟩, h3⟩ := hn
        have hdf := hd f (.head _)
        have hjl := joinS_len (((dFolders num).1[(b.2 % 5).toNat]?).getD slash) f
        have hfl : f.length = 1 := by
          obtain ⟨k, _, _, e⟩ := hdf
          rw [← ch_len, e]; rfl
        refine ⟨cs, ?_, h2, by omega⟩
        rw [h1]
        exact join_path (fun z hz => (names4_ok z (h2 z hz)).1) hdf.good
      · rcases h with h | h
        · rcases List.mem_cons.mp h with e | h
          · exact absurd e hfo
          · exact .inl h
        · right
          show Leafy (pathAt (dput b.1 o _) f) f
          rw [pathAt_dput, if_neg hfo]
          exact h
  intro f hf
  exact key digits ([], (dFolders num).2) digits_dig f (.inl hf)
theorem drawn_keys (num : Int) (k : Str) : k ∈ (drawnOf num).map (·.1) ↔ k ∈ digits := by
  have key : ∀ (l : List Str) (b : List (Str × Str) × Int), k ∈ (l.foldl (eStep (dFolders num).1) b).1.map (·.1) ↔ k ∈ b.1.map (·.1) ∨ k ∈ l := by
    intro l
    induction l with
    | nil => intro b; simp
    | cons o r ih =>
      intro b
      rw [List.foldl_cons, ih]
      show k ∈ (dput b.1 o _).map (·.1) ∨ k ∈ r ↔ _
      rw [dput_keys, List.mem_cons]
      constructor
      · rintro ((h | h) | h)
        · exact .inl h
        · exact .inr (.inl h)
        · exact .inr (.inr h)
      · rintro (h | h | h)
        · exact .inl (.inl h)
        · exact .inl (.inr h)
        · exact .inr h
  have := key digits ([], (dFolders num).2)
  have e : (drawnOf num) = (digits.foldl (eStep (dFolders num).1) ([], (dFolders num).2)).1 := rfl
  rw [e, this]
  exact ⟨fun h => h.elim (fun q => by cases q) id, .inr⟩
noncomputable def compAt (num : Int) (f : Str) : List Str := compsOf (pathAt (drawnOf num) f)
theorem comp_at {num : Int} {f : Str} (hf : f ∈ digits) : ∃ cs, compAt num f = cs ++ [f] ∧ (∀ z ∈ cs, z ∈ names4) ∧ pathAt (drawnOf num) f = pathStr (compAt num f) ∧ GoodL (compAt num f) := by
  obtain ⟨cs, h1, h2, _⟩ := drawn_leafy num f hf
  have hg : GoodL (cs ++ [f]) := GoodL.append (fun z hz => (names4_ok z (h2 z hz)).1) (GoodL.one (digits_dig f hf).good)
  have e : compAt num f = cs ++ [f] := by
    unfold compAt
    rw [h1, comps_path hg]
  exact ⟨cs, e, h2, by rw [e, h1], by rw [e]; exact hg⟩
theorem drawn_leaf (num : Int) : Leaf (compAt num) digits := by
  intro f hf g hg h
  obtain ⟨cs, e1, h1, _⟩ := comp_at (num := num) hf
  obtain ⟨ds, e2, h2, _⟩ := comp_at (num := num) hg
  rw [e1, e2] at h
  have hm : f ∈ ds ++ [g] := h.subset (by simp)
  rcases List.mem_append.mp hm with q | q
  · exact absurd (digits_dig f hf) (names4_ok f (h2 f q)).2
  · exact List.mem_singleton.mp q
theorem drawn_absQ (num : Int) : ∀ k ∈ (drawnOf num).map (·.1), AbsQ (pathAt (drawnOf num) k) := by
  intro k hk
  obtain ⟨cs, h1, _, h3⟩ := drawn_leafy num k ((drawn_keys num k).mp hk)
  exact ⟨by rw [h1]; exact start_slash _, by omega⟩
noncomputable def aboveOf (p : Str) : List Str := namesOf (if ((baseS p).length != 0) = true then baseS p else Str.ofString "01234567")
/-- the folders up from one, each deeper in the drawn tree than the one above it -/
inductive FolderOk (pd : List (Str × Str)) : Nat → Str → Prop
  | root : FolderOk pd 0 slash
  | step {k : Nat} {p : Str} : FolderOk pd k (dirS p) → p.length ≤ 1000 → (dirS p).length ≤ 1000 → (namesOf (baseS p) ≠ [] ∧ (namesOf (baseS p)).length ≤ 10 ∧ ∀ x ∈ namesOf (baseS p), x ∈ digits) → (aboveOf (dirS p) ≠ [] ∧ (aboveOf (dirS p)).length ≤ 10 ∧ ∀ x ∈ aboveOf (dirS p), x ∈ digits) →
    cmS ((namesOf (baseS p)).map (pathAt pd)) ≠ cmS ((aboveOf (dirS p)).map (pathAt pd)) → FolderOk pd (k + 1) p
theorem above_path {es : List Str} {block : List Str} (hne : block ≠ []) (h : ∀ f ∈ block, Dig f) : aboveOf (pathStr (es ++ [nameOf block])) = block := by
  have hg := name_good hne h
  unfold aboveOf
  rw [base_path hg, if_pos, names_name h]
  rw [bne_iff_ne, ← ch_len]
  intro e
  exact hg.1 (List.length_eq_zero_iff.mp e)
theorem above_root : aboveOf (pathStr []) = digits := by kernel_rfl
theorem chain_folder {num : Int} {files ds : List Str} (h : Chain (compAt num) files ds) : ∀ (es : List Str) (k : Nat), FolderOk (drawnOf num) k (pathStr es) → aboveOf (pathStr es) = files → GoodL es → files ≠ [] → (∀ f ∈ files, f ∈ digits) → files.length ≤ 9 → (flat es).length + 10 * ds.length ≤ 900 → FolderOk (drawnOf num) (k + ds.length) (pathStr (es ++ ds)) := by
  induction h with
  | nil files => intro es k h _ _ _ _ _ _; simpa using h
  | cons b1 b2 b3 b4 b5 ih =>
    rename_i files block ds
    intro es k h ha hg hne hf hl hlen
    have hbd : ∀ f ∈ block, f ∈ digits := fun f q => hf f (b2 f q)
    have hbg : ∀ f ∈ block, Dig f := fun f q => digits_dig f (hbd f q)
    have hn := name_good b1 hbg
    have hdir := dir_path hg hn
    have hbase : baseS (pathStr (es ++ [nameOf block])) = nameOf block := base_path hn
    have hcl : (ch (nameOf block)).length = block.length := by
      conv => rhs; rw [← names_name hbg]
      unfold namesOf
      rw [List.length_map]
    have hfl : (flat (es ++ [nameOf block])).length = (flat es).length + 1 + block.length := by
      rw [flat_snoc, List.length_append, List.length_cons, hcl]; omega
    rw [List.length_cons] at hlen
    have p1 := path_len_flat (es ++ [nameOf block])
    have p2 := path_len_flat es
    have maps : ∀ l : List Str, (∀ f ∈ l, f ∈ digits) → l.map (pathAt (drawnOf num)) = (l.map (compAt num)).map pathStr := by
      intro l hl
      rw [List.map_map]
      refine List.map_congr_left fun f q => ?_
      obtain ⟨_, _, _, e, _⟩ := comp_at (num := num) (hl f q)
      exact e
    have goods : ∀ l : List Str, (∀ f ∈ l, f ∈ digits) → ∀ c ∈ l.map (compAt num), GoodL c := by
      intro l hl c hc
      obtain ⟨f, q, rfl⟩ := List.mem_map.mp hc
      obtain ⟨_, _, _, _, e⟩ := comp_at (num := num) (hl f q)
      exact e
    have step : FolderOk (drawnOf num) (k + 1) (pathStr (es ++ [nameOf block])) := by
      refine .step (by rw [hdir]; exact h) (by omega) (by rw [hdir]; omega) ?_ ?_ ?_
      · rw [hbase, names_name hbg]; exact ⟨b1, by omega, hbd⟩
      · rw [hdir, ha]; exact ⟨hne, by omega, hf⟩
      · rw [hbase, names_name hbg, hdir, ha, maps _ hbd, maps _ hf, cmS_lcp (goods _ hbd), cmS_lcp (goods _ hf)]
        intro e
        exact b4 (path_inj (lcp_good (by simpa using b1) (goods _ hbd)) (lcp_good (by simpa using hne) (goods _ hf)) e)
    have := ih (es ++ [nameOf block]) (k + 1) step (above_path b1 hbg) (hg.append (GoodL.one hn)) b1 hbd (by omega) (by omega)
    rw [List.append_assoc] at this
    rw [List.length_cons, show k + (ds.length + 1) = k + 1 + ds.length by omega]
    exact this
end
section
/-! the law's answers -/
theorem growLoop_keys2 {rec : Str → List Str → List Wish → List (Str × Str)} {μ : Str → Str} {folder : Str} {files : List Str} {ws : List Wish} : ∀ (k : Nat) (left : List Str) (g g' : List (Str × Str)), growLoop rec μ folder files ws k left g = some g' → (g.map (·.1)).Nodup → (g'.map (·.1)).Nodup ∧ ∀ y ∈ g'.map (·.1), y ∈ g.map (·.1) ∨ y ∈ left
  | _, [], g, g', e, hn => by
    simp only [growLoop, Option.some.injEq] at e
    subst e
    exact ⟨hn, fun y h => .inl h⟩
  | 0, a :: r, g, g', e, _ => by simp [growLoop] at e
  | k + 1, a :: r, g, g', e, hn => by
    rw [growLoop] at e
    split at e
    · cases e
    · split at e
      · cases e
      · obtain ⟨h1, h2⟩ := growLoop_keys2 k _ _ g' e (by
          have put : ∀ (g : List (Str × Str)) (k x : Str), (g.map (·.1)).Nodup → ((dput g k x).map (·.1)).Nodup := by
            intro g k x h
            unfold dput
            split
            · have e : (g.map fun p : Str × Str => if p.1 = k then (p.1, x) else p).map (·.1) = g.map (·.1) := by
                rw [List.map_map]
                refine List.map_congr_left fun p _ => ?_
                show (if p.1 = k then (p.1, x) else p).1 = p.1
                split <;> rfl
              rw [e]; exact h
            · rename_i hq
              rw [List.map_append]
              refine List.nodup_append.mpr ⟨h, by simp, ?_⟩
              intro a ha b hb hab
              have hb2 : b = k := by simpa using hb
              rw [hab, hb2] at ha
              obtain ⟨p, hp, hpk⟩ := List.mem_map.mp ha
              exact hq (List.any_eq_true.mpr ⟨p, hp, by simpa using hpk⟩)
          have all : ∀ (block : List Str) (g : List (Str × Str)) (below : List (Str × Str)), (g.map (·.1)).Nodup → ((putAll block below g).map (·.1)).Nodup := by
            intro block
            induction block with
            | nil => intro g below h; exact h
            | cons o r ih =>
              intro g below h
              exact ih (dput g o ((dget below o).getD slash)) below (put _ _ _ h)
          exact all _ _ _ hn)
        refine ⟨h1, fun y hy => ?_⟩
        rcases h2 y hy with h | h
        · rw [putAll_keys] at h
          rcases h with h | h
          · exact .inl h
          · exact .inr (blockOf_sub.subset h)
        · exact .inr (List.mem_filter.mp h).1
theorem grow_keys2 (n : Nat) (folder : Str) (files : List Str) (ws : List Wish) : ((growOf n folder files ws).map (·.1)).Nodup ∧ ∀ y ∈ (growOf n folder files ws).map (·.1), y ∈ files := by
  cases n with
  | zero => exact ⟨by simp [growOf], fun y h => by simp [growOf] at h⟩
  | succ n =>
    rw [growOf]
    split
    · rename_i h1
      split
      · refine ⟨by simp, fun y hy => ?_⟩
        match files, h1 with
        | [f], _ => simpa using hy
      · exact ⟨by simp, fun y h => by simp at h⟩
    · cases e : growLoop (growOf n) (loopM ws 10 fun x => x) folder files ws files.length files [] with
      | none => exact ⟨by simp, fun y h => by simp at h⟩
      | some g =>
        obtain ⟨h1, h2⟩ := growLoop_keys2 _ _ _ _ e (by simp)
        exact ⟨h1, fun y hy => (h2 y hy).elim (fun q => by cases q) id⟩
theorem dget_mem {k v : Str} : ∀ {l : List (Str × Str)}, (l.map (·.1)).Nodup → (k, v) ∈ l → dget l k = some v
  | p :: r, hn, h => by
    rw [List.map_cons, List.nodup_cons] at hn
    unfold dget
    rw [List.find?_cons]
    rcases List.mem_cons.mp h with e | h
    · rw [← e]; simp
    · have hne : p.1 ≠ k := fun e => hn.1 (e ▸ List.mem_map.mpr ⟨(k, v), h, rfl⟩)
      have ih := dget_mem hn.2 h
      unfold dget at ih
      rw [decide_eq_false hne]
      exact ih
theorem values_at {l : List (Str × Str)} (hn : (l.map (·.1)).Nodup) {v : Str} (h : v ∈ l.map (·.2)) : ∃ k ∈ l.map (·.1), v = pathAt l k := by
  obtain ⟨p, hp, rfl⟩ := List.mem_map.mp h
  refine ⟨p.1, List.mem_map.mpr ⟨p, hp, rfl⟩, ?_⟩
  unfold pathAt
  rw [dget_mem (k := p.1) (v := p.2) hn hp]; rfl
theorem ds_len : ∀ (n : Nat) (files : List Str) (ws : List Wish) (f : Str), (∀ g ∈ files, Dig g) → files.length ≤ 9 → (dsOf n files ws f).length ≤ n ∧ (flat (dsOf n files ws f)).length ≤ 10 * n
  | 0, _, _, _, _, _ => by simp [dsOf, flat]
  | n + 1, files, ws, f, hd, hl => by
    rw [dsOf]
    split
    · simp [flat]
    · have hcd : ∀ g ∈ clsOf (mark ws) files f, Dig g := fun g hg => hd g (cls_mem.mp hg).1
      have hcl := (cls_sub (μ := mark ws) (files := files) (f := f)).length_le
      obtain ⟨h1, h2⟩ := ds_len n (clsOf (mark ws) files f) (innerOf ws (clsOf (mark ws) files f)) f hcd (by omega)
      split
      · omega
      · have hc : (ch (nameOf (clsOf (mark ws) files f))).length = (clsOf (mark ws) files f).length := by
          conv => rhs; rw [← names_name hcd]
          unfold namesOf
          rw [List.length_map]
        simp only [List.length_cons, flat, List.length_append, hc]
        omega
section
variable {num : Int} {ws : List Wish}
theorem within_in (hin : Within digits ws) : ∀ q ∈ ws, ∀ k ∈ wishL q, k ∈ digits := by
  intro q hq k hk
  obtain ⟨h1, h2, h3, h4⟩ := hin q hq
  simp only [wishL, List.mem_cons, List.not_mem_nil, or_false] at hk
  rcases hk with rfl | rfl | rfl | rfl <;> assumption
theorem drawn_keeps_iff (hin : Within digits ws) : keepsOf cmS (drawnOf num) ws = true ↔ ∀ q ∈ ws, KeptQ (compAt num) q :=
  keeps_iff fun q hq k hk => by
    obtain ⟨_, _, _, e, g⟩ := comp_at (num := num) (within_in hin q hq k hk)
    exact ⟨e, g⟩
theorem kept_grows (hin : Within digits ws) (hk : keepsOf cmS (drawnOf num) ws = true) : growOf 8 slash digits ws ≠ [] ∧ ∀ f ∈ digits, Chain (compAt num) digits (dsOf 8 digits ws f) :=
  grow_kept (compAt num) 8 slash digits ws digits_nodup (by decide) (Nat.le_refl _) hin (drawn_leaf num) ((drawn_keeps_iff hin).mp hk)
theorem none_unkept (hin : Within digits ws) (h : growOf 8 slash digits ws = []) : keepsOf cmS (drawnOf num) ws = false := by
  cases hk : keepsOf cmS (drawnOf num) ws with
  | false => rfl
  | true => exact absurd h (kept_grows hin hk).1
theorem grown_at (h : growOf 8 slash digits ws ≠ []) {f : Str} (hf : f ∈ digits) : pathAt (growOf 8 slash digits ws) f = pathStr (dsOf 8 digits ws f ++ [f]) ∧ GoodL (dsOf 8 digits ws f) := by
  have := grow_paths 8 [] digits ws GoodL.nil digits_dig (by rw [pathStr_nil]; exact h) f hf
  rw [pathStr_nil] at this
  exact this
theorem grown_keeps (hin : Within digits ws) (h : growOf 8 slash digits ws ≠ []) : keepsOf cmS (growOf 8 slash digits ws) ws = true := by
  have hk := grow_keeps 8 slash [] digits ws digits_dig (by decide) hin h
  refine (keeps_iff (C := fun f => [] ++ dsOf 8 digits ws f ++ [f]) fun q hq k hkq => ?_).mpr hk
  have hd := within_in hin q hq k hkq
  obtain ⟨e, g⟩ := grown_at h hd
  exact ⟨e, g.append (GoodL.one (digits_dig k hd).good)⟩
theorem grown_len (h : growOf 8 slash digits ws ≠ []) {f : Str} (hf : f ∈ digits) : (pathAt (growOf 8 slash digits ws) f).length ≤ 90 := by
  rw [(grown_at h hf).1]
  have h1 := path_len_flat (dsOf 8 digits ws f ++ [f])
  have h2 := (ds_len 8 digits ws f digits_dig (by decide)).2
  obtain ⟨k, _, _, e⟩ := digits_dig f hf
  rw [flat_snoc, List.length_append, List.length_cons, e] at h1
  simp only [List.length_singleton] at h1
  omega
theorem grown_absQ (h : growOf 8 slash digits ws ≠ []) : ∀ k ∈ (growOf 8 slash digits ws).map (·.1), AbsQ (pathAt (growOf 8 slash digits ws) k) := by
  intro k hk
  have hd := (grow_keys2 8 slash digits ws).2 k hk
  have := grown_len h hd
  exact ⟨by rw [(grown_at h hd).1]; exact start_slash _, by omega⟩
theorem kept_within (hin : Within digits ws) (hk : keepsOf cmS (drawnOf num) ws = true) : ∀ v ∈ (growOf 8 slash digits ws).map (·.2), v.length ≤ 1000 ∧ ∃ k, k ≤ 8 ∧ FolderOk (drawnOf num) k (dirS v) := by
  intro v hv
  obtain ⟨hne, hch⟩ := kept_grows hin hk
  obtain ⟨hn, hsub⟩ := grow_keys2 8 slash digits ws
  obtain ⟨f, hf, rfl⟩ := values_at hn hv
  have hd := hsub f hf
  have hl := grown_len hne hd
  obtain ⟨e, g⟩ := grown_at hne hd
  have hb := ds_len 8 digits ws f digits_dig (by decide)
  refine ⟨by omega, (dsOf 8 digits ws f).length, hb.1, ?_⟩
  rw [e, dir_path g (digits_dig f hd).good]
  have hroot : FolderOk (drawnOf num) 0 (pathStr []) := by rw [pathStr_nil]; exact .root
  have := chain_folder (hch f hd) [] 0 hroot above_root GoodL.nil (by decide) (fun f h => h) (by decide) (by
    have e0 : (flat []).length = 0 := rfl
    omega)
  rw [Nat.zero_add] at this
  exact this
end
end
section
variable {w : World} {n : Nat} {env : Env} {σ : Sto}
theorem glob_within : Glob (cx w) "_law_within" (.ref 266) := ⟨.inl (by kernel_rfl), by kernel_rfl⟩
theorem keep_within : KeepF (cx w) (.ref 266) := .inl (by kernel_rfl)
theorem items_names (x : Str) : itemsOf (.str x) = some ((namesOf x).map D.str) := by
  show some (chars x) = _
  unfold chars namesOf ch
  rw [List.map_map]; rfl
theorem Ev.orS {c : Cx} {x y : Expr} {pos : Pos} {a b : Str} (h1 : Ev c n env σ x (.str a)) (ha : a.length ≤ sizeLine) (h2 : Ev c n env σ y (.str b)) : Ev c n env σ (.BoolOp .Or [x, y] pos) (.str (if (a.length != 0) = true then a else b)) := by
  have h := Ev.orv (pos := pos) h1 ha rfl (fun _ => h2)
  have e : (if truthD (.str a) = true then D.str a else D.str b) = .str (if (a.length != 0) = true then a else b) := by
    show (if (a.length != 0) = true then D.str a else D.str b) = _
    split <;> rfl
  rwa [e] at h
noncomputable def climb : Nat → List Str → Str → List Str
  | 0, seen, _ => seen
  | k + 1, seen, p => if seen.contains p = true then seen else climb k (seen ++ [p]) (dirS p)
theorem climb_len : ∀ (k : Nat) (seen : List Str) (p : Str), (climb k seen p).length ≤ seen.length + k
  | 0, seen, p => by simp [climb]
  | k + 1, seen, p => by
    rw [climb]
    split
    · omega
    · have := climb_len k (seen ++ [p]) (dirS p)
      simp only [List.length_append, List.length_singleton] at this
      omega
theorem climb_has : ∀ (k : Nat) (seen : List Str) (p x : Str), x ∈ seen → x ∈ climb k seen p
  | 0, seen, p, x, h => h
  | k + 1, seen, p, x, h => by
    rw [climb]
    split
    · exact h
    · exact climb_has k _ _ x (List.mem_append_left _ h)
noncomputable def wS (pd gd : List (Str × Str)) (seen : List Str) : Sto := [("drawn", .cel (some (.dict pd))), ("grown", .val (.dict gd)), ("seen", .own true (.list (sL seen)))]
noncomputable def wF (pd gd : List (Str × Str)) (seen : List Str) (p : Str) : Sto := [("drawn", .cel (some (.dict pd))), ("grown", .val (.dict gd)), ("folder", .val (.str p)), ("seen", .own true (.list (sL seen)))]
theorem sL_map (l : List Str) (f : Str → Str) : sL (l.map f) = l.map fun x => .str (f x) := by
  show (l.map f).map D.str = _
  rw [List.map_map]; rfl
theorem common_at (pd : List (Str × Str)) (hp : ∀ k ∈ digits, AbsQ (pathAt pd k)) (l : List Str) (h : l ≠ [] ∧ l.length ≤ 10 ∧ ∀ x ∈ l, x ∈ digits) : Prim (cx w) 12 [.list (l.map fun x => .str (pathAt pd x))] (fun vs => PySem.call (.ref 134) vs) (.str (cmS (l.map (pathAt pd)))) := by
  have := (common_ok (w := w)).call (l.map (pathAt pd)) (by simpa using h.1) (by rw [List.length_map]; exact h.2.1) (fun p hpm => by
    obtain ⟨x, hx, rfl⟩ := List.mem_map.mp hpm
    exact (hp x (h.2.2 x hx)).p)
  rwa [sL_map] at this
theorem sp_within {pd gd : List (Str × Str)} (hk : ∀ k ∈ digits, k ∈ pd.map (·.1)) (hp : ∀ k ∈ digits, AbsQ (pathAt pd k)) (hv : ∀ v ∈ gd.map (·.2), v.length ≤ 1000 ∧ ∃ k, k ≤ 8 ∧ FolderOk pd k (dirS v)) (hg : gd.length ≤ 10) :
    Prim (cx w) 13 [.dict pd, .dict gd] (fun vs => PySem.call (.ref 266) vs) (.bool true) := by
  refine Fn.prim' (by walk_at "fn") ["drawn", "grown"] [("drawn", .cel (some (.dict pd))), ("grown", .val (.dict gd))] (by kernel_rfl) rfl (by kernel_rfl) (by kernel_rfl) (vs2 fun a b => rfl) fun env hs => ?_
  conv => arg 5; whnf
  refine Ex.cons (Ex1.ownList (by walk_at "evs") (by walk_at "kind") (lt_line (by decide))) ?_
  refine Ex.weak (σ₂ := wS pd gd [slash]) ?_ (by unfold wS; rw [show sL [slash] = [.str slash] from rfl]; walk_at "weak")
  refine Ex.cons (σ' := []) (Ex1.forValues (l := gd) (by unfold wS; walk_at "ev") TgtOk.name ?_) (X.ret (by walk_at "ev"))
  have hval : ∀ v ∈ gd, v.2.length ≤ 1000 ∧ ∃ k, k ≤ 8 ∧ FolderOk pd k (dirS v.2) := fun v h => hv v.2 (List.mem_map.mpr ⟨v, h, rfl⟩)
  have hpl : ∀ k ∈ digits, k ∈ pd.map (·.1) := hk
  refine (?_ : ∀ (rem : List (Str × Str)) (seen : List Str), (∀ v ∈ rem, v ∈ gd) → slash ∈ seen → seen.length + 9 * rem.length ≤ 100 → Lp (cx w) 12 env _ _ _ (valsD rem) (wS pd gd seen) (.next [])) gd [slash] (fun v h => h) (.head _) (by simp; omega)
  intro rem
  induction rem with
  | nil => intro seen _ _ _; exact Lp.nil (Ex.nilW (by unfold wS; walk_at "weak"))
  | cons v r ih =>
    intro seen hr hsl hlen
    rw [List.length_cons] at hlen
    obtain ⟨hv1, k, hk8, hF⟩ := hval v (hr v (.head _))
    have hcl := climb_len 9 seen (dirS v.2)
    refine Lp.next TgtOk.name (Tg.nameL (by walk_at "kind")) ?_ (fun _ _ e => ⟨_, e, .inl rfl⟩) (σ₂ := wS pd gd (climb 9 seen (dirS v.2))) (ih _ (fun u hu => hr u (.tail _ hu)) (climb_has _ _ _ _ hsl) (by omega))
    unfold wS
    refine X.assign (Callee.ev glob_dirname (by walk_at "kind") keep_dirname (by walk_at "evs") ((sp_dirname hv1).le (by omega))) (by walk_at "kind") ?_
    refine Ex.weak (σ₂ := wF pd gd seen (dirS v.2)) ?_ (by unfold wF; walk_at "weak")
    refine Ex.one (Ex1.whil ?_)
    refine (?_ : ∀ (k : Nat) (p : Str), FolderOk pd k p → ∀ (K : Nat) (seen : List Str), k < K → slash ∈ seen → seen.length + K ≤ 200 → Wh (cx w) 12 env _ _ _ (wF pd gd seen p) (.next (wS pd gd (climb K seen p)))) k (dirS v.2) hF 9 seen (by omega) hsl (by omega)
    intro k p h
    induction h with
    | root =>
      intro K seen hK hsl hl
      obtain ⟨K', rfl⟩ : ∃ K', K = K' + 1 := ⟨K - 1, by omega⟩
      have hc : seen.contains slash = true := by simpa using hsl
      rw [climb, if_pos hc]
      refine Wh.stop ?_ (Ex.nilW (by unfold wF wS; walk_at "weak"))
      have := Tr.notInOwn (c := cx w) (n := 12) (env := env) (σ := wF pd gd seen slash) (y := slash) (xs := seen) (x := "seen") (p := true) (l := .Name "folder" ⟨257, 14, 257, 20⟩) (np := ⟨257, 28, 257, 32⟩) (pos := ⟨257, 14, 257, 32⟩) (by unfold wF; walk_at "ev") (by unfold wF; walk_at "getd")
      rwa [hc] at this
    | step s1 s2 s3 s4 s5 s6 ihw =>
      rename_i k p
      intro K seen hK hsl hl
      obtain ⟨K', rfl⟩ : ∃ K', K = K' + 1 := ⟨K - 1, by omega⟩
      have htr := Tr.notInOwn (c := cx w) (n := 12) (env := env) (σ := wF pd gd seen p) (y := p) (xs := seen) (x := "seen") (p := true) (l := .Name "folder" ⟨257, 14, 257, 20⟩) (np := ⟨257, 28, 257, 32⟩) (pos := ⟨257, 14, 257, 32⟩) (by unfold wF; walk_at "ev") (by unfold wF; walk_at "getd")
      cases hc : seen.contains p with
      | true =>
        rw [climb, if_pos hc]
        rw [hc] at htr
        exact Wh.stop htr (Ex.nilW (by unfold wF wS; walk_at "weak"))
      | false =>
        rw [climb, if_neg (by rw [hc]; simp)]
        rw [hc] at htr
        refine Wh.next (σ₂ := wF pd gd (seen ++ [p]) (dirS p)) htr ?_ (fun _ _ e => ⟨_, e, .inl rfl⟩) (ihw K' (seen ++ [p]) (by omega) (List.mem_append_left _ hsl) (by simp; omega))
        have hb : (baseS p).length ≤ sizeLine := lt_line (Nat.le_trans (Nat.le_trans (Txt.slice_le _ _ _) s2) (by omega))
        have hb2 : (baseS (dirS p)).length ≤ sizeLine := lt_line (Nat.le_trans (Nat.le_trans (Txt.slice_le _ _ _) s3) (by omega))
        have c1 := common_at (w := w) pd hp _ s4
        have c2 := common_at (w := w) pd hp _ s5
        have hq : (cmS ((namesOf (baseS p)).map (pathAt pd)) == cmS ((aboveOf (dirS p)).map (pathAt pd))) = false := beq_eq_false_iff_ne.mpr s6
        unfold wF
        refine Ex.cons (Ex1.append (by walk_at "getd") (by walk_at "ev") (lt_line (by simp; omega))) ?_
        refine X.assign (d := .str (dirS p)) (Callee.ev glob_dirname (by walk_at "kind") keep_dirname (by walk_at "evs") ((sp_dirname s2).le (by omega))) (by walk_at "kind") ?_
        refine X.assign (d := .str (cmS ((namesOf (baseS p)).map (pathAt pd)))) (Callee.ev glob_common (by walk_at "kind") keep_common (Evs.cons (Ev.lcA D.str (fun x => .str (pathAt pd x)) (namesOf (baseS p)) [("drawn", .dict pd)] (d := .str (baseS p)) (Callee.ev glob_basename (by walk_at "kind") keep_basename (by walk_at "evs") ((sp_basename s2).le (by omega))) (items_names _) (CompOk.of rfl (by kernel_rfl) rfl (.cel (by walk_at "getd") .nil)) TgtOk.name (lt_line (by have := s4.2.1; omega)) fun C x hx => ⟨_, Tg.nameL (by walk_at "kind"), weak_put rfl, Ev.sub (by walk_at "ev") (by walk_at "ev") (get_ds (pathAt_get (hpl x (s4.2.2 x hx))))⟩) Evs.nil) c1) (by walk_at "kind") ?_
        refine X.ifF0 (Tr.cmp (d := .str (cmS ((namesOf (baseS p)).map (pathAt pd)))) (e := .str (cmS ((aboveOf (dirS p)).map (pathAt pd)))) (by walk_at "ev") (Callee.ev glob_common (by walk_at "kind") keep_common (Evs.cons (Ev.lcA D.str (fun x => .str (pathAt pd x)) (aboveOf (dirS p)) [("drawn", .dict pd)] (d := .str (if ((baseS (dirS p)).length != 0) = true then baseS (dirS p) else Str.ofString "01234567")) (Ev.orS (Callee.ev glob_basename (by walk_at "kind") keep_basename (by walk_at "evs") ((sp_basename s3).le (by omega))) hb2 (by walk_at "ev")) (items_names _) (CompOk.of rfl (by kernel_rfl) rfl (.cel (by walk_at "getd") .nil)) TgtOk.name (lt_line (by have := s5.2.1; omega)) fun C x hx => ⟨_, Tg.nameL (by walk_at "kind"), weak_put rfl, Ev.sub (by walk_at "ev") (by walk_at "ev") (get_ds (pathAt_get (hpl x (s5.2.2 x hx))))⟩) Evs.nil) c2) (by have := eq_ss (c := cx w) (n := 12) (x := cmS ((namesOf (baseS p)).map (pathAt pd))) (y := cmS ((aboveOf (dirS p)).map (pathAt pd))); rwa [hq] at this)) ?_
        refine X.assign (d := .str (dirS p)) (by walk_at "ev") (by walk_at "kind") (Ex.nilW ?_)
        rw [show sL (seen ++ [p]) = sL seen ++ [.str p] by simp]
        walk_at "weak"
end
section
section
variable {c : Cx} {n : Nat} {env : Env} {σ : Sto} {d : D} {scope : Scope}
theorem Ev.orT {x y : Expr} {pos : Pos} (h1 : Ev c n env σ x (.bool true)) : Ev c n env σ (.BoolOp .Or [x, y] pos) (.bool true) :=
  Ev.orv (e := .bool true) (pos := pos) h1 trivial rfl (fun e => by cases e)
theorem Ev.orF {x y : Expr} {pos : Pos} {b : Bool} (h1 : Ev c n env σ x (.bool false)) (h2 : Ev c n env σ y (.bool b)) : Ev c n env σ (.BoolOp .Or [x, y] pos) (.bool b) :=
  Ev.orv (e := .bool b) (pos := pos) h1 trivial rfl (fun _ => h2)
/-- a list comprehension whose target is a cell of its own, and nothing captured -/
theorem Ex1.lcC {α : Type} {y z : Str} {elt iter t : Expr} {pos pp spos : Pos} (enc : α → D) (f : α → D) (xs : List α) (x : Ev c n env σ iter d) (hd : itemsOf d = some (xs.map enc)) (hsc : scope.kind = .function) (hn : decide (scope.names.map (·.1)).Nodup = true) (hf : (scope.names.filter (·.2 == .free)) = []) (hz : scope.names.lookup z = some .cell) (hk : env.kindOf y = some .local) (ht : TgtOk t) (hl : xs.length ≤ sizeLine)
    (h : ∀ C, ∀ x ∈ xs, ∃ σ₁, Tg c n (cEnv scope env C) [(z, .cel none)] t (enc x) σ₁ ∧ Weak σ₁ [(z, .cel none)] ∧ Ev c n (cEnv scope env C) σ₁ elt (f x))
    (hsw : swapsWith (.ListComp elt [⟨t, iter, [], 0⟩] scope pos) (some (.Name y pp)) spos.line env = pure true)
    (hs : ∀ x, foldedSetIterable iter env x = pure x := by intro _; rfl) : Ex1 c n env σ (.Assign [.Name y pp] (.ListComp elt [⟨t, iter, [], 0⟩] scope pos) spos) (.next (σ.put y (.val (.list (xs.map f))))) := by
  have ok : CompOk scope env σ [(z, .cel none)] := {
    kind := hsc
    nodup := of_decide_eq_true hn
    free := fun y hy => by
      have : (y, NameKind.free) ∈ scope.names.filter (·.2 == .free) := List.mem_filter.mpr ⟨hy, rfl⟩
      rw [hf] at this; cases this
    inn := fun y u e => by
      simp only [Sto.get, List.lookup_cons, List.lookup_nil] at e
      by_cases hyz : y = z
      · subst hyz
        simp only [beq_self_eq_true, Option.some.injEq] at e
        exact .inr ⟨e.symm, hz⟩
      · rw [show (y == z) = false by simpa using hyz] at e
        cases e }
  refine Ex1.listComp x hd ok hk (fun C D => ?_) hsw hs
  have := CLp.list (c := c) (n := n) (cenv := cEnv scope env C) (σ := [(z, .cel none)]) (elt := elt) (t := t) (iter := iter) (ifs := []) (pos := pos) (scope := scope) (D₀ := D) ht enc (fun _ => true) f xs [] (by simpa using hl) (fun x hx => let ⟨σ₁, a, b, e⟩ := h C x hx; ⟨σ₁, a, b, Ts.nil, fun _ => e⟩)
  rw [show xs.filter (fun _ => true) = xs from List.filter_eq_self.mpr fun _ _ => rfl] at this
  simpa using this
end
variable {w : World} {n : Nat} {env : Env} {σ : Sto}
theorem glob_cells : Glob (cx w) "_law_cells" (.ref 232) := ⟨.inl (by kernel_rfl), by kernel_rfl⟩
theorem keep_cells : KeepF (cx w) (.ref 232) := .inl (by kernel_rfl)
theorem glob_drawn : Glob (cx w) "_law_drawn" (.ref 239) := ⟨.inl (by kernel_rfl), by kernel_rfl⟩
theorem keep_drawn : KeepF (cx w) (.ref 239) := .inl (by kernel_rfl)
theorem glob_figures : Glob (cx w) "_law_figures" (.ref 244) := ⟨.inl (by kernel_rfl), by kernel_rfl⟩
theorem keep_figures : KeepF (cx w) (.ref 244) := .inl (by kernel_rfl)
theorem glob_keeps : Glob (cx w) "_law_keeps" (.ref 261) := ⟨.inl (by kernel_rfl), by kernel_rfl⟩
theorem keep_keeps : KeepF (cx w) (.ref 261) := .inl (by kernel_rfl)
theorem cellsF_len : ∀ (k : Nat) (acc : List Int) (xs : List Int), (cellsF k acc xs).length = acc.length
  | _, _, [] => rfl
  | k, acc, x :: r => by rw [cellsF, cellsF_len]; simp
noncomputable def cellsOf (ns : List Int) : List Int := cellsF 0 baseCells (ns.take 6)
theorem cellsOf_len (ns : List Int) : (cellsOf ns).length = 6 := cellsF_len _ _ _
noncomputable def wishesOf (ns : List Int) : List Wish := ((cellsOf ns).drop 1).map fun x => wishOf (x % 65536)
noncomputable def numOf (ns : List Int) : Int := (cellsOf ns)[0]?.getD 0
theorem oct_dig {i : Int} : Dig (octS (i % 8)) := by
  have h1 : 0 ≤ i % 8 := Int.emod_nonneg _ (by omega)
  have h2 : i % 8 < 8 := Int.emod_lt_of_pos _ (by omega)
  exact ⟨48 + (i % 8).toNat, by omega, by omega, by simp [ch, octS]⟩
theorem wishes_within (ns : List Int) : Within digits (wishesOf ns) := by
  intro q hq
  obtain ⟨x, _, rfl⟩ := List.mem_map.mp hq
  exact ⟨dig_digits oct_dig, dig_digits oct_dig, dig_digits oct_dig, dig_digits oct_dig⟩
theorem wishes_len (ns : List Int) : (wishesOf ns).length = 5 := by
  unfold wishesOf
  rw [List.length_map, List.length_drop, cellsOf_len]
theorem bits8 : Builtin.Int.intBits 8 = 4 := by decide +kernel
theorem pow8 : ∀ k ∈ ([3, 2, 1, 0] : List Int), 0 ≤ k ∧ k ≤ 3 ∧ 0 < (8 : Int) ^ k.toNat ∧ ((8 : Int) ^ k.toNat).natAbs < 1073741824 := by decide +kernel
theorem wish_eq (m : Int) : D.list (([3, 2, 1, 0] : List Int).map fun k => .str (octS (m / (8 : Int) ^ k.toNat % 8))) = wishD (wishOf m) := by
  have e3 : (8 : Int) ^ (3 : Int).toNat = 512 := by decide +kernel
  have e2 : (8 : Int) ^ (2 : Int).toNat = 64 := by decide +kernel
  have e1 : (8 : Int) ^ (1 : Int).toNat = 8 := by decide +kernel
  have e0 : (8 : Int) ^ (0 : Int).toNat = 1 := by decide +kernel
  simp only [List.map_cons, List.map_nil, e3, e2, e1, e0, Int.ediv_one]
  rfl
theorem sp_fig {m : Int} (h : 0 ≤ m) : Prim (cx w) 1 [.str (Txt.join (Str.ofString "") (permOf m 0 modeTable))] (fun vs => PySem.call (.ref 244) vs) (wishD (wishOf m)) := by
  have := sp_figures (w := w) (cOf m)
  rwa [told_wish h, ← row_is] at this
theorem law_prim {ns : List Int} (hns : ns.length ≤ 100) : Prim (cx w) 21 [.list (iL ns)] (fun vs => PySem.call (.ref 271) vs) (.bool true) := by
  refine Fn.prim' (by walk_at "fn") ["script"] [("script", .val (.list (iL ns)))] (by kernel_rfl) rfl (by kernel_rfl) (by kernel_rfl) (vs1 fun a => rfl) fun env hs => ?_
  conv => arg 5; whnf
  have hc6 := cellsOf_len ns
  have hin := wishes_within ns
  have hwl := wishes_len ns
  have hmod : ∀ x : Int, 0 ≤ x % 65536 := fun x => Int.emod_nonneg _ (by omega)
  have htold : (((cellsOf ns).drop 1).map fun x => wishD (wishOf (x % 65536))) = (wishesOf ns).map wishD := by
    unfold wishesOf
    rw [List.map_map]; rfl
  have hdl : ((cellsOf ns).drop 1).length ≤ sizeLine := lt_line (by rw [List.length_drop, hc6]; omega)
  have h0 : (cellsOf ns)[0]? = some (numOf ns) := by
    unfold numOf
    rw [List.getElem?_eq_getElem (by omega)]; rfl
  refine X.assign (d := .list (iL (cellsOf ns))) (Callee.ev glob_cells (by walk_at "kind") keep_cells (by walk_at "evs") ((sp_cells hns).le (by omega))) (by walk_at "kind") ?_
  refine X.assign (d := .dict (drawnOf (numOf ns))) (Callee.ev glob_drawn (by walk_at "kind") keep_drawn (Evs.cons (d := .int (numOf ns)) (Ev.sub (by walk_at "ev") (by walk_at "ev") (get_li (by omega) (by omega) (by show (iL (cellsOf ns))[0]? = _; rw [List.getElem?_map, h0]; rfl))) Evs.nil) (sp_drawn.le (by omega))) (by walk_at "kind") ?_
  have hsl : SlP (cx w) 20 (.list (iL (cellsOf ns))) (some 1) none (.list (iL ((cellsOf ns).drop 1))) := by
    have : SlP (cx w) 20 (.list (iL (cellsOf ns))) (some 1) none (.list ((iL (cellsOf ns)).drop 1)) := slice_l_from (c := cx w) (n := 20) (ds := iL (cellsOf ns)) (k := 1) (lt_line (by simp; omega)) (by simp; omega)
    rwa [show (iL (cellsOf ns)).drop 1 = iL ((cellsOf ns).drop 1) from by simp [iL]] at this
  refine Ex.cons (Ex1.lcA D.int (fun x => .int (x % 65536)) ((cellsOf ns).drop 1) [] (d := .list (iL ((cellsOf ns).drop 1))) (Ev.slice (i := some 1) (j := none) (by walk_at "ev") (evo_some (by walk_at "ev")) trivial hsl) rfl (CompOk.of rfl (by kernel_rfl) (by kernel_rfl) .nil) (by walk_at "kind") TgtOk.name hdl (fun C x hx => ⟨_, Tg.nameL (by walk_at "kind"), weak_put rfl, Ev.bin (by walk_at "ev") Ev.cint (mod_ii (by omega))⟩) (swaps_true hs (by kernel_rfl) (by kernel_rfl) (by kernel_rfl) (by kernel_rfl))) ?_
  refine Ex.cons (Ex1.lcA (fun x => .int (x % 65536)) (fun x => wishD (wishOf (x % 65536))) ((cellsOf ns).drop 1) [] (d := .list (((cellsOf ns).drop 1).map fun x => .int (x % 65536))) (by walk_at "ev") rfl (CompOk.of rfl (by kernel_rfl) (by kernel_rfl) .nil) (by walk_at "kind") TgtOk.name hdl (fun C x hx => ⟨_, Tg.nameL (by walk_at "kind"), weak_put rfl, Callee.ev glob_figures (by walk_at "kind") keep_figures (Evs.cons (Callee.ev glob_filemode (by walk_at "kind") keep_filemode (by walk_at "evs") (sp_filemode.le (by omega))) Evs.nil) ((sp_fig (hmod x)).le (by omega))⟩) (swaps_true hs (by kernel_rfl) (by kernel_rfl) (by kernel_rfl) (by kernel_rfl))) ?_
  rw [htold]
  refine Ex.cons (Ex1.lcC (z := "mode") (fun x => .int (x % 65536)) (fun x => wishD (wishOf (x % 65536))) ((cellsOf ns).drop 1) (d := .list (((cellsOf ns).drop 1).map fun x => .int (x % 65536))) (by walk_at "ev") rfl rfl (by kernel_rfl) (by kernel_rfl) (by kernel_rfl) (by walk_at "kind") TgtOk.name hdl (fun C x hx => ⟨_, Tg.nameC rfl, by walk_at "weak", ?_⟩) (swaps_true hs (by kernel_rfl) (by kernel_rfl) (by kernel_rfl) (by kernel_rfl))) ?_
  · rw [← wish_eq]
    refine Ev.lcA D.int (fun k => .str (octS (x % 65536 / (8 : Int) ^ k.toNat % 8))) [3, 2, 1, 0] [("mode", .int (x % 65536))] (by walk_at "ev") rfl (CompOk.of rfl (by kernel_rfl) rfl (.cel (by walk_at "getd") .nil)) TgtOk.name (lt_line (by decide)) fun C2 k hk => ?_
    obtain ⟨k1, k2, k3, k4⟩ := pow8 k hk
    have m1 : 0 ≤ x % 65536 / (8 : Int) ^ k.toNat % 8 := Int.emod_nonneg _ (by omega)
    have m2 : x % 65536 / (8 : Int) ^ k.toNat % 8 < 8 := Int.emod_lt_of_pos _ (by omega)
    refine ⟨_, Tg.nameL (by walk_at "kind"), weak_put rfl, Ev.sub Ev.cstr (Ev.bin (Ev.bin (by walk_at "ev") (Ev.bin Ev.cint (by walk_at "ev") (pow_ii k1 (by rw [bits8]; omega))) (div_ii k3 k4)) Ev.cint (mod_ii (by omega))) (get_si (k := 48 + (x % 65536 / (8 : Int) ^ k.toNat % 8).toNat) m1 (by omega) (dig_at _ (by omega)))⟩
  rw [htold]
  change Ex _ _ _ (Sto.put (Sto.put _ _ (.val (wishesD (wishesOf ns)))) _ (.val (wishesD (wishesOf ns)))) _ _
  have hlist : Prim (cx w) 20 [.str (Str.ofString "01234567")] (fun vs => PySem.call (.type "list") vs) (.list (sL digits)) := by
    have := list_of_str (c := cx w) (n := 20) (x := Str.ofString "01234567") (lt_line (show 8 ≤ 10000 by omega))
    rwa [chars_digits] at this
  have hgrow := sp_grow (sp_filter (w := w)) 8 slash digits (wishesOf ns) digits_nodup (by decide) (Nat.le_refl _) (by decide) (by decide +kernel) hin (by omega) (by rw [slash_len]; omega)
  refine X.assign (d := .dict (growOf 8 slash digits (wishesOf ns))) (Callee.ev glob_grow (by walk_at "kind") keep_grow (Evs.cons (by walk_at "ev") (Evs.cons (Callee.ev glob_list (by walk_at "kind") keep_ty (by walk_at "evs") hlist) (Evs.cons (by walk_at "ev") Evs.nil))) hgrow) (by walk_at "kind") ?_
  have hki : ∀ q ∈ wishesOf ns, ∀ k ∈ wishL q, k ∈ (drawnOf (numOf ns)).map (·.1) := fun q hq k hk => (drawn_keys _ _).mpr (within_in hin q hq k hk)
  have hkeep := sp_keeps (common_ok (w := w)) hki (drawn_absQ (numOf ns))
  refine X.assign (d := .bool (keepsOf cmS (drawnOf (numOf ns)) (wishesOf ns))) (Callee.ev glob_keeps (by walk_at "kind") keep_keeps (by walk_at "evs") (hkeep.le (by omega))) (by walk_at "kind") ?_
  by_cases hg : growOf 8 slash digits (wishesOf ns) = []
  · have hnk := none_unkept (num := numOf ns) hin hg
    rw [hg, hnk]
    refine X.ifTs (Tr.cmp (d := .dict []) (by walk_at "ev") (by walk_at "ev") (by have := eq_dnil (c := cx w) (n := 20) (ds := []); exact this)) (X.ret (Ev.not (d := .bool false) (by walk_at "ev") trivial rfl rfl)) notnext_ret
  · have hge : (growOf 8 slash digits (wishesOf ns)).isEmpty = false := by
      cases hq : growOf 8 slash digits (wishesOf ns) with
      | nil => exact absurd hq hg
      | cons _ _ => rfl
    refine X.ifF0 (Tr.cmp (d := .dict (growOf 8 slash digits (wishesOf ns))) (by walk_at "ev") (by walk_at "ev") (by have := eq_dnil (c := cx w) (n := 20) (ds := growOf 8 slash digits (wishesOf ns)); rwa [hge] at this)) ?_
    have hkg : ∀ q ∈ wishesOf ns, ∀ k ∈ wishL q, k ∈ (growOf 8 slash digits (wishesOf ns)).map (·.1) := fun q hq k hk => growOf_keys hg k (within_in hin q hq k hk)
    have hkeepg := sp_keeps (common_ok (w := w)) hkg (grown_absQ hg)
    rw [grown_keeps hin hg] at hkeepg
    refine X.ifF0 (Tr.not (y := true) (Tr.value (d := .bool true) (Callee.ev glob_keeps (by walk_at "kind") keep_keeps (by walk_at "evs") (hkeepg.le (by omega))) trivial rfl rfl) rfl) ?_
    have hlen : (growOf 8 slash digits (wishesOf ns)).length ≤ 10 := by
      obtain ⟨h1, h2⟩ := grow_keys2 8 slash digits (wishesOf ns)
      have := h1.length_le_of_subset (fun y hy => h2 y hy)
      rw [List.length_map, digits_len] at this
      omega
    cases hk : keepsOf cmS (drawnOf (numOf ns)) (wishesOf ns) with
    | false =>
      exact X.ret (Ev.orT (Ev.not (d := .bool false) (by walk_at "ev") trivial rfl rfl))
    | true =>
      have hwi := sp_within (w := w) (pd := drawnOf (numOf ns)) (gd := growOf 8 slash digits (wishesOf ns)) (fun k h => (drawn_keys _ _).mpr h) (fun k h => drawn_absQ _ k ((drawn_keys _ _).mpr h)) (kept_within hin hk) hlen
      exact X.ret (Ev.orF (Ev.not (d := .bool true) (by walk_at "ev") trivial rfl rfl) (Callee.ev glob_within (by walk_at "kind") keep_within (by walk_at "evs") (hwi.le (by omega))))
end
section
theorem well_ints {c : Cx} {P : Params} {h : Heap} : ∀ {ns : List Int} {vs : List Value}, WellAll P h vs (ofPys (ns.map PyData.int)) → Reps c h (iL ns) vs
  | [], vs, x => by
    cases x
    exact .nil
  | n :: r, vs, x => by
    cases x with
    | cons a b =>
      cases a
      exact .cons (.int _ _) (well_ints b)
theorem well_list {c : Cx} {P : Params} {h : Heap} {ns : List Int} {l : Addr} (x : Well P h (.ref l) (ofPy (.list (ns.map PyData.int)))) : Rep c h (.list (iL ns)) (.ref l) := by
  cases x with
  | list e r => exact .list ⟨_, e, rfl, rfl, _, rfl⟩ (by simpa using well_ints r)
theorem law_run {w : World} {prog : Program} (hp : prog = PySem.Challenge.rw_kt0045_01.row.prog) {P : Params} {p : Program} {loose : List Str} {mean : ExcName → Option Value} {mg mb : Str → Option Value} {s : Shared} (KX : (Kf w).In s.heap) (T : PyProof.Rows.Top p loose mean mg mb s.heap) {fa : Addr} (hmg : mg "law" = some (.ref fa)) {ns : List Int} {l : Addr} (hw : Well P s.heap (.ref l) (ofPy (.list (ns.map PyData.int)))) (hn : ¬ ((63 : Nat) : Int) < (ns.length : Int)) :
    wpAny (model prog w) callerA (PySem.call (.ref fa) [.ref l]) (fun v s' => v = .bool true ∧ ∃ h' tk, s' = { s with heap := h', toks := tk } ∧ Le s.heap h') Noth s := by
  subst hp
  have h0 : mg "law" = some (.ref 271) := mg_of KX T.g (by kernel_rfl)
  rw [hmg] at h0
  cases h0
  have hno : ∀ a, ¬ fr callerA a := by
    rintro a ⟨fs, h1, e, he, h2⟩
    have : callerA.frames = some [] := rfl
    rw [this] at h1
    cases h1
    cases he
  have R : Room callerA 21 := {
    hh := rfl
    dp := by show 1 + claimMargin + 21 < 900; decide +kernel
    un := by show 4 + 10 * 21 < 9900; omega
    frs := ⟨[], rfl, fun e he => by cases he⟩ }
  refine noth (law_prim (w := w) (ns := ns) (by omega) callerA s.heap s [.ref l] R ⟨Le.refl _, fun a ha => absurd ha (hno a)⟩ ⟨KX, p, loose, mg, mb, topRead_of T⟩ (.cons (well_list hw) .nil)) fun v s' q => ?_
  obtain ⟨g', h', tk, e, G, r⟩ := q
  cases r
  exact ⟨rfl, h', tk, e, fun a o ea => G.keep.out a o (hno a) ea⟩
end
end Mine
end
open PySem PySem.W PyProof.Rows
namespace Mine
theorem lawS : (defOf view "law").isSome = true := by kernel_rfl
noncomputable def lawD : DefRec := ((defOf view "law").get lawS).1
end Mine
theorem PySem.Challenge.cw_kt0045_01_holds : PySem.Challenge.rw_kt0045_01.Holds := by
  refine holds_law Mine.said fun k1 => ?_
  refine holds_open (q := Mine.view) (d := Mine.lawD) (kwd := []) (loose := Mine.loose) (XP := XL Mine.view Mine.lv) (YP := Hook.says Mine.hook) (N := 3900) Mine.left1 (Hook.of Mine.hook) (Hook.keeps Mine.hook) (fun s e => xl_of s (Bool.and_eq_true_iff.mp e).1) XL.keeps (by kernel_rfl) (by kernel_rfl) (by kernel_rfl) (fun s e => recFacts_of (Bool.and_eq_true_iff.mp e).2) (by kernel_rfl) k1 Mine.okk Mine.bare ?hw ?hc
  case hw => w_witness2
  intro w s₀ s₁ mg mb G Y fa o pm cd doc dV kV ho hd hcd hD hmg hg args vals as hpre hlay hrd hwl hlo
  have KX := kIn_of Y
  refine Ground.open G ?_
  intro T B D TE TW
  clear ho hd hcd hD
  wrow_args hpre hlay hrd hwl hlo
  rename_i w1 r0 hI hr hc1 hc2
  refine Mine.noth (Mine.law_run rfl KX T hmg w1 hc1) fun v s' q => ?_
  obtain ⟨rfl, h', tk, rfl, k⟩ := q
  exact GoodW.toG ⟨.inl ⟨.bool true, .bool true, [], rfl, fun _ => rfl, .bool true, (by kernel_rfl), fun _ => ⟨List.nodup_nil, fun a ha => by cases ha⟩⟩, k, rfl, hg⟩
