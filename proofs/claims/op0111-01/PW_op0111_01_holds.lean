import PyProof.Rows.All
import Wide.All
import OpenK.AllK
import Wide.FinOn
import KE.KIntText
import KE.KRevSl
import PySem.Challenge.RW_op0111_01
set_option Elab.async false
set_option maxRecDepth 100000
set_option maxHeartbeats 8000000
set_option linter.unusedVariables false
namespace Mine
open PySem PySem.W PySem.Spec PySem.Calls PyProof.Rows
section
abbrev lawP : Program := PySem.Challenge.pw_op0111_01
def atS : List Stmt → Nat → Stmt
  | [], _ => .Pass default
  | s :: _, 0 => s
  | _ :: r, n + 1 => atS r n
def bodyS : Stmt → List Stmt
  | .FunctionDef _ _ b _ _ _ _ _ _ _ => b
  | .ClassDef _ _ _ b _ _ _ _ _ _ _ => b
  | _ => []
def argsS : Stmt → Arguments
  | .FunctionDef _ a _ _ _ _ _ _ _ _ => a
  | _ => default
def scopeS : Stmt → Scope
  | .FunctionDef _ _ _ _ _ _ s _ _ _ => s
  | _ => default
noncomputable def topS (i : Nat) : Stmt := atS lawP.main.body i
noncomputable def metS (i j : Nat) : Stmt := atS (bodyS (topS i)) j
structure Hold {α : Type} (x : α) : Prop where
abbrev Hold.val {α : Type} {x : α} (_ : Hold x) : α := x
noncomputable def hd.heap_39 : Params → Frag := by
  intro P
  apply (fun (x : Frag) (_ : Hold x) => x)
  have r0 : Hold (argsS (topS 0)) := ⟨⟩
  conv at r0 => arg 1; whnf
  have r1 : Hold (bodyS (topS 0)) := ⟨⟩
  conv at r1 => arg 1; whnf
  have r2 : Hold (scopeS (topS 0)) := ⟨⟩
  conv at r2 => arg 1; whnf
  have r3 : Hold (argsS (metS 2 0)) := ⟨⟩
  conv at r3 => arg 1; whnf
  have r4 : Hold (bodyS (metS 2 0)) := ⟨⟩
  conv at r4 => arg 1; whnf
  have r5 : Hold (scopeS (metS 2 0)) := ⟨⟩
  conv at r5 => arg 1; whnf
  have r6 : Hold (argsS (metS 2 1)) := ⟨⟩
  conv at r6 => arg 1; whnf
  have r7 : Hold (bodyS (metS 2 1)) := ⟨⟩
  conv at r7 => arg 1; whnf
  have r8 : Hold (scopeS (metS 2 1)) := ⟨⟩
  conv at r8 => arg 1; whnf
  have r9 : Hold (argsS (metS 2 2)) := ⟨⟩
  conv at r9 => arg 1; whnf
  have r10 : Hold (bodyS (metS 2 2)) := ⟨⟩
  conv at r10 => arg 1; whnf
  have r11 : Hold (scopeS (metS 2 2)) := ⟨⟩
  conv at r11 => arg 1; whnf
  have r12 : Hold (argsS (metS 2 3)) := ⟨⟩
  conv at r12 => arg 1; whnf
  have r13 : Hold (bodyS (metS 2 3)) := ⟨⟩
  conv at r13 => arg 1; whnf
  have r14 : Hold (scopeS (metS 2 3)) := ⟨⟩
  conv at r14 => arg 1; whnf
  have r15 : Hold (argsS (topS 4)) := ⟨⟩
  conv at r15 => arg 1; whnf
  have r16 : Hold (bodyS (topS 4)) := ⟨⟩
  conv at r16 => arg 1; whnf
  have r17 : Hold (scopeS (topS 4)) := ⟨⟩
  conv at r17 => arg 1; whnf
  have r18 : Hold (argsS (topS 6)) := ⟨⟩
  conv at r18 => arg 1; whnf
  have r19 : Hold (bodyS (topS 6)) := ⟨⟩
  conv at r19 => arg 1; whnf
  have r20 : Hold (scopeS (topS 6)) := ⟨⟩
  conv at r20 => arg 1; whnf
  have r21 : Hold (argsS (metS 8 0)) := ⟨⟩
  conv at r21 => arg 1; whnf
  have r22 : Hold (bodyS (metS 8 0)) := ⟨⟩
  conv at r22 => arg 1; whnf
  have r23 : Hold (scopeS (metS 8 0)) := ⟨⟩
  conv at r23 => arg 1; whnf
  have r24 : Hold (argsS (metS 10 0)) := ⟨⟩
  conv at r24 => arg 1; whnf
  have r25 : Hold (bodyS (metS 10 0)) := ⟨⟩
  conv at r25 => arg 1; whnf
  have r26 : Hold (scopeS (metS 10 0)) := ⟨⟩
  conv at r26 => arg 1; whnf
  have r27 : Hold (argsS (metS 10 1)) := ⟨⟩
  conv at r27 => arg 1; whnf
  have r28 : Hold (bodyS (metS 10 1)) := ⟨⟩
  conv at r28 => arg 1; whnf
  have r29 : Hold (scopeS (metS 10 1)) := ⟨⟩
  conv at r29 => arg 1; whnf
  have r30 : Hold (argsS (metS 10 2)) := ⟨⟩
  conv at r30 => arg 1; whnf
  have r31 : Hold (bodyS (metS 10 2)) := ⟨⟩
  conv at r31 => arg 1; whnf
  have r32 : Hold (scopeS (metS 10 2)) := ⟨⟩
  conv at r32 => arg 1; whnf
  have r33 : Hold (argsS (topS 11)) := ⟨⟩
  conv at r33 => arg 1; whnf
  have r34 : Hold (bodyS (topS 11)) := ⟨⟩
  conv at r34 => arg 1; whnf
  have r35 : Hold (scopeS (topS 11)) := ⟨⟩
  conv at r35 => arg 1; whnf
  have r36 : Hold (argsS (topS 13)) := ⟨⟩
  conv at r36 => arg 1; whnf
  have r37 : Hold (bodyS (topS 13)) := ⟨⟩
  conv at r37 => arg 1; whnf
  have r38 : Hold (scopeS (topS 13)) := ⟨⟩
  conv at r38 => arg 1; whnf
  have r39 : Hold (argsS (topS 15)) := ⟨⟩
  conv at r39 => arg 1; whnf
  have r40 : Hold (bodyS (topS 15)) := ⟨⟩
  conv at r40 => arg 1; whnf
  have r41 : Hold (scopeS (topS 15)) := ⟨⟩
  conv at r41 => arg 1; whnf
  have r42 : Hold (argsS (topS 16)) := ⟨⟩
  conv at r42 => arg 1; whnf
  have r43 : Hold (bodyS (topS 16)) := ⟨⟩
  conv at r43 => arg 1; whnf
  have r44 : Hold (scopeS (topS 16)) := ⟨⟩
  conv at r44 => arg 1; whnf
  have r45 : Hold (argsS (topS 17)) := ⟨⟩
  conv at r45 => arg 1; whnf
  have r46 : Hold (bodyS (topS 17)) := ⟨⟩
  conv at r46 => arg 1; whnf
  have r47 : Hold (scopeS (topS 17)) := ⟨⟩
  conv at r47 => arg 1; whnf
  have r48 : Hold (argsS (topS 19)) := ⟨⟩
  conv at r48 => arg 1; whnf
  have r49 : Hold (bodyS (topS 19)) := ⟨⟩
  conv at r49 => arg 1; whnf
  have r50 : Hold (scopeS (topS 19)) := ⟨⟩
  conv at r50 => arg 1; whnf
  have r51 : Hold (argsS (topS 40)) := ⟨⟩
  conv at r51 => arg 1; whnf
  have r52 : Hold (bodyS (topS 40)) := ⟨⟩
  conv at r52 => arg 1; whnf
  have r53 : Hold (scopeS (topS 40)) := ⟨⟩
  conv at r53 => arg 1; whnf
  have r54 : Hold (argsS (topS 42)) := ⟨⟩
  conv at r54 => arg 1; whnf
  have r55 : Hold (bodyS (topS 42)) := ⟨⟩
  conv at r55 => arg 1; whnf
  have r56 : Hold (scopeS (topS 42)) := ⟨⟩
  conv at r56 => arg 1; whnf
  have r57 : Hold (argsS (topS 43)) := ⟨⟩
  conv at r57 => arg 1; whnf
  have r58 : Hold (bodyS (topS 43)) := ⟨⟩
  conv at r58 => arg 1; whnf
  have r59 : Hold (scopeS (topS 43)) := ⟨⟩
  conv at r59 => arg 1; whnf
  have r60 : Hold (argsS (topS 44)) := ⟨⟩
  conv at r60 => arg 1; whnf
  have r61 : Hold (bodyS (topS 44)) := ⟨⟩
  conv at r61 => arg 1; whnf
  have r62 : Hold (scopeS (topS 44)) := ⟨⟩
  conv at r62 => arg 1; whnf
  have r63 : Hold (argsS (topS 45)) := ⟨⟩
  conv at r63 => arg 1; whnf
  have r64 : Hold (bodyS (topS 45)) := ⟨⟩
  conv at r64 => arg 1; whnf
  have r65 : Hold (scopeS (topS 45)) := ⟨⟩
  conv at r65 => arg 1; whnf
  have r66 : Hold (argsS (topS 46)) := ⟨⟩
  conv at r66 => arg 1; whnf
  have r67 : Hold (bodyS (topS 46)) := ⟨⟩
  conv at r67 => arg 1; whnf
  have r68 : Hold (scopeS (topS 46)) := ⟨⟩
  conv at r68 => arg 1; whnf
  have r69 : Hold (argsS (topS 47)) := ⟨⟩
  conv at r69 => arg 1; whnf
  have r70 : Hold (bodyS (topS 47)) := ⟨⟩
  conv at r70 => arg 1; whnf
  have r71 : Hold (scopeS (topS 47)) := ⟨⟩
  conv at r71 => arg 1; whnf
  have r72 : Hold (argsS (topS 48)) := ⟨⟩
  conv at r72 => arg 1; whnf
  have r73 : Hold (bodyS (topS 48)) := ⟨⟩
  conv at r73 => arg 1; whnf
  have r74 : Hold (scopeS (topS 48)) := ⟨⟩
  conv at r74 => arg 1; whnf
  have r75 : Hold (argsS (topS 49)) := ⟨⟩
  conv at r75 => arg 1; whnf
  have r76 : Hold (bodyS (topS 49)) := ⟨⟩
  conv at r76 => arg 1; whnf
  have r77 : Hold (scopeS (topS 49)) := ⟨⟩
  conv at r77 => arg 1; whnf
  have r78 : Hold (argsS (topS 50)) := ⟨⟩
  conv at r78 => arg 1; whnf
  have r79 : Hold (bodyS (topS 50)) := ⟨⟩
  conv at r79 => arg 1; whnf
  have r80 : Hold (scopeS (topS 50)) := ⟨⟩
  conv at r80 => arg 1; whnf
  have e : Hold ((
  (nat_lit 2, { cls := .none, data := .dict #[] }) ::
  (nat_lit 3, { cls := .type "dict", data := .dict ({ hash := PyData.keyHash P (Str.ofString "__name__"), key := .str (Str.ofString "__name__") 165, val := .str (Str.ofString "law_op0111_01") 487 } :: { hash := PyData.keyHash P (Str.ofString "__doc__"), key := .str (Str.ofString "__doc__") 166, val := .none } :: { hash := PyData.keyHash P (Str.ofString "__package__"), key := .str (Str.ofString "__package__") 167, val := .none } :: { hash := PyData.keyHash P (Str.ofString "__loader__"), key := .str (Str.ofString "__loader__") 168, val := .builtin "__main__.__loader__#opaque" } :: { hash := PyData.keyHash P (Str.ofString "__spec__"), key := .str (Str.ofString "__spec__") 169, val := .none } :: { hash := PyData.keyHash P (Str.ofString "__annotations__"), key := .str (Str.ofString "__annotations__") 170, val := .ref 6 } :: { hash := PyData.keyHash P (Str.ofString "__builtins__"), key := .str (Str.ofString "__builtins__") 171, val := .ref 4 } :: { hash := PyData.keyHash P (Str.ofString "__file__"), key := .str (Str.ofString "__file__") 173, val := .str (Str.ofString "/claim/cut.py") 172 } :: { hash := PyData.keyHash P (Str.ofString "__cached__"), key := .str (Str.ofString "__cached__") 174, val := .none } :: { hash := PyData.keyHash P (Str.ofString "_wall"), key := .str (Str.ofString "_wall") 193, val := .ref 21 } :: { hash := PyData.keyHash P (Str.ofString "Entry"), key := .str (Str.ofString "Entry") 257, val := .ref 59 } :: { hash := PyData.keyHash P (Str.ofString "_get_sep"), key := .str (Str.ofString "_get_sep") 266, val := .ref 70 } :: { hash := PyData.keyHash P (Str.ofString "_plain_name"), key := .str (Str.ofString "_plain_name") 277, val := .ref 77 } :: { hash := PyData.keyHash P (Str.ofString "ABCMeta"), key := .str (Str.ofString "ABCMeta") 303, val := .ref 94 } :: { hash := PyData.keyHash P (Str.ofString "_ABCLike"), key := .str (Str.ofString "_ABCLike") 346, val := .ref 127 } :: { hash := PyData.keyHash P (Str.ofString "_abc_plain_meta"), key := .str (Str.ofString "_abc_plain_meta") 353, val := .ref 136 } :: { hash := PyData.keyHash P (Str.ofString "fspath"), key := .str (Str.ofString "fspath") 365, val := .ref 143 } :: { hash := PyData.keyHash P (Str.ofString "splitroot"), key := .str (Str.ofString "splitroot") 376, val := .ref 150 } :: { hash := PyData.keyHash P (Str.ofString "dirname"), key := .str (Str.ofString "dirname") 386, val := .ref 157 } :: { hash := PyData.keyHash P (Str.ofString "normpath"), key := .str (Str.ofString "normpath") 401, val := .ref 164 } :: { hash := PyData.keyHash P (Str.ofString "S_IFMT"), key := .str (Str.ofString "S_IFMT") 410, val := .ref 171 } :: { hash := PyData.keyHash P (Str.ofString "S_IFDIR"), key := .str (Str.ofString "S_IFDIR") 412, val := .int 16384 411 } :: { hash := PyData.keyHash P (Str.ofString "S_IFCHR"), key := .str (Str.ofString "S_IFCHR") 414, val := .int 8192 413 } :: { hash := PyData.keyHash P (Str.ofString "S_IFBLK"), key := .str (Str.ofString "S_IFBLK") 416, val := .int 24576 415 } :: { hash := PyData.keyHash P (Str.ofString "S_IFREG"), key := .str (Str.ofString "S_IFREG") 418, val := .int 32768 417 } :: { hash := PyData.keyHash P (Str.ofString "S_IFIFO"), key := .str (Str.ofString "S_IFIFO") 420, val := .int 4096 419 } :: { hash := PyData.keyHash P (Str.ofString "S_IFLNK"), key := .str (Str.ofString "S_IFLNK") 422, val := .int 40960 421 } :: { hash := PyData.keyHash P (Str.ofString "S_IFSOCK"), key := .str (Str.ofString "S_IFSOCK") 424, val := .int 49152 423 } :: { hash := PyData.keyHash P (Str.ofString "S_ISUID"), key := .str (Str.ofString "S_ISUID") 426, val := .int 2048 425 } :: { hash := PyData.keyHash P (Str.ofString "S_ISGID"), key := .str (Str.ofString "S_ISGID") 428, val := .int 1024 427 } :: { hash := PyData.keyHash P (Str.ofString "S_ISVTX"), key := .str (Str.ofString "S_ISVTX") 430, val := .int 512 429 } :: { hash := PyData.keyHash P (Str.ofString "S_IRUSR"), key := .str (Str.ofString "S_IRUSR") 432, val := .int 256 431 } :: { hash := PyData.keyHash P (Str.ofString "S_IWUSR"), key := .str (Str.ofString "S_IWUSR") 434, val := .int 128 433 } :: { hash := PyData.keyHash P (Str.ofString "S_IXUSR"), key := .str (Str.ofString "S_IXUSR") 436, val := .int 64 435 } :: { hash := PyData.keyHash P (Str.ofString "S_IRGRP"), key := .str (Str.ofString "S_IRGRP") 438, val := .int 32 437 } :: { hash := PyData.keyHash P (Str.ofString "S_IWGRP"), key := .str (Str.ofString "S_IWGRP") 440, val := .int 16 439 } :: { hash := PyData.keyHash P (Str.ofString "S_IXGRP"), key := .str (Str.ofString "S_IXGRP") 442, val := .int 8 441 } :: { hash := PyData.keyHash P (Str.ofString "S_IROTH"), key := .str (Str.ofString "S_IROTH") 444, val := .int 4 443 } :: { hash := PyData.keyHash P (Str.ofString "S_IWOTH"), key := .str (Str.ofString "S_IWOTH") 446, val := .int 2 445 } :: { hash := PyData.keyHash P (Str.ofString "S_IXOTH"), key := .str (Str.ofString "S_IXOTH") 448, val := .int 1 447 } :: { hash := PyData.keyHash P (Str.ofString "_filemode_table"), key := .str (Str.ofString "_filemode_table") 474, val := .ref 204 } :: { hash := PyData.keyHash P (Str.ofString "filemode"), key := .str (Str.ofString "filemode") 486, val := .ref 211 } :: { hash := PyData.keyHash P (Str.ofString "_law_site"), key := .str (Str.ofString "_law_site") 494, val := .ref 218 } :: { hash := PyData.keyHash P (Str.ofString "_law_rules"), key := .str (Str.ofString "_law_rules") 500, val := .ref 225 } :: { hash := PyData.keyHash P (Str.ofString "_law_asks"), key := .str (Str.ofString "_law_asks") 506, val := .ref 230 } :: { hash := PyData.keyHash P (Str.ofString "_law_rule"), key := .str (Str.ofString "_law_rule") 516, val := .ref 237 } :: { hash := PyData.keyHash P (Str.ofString "_law_records"), key := .str (Str.ofString "_law_records") 529, val := .ref 244 } :: { hash := PyData.keyHash P (Str.ofString "_law_answer"), key := .str (Str.ofString "_law_answer") 542, val := .ref 251 } :: { hash := PyData.keyHash P (Str.ofString "_law_parts"), key := .str (Str.ofString "_law_parts") 551, val := .ref 258 } :: { hash := PyData.keyHash P (Str.ofString "_law_walked"), key := .str (Str.ofString "_law_walked") 557, val := .ref 263 } :: { hash := PyData.keyHash P (Str.ofString "law"), key := .str (Str.ofString "law") 563, val := .ref 268 } :: []).toArray 51 }) ::
  (nat_lit 15, { cls := .type "tuple", data := .seq #[] }) ::
  (nat_lit 17, { cls := .type "tuple", data := .seq #[.str (Str.ofString "k") 190] }) ::
  (nat_lit 18, { cls := .type "tuple", data := .seq #[] }) ::
  (nat_lit 20, { cls := .type "code", data := .fields #[.str (Str.ofString "_wall") 187, .str (Str.ofString "_wall") 188, .str (Str.ofString "/claim/cut.py") 189, .int 1 0, .int 1 0, .int 0 0, .int 0 0, .int 3 0, .ref 15, .bool true, .int 181 0, .ref 16, .none, .ref 17, .ref 18, .ref 19, .int 191 0, .int 1 0, .str (Str.ofString "/claim/cut.py") 192] }) ::
  (nat_lit 21, { cls := .type "function", data := .func { name := Str.ofString "_wall", qualname := Str.ofString "_wall", params := r0.val, body := .stmts r1.val, scope := r2.val, globals := 3, closure := [], defaults := .none, kwdefaults := .none, pyModule := .str (Str.ofString "__main__") 164, code := .ref 20 } }) ::
  (nat_lit 29, { cls := .type "tuple", data := .seq #[] }) ::
  (nat_lit 31, { cls := .type "tuple", data := .seq #[.str (Str.ofString "self") 211] }) ::
  (nat_lit 32, { cls := .type "tuple", data := .seq #[] }) ::
  (nat_lit 34, { cls := .type "code", data := .fields #[.str (Str.ofString "__init__") 208, .str (Str.ofString "Entry.__init__") 209, .str (Str.ofString "/claim/cut.py") 210, .int 7 0, .int 1 0, .int 0 0, .int 0 0, .int 3 0, .ref 29, .bool true, .int 181 0, .ref 30, .none, .ref 31, .ref 32, .ref 33, .int 212 0, .int 7 0, .str (Str.ofString "/claim/cut.py") 213] }) ::
  (nat_lit 35, { cls := .type "function", data := .func { name := Str.ofString "__init__", qualname := Str.ofString "Entry.__init__", params := r3.val, body := .stmts r4.val, scope := r5.val, globals := 3, closure := [], defaults := .none, kwdefaults := .none, pyModule := .str (Str.ofString "cpy313.urllib.robotparser") 194, code := .ref 34 } }) ::
  (nat_lit 36, { cls := .type "tuple", data := .seq #[] }) ::
  (nat_lit 38, { cls := .type "tuple", data := .seq #[.str (Str.ofString "self") 218, .str (Str.ofString "ret") 219, .str (Str.ofString "agent") 220, .str (Str.ofString "rate") 221] }) ::
  (nat_lit 39, { cls := .type "tuple", data := .seq #[] }) ::
  (nat_lit 41, { cls := .type "code", data := .fields #[.str (Str.ofString "__str__") 215, .str (Str.ofString "Entry.__str__") 216, .str (Str.ofString "/claim/cut.py") 217, .int 13 0, .int 1 0, .int 0 0, .int 0 0, .int 3 0, .ref 36, .bool true, .int 181 0, .ref 37, .none, .ref 38, .ref 39, .ref 40, .int 222 0, .int 13 0, .str (Str.ofString "/claim/cut.py") 223] }) ::
  (nat_lit 42, { cls := .type "function", data := .func { name := Str.ofString "__str__", qualname := Str.ofString "Entry.__str__", params := r6.val, body := .stmts r7.val, scope := r8.val, globals := 3, closure := [], defaults := .none, kwdefaults := .none, pyModule := .str (Str.ofString "cpy313.urllib.robotparser") 194, code := .ref 41 } }) ::
  (nat_lit 43, { cls := .type "tuple", data := .seq #[] }) ::
  (nat_lit 45, { cls := .type "tuple", data := .seq #[.str (Str.ofString "self") 228, .str (Str.ofString "useragent") 229, .str (Str.ofString "agent") 230] }) ::
  (nat_lit 46, { cls := .type "tuple", data := .seq #[] }) ::
  (nat_lit 48, { cls := .type "code", data := .fields #[.str (Str.ofString "applies_to") 225, .str (Str.ofString "Entry.applies_to") 226, .str (Str.ofString "/claim/cut.py") 227, .int 30 0, .int 2 0, .int 0 0, .int 0 0, .int 3 0, .ref 43, .bool true, .int 181 0, .ref 44, .none, .ref 45, .ref 46, .ref 47, .int 231 0, .int 30 0, .str (Str.ofString "/claim/cut.py") 232] }) ::
  (nat_lit 49, { cls := .type "function", data := .func { name := Str.ofString "applies_to", qualname := Str.ofString "Entry.applies_to", params := r9.val, body := .stmts r10.val, scope := r11.val, globals := 3, closure := [], defaults := .none, kwdefaults := .none, pyModule := .str (Str.ofString "cpy313.urllib.robotparser") 194, code := .ref 48 } }) ::
  (nat_lit 50, { cls := .type "tuple", data := .seq #[] }) ::
  (nat_lit 52, { cls := .type "tuple", data := .seq #[.str (Str.ofString "self") 237, .str (Str.ofString "filename") 238, .str (Str.ofString "best_match") 239, .str (Str.ofString "allowance") 240, .str (Str.ofString "line") 241, .str (Str.ofString "m") 242] }) ::
  (nat_lit 53, { cls := .type "tuple", data := .seq #[] }) ::
  (nat_lit 55, { cls := .type "code", data := .fields #[.str (Str.ofString "allowance") 234, .str (Str.ofString "Entry.allowance") 235, .str (Str.ofString "/claim/cut.py") 236, .int 41 0, .int 2 0, .int 0 0, .int 0 0, .int 3 0, .ref 50, .bool true, .int 181 0, .ref 51, .none, .ref 52, .ref 53, .ref 54, .int 243 0, .int 41 0, .str (Str.ofString "/claim/cut.py") 244] }) ::
  (nat_lit 56, { cls := .type "function", data := .func { name := Str.ofString "allowance", qualname := Str.ofString "Entry.allowance", params := r12.val, body := .stmts r13.val, scope := r14.val, globals := 3, closure := [], defaults := .none, kwdefaults := .none, pyModule := .str (Str.ofString "cpy313.urllib.robotparser") 194, code := .ref 55 } }) ::
  (nat_lit 57, { cls := .type "tuple", data := .seq #[.str (Str.ofString "delay") 246, .str (Str.ofString "req_rate") 247, .str (Str.ofString "rulelines") 248, .str (Str.ofString "useragents") 249] }) ::
  (nat_lit 58, { cls := .type "dict", data := .dict #[{ hash := PyData.keyHash P (Str.ofString "__module__"), key := .str (Str.ofString "__module__") 203, val := .str (Str.ofString "cpy313.urllib.robotparser") 194 }, { hash := PyData.keyHash P (Str.ofString "__firstlineno__"), key := .str (Str.ofString "__firstlineno__") 207, val := .int 5 206 }, { hash := PyData.keyHash P (Str.ofString "__init__"), key := .str (Str.ofString "__init__") 214, val := .ref 35 }, { hash := PyData.keyHash P (Str.ofString "__str__"), key := .str (Str.ofString "__str__") 224, val := .ref 42 }, { hash := PyData.keyHash P (Str.ofString "applies_to"), key := .str (Str.ofString "applies_to") 233, val := .ref 49 }, { hash := PyData.keyHash P (Str.ofString "allowance"), key := .str (Str.ofString "allowance") 245, val := .ref 56 }, { hash := PyData.keyHash P (Str.ofString "__static_attributes__"), key := .str (Str.ofString "__static_attributes__") 250, val := .ref 57 }, { hash := PyData.keyHash P (Str.ofString "__dict__"), key := .str (Str.ofString "__dict__") 252, val := .ref 60 }, { hash := PyData.keyHash P (Str.ofString "__weakref__"), key := .str (Str.ofString "__weakref__") 254, val := .ref 61 }, { hash := PyData.keyHash P (Str.ofString "__doc__"), key := .str (Str.ofString "__doc__") 255, val := .none }] 4 }) ::
  (nat_lit 59, { cls := .type "type", data := .cls { name := Str.ofString "Entry", bases := [.type "object"], mro := [.ref 59, .type "object"], ns := 58, qualname := Str.ofString "Entry" }, slots := #[none, none, some (.str (Str.ofString "Entry") 196), some (.str (Str.ofString "Entry") 204), some (.builtin "object.__new__"), some (.bool true)] }) ::
  (nat_lit 60, { cls := .type "getset_descriptor", data := .fields #[.str (Str.ofString "__dict__") 251, .ref 59, .builtin "function.__dict__", .builtin "function.__dict__#set"] }) ::
  (nat_lit 61, { cls := .type "getset_descriptor", data := .fields #[.str (Str.ofString "__weakref__") 253, .ref 59, .builtin "ExceptionGroup.__weakref__", .none] }) ::
  (nat_lit 64, { cls := .type "tuple", data := .seq #[] }) ::
  (nat_lit 66, { cls := .type "tuple", data := .seq #[.str (Str.ofString "path") 263] }) ::
  (nat_lit 67, { cls := .type "tuple", data := .seq #[] }) ::
  (nat_lit 69, { cls := .type "code", data := .fields #[.str (Str.ofString "_get_sep") 260, .str (Str.ofString "_get_sep") 261, .str (Str.ofString "/claim/cut.py") 262, .int 54 0, .int 1 0, .int 0 0, .int 0 0, .int 3 0, .ref 64, .bool true, .int 181 0, .ref 65, .none, .ref 66, .ref 67, .ref 68, .int 264 0, .int 54 0, .str (Str.ofString "/claim/cut.py") 265] }) ::
  (nat_lit 70, { cls := .type "function", data := .func { name := Str.ofString "_get_sep", qualname := Str.ofString "_get_sep", params := r15.val, body := .stmts r16.val, scope := r17.val, globals := 3, closure := [], defaults := .none, kwdefaults := .none, pyModule := .str (Str.ofString "cpy313.posixpath") 258, code := .ref 69 } }) ::
  (nat_lit 71, { cls := .type "tuple", data := .seq #[] }) ::
  (nat_lit 73, { cls := .type "tuple", data := .seq #[.str (Str.ofString "x") 272, .str (Str.ofString "what") 273, .str (Str.ofString "kind") 274] }) ::
  (nat_lit 74, { cls := .type "tuple", data := .seq #[] }) ::
  (nat_lit 76, { cls := .type "code", data := .fields #[.str (Str.ofString "_plain_name") 269, .str (Str.ofString "_plain_name") 270, .str (Str.ofString "/claim/cut.py") 271, .int 60 0, .int 2 0, .int 0 0, .int 0 0, .int 3 0, .ref 71, .bool true, .int 181 0, .ref 72, .none, .ref 73, .ref 74, .ref 75, .int 275 0, .int 60 0, .str (Str.ofString "/claim/cut.py") 276] }) ::
  (nat_lit 77, { cls := .type "function", data := .func { name := Str.ofString "_plain_name", qualname := Str.ofString "_plain_name", params := r18.val, body := .stmts r19.val, scope := r20.val, globals := 3, closure := [], defaults := .none, kwdefaults := .none, pyModule := .str (Str.ofString "os") 267, code := .ref 76 } }) ::
  (nat_lit 78, { cls := .type "tuple", data := .seq #[.type "type"] }) ::
  (nat_lit 85, { cls := .type "tuple", data := .seq #[] }) ::
  (nat_lit 87, { cls := .type "tuple", data := .seq #[.str (Str.ofString "cls") 295, .str (Str.ofString "subclass") 296] }) ::
  (nat_lit 88, { cls := .type "tuple", data := .seq #[] }) ::
  (nat_lit 90, { cls := .type "code", data := .fields #[.str (Str.ofString "register") 292, .str (Str.ofString "ABCMeta.register") 293, .str (Str.ofString "/claim/cut.py") 294, .int 68 0, .int 2 0, .int 0 0, .int 0 0, .int 3 0, .ref 85, .bool true, .int 181 0, .ref 86, .none, .ref 87, .ref 88, .ref 89, .int 297 0, .int 68 0, .str (Str.ofString "/claim/cut.py") 298] }) ::
  (nat_lit 91, { cls := .type "function", data := .func { name := Str.ofString "register", qualname := Str.ofString "ABCMeta.register", params := r21.val, body := .stmts r22.val, scope := r23.val, globals := 3, closure := [], defaults := .none, kwdefaults := .none, pyModule := .str (Str.ofString "abc") 278, code := .ref 90 } }) ::
  (nat_lit 92, { cls := .type "tuple", data := .seq #[] }) ::
  (nat_lit 93, { cls := .type "dict", data := .dict #[{ hash := PyData.keyHash P (Str.ofString "__module__"), key := .str (Str.ofString "__module__") 287, val := .str (Str.ofString "abc") 278 }, { hash := PyData.keyHash P (Str.ofString "__firstlineno__"), key := .str (Str.ofString "__firstlineno__") 291, val := .int 66 290 }, { hash := PyData.keyHash P (Str.ofString "register"), key := .str (Str.ofString "register") 299, val := .ref 91 }, { hash := PyData.keyHash P (Str.ofString "__static_attributes__"), key := .str (Str.ofString "__static_attributes__") 300, val := .ref 92 }, { hash := PyData.keyHash P (Str.ofString "__doc__"), key := .str (Str.ofString "__doc__") 301, val := .none }] 2 }) ::
  (nat_lit 94, { cls := .type "type", data := .cls { name := Str.ofString "ABCMeta", bases := [.type "type"], mro := [.ref 94, .type "type", .type "object"], ns := 93, qualname := Str.ofString "ABCMeta", subclasses := [.ref 127] }, slots := #[some (.ref 78), none, some (.str (Str.ofString "ABCMeta") 280), some (.str (Str.ofString "ABCMeta") 288), some (.builtin "type.__new__"), some (.bool true)] }) ::
  (nat_lit 97, { cls := .type "tuple", data := .seq #[.ref 94] }) ::
  (nat_lit 104, { cls := .type "tuple", data := .seq #[] }) ::
  (nat_lit 107, { cls := .type "tuple", data := .seq #[] }) ::
  (nat_lit 109, { cls := .type "code", data := .fields #[.str (Str.ofString "__instancecheck__") 318, .str (Str.ofString "_ABCLike.__instancecheck__") 319, .str (Str.ofString "/claim/cut.py") 320, .int 73 0, .int 2 0, .int 0 0, .int 0 0, .int 3 0, .ref 104, .bool true, .int 181 0, .ref 105, .none, .ref 106, .ref 107, .ref 108, .int 324 0, .int 73 0, .str (Str.ofString "/claim/cut.py") 325] }) ::
  (nat_lit 110, { cls := .type "function", data := .func { name := Str.ofString "__instancecheck__", qualname := Str.ofString "_ABCLike.__instancecheck__", params := r24.val, body := .stmts r25.val, scope := r26.val, globals := 3, closure := [], defaults := .none, kwdefaults := .none, pyModule := .str (Str.ofString "collections.abc") 304, code := .ref 109 } }) ::
  (nat_lit 111, { cls := .type "tuple", data := .seq #[] }) ::
  (nat_lit 113, { cls := .type "tuple", data := .seq #[.str (Str.ofString "cls") 330, .str (Str.ofString "C") 331] }) ::
  (nat_lit 114, { cls := .type "tuple", data := .seq #[] }) ::
  (nat_lit 116, { cls := .type "code", data := .fields #[.str (Str.ofString "__subclasscheck__") 327, .str (Str.ofString "_ABCLike.__subclasscheck__") 328, .str (Str.ofString "/claim/cut.py") 329, .int 79 0, .int 2 0, .int 0 0, .int 0 0, .int 3 0, .ref 111, .bool true, .int 181 0, .ref 112, .none, .ref 113, .ref 114, .ref 115, .int 332 0, .int 79 0, .str (Str.ofString "/claim/cut.py") 333] }) ::
  (nat_lit 117, { cls := .type "function", data := .func { name := Str.ofString "__subclasscheck__", qualname := Str.ofString "_ABCLike.__subclasscheck__", params := r27.val, body := .stmts r28.val, scope := r29.val, globals := 3, closure := [], defaults := .none, kwdefaults := .none, pyModule := .str (Str.ofString "collections.abc") 304, code := .ref 116 } }) ::
  (nat_lit 118, { cls := .type "tuple", data := .seq #[] }) ::
  (nat_lit 120, { cls := .type "tuple", data := .seq #[.str (Str.ofString "cls") 338, .str (Str.ofString "subclass") 339] }) ::
  (nat_lit 121, { cls := .type "tuple", data := .seq #[] }) ::
  (nat_lit 123, { cls := .type "code", data := .fields #[.str (Str.ofString "register") 335, .str (Str.ofString "_ABCLike.register") 336, .str (Str.ofString "/claim/cut.py") 337, .int 84 0, .int 2 0, .int 0 0, .int 0 0, .int 3 0, .ref 118, .bool true, .int 181 0, .ref 119, .none, .ref 120, .ref 121, .ref 122, .int 340 0, .int 84 0, .str (Str.ofString "/claim/cut.py") 341] }) ::
  (nat_lit 124, { cls := .type "function", data := .func { name := Str.ofString "register", qualname := Str.ofString "_ABCLike.register", params := r30.val, body := .stmts r31.val, scope := r32.val, globals := 3, closure := [], defaults := .none, kwdefaults := .none, pyModule := .str (Str.ofString "collections.abc") 304, code := .ref 123 } }) ::
  (nat_lit 125, { cls := .type "tuple", data := .seq #[] }) ::
  (nat_lit 126, { cls := .type "dict", data := .dict #[{ hash := PyData.keyHash P (Str.ofString "__module__"), key := .str (Str.ofString "__module__") 313, val := .str (Str.ofString "collections.abc") 304 }, { hash := PyData.keyHash P (Str.ofString "__firstlineno__"), key := .str (Str.ofString "__firstlineno__") 317, val := .int 71 316 }, { hash := PyData.keyHash P (Str.ofString "__instancecheck__"), key := .str (Str.ofString "__instancecheck__") 326, val := .ref 110 }, { hash := PyData.keyHash P (Str.ofString "__subclasscheck__"), key := .str (Str.ofString "__subclasscheck__") 334, val := .ref 117 }, { hash := PyData.keyHash P (Str.ofString "register"), key := .str (Str.ofString "register") 342, val := .ref 124 }, { hash := PyData.keyHash P (Str.ofString "__static_attributes__"), key := .str (Str.ofString "__static_attributes__") 343, val := .ref 125 }, { hash := PyData.keyHash P (Str.ofString "__doc__"), key := .str (Str.ofString "__doc__") 344, val := .none }] 2 }) ::
  (nat_lit 127, { cls := .type "type", data := .cls { name := Str.ofString "_ABCLike", bases := [.ref 94], mro := [.ref 127, .ref 94, .type "type", .type "object"], ns := 126, qualname := Str.ofString "_ABCLike" }, slots := #[some (.ref 97), none, some (.str (Str.ofString "_ABCLike") 306), some (.str (Str.ofString "_ABCLike") 314), some (.builtin "type.__new__"), some (.bool true)] }) ::
  (nat_lit 130, { cls := .type "tuple", data := .seq #[] }) ::
  (nat_lit 132, { cls := .type "tuple", data := .seq #[.str (Str.ofString "C") 350] }) ::
  (nat_lit 133, { cls := .type "tuple", data := .seq #[] }) ::
  (nat_lit 135, { cls := .type "code", data := .fields #[.str (Str.ofString "_abc_plain_meta") 347, .str (Str.ofString "_abc_plain_meta") 348, .str (Str.ofString "/claim/cut.py") 349, .int 86 0, .int 1 0, .int 0 0, .int 0 0, .int 3 0, .ref 130, .bool true, .int 181 0, .ref 131, .none, .ref 132, .ref 133, .ref 134, .int 351 0, .int 86 0, .str (Str.ofString "/claim/cut.py") 352] }) ::
  (nat_lit 136, { cls := .type "function", data := .func { name := Str.ofString "_abc_plain_meta", qualname := Str.ofString "_abc_plain_meta", params := r33.val, body := .stmts r34.val, scope := r35.val, globals := 3, closure := [], defaults := .none, kwdefaults := .none, pyModule := .str (Str.ofString "collections.abc") 304, code := .ref 135 } }) ::
  (nat_lit 137, { cls := .type "tuple", data := .seq #[] }) ::
  (nat_lit 139, { cls := .type "tuple", data := .seq #[.str (Str.ofString "path") 359, .str (Str.ofString "kind") 360, .str (Str.ofString "hook") 361, .str (Str.ofString "given") 362] }) ::
  (nat_lit 140, { cls := .type "tuple", data := .seq #[] }) ::
  (nat_lit 142, { cls := .type "code", data := .fields #[.str (Str.ofString "fspath") 356, .str (Str.ofString "fspath") 357, .str (Str.ofString "/claim/cut.py") 358, .int 90 0, .int 1 0, .int 0 0, .int 0 0, .int 3 0, .ref 137, .bool true, .int 181 0, .ref 138, .none, .ref 139, .ref 140, .ref 141, .int 363 0, .int 90 0, .str (Str.ofString "/claim/cut.py") 364] }) ::
  (nat_lit 143, { cls := .type "function", data := .func { name := Str.ofString "fspath", qualname := Str.ofString "fspath", params := r36.val, body := .stmts r37.val, scope := r38.val, globals := 3, closure := [], defaults := .none, kwdefaults := .none, pyModule := .str (Str.ofString "os") 354, code := .ref 142 } }) ::
  (nat_lit 144, { cls := .type "tuple", data := .seq #[] }) ::
  (nat_lit 146, { cls := .type "tuple", data := .seq #[.str (Str.ofString "p") 371, .str (Str.ofString "sep") 372, .str (Str.ofString "empty") 373] }) ::
  (nat_lit 147, { cls := .type "tuple", data := .seq #[] }) ::
  (nat_lit 149, { cls := .type "code", data := .fields #[.str (Str.ofString "splitroot") 368, .str (Str.ofString "splitroot") 369, .str (Str.ofString "/claim/cut.py") 370, .int 107 0, .int 1 0, .int 0 0, .int 0 0, .int 3 0, .ref 144, .bool true, .int 181 0, .ref 145, .none, .ref 146, .ref 147, .ref 148, .int 374 0, .int 107 0, .str (Str.ofString "/claim/cut.py") 375] }) ::
  (nat_lit 150, { cls := .type "function", data := .func { name := Str.ofString "splitroot", qualname := Str.ofString "splitroot", params := r39.val, body := .stmts r40.val, scope := r41.val, globals := 3, closure := [], defaults := .none, kwdefaults := .none, pyModule := .str (Str.ofString "cpy313.posixpath") 366, code := .ref 149 } }) ::
  (nat_lit 151, { cls := .type "tuple", data := .seq #[] }) ::
  (nat_lit 153, { cls := .type "tuple", data := .seq #[.str (Str.ofString "p") 380, .str (Str.ofString "sep") 381, .str (Str.ofString "i") 382, .str (Str.ofString "head") 383] }) ::
  (nat_lit 154, { cls := .type "tuple", data := .seq #[] }) ::
  (nat_lit 156, { cls := .type "code", data := .fields #[.str (Str.ofString "dirname") 377, .str (Str.ofString "dirname") 378, .str (Str.ofString "/claim/cut.py") 379, .int 121 0, .int 1 0, .int 0 0, .int 0 0, .int 3 0, .ref 151, .bool true, .int 181 0, .ref 152, .none, .ref 153, .ref 154, .ref 155, .int 384 0, .int 121 0, .str (Str.ofString "/claim/cut.py") 385] }) ::
  (nat_lit 157, { cls := .type "function", data := .func { name := Str.ofString "dirname", qualname := Str.ofString "dirname", params := r42.val, body := .stmts r43.val, scope := r44.val, globals := 3, closure := [], defaults := .none, kwdefaults := .none, pyModule := .str (Str.ofString "cpy313.posixpath") 366, code := .ref 156 } }) ::
  (nat_lit 158, { cls := .type "tuple", data := .seq #[] }) ::
  (nat_lit 160, { cls := .type "tuple", data := .seq #[.str (Str.ofString "path") 390, .str (Str.ofString "sep") 391, .str (Str.ofString "dot") 392, .str (Str.ofString "dotdot") 393, .str (Str.ofString "_") 394, .str (Str.ofString "initial_slashes") 395, .str (Str.ofString "comps") 396, .str (Str.ofString "new_comps") 397, .str (Str.ofString "comp") 398] }) ::
  (nat_lit 161, { cls := .type "tuple", data := .seq #[] }) ::
  (nat_lit 163, { cls := .type "code", data := .fields #[.str (Str.ofString "normpath") 387, .str (Str.ofString "normpath") 388, .str (Str.ofString "/claim/cut.py") 389, .int 129 0, .int 1 0, .int 0 0, .int 0 0, .int 3 0, .ref 158, .bool true, .int 181 0, .ref 159, .none, .ref 160, .ref 161, .ref 162, .int 399 0, .int 129 0, .str (Str.ofString "/claim/cut.py") 400] }) ::
  (nat_lit 164, { cls := .type "function", data := .func { name := Str.ofString "normpath", qualname := Str.ofString "normpath", params := r45.val, body := .stmts r46.val, scope := r47.val, globals := 3, closure := [], defaults := .none, kwdefaults := .none, pyModule := .str (Str.ofString "cpy313.posixpath") 366, code := .ref 163 } }) ::
  (nat_lit 165, { cls := .type "tuple", data := .seq #[] }) ::
  (nat_lit 167, { cls := .type "tuple", data := .seq #[.str (Str.ofString "mode") 407] }) ::
  (nat_lit 168, { cls := .type "tuple", data := .seq #[] }) ::
  (nat_lit 170, { cls := .type "code", data := .fields #[.str (Str.ofString "S_IFMT") 404, .str (Str.ofString "S_IFMT") 405, .str (Str.ofString "/claim/cut.py") 406, .int 155 0, .int 1 0, .int 0 0, .int 0 0, .int 3 0, .ref 165, .bool true, .int 181 0, .ref 166, .none, .ref 167, .ref 168, .ref 169, .int 408 0, .int 155 0, .str (Str.ofString "/claim/cut.py") 409] }) ::
  (nat_lit 171, { cls := .type "function", data := .func { name := Str.ofString "S_IFMT", qualname := Str.ofString "S_IFMT", params := r48.val, body := .stmts r49.val, scope := r50.val, globals := 3, closure := [], defaults := .none, kwdefaults := .none, pyModule := .str (Str.ofString "cpy313.stat") 402, code := .ref 170 } }) ::
  (nat_lit 172, { cls := .type "tuple", data := .seq #[.int 40960 421, .str (Str.ofString "l") 449] }) ::
  (nat_lit 173, { cls := .type "tuple", data := .seq #[.int 49152 423, .str (Str.ofString "s") 450] }) ::
  (nat_lit 174, { cls := .type "tuple", data := .seq #[.int 32768 417, .str (Str.ofString "-") 451] }) ::
  (nat_lit 175, { cls := .type "tuple", data := .seq #[.int 24576 415, .str (Str.ofString "b") 452] }) ::
  (nat_lit 176, { cls := .type "tuple", data := .seq #[.int 16384 411, .str (Str.ofString "d") 453] }) ::
  (nat_lit 177, { cls := .type "tuple", data := .seq #[.int 8192 413, .str (Str.ofString "c") 454] }) ::
  (nat_lit 178, { cls := .type "tuple", data := .seq #[.int 4096 419, .str (Str.ofString "p") 455] }) ::
  (nat_lit 179, { cls := .type "tuple", data := .seq #[.ref 172, .ref 173, .ref 174, .ref 175, .ref 176, .ref 177, .ref 178] }) ::
  (nat_lit 180, { cls := .type "tuple", data := .seq #[.int 256 431, .str (Str.ofString "r") 456] }) ::
  (nat_lit 181, { cls := .type "tuple", data := .seq #[.ref 180] }) ::
  (nat_lit 182, { cls := .type "tuple", data := .seq #[.int 128 433, .str (Str.ofString "w") 457] }) ::
  (nat_lit 183, { cls := .type "tuple", data := .seq #[.ref 182] }) ::
  (nat_lit 184, { cls := .type "tuple", data := .seq #[.int 2112 458, .str (Str.ofString "s") 459] }) ::
  (nat_lit 185, { cls := .type "tuple", data := .seq #[.int 2048 425, .str (Str.ofString "S") 460] }) ::
  (nat_lit 186, { cls := .type "tuple", data := .seq #[.int 64 435, .str (Str.ofString "x") 461] }) ::
  (nat_lit 187, { cls := .type "tuple", data := .seq #[.ref 184, .ref 185, .ref 186] }) ::
  (nat_lit 188, { cls := .type "tuple", data := .seq #[.int 32 437, .str (Str.ofString "r") 462] }) ::
  (nat_lit 189, { cls := .type "tuple", data := .seq #[.ref 188] }) ::
  (nat_lit 190, { cls := .type "tuple", data := .seq #[.int 16 439, .str (Str.ofString "w") 463] }) ::
  (nat_lit 191, { cls := .type "tuple", data := .seq #[.ref 190] }) ::
  (nat_lit 192, { cls := .type "tuple", data := .seq #[.int 1032 464, .str (Str.ofString "s") 465] }) ::
  (nat_lit 193, { cls := .type "tuple", data := .seq #[.int 1024 427, .str (Str.ofString "S") 466] }) ::
  (nat_lit 194, { cls := .type "tuple", data := .seq #[.int 8 441, .str (Str.ofString "x") 467] }) ::
  (nat_lit 195, { cls := .type "tuple", data := .seq #[.ref 192, .ref 193, .ref 194] }) ::
  (nat_lit 196, { cls := .type "tuple", data := .seq #[.int 4 443, .str (Str.ofString "r") 468] }) ::
  (nat_lit 197, { cls := .type "tuple", data := .seq #[.ref 196] }) ::
  (nat_lit 198, { cls := .type "tuple", data := .seq #[.int 2 445, .str (Str.ofString "w") 469] }) ::
  (nat_lit 199, { cls := .type "tuple", data := .seq #[.ref 198] }) ::
  (nat_lit 200, { cls := .type "tuple", data := .seq #[.int 513 470, .str (Str.ofString "t") 471] }) ::
  (nat_lit 201, { cls := .type "tuple", data := .seq #[.int 512 429, .str (Str.ofString "T") 472] }) ::
  (nat_lit 202, { cls := .type "tuple", data := .seq #[.int 1 447, .str (Str.ofString "x") 473] }) ::
  (nat_lit 203, { cls := .type "tuple", data := .seq #[.ref 200, .ref 201, .ref 202] }) ::
  (nat_lit 204, { cls := .type "tuple", data := .seq #[.ref 179, .ref 181, .ref 183, .ref 187, .ref 189, .ref 191, .ref 195, .ref 197, .ref 199, .ref 203] }) ::
  (nat_lit 205, { cls := .type "tuple", data := .seq #[] }) ::
  (nat_lit 207, { cls := .type "tuple", data := .seq #[.str (Str.ofString "mode") 478, .str (Str.ofString "perm") 479, .str (Str.ofString "index") 480, .str (Str.ofString "table") 481, .str (Str.ofString "bit") 482, .str (Str.ofString "char") 483] }) ::
  (nat_lit 208, { cls := .type "tuple", data := .seq #[] }) ::
  (nat_lit 210, { cls := .type "code", data := .fields #[.str (Str.ofString "filemode") 475, .str (Str.ofString "filemode") 476, .str (Str.ofString "/claim/cut.py") 477, .int 177 0, .int 1 0, .int 0 0, .int 0 0, .int 3 0, .ref 205, .bool true, .int 181 0, .ref 206, .none, .ref 207, .ref 208, .ref 209, .int 484 0, .int 177 0, .str (Str.ofString "/claim/cut.py") 485] }) ::
  (nat_lit 211, { cls := .type "function", data := .func { name := Str.ofString "filemode", qualname := Str.ofString "filemode", params := r51.val, body := .stmts r52.val, scope := r53.val, globals := 3, closure := [], defaults := .none, kwdefaults := .none, pyModule := .str (Str.ofString "cpy313.stat") 402, code := .ref 210 } }) ::
  (nat_lit 212, { cls := .type "tuple", data := .seq #[] }) ::
  (nat_lit 214, { cls := .type "tuple", data := .seq #[] }) ::
  (nat_lit 215, { cls := .type "tuple", data := .seq #[] }) ::
  (nat_lit 217, { cls := .type "code", data := .fields #[.str (Str.ofString "_law_site") 489, .str (Str.ofString "_law_site") 490, .str (Str.ofString "/claim/cut.py") 491, .int 195 0, .int 0 0, .int 0 0, .int 0 0, .int 3 0, .ref 212, .bool true, .int 181 0, .ref 213, .none, .ref 214, .ref 215, .ref 216, .int 492 0, .int 195 0, .str (Str.ofString "/claim/cut.py") 493] }) ::
  (nat_lit 218, { cls := .type "function", data := .func { name := Str.ofString "_law_site", qualname := Str.ofString "_law_site", params := r54.val, body := .stmts r55.val, scope := r56.val, globals := 3, closure := [], defaults := .none, kwdefaults := .none, pyModule := .str (Str.ofString "law_op0111_01") 487, code := .ref 217 } }) ::
  (nat_lit 219, { cls := .type "tuple", data := .seq #[] }) ::
  (nat_lit 221, { cls := .type "tuple", data := .seq #[] }) ::
  (nat_lit 222, { cls := .type "tuple", data := .seq #[] }) ::
  (nat_lit 224, { cls := .type "code", data := .fields #[.str (Str.ofString "_law_rules") 495, .str (Str.ofString "_law_rules") 496, .str (Str.ofString "/claim/cut.py") 497, .int 197 0, .int 0 0, .int 0 0, .int 0 0, .int 3 0, .ref 219, .bool true, .int 181 0, .ref 220, .none, .ref 221, .ref 222, .ref 223, .int 498 0, .int 197 0, .str (Str.ofString "/claim/cut.py") 499] }) ::
  (nat_lit 225, { cls := .type "function", data := .func { name := Str.ofString "_law_rules", qualname := Str.ofString "_law_rules", params := r57.val, body := .stmts r58.val, scope := r59.val, globals := 3, closure := [], defaults := .none, kwdefaults := .none, pyModule := .str (Str.ofString "law_op0111_01") 487, code := .ref 224 } }) ::
  (nat_lit 226, { cls := .type "tuple", data := .seq #[] }) ::
  (nat_lit 229, { cls := .type "code", data := .fields #[.str (Str.ofString "_law_asks") 501, .str (Str.ofString "_law_asks") 502, .str (Str.ofString "/claim/cut.py") 503, .int 199 0, .int 1 0, .int 0 0, .int 0 0, .int 3 0, .ref 226, .bool true, .int 181 0, .ref 227, .none, .none, .none, .ref 228, .int 504 0, .int 199 0, .str (Str.ofString "/claim/cut.py") 505] }) ::
  (nat_lit 230, { cls := .type "function", data := .func { name := Str.ofString "_law_asks", qualname := Str.ofString "_law_asks", params := r60.val, body := .stmts r61.val, scope := r62.val, globals := 3, closure := [], defaults := .none, kwdefaults := .none, pyModule := .str (Str.ofString "law_op0111_01") 487, code := .ref 229 } }) ::
  (nat_lit 231, { cls := .type "tuple", data := .seq #[] }) ::
  (nat_lit 233, { cls := .type "tuple", data := .seq #[.str (Str.ofString "path") 510, .str (Str.ofString "allowed") 511, .str (Str.ofString "rule") 512] }) ::
  (nat_lit 234, { cls := .type "tuple", data := .seq #[.str (Str.ofString "path") 513] }) ::
  (nat_lit 236, { cls := .type "code", data := .fields #[.str (Str.ofString "_law_rule") 507, .str (Str.ofString "_law_rule") 508, .str (Str.ofString "/claim/cut.py") 509, .int 208 0, .int 2 0, .int 0 0, .int 0 0, .int 3 0, .ref 231, .bool true, .int 181 0, .ref 232, .none, .ref 233, .ref 234, .ref 235, .int 514 0, .int 208 0, .str (Str.ofString "/claim/cut.py") 515] }) ::
  (nat_lit 237, { cls := .type "function", data := .func { name := Str.ofString "_law_rule", qualname := Str.ofString "_law_rule", params := r63.val, body := .stmts r64.val, scope := r65.val, globals := 3, closure := [], defaults := .none, kwdefaults := .none, pyModule := .str (Str.ofString "law_op0111_01") 487, code := .ref 236 } }) ::
  (nat_lit 238, { cls := .type "tuple", data := .seq #[] }) ::
  (nat_lit 240, { cls := .type "tuple", data := .seq #[.str (Str.ofString "records") 520, .str (Str.ofString "agents") 521, .str (Str.ofString "rules") 522, .str (Str.ofString "entry") 523, .str (Str.ofString "agent") 524, .str (Str.ofString "path") 525, .str (Str.ofString "allowed") 526] }) ::
  (nat_lit 241, { cls := .type "tuple", data := .seq #[] }) ::
  (nat_lit 243, { cls := .type "code", data := .fields #[.str (Str.ofString "_law_records") 517, .str (Str.ofString "_law_records") 518, .str (Str.ofString "/claim/cut.py") 519, .int 213 0, .int 0 0, .int 0 0, .int 0 0, .int 3 0, .ref 238, .bool true, .int 181 0, .ref 239, .none, .ref 240, .ref 241, .ref 242, .int 527 0, .int 213 0, .str (Str.ofString "/claim/cut.py") 528] }) ::
  (nat_lit 244, { cls := .type "function", data := .func { name := Str.ofString "_law_records", qualname := Str.ofString "_law_records", params := r66.val, body := .stmts r67.val, scope := r68.val, globals := 3, closure := [], defaults := .none, kwdefaults := .none, pyModule := .str (Str.ofString "law_op0111_01") 487, code := .ref 243 } }) ::
  (nat_lit 245, { cls := .type "tuple", data := .seq #[] }) ::
  (nat_lit 247, { cls := .type "tuple", data := .seq #[.str (Str.ofString "records") 533, .str (Str.ofString "agent") 534, .str (Str.ofString "way") 535, .str (Str.ofString "plain") 536, .str (Str.ofString "judge") 537, .str (Str.ofString "above") 538, .str (Str.ofString "signs") 539] }) ::
  (nat_lit 248, { cls := .type "tuple", data := .seq #[] }) ::
  (nat_lit 250, { cls := .type "code", data := .fields #[.str (Str.ofString "_law_answer") 530, .str (Str.ofString "_law_answer") 531, .str (Str.ofString "/claim/cut.py") 532, .int 223 0, .int 3 0, .int 0 0, .int 0 0, .int 3 0, .ref 245, .bool true, .int 181 0, .ref 246, .none, .ref 247, .ref 248, .ref 249, .int 540 0, .int 223 0, .str (Str.ofString "/claim/cut.py") 541] }) ::
  (nat_lit 251, { cls := .type "function", data := .func { name := Str.ofString "_law_answer", qualname := Str.ofString "_law_answer", params := r69.val, body := .stmts r70.val, scope := r71.val, globals := 3, closure := [], defaults := .none, kwdefaults := .none, pyModule := .str (Str.ofString "law_op0111_01") 487, code := .ref 250 } }) ::
  (nat_lit 252, { cls := .type "tuple", data := .seq #[] }) ::
  (nat_lit 254, { cls := .type "tuple", data := .seq #[.str (Str.ofString "way") 546, .str (Str.ofString "row") 547, .str (Str.ofString "part") 548] }) ::
  (nat_lit 255, { cls := .type "tuple", data := .seq #[] }) ::
  (nat_lit 257, { cls := .type "code", data := .fields #[.str (Str.ofString "_law_parts") 543, .str (Str.ofString "_law_parts") 544, .str (Str.ofString "/claim/cut.py") 545, .int 237 0, .int 1 0, .int 0 0, .int 0 0, .int 3 0, .ref 252, .bool true, .int 181 0, .ref 253, .none, .ref 254, .ref 255, .ref 256, .int 549 0, .int 237 0, .str (Str.ofString "/claim/cut.py") 550] }) ::
  (nat_lit 258, { cls := .type "function", data := .func { name := Str.ofString "_law_parts", qualname := Str.ofString "_law_parts", params := r72.val, body := .stmts r73.val, scope := r74.val, globals := 3, closure := [], defaults := .none, kwdefaults := .none, pyModule := .str (Str.ofString "law_op0111_01") 487, code := .ref 257 } }) ::
  (nat_lit 259, { cls := .type "tuple", data := .seq #[] }) ::
  (nat_lit 262, { cls := .type "code", data := .fields #[.str (Str.ofString "_law_walked") 552, .str (Str.ofString "_law_walked") 553, .str (Str.ofString "/claim/cut.py") 554, .int 245 0, .int 2 0, .int 0 0, .int 0 0, .int 3 0, .ref 259, .bool true, .int 181 0, .ref 260, .none, .none, .none, .ref 261, .int 555 0, .int 245 0, .str (Str.ofString "/claim/cut.py") 556] }) ::
  (nat_lit 263, { cls := .type "function", data := .func { name := Str.ofString "_law_walked", qualname := Str.ofString "_law_walked", params := r75.val, body := .stmts r76.val, scope := r77.val, globals := 3, closure := [], defaults := .none, kwdefaults := .none, pyModule := .str (Str.ofString "law_op0111_01") 487, code := .ref 262 } }) ::
  (nat_lit 264, { cls := .type "tuple", data := .seq #[] }) ::
  (nat_lit 267, { cls := .type "code", data := .fields #[.str (Str.ofString "law") 558, .str (Str.ofString "law") 559, .str (Str.ofString "/claim/cut.py") 560, .int 258 0, .int 1 0, .int 0 0, .int 0 0, .int 3 0, .ref 264, .bool true, .int 181 0, .ref 265, .none, .none, .none, .ref 266, .int 561 0, .int 258 0, .str (Str.ofString "/claim/cut.py") 562] }) ::
  (nat_lit 268, { cls := .type "function", data := .func { name := Str.ofString "law", qualname := Str.ofString "law", params := r78.val, body := .stmts r79.val, scope := r80.val, globals := 3, closure := [], defaults := .none, kwdefaults := .none, pyModule := .str (Str.ofString "law_op0111_01") 487, code := .ref 267 } }) :: []) : Frag) := ⟨⟩
  dsimp only [Hold.val] at e
  have e2 : Hold ((nat_lit 2, _) :: (nat_lit 3, _) :: (nat_lit 15, _) :: (nat_lit 17, _) :: (nat_lit 18, _) :: (nat_lit 20, _) :: (nat_lit 21, _) :: (nat_lit 29, _) :: (nat_lit 31, _) :: (nat_lit 32, _) :: (nat_lit 34, _) :: (nat_lit 35, _) :: (nat_lit 36, _) :: (nat_lit 38, _) :: (nat_lit 39, _) :: (nat_lit 41, _) :: (nat_lit 42, _) :: (nat_lit 43, _) :: (nat_lit 45, _) :: (nat_lit 46, _) :: (nat_lit 48, _) :: (nat_lit 49, _) :: (nat_lit 50, _) :: (nat_lit 52, _) :: (nat_lit 53, _) :: (nat_lit 55, _) :: (nat_lit 56, _) :: (nat_lit 57, _) :: (nat_lit 58, _) :: (nat_lit 59, _) :: (nat_lit 60, _) :: (nat_lit 61, _) :: (nat_lit 64, _) :: (nat_lit 66, _) :: (nat_lit 67, _) :: (nat_lit 69, _) :: (nat_lit 70, _) :: (nat_lit 71, _) :: (nat_lit 73, _) :: (nat_lit 74, _) :: (nat_lit 76, _) :: (nat_lit 77, _) :: (nat_lit 78, _) :: (nat_lit 85, _) :: (nat_lit 87, _) :: (nat_lit 88, _) :: (nat_lit 90, _) :: (nat_lit 91, _) :: (nat_lit 92, _) :: (nat_lit 93, _) :: (nat_lit 94, _) :: (nat_lit 97, _) :: (nat_lit 104, _) :: (nat_lit 107, _) :: (nat_lit 109, _) :: (nat_lit 110, _) :: (nat_lit 111, _) :: (nat_lit 113, _) :: (nat_lit 114, _) :: (nat_lit 116, _) :: (nat_lit 117, _) :: (nat_lit 118, _) :: (nat_lit 120, _) :: (nat_lit 121, _) :: (nat_lit 123, _) :: (nat_lit 124, _) :: (nat_lit 125, _) :: (nat_lit 126, _) :: (nat_lit 127, _) :: (nat_lit 130, _) :: (nat_lit 132, _) :: (nat_lit 133, _) :: (nat_lit 135, _) :: (nat_lit 136, _) :: (nat_lit 137, _) :: (nat_lit 139, _) :: (nat_lit 140, _) :: (nat_lit 142, _) :: (nat_lit 143, _) :: (nat_lit 144, _) :: (nat_lit 146, _) :: (nat_lit 147, _) :: (nat_lit 149, _) :: (nat_lit 150, _) :: (nat_lit 151, _) :: (nat_lit 153, _) :: (nat_lit 154, _) :: (nat_lit 156, _) :: (nat_lit 157, _) :: (nat_lit 158, _) :: (nat_lit 160, _) :: (nat_lit 161, _) :: (nat_lit 163, _) :: (nat_lit 164, _) :: (nat_lit 165, _) :: (nat_lit 167, _) :: (nat_lit 168, _) :: (nat_lit 170, _) :: (nat_lit 171, _) :: (nat_lit 172, _) :: (nat_lit 173, _) :: (nat_lit 174, _) :: (nat_lit 175, _) :: (nat_lit 176, _) :: (nat_lit 177, _) :: (nat_lit 178, _) :: (nat_lit 179, _) :: (nat_lit 180, _) :: (nat_lit 181, _) :: (nat_lit 182, _) :: (nat_lit 183, _) :: (nat_lit 184, _) :: (nat_lit 185, _) :: (nat_lit 186, _) :: (nat_lit 187, _) :: (nat_lit 188, _) :: (nat_lit 189, _) :: (nat_lit 190, _) :: (nat_lit 191, _) :: (nat_lit 192, _) :: (nat_lit 193, _) :: (nat_lit 194, _) :: (nat_lit 195, _) :: (nat_lit 196, _) :: (nat_lit 197, _) :: (nat_lit 198, _) :: (nat_lit 199, _) :: (nat_lit 200, _) :: (nat_lit 201, _) :: (nat_lit 202, _) :: (nat_lit 203, _) :: (nat_lit 204, _) :: (nat_lit 205, _) :: (nat_lit 207, _) :: (nat_lit 208, _) :: (nat_lit 210, _) :: (nat_lit 211, _) :: (nat_lit 212, _) :: (nat_lit 214, _) :: (nat_lit 215, _) :: (nat_lit 217, _) :: (nat_lit 218, _) :: (nat_lit 219, _) :: (nat_lit 221, _) :: (nat_lit 222, _) :: (nat_lit 224, _) :: (nat_lit 225, _) :: (nat_lit 226, _) :: (nat_lit 229, _) :: (nat_lit 230, _) :: (nat_lit 231, _) :: (nat_lit 233, _) :: (nat_lit 234, _) :: (nat_lit 236, _) :: (nat_lit 237, _) :: (nat_lit 238, _) :: (nat_lit 240, _) :: (nat_lit 241, _) :: (nat_lit 243, _) :: (nat_lit 244, _) :: (nat_lit 245, _) :: (nat_lit 247, _) :: (nat_lit 248, _) :: (nat_lit 250, _) :: (nat_lit 251, _) :: (nat_lit 252, _) :: (nat_lit 254, _) :: (nat_lit 255, _) :: (nat_lit 257, _) :: (nat_lit 258, _) :: (nat_lit 259, _) :: (nat_lit 262, _) :: (nat_lit 263, _) :: (nat_lit 264, _) :: (nat_lit 267, _) :: (nat_lit 268, _) :: [] : Frag) := e
  exact e2
noncomputable def hd.view_39 : Program := by
  apply (fun (x : Program) (_ : Hold x) => x)
  have v0 : Hold (topS 0) := ⟨⟩
  conv at v0 => arg 1; whnf
  have v2 : Hold (topS 2) := ⟨⟩
  conv at v2 => arg 1; whnf
  have v4 : Hold (topS 4) := ⟨⟩
  conv at v4 => arg 1; whnf
  have v6 : Hold (topS 6) := ⟨⟩
  conv at v6 => arg 1; whnf
  have v8 : Hold (topS 8) := ⟨⟩
  conv at v8 => arg 1; whnf
  have v10 : Hold (topS 10) := ⟨⟩
  conv at v10 => arg 1; whnf
  have v11 : Hold (topS 11) := ⟨⟩
  conv at v11 => arg 1; whnf
  have v13 : Hold (topS 13) := ⟨⟩
  conv at v13 => arg 1; whnf
  have v15 : Hold (topS 15) := ⟨⟩
  conv at v15 => arg 1; whnf
  have v16 : Hold (topS 16) := ⟨⟩
  conv at v16 => arg 1; whnf
  have v17 : Hold (topS 17) := ⟨⟩
  conv at v17 => arg 1; whnf
  have v19 : Hold (topS 19) := ⟨⟩
  conv at v19 => arg 1; whnf
  have v20 : Hold (topS 20) := ⟨⟩
  conv at v20 => arg 1; whnf
  have v21 : Hold (topS 21) := ⟨⟩
  conv at v21 => arg 1; whnf
  have v22 : Hold (topS 22) := ⟨⟩
  conv at v22 => arg 1; whnf
  have v23 : Hold (topS 23) := ⟨⟩
  conv at v23 => arg 1; whnf
  have v24 : Hold (topS 24) := ⟨⟩
  conv at v24 => arg 1; whnf
  have v25 : Hold (topS 25) := ⟨⟩
  conv at v25 => arg 1; whnf
  have v26 : Hold (topS 26) := ⟨⟩
  conv at v26 => arg 1; whnf
  have v27 : Hold (topS 27) := ⟨⟩
  conv at v27 => arg 1; whnf
  have v28 : Hold (topS 28) := ⟨⟩
  conv at v28 => arg 1; whnf
  have v29 : Hold (topS 29) := ⟨⟩
  conv at v29 => arg 1; whnf
  have v30 : Hold (topS 30) := ⟨⟩
  conv at v30 => arg 1; whnf
  have v31 : Hold (topS 31) := ⟨⟩
  conv at v31 => arg 1; whnf
  have v32 : Hold (topS 32) := ⟨⟩
  conv at v32 => arg 1; whnf
  have v33 : Hold (topS 33) := ⟨⟩
  conv at v33 => arg 1; whnf
  have v34 : Hold (topS 34) := ⟨⟩
  conv at v34 => arg 1; whnf
  have v35 : Hold (topS 35) := ⟨⟩
  conv at v35 => arg 1; whnf
  have v36 : Hold (topS 36) := ⟨⟩
  conv at v36 => arg 1; whnf
  have v37 : Hold (topS 37) := ⟨⟩
  conv at v37 => arg 1; whnf
  have v38 : Hold (topS 38) := ⟨⟩
  conv at v38 => arg 1; whnf
  have v39 : Hold (topS 39) := ⟨⟩
  conv at v39 => arg 1; whnf
  have v40 : Hold (topS 40) := ⟨⟩
  conv at v40 => arg 1; whnf
  have v42 : Hold (topS 42) := ⟨⟩
  conv at v42 => arg 1; whnf
  have v43 : Hold (topS 43) := ⟨⟩
  conv at v43 => arg 1; whnf
  have v44 : Hold (topS 44) := ⟨⟩
  conv at v44 => arg 1; whnf
  have v45 : Hold (topS 45) := ⟨⟩
  conv at v45 => arg 1; whnf
  have v46 : Hold (topS 46) := ⟨⟩
  conv at v46 => arg 1; whnf
  have v47 : Hold (topS 47) := ⟨⟩
  conv at v47 => arg 1; whnf
  have v48 : Hold (topS 48) := ⟨⟩
  conv at v48 => arg 1; whnf
  have v49 : Hold (topS 49) := ⟨⟩
  conv at v49 => arg 1; whnf
  have v50 : Hold (topS 50) := ⟨⟩
  conv at v50 => arg 1; whnf
  have e : Hold ({ main := { body := (v0.val :: v2.val :: v4.val :: v6.val :: v8.val :: v10.val :: v11.val :: v13.val :: v15.val :: v16.val :: v17.val :: v19.val :: v20.val :: v21.val :: v22.val :: v23.val :: v24.val :: v25.val :: v26.val :: v27.val :: v28.val :: v29.val :: v30.val :: v31.val :: v32.val :: v33.val :: v34.val :: v35.val :: v36.val :: v37.val :: v38.val :: v39.val :: v40.val :: v42.val :: v43.val :: v44.val :: v45.val :: v46.val :: v47.val :: v48.val :: v49.val :: v50.val :: []), scope := lawP.main.scope, futureAnnotations := lawP.main.futureAnnotations, file := lawP.main.file, more := lawP.main.more }, modules := lawP.modules, parses := lawP.parses, absent := lawP.absent, harvested := lawP.harvested, given := lawP.given } : Program) := ⟨⟩
  dsimp only [Hold.val] at e
  exact e
def asK : List Addr := 2 :: 3 :: 15 :: 17 :: 18 :: 20 :: 21 :: 29 :: 31 :: 32 :: 34 :: 35 :: 36 :: 38 :: 39 :: 41 :: 42 :: 43 :: 45 :: 46 :: 48 :: 49 :: 50 :: 52 :: 53 :: 55 :: 56 :: 57 :: 58 :: 59 :: 60 :: 61 :: 64 :: 66 :: 67 :: 69 :: 70 :: 71 :: 73 :: 74 :: 76 :: 77 :: 78 :: 85 :: 87 :: 88 :: 90 :: 91 :: 92 :: 93 :: 94 :: 97 :: 104 :: 107 :: 109 :: 110 :: 111 :: 113 :: 114 :: 116 :: 117 :: 118 :: 120 :: 121 :: 123 :: 124 :: 125 :: 126 :: 127 :: 130 :: 132 :: 133 :: 135 :: 136 :: 137 :: 139 :: 140 :: 142 :: 143 :: 144 :: 146 :: 147 :: 149 :: 150 :: 151 :: 153 :: 154 :: 156 :: 157 :: 158 :: 160 :: 161 :: 163 :: 164 :: 165 :: 167 :: 168 :: 170 :: 171 :: 172 :: 173 :: 174 :: 175 :: 176 :: 177 :: 178 :: 179 :: 180 :: 181 :: 182 :: 183 :: 184 :: 185 :: 186 :: 187 :: 188 :: 189 :: 190 :: 191 :: 192 :: 193 :: 194 :: 195 :: 196 :: 197 :: 198 :: 199 :: 200 :: 201 :: 202 :: 203 :: 204 :: 205 :: 207 :: 208 :: 210 :: 211 :: 212 :: 214 :: 215 :: 217 :: 218 :: 219 :: 221 :: 222 :: 224 :: 225 :: 226 :: 229 :: 230 :: 231 :: 233 :: 234 :: 236 :: 237 :: 238 :: 240 :: 241 :: 243 :: 244 :: 245 :: 247 :: 248 :: 250 :: 251 :: 252 :: 254 :: 255 :: 257 :: 258 :: 259 :: 262 :: 263 :: 264 :: 267 :: 268 :: []
theorem asK_eq : ∀ P, asK = (hd.heap_39 P).map (·.1) := fun _ => by kernel_rfl
def ti (n : Int) (c : Nat) : WData := .tuple [.int n, .str ⟨#[c]⟩]
def lvK : List (Str × WData) := [(Str.ofString "_filemode_table", .tuple [.tuple [ti 40960 108, ti 49152 115, ti 32768 45, ti 24576 98, ti 16384 100, ti 8192 99, ti 4096 112], .tuple [ti 256 114], .tuple [ti 128 119], .tuple [ti 2112 115, ti 2048 83, ti 64 120], .tuple [ti 32 114], .tuple [ti 16 119], .tuple [ti 1032 115, ti 1024 83, ti 8 120], .tuple [ti 4 114], .tuple [ti 2 119], .tuple [ti 513 116, ti 512 84, ti 1 120]])]
noncomputable def kO (P : Params) (a : Nat) : Obj := ((hd.heap_39 P).lookup a).getD default
noncomputable def topHeap (P : Params) : Heap := { objs := ((
  boot_o_0 P ::
  boot_o_1 P ::
  boot_o_2 P ::
  kO P 3 ::
  boot_o_4 P ::
  boot_o_5 P ::
  boot_o_6 P ::
  boot_o_7 P ::
  boot_o_8 P ::
  boot_o_9 P ::
  boot_o_10 P ::
  ({ cls := .type "tuple", data := .seq #[] } : Obj) ::
  ({ cls := .none, data := .fields #[.int 1 0, .int 0 0, .ref 20, .int 5 0, .int 0 0, .ref 27, .int 54 0, .int 0 0, .ref 69, .int 60 0, .int 0 0, .ref 76, .int 66 0, .int 0 0, .ref 83, .int 71 0, .int 0 0, .ref 102, .int 86 0, .int 0 0, .ref 135, .int 90 0, .int 0 0, .ref 142, .int 107 0, .int 0 0, .ref 149, .int 121 0, .int 0 0, .ref 156, .int 129 0, .int 0 0, .ref 163, .int 155 0, .int 0 0, .ref 170, .int 177 0, .int 0 0, .ref 210, .int 195 0, .int 0 0, .ref 217, .int 197 0, .int 0 0, .ref 224, .int 199 0, .int 0 0, .ref 229, .int 208 0, .int 0 0, .ref 236, .int 213 0, .int 0 0, .ref 243, .int 223 0, .int 0 0, .ref 250, .int 237 0, .int 0 0, .ref 257, .int 245 0, .int 0 0, .ref 262, .int 258 0, .int 0 0, .ref 267] } : Obj) ::
  ({ cls := .type "code", data := .fields #[.str (Str.ofString "<module>") 182, .str (Str.ofString "<module>") 183, .str (Str.ofString "/claim/cut.py") 184, .int 1 0, .int 0 0, .int 0 0, .int 0 0, .int 0 0, .ref 11, .bool false, .int 181 0, .ref 12, .none, .none, .none, .none, .int 185 0, .int 1 0, .str (Str.ofString "/claim/cut.py") 186] } : Obj) ::
  ({ cls := .type "frame", slots := #[some (.ref 13), some (.ref 3), some (.ref 3), none, some (.str (Str.ofString "__main__") 164), none, some (.ref 0)] } : Obj) ::
  kO P 15 ::
  ({ cls := .none, data := .fields #[] } : Obj) ::
  kO P 17 ::
  kO P 18 ::
  ({ cls := .none, data := .func { name := Str.ofString "_wall", qualname := Str.ofString "_wall", params := argsS (topS 0), body := .stmts (bodyS (topS 0)), scope := scopeS (topS 0), globals := 0, closure := [], defaults := .none, kwdefaults := .none } } : Obj) ::
  kO P 20 ::
  kO P 21 ::
  ({ cls := .type "tuple", data := .seq #[] } : Obj) ::
  ({ cls := .type "builtin_function_or_method", data := .fields #[.builtin "type.__prepare__", .type "type"] } : Obj) ::
  ({ cls := .type "dict", data := .dict #[{ hash := PyData.keyHash P (Str.ofString "__module__"), key := .str (Str.ofString "__module__") 203, val := .str (Str.ofString "cpy313.urllib.robotparser") 194 }, { hash := PyData.keyHash P (Str.ofString "__qualname__"), key := .str (Str.ofString "__qualname__") 205, val := .str (Str.ofString "Entry") 204 }, { hash := PyData.keyHash P (Str.ofString "__firstlineno__"), key := .str (Str.ofString "__firstlineno__") 207, val := .int 5 206 }, { hash := PyData.keyHash P (Str.ofString "__init__"), key := .str (Str.ofString "__init__") 214, val := .ref 35 }, { hash := PyData.keyHash P (Str.ofString "__str__"), key := .str (Str.ofString "__str__") 224, val := .ref 42 }, { hash := PyData.keyHash P (Str.ofString "applies_to"), key := .str (Str.ofString "applies_to") 233, val := .ref 49 }, { hash := PyData.keyHash P (Str.ofString "allowance"), key := .str (Str.ofString "allowance") 245, val := .ref 56 }, { hash := PyData.keyHash P (Str.ofString "__static_attributes__"), key := .str (Str.ofString "__static_attributes__") 250, val := .ref 57 }] 8 } : Obj) ::
  ({ cls := .type "tuple", data := .seq #[] } : Obj) ::
  ({ cls := .none, data := .fields #[.int 7 0, .int 4 0, .ref 34, .int 13 0, .int 4 0, .ref 41, .int 30 0, .int 4 0, .ref 48, .int 41 0, .int 4 0, .ref 55] } : Obj) ::
  ({ cls := .type "code", data := .fields #[.str (Str.ofString "Entry") 198, .str (Str.ofString "Entry") 199, .str (Str.ofString "/claim/cut.py") 200, .int 5 0, .int 0 0, .int 0 0, .int 0 0, .int 0 0, .ref 25, .bool false, .int 181 0, .ref 26, .none, .none, .none, .none, .int 201 0, .int 5 0, .str (Str.ofString "/claim/cut.py") 202] } : Obj) ::
  ({ cls := .type "frame", slots := #[some (.ref 27), some (.ref 3), some (.ref 24), none, some (.str (Str.ofString "cpy313.urllib.robotparser") 194), none, some (.ref 0)] } : Obj) ::
  kO P 29 ::
  ({ cls := .none, data := .fields #[] } : Obj) ::
  kO P 31 ::
  kO P 32 ::
  ({ cls := .none, data := .func { name := Str.ofString "__init__", qualname := Str.ofString "Entry.__init__", params := argsS (metS 2 0), body := .stmts (bodyS (metS 2 0)), scope := scopeS (metS 2 0), globals := 0, closure := [], defaults := .none, kwdefaults := .none } } : Obj) ::
  kO P 34 ::
  kO P 35 ::
  kO P 36 ::
  ({ cls := .none, data := .fields #[] } : Obj) ::
  kO P 38 ::
  kO P 39 ::
  ({ cls := .none, data := .func { name := Str.ofString "__str__", qualname := Str.ofString "Entry.__str__", params := argsS (metS 2 1), body := .stmts (bodyS (metS 2 1)), scope := scopeS (metS 2 1), globals := 0, closure := [], defaults := .none, kwdefaults := .none } } : Obj) ::
  kO P 41 ::
  kO P 42 ::
  kO P 43 ::
  ({ cls := .none, data := .fields #[] } : Obj) ::
  kO P 45 ::
  kO P 46 ::
  ({ cls := .none, data := .func { name := Str.ofString "applies_to", qualname := Str.ofString "Entry.applies_to", params := argsS (metS 2 2), body := .stmts (bodyS (metS 2 2)), scope := scopeS (metS 2 2), globals := 0, closure := [], defaults := .none, kwdefaults := .none } } : Obj) ::
  kO P 48 ::
  kO P 49 ::
  kO P 50 ::
  ({ cls := .none, data := .fields #[] } : Obj) ::
  kO P 52 ::
  kO P 53 ::
  ({ cls := .none, data := .func { name := Str.ofString "allowance", qualname := Str.ofString "Entry.allowance", params := argsS (metS 2 3), body := .stmts (bodyS (metS 2 3)), scope := scopeS (metS 2 3), globals := 0, closure := [], defaults := .none, kwdefaults := .none } } : Obj) ::
  kO P 55 ::
  kO P 56 ::
  kO P 57 ::
  kO P 58 ::
  kO P 59 ::
  kO P 60 ::
  kO P 61 ::
  ({ cls := .type "super", data := .fields #[.ref 59, .ref 59, .ref 59] } : Obj) ::
  ({ cls := .type "builtin_function_or_method", data := .fields #[.builtin "object.__init_subclass__", .ref 59] } : Obj) ::
  kO P 64 ::
  ({ cls := .none, data := .fields #[] } : Obj) ::
  kO P 66 ::
  kO P 67 ::
  ({ cls := .none, data := .func { name := Str.ofString "_get_sep", qualname := Str.ofString "_get_sep", params := argsS (topS 4), body := .stmts (bodyS (topS 4)), scope := scopeS (topS 4), globals := 0, closure := [], defaults := .none, kwdefaults := .none } } : Obj) ::
  kO P 69 ::
  kO P 70 ::
  kO P 71 ::
  ({ cls := .none, data := .fields #[] } : Obj) ::
  kO P 73 ::
  kO P 74 ::
  ({ cls := .none, data := .func { name := Str.ofString "_plain_name", qualname := Str.ofString "_plain_name", params := argsS (topS 6), body := .stmts (bodyS (topS 6)), scope := scopeS (topS 6), globals := 0, closure := [], defaults := .none, kwdefaults := .none } } : Obj) ::
  kO P 76 ::
  kO P 77 ::
  kO P 78 ::
  ({ cls := .type "builtin_function_or_method", data := .fields #[.builtin "type.__prepare__", .type "type"] } : Obj) ::
  ({ cls := .type "dict", data := .dict #[{ hash := PyData.keyHash P (Str.ofString "__module__"), key := .str (Str.ofString "__module__") 287, val := .str (Str.ofString "abc") 278 }, { hash := PyData.keyHash P (Str.ofString "__qualname__"), key := .str (Str.ofString "__qualname__") 289, val := .str (Str.ofString "ABCMeta") 288 }, { hash := PyData.keyHash P (Str.ofString "__firstlineno__"), key := .str (Str.ofString "__firstlineno__") 291, val := .int 66 290 }, { hash := PyData.keyHash P (Str.ofString "register"), key := .str (Str.ofString "register") 299, val := .ref 91 }, { hash := PyData.keyHash P (Str.ofString "__static_attributes__"), key := .str (Str.ofString "__static_attributes__") 300, val := .ref 92 }] 5 } : Obj) ::
  ({ cls := .type "tuple", data := .seq #[] } : Obj) ::
  ({ cls := .none, data := .fields #[.int 68 0, .int 4 0, .ref 90] } : Obj) ::
  ({ cls := .type "code", data := .fields #[.str (Str.ofString "ABCMeta") 282, .str (Str.ofString "ABCMeta") 283, .str (Str.ofString "/claim/cut.py") 284, .int 66 0, .int 0 0, .int 0 0, .int 0 0, .int 0 0, .ref 81, .bool false, .int 181 0, .ref 82, .none, .none, .none, .none, .int 285 0, .int 66 0, .str (Str.ofString "/claim/cut.py") 286] } : Obj) ::
  ({ cls := .type "frame", slots := #[some (.ref 83), some (.ref 3), some (.ref 80), none, some (.str (Str.ofString "abc") 278), none, some (.ref 0)] } : Obj) ::
  kO P 85 ::
  ({ cls := .none, data := .fields #[] } : Obj) ::
  kO P 87 ::
  kO P 88 ::
  ({ cls := .none, data := .func { name := Str.ofString "register", qualname := Str.ofString "ABCMeta.register", params := argsS (metS 8 0), body := .stmts (bodyS (metS 8 0)), scope := scopeS (metS 8 0), globals := 0, closure := [], defaults := .none, kwdefaults := .none } } : Obj) ::
  kO P 90 ::
  kO P 91 ::
  kO P 92 ::
  kO P 93 ::
  kO P 94 ::
  ({ cls := .type "super", data := .fields #[.ref 94, .ref 94, .ref 94] } : Obj) ::
  ({ cls := .type "builtin_function_or_method", data := .fields #[.builtin "object.__init_subclass__", .ref 94] } : Obj) ::
  kO P 97 ::
  ({ cls := .type "builtin_function_or_method", data := .fields #[.builtin "type.__prepare__", .type "type"] } : Obj) ::
  ({ cls := .type "dict", data := .dict #[{ hash := PyData.keyHash P (Str.ofString "__module__"), key := .str (Str.ofString "__module__") 313, val := .str (Str.ofString "collections.abc") 304 }, { hash := PyData.keyHash P (Str.ofString "__qualname__"), key := .str (Str.ofString "__qualname__") 315, val := .str (Str.ofString "_ABCLike") 314 }, { hash := PyData.keyHash P (Str.ofString "__firstlineno__"), key := .str (Str.ofString "__firstlineno__") 317, val := .int 71 316 }, { hash := PyData.keyHash P (Str.ofString "__instancecheck__"), key := .str (Str.ofString "__instancecheck__") 326, val := .ref 110 }, { hash := PyData.keyHash P (Str.ofString "__subclasscheck__"), key := .str (Str.ofString "__subclasscheck__") 334, val := .ref 117 }, { hash := PyData.keyHash P (Str.ofString "register"), key := .str (Str.ofString "register") 342, val := .ref 124 }, { hash := PyData.keyHash P (Str.ofString "__static_attributes__"), key := .str (Str.ofString "__static_attributes__") 343, val := .ref 125 }] 7 } : Obj) ::
  ({ cls := .type "tuple", data := .seq #[] } : Obj) ::
  ({ cls := .none, data := .fields #[.int 73 0, .int 4 0, .ref 109, .int 79 0, .int 4 0, .ref 116, .int 84 0, .int 4 0, .ref 123] } : Obj) ::
  ({ cls := .type "code", data := .fields #[.str (Str.ofString "_ABCLike") 308, .str (Str.ofString "_ABCLike") 309, .str (Str.ofString "/claim/cut.py") 310, .int 71 0, .int 0 0, .int 0 0, .int 0 0, .int 0 0, .ref 100, .bool false, .int 181 0, .ref 101, .none, .none, .none, .none, .int 311 0, .int 71 0, .str (Str.ofString "/claim/cut.py") 312] } : Obj) ::
  ({ cls := .type "frame", slots := #[some (.ref 102), some (.ref 3), some (.ref 99), none, some (.str (Str.ofString "collections.abc") 304), none, some (.ref 0)] } : Obj) ::
  kO P 104 ::
  ({ cls := .none, data := .fields #[] } : Obj) ::
  ({ cls := .type "tuple", data := .seq #[.str (Str.ofString "cls") 321, .str (⟨#[105, 110, 115, 116, 97, 110, 99, 101]⟩) 322, .str (Str.ofString "C") 323] } : Obj) ::
  kO P 107 ::
  ({ cls := .none, data := .func { name := Str.ofString "__instancecheck__", qualname := Str.ofString "_ABCLike.__instancecheck__", params := argsS (metS 10 0), body := .stmts (bodyS (metS 10 0)), scope := scopeS (metS 10 0), globals := 0, closure := [], defaults := .none, kwdefaults := .none } } : Obj) ::
  kO P 109 ::
  kO P 110 ::
  kO P 111 ::
  ({ cls := .none, data := .fields #[] } : Obj) ::
  kO P 113 ::
  kO P 114 ::
  ({ cls := .none, data := .func { name := Str.ofString "__subclasscheck__", qualname := Str.ofString "_ABCLike.__subclasscheck__", params := argsS (metS 10 1), body := .stmts (bodyS (metS 10 1)), scope := scopeS (metS 10 1), globals := 0, closure := [], defaults := .none, kwdefaults := .none } } : Obj) ::
  kO P 116 ::
  kO P 117 ::
  kO P 118 ::
  ({ cls := .none, data := .fields #[] } : Obj) ::
  kO P 120 ::
  kO P 121 ::
  ({ cls := .none, data := .func { name := Str.ofString "register", qualname := Str.ofString "_ABCLike.register", params := argsS (metS 10 2), body := .stmts (bodyS (metS 10 2)), scope := scopeS (metS 10 2), globals := 0, closure := [], defaults := .none, kwdefaults := .none } } : Obj) ::
  kO P 123 ::
  kO P 124 ::
  kO P 125 ::
  kO P 126 ::
  kO P 127 ::
  ({ cls := .type "super", data := .fields #[.ref 127, .ref 127, .ref 127] } : Obj) ::
  ({ cls := .type "builtin_function_or_method", data := .fields #[.builtin "object.__init_subclass__", .ref 127] } : Obj) ::
  kO P 130 ::
  ({ cls := .none, data := .fields #[] } : Obj) ::
  kO P 132 ::
  kO P 133 ::
  ({ cls := .none, data := .func { name := Str.ofString "_abc_plain_meta", qualname := Str.ofString "_abc_plain_meta", params := argsS (topS 11), body := .stmts (bodyS (topS 11)), scope := scopeS (topS 11), globals := 0, closure := [], defaults := .none, kwdefaults := .none } } : Obj) ::
  kO P 135 ::
  kO P 136 ::
  kO P 137 ::
  ({ cls := .none, data := .fields #[] } : Obj) ::
  kO P 139 ::
  kO P 140 ::
  ({ cls := .none, data := .func { name := Str.ofString "fspath", qualname := Str.ofString "fspath", params := argsS (topS 13), body := .stmts (bodyS (topS 13)), scope := scopeS (topS 13), globals := 0, closure := [], defaults := .none, kwdefaults := .none } } : Obj) ::
  kO P 142 ::
  kO P 143 ::
  kO P 144 ::
  ({ cls := .none, data := .fields #[] } : Obj) ::
  kO P 146 ::
  kO P 147 ::
  ({ cls := .none, data := .func { name := Str.ofString "splitroot", qualname := Str.ofString "splitroot", params := argsS (topS 15), body := .stmts (bodyS (topS 15)), scope := scopeS (topS 15), globals := 0, closure := [], defaults := .none, kwdefaults := .none } } : Obj) ::
  kO P 149 ::
  kO P 150 ::
  kO P 151 ::
  ({ cls := .none, data := .fields #[] } : Obj) ::
  kO P 153 ::
  kO P 154 ::
  ({ cls := .none, data := .func { name := Str.ofString "dirname", qualname := Str.ofString "dirname", params := argsS (topS 16), body := .stmts (bodyS (topS 16)), scope := scopeS (topS 16), globals := 0, closure := [], defaults := .none, kwdefaults := .none } } : Obj) ::
  kO P 156 ::
  kO P 157 ::
  kO P 158 ::
  ({ cls := .none, data := .fields #[] } : Obj) ::
  kO P 160 ::
  kO P 161 ::
  ({ cls := .none, data := .func { name := Str.ofString "normpath", qualname := Str.ofString "normpath", params := argsS (topS 17), body := .stmts (bodyS (topS 17)), scope := scopeS (topS 17), globals := 0, closure := [], defaults := .none, kwdefaults := .none } } : Obj) ::
  kO P 163 ::
  kO P 164 ::
  kO P 165 ::
  ({ cls := .none, data := .fields #[] } : Obj) ::
  kO P 167 ::
  kO P 168 ::
  ({ cls := .none, data := .func { name := Str.ofString "S_IFMT", qualname := Str.ofString "S_IFMT", params := argsS (topS 19), body := .stmts (bodyS (topS 19)), scope := scopeS (topS 19), globals := 0, closure := [], defaults := .none, kwdefaults := .none } } : Obj) ::
  kO P 170 ::
  kO P 171 ::
  kO P 172 ::
  kO P 173 ::
  kO P 174 ::
  kO P 175 ::
  kO P 176 ::
  kO P 177 ::
  kO P 178 ::
  kO P 179 ::
  kO P 180 ::
  kO P 181 ::
  kO P 182 ::
  kO P 183 ::
  kO P 184 ::
  kO P 185 ::
  kO P 186 ::
  kO P 187 ::
  kO P 188 ::
  kO P 189 ::
  kO P 190 ::
  kO P 191 ::
  kO P 192 ::
  kO P 193 ::
  kO P 194 ::
  kO P 195 ::
  kO P 196 ::
  kO P 197 ::
  kO P 198 ::
  kO P 199 ::
  kO P 200 ::
  kO P 201 ::
  kO P 202 ::
  kO P 203 ::
  kO P 204 ::
  kO P 205 ::
  ({ cls := .none, data := .fields #[] } : Obj) ::
  kO P 207 ::
  kO P 208 ::
  ({ cls := .none, data := .func { name := Str.ofString "filemode", qualname := Str.ofString "filemode", params := argsS (topS 40), body := .stmts (bodyS (topS 40)), scope := scopeS (topS 40), globals := 0, closure := [], defaults := .none, kwdefaults := .none } } : Obj) ::
  kO P 210 ::
  kO P 211 ::
  kO P 212 ::
  ({ cls := .none, data := .fields #[] } : Obj) ::
  kO P 214 ::
  kO P 215 ::
  ({ cls := .none, data := .func { name := Str.ofString "_law_site", qualname := Str.ofString "_law_site", params := argsS (topS 42), body := .stmts (bodyS (topS 42)), scope := scopeS (topS 42), globals := 0, closure := [], defaults := .none, kwdefaults := .none } } : Obj) ::
  kO P 217 ::
  kO P 218 ::
  kO P 219 ::
  ({ cls := .none, data := .fields #[] } : Obj) ::
  kO P 221 ::
  kO P 222 ::
  ({ cls := .none, data := .func { name := Str.ofString "_law_rules", qualname := Str.ofString "_law_rules", params := argsS (topS 43), body := .stmts (bodyS (topS 43)), scope := scopeS (topS 43), globals := 0, closure := [], defaults := .none, kwdefaults := .none } } : Obj) ::
  kO P 224 ::
  kO P 225 ::
  kO P 226 ::
  ({ cls := .none, data := .fields #[] } : Obj) ::
  ({ cls := .none, data := .func { name := Str.ofString "_law_asks", qualname := Str.ofString "_law_asks", params := argsS (topS 44), body := .stmts (bodyS (topS 44)), scope := scopeS (topS 44), globals := 0, closure := [], defaults := .none, kwdefaults := .none } } : Obj) ::
  kO P 229 ::
  kO P 230 ::
  kO P 231 ::
  ({ cls := .none, data := .fields #[] } : Obj) ::
  kO P 233 ::
  kO P 234 ::
  ({ cls := .none, data := .func { name := Str.ofString "_law_rule", qualname := Str.ofString "_law_rule", params := argsS (topS 45), body := .stmts (bodyS (topS 45)), scope := scopeS (topS 45), globals := 0, closure := [], defaults := .none, kwdefaults := .none } } : Obj) ::
  kO P 236 ::
  kO P 237 ::
  kO P 238 ::
  ({ cls := .none, data := .fields #[] } : Obj) ::
  kO P 240 ::
  kO P 241 ::
  ({ cls := .none, data := .func { name := Str.ofString "_law_records", qualname := Str.ofString "_law_records", params := argsS (topS 46), body := .stmts (bodyS (topS 46)), scope := scopeS (topS 46), globals := 0, closure := [], defaults := .none, kwdefaults := .none } } : Obj) ::
  kO P 243 ::
  kO P 244 ::
  kO P 245 ::
  ({ cls := .none, data := .fields #[] } : Obj) ::
  kO P 247 ::
  kO P 248 ::
  ({ cls := .none, data := .func { name := Str.ofString "_law_answer", qualname := Str.ofString "_law_answer", params := argsS (topS 47), body := .stmts (bodyS (topS 47)), scope := scopeS (topS 47), globals := 0, closure := [], defaults := .none, kwdefaults := .none } } : Obj) ::
  kO P 250 ::
  kO P 251 ::
  kO P 252 ::
  ({ cls := .none, data := .fields #[] } : Obj) ::
  kO P 254 ::
  kO P 255 ::
  ({ cls := .none, data := .func { name := Str.ofString "_law_parts", qualname := Str.ofString "_law_parts", params := argsS (topS 48), body := .stmts (bodyS (topS 48)), scope := scopeS (topS 48), globals := 0, closure := [], defaults := .none, kwdefaults := .none } } : Obj) ::
  kO P 257 ::
  kO P 258 ::
  kO P 259 ::
  ({ cls := .none, data := .fields #[] } : Obj) ::
  ({ cls := .none, data := .func { name := Str.ofString "_law_walked", qualname := Str.ofString "_law_walked", params := argsS (topS 49), body := .stmts (bodyS (topS 49)), scope := scopeS (topS 49), globals := 0, closure := [], defaults := .none, kwdefaults := .none } } : Obj) ::
  kO P 262 ::
  kO P 263 ::
  kO P 264 ::
  ({ cls := .none, data := .fields #[] } : Obj) ::
  ({ cls := .none, data := .func { name := Str.ofString "law", qualname := Str.ofString "law", params := argsS (topS 50), body := .stmts (bodyS (topS 50)), scope := scopeS (topS 50), globals := 0, closure := [], defaults := .none, kwdefaults := .none } } : Obj) ::
  kO P 267 ::
  kO P 268 :: []) : List Obj).toArray }
theorem top_run (w : World) (os : OsState) : topRun treeTable lawP w 11 (some (.ref 6)) 1859 ⟨boot_heap w.params, #[], boot_drawn, boot_toks, os⟩ (topStub lawP) = some ⟨topHeap w.params, #[], {}, 564, os⟩ := by
  rw [Fast.te14082659384304107361]
  kernel_rfl
theorem top_open (w : World) : (fencedOpening treeTable lawP w 3802).map (fun s => (s.heap, s.gens, s.drawn, s.toks)) = some (boot_heap w.params, #[], boot_drawn, boot_toks) := boot_open (p := lawP) (N := 3802) (by kernel_rfl) (by decide) (fun _ => by rfl) w
theorem top_size (w : World) : ((boot_heap w.params).isNs mainGlobals && (#[] : Array GenState).size == 0, (boot_heap w.params).objs.size, (boot_heap w.params).nsMap mainGlobals "__annotations__") = (true, 11, some (.ref 6)) := by kernel_rfl
theorem top_looks (w : World) : (fun os : OsState => ((staticsOk (importedModules lawP.main.body) (boot_heap w.params) (topHeap w.params) && namesBound lawP (topHeap w.params) && gensDone ⟨topHeap w.params, #[], {}, 564, os⟩ && laidKept (boot_heap w.params) (topHeap w.params)),
    openSeen hd.view_39 [Str.ofString "_filemode_table"] (importedModules lawP.main.body) (fun s => xlAt hd.view_39 lvK s && recOk (RowW.records (OpenRow.toRowW PySem.Challenge.rw_op0111_01.row)) s) true ⟨topHeap w.params, #[], {}, 564, os⟩, (kmHook hd.heap_39 asK asK_eq [232]).obs ⟨topHeap w.params, #[], {}, 564, os⟩)) = fun _ => (true, openGood hd.view_39 [Str.ofString "_filemode_table"], (kmHook hd.heap_39 asK asK_eq [232]).val w) := by
  rw [Fast.te4187177175401517315]
  kernel_rfl
theorem left : LeftO lawP hd.view_39 [Str.ofString "_filemode_table"] (fun s => xlAt hd.view_39 lvK s && recOk (RowW.records (OpenRow.toRowW PySem.Challenge.rw_op0111_01.row)) s) (kmHook hd.heap_39 asK asK_eq [232]).obs (kmHook hd.heap_39 asK asK_eq [232]).val 3802 :=
  LeftO.of_pieces top_open top_size top_run (by decide) top_looks
end
section
open PySem PySem.W PySem.Spec PySem.Calls PyProof.Rows
noncomputable abbrev PG : Program := PySem.Challenge.rw_op0111_01.row.prog
/-- the end of a walked body: all that stood at the call stands, and Post holds of the answer -/
def FnEnd (s : Shared) (L : Addr) (Post : Heap → Heap → Value → Prop) (v : Value) (s' : Shared) : Prop :=
  ∃ m tk h', s' = { s with heap := h', toks := tk } ∧ Fr s.heap L h' m ∧ Post s.heap h' v
theorem FnEnd.mk {s : Shared} {L : Addr} {Post : Heap → Heap → Value → Prop} {v : Value} {h' : Heap} {tk : Nat} {m : Str → Option Value}
    (F : Fr s.heap L h' m) (p : Post s.heap h' v) : FnEnd s L Post v { s with heap := h', toks := tk } := ⟨m, tk, h', rfl, F, p⟩
/-- a call of the def at f upon vs leaves all that stands as it stands, and gives back what Post says -/
def Fn (w : World) (f : Addr) (vs : List Value) (nd nu : Nat) (Pre : Heap → Prop) (Post : Heap → Heap → Value → Prop) : Prop :=
  ∀ (p : Program) (loose : List Str) (mean : ExcName → Option Value) (mg mb : Str → Option Value) (dp un : Nat) (gd : Option (List Code)) (cn : Str) (cs : Scope) (a : Addr) (ccd : Value) (cl : List (Str × Addr)) (outer : List Env)
    (A₀ : Around) (base h₀ : Heap) (L : Addr) (m : Str → Option Value) (s : Shared) (Q E : Value → Shared → Prop),
    Below A₀ base outer h₀ → Fr h₀ L s.heap m → (Mine.hd.heap_39 w.params).In h₀ → Top p loose mean mg mb h₀ → cs.kind = .function →
    dp + nd < recursionLimit → un + nu < cLine → Pre s.heap →
    (∀ v h' tk', s.heap.StaysIn h' → Post s.heap h' v → Q v { s with heap := h', toks := tk' }) →
    wpAny (model PG w) (ktrTop dp un gd cn cs L a ccd cl outer) (call (.ref f) vs) Q E s
section
variable {prog : Program} {w : World} {A₀ A : Around} {s : Shared} {base h₀ : Heap} {outer : List Env} {env : Env} {L : Addr} {m : Str → Option Value} {K : Frag} {p : Program} {loose : List Str} {mean : ExcName → Option Value} {mg mb : Str → Option Value}
  {Q E : Value → Shared → Prop} {Post : Heap → Heap → Value → Prop} {name qual : Str} {params : Arguments} {body : List Stmt} {scope : Scope} {dV kV doc pm cdv ct oc : Value} {an od : Option Addr} {osl : Array (Option Value)} {f : Addr} {args : List Value} {binds : List (Str × Value)}
theorem fn_enter (B : Below A₀ base outer h₀) (F : Fr h₀ L s.heap m) (X : K.In h₀) (T : Top p loose mean mg mb h₀) (hA : A.frames = some (env :: outer)) (hf : env.frame = some L) (hke : env.scope.kind = .function)
    (hret : ∀ v h' tk', s.heap.StaysIn h' → Post s.heap h' v → Q v { s with heap := h', toks := tk' })
    (ho : K.lookup f = some ⟨oc, od, .func (fnOf name qual params body scope dV kV doc pm an cdv ct), osl⟩) (hcd : codeIn K cdv qual = true) (hroom : A.depth < recursionLimit)
    (hbind : BindsTo s (fnOf name qual params body scope dV kV doc pm an cdv ct) ⟨args, []⟩ binds) (hloc : ∀ y ∈ binds, scope.names.lookup y.1 = some .local)
    (h : ∀ L' h₁, Fr s.heap L' h₁ (fun y => binds.reverse.lookup y) → News s.heap L' h₁ [] → Below A base (env :: outer) s.heap → K.In s.heap → Top p loose mean mg mb s.heap →
      wpAny (model prog w) (A.deeper (envOf qual scope L' f cdv)) (execs body (envOf qual scope L' f cdv))
        (fun fl s' => FnEnd s L' Post (match fl with | .ret v => v | _ => .none) s') (fun _ _ => False)
        { s with heap := h₁, toks := s.toks + binds.length })
    (hcell : ∀ x ∈ scope.names, x.2 ≠ .cell) (hco : scope.isCoroutine = false := by rfl) (hgen : scope.isGenerator = false := by rfl) (hk : scope.kind = .function := by rfl) :
    wpAny (model prog w) A (call (.ref f) args) Q E s := by
  refine wpAny_call ?_
  have X' := X.keeps F.keep
  have T' := T.keeps F.keep
  refine codeAny_call_def (fd := fnOf name qual params body scope dV kV doc pm an cdv ct) (body := body) (binds := binds) hroom (X' _ _ ho) rfl T'.nolimit (codeRec_of X' hcd) rfl hbind hcell hloc (fun h₁ hns hk₁ => ?_) hco hgen hk
  have B' := pushX B F hf hke
  have F₁ : Fr s.heap s.heap.objs.size h₁ (fun y => binds.reverse.lookup y) := ⟨hns, hk₁, Nat.le_refl _⟩
  refine wpAny_mono (h s.heap.objs.size h₁ F₁ News.nil ⟨hA, B'.stays, B'.frames⟩ X' T') (fun fl s' he => ?_) fun _ _ x => x.elim
  obtain ⟨m', tk, h', rfl, F', hp⟩ := he
  exact hret _ h' tk F'.keep hp
theorem Fn.use {f : Addr} {vs : List Value} {nd nu : Nat} {Pre : Heap → Prop} {Post : Heap → Heap → Value → Prop} (C : Fn w f vs nd nu Pre Post)
    {dp un : Nat} {gd : Option (List Code)} {cn : Str} {cs : Scope} {a : Addr} {ccd : Value} {cl : List (Str × Addr)} {news : List (Addr × Obj)}
    (B : Below A₀ base outer h₀) (F : Fr h₀ L s.heap m) (X : (Mine.hd.heap_39 w.params).In h₀) (N : News h₀ L s.heap news) (T : Top p loose mean mg mb h₀) (hk : cs.kind = .function)
    (hd : dp + nd < recursionLimit) (hu : un + nu < cLine) (pre : Pre s.heap)
    (ret : ∀ v h' tk', s.heap.StaysIn h' → Post s.heap h' v → Fr h₀ L h' m → News h₀ L h' news → Q v { s with heap := h', toks := tk' }) :
    wpAny (model PG w) (ktrTop dp un gd cn cs L a ccd cl outer) (call (.ref f) vs) Q E s := by
  refine C p loose mean mg mb dp un gd cn cs a ccd cl outer A₀ base h₀ L m s Q E B F X T hk hd hu pre fun v h' tk' st hp => ?_
  obtain ⟨oL, es, ep, hL, r⟩ := F.ns
  exact ret v h' tk' st hp ⟨⟨oL, es, ep, st _ _ hL, r⟩, fun b o e => st _ _ (F.keep b o e), F.above⟩ fun p hp => ⟨st _ _ (N p hp).1, (N p hp).2⟩
theorem Fn.intro {nd nu : Nat} {Pre : Heap → Prop}
    (ho : (Mine.hd.heap_39 w.params).lookup f = some ⟨oc, od, .func (fnOf name qual params body scope dV kV doc pm an cdv ct), osl⟩) (hcd : codeIn (Mine.hd.heap_39 w.params) cdv qual = true)
    (hnd : 1 ≤ nd) (hbind : ∀ s : Shared, BindsTo s (fnOf name qual params body scope dV kV doc pm an cdv ct) ⟨args, []⟩ binds) (hloc : ∀ y ∈ binds, scope.names.lookup y.1 = some .local)
    (h : ∀ (p : Program) (loose : List Str) (mean : ExcName → Option Value) (mg mb : Str → Option Value) (dp un : Nat) (gd : Option (List Code)) (env : Env) (outer : List Env) (base : Heap) (s : Shared) (L' : Addr) (h₁ : Heap),
      dp + nd < recursionLimit → un + nu < cLine → Pre s.heap → env.scope.kind = .function →
      Fr s.heap L' h₁ (fun y => binds.reverse.lookup y) → News s.heap L' h₁ [] → Below ({ handled := none, depth := dp, frames := some (env :: outer), guards := gd, units := un } : Around) base (env :: outer) s.heap → (Mine.hd.heap_39 w.params).In s.heap → Top p loose mean mg mb s.heap →
      wpAny (model PG w) (({ handled := none, depth := dp, frames := some (env :: outer), guards := gd, units := un } : Around).deeper (envOf qual scope L' f cdv)) (execs body (envOf qual scope L' f cdv))
        (fun fl s' => FnEnd s L' Post (match fl with | .ret v => v | _ => .none) s') (fun _ _ => False)
        { s with heap := h₁, toks := s.toks + binds.length })
    (hcell : ∀ x ∈ scope.names, x.2 ≠ .cell) (hco : scope.isCoroutine = false := by rfl) (hgen : scope.isGenerator = false := by rfl) (hk : scope.kind = .function := by rfl) :
    Fn w f args nd nu Pre Post := by
  intro p loose mean mg mb dp un gd cn cs a ccd cl outer A₀ base h₀ L m s Q E B F X T hks hd hu hpre hret
  exact fn_enter (Post := Post) B F X T rfl rfl hks hret ho hcd (show dp < _ by omega) (hbind s) hloc (fun L' h₁ F' N' B' X' T' => h p loose mean mg mb dp un gd _ outer base s L' h₁ hd hu hpre hks F' N' B' X' T') hcell hco hgen hk
end
end
section
open PySem PySem.W PySem.Spec PySem.Calls PyProof.Rows
/-- what an iterator over a sequence of n items does -/
structure Its (prog : Program) (w : World) (A : Around) (I : Addr) (n : Nat) (P : Nat → Value → Prop) (It : Nat → Obj → Prop) (Ls : Heap → Prop) : Prop where
  item : ∀ i (s : Shared) (Q : Option Value → Shared → Prop) (E : Value → Shared → Prop) oI, i < n → s.heap.get? I = some oI → It i oI → Ls s.heap →
    (∀ v h' oI', P i v → h'.get? I = some oI' → It (i + 1) oI' → (∀ b o, b ≠ I → s.heap.get? b = some o → h'.get? b = some o) → Q (some v) { s with heap := h' }) → wpAny (model prog w) A (pyNext (.ref I)) Q E s
  done : ∀ (s : Shared) (Q : Option Value → Shared → Prop) (E : Value → Shared → Prop) oI, s.heap.get? I = some oI → It n oI → Ls s.heap →
    (∀ h', (∀ b o, b ≠ I → s.heap.get? b = some o → h'.get? b = some o) → Q none { s with heap := h' }) → wpAny (model prog w) A (pyNext (.ref I)) Q E s
  go : ∀ i (target : PySem.Expr) (s : Shared) v (Q : Unit → Shared → Prop) (E : Value → Shared → Prop) oI, s.heap.get? I = some oI → It i oI → Q () s → wpAny (model prog w) A (letOwnedTupleGo target (.ref I) v) Q E s
def ItL (l : Addr) (i : Nat) (o : Obj) : Prop := o.cls = .type "list_iterator" ∧ o.data = .fields #[.ref l, .int i 0]
def ItT (l : Addr) (i : Nat) (o : Obj) : Prop := o.cls = .type "tuple_iterator" ∧ o.data = .fields #[.ref l, .int i 0]
theorem Its.list {prog : Program} {w : World} {A : Around} (hh : A.handled = none) (I l : Addr) (items : Array Value) :
    Its prog w A I items.size (fun i v => items[i]? = some v) (ItL l) (fun h => h.IsList l items) where
  item := fun i s Q E oI hi ho hit hl hQ => by
    refine wpAny_pyNext_list_item (x := items[i]) ⟨oI, ho, hit⟩ hl (by simp [hi]) fun h' hit' hs' => ?_
    obtain ⟨o', ho', r'⟩ := hit'
    exact hQ _ h' o' (by simp [hi]) ho' r' fun b o hb e => hs'.extBut b o hb e
  done := fun s Q E oI ho hit hl hQ => wpAny_pyNext_list_end hh ⟨oI, ho, hit⟩ hl (by simp) fun h' he' => hQ h' he'
  go := fun i target s v Q E oI ho hit hQ => letGo_listiter (i := i) ⟨oI, ho, hit⟩ hQ
theorem Its.tuple {prog : Program} {w : World} {A : Around} (hh : A.handled = none) (I l : Addr) (items : Array Value) :
    Its prog w A I items.size (fun i v => items[i]? = some v) (ItT l) (fun h => h.IsTuple l items) where
  item := fun i s Q E oI hi ho hit hl hQ => by
    refine wpAny_pyNext_tuple_item (x := items[i]) ⟨oI, ho, hit⟩ hl (by simp [hi]) fun h' hit' hs' => ?_
    obtain ⟨o', ho', r'⟩ := hit'
    exact hQ _ h' o' (by simp [hi]) ho' r' fun b o hb e => hs'.extBut b o hb e
  done := fun s Q E oI ho hit hl hQ => wpAny_pyNext_tuple_end hh ⟨oI, ho, hit⟩ hl (by simp) fun h' he' => hQ h' he'
  go := fun i target s v Q E oI ho hit hQ => letGo_tupleiter (i := i) ⟨oI, ho, hit⟩ hQ
abbrev Led := List (Addr × Obj)
/-- the end of a turn -/
def TurnEnd (h₀ : Heap) (L I : Addr) (oI : Obj) (s : Shared) (J : (Str → Option Value) → Led → Prop) (s₃ : Shared) : Prop :=
  ∃ h' tk' m' news', s₃ = { s with heap := h', toks := tk' } ∧ Fr h₀ L h' m' ∧ News h₀ L h' ((I, oI) :: news') ∧ (∀ p ∈ news', p.1 ≠ I) ∧ J m' news'
def TurnPost (h₀ : Heap) (L I : Addr) (oI : Obj) (s : Shared) (J : (Str → Option Value) → Led → Prop) (Q : Flow → Shared → Prop) (f : Flow) (s₃ : Shared) : Prop :=
  match f with
  | .next => TurnEnd h₀ L I oI s J s₃
  | .cont => TurnEnd h₀ L I oI s J s₃
  | .brk => Q .next s₃
  | .ret v => Q (.ret v) s₃
section
variable {prog : Program} {w : World} {A : Around} {E : Value → Shared → Prop} {s : Shared} {h₀ : Heap} {env : Env} {target : PySem.Expr} {body orelse : List Stmt} {Q : Flow → Shared → Prop}
theorem TurnEnd.mk {L I : Addr} {oI : Obj} {J : (Str → Option Value) → Led → Prop} {h' : Heap} {tk' : Nat} {m' : Str → Option Value} {news' : Led}
    (F : Fr h₀ L h' m') (N : News h₀ L h' ((I, oI) :: news')) (hn : ∀ p ∈ news', p.1 ≠ I) (hJ : J m' news') : TurnEnd h₀ L I oI s J { s with heap := h', toks := tk' } := ⟨h', tk', m', news', rfl, F, N, hn, hJ⟩
theorem for_loop {I : Addr} {oI : Obj} {n : Nat} {P : Nat → Value → Prop} {It : Nat → Obj → Prop} {Ls : Heap → Prop} {m₀ : Str → Option Value} {news₀ : Led} (J : Nat → (Str → Option Value) → Led → Prop)
    (W : Its prog w A I n P It Ls) (F : Fr h₀ env.locals s.heap m₀) (N : News h₀ env.locals s.heap ((I, oI) :: news₀)) (hI : It 0 oI) (hn : ∀ p ∈ news₀, p.1 ≠ I) (h0 : J 0 m₀ news₀)
    (hl : ∀ i m news h, J i m news → Fr h₀ env.locals h m → News h₀ env.locals h news → Ls h)
    (turn : ∀ i v m news oI' h tk, i < n → P i v → J i m news → Fr h₀ env.locals h m → News h₀ env.locals h ((I, oI') :: news) → (∀ p ∈ news, p.1 ≠ I) →
      wpAny (model prog w) A (assign target env v) (fun _ s₂ => wpAny (model prog w) A (execs body env) (TurnPost h₀ env.locals I oI' s (J (i + 1)) Q) E s₂) E { s with heap := h, toks := tk })
    (done : ∀ m news h tk, J n m news → Fr h₀ env.locals h m → News h₀ env.locals h news → wpAny (model prog w) A (execs orelse env) Q E { s with heap := h, toks := tk })
    (hE : PassesOwn (model prog w) A env E) :
    codeAny (model prog w) A (.forLoop target (.ref I) body orelse env) (fun r s' => match r with | .ok f => Q f s' | .error e => cameBackBy (model prog w) A env E e s') s := by
  refine codeAny_forLoop_any
    (fun k s' => ∃ h' tk m news i oI', s' = { s with heap := h', toks := tk } ∧ Fr h₀ env.locals h' m ∧ News h₀ env.locals h' ((I, oI') :: news) ∧ (∀ p ∈ news, p.1 ≠ I) ∧ It i oI' ∧ J i m news ∧ i ≤ n ∧ k = n + 1 - i) ?_ (n + 1)
    ⟨s.heap, s.toks, m₀, news₀, 0, oI, rfl, F, N, hn, hI, h0, Nat.zero_le _, rfl⟩
  rintro k s' ⟨h', tk, m, news, i, oI', rfl, F', N', hn', hI', hJ, hi, rfl⟩
  have hIo := N' _ (.head _)
  have Nr : News h₀ env.locals h' news := fun p hp => N' p (.tail _ hp)
  have hLs := hl i m news h' hJ F' Nr
  have next : ∀ h₁ : Heap, (∀ b o, b ≠ I → h'.get? b = some o → h₁.get? b = some o) → Fr h₀ env.locals h₁ m ∧ News h₀ env.locals h₁ news := fun h₁ hk₁ =>
    ⟨⟨F'.ns.at' fun o e => hk₁ _ o (Ne.symm hIo.2.1) e, fun b o e => hk₁ b o (fun q => by rw [q, hIo.2.2] at e; cases e) (F'.keep b o e), F'.above⟩, fun p hp => ⟨hk₁ _ _ (hn' p hp) (Nr p hp).1, (Nr p hp).2⟩⟩
  by_cases hlt : i < n
  · refine W.item i _ _ _ oI' hlt hIo.1 hI' hLs fun v h₁ oI₁ hP ho₁ hI₁ hk₁ => ?_
    obtain ⟨F₁, N₁⟩ := next h₁ hk₁
    refine W.go (i + 1) target _ v _ _ oI₁ ho₁ hI₁ ?_
    have N₂ : News h₀ env.locals h₁ ((I, oI₁) :: news) := fun p hp => by
      rcases List.mem_cons.mp hp with rfl | hp
      · exact ⟨ho₁, hIo.2⟩
      · exact N₁ p hp
    refine wpAny_passesOwn hE (wpAny_mono (turn i v m news oI₁ h₁ tk hlt hP hJ F₁ N₂ hn') (fun _ s₂ h₂ => wpAny_passesOwn hE (wpAny_mono h₂ (fun f s₃ h₃ => ?_) fun _ _ e => e)) fun _ _ e => e)
    cases f with
    | ret v => exact h₃
    | brk => exact h₃
    | cont =>
      obtain ⟨h₃', tk₃, m₂, news₂, rfl, F₃, N₃, hn₃, hJ₃⟩ := h₃
      exact ⟨n + 1 - (i + 1), by omega, h₃', tk₃, m₂, news₂, i + 1, oI₁, rfl, F₃, N₃, hn₃, hI₁, hJ₃, hlt, rfl⟩
    | next =>
      obtain ⟨h₃', tk₃, m₂, news₂, rfl, F₃, N₃, hn₃, hJ₃⟩ := h₃
      exact ⟨n + 1 - (i + 1), by omega, h₃', tk₃, m₂, news₂, i + 1, oI₁, rfl, F₃, N₃, hn₃, hI₁, hJ₃, hlt, rfl⟩
  · have hin : i = n := by omega
    subst hin
    refine W.done _ _ _ oI' hIo.1 hI' hLs fun h₁ hk₁ => ?_
    obtain ⟨F₁, N₁⟩ := next h₁ hk₁
    exact wpAny_passesOwn hE (done m news h₁ tk hJ F₁ N₁)
/-- a for over a list -/
theorem for_list {l L : Addr} {items : List Value} {m₀ : Str → Option Value} {news₀ : Led} (J : Nat → (Str → Option Value) → Led → Prop)
    (hL : env.locals = L) (hh : A.handled = none) (F : Fr h₀ L s.heap m₀) (N : News h₀ L s.heap news₀) (h0 : J 0 m₀ news₀)
    (hl : ∀ i m news h, J i m news → Fr h₀ L h m → News h₀ L h news → h.IsList l items.toArray)
    (turn : ∀ I, (∀ p ∈ news₀, p.1 < I) → (@Ne Nat I L) → ∀ i v m news oI' h tk, items[i]? = some v → J i m news → Fr h₀ L h m → News h₀ L h ((I, oI') :: news) → (∀ p ∈ news, p.1 ≠ I) →
      wpAny (model prog w) A (assign target env v) (fun _ s₂ => wpAny (model prog w) A (execs body env) (TurnPost h₀ L I oI' s (J (i + 1)) Q) E s₂) E { s with heap := h, toks := tk })
    (done : ∀ m news h tk, J items.length m news → Fr h₀ L h m → News h₀ L h news → wpAny (model prog w) A (execs orelse env) Q E { s with heap := h, toks := tk })
    (hE : PassesOwn (model prog w) A env E) :
    wpAny (model prog w) A (pyIter (.ref l)) (fun it s₂ => codeAny (model prog w) A (.forLoop target it body orelse env) (fun r s' => match r with | .ok f => Q f s' | .error e => cameBackBy (model prog w) A env E e s') s₂) E s := by
  subst hL
  refine wpAny_pyIter_list (hl 0 _ _ _ h0 F N) ?_
  have hlt : ∀ p ∈ news₀, p.1 < s.heap.objs.size := fun p hp => Heap.lt_size (N p hp).1
  have e : items.toArray.size = items.length := by simp
  refine for_loop (s := { s with heap := s.heap.push { cls := .type "list_iterator", data := .fields #[.ref l, .int 0 0] } }) (n := items.length) J (e ▸ Its.list hh s.heap.objs.size l items.toArray) (F.push _) (N.push F _) ⟨rfl, rfl⟩ (fun p hp => Nat.ne_of_lt (hlt p hp)) h0 hl
    (fun i v m news oI' h tk hi hP hJ F' N' hn' => turn s.heap.objs.size hlt (Ne.symm (Nat.ne_of_lt F.ns.lt)) i v m news oI' h tk (by simpa using hP) hJ F' N' hn') done hE
/-- a for over a tuple -/
theorem for_tuple {l L : Addr} {items : List Value} {m₀ : Str → Option Value} {news₀ : Led} (J : Nat → (Str → Option Value) → Led → Prop)
    (hL : env.locals = L) (hh : A.handled = none) (F : Fr h₀ L s.heap m₀) (N : News h₀ L s.heap news₀) (h0 : J 0 m₀ news₀)
    (hl : ∀ i m news h, J i m news → Fr h₀ L h m → News h₀ L h news → h.IsTuple l items.toArray)
    (turn : ∀ I, (∀ p ∈ news₀, p.1 < I) → (@Ne Nat I L) → ∀ i v m news oI' h tk, items[i]? = some v → J i m news → Fr h₀ L h m → News h₀ L h ((I, oI') :: news) → (∀ p ∈ news, p.1 ≠ I) →
      wpAny (model prog w) A (assign target env v) (fun _ s₂ => wpAny (model prog w) A (execs body env) (TurnPost h₀ L I oI' s (J (i + 1)) Q) E s₂) E { s with heap := h, toks := tk })
    (done : ∀ m news h tk, J items.length m news → Fr h₀ L h m → News h₀ L h news → wpAny (model prog w) A (execs orelse env) Q E { s with heap := h, toks := tk })
    (hE : PassesOwn (model prog w) A env E) :
    wpAny (model prog w) A (pyIter (.ref l)) (fun it s₂ => codeAny (model prog w) A (.forLoop target it body orelse env) (fun r s' => match r with | .ok f => Q f s' | .error e => cameBackBy (model prog w) A env E e s') s₂) E s := by
  subst hL
  refine wpAny_pyIter_tuple (hl 0 _ _ _ h0 F N) ?_
  have hlt : ∀ p ∈ news₀, p.1 < s.heap.objs.size := fun p hp => Heap.lt_size (N p hp).1
  have e : items.toArray.size = items.length := by simp
  refine for_loop (s := { s with heap := s.heap.push { cls := .type "tuple_iterator", data := .fields #[.ref l, .int 0 0] } }) (n := items.length) J (e ▸ Its.tuple hh s.heap.objs.size l items.toArray) (F.push _) (N.push F _) ⟨rfl, rfl⟩ (fun p hp => Nat.ne_of_lt (hlt p hp)) h0 hl
    (fun i v m news oI' h tk hi hP hJ F' N' hn' => turn s.heap.objs.size hlt (Ne.symm (Nat.ne_of_lt F.ns.lt)) i v m news oI' h tk (by simpa using hP) hJ F' N' hn') done hE
/-- a name's value, shown in the frame's map -/
theorem fr_see {h : Heap} {L : Addr} {m : Str → Option Value} {a : Str} {v : Option Value} (hm : m a = v) (F : Fr h₀ L h m) : Fr h₀ L h (fun y => if y = a then v else m y) := by
  have e : (fun y => if y = a then v else m y) = m := funext fun y => by
    by_cases q : y = a
    · rw [if_pos q, q, hm]
    · rw [if_neg q]
  rw [e]; exact F
theorem off1 {a I : Addr} {oa : Obj} (h : @Ne Nat a I) : ∀ p ∈ [(a, oa)], p.1 ≠ I := List.forall_mem_cons.mpr ⟨h, List.forall_mem_nil _⟩
theorem off2 {a b I : Addr} {oa ob : Obj} (h : @Ne Nat a I) (h' : @Ne Nat b I) : ∀ p ∈ [(a, oa), (b, ob)], p.1 ≠ I := List.forall_mem_cons.mpr ⟨h, off1 h'⟩
theorem off3 {a b c I : Addr} {oa ob oc : Obj} (h : @Ne Nat a I) (h' : @Ne Nat b I) (h'' : @Ne Nat c I) : ∀ p ∈ [(a, oa), (b, ob), (c, oc)], p.1 ≠ I := List.forall_mem_cons.mpr ⟨h, off2 h' h''⟩
theorem fr_at {h : Heap} {L : Addr} {m : Str → Option Value} (F : Fr h₀ L h m) (a : Str) {v : Option Value} (hm : m a = v) : Fr h₀ L h (fun y => if y = a then v else m y) := fr_see hm F
end
end
section
open PySem PySem.W PySem.Spec PySem.Calls PyProof.Rows
section
variable {prog : Program} {w : World} {A : Around} {E : Value → Shared → Prop} {s : Shared} {h₀ : Heap} {L l b : Addr} {m : Str → Option Value} {news : Led} {value slice : PySem.Expr} {vs ws : List Value} {vl vu : Value} {lo hi : Option Int} {Q : Value → Shared → Prop}
theorem sl_list (F : Fr h₀ L s.heap m) (N : News h₀ L s.heap news) (hl : s.heap.IsList l vs.toArray) (pl : IsPart vl lo) (pu : IsPart vu hi)
    (h : ∀ D h', Fr h₀ L h' m → News h₀ L h' ((D, W.listOf (kms_pick vs lo hi).toArray 0) :: news) → (∀ p ∈ news, p.1 < D) → Q (.ref D) { s with heap := h' })
    (hs : subscripted slice false (.ref l) (.ref s.heap.objs.size) = operate [.ref s.heap.objs.size, .ref l] (getItem (.ref l) (.ref s.heap.objs.size))) (ht : ∀ r, letTemporaryGo value (.ref l) r = pure ()) (hz : vs.toArray.size ≤ sizeLine) :
    wpAny (model prog w) A (subscriptTail value slice (.ref l) (.ref s.heap.objs.size)) Q E { s with heap := s.heap.push { cls := .type "slice", data := .fields #[vl, vu, .none] } } :=
  kms_slice_lit F N hl pl pu rfl h hs ht hz
theorem add_ls (F : Fr h₀ L s.heap m) (N : News h₀ L s.heap news) (hl : s.heap.IsList l vs.toArray) (hb : s.heap.IsList b ws.toArray)
    (h : ∀ D h', Fr h₀ L h' m → News h₀ L h' ((D, W.listOf (vs ++ ws).toArray 0) :: news) → (∀ p ∈ news, p.1 < D) → Q (.ref D) { s with heap := h' })
    (hsz : vs.length + ws.length ≤ sizeLine) :
    wpAny (model prog w) A (binaryOp .Add (.ref l) (.ref b)) Q E s :=
  add_lists F N hl hb (fun h' F' N' => h _ h' F' N' fun p hp => Heap.lt_size (N p hp).1) hsz
end
theorem pick_m1 (vs : List Value) : kms_pick vs none (some (-1)) = vs.dropLast := by
  unfold kms_pick
  have h1 : kms_lo none vs.length = 0 := by simp [kms_lo]
  have h2 : kms_hi (some (-1)) vs.length = vs.length - 1 := by simp only [kms_hi]; split <;> omega
  rw [h1, h2, List.drop_zero, Nat.sub_zero, List.dropLast_eq_take]
theorem strs_len {vs : List Value} {ss : List Str} (h : StrsAre vs ss) : vs.length = ss.length := by
  induction h with
  | nil => rfl
  | cons _ _ _ ih => simp [ih]
theorem strs_dropLast {vs : List Value} {ss : List Str} (h : StrsAre vs ss) : StrsAre vs.dropLast ss.dropLast := by
  rw [List.dropLast_eq_take, List.dropLast_eq_take, strs_len h]
  exact StrsAre.take' h _
theorem strValues_get {ls : List (Str × Tok)} {i : Nat} {v : Value} (h : (strValues ls)[i]? = some v) : ∃ p, ls[i]? = some p ∧ v = .str p.1 p.2 := by
  unfold strValues at h
  rw [List.getElem?_map] at h
  cases q : ls[i]? with
  | none => rw [q] at h; cases h
  | some p => rw [q] at h; exact ⟨p, rfl, (Option.some.inj h).symm⟩
theorem take_succ_map {ls : List (Str × Tok)} {i : Nat} {p : Str × Tok} (h : ls[i]? = some p) : (ls.map (·.1)).take (i + 1) = (ls.map (·.1)).take i ++ [p.1] := by
  rw [List.take_add_one, List.getElem?_map, h]; rfl
/-- an object that the call has made -/
def NewObj (P : Addr → Obj → Prop) (h h' : Heap) (v : Value) : Prop := ∃ a o, v = .ref a ∧ h.get? a = none ∧ h'.get? a = some o ∧ P a o
def StrsObj (ss : List Str) (_ : Addr) (o : Obj) : Prop := ∃ vs ep, o = W.listOf vs.toArray ep ∧ StrsAre vs ss
section
variable {w : World} {A₀ : Around} {s : Shared} {base h₀ : Heap} {outer : List Env} {L : Addr} {m : Str → Option Value} {p : Program} {loose : List Str} {mean : ExcName → Option Value} {mg mb : Str → Option Value} {Q E : Value → Shared → Prop}
theorem Fn.useN {f : Addr} {vs : List Value} {nd nu : Nat} {Pre : Heap → Prop} {P : Addr → Obj → Prop} (C : Fn w f vs nd nu Pre (NewObj P))
    {dp un : Nat} {gd : Option (List Code)} {cn : Str} {cs : Scope} {a : Addr} {ccd : Value} {cl : List (Str × Addr)} {news : List (Addr × Obj)}
    (B : Below A₀ base outer h₀) (F : Fr h₀ L s.heap m) (X : (Mine.hd.heap_39 w.params).In h₀) (N : News h₀ L s.heap news) (T : Top p loose mean mg mb h₀) (hk : cs.kind = .function)
    (hd : dp + nd < recursionLimit) (hu : un + nu < cLine) (pre : Pre s.heap)
    (ret : ∀ a o h' tk', P a o → s.heap.StaysIn h' → Fr h₀ L h' m → News h₀ L h' ((a, o) :: news) → (∀ p ∈ news, p.1 ≠ a) → Q (.ref a) { s with heap := h', toks := tk' }) :
    wpAny (model PG w) (ktrTop dp un gd cn cs L a ccd cl outer) (call (.ref f) vs) Q E s := by
  refine C.use B F X N T hk hd hu pre fun v h' tk' st hp F' N' => ?_
  obtain ⟨a, o, rfl, hn, ho, hP⟩ := hp
  obtain ⟨oL, es, ep, hL, r⟩ := F.ns
  refine ret a o h' tk' hP st F' (fun p hp => ?_) (fun p hp e => ?_)
  · rcases List.mem_cons.mp hp with rfl | hp
    · refine ⟨ho, fun e => ?_, ?_⟩
      · rw [show a = L from e, hL] at hn; cases hn
      · cases q : h₀.get? a with
        | none => rfl
        | some o' => rw [F.keep a o' q] at hn; cases hn
    · exact N' p hp
  · have := (N p hp).1; rw [show p.1 = a from e, hn] at this; cases this
end
def AllNe (d : Nat) : List (Addr × Obj) → Prop
  | [] => True
  | p :: r => (@Ne Nat p.1 d) ∧ AllNe d r
theorem allNe_of {d : Addr} : ∀ {l : List (Addr × Obj)}, (∀ p ∈ l, p.1 ≠ d) → AllNe d l
  | [], _ => trivial
  | p :: _, h => ⟨h p (.head _), allNe_of fun q hq => h q (.tail _ hq)⟩
def partStep (row : List Str) (p : Str) : List Str :=
  if p = Str.ofString ".." then row.dropLast else if p = Str.ofString "" ∨ p = Str.ofString "." then row else row ++ [p]
def rowsOf (ps : List Str) : List Str := ps.foldl partStep []
theorem rowsOf_snoc (ps : List Str) (p : Str) : rowsOf (ps ++ [p]) = partStep (rowsOf ps) p := by simp [rowsOf]
theorem rowsOf_len (ps : List Str) : (rowsOf ps).length ≤ ps.length := by
  suffices h : ∀ r : List Str, (ps.foldl partStep r).length ≤ r.length + ps.length by simpa [rowsOf] using h []
  induction ps with
  | nil => intro r; simp
  | cons p ps ih =>
    intro r
    have h1 := ih (partStep r p)
    have h2 : (partStep r p).length ≤ r.length + 1 := by
      unfold partStep
      split
      · simp; omega
      · split <;> simp
    simp only [List.foldl_cons, List.length_cons]
    omega
theorem partStep_up {row : List Str} {p : Str} (h : (p == Str.ofString "..") = true) : partStep row p = row.dropLast := by
  unfold partStep; rw [if_pos (by simpa using h)]
theorem partStep_stay {row : List Str} {p : Str} (h0 : (p == Str.ofString "..") = false) (h : ([Str.ofString "", Str.ofString "."].any fun x => x == p) = true) : partStep row p = row := by
  unfold partStep
  rw [if_neg (by simpa using h0), if_pos]
  simp only [List.any_cons, List.any_nil, Bool.or_false, Bool.or_eq_true, beq_iff_eq] at h
  rcases h with h | h
  · exact .inl h.symm
  · exact .inr h.symm
theorem partStep_in {row : List Str} {p : Str} (h0 : (p == Str.ofString "..") = false) (h : ([Str.ofString "", Str.ofString "."].any fun x => x == p) = false) : partStep row p = row ++ [p] := by
  unfold partStep
  rw [if_neg (by simpa using h0), if_neg]
  simp only [List.any_cons, List.any_nil, Bool.or_false, Bool.or_eq_false_iff, beq_eq_false_iff_ne, ne_eq] at h
  rintro (q | q)
  · exact h.1 q.symm
  · exact h.2 q.symm
theorem rowsOf_mem {ps : List Str} {y : Str} (h : y ∈ rowsOf ps) : y ∈ ps ∧ y ≠ Str.ofString ".." ∧ y ≠ Str.ofString "" ∧ y ≠ Str.ofString "." := by
  suffices q : ∀ r : List Str, y ∈ ps.foldl partStep r → y ∈ r ∨ (y ∈ ps ∧ y ≠ Str.ofString ".." ∧ y ≠ Str.ofString "" ∧ y ≠ Str.ofString ".") by
    rcases q [] h with q | q
    · cases q
    · exact q
  clear h
  induction ps with
  | nil => intro r h; exact .inl h
  | cons p ps ih =>
    intro r h
    rcases ih (partStep r p) h with q | q
    · unfold partStep at q
      split at q
      · exact .inl (List.dropLast_subset _ q)
      · rename_i h1
        split at q
        · exact .inl q
        · rename_i h2
          rcases List.mem_append.mp q with q | q
          · exact .inl q
          · have e := List.mem_singleton.mp q
            subst e
            exact .inr ⟨.head _, h1, fun z => h2 (.inl z), fun z => h2 (.inr z)⟩
    · exact .inr ⟨.tail _ q.1, q.2⟩
/-- few short texts -/
def Small (ys : List Str) : Prop := (∀ y ∈ ys, y.length ≤ 1000) ∧ ys.length ≤ 1010
theorem Small.sum {ys : List Str} (h : Small ys) : (ys.map (·.length)).sum + ys.length * 1 ≤ 2000000 := by
  have q : ∀ ys : List Str, (∀ y ∈ ys, y.length ≤ 1000) → (ys.map (·.length)).sum ≤ ys.length * 1000 := by
    intro ys h
    induction ys with
    | nil => simp
    | cons y ys ih =>
      have h1 := ih fun z hz => h z (.tail _ hz)
      have h2 := h y (.head _)
      simp only [List.map_cons, List.sum_cons, List.length_cons]
      omega
  have q := q ys h.1
  have := h.2
  omega
section
variable {prog : Program} {w : World} {A : Around} {E : Value → Shared → Prop} {s : Shared} {t : Tok} {Q : Value → Shared → Prop}
theorem join_ls {D : Addr} {vs : List Value} {ys : List Str} (hl : s.heap.IsList D vs.toArray) (hi : StrsAre vs ys) (hz : Small ys)
    (h : ∀ t' k, (Txt.join (Str.ofString "/") ys).length ≤ 2000000 → Q (.str (Txt.join (Str.ofString "/") ys) t') { s with toks := k }) :
    wpAny (model prog w) A (call (.builtin "str.join") [.str (Str.ofString "/") t, .ref D]) Q E s := by
  have hs := hz.sum
  refine join_list hl hi (Nat.le_trans hs (by decide)) fun t' k => h t' k ?_
  have e : Txt.join (Str.ofString "/") ys = Str.join (Str.ofString "/") ys := by unfold Txt.join; rw [StrLaws.glued_eq_join]
  rw [e]
  exact Nat.le_trans (StrLaws.join_length_le _ ys) hs
end
theorem strs_last {vs : List Value} {ss : List Str} (h : StrsAre vs ss) (hne : vs.isEmpty = false) : ∃ us t, vs = us ++ [.str (ss.getLastD (Str.ofString "")) t] := by
  induction h with
  | nil => cases hne
  | cons y t r ih =>
    cases r with
    | nil => exact ⟨[], t, rfl⟩
    | cons y' t' r' =>
      obtain ⟨us, t₂, e⟩ := ih rfl
      exact ⟨.str y t :: us, t₂, by rw [e]; rfl⟩
section
variable {prog : Program} {w : World} {A : Around} {E : Value → Shared → Prop} {s : Shared} {h₀ : Heap} {L l D : Addr} {m : Str → Option Value} {news news' : Led} {value slice : PySem.Expr} {vs : List Value} {ss : List Str} {n : Nat}
theorem truthy_ls {Q : Bool → Shared → Prop} (hl : s.heap.IsList l vs.toArray) (hz : vs.length ≤ 100000) (h : Q (!vs.isEmpty) { s with toks := s.toks + 1 + 1 }) : wpAny (model prog w) A (truthy (.ref l)) Q E s := by
  refine wpAny_truthy_list hl (by rw [List.size_toArray]; omega) ?_
  rw [List.isEmpty_toArray]
  exact h
theorem append_ls {x : Value} {Q : Value → Shared → Prop} (F : Fr h₀ L s.heap m) (N : News h₀ L s.heap news) (U : Upd D (W.listOf vs.toArray n) (W.listOf (vs ++ [x]).toArray (n + 1)) news news') (hz : vs.length ≤ 100000)
    (h : ∀ h', Fr h₀ L h' m → News h₀ L h' news' → Q .none { s with heap := h' }) : wpAny (model prog w) A (call (.builtin "list.append") [.ref D, x]) Q E s := by
  refine append_K (its := vs.toArray) (n := n) F N ?_ h (by rw [List.size_toArray, sizeLine_eq]; omega)
  rw [List.push_toArray]
  exact U
theorem pop_ls {Q : Value → Shared → Prop} (F : Fr h₀ L s.heap m) (N : News h₀ L s.heap news) (hs : StrsAre vs ss) (hne : vs.isEmpty = false) (U : Upd D (W.listOf vs.toArray n) (W.listOf vs.dropLast.toArray (n + 1)) news news') (hz : vs.length ≤ 100000)
    (h : ∀ h' t, Fr h₀ L h' m → News h₀ L h' news' → Q (.str (ss.getLastD (Str.ofString "")) t) { s with heap := h' }) : wpAny (model prog w) A (call (.builtin "list.pop") [.ref D]) Q E s := by
  obtain ⟨us, t, rfl⟩ := strs_last hs hne
  rw [List.dropLast_concat] at U
  exact kl_pop F N (kpa_last _ us) U (by rw [sizeLine_eq]; exact Nat.le_trans hz (by decide)) fun h' F' N' => h h' t F' N'
theorem last_ls {u : Tok} {Q : Value → Shared → Prop} (hl : s.heap.IsList l vs.toArray) (hs : StrsAre vs ss) (hne : vs.isEmpty = false) (h : ∀ t, Q (.str (ss.getLastD (Str.ofString "")) t) s)
    (hb : subscripted slice false (.ref l) (.int (-1) u) = operate [.ref l, .int (-1) u] (getItem (.ref l) (.int (-1) u))) : wpAny (model prog w) A (subscriptTail value slice (.ref l) (.int (-1) u)) Q E s := by
  obtain ⟨us, t, rfl⟩ := strs_last hs hne
  refine kde_neg (j := us.length) hl (by decide) (by decide) ?_ (by simp) (h t) hb
  rw [seqIndex_neg (by decide) (by simp; omega)]
  simp only [List.length_append, List.length_cons, List.length_nil]
  congr 1
  omega
end
theorem str_len0 {p : Str} (h : (p.length : Int) = 0) : p = Str.ofString "" := by
  obtain ⟨a⟩ := p
  have h' : a.size = 0 := by have : (a.size : Int) = 0 := h; omega
  have e : a = #[] := Array.eq_empty_of_size_eq_zero h'
  subst e
  decide
theorem step_dot {row : List Str} {p : Str} (h : (p == Str.ofString ".") = true) : partStep row p = row := by
  have e : p = Str.ofString "." := by simpa using h
  subst e
  unfold partStep
  rw [if_neg (by decide), if_pos (.inr rfl)]
theorem step_nil {row : List Str} {p : Str} (h : (p.length : Int) = 0) : partStep row p = row := by
  rw [str_len0 h]
  unfold partStep
  rw [if_neg (by decide), if_pos (.inl rfl)]
theorem step_add {row : List Str} {p : Str} (h0 : (p.length : Int) ≠ 0) (h1 : (p == Str.ofString ".") = false) (h2 : (p != Str.ofString "..") = true) : partStep row p = row ++ [p] := by
  unfold partStep
  rw [if_neg (by simpa using h2), if_neg]
  rintro (q | q)
  · subst q; exact h0 (by decide)
  · subst q; exact absurd h1 (by decide)
theorem step_up {row : List Str} {p : Str} (h2 : (p != Str.ofString "..") = false) : partStep row p = row.dropLast := by
  have e : p = Str.ofString ".." := by simpa using h2
  subst e
  unfold partStep
  rw [if_pos rfl]
theorem strs_empty {vs : List Value} {ss : List Str} (h : StrsAre vs ss) (e : vs.isEmpty = true) : ss = [] := by
  cases h with
  | nil => rfl
  | cons => cases e
def siteTab : List (Str × Int) := [(Str.ofString "/", 16877), (Str.ofString "/a", 16841), (Str.ofString "/a/b", 17405), (Str.ofString "/a/b/f", 33188), (Str.ofString "/a/x", 35232), (Str.ofString "/s", 16877), (Str.ofString "/s/f", 33156), (Str.ofString "/d", 17406), (Str.ofString "/d/g", 33206)]
def siteF (x : Str) : Option Int := siteTab.lookup x
def SiteObj (w : World) (a : Addr) (o : Obj) : Prop := (a == sysModules) = false ∧ ∃ kvs, o.IsDictOf (PySem.strKind PG w) kvs ∧ ∀ x, match siteF x with | none => valueAt kvs x = none | some n => ∃ t, valueAt kvs x = some (.int n t)
section
variable {w : World} {A : Around} {E : Value → Shared → Prop} {s : Shared} {d : Addr} {o : Obj} {x : Str} {t : Tok} {Q : Value → Shared → Prop} {value slice : PySem.Expr}
theorem site_map (S : SiteObj w d o) (ho : s.heap.get? d = some o) : ∃ f, s.heap.MapOf (PySem.strKind PG w) d f ∧ ∀ x, match siteF x with | none => f x = none | some n => ∃ t, f x = some (.int n t) := by
  obtain ⟨_, kvs, hd, hv⟩ := S
  exact ⟨valueAt kvs, (Heap.dictOf_iff.mpr ⟨o, ho, hd⟩).mapOf, hv⟩
theorem site_notin (S : SiteObj w d o) (ho : s.heap.get? d = some o) (h : Q (.bool (!(siteF x).isSome)) { s with toks := s.toks + 1 }) : wpAny (model PG w) A (compareOp .NotIn (.str x t) (.ref d)) Q E s := by
  obtain ⟨f, hm, hv⟩ := site_map S ho
  refine wpAny_notIn_of (strKind_is PG w x t) S.1 hm ?_
  have := hv x
  cases q : siteF x with
  | none => rw [q] at this h; rw [show f x = none from this]; exact h
  | some n => rw [q] at this h; obtain ⟨t', e⟩ := this; rw [e]; exact h
theorem site_item {n : Int} (S : SiteObj w d o) (ho : s.heap.get? d = some o) (hn : siteF x = some n) (h : ∀ t', Q (.int n t') { s with toks := s.toks + 1 })
    (hs : subscripted slice false (.ref d) (.str x t) = operate [.ref d, .str x t] (getItem (.ref d) (.str x t))) : wpAny (model PG w) A (subscriptTail value slice (.ref d) (.str x t)) Q E s := by
  obtain ⟨f, hm, hv⟩ := site_map S ho
  have := hv x
  rw [hn] at this
  obtain ⟨t', e⟩ := this
  exact tail_any hm.typeIs slot_dict_getitem.lookup (wpAny_getItem_of (strKind_is PG w x t) hm e (h t')) hs
end
inductive SK : List (Str × Int) → List (Str × Value) → Prop
  | nil : SK [] []
  | cons (k : Str) (n : Int) (t : Tok) {D : List (Str × Int)} {kvs : List (Str × Value)} : SK D kvs → SK ((k, n) :: D) ((k, .int n t) :: kvs)
theorem SK.val {D : List (Str × Int)} {kvs : List (Str × Value)} (h : SK D kvs) (x : Str) : match D.lookup x with | none => valueAt kvs x = none | some n => ∃ t, valueAt kvs x = some (.int n t) := by
  induction h with
  | nil => rfl
  | cons k n t r ih =>
    rw [List.lookup_cons]
    by_cases q : x = k
    · subst q
      rw [beq_self_eq_true]
      refine ⟨t, ?_⟩
      unfold valueAt
      rw [List.find?_cons_of_pos (by simp)]
      rfl
    · rw [beq_eq_false_iff_ne.mpr q]
      have e : ∀ kvs : List (Str × Value), valueAt ((k, .int n t) :: kvs) x = valueAt kvs x := fun kvs => by
        unfold valueAt
        rw [List.find?_cons_of_neg (by simpa using fun z => q z.symm)]
      rw [e]
      exact ih
theorem site_vals (t1 t2 t3 t4 t5 t6 t7 t8 t9 : Tok) : SK siteTab [(Str.ofString "/", Value.int 16877 t1), (Str.ofString "/a", Value.int 16841 t2), (Str.ofString "/a/b", Value.int 17405 t3), (Str.ofString "/a/b/f", Value.int 33188 t4), (Str.ofString "/a/x", Value.int 35232 t5), (Str.ofString "/s", Value.int 16877 t6), (Str.ofString "/s/f", Value.int 33156 t7), (Str.ofString "/d", Value.int 17406 t8), (Str.ofString "/d/g", Value.int 33206 t9)] :=
  .cons _ _ _ (.cons _ _ _ (.cons _ _ _ (.cons _ _ _ (.cons _ _ _ (.cons _ _ _ (.cons _ _ _ (.cons _ _ _ (.cons _ _ _ .nil))))))))
def dirOf (x : Str) : Str :=
  if ((Txt.slice x none (some (Txt.rfind x (Str.ofString "/") + 1))).length : Int) = 0 then Txt.slice x none (some (Txt.rfind x (Str.ofString "/") + 1))
  else if (Txt.slice x none (some (Txt.rfind x (Str.ofString "/") + 1)) != Txt.mul (Str.ofString "/") ((Txt.slice x none (some (Txt.rfind x (Str.ofString "/") + 1))).length : Int)) = true then Txt.rstripChars (Txt.slice x none (some (Txt.rfind x (Str.ofString "/") + 1))) (Str.ofString "/")
  else Txt.slice x none (some (Txt.rfind x (Str.ofString "/") + 1))
abbrev FRow := Addr × Int × Str
def fmRows : List (Addr × List FRow) := [(179, [(172, 40960, Str.ofString "l"), (173, 49152, Str.ofString "s"), (174, 32768, Str.ofString "-"), (175, 24576, Str.ofString "b"), (176, 16384, Str.ofString "d"), (177, 8192, Str.ofString "c"), (178, 4096, Str.ofString "p")]),
  (181, [(180, 256, Str.ofString "r")]), (183, [(182, 128, Str.ofString "w")]), (187, [(184, 2112, Str.ofString "s"), (185, 2048, Str.ofString "S"), (186, 64, Str.ofString "x")]),
  (189, [(188, 32, Str.ofString "r")]), (191, [(190, 16, Str.ofString "w")]), (195, [(192, 1032, Str.ofString "s"), (193, 1024, Str.ofString "S"), (194, 8, Str.ofString "x")]),
  (197, [(196, 4, Str.ofString "r")]), (199, [(198, 2, Str.ofString "w")]), (203, [(200, 513, Str.ofString "t"), (201, 512, Str.ofString "T"), (202, 1, Str.ofString "x")])]
def FmAt (g : Heap) (p : Addr × List FRow) : Prop := g.IsTuple p.1 (p.2.map fun r => Value.ref r.1).toArray ∧ ∀ r ∈ p.2, ∃ t t', g.IsTuple r.1 #[.int r.2.1 t, .str r.2.2 t']
def hits (i : Nat) (n : Int) (r : FRow) : Bool := if i = 0 then Builtin.bitAnd n 61440 == r.2.1 else Builtin.bitAnd n r.2.1 == r.2.1
def pick (i : Nat) (n : Int) (rows : List FRow) : Str := match rows.find? (hits i n) with
  | some r => r.2.2
  | none => if i = 0 then Str.ofString "?" else Str.ofString "-"
def signsTo (k : Nat) (n : Int) : List Str := ((fmRows.take k).zipIdx).map fun p => pick p.2 n p.1.2
def modeOf (n : Int) : Str := Txt.join (Str.ofString "") (signsTo 10 n)
theorem find_at {rows : List FRow} {f : FRow → Bool} {j : Nat} {r : FRow} (h : (rows.take j).find? f = none) (hj : rows[j]? = some r) (hr : f r = true) : rows.find? f = some r := by
  induction rows generalizing j with
  | nil => simp at hj
  | cons x rows ih =>
    cases j with
    | zero => simp at hj; subst hj; rw [List.find?_cons_of_pos hr]
    | succ j =>
      rw [List.take_succ_cons] at h
      have h1 := (List.find?_eq_none.mp h) x (.head _)
      rw [List.find?_cons_of_neg h1] at h ⊢
      exact ih h (by simpa using hj)
theorem find_step {rows : List FRow} {f : FRow → Bool} {j : Nat} {r : FRow} (h : (rows.take j).find? f = none) (hj : rows[j]? = some r) (hr : f r = false) : (rows.take (j + 1)).find? f = none := by
  rw [List.take_add_one, hj, List.find?_append, h]
  simp [hr]
theorem signs_succ {i : Nat} {p : Addr × List FRow} (n : Int) (h : fmRows[i]? = some p) : signsTo (i + 1) n = signsTo i n ++ [pick i n p.2] := by
  unfold signsTo
  rw [List.take_add_one, h, Option.toList_some, List.zipIdx_append, List.map_append]
  have hl : i < fmRows.length := (List.getElem?_eq_some_iff.mp h).1
  have : (fmRows.take i).length = i := by rw [List.length_take]; omega
  simp [this]
theorem signs_len (i : Nat) (n : Int) : (signsTo i n).length ≤ 10 := by
  unfold signsTo
  rw [List.length_map, List.length_zipIdx, List.length_take]
  have : fmRows.length = 10 := rfl
  omega
theorem pick_short (i : Nat) (n : Int) (p : Addr × List FRow) (hp : p ∈ fmRows) : (pick i n p.2).length ≤ 1 := by
  unfold pick
  split
  · rename_i r hr
    have h1 := List.mem_of_find?_eq_some hr
    have q : ∀ p ∈ fmRows, ∀ r ∈ p.2, r.2.2.length ≤ 1 := by decide
    exact q p hp r h1
  · split <;> decide
section
variable {i : Nat} {n : Int} {r : FRow} {rows : List FRow}
theorem hits0 (hi : (i : Int) = 0) : hits i n r = (Builtin.bitAnd n 61440 == r.2.1) := by unfold hits; rw [if_pos (by omega)]
theorem hits1 (hi : (i : Int) ≠ 0) : hits i n r = (Builtin.bitAnd n r.2.1 == r.2.1) := by unfold hits; rw [if_neg (by omega)]
theorem pick_some (h : rows.find? (hits i n) = some r) : pick i n rows = r.2.2 := by unfold pick; rw [h]
theorem pick_none0 (hi : (i : Int) = 0) (h : rows.find? (hits i n) = none) : pick i n rows = Str.ofString "?" := by unfold pick; rw [h]; simp only; rw [if_pos (by omega)]
theorem pick_none1 (hi : (i : Int) ≠ 0) (h : rows.find? (hits i n) = none) : pick i n rows = Str.ofString "-" := by unfold pick; rw [h]; simp only; rw [if_neg (by omega)]
end
theorem signs_small (n : Int) : ((signsTo 10 n).map (·.length)).sum + (signsTo 10 n).length * (Str.ofString "").length ≤ 16777216 := by
  have e : (Str.ofString "").length = 0 := by decide
  rw [e, Nat.mul_zero, Nat.add_zero]
  have q : ∀ y ∈ signsTo 10 n, y.length ≤ 1 := by
    intro y hy
    unfold signsTo at hy
    obtain ⟨p, hp, rfl⟩ := List.mem_map.mp hy
    have h1 : p.1 ∈ fmRows.take 10 := by
      have := List.mem_zipIdx hp
      exact this.2.2 ▸ List.getElem_mem _
    exact pick_short _ _ _ (List.mem_of_mem_take h1)
  have s : ∀ l : List Str, (∀ y ∈ l, y.length ≤ 1) → (l.map (·.length)).sum ≤ l.length := by
    intro l hl
    induction l with
    | nil => simp
    | cons y l ih =>
      have h1 := ih fun z hz => hl z (.tail _ hz)
      have h2 := hl y (.head _)
      simp only [List.map_cons, List.sum_cons, List.length_cons]
      omega
  have h1 := s _ q
  have h2 := signs_len 10 n
  omega
theorem split_len (x y : Str) : (Txt.split x y).length ≤ x.length + 2 := by
  unfold Txt.split
  split
  · simp
  · split
    · simp
    · have e1 := StrLaws.occ_length_le x y 0 x.length (x.length + 1)
      rw [length_partsBetween]; omega
end
section
open PySem PySem.W PySem.Spec PySem.Calls PyProof.Rows
section
variable {prog : Program} {w : World} {A : Around} {E : Value → Shared → Prop} {s : Shared}
theorem ty_type_str : typeOf (.type "str") = pure (.type "type") := kitMeta_of (by decide +kernel)
theorem isub_nested_str {k : Int} {tk : Tok} {Q : Fin → Shared → Prop} (hq : Q (.done (.ret (.bool true))) s) :
    wpAny (model prog w) A (Builtin.«issubclass.nested» ⟨[.type "str", .type "str", .int k tk], []⟩) Q E s := by
  have hm : (Value.type "type" == Value.type "type") = true := rfl
  have hty := ty_type_str
  have hself := isSubtype_str_str
  repeat (any_goals (first | assumption | (rw [hty]) | (rw [if_pos hm]) | (rw [hself]) | wp_step))
theorem isub_nested_tuple {D : Addr} {o : Obj} {n : Nat} {Q : Fin → Shared → Prop} (ho : s.heap.get? D = some o) (hc : o.cls = .type "tuple") (hd : o.data = .seq #[.type "str", .type "bytes"] n) (hq : Q (.done (.ret (.bool true))) s) :
    wpAny (model prog w) A (Builtin.«issubclass.nested» ⟨[.type "str", .ref D, rawInt 0], []⟩) Q E s := by
  have hT : s.TypeIs (.ref D) "tuple" := ⟨o, ho, hc⟩
  unfold Builtin.«issubclass.nested» rawInt
  refine wpAny_bind (wpAny_typeOf hT ?_)
  have hsub := AutoSeq1.sub_tuple_tuple
  repeat (any_goals (first | assumption | wp_step))
  rw [hd]
  refine wpAny_pure ?_
  rw [Option.getD_some, ← Array.forIn_toList]
  show wpAny _ _ (forIn [Value.type "str", Value.type "bytes"] _ _ >>= _) _ _ _
  rw [List.forIn_cons]
  refine wpAny_bind (wpAny_bind (wpAny_bind ?_))
  refine call_function_entry (by decide +kernel) (by decide +kernel) F.entry_issubclass_nested (by unfold argsOk; kernel_rfl) ?_
  refine isub_nested_str ⟨_, rfl, ?_⟩
  repeat (any_goals (first | assumption | wp_step))
theorem isub_str {D : Addr} {o : Obj} {n : Nat} {Q : Value → Shared → Prop} (ho : s.heap.get? D = some o) (hc : o.cls = .type "tuple") (hd : o.data = .seq #[.type "str", .type "bytes"] n) (hq : Q (.bool true) s) :
    wpAny (model prog w) A (call (.builtin "issubclass") [.type "str", .ref D]) Q E s :=
  call_issubclass (S := fun _ R s => (s.heap.get? D = some o) ∧ R (.ok (.ret (.bool true))) s) (fun _ _ _ _ _ hs => issubclass_outer (isub_nested_tuple hs.1 hc hd hs.2)) ⟨ho, hq⟩
end
end
section
open PySem PySem.W PySem.Spec PySem.Calls PyProof.Rows
section
variable {prog : Program} {w : World} {A : Around} {E : Value → Shared → Prop} {s : Shared}
theorem nextOf_tup {it t : Addr} {i : Nat} {items : Array Value} {x : Value} {Q : Value → Shared → Prop} (hit : s.heap.IsTupleIter it t i) (ht : s.heap.IsTuple t items) (hx : items[i]? = some x)
    (hQ : ∀ h', h'.IsTupleIter it t (i + 1) → Heap.SameBut it s.heap h' → Q x { s with heap := h' }) : wpAny (model prog w) A (Builtin.SmallTypes.nextOf (.ref it)) Q E s := by
  obtain ⟨o, ho, hc, hd⟩ := id hit
  obtain ⟨ol, hol, _, nl, hdl⟩ := ht
  unfold Builtin.SmallTypes.nextOf
  refine wpAny_bind (wpAny_callSpecial?_slot (name := Str.ofString "__next__") hit.typeIs F.slot_tuple_iterator_next
    (wpAny_call_entry F.slot_tuple_iterator_next hit.typeIs F.entry_tuple_iterator_next ?_ (F.args_tuple_iterator_next_1 _)))
  show wpAny _ _ (field (.ref it) 0 >>= _) _ _ s
  refine wpAny_bind (wpAny_field ho hd (x := .ref t) rfl ?_)
  show wpAny _ _ (if (Value.ref t == Value.none) = true then _ else _) _ _ s
  rw [if_neg (show ¬ ((Value.ref t == Value.none) = true) from Bool.false_ne_true)]
  show wpAny _ _ (field (.ref it) 1 >>= _) _ _ s
  refine wpAny_bind (wpAny_field ho hd (x := .int i 0) rfl ?_)
  show wpAny _ _ (seqItems? (.ref t) >>= _) _ _ s
  refine wpAny_bind (wpAny_seqItems hol hdl ?_)
  simp only [Int.toNat_natCast, hx]
  refine wpAny_bind (wpAny_setField ho hd (by simp) (wpAny_pure ⟨x, rfl, wpAny_pure (hQ _ ?_ (Heap.SameBut.update ..))⟩))
  exact ⟨_, Heap.get?_update_self _ ho (Obj.isFreed_of_fields (Obj.data_mapFields hd _)), (Obj.cls_mapFields ..).trans hc, by
    rw [Obj.data_mapFields hd]; simp [rawInt]⟩
theorem nextOf_tup_end {it t : Addr} {i : Nat} {items : Array Value} {Q : Value → Shared → Prop} (hh : A.handled = none) (hit : s.heap.IsTupleIter it t i) (ht : s.heap.IsTuple t items) (hx : items[i]? = none)
    (hE : ∀ h' e, Heap.ExtBut it s.heap h' → (∃ o, h'.get? e = some o ∧ o.cls = .type "StopIteration") → E (.ref e) { s with heap := h' }) : wpAny (model prog w) A (Builtin.SmallTypes.nextOf (.ref it)) Q E s := by
  obtain ⟨o, ho, hc, hd⟩ := id hit
  obtain ⟨ol, hol, _, nl, hdl⟩ := ht
  unfold Builtin.SmallTypes.nextOf
  refine wpAny_bind (wpAny_callSpecial?_slot (name := Str.ofString "__next__") hit.typeIs F.slot_tuple_iterator_next
    (wpAny_call_entry F.slot_tuple_iterator_next hit.typeIs F.entry_tuple_iterator_next ?_ (F.args_tuple_iterator_next_1 _)))
  show wpAny _ _ (field (.ref it) 0 >>= _) _ _ s
  refine wpAny_bind (wpAny_field ho hd (x := .ref t) rfl ?_)
  show wpAny _ _ (if (Value.ref t == Value.none) = true then _ else _) _ _ s
  rw [if_neg (show ¬ ((Value.ref t == Value.none) = true) from Bool.false_ne_true)]
  show wpAny _ _ (field (.ref it) 1 >>= _) _ _ s
  refine wpAny_bind (wpAny_field ho hd (x := .int i 0) rfl ?_)
  show wpAny _ _ (seqItems? (.ref t) >>= _) _ _ s
  refine wpAny_bind (wpAny_seqItems hol hdl ?_)
  simp only [Int.toNat_natCast, hx]
  refine wpAny_bind (wpAny_rule (wpAny_bind (wpAny_setField ho hd (by simp) ?_)))
  show wpAny _ _ (newExc (.type "StopIteration") [] >>= _) _ _ _
  refine wpAny_bind ?_
  simp only [newExc, newTuple]
  refine wpAny_bind (wpAny_newObj_type ?_ (by size_fits))
  refine wpAny_bind (m := firstArgMember _ _) (wpAny_of_eq (a := Value.none) (by first | rfl | (simp only [firstArgMember]; rfl)) ?_)
  refine wpAny_newObj_type ?_ (by size_fits)
  simp only [raiseNew]
  refine wpAny_bind (wpAny_handled ?_)
  first | rw [show A.in1.handled = none from hh] | rw [hh]
  refine wpAny_bind (wpAny_pure (wpAny_throw ?_))
  exact hE _ _ (((Heap.SameBut.update ..).extBut.push _).push _) ⟨_, Heap.get?_push_size _ rfl, rfl⟩
theorem tuple_at {h h' : Heap} {a : Addr} {items : Array Value} (x : h.IsTuple a items) (e : ∀ o, h.get? a = some o → h'.get? a = some o) : h'.IsTuple a items := let ⟨o, ho, r⟩ := x; ⟨o, e _ ho, r⟩
theorem tupit_at {h h' : Heap} {a t : Addr} {i : Nat} (x : h.IsTupleIter a t i) (e : ∀ o, h.get? a = some o → h'.get? a = some o) : h'.IsTupleIter a t i := let ⟨o, ho, r⟩ := x; ⟨o, e _ ho, r⟩
theorem draws_tup (hh : A.handled = none) (it t : Addr) (hne : t ≠ it) (items : Array Value) :
    Draws prog w A it [it, t] items.size (fun i v => items[i]? = some v) (fun i h => h.IsTupleIter it t i ∧ h.IsTuple t items) where
  live := fun _ _ st => let ⟨o, ho, _⟩ := st.1; ⟨o, ho⟩
  frame := fun _ _ _ st hk => ⟨tupit_at st.1 fun o e => hk it (by simp) o e, tuple_at st.2 fun o e => hk t (by simp) o e⟩
  item := fun i s Q E hi st hQ => by
    refine nextOf_tup st.1 st.2 (x := items[i]) (by simp [hi]) fun h' hit' hs' => ?_
    exact hQ _ h' s.toks (by simp [hi]) ⟨hit', st.2.extBut hs'.extBut hne⟩ hs'
  done := fun s Q E st hE => nextOf_tup_end hh st.1 st.2 (by simp) hE
theorem meets_enumT (l : Addr) (items : Array Value) (n : Nat) (dct : Option Addr) (sl : Array (Option Value)) :
    Meets (Builtin.«enumerate.__new__» ⟨[.type "enumerate", .ref l], []⟩) (fun _ R s => s.heap.get? l = some { cls := .type "tuple", dict := dct, data := .seq items n, slots := sl } ∧
      R (.ok (.ret (.ref (s.heap.push { cls := .type "tuple_iterator", data := .fields #[.ref l, .int 0 0] }).objs.size)))
        { s with heap := (s.heap.push { cls := .type "tuple_iterator", data := .fields #[.ref l, .int 0 0] }).push { cls := .type "enumerate", data := .fields #[.none, .bool false, .ref s.heap.objs.size, rawInt 0, .none, .none] } }) :=
  .of_wp fun prog w A R s h => by
    obtain ⟨hp, g, d, tk, os⟩ := s; obtain ⟨hl, h⟩ := h
    have hsub := sub_enumerate
    have hL : Heap.IsTuple (Shared.heap ⟨hp, g, d, tk, os⟩) l items := ⟨_, hl, rfl, n, rfl⟩
    wp_walk using AutoSeq1.wpAny_loadPart' hl
    refine wpAny_stack_any fun st => wpAny_pure ?_
    split
    · rename_i c _ _ _ _ _
      cases (c == Value.type "enumerate")
      · wp_walk using AutoSeq1.wpAny_loadPart' hl, wpAny_pyIter_tuple hL
        exact ⟨_, rfl, h⟩
      · wp_walk using AutoSeq1.wpAny_loadPart' hl, wpAny_pyIter_tuple hL
        exact ⟨_, rfl, h⟩
    · wp_walk using AutoSeq1.wpAny_loadPart' hl, wpAny_pyIter_tuple hL
      exact ⟨_, rfl, h⟩
theorem call_enumT {l : Addr} {items : Array Value} {Q : Value → Shared → Prop} (hL : s.heap.IsTuple l items)
    (h : ∀ h', IsEnum h' (s.heap.objs.size + 1) s.heap.objs.size 0 .none → h'.IsTupleIter s.heap.objs.size l 0 →
      (∀ b o, s.heap.get? b = some o → h'.get? b = some o) → Q (.ref (s.heap.objs.size + 1)) { s with heap := h' }) :
    wpAny (model prog w) A (call (.type "enumerate") [.ref l]) Q E s := by
  obtain ⟨⟨c, dct, dt, sl⟩, hl, hc, n, hd⟩ := hL
  replace hc : c = .type "tuple" := hc
  replace hd : dt = .seq items n := hd
  subst hc hd
  refine callType_new F.called_enumerate (by decide) (F.typeCall_enumerate_1 _) (F.newCall_enumerate_1 _) (fun obj => F.args_object_init_2 obj _) F.entry_enumerate_new
    (meets_enumT l items n dct sl) ⟨hl, ?_⟩
  have hz : (s.heap.push { cls := .type "tuple_iterator", data := .fields #[.ref l, .int 0 0] }).objs.size = s.heap.objs.size + 1 := Heap.size_push ..
  show _ ∧ _
  rw [hz]
  have he : IsEnum ((s.heap.push { cls := .type "tuple_iterator", data := .fields #[.ref l, .int 0 0] }).push
      { cls := .type "enumerate", data := .fields #[.none, .bool false, .ref s.heap.objs.size, rawInt 0, .none, .none] }) (s.heap.objs.size + 1) s.heap.objs.size 0 .none := by
    have := Heap.get?_push_size (s.heap.push { cls := .type "tuple_iterator", data := .fields #[.ref l, .int 0 0] })
      (o := { cls := .type "enumerate", data := .fields #[.none, .bool false, .ref s.heap.objs.size, rawInt 0, .none, .none] }) rfl
    rw [hz] at this; exact this
  exact ⟨⟨_, he, rfl⟩, h _ he ⟨_, Heap.get?_push_of_some _ (Heap.get?_push_size _ rfl), rfl, rfl⟩ fun b o x => Heap.get?_push_of_some _ (Heap.get?_push_of_some _ x)⟩
end
def TurnEnd2 (h₀ : Heap) (L e it : Addr) (oe oi : Obj) (s : Shared) (J : (Str → Option Value) → Led → Prop) (s₃ : Shared) : Prop :=
  ∃ h' tk' m' news', s₃ = { s with heap := h', toks := tk' } ∧ Fr h₀ L h' m' ∧ News h₀ L h' ((e, oe) :: (it, oi) :: news') ∧ (∀ p ∈ news', p.1 ≠ e ∧ p.1 ≠ it) ∧ J m' news'
theorem TurnEnd2.mk {h₀ : Heap} {L e it : Addr} {oe oi : Obj} {s : Shared} {J : (Str → Option Value) → Led → Prop} {h' : Heap} {tk' : Nat} {m' : Str → Option Value} {news' : Led}
    (F : Fr h₀ L h' m') (N : News h₀ L h' ((e, oe) :: (it, oi) :: news')) (hn : ∀ p ∈ news', p.1 ≠ e ∧ p.1 ≠ it) (hJ : J m' news') : TurnEnd2 h₀ L e it oe oi s J { s with heap := h', toks := tk' } := ⟨h', tk', m', news', rfl, F, N, hn, hJ⟩
def TurnPost2 (h₀ : Heap) (L e it : Addr) (oe oi : Obj) (s : Shared) (J : (Str → Option Value) → Led → Prop) (f : Flow) (s₃ : Shared) : Prop :=
  match f with
  | .next => TurnEnd2 h₀ L e it oe oi s J s₃
  | .cont => TurnEnd2 h₀ L e it oe oi s J s₃
  | _ => False
section
variable {prog : Program} {w : World} {A : Around} {E : Value → Shared → Prop} {s : Shared} {h₀ : Heap} {env : Env} {body : List Stmt} {Q : Flow → Shared → Prop} {a b : Str} {pa pb tp : Pos} {kk : Nat}
theorem for_enum {t L : Addr} {items : List Value} {m₀ : Str → Option Value} {news₀ : Led} (J : Nat → (Str → Option Value) → Led → Prop)
    (hL : env.locals = L) (hh : A.handled = none) (ha : env.kindOf a = some .local) (hb : env.kindOf b = some .local) (hp : (env.scope.kind == .class || (env.scope.kind == .module && env.locals != env.globals)) = false)
    (ht : h₀.IsTuple t items.toArray) (F : Fr h₀ L s.heap m₀) (N : News h₀ L s.heap news₀) (h0 : J 0 m₀ news₀)
    (turn : ∀ e it : Addr, (∀ p ∈ news₀, p.1 < it) → it < e → ∀ i v m news oe oi ti h tk, items[i]? = some v → J i m news → Fr h₀ L h (fun z => if z = b then some v else if z = a then some (.int i ti) else m z) → News h₀ L h ((e, oe) :: (it, oi) :: news) → (∀ p ∈ news, p.1 ≠ e ∧ p.1 ≠ it) →
      wpAny (model prog w) A (execs body env) (TurnPost2 h₀ L e it oe oi s (J (i + 1))) E { s with heap := h, toks := tk })
    (done : ∀ m news h tk, J items.length m news → Fr h₀ L h m → News h₀ L h news → Q .next { s with heap := h, toks := tk })
    (hE : PassesOwn (model prog w) A env E) :
    wpAny (model prog w) A (call (.type "enumerate") [.ref t]) (fun x s₁ => wpAny (model prog w) A (pyIter x) (fun it s₂ => codeAny (model prog w) A (.forLoop (.Tuple [.Name a pa, .Name b pb] kk tp) it body [] env) (fun r s' => match r with | .ok f => Q f s' | .error e => cameBackBy (model prog w) A env E e s') s₂) E s₁) E s := by
  subst hL
  have hts : s.heap.IsTuple t items.toArray := tuple_at ht fun o e => F.keep t o e
  obtain ⟨ot, hot, _⟩ := id ht
  have hlt : t < s.heap.objs.size := Heap.lt_size (F.keep t ot hot)
  refine call_enumT hts fun h₁ hEn hIt hk => ?_
  refine wpAny_pyIter_enum hEn ?_
  have hit_ne : s.heap.objs.size + 1 ≠ s.heap.objs.size := Nat.succ_ne_self _
  generalize hit : s.heap.objs.size = it at *
  have hLt : env.locals < it := hit ▸ F.ns.lt
  have hIL : ∀ c, it ≤ c → env.locals ≠ c ∧ h₀.get? c = none := fun c hc => ⟨Nat.ne_of_lt (Nat.lt_of_lt_of_le hLt hc), by
    cases q : h₀.get? c with
    | none => rfl
    | some o =>
      have h1 := Heap.lt_size (F.keep c o q)
      rw [hit] at h1
      exact absurd h1 (Nat.not_lt.mpr hc)⟩
  have W := WalksT.enumerateD (prog := prog) (w := w) (A := A) (draws_tup (A := A.in1) hh it t (Nat.ne_of_lt hlt) items.toArray) (it + 1) hit_ne (by simp only [List.mem_cons, List.not_mem_nil, or_false]; rintro (q | q); exact hit_ne q; exact absurd (q ▸ hlt) (Nat.not_lt.mpr (Nat.le_succ _))) (by simp)
  rw [List.size_toArray] at W
  have F₁ := F.keeps hk
  have N₁ : News h₀ env.locals h₁ news₀ := fun p hp => ⟨hk _ _ (N p hp).1, (N p hp).2⟩
  obtain ⟨oi₁, hoi₁, roi₁⟩ := id hIt
  obtain ⟨oe₁, hoe₁⟩ : ∃ oe, h₁.get? (it + 1) = some oe := ⟨_, hEn⟩
  refine codeAny_forLoop_any
    (fun k s' => ∃ h' tk m news, ∃ i : Nat, ∃ oe oi, s' = { s with heap := h', toks := tk } ∧ Fr h₀ env.locals h' m ∧ News h₀ env.locals h' ((it + 1, oe) :: (it, oi) :: news) ∧ (∀ p ∈ news, p.1 ≠ it + 1 ∧ p.1 ≠ it) ∧
      ((∃ old, IsEnum h' (it + 1) it i old) ∧ h'.IsTupleIter it t i ∧ h'.IsTuple t items.toArray) ∧ J i m news ∧ i ≤ items.length ∧ k = items.length + 1 - i) ?_ (items.length + 1)
    ⟨h₁, s.toks, m₀, news₀, 0, oe₁, oi₁, rfl, F₁, fun p hp => ?_, fun p hp => ?_, ⟨⟨_, hEn⟩, hIt, tuple_at hts fun o e => hk t o e⟩, h0, Nat.zero_le _, rfl⟩
  rotate_left
  · rcases List.mem_cons.mp hp with rfl | hp
    · exact ⟨hoe₁, Ne.symm (hIL (it + 1) (Nat.le_succ _)).1, (hIL (it + 1) (Nat.le_succ _)).2⟩
    · rcases List.mem_cons.mp hp with rfl | hp
      · exact ⟨hoi₁, Ne.symm (hIL it (Nat.le_refl _)).1, (hIL it (Nat.le_refl _)).2⟩
      · exact N₁ p hp
  · have : p.1 < it := hit ▸ Heap.lt_size (N p hp).1
    exact ⟨Nat.ne_of_lt (Nat.lt_succ_of_lt this), Nat.ne_of_lt this⟩
  rintro k s' ⟨h', tk, m, news, i, oe, oi, rfl, F', N', hn', hst, hJ, hi, rfl⟩
  have Nr : News h₀ env.locals h' news := fun p hp => N' p (.tail _ (.tail _ hp))
  have next : ∀ h₁ : Heap, (∀ c o, c ≠ it + 1 → c ≠ it → h'.get? c = some o → h₁.get? c = some o) → Fr h₀ env.locals h₁ m ∧ News h₀ env.locals h₁ news := fun h₁ hk₁ =>
    ⟨⟨F'.ns.at' fun o e => hk₁ _ o (hIL _ (Nat.le_succ _)).1 (hIL _ (Nat.le_refl _)).1 e, fun c o e => hk₁ c o (fun q => by rw [q, (hIL _ (Nat.le_succ _)).2] at e; cases e) (fun q => by rw [q, (hIL _ (Nat.le_refl _)).2] at e; cases e) (F'.keep c o e), F'.above⟩,
      fun p hp => ⟨hk₁ _ _ (hn' p hp).1 (hn' p hp).2 (Nr p hp).1, (Nr p hp).2⟩⟩
  by_cases hlt' : i < items.length
  · refine W.item i _ _ _ hlt' hst fun T vals h₂ tk₂ hP hTsz hT hMid hk₂ => ?_
    obtain ⟨ti, x, hx, rfl⟩ := hP
    have hTne := W.apart i T h₂ hMid
    refine W.go _ _ _ i T _ _ _ hMid fun h₃ hst₃ hk₃ => ?_
    have k₂ : ∀ c o, c ≠ it + 1 → c ≠ it → h'.get? c = some o → h₃.get? c = some o := fun c o q1 q2 e => hk₃ c o (by simp [q1, q2]) (hk₂ c o (by simp [q1, q2]) e)
    obtain ⟨F₃, N₃⟩ := next h₃ k₂
    have hT₃ : h₃.IsTuple T #[.int i ti, x] := tuple_at hT fun o e => hk₃ T o hTne e
    refine wpAny_passesOwn hE (kcp_assign (m := m) hh hT₃ ha hb hp F₃.ns fun h₄ tk₄ hn₄ hs₄ => ?_)
    have k₄ : ∀ c o, c ≠ env.locals → h₃.get? c = some o → h₄.get? c = some o := hs₄
    obtain ⟨⟨old, he₃⟩, hit₃, htu₃⟩ := hst₃
    obtain ⟨oi₃, hoi₃, _⟩ := id hit₃
    obtain ⟨oe₃, hoe₃, roe₃⟩ : ∃ oe, h₃.get? (it + 1) = some oe ∧ ∀ h : Heap, h.get? (it + 1) = some oe → ∃ old, IsEnum h (it + 1) it ((i + 1 : Nat) : Int) old := ⟨_, he₃, fun _ e => ⟨_, e⟩⟩
    have n1 := hIL (it + 1) (Nat.le_succ _)
    have n2 := hIL it (Nat.le_refl _)
    have F₄ : Fr h₀ env.locals h₄ (fun z => if z = b then some x else if z = a then some (.int i ti) else m z) := ⟨hn₄, fun c o e => k₄ c o (fun q => by
        have h2 := Heap.lt_size e
        rw [q] at h2
        exact absurd h2 (Nat.not_lt.mpr F.above)) (F₃.keep c o e), F.above⟩
    have N₄ : News h₀ env.locals h₄ ((it + 1, oe₃) :: (it, oi₃) :: news) := fun p hp => by
      rcases List.mem_cons.mp hp with rfl | hp
      · exact ⟨k₄ _ _ (Ne.symm n1.1) hoe₃, Ne.symm n1.1, n1.2⟩
      · rcases List.mem_cons.mp hp with rfl | hp
        · exact ⟨k₄ _ _ (Ne.symm n2.1) hoi₃, Ne.symm n2.1, n2.2⟩
        · exact ⟨k₄ _ _ (N₃ p hp).2.1 (N₃ p hp).1, (N₃ p hp).2⟩
    refine wpAny_passesOwn hE (wpAny_mono (turn (it + 1) it (fun p hp => hit ▸ Heap.lt_size (N p hp).1) (Nat.lt_succ_self _) i x m news oe₃ oi₃ ti h₄ _ (by simpa using hx) hJ F₄ N₄ hn') (fun f s₃ h₃' => ?_) fun _ _ e => e)
    have fin : TurnEnd2 h₀ env.locals (it + 1) it oe₃ oi₃ s (J (i + 1)) s₃ → ∃ m_1, m_1 < items.length + 1 - i ∧ ∃ h' tk m news, ∃ i : Nat, ∃ oe oi, s₃ = { s with heap := h', toks := tk } ∧ Fr h₀ env.locals h' m ∧ News h₀ env.locals h' ((it + 1, oe) :: (it, oi) :: news) ∧ (∀ p ∈ news, p.1 ≠ it + 1 ∧ p.1 ≠ it) ∧
      ((∃ old, IsEnum h' (it + 1) it i old) ∧ h'.IsTupleIter it t i ∧ h'.IsTuple t items.toArray) ∧ J i m news ∧ i ≤ items.length ∧ m_1 = items.length + 1 - i := by
      rintro ⟨h₅, tk₅, m₅, news₅, rfl, F₅, N₅, hn₅, hJ₅⟩
      refine ⟨items.length + 1 - (i + 1), by omega, h₅, tk₅, m₅, news₅, i + 1, oe₃, oi₃, rfl, F₅, N₅, hn₅, ⟨roe₃ _ (N₅ _ (.head _)).1, tupit_at hit₃ fun o e => ?_, tuple_at ht fun o e => F₅.keep t o e⟩, hJ₅, hlt', rfl⟩
      rw [hoi₃] at e; cases e
      exact (N₅ _ (.tail _ (.head _))).1
    cases f with
    | ret v => exact h₃'.elim
    | brk => exact h₃'.elim
    | cont => exact fin h₃'
    | next => exact fin h₃'
  · have hin : i = items.length := by omega
    subst hin
    refine W.done _ _ _ hst fun h₁ tk₁ hk₁ => wpAny_execs_nil ?_
    obtain ⟨F₁, N₁⟩ := next h₁ fun c o q1 q2 e => hk₁ c o (by simp [q1, q2]) e
    exact done m news h₁ tk₁ hJ F₁ N₁
end
end
section
open PySem PySem.W PySem.Spec PySem.Calls PyProof.Rows
theorem tl_fn {x : Str} {r : Option Value} (e : fastLookup "function" x = some r) : typeLookup (.type "function") x = pure r := by rw [typeLookup_type, builtinLookup_eq_fast, e]
theorem tl_setattr : typeLookup (.type "function") "__setattr__" = pure (some (.builtin "object.__setattr__")) := tl_fn (by kernel_rfl)
theorem tl_applies : typeLookup (.type "function") (Str.ofString "applies_to") = pure none := tl_fn (by kernel_rfl)
theorem tl_allow : typeLookup (.type "function") (Str.ofString "allowance") = pure none := tl_fn (by kernel_rfl)
section
variable {prog : Program} {w : World} {A : Around} {E : Value → Shared → Prop} {s : Shared}
theorem slot_fn_setattr : Slot "function" "__setattr__" "object.__setattr__" :=
  .of (owner := "object") (n := "__setattr__") (by rw [typeLookup_type, builtinLookup_eq_fast]; kernel_rfl) (by decide +kernel) (by decide +kernel) (by decide +kernel)
    (by first | exact .inl (by decide +kernel) | exact .inr (by decide +kernel)) (by rw [isSubtype_type]; kernel_rfl)
theorem refuse_fn {f : Addr} {Q : Unit → Shared → Prop} (hT : s.TypeIs (.ref f) "function") (h : Q () s) : wpAny (model prog w) A (Builtin.ObjectAttr.refuseIfOverridden (.ref f) "__setattr__") Q E s := by
  unfold Builtin.ObjectAttr.refuseIfOverridden
  refine wpAny_bind (wpAny_typeOf hT ?_)
  refine wpAny_of_eq (a := ()) ?_ h
  kernel_rfl
theorem setattr_body {f : Addr} {fo : Obj} {fd : FuncData} {name : Str} {tk : Tok} {v : Value} {Q : PySem.Fin → Shared → Prop} (hf : s.heap.get? f = some fo) (hc : fo.cls = .type "function") (hdt : fo.data = .func fd) (hdi : fo.dict = none) (hn : typeLookup (.type "function") name = pure none)
    (h : Q (.done (.ret .none)) { s with heap := (((s.heap.push { cls := .type "dict", data := .dict #[] }).update f fun o => { o with dict := some s.heap.objs.size }).update s.heap.objs.size (Obj.putName name (PyData.keyHash w.params name) (.str name s.toks) v)), toks := s.toks + 1 }) :
    wpAny (model prog w) A (Builtin.«object.__setattr__» ⟨[.ref f, .str name tk, v], []⟩) Q E s := by
  have hT : s.TypeIs (.ref f) "function" := ⟨fo, hf, hc⟩
  have hlt : f < s.heap.objs.size := Heap.lt_size hf
  have hf1 : (s.heap.push { cls := .type "dict", data := .dict #[] }).get? f = some fo := Heap.get?_push_of_some _ hf
  have hd1 : (s.heap.push { cls := .type "dict", data := .dict #[] }).get? s.heap.objs.size = some { cls := .type "dict", data := .dict #[] } := Heap.get?_push_size _ rfl
  have hd2 : ((s.heap.push { cls := .type "dict", data := .dict #[] }).update f fun o => { o with dict := some s.heap.objs.size }).get? s.heap.objs.size = some { cls := .type "dict", data := .dict #[] } := (Heap.get?_update_ne _ _ _ _ (Nat.ne_of_gt hlt)).trans hd1
  have hd3 : (((s.heap.push { cls := .type "dict", data := .dict #[] }).update f fun o => { o with dict := some s.heap.objs.size }).update s.heap.objs.size (Obj.putName name (PyData.keyHash w.params name) (.str name s.toks) v)).get? s.heap.objs.size = some (Obj.putName name (PyData.keyHash w.params name) (.str name s.toks) v { cls := .type "dict", data := .dict #[] }) :=
    Heap.get?_update_self _ hd2 (by rw [putName_dict (es := [])]; rfl)
  unfold Builtin.«object.__setattr__»
  refine wpAny_bind (refuse_fn hT ?_)
  refine wpAny_bind (wpAny_pure ?_)
  refine wpAny_bind (wpAny_typeOf hT ?_)
  refine wpAny_bind (wpAny_of_eq hn ?_)
  refine wpAny_bind (wpAny_pure ?_)
  dsimp only
  unfold Builtin.ObjectAttr.storeInOwnDict
  refine wpAny_bind (wpAny_pure ?_)
  refine wpAny_bind ?_
  unfold Builtin.ObjectAttr.ownDictForStores instanceDict
  refine wpAny_bind (wpAny_loadPart hf ?_)
  rw [hc, hdi]
  dsimp only
  rw [if_neg (by decide +kernel), hdt]
  dsimp only
  refine wpAny_bind (wpAny_alloc ?_)
  refine wpAny_bind (wpAny_update hf1 ?_)
  unfold dictMade
  dsimp only
  rw [if_neg (by decide +kernel)]
  refine wpAny_pure ?_
  dsimp only
  unfold Builtin.ObjectAttr.storeInDict
  refine wpAny_bind (wpAny_pure (wpAny_bind ?_))
  unfold nsSet
  refine wpAny_bind (wpAny_bind (wpAny_askSetting (wpAny_pure (wpAny_bind (wpAny_mkText (wpAny_bind (wpAny_loadPart hd2 ?_)))))))
  dsimp only
  rw [if_neg (by rw [aRefKeyMayBeTheName_at]; simp)]
  refine wpAny_updatePart hd2 ?_
  unfold lookBehind
  refine wpAny_bind (wpAny_bind (wpAny_loadPart hd3 ?_))
  have e : (Obj.putName name (PyData.keyHash w.params name) (.str name s.toks) v { cls := .type "dict", data := .dict #[] }).data.pastItsLine = none := by
    rw [putName_dict (es := [])]
    rfl
  rw [e]
  exact wpAny_pure (wpAny_pure h)
theorem pastDict {es : List DictEntry} {n : Nat} (hz : es.length ≤ 1000) : (dictOf es n).data.pastItsLine = none := by
  exact pastItsLine_dict (by rw [List.size_toArray, sizeLine_eq]; omega)
/-- the same where the function has a dict -/
theorem setattr_body2 {f d : Addr} {fo : Obj} {es es' : List DictEntry} {n n' : Nat} {name : Str} {tk : Tok} {v : Value} {Q : PySem.Fin → Shared → Prop} (hf : s.heap.get? f = some fo) (hc : fo.cls = .type "function") (hdi : fo.dict = some d)
    (hd : s.heap.get? d = some (dictOf es n)) (hn : typeLookup (.type "function") name = pure none) (hl : (es.any (·.refKey)) = false)
    (e' : (putL name (PyData.keyHash w.params name) (.str name s.toks) v es, putN name es n) = (es', n')) (hz : es'.length ≤ 1000)
    (h : Q (.done (.ret .none)) { s with heap := s.heap.update d (Obj.putName name (PyData.keyHash w.params name) (.str name s.toks) v), toks := s.toks + 1 }) :
    wpAny (model prog w) A (Builtin.«object.__setattr__» ⟨[.ref f, .str name tk, v], []⟩) Q E s := by
  have hT : s.TypeIs (.ref f) "function" := ⟨fo, hf, hc⟩
  obtain ⟨e1, e2⟩ := Prod.mk.inj e'
  have hp : Obj.putName name (PyData.keyHash w.params name) (.str name s.toks) v (dictOf es n) = dictOf es' n' := by rw [putName_dict, e1, e2]
  have hd3 : (s.heap.update d (Obj.putName name (PyData.keyHash w.params name) (.str name s.toks) v)).get? d = some (dictOf es' n') :=
    hp ▸ Heap.get?_update_self _ hd (by rw [hp]; rfl)
  unfold Builtin.«object.__setattr__»
  refine wpAny_bind (refuse_fn hT ?_)
  refine wpAny_bind (wpAny_pure ?_)
  refine wpAny_bind (wpAny_typeOf hT ?_)
  refine wpAny_bind (wpAny_of_eq hn ?_)
  refine wpAny_bind (wpAny_pure ?_)
  dsimp only
  unfold Builtin.ObjectAttr.storeInOwnDict
  refine wpAny_bind (wpAny_pure ?_)
  refine wpAny_bind ?_
  unfold Builtin.ObjectAttr.ownDictForStores instanceDict
  refine wpAny_bind (wpAny_loadPart hf ?_)
  rw [hc, hdi]
  dsimp only
  refine wpAny_pure ?_
  dsimp only
  unfold Builtin.ObjectAttr.storeInDict
  refine wpAny_bind (wpAny_pure (wpAny_bind ?_))
  unfold nsSet
  refine wpAny_bind (wpAny_bind (wpAny_askSetting (wpAny_pure (wpAny_bind (wpAny_mkText (wpAny_bind (wpAny_loadPart hd ?_)))))))
  dsimp only
  rw [if_neg (by rw [aRefKeyMayBeTheName_at]; simp only [List.any_toArray, hl, Bool.and_false]; decide)]
  refine wpAny_updatePart hd ?_
  unfold lookBehind
  refine wpAny_bind (wpAny_bind (wpAny_loadPart hd3 ?_))
  have e : (dictOf es' n').data.pastItsLine = none := by
    exact pastDict hz
  rw [e]
  exact wpAny_pure (wpAny_pure h)
theorem fn_set {f : Addr} {name : Str} {v : Value} {Q : Unit → Shared → Prop} (hT : s.TypeIs (.ref f) "function")
    (h : wpAny (model prog w) A.in1 (Builtin.«object.__setattr__» ⟨[.ref f, .str name s.toks, v], []⟩) (fun fin s' => fin = .done (.ret .none) ∧ Q () s') E { s with toks := s.toks + 1 }) : wpAny (model prog w) A (setAttr (.ref f) name v) Q E s := by
  unfold setAttr
  refine wpAny_bind (wpAny_mkText ?_)
  refine wpAny_bind (wpAny_callSpecial?_slot (name := Str.ofString "__setattr__") hT slot_fn_setattr (wpAny_call_entry slot_fn_setattr hT F.entry_object_setattr ?_ (F.args_object_setattr_3 _ _ _)))
  refine wpAny_mono h (fun fin s' h' => ?_) fun _ _ e => e
  obtain ⟨rfl, hq⟩ := h'
  exact ⟨_, rfl, wpAny_pure hq⟩
theorem slot_fn_getattr : Slot "function" "__getattribute__" "object.__getattribute__" :=
  .of (owner := "object") (n := "__getattribute__") (by rw [typeLookup_type, builtinLookup_eq_fast]; kernel_rfl) (by decide +kernel) (by decide +kernel) (by decide +kernel)
    (by first | exact .inl (by decide +kernel) | exact .inr (by decide +kernel)) (by rw [isSubtype_type]; kernel_rfl)
theorem fn_get {f d : Addr} {fo : Obj} {es : List DictEntry} {n : Nat} {name : Str} {v : Value} {ex : Bool} {Q : Value → Shared → Prop} (hf : s.heap.get? f = some fo) (hc : fo.cls = .type "function") (hdt : ∃ fd, fo.data = .func fd) (hdi : fo.dict = some d)
    (hd : s.heap.get? d = some (dictOf es n)) (hn : typeLookup (.type "function") name = pure none) (hv : getL name es = some (some v)) (hh : handedIn v = true) (h : Q v { s with toks := s.toks + 1 }) : wpAny (model prog w) A (getAttr (.ref f) name ex) Q E s := by
  have hT : s.TypeIs (.ref f) "function" := ⟨fo, hf, hc⟩
  have hT' : Shared.TypeIs { s with toks := s.toks + 1 } (.ref f) "function" := ⟨fo, hf, hc⟩
  unfold getAttr
  refine wpAny_bind (wpAny_mkText ?_)
  unfold getAttrBy
  refine wpAny_holding ?_
  refine wpAny_bind (wpAny_typeOf hT' ?_)
  refine wpAny_bind (wpAny_of_eq slot_fn_getattr.lookup ?_)
  dsimp only
  rw [if_neg (by decide)]
  unfold getAttrByItsOwn
  refine wpAny_bind (wpAny_pure ?_)
  refine wpAny_bind (wpAny_attempt (wpAny_holding ?_))
  unfold callGetattribute
  rw [if_neg (by cases ex <;> decide)]
  unfold boundAndCalled
  refine wpAny_bind (wpAny_of_eq (slot_fn_getattr.bind _) ?_)
  refine wpAny_call_entry slot_fn_getattr hT' F.entry_object_getattribute ?_ (F.args_object_getattribute_2 _ _)
  unfold Builtin.«object.__getattribute__»
  have hns : ∀ (B : Around) (E' : Value → Shared → Prop) (Q' : Option Value → Shared → Prop), Q' (some v) { s with toks := s.toks + 1 } → wpAny (model prog w) B (nsGet d name) Q' E' { s with toks := s.toks + 1 } := by
    intro B E' Q' q
    unfold nsGet
    refine wpAny_bind (wpAny_loadPart hd ?_)
    rw [nsLook_eq]
    unfold nsLookByArray
    dsimp only
    rw [← Array.find?_toList]
    unfold getL at hv
    split at hv
    · rename_i en he
      rw [show es.toArray.toList = es from rfl, he]
      cases hv
      exact wpAny_pure q
    · split at hv <;> cases hv
  obtain ⟨fd, hdt⟩ := hdt
  refine wpAny_bind (wpAny_pure ?_)
  refine wpAny_bind (wpAny_pure ?_)
  refine wpAny_bind (wpAny_typeOf hT' ?_)
  refine wpAny_bind ?_
  unfold Builtin.ObjectAttr.find
  refine wpAny_bind (wpAny_of_eq hn ?_)
  refine wpAny_bind (wpAny_pure ?_)
  refine wpAny_bind (wpAny_pure ?_)
  dsimp only
  unfold Builtin.ObjectAttr.ownThenClass Builtin.ObjectAttr.inOwnDict
  refine wpAny_bind ?_
  dsimp only
  refine wpAny_bind ?_
  unfold Builtin.ObjectAttr.ownDict loadHead
  refine wpAny_bind (wpAny_loadPart hf ?_)
  rw [hdt]
  dsimp only
  unfold instanceDict
  refine wpAny_bind (wpAny_loadPart hf ?_)
  rw [hc, hdi]
  dsimp only
  refine wpAny_pure ?_
  unfold Builtin.ObjectAttr.inDict
  dsimp only
  refine hns _ _ _ ?_
  dsimp only
  refine wpAny_bind (wpAny_rule (wpAny_pure ?_))
  dsimp only
  refine wpAny_pure ⟨_, rfl, ?_⟩
  try dsimp only
  rw [handedOut_of hh]
  exact wpAny_pure h
theorem tl_getattr : typeLookup (.type "function") "__getattr__" = pure none := tl_fn (by kernel_rfl)
theorem fn_meth {f d : Addr} {fo : Obj} {es : List DictEntry} {n : Nat} {name : Str} {v : Value} {pl : Sem Bool} {Q : Value × List Value → Shared → Prop} (hf : s.heap.get? f = some fo) (hc : fo.cls = .type "function") (hdt : ∃ fd, fo.data = .func fd) (hdi : fo.dict = some d)
    (hd : s.heap.get? d = some (dictOf es n)) (hn : typeLookup (.type "function") name = pure none) (hv : getL name es = some (some v)) (hh : handedIn v = true) (h : Q (v, []) { s with toks := s.toks + 1 }) : wpAny (model prog w) A (getMethod (.ref f) name pl) Q E s := by
  have hT : s.TypeIs (.ref f) "function" := ⟨fo, hf, hc⟩
  unfold getMethod
  refine wpAny_bind (wpAny_specialOf (name := Str.ofString "__getattribute__") hT slot_fn_getattr.lookup ?_)
  dsimp only
  rw [if_neg (by decide +kernel)]
  refine wpAny_bind (wpAny_specialOf (name := Str.ofString "__getattr__") hT tl_getattr ?_)
  rw [if_neg (by decide)]
  refine wpAny_bind (wpAny_specialOf (name := name) hT hn ?_)
  dsimp only
  exact wpAny_bind (fn_get hf hc hdt hdi hd hn hv hh (wpAny_pure h))
end
end
section
open PySem PySem.W PySem.Spec PySem.Calls PyProof.Rows
def StaysBut (P : Addr) (h h' : Heap) : Prop := ∀ b o, b ≠ P → h.get? b = some o → h'.get? b = some o
/-- as Fn, but the table of code objects at 232 may grow -/
def FnT (w : World) (f : Addr) (vs : List Value) (nd nu : Nat) (Pre : Array Value → Heap → Prop) (Post : Array Value → Array Value → Heap → Heap → Value → Prop) : Prop :=
  ∀ (p : Program) (loose : List Str) (mean : ExcName → Option Value) (mg mb : Str → Option Value) (dp un : Nat) (gd : Option (List Code)) (cn : Str) (cs : Scope) (a : Addr) (ccd : Value) (cl : List (Str × Addr)) (outer : List Env)
    (A₀ : Around) (base h₀ : Heap) (L : Addr) (m : Str → Option Value) (s : Shared) (Q E : Value → Shared → Prop) (ps : Array Value),
    Below A₀ base outer h₀ → Fr h₀ L s.heap m → (Mine.hd.heap_39 w.params).In h₀ → Top p loose mean mg mb h₀ → CodeHd h₀ 236 232 → News h₀ L s.heap [(232, tabObj ps)] → cs.kind = .function →
    dp + nd < recursionLimit → un + nu < cLine → Pre ps s.heap →
    (∀ v h' tk' ps', StaysBut 232 s.heap h' → h'.get? 232 = some (tabObj ps') → Post ps ps' s.heap h' v → Q v { s with heap := h', toks := tk' }) →
    wpAny (model PG w) (ktrTop dp un gd cn cs L a ccd cl outer) (call (.ref f) vs) Q E s
def FnEndT (s : Shared) (g : Heap) (L : Addr) (Post : Array Value → Array Value → Heap → Heap → Value → Prop) (ps : Array Value) (v : Value) (s' : Shared) : Prop :=
  ∃ m tk h' ps', s' = { s with heap := h', toks := tk } ∧ Fr g L h' m ∧ h'.get? 232 = some (tabObj ps') ∧ Post ps ps' s.heap h' v
theorem FnEndT.mk {s : Shared} {g : Heap} {L : Addr} {Post : Array Value → Array Value → Heap → Heap → Value → Prop} {ps ps' : Array Value} {v : Value} {h' : Heap} {tk : Nat} {m : Str → Option Value}
    (F : Fr g L h' m) (h1 : h'.get? 232 = some (tabObj ps')) (p : Post ps ps' s.heap h' v) : FnEndT s g L Post ps v { s with heap := h', toks := tk } := ⟨m, tk, h', ps', rfl, F, h1, p⟩
def HasAll (h : Heap) (need : Led) : Prop := ∀ p ∈ need, h.get? p.1 = some p.2
/-- as Fn, where what is needed stands in the caller's ledger -/
def FnL (w : World) (f : Addr) (need : Led) (vs : List Value) (nd nu : Nat) (Pre : Heap → Prop) (Post : Heap → Heap → Value → Prop) : Prop :=
  ∀ (p : Program) (loose : List Str) (mean : ExcName → Option Value) (mg mb : Str → Option Value) (dp un : Nat) (gd : Option (List Code)) (cn : Str) (cs : Scope) (a : Addr) (ccd : Value) (cl : List (Str × Addr)) (outer : List Env)
    (A₀ : Around) (base h₀ : Heap) (L : Addr) (m : Str → Option Value) (s : Shared) (Q E : Value → Shared → Prop),
    Below A₀ base outer h₀ → Fr h₀ L s.heap m → (Mine.hd.heap_39 w.params).In h₀ → Top p loose mean mg mb h₀ → News h₀ L s.heap need → cs.kind = .function →
    dp + nd < recursionLimit → un + nu < cLine → Pre s.heap →
    (∀ v h' tk', s.heap.StaysIn h' → Post s.heap h' v → Q v { s with heap := h', toks := tk' }) →
    wpAny (model PG w) (ktrTop dp un gd cn cs L a ccd cl outer) (call (.ref f) vs) Q E s
def FnEndL (s : Shared) (g : Heap) (L : Addr) (need : Led) (Post : Heap → Heap → Value → Prop) (v : Value) (s' : Shared) : Prop :=
  ∃ m tk h', s' = { s with heap := h', toks := tk } ∧ Fr g L h' m ∧ HasAll h' need ∧ Post s.heap h' v
theorem FnEndL.mk {s : Shared} {g : Heap} {L : Addr} {need news : Led} {Post : Heap → Heap → Value → Prop} {v : Value} {h' : Heap} {tk : Nat} {m : Str → Option Value}
    (F : Fr g L h' m) (N : News g L h' news) (st : ∀ p ∈ need, p ∈ news) (p : Post s.heap h' v) : FnEndL s g L need Post v { s with heap := h', toks := tk } := ⟨m, tk, h', rfl, F, fun q hq => (N q (st q hq)).1, p⟩
section
variable {w : World} {A₀ A : Around} {s : Shared} {base h₀ : Heap} {outer : List Env} {env : Env} {L : Addr} {m : Str → Option Value} {p : Program} {loose : List Str} {mean : ExcName → Option Value} {mg mb : Str → Option Value}
  {Q E : Value → Shared → Prop} {Post : Array Value → Array Value → Heap → Heap → Value → Prop} {name qual : Str} {params : Arguments} {body : List Stmt} {scope : Scope} {dV kV doc pm cdv ct oc : Value} {an od : Option Addr} {osl : Array (Option Value)} {f : Addr} {args : List Value} {binds : List (Str × Value)}
theorem FnT.plain {nd nu : Nat} {Pre : Array Value → Heap → Prop}
    (ho : (Mine.hd.heap_39 w.params).lookup f = some ⟨oc, od, .func (fnOf name qual params body scope dV kV doc pm an cdv ct), osl⟩) (hcd : codeIn (Mine.hd.heap_39 w.params) cdv qual = true)
    (hnd : 1 ≤ nd) (hbind : ∀ s : Shared, BindsTo s (fnOf name qual params body scope dV kV doc pm an cdv ct) ⟨args, []⟩ binds) (hloc : ∀ y ∈ binds, scope.names.lookup y.1 = some .local)
    (h : ∀ (p : Program) (loose : List Str) (mean : ExcName → Option Value) (mg mb : Str → Option Value) (dp un : Nat) (gd : Option (List Code)) (env : Env) (outer : List Env) (base : Heap) (s : Shared) (ps : Array Value) (g : Heap) (L' : Addr) (h₁ : Heap),
      dp + nd < recursionLimit → un + nu < cLine → Pre ps s.heap → env.scope.kind = .function → (∀ b o, b ≠ 232 → s.heap.get? b = some o → g.get? b = some o) →
      Fr g L' h₁ (fun y => binds.reverse.lookup y) → News g L' h₁ [(232, tabObj ps)] → Below ({ handled := none, depth := dp, frames := some (env :: outer), guards := gd, units := un } : Around) base (env :: outer) g → (Mine.hd.heap_39 w.params).In g → Top p loose mean mg mb g → CodeHd g 236 232 →
      wpAny (model PG w) (({ handled := none, depth := dp, frames := some (env :: outer), guards := gd, units := un } : Around).deeper (envOf qual scope L' f cdv)) (execs body (envOf qual scope L' f cdv))
        (fun fl s' => FnEndT s g L' Post ps (match fl with | .ret v => v | _ => .none) s') (fun _ _ => False)
        { s with heap := h₁, toks := s.toks + binds.length })
    (hcell : ∀ x ∈ scope.names, x.2 ≠ .cell) (hco : scope.isCoroutine = false := by rfl) (hgen : scope.isGenerator = false := by rfl) (hk : scope.kind = .function := by rfl) :
    FnT w f args nd nu Pre Post := by
  intro p loose mean mg mb dp un gd cn cs a ccd cl outer A₀ base h₀ L m s Q E ps B F X T C N hks hd hu hpre hret
  refine wpAny_call ?_
  have X' := X.keeps F.keep
  have T' := T.keeps F.keep
  obtain ⟨FG, BG, st, -⟩ := groundX (R := fun _ _ => True) (A := ktrTop dp un gd cn cs L a ccd cl outer) (env := envX cn cs L a ccd cl) B F N rfl rfl hks
  refine codeAny_call_def (fd := fnOf name qual params body scope dV kV doc pm an cdv ct) (body := body) (binds := binds) (show dp < _ by omega) (X' _ _ ho) rfl T'.nolimit (codeRec_of X' hcd) rfl (hbind s) hcell hloc (fun h₁ hns hk₁ => ?_) hco hgen hk
  have hg : ∀ b o, b ≠ 232 → s.heap.get? b = some o → (hideAll s.heap (([(232, tabObj ps)] : List (Addr × Obj)).map (·.1))).get? b = some o := fun b o hb e => hideAll_get _ e (by simpa using hb)
  refine wpAny_mono (h p loose mean mg mb dp un gd _ outer base s ps _ s.heap.objs.size h₁ hd hu hpre hks hg ⟨hns, fun b o e => hk₁ b o (of_hideAll _ e), Nat.le_of_eq (hideAll_size _ _)⟩
    (fun q hq => ⟨hk₁ _ _ (N q hq).1, Nat.ne_of_lt (Heap.lt_size (N q hq).1), hideAll_none _ (List.mem_map_of_mem hq)⟩) BG (X.keeps st) (T.keeps st) (C.keeps st)) (fun fl s' he => ?_) fun _ _ x => x.elim
  obtain ⟨m', tk, h', ps', rfl, F', h1, hp⟩ := he
  exact hret _ h' tk ps' (fun b o hb e => F'.keep b o (hg b o hb e)) h1 hp
theorem FnL.plain {need : Led} {nd nu : Nat} {Pre : Heap → Prop} {Post : Heap → Heap → Value → Prop}
    (ho : (Mine.hd.heap_39 w.params).lookup f = some ⟨oc, od, .func (fnOf name qual params body scope dV kV doc pm an cdv ct), osl⟩) (hcd : codeIn (Mine.hd.heap_39 w.params) cdv qual = true)
    (hnd : 1 ≤ nd) (hbind : ∀ s : Shared, BindsTo s (fnOf name qual params body scope dV kV doc pm an cdv ct) ⟨args, []⟩ binds) (hloc : ∀ y ∈ binds, scope.names.lookup y.1 = some .local)
    (h : ∀ (p : Program) (loose : List Str) (mean : ExcName → Option Value) (mg mb : Str → Option Value) (dp un : Nat) (gd : Option (List Code)) (env : Env) (outer : List Env) (base : Heap) (s : Shared) (g : Heap) (L' : Addr) (h₁ : Heap),
      dp + nd < recursionLimit → un + nu < cLine → Pre s.heap → env.scope.kind = .function → (∀ b, (∀ p ∈ need, p.1 ≠ b) → g.get? b = s.heap.get? b) →
      Fr g L' h₁ (fun y => binds.reverse.lookup y) → News g L' h₁ need → Below ({ handled := none, depth := dp, frames := some (env :: outer), guards := gd, units := un } : Around) base (env :: outer) g → (Mine.hd.heap_39 w.params).In g → Top p loose mean mg mb g →
      wpAny (model PG w) (({ handled := none, depth := dp, frames := some (env :: outer), guards := gd, units := un } : Around).deeper (envOf qual scope L' f cdv)) (execs body (envOf qual scope L' f cdv))
        (fun fl s' => FnEndL s g L' need Post (match fl with | .ret v => v | _ => .none) s') (fun _ _ => False)
        { s with heap := h₁, toks := s.toks + binds.length })
    (hcell : ∀ x ∈ scope.names, x.2 ≠ .cell) (hco : scope.isCoroutine = false := by rfl) (hgen : scope.isGenerator = false := by rfl) (hk : scope.kind = .function := by rfl) :
    FnL w f need args nd nu Pre Post := by
  intro p loose mean mg mb dp un gd cn cs a ccd cl outer A₀ base h₀ L m s Q E B F X T N hks hd hu hpre hret
  refine wpAny_call ?_
  have X' := X.keeps F.keep
  have T' := T.keeps F.keep
  obtain ⟨FG, BG, st, -⟩ := groundX (R := fun _ _ => True) (A := ktrTop dp un gd cn cs L a ccd cl outer) (env := envX cn cs L a ccd cl) B F N rfl rfl hks
  refine codeAny_call_def (fd := fnOf name qual params body scope dV kV doc pm an cdv ct) (body := body) (binds := binds) (show dp < _ by omega) (X' _ _ ho) rfl T'.nolimit (codeRec_of X' hcd) rfl (hbind s) hcell hloc (fun h₁ hns hk₁ => ?_) hco hgen hk
  have hg' : ∀ b, (∀ p ∈ need, p.1 ≠ b) → (hideAll s.heap (need.map (·.1))).get? b = s.heap.get? b := fun b hb => by
    cases q : s.heap.get? b with
    | some o => exact hideAll_get _ q (by intro e; obtain ⟨p, hp, rfl⟩ := List.mem_map.mp e; exact hb p hp rfl)
    | none =>
      cases q2 : (hideAll s.heap (need.map (·.1))).get? b with
      | none => rfl
      | some o => have := of_hideAll _ q2; rw [q] at this; cases this
  refine wpAny_mono (h p loose mean mg mb dp un gd _ outer base s _ s.heap.objs.size h₁ hd hu hpre hks hg' ⟨hns, fun b o e => hk₁ b o (of_hideAll _ e), Nat.le_of_eq (hideAll_size _ _)⟩
    (fun q hq => ⟨hk₁ _ _ (N q hq).1, Nat.ne_of_lt (Heap.lt_size (N q hq).1), hideAll_none _ (List.mem_map_of_mem hq)⟩) BG (X.keeps st) (T.keeps st)) (fun fl s' he => ?_) fun _ _ x => x.elim
  obtain ⟨m', tk, h', rfl, F', hn, hp⟩ := he
  refine hret _ h' tk (fun b o e => ?_) hp
  by_cases hb : ∃ p ∈ need, p.1 = b
  · obtain ⟨p, hp, rfl⟩ := hb
    rw [hn p hp]
    rw [(N p hp).1] at e
    exact e
  · exact F'.keep b o (by rw [hg' b fun p hp hq => hb ⟨p, hp, hq⟩]; exact e)
theorem FnT.cells {nd nu : Nat} {Pre : Array Value → Heap → Prop}
    (ho : (Mine.hd.heap_39 w.params).lookup f = some ⟨oc, od, .func (fnOf name qual params body scope dV kV doc pm an cdv ct), osl⟩) (hcd : codeIn (Mine.hd.heap_39 w.params) cdv qual = true)
    (hnd : 1 ≤ nd) (hbind : ∀ s : Shared, BindsTo s (fnOf name qual params body scope dV kV doc pm an cdv ct) ⟨args, []⟩ binds) (hkind : (binds.all fun y => scope.names.lookup y.1 == some .local || scope.names.lookup y.1 == some .cell) = true)
    (hnod : ((cellsFrom 0 scope.names []).map (·.1)).Nodup)
    (h : ∀ (p : Program) (loose : List Str) (mean : ExcName → Option Value) (mg mb : Str → Option Value) (dp un : Nat) (gd : Option (List Code)) (env : Env) (outer : List Env) (base : Heap) (s : Shared) (ps : Array Value) (g : Heap) (L' : Addr) (h₁ : Heap) (tk : Nat) (cells : List (Addr × Obj)),
      dp + nd < recursionLimit → un + nu < cLine → Pre ps s.heap → env.scope.kind = .function → (∀ b o, b ≠ 232 → s.heap.get? b = some o → g.get? b = some o) →
      Fr g L' h₁ (bindL (envOfC qual scope L' f cdv).kindOf binds fun _ => none) → News g L' h₁ (cells ++ [(232, tabObj ps)]) → CellsAre (bindC (envOfC qual scope L' f cdv).kindOf binds fun _ => none) (cellsFrom (L' + 1) scope.names []) cells → @LT.lt Nat _ 232 L' →
      Below ({ handled := none, depth := dp, frames := some (env :: outer), guards := gd, units := un } : Around) base (env :: outer) g → (Mine.hd.heap_39 w.params).In g → Top p loose mean mg mb g → CodeHd g 236 232 →
      wpAny (model PG w) (({ handled := none, depth := dp, frames := some (env :: outer), guards := gd, units := un } : Around).deeper (envOfC qual scope L' f cdv)) (execs body (envOfC qual scope L' f cdv))
        (fun fl s' => FnEndT s g L' Post ps (match fl with | .ret v => v | _ => .none) s') (fun _ _ => False)
        { s with heap := h₁, toks := tk })
    (hco : scope.isCoroutine = false := by rfl) (hgen : scope.isGenerator = false := by rfl) (hk : scope.kind = .function := by rfl) :
    FnT w f args nd nu Pre Post := by
  intro p loose mean mg mb dp un gd cn cs a ccd cl outer A₀ base h₀ L m s Q E ps B F X T C N hks hd hu hpre hret
  refine wpAny_call ?_
  have X' := X.keeps F.keep
  have T' := T.keeps F.keep
  obtain ⟨FG, BG, st, -⟩ := groundX (R := fun _ _ => True) (A := ktrTop dp un gd cn cs L a ccd cl outer) (env := envX cn cs L a ccd cl) B F N rfl rfl hks
  have hg : ∀ b o, b ≠ 232 → s.heap.get? b = some o → (hideAll s.heap (([(232, tabObj ps)] : List (Addr × Obj)).map (·.1))).get? b = some o := fun b o hb e => hideAll_get _ e (by simpa using hb)
  refine codeAny_call_function (fd := fnOf name qual params body scope dV kV doc pm an cdv ct) (show dp < _ by omega) (X' _ _ ho) rfl hco hgen rfl (codeRec_of X' hcd) (hbind s _ _ _ _ ?_)
  refine wpAny_newFunctionEnv_cells hk (kindsX hkind _) fun env' he s' x => ?_
  subst he
  refine ⟨T'.nolimit.keeps x.toInCall.keep, codeAny_func ?_⟩
  obtain ⟨h₁, tk, rfl, _⟩ := x.done
  have hk₁ := x.toInCall.keep
  obtain ⟨cells, NC, Y⟩ := Cl.news (h₀ := s.heap) (Nat.le_refl _) fun n c hm => ⟨x.cell n c (lookup_of_mem_nodup (cellsFrom_names scope.names 0 (s.heap.objs.size + 1) [] [] rfl ▸ hnod) hm), x.above n c hm⟩
  have h232 : (232 : Nat) < s.heap.objs.size := Heap.lt_size (N _ (.head _)).1
  refine wpAny_mono (h p loose mean mg mb dp un gd _ outer base s ps _ s.heap.objs.size h₁ tk cells hd hu hpre hks hg ⟨x.toInCall.ns, fun b o e => hk₁ b o (of_hideAll _ e), Nat.le_of_eq (hideAll_size _ _)⟩ (fun q hq => ?_) Y h232 BG (X.keeps st) (T.keeps st) (C.keeps st)) (fun fl s' he => ?_) fun _ _ x => x.elim
  · rcases List.mem_append.mp hq with hq | hq
    · refine ⟨(NC q hq).1, (NC q hq).2.1, ?_⟩
      cases e : (hideAll s.heap (([(232, tabObj ps)] : List (Addr × Obj)).map (·.1))).get? q.1 with
      | none => rfl
      | some o => have := of_hideAll _ e; rw [(NC q hq).2.2] at this; cases this
    · exact ⟨hk₁ _ _ (N q hq).1, Nat.ne_of_lt (Heap.lt_size (N q hq).1), hideAll_none _ (List.mem_map_of_mem hq)⟩
  · obtain ⟨m', tk, h', ps', rfl, F', h1, hp⟩ := he
    exact hret _ h' tk ps' (fun b o hb e => F'.keep b o (hg b o hb e)) h1 hp
/-- attributes of a function, in the ledger -/
theorem fset1_K {prog : Program} {f : Addr} {fd : FuncData} {news : Led} {g : Obj → Led} {v : Value} {QU : Unit → Shared → Prop} {E : Value → Shared → Prop} (F : Fr h₀ L s.heap m) (N : News h₀ L s.heap news) (U : UpdF f { cls := .type "function", data := .func fd } news g) (hn : typeLookup (.type "function") name = pure none)
    (h : ∀ D h', Fr h₀ L h' m → News h₀ L h' ((D, dictOf [⟨PyData.keyHash w.params name, .str name (s.toks + 1), v⟩] 1) :: g { cls := .type "function", dict := some D, data := .func fd }) → (∀ q ∈ news, q.1 < D) → QU () { s with heap := h', toks := s.toks + 1 + 1 }) :
    wpAny (model prog w) A (setAttr (.ref f) name v) QU E s := by
  obtain ⟨pre, post, rfl, hgr, h1, h2⟩ := U.split
  have hm := N (f, { cls := .type "function", data := .func fd }) (List.mem_append_right _ (.head _))
  have hlt := Heap.lt_size hm.1
  refine fn_set ⟨_, hm.1, rfl⟩ (setattr_body hm.1 rfl rfl rfl hn ⟨rfl, ?_⟩)
  dsimp only
  have F1 := F.push { cls := .type "dict", data := .dict #[] }
  have N1 := N.push F { cls := .type "dict", data := .dict #[] }
  have hs2 : Heap.SameBut f (s.heap.push { cls := .type "dict", data := .dict #[] }) ((s.heap.push { cls := .type "dict", data := .dict #[] }).update f fun o => { o with dict := some s.heap.objs.size }) := Heap.SameBut.update ..
  have F2 := F1.change hs2 hm.2.1 hm.2.2
  have e2 : ((s.heap.push { cls := .type "dict", data := .dict #[] }).update f fun o => { o with dict := some s.heap.objs.size }).get? f = some { cls := .type "function", dict := some s.heap.objs.size, data := .func fd } :=
    Heap.get?_update_self _ (Heap.get?_push_of_some _ hm.1) rfl
  have N2 := news_set (pre := (s.heap.objs.size, { cls := .type "dict", data := .dict #[] }) :: pre) N1 (List.forall_mem_cons.mpr ⟨Nat.ne_of_gt hlt, h1⟩) h2 hs2 e2
  have hs3 : Heap.SameBut s.heap.objs.size _ (((s.heap.push { cls := .type "dict", data := .dict #[] }).update f fun o => { o with dict := some s.heap.objs.size }).update s.heap.objs.size (Obj.putName name (PyData.keyHash w.params name) (.str name (s.toks + 1)) v)) := Heap.SameBut.update ..
  have hD := N2 (s.heap.objs.size, { cls := .type "dict", data := .dict #[] }) (.head _)
  have hp : Obj.putName name (PyData.keyHash w.params name) (.str name (s.toks + 1)) v { cls := .type "dict", data := .dict #[] } = dictOf [⟨PyData.keyHash w.params name, .str name (s.toks + 1), v⟩] 1 := by rw [putName_dict (es := [])]; rfl
  have e3 := Heap.get?_update_self (Obj.putName name (PyData.keyHash w.params name) (.str name (s.toks + 1)) v) hD.1 (by rw [hp]; rfl)
  rw [hp] at e3
  have F3 := F2.change hs3 hD.2.1 hD.2.2
  have lts : ∀ q ∈ pre ++ (f, ({ cls := .type "function", data := .func fd } : Obj)) :: post, q.1 < s.heap.objs.size := fun q hq => Heap.lt_size (N q hq).1
  have N3 := news_set (pre := []) (post := pre ++ (f, { cls := .type "function", dict := some s.heap.objs.size, data := .func fd }) :: post) N2 (List.forall_mem_nil _) (fun q hq => by
    rcases List.mem_append.mp hq with hq | hq
    · exact Nat.ne_of_lt (lts q (List.mem_append_left _ hq))
    · rcases List.mem_cons.mp hq with rfl | hq
      · exact Nat.ne_of_lt hlt
      · exact Nat.ne_of_lt (lts q (List.mem_append_right _ (.tail _ hq)))) hs3 e3
  exact h _ _ F3 (by rw [hgr]; exact N3) lts
theorem fset2_K {prog : Program} {f d : Addr} {fd : FuncData} {news news' : Led} {es es' : List DictEntry} {n n' : Nat} {v : Value} {QU : Unit → Shared → Prop} {E : Value → Shared → Prop} (F : Fr h₀ L s.heap m) (N : News h₀ L s.heap news) (hf : (f, ({ cls := .type "function", dict := some d, data := .func fd } : Obj)) ∈ news) (_hd : (d, dictOf es n) ∈ news) (hn : typeLookup (.type "function") name = pure none)
    (hl : (es.any (·.refKey)) = false) (e : (putL name (PyData.keyHash w.params name) (.str name (s.toks + 1)) v es, putN name es n) = (es', n')) (hz : es'.length ≤ 1000) (U : Upd d (dictOf es n) (dictOf es' n') news news')
    (h : ∀ h', Fr h₀ L h' m → News h₀ L h' news' → QU () { s with heap := h', toks := s.toks + 1 + 1 }) :
    wpAny (model prog w) A (setAttr (.ref f) name v) QU E s := by
  obtain ⟨pre, post, rfl, rfl, h1, h2⟩ := U.split
  have hm := N (d, dictOf es n) (List.mem_append_right _ (.head _))
  obtain ⟨e1, e2⟩ := Prod.mk.inj e
  have hp : Obj.putName name (PyData.keyHash w.params name) (.str name (s.toks + 1)) v (dictOf es n) = dictOf es' n' := by rw [putName_dict, e1, e2]
  refine fn_set ⟨_, (N _ hf).1, rfl⟩ (setattr_body2 (s := { s with toks := s.toks + 1 }) (N _ hf).1 rfl rfl hm.1 hn hl e hz ⟨rfl, ?_⟩)
  obtain ⟨U1, U2⟩ := news_upd (f := Obj.putName name (PyData.keyHash w.params name) (.str name (s.toks + 1)) v) F N h1 h2 hp rfl
  exact h _ U1 U2
end
def ruleM (path way : Str) : Int := if (path == Str.ofString "/" || path == way || Txt.slice way none (some ((path.length : Int) + 1)) == path ++ Str.ofString "/") = true then (path.length : Int) + 1 else 0
def lamQual : Str := Str.ofString "_law_rule" ++ Str.ofString ".<locals>." ++ Str.ofString "<lambda>"
def CodeOk (oc : Obj) : Prop := ∃ vs tq, oc.data = .fields vs ∧ vs[1]? = some (.str lamQual tq)
def tabWith (c1 c2 : Addr) : Array Value := #[rawInt 209, rawInt 11, .ref c1, rawInt 210, rawInt 22, .ref c2]
def TabOk (ps : Array Value) (h : Heap) : Prop := ps = #[] ∨ ∃ c1 c2 oc2, ps = tabWith c1 c2 ∧ (@Ne Nat c2 232) ∧ h.get? c2 = some oc2 ∧ CodeOk oc2
theorem ruleM_in {path way : Str} (h : ([Str.ofString "/", way].any fun x => x == path) = true) : ruleM path way = (path.length : Int) + 1 := by
  unfold ruleM
  rw [if_pos]
  simp only [List.any_cons, List.any_nil, Bool.or_false, Bool.or_eq_true, beq_iff_eq] at h ⊢
  rcases h with h | h
  · exact .inl (.inl h.symm)
  · exact .inl (.inr h.symm)
theorem ruleM_under {path way : Str} (h : (Txt.slice way none (some ((path.length : Int) + 1)) == path ++ Str.ofString "/") = true) : ruleM path way = (path.length : Int) + 1 := by
  unfold ruleM
  rw [if_pos]
  rw [h, Bool.or_true]
theorem ruleM_out {path way : Str} (h0 : ([Str.ofString "/", way].any fun x => x == path) = false) (h : (Txt.slice way none (some ((path.length : Int) + 1)) == path ++ Str.ofString "/") = false) : ruleM path way = 0 := by
  unfold ruleM
  rw [if_neg]
  rw [h, Bool.or_false]
  simp only [List.any_cons, List.any_nil, Bool.or_false, Bool.or_eq_false_iff, beq_eq_false_iff_ne, ne_eq] at h0
  simp only [Bool.or_eq_true, beq_iff_eq, not_or]
  exact ⟨fun q => h0.1 q.symm, fun q => h0.2 q.symm⟩
/-- a call of the function object at gf, wherever what is needed stands, gives back what Post says -/
def LFn (w : World) (need : Led) (gf : Addr) (vs : List Value) (nd nu : Nat) (Post : Value → Prop) : Prop :=
  ∀ (p : Program) (loose : List Str) (mean : ExcName → Option Value) (mg mb : Str → Option Value) (dp un : Nat) (gd : Option (List Code)) (cn : Str) (cs : Scope) (a : Addr) (ccd : Value) (cl : List (Str × Addr)) (outer : List Env)
    (A₀ : Around) (base h₀ : Heap) (L : Addr) (m : Str → Option Value) (s : Shared) (Q E : Value → Shared → Prop),
    HasAll s.heap need → Below A₀ base outer h₀ → Fr h₀ L s.heap m → (Mine.hd.heap_39 w.params).In h₀ → Top p loose mean mg mb h₀ → cs.kind = .function →
    dp + nd < recursionLimit → un + nu < cLine →
    (∀ v h' tk', s.heap.StaysIn h' → Post v → Q v { s with heap := h', toks := tk' }) →
    wpAny (model PG w) (ktrTop dp un gd cn cs L a ccd cl outer) (call (.ref gf) vs) Q E s
def LamN (w : World) (need : Led) (gf : Addr) (path : Str) : Prop := ∀ (way : Str) (tw : Tok), way.length ≤ 100000 → LFn w need gf [.str way tw] 1 100 (fun v => ∃ t', v = .int (ruleM path way) t')
theorem LamN.more {w : World} {need need' : Led} {gf : Addr} {path : Str} (x : LamN w need gf path) (st : ∀ p ∈ need, p ∈ need') : LamN w need' gf path := fun way tw hw p loose mean mg mb dp un gd cn cs a ccd cl outer A₀ base h₀ L m s Q E st' =>
  x way tw hw p loose mean mg mb dp un gd cn cs a ccd cl outer A₀ base h₀ L m s Q E fun q hq => st' q (st q hq)
structure RuleAt (w : World) (need : Led) (f : Addr) (path : Str) (al : Bool) (fo go : Obj) (D gf : Addr) (es : List DictEntry) (n : Nat) : Prop where
  f : (f, fo) ∈ need
  c : fo.cls = .type "function"
  dt : ∃ fd, fo.data = .func fd
  di : fo.dict = some D
  d : (D, dictOf es n) ∈ need
  ap : getL (Str.ofString "applies_to") es = some (some (.ref gf))
  al : getL (Str.ofString "allowance") es = some (some (.bool al))
  g : (gf, go) ∈ need
  gd : ∃ fd, go.data = .func fd
  lam : LamN w need gf path
def RuleN (w : World) (need : Led) (f : Addr) (path : Str) (al : Bool) : Prop := ∃ fo go D gf es n, RuleAt w need f path al fo go D gf es n
theorem RuleN.more {w : World} {need need' : Led} {f : Addr} {path : Str} {al : Bool} (x : RuleN w need f path al) (st : ∀ p ∈ need, p ∈ need') : RuleN w need' f path al :=
  let ⟨fo, go, D, gf, es, n, x⟩ := x; ⟨fo, go, D, gf, es, n, st _ x.f, x.c, x.dt, x.di, st _ x.d, x.ap, x.al, st _ x.g, x.gd, x.lam.more st⟩
def Fresh (h h' : Heap) (own : Led) : Prop := ∀ p ∈ own, h.get? p.1 = none ∧ h'.get? p.1 = some p.2
def RulePost (w : World) (path : Str) (al : Bool) (ps ps' : Array Value) (h h' : Heap) (v : Value) : Prop :=
  ∃ f c1 c2 oc2 own, v = .ref f ∧ ps' = tabWith c1 c2 ∧ CodeOk oc2 ∧ h'.get? c2 = some oc2 ∧ (@Ne Nat c2 232) ∧ Fresh h h' own ∧ RuleN w ((c2, oc2) :: own) f path al ∧ ((ps = #[] ∧ h.get? c2 = none) ∨ ps = tabWith c1 c2)
section
variable {w : World} {A₀ A : Around} {s : Shared} {base h₀ : Heap} {outer : List Env} {env : Env} {L : Addr} {m : Str → Option Value} {p : Program} {loose : List Str} {mean : ExcName → Option Value} {mg mb : Str → Option Value}
  {Q E : Value → Shared → Prop} {Post : Value → Prop} {name qual : Str} {params : Arguments} {body : PySem.Expr} {scope : Scope} {cl : List (Str × Addr)} {pm ctv : Value} {c' gf : Addr} {args : List Value} {binds : List (Str × Value)}
theorem lam_enter (B : Below A₀ base outer h₀) (F : Fr h₀ L s.heap m) (X : (Mine.hd.heap_39 w.params).In h₀) (T : Top p loose mean mg mb h₀) (hA : A.frames = some (env :: outer)) (hf : env.frame = some L) (hke : env.scope.kind = .function)
    (hret : ∀ v h' tk', s.heap.StaysIn h' → Post v → Q v { s with heap := h', toks := tk' })
    (ho : s.heap.get? gf = some (kla_obj name qual params body scope cl pm c' ctv)) (hcd : s.heap.CodeRec (.ref c') qual) (hroom : A.depth < recursionLimit)
    (hbind : bindArgs (kla_fn name qual params body scope cl pm (.ref c') ctv) ⟨args, []⟩ = pure binds) (hloc : ∀ y ∈ binds, scope.names.lookup y.1 = some .local)
    (h : ∀ L' h₁, Fr s.heap L' h₁ (fun y => binds.reverse.lookup y) → News s.heap L' h₁ [] → Below A base (env :: outer) s.heap → (Mine.hd.heap_39 w.params).In s.heap → Top p loose mean mg mb s.heap →
      wpAny (model PG w) (A.deeper (envX qual scope L' gf (.ref c') cl)) (eval body (envX qual scope L' gf (.ref c') cl))
        (fun v s' => FnEnd s L' (fun _ _ v => Post v) v s') (fun _ _ => False)
        { s with heap := h₁, toks := s.toks + binds.length })
    (hcell : ∀ x ∈ scope.names, x.2 ≠ .cell) (hco : scope.isCoroutine = false := by rfl) (hgen : scope.isGenerator = false := by rfl) (hk : scope.kind = .function := by rfl) :
    wpAny (model PG w) A (call (.ref gf) args) Q E s := by
  refine wpAny_call ?_
  have T' := T.keeps F.keep
  refine kla_callFunE hroom ho rfl hco hgen rfl hcd ?_
  rw [hbind]
  refine wpAny_pure (wpAny_newFunctionEnv hcell hloc (fun h₁ hns hsb => ⟨T'.nolimit.fresh _ hsb, ?_⟩) hk)
  show codeAny _ _ (.expr body (envX qual scope s.heap.objs.size gf (.ref c') cl)) _ _
  have hk₁ : ∀ b o, s.heap.get? b = some o → h₁.get? b = some o := fun b o e => hsb.extBut b o (Nat.ne_of_lt (Heap.lt_size e)) (Heap.get?_push_of_some _ e)
  have B' := pushX B F hf hke
  refine kla_codeExpr (wpAny_mono (h s.heap.objs.size h₁ ⟨hns, hk₁, Nat.le_refl _⟩ News.nil ⟨hA, B'.stays, B'.frames⟩ (X.keeps F.keep) T') (fun v s' he => ?_) fun _ _ x => x.elim)
  obtain ⟨m', tk, h', rfl, F', hp⟩ := he
  exact hret _ h' tk F'.keep hp
theorem name_free {M : Model} {cn : Str} {cs : Scope} {a c : Addr} {ccd : Value} {x : Str} {pos : Pos} {o : Obj} {v : Value} (F : Fr h₀ L s.heap m) (hc : cl.lookup x = some c) (ho : h₀.get? c = some o) (hd : o.data = .cell (some v)) (h : Q v s)
    (hk : cs.kind = .function) (hx : (envX cn cs L a ccd cl).kindOf x = some .free) (hb : (x == ("__debug__" : Str)) = false) (hn : (x == ("__classdict__" : Str)) = false) :
    wpAny M A (eval (.Name x pos) (envX cn cs L a ccd cl)) Q E s := wpAny_Name (wpAny_loadName_free hk hx hc ⟨o, F.keep _ _ ho, hd⟩ h hn) hb
end
end
section
open PySem PySem.W PySem.Spec PySem.Calls PyProof.Rows
theorem news_sub {h₀ h : Heap} {L : Addr} {l l' : Led} (N : News h₀ L h l) (st : ∀ p ∈ l', p ∈ l) : News h₀ L h l' := fun p hp => N p (st p hp)
def NewAll (P : Led → Value → Prop) (h h' : Heap) (v : Value) : Prop := ∃ own, Fresh h h' own ∧ P own v
theorem fresh_news {h₀ h h' : Heap} {L : Addr} {m : Str → Option Value} {own news : Led} (F : Fr h₀ L h m) (N : News h₀ L h' news) (x : Fresh h h' own) : News h₀ L h' (own ++ news) := fun p hp => by
  rcases List.mem_append.mp hp with hp | hp
  · obtain ⟨oL, es, ep, hL, r⟩ := F.ns
    refine ⟨(x p hp).2, fun e => ?_, ?_⟩
    · have := (x p hp).1
      rw [e, hL] at this; cases this
    · cases q : h₀.get? p.1 with
      | none => rfl
      | some o => have := F.keep _ _ q; rw [(x p hp).1] at this; cases this
  · exact N p hp
theorem fresh_ne {h₀ h h' : Heap} {L : Addr} {own news : Led} (N : News h₀ L h news) (x : Fresh h h' own) : ∀ p ∈ own, ∀ q ∈ news, p.1 ≠ q.1 := fun p hp q hq e => by
  have := (x p hp).1
  rw [e, (N q hq).1] at this; cases this
section
variable {w : World} {A₀ : Around} {s : Shared} {base h₀ : Heap} {outer : List Env} {L : Addr} {m : Str → Option Value} {p : Program} {loose : List Str} {mean : ExcName → Option Value} {mg mb : Str → Option Value} {Q E : Value → Shared → Prop}
theorem Fn.useA {f : Addr} {vs : List Value} {nd nu : Nat} {Pre : Heap → Prop} {P : Led → Value → Prop} (C : Fn w f vs nd nu Pre (NewAll P))
    {dp un : Nat} {gd : Option (List Code)} {cn : Str} {cs : Scope} {a : Addr} {ccd : Value} {cl : List (Str × Addr)} {news : List (Addr × Obj)}
    (B : Below A₀ base outer h₀) (F : Fr h₀ L s.heap m) (X : (Mine.hd.heap_39 w.params).In h₀) (N : News h₀ L s.heap news) (T : Top p loose mean mg mb h₀) (hk : cs.kind = .function)
    (hd : dp + nd < recursionLimit) (hu : un + nu < cLine) (pre : Pre s.heap)
    (ret : ∀ v own h' tk', P own v → s.heap.StaysIn h' → Fr h₀ L h' m → News h₀ L h' (news ++ own) → (∀ p ∈ own, ∀ q ∈ news, p.1 ≠ q.1) → Q v { s with heap := h', toks := tk' }) :
    wpAny (model PG w) (ktrTop dp un gd cn cs L a ccd cl outer) (call (.ref f) vs) Q E s := by
  refine C.use B F X N T hk hd hu pre fun v h' tk' st hp F' N' => ?_
  obtain ⟨own, x, hP⟩ := hp
  exact ret v own h' tk' hP st F' (news_sub (fresh_news F N' x) fun q hq => List.mem_append.mpr (List.mem_append.mp hq).symm) (fresh_ne N x)
theorem FnL.use {f : Addr} {need : Led} {vs : List Value} {nd nu : Nat} {Pre : Heap → Prop} {Post : Heap → Heap → Value → Prop} (C : FnL w f need vs nd nu Pre Post)
    {dp un : Nat} {gd : Option (List Code)} {cn : Str} {cs : Scope} {a : Addr} {ccd : Value} {cl : List (Str × Addr)} {news : List (Addr × Obj)}
    (B : Below A₀ base outer h₀) (F : Fr h₀ L s.heap m) (X : (Mine.hd.heap_39 w.params).In h₀) (N : News h₀ L s.heap news) (T : Top p loose mean mg mb h₀) (hk : cs.kind = .function)
    (hd : dp + nd < recursionLimit) (hu : un + nu < cLine) (pre : Pre s.heap) (st : ∀ p ∈ need, p ∈ news)
    (ret : ∀ v h' tk', s.heap.StaysIn h' → Post s.heap h' v → Fr h₀ L h' m → News h₀ L h' news → Q v { s with heap := h', toks := tk' }) :
    wpAny (model PG w) (ktrTop dp un gd cn cs L a ccd cl outer) (call (.ref f) vs) Q E s := by
  refine C p loose mean mg mb dp un gd cn cs a ccd cl outer A₀ base h₀ L m s Q E B F X T (news_sub N st) hk hd hu pre fun v h' tk' st hp => ?_
  obtain ⟨oL, es, ep, hL, r⟩ := F.ns
  exact ret v h' tk' st hp ⟨⟨oL, es, ep, st _ _ hL, r⟩, fun b o e => st _ _ (F.keep b o e), F.above⟩ fun p hp => ⟨st _ _ (N p hp).1, (N p hp).2⟩
def TabIn (ps : Array Value) (more : Led) : Prop := ps = #[] ∨ ∃ c1 c2 oc2, ps = tabWith c1 c2 ∧ (@Ne Nat c2 232) ∧ (c2, oc2) ∈ more ∧ CodeOk oc2
theorem rule_use {path : Str} {t : Tok} {al : Bool} {ps : Array Value} (R : FnT w 237 [.str path t, .bool al] 1 100 TabOk (RulePost w path al))
    {dp un : Nat} {gd : Option (List Code)} {cn : Str} {cs : Scope} {a : Addr} {ccd : Value} {cl : List (Str × Addr)} {more : Led}
    (B : Below A₀ base outer h₀) (F : Fr h₀ L s.heap m) (X : (Mine.hd.heap_39 w.params).In h₀) (N : News h₀ L s.heap ((232, tabObj ps) :: more)) (hm : ∀ p ∈ more, p.1 ≠ 232) (T : Top p loose mean mg mb h₀) (C : CodeHd h₀ 236 232) (hk : cs.kind = .function)
    (hd : dp + 1 < recursionLimit) (hu : un + 100 < cLine) {keep : Led} (hkeep : ∀ p ∈ keep, p ∈ more) (pre : TabIn ps keep)
    (ret : ∀ f own ps' h' tk', Fr h₀ L h' m → News h₀ L h' ((232, tabObj ps') :: (own ++ more)) → (∀ p ∈ own, ∀ q ∈ (232, tabObj ps) :: more, p.1 ≠ q.1) → TabIn ps' (own ++ keep) → RuleN w (own ++ keep) f path al → Q (.ref f) { s with heap := h', toks := tk' }) :
    wpAny (model PG w) (ktrTop dp un gd cn cs L a ccd cl outer) (call (.ref 237) [.str path t, .bool al]) Q E s := by
  have N0 := N (232, tabObj ps) (.head _)
  refine R p loose mean mg mb dp un gd cn cs a ccd cl outer A₀ base h₀ L m s Q E ps B F X T C (fun q hq => N q (List.mem_cons.mpr (.inl (List.mem_singleton.mp hq)))) hk hd hu ?_ fun v h' tk' ps' st h1 hp => ?_
  · rcases pre with e | ⟨c1, c2, oc2, e, h2, hc, ok⟩
    · exact .inl e
    · exact .inr ⟨c1, c2, oc2, e, h2, (N _ (.tail _ (hkeep _ hc))).1, ok⟩
  obtain ⟨f, c1, c2, oc2, own, rfl, rfl, ok, hc2, hn2, fr, hr, hp⟩ := hp
  have F' : Fr h₀ L h' m := by
    obtain ⟨oL, es, ep, hL, r⟩ := F.ns
    exact ⟨⟨oL, es, ep, st _ _ (Ne.symm N0.2.1) hL, r⟩, fun b o e => st _ _ (fun q => by rw [q, N0.2.2] at e; cases e) (F.keep b o e), F.above⟩
  have Nm : News h₀ L h' more := fun q hq => ⟨st _ _ (hm q hq) (N q (.tail _ hq)).1, (N q (.tail _ hq)).2⟩
  have key : ∀ own' : Led, Fresh s.heap h' own' → (c2, oc2) ∈ own' ++ keep → (∀ q ∈ (c2, oc2) :: own, q ∈ own' ++ keep) → Q (.ref f) { s with heap := h', toks := tk' } := fun own' fr' hin hsub => by
    refine ret f own' _ h' tk' F' (fun q hq => ?_) (fresh_ne N fr') (.inr ⟨c1, c2, oc2, rfl, hn2, hin, ok⟩) (hr.more hsub)
    rcases List.mem_cons.mp hq with rfl | hq
    · exact ⟨h1, N0.2⟩
    · exact fresh_news F Nm fr' q hq
  rcases hp with ⟨rfl, hno⟩ | rfl
  · exact key ((c2, oc2) :: own) (List.forall_mem_cons.mpr ⟨⟨hno, hc2⟩, fr⟩) (.head _) fun q hq => List.mem_append_left _ hq
  · rcases pre with e | ⟨d1, d2, oc', e, h2', hc', ok'⟩
    · cases congrArg Array.size e
    · have e2 : c2 = d2 := by
        have h5 : (tabWith c1 c2)[5]? = (tabWith d1 d2)[5]? := by rw [e]
        exact Value.ref.inj (Option.some.inj h5)
      subst e2
      have e3 : oc' = oc2 := Option.some.inj (((Nm _ (hkeep _ hc')).1).symm.trans hc2)
      subst e3
      exact key own fr (List.mem_append_right _ hc') fun q hq => by
        rcases List.mem_cons.mp hq with rfl | hq
        · exact List.mem_append_right _ hc'
        · exact List.mem_append_left _ hq
end
def rowsD : List (List Str × List (Str × Bool)) :=
  [([Str.ofString "bot", Str.ofString "Fox"], [(Str.ofString "/a", true), (Str.ofString "/a/b", false), (Str.ofString "/s", false), (Str.ofString "/s", true), (Str.ofString "/d", true), (Str.ofString "/d", false)]),
   ([Str.ofString "*"], [(Str.ofString "/a/b", true), (Str.ofString "/", false)])]
inductive RRows (need : Led) : List Value → List (Str × Bool) → Prop
  | nil : RRows need [] []
  | cons {ta : Addr} {p : Str} {b : Bool} {t : Tok} {us : List Value} {rs : List (Str × Bool)} : (ta, ({ cls := .type "tuple", data := .seq #[.str p t, .bool b] } : Obj)) ∈ need → RRows need us rs → RRows need (.ref ta :: us) ((p, b) :: rs)
theorem RRows.more {need need' : Led} (st : ∀ p ∈ need, p ∈ need') : ∀ {us rs}, RRows need us rs → RRows need' us rs
  | _, _, .nil => .nil
  | _, _, .cons h x => .cons (st _ h) (x.more st)
theorem RRows.len {need : Led} : ∀ {us rs}, RRows need us rs → us.length = rs.length
  | _, _, .nil => rfl
  | _, _, .cons _ x => congrArg (· + 1) x.len
theorem RRows.at {need : Led} : ∀ {us rs} {i : Nat} {v : Value}, RRows need us rs → us[i]? = some v → ∃ ta p b t, v = .ref ta ∧ rs[i]? = some (p, b) ∧ (ta, ({ cls := .type "tuple", data := .seq #[.str p t, .bool b] } : Obj)) ∈ need
  | _, _, i, v, .nil, h => by cases h
  | _, _, 0, v, .cons (ta := ta) (p := p) (b := b) (t := t) hm x, h => ⟨ta, p, b, t, (Option.some.inj h).symm, rfl, hm⟩
  | _, _, i + 1, v, .cons hm x, h => x.at (i := i) h
structure RowAt (need : Led) (a nl ul : Addr) (vs us : List Value) (names : List Str) (rules : List (Str × Bool)) : Prop where
  t : (a, ({ cls := .type "tuple", data := .seq #[.ref nl, .ref ul] } : Obj)) ∈ need
  n : (nl, W.listOf vs.toArray 0) ∈ need
  ns : StrsAre vs names
  u : (ul, W.listOf us.toArray 0) ∈ need
  us : RRows need us rules
theorem RowAt.more {need need' : Led} {a nl ul : Addr} {vs us : List Value} {names : List Str} {rules : List (Str × Bool)} (st : ∀ p ∈ need, p ∈ need') (x : RowAt need a nl ul vs us names rules) : RowAt need' a nl ul vs us names rules := ⟨st _ x.t, st _ x.n, x.ns, st _ x.u, x.us.more st⟩
def RowN (need : Led) (a : Addr) (row : List Str × List (Str × Bool)) : Prop := ∃ nl ul vs us, RowAt need a nl ul vs us row.1 row.2
theorem RowN.more {need need' : Led} {a : Addr} {row : List Str × List (Str × Bool)} (st : ∀ p ∈ need, p ∈ need') (x : RowN need a row) : RowN need' a row := let ⟨nl, ul, vs, us, x⟩ := x; ⟨nl, ul, vs, us, x.more st⟩
def RulesTab (own : Led) (v : Value) : Prop := ∃ R r0 r1, v = .ref R ∧ (R, W.listOf #[.ref r0, .ref r1] 0) ∈ own ∧ RowN own r0 rowsD[0] ∧ RowN own r1 rowsD[1]
inductive RulesN (w : World) (need : Led) : List Value → List (Str × Bool) → Prop
  | nil : RulesN w need [] []
  | snoc {us : List Value} {rs : List (Str × Bool)} {f : Addr} {p : Str} {b : Bool} : RulesN w need us rs → RuleN w need f p b → RulesN w need (us ++ [.ref f]) (rs ++ [(p, b)])
theorem RulesN.more {w : World} {need need' : Led} (st : ∀ p ∈ need, p ∈ need') {us rs} (x : RulesN w need us rs) : RulesN w need' us rs := by
  induction x with
  | nil => exact .nil
  | snoc _ h ih => exact .snoc ih (h.more st)
theorem RulesN.len {w : World} {need : Led} {us rs} (x : RulesN w need us rs) : us.length = rs.length := by
  induction x with
  | nil => rfl
  | snoc _ h ih => simp only [List.length_append, List.length_cons, List.length_nil, ih]
theorem RulesN.at {w : World} {need : Led} {us rs} (x : RulesN w need us rs) : ∀ {i : Nat} {v : Value}, us[i]? = some v → ∃ f p b, v = .ref f ∧ rs[i]? = some (p, b) ∧ RuleN w need f p b := by
  induction x with
  | nil => intro i v h; cases h
  | @snoc us rs f p b x h ih =>
    intro i v hv
    by_cases hi : i < us.length
    · rw [List.getElem?_append_left hi] at hv
      obtain ⟨f, p, b, e1, e2, e3⟩ := ih hv
      exact ⟨f, p, b, e1, by rw [List.getElem?_append_left (x.len ▸ hi)]; exact e2, e3⟩
    · have hi' : us.length ≤ i := by omega
      rw [List.getElem?_append_right hi'] at hv
      have h0 : i - us.length = 0 := by
        cases q : i - us.length with
        | zero => rfl
        | succ n => rw [q] at hv; cases hv
      rw [h0] at hv
      refine ⟨f, p, b, (Option.some.inj hv).symm, ?_, h⟩
      rw [List.getElem?_append_right (x.len ▸ hi'), ← x.len, h0]; rfl
theorem led_re {a : Addr × Obj} {l own r : Led} : ∀ p ∈ l ++ a :: (own ++ r), p ∈ a :: (own ++ (l ++ r)) := fun p hp => by
  simp only [List.mem_append, List.mem_cons] at hp ⊢
  rcases hp with h | h | h | h
  · exact .inr (.inr (.inl h))
  · exact .inl h
  · exact .inr (.inl h)
  · exact .inr (.inr (.inr h))
theorem off_app {own r : Led} {c : Addr} (h1 : ∀ p ∈ own, p.1 ≠ c) (h2 : ∀ p ∈ r, p.1 ≠ c) : ∀ p ∈ own ++ r, p.1 ≠ c := fun p hp => (List.mem_append.mp hp).elim (h1 p) (h2 p)
theorem TabIn.more {ps : Array Value} {l l' : Led} (st : ∀ p ∈ l, p ∈ l') (x : TabIn ps l) : TabIn ps l' := x.imp id fun ⟨c1, c2, oc2, e, h2, hc, ok⟩ => ⟨c1, c2, oc2, e, h2, st _ hc, ok⟩
def hitsName (h z : Str) : Bool := (z != Str.ofString "*") && !(Builtin.Str.occurrences h (Txt.lower z) 0 h.length 1).isEmpty
def calledB (names : List Str) (ag : Str) : Bool := names.any (hitsName (Txt.lower ((Txt.split ag (Str.ofString "/")).headD (Str.ofString ""))))
theorem any_take {names : List Str} {f : Str → Bool} {j : Nat} {z : Str} (h : names[j]? = some z) (h0 : (names.take j).any f = false) (hz : f z = false) : (names.take (j + 1)).any f = false := by
  rw [List.take_add_one, h, List.any_append, h0]
  simp [hz]
theorem any_at {names : List Str} {f : Str → Bool} {j : Nat} {z : Str} (h : names[j]? = some z) (hz : f z = true) : names.any f = true := List.any_eq_true.mpr ⟨z, List.mem_of_getElem? h, hz⟩
def allowStep (way : Str) (x : Int × Bool) (r : Str × Bool) : Int × Bool := if ruleM r.1 way = 0 then x else if x.1 < ruleM r.1 way then (ruleM r.1 way, r.2) else if ruleM r.1 way = x.1 ∧ x.2 = false then (x.1, r.2) else x
def allowB (rules : List (Str × Bool)) (way : Str) : Bool := (rules.foldl (allowStep way) (-1, true)).2
theorem fold_take {way : Str} {rules : List (Str × Bool)} {j : Nat} {r : Str × Bool} (h : rules[j]? = some r) (z : Int × Bool) : (rules.take (j + 1)).foldl (allowStep way) z = allowStep way ((rules.take j).foldl (allowStep way) z) r := by
  rw [List.take_add_one, h, List.foldl_append]; rfl
theorem fnat_of {h₀ h : Heap} {L q : Addr} {o : Obj} {news : Led} (N : News h₀ L h news) (hm : (q, o) ∈ news) (hd : ∃ fd, o.data = .func fd) : FnAt q h := by
  obtain ⟨oc, od, dt, sl⟩ := o
  obtain ⟨fd, rfl⟩ := hd
  exact ⟨oc, od, fd, sl, (N _ hm).1⟩
theorem LFn.use {w : World} {A₀ : Around} {s : Shared} {base h₀ : Heap} {outer : List Env} {L : Addr} {m : Str → Option Value} {p : Program} {loose : List Str} {mean : ExcName → Option Value} {mg mb : Str → Option Value} {Q E : Value → Shared → Prop}
    {need : Led} {gf : Addr} {vs : List Value} {nd nu : Nat} {Post : Value → Prop} (C : LFn w need gf vs nd nu Post)
    {dp un : Nat} {gd : Option (List Code)} {cn : Str} {cs : Scope} {a : Addr} {ccd : Value} {cl : List (Str × Addr)} {news : List (Addr × Obj)}
    (B : Below A₀ base outer h₀) (F : Fr h₀ L s.heap m) (X : (Mine.hd.heap_39 w.params).In h₀) (N : News h₀ L s.heap news) (T : Top p loose mean mg mb h₀) (hk : cs.kind = .function)
    (hd : dp + nd < recursionLimit) (hu : un + nu < cLine) (st : ∀ p ∈ need, p ∈ news)
    (ret : ∀ v h' tk', Post v → Fr h₀ L h' m → News h₀ L h' news → Q v { s with heap := h', toks := tk' }) :
    wpAny (model PG w) (ktrTop dp un gd cn cs L a ccd cl outer) (call (.ref gf) vs) Q E s := by
  refine C p loose mean mg mb dp un gd cn cs a ccd cl outer A₀ base h₀ L m s Q E (fun q hq => (N q (st q hq)).1) B F X T hk hd hu fun v h' tk' st hp => ?_
  obtain ⟨oL, es, ep, hL, r⟩ := F.ns
  exact ret v h' tk' hp ⟨⟨oL, es, ep, st _ _ hL, r⟩, fun b o e => st _ _ (F.keep b o e), F.above⟩ fun p hp => ⟨st _ _ (N p hp).1, (N p hp).2⟩
theorem allLt_mem {d : Nat} : ∀ {l : Led}, AllLt d l → ∀ p ∈ l, @LT.lt Nat _ p.1 d
  | [], _, p, hp => by cases hp
  | q :: l, h, p, hp => by
    rcases List.mem_cons.mp hp with rfl | hp
    · exact h.1
    · exact allLt_mem h.2 p hp
theorem strs_at {vs : List Value} {ss : List Str} (h : StrsAre vs ss) : ∀ {i : Nat} {v : Value}, vs[i]? = some v → ∃ y t, v = .str y t ∧ ss[i]? = some y := by
  induction h with
  | nil => intro i v h; cases h
  | cons y t r ih =>
    intro i v h
    cases i with
    | zero => exact ⟨y, t, (Option.some.inj h).symm, rfl⟩
    | succ i => exact ih h
theorem take_snoc {α : Type} {l : List α} {i : Nat} {v : α} (h : l[i]? = some v) : l.take (i + 1) = l.take i ++ [v] := by rw [List.take_add_one, h]; rfl
theorem named4 {g h : Heap} {L : Addr} {x d ua rl : Addr} {es : List DictEntry} {tl : Led} (_N : News g L h ((rl, W.listOf #[] 0) :: (ua, W.listOf #[] 0) :: (x, instObj 59 d) :: (d, dictOf es 4) :: tl)) {G : Prop}
    (k : ∀ x' d' ua' rl' es', x' = x → d' = d → ua' = ua → rl' = rl → es' = es → G) : G := k _ _ _ _ _ rfl rfl rfl rfl rfl
structure RecAt (w : World) (need : Led) (x d ua rl : Addr) (es : List DictEntry) (vs us : List Value) (ep eq : Nat) (names : List Str) (rules : List (Str × Bool)) : Prop where
  x : (x, instObj 59 d) ∈ need
  d : (d, dictOf es 4) ∈ need
  gu : getL (Str.ofString "useragents") es = some (some (.ref ua))
  gr : getL (Str.ofString "rulelines") es = some (some (.ref rl))
  ga : getL (Str.ofString "applies_to") es = some none
  gl : getL (Str.ofString "allowance") es = some none
  u : (ua, W.listOf vs.toArray ep) ∈ need
  sa : StrsAre vs names
  r : (rl, W.listOf us.toArray eq) ∈ need
  rs : RulesN w need us rules
def RecN (w : World) (need : Led) (x : Addr) (row : List Str × List (Str × Bool)) : Prop := ∃ d ua rl es vs us ep eq, RecAt w need x d ua rl es vs us ep eq row.1 row.2
theorem RecN.more {w : World} {need need' : Led} {x : Addr} {row : List Str × List (Str × Bool)} (st : ∀ p ∈ need, p ∈ need') (r : RecN w need x row) : RecN w need' x row :=
  let ⟨d, ua, rl, es, vs, us, ep, eq, r⟩ := r; ⟨d, ua, rl, es, vs, us, ep, eq, st _ r.x, st _ r.d, r.gu, r.gr, r.ga, r.gl, st _ r.u, r.sa, st _ r.r, r.rs.more st⟩
inductive RecsN (w : World) (need : Led) : List Value → List (List Str × List (Str × Bool)) → Prop
  | nil : RecsN w need [] []
  | snoc {us rs} {x : Addr} {row} : RecsN w need us rs → RecN w need x row → RecsN w need (us ++ [.ref x]) (rs ++ [row])
theorem RecsN.more {w : World} {need need' : Led} (st : ∀ p ∈ need, p ∈ need') {us rs} (x : RecsN w need us rs) : RecsN w need' us rs := by
  induction x with
  | nil => exact .nil
  | snoc _ h ih => exact .snoc ih (h.more st)
theorem RecsN.len {w : World} {need : Led} {us rs} (x : RecsN w need us rs) : us.length = rs.length := by
  induction x with
  | nil => rfl
  | snoc _ h ih => simp only [List.length_append, List.length_cons, List.length_nil, ih]
def RecsPost (w : World) (_ps _ps' : Array Value) (h h' : Heap) (v : Value) : Prop := ∃ K ks ep need, v = .ref K ∧ (K, W.listOf ks.toArray ep) ∈ need ∧ RecsN w need ks rowsD ∧ Fresh h h' need ∧ (∀ p ∈ need, p.1 ≠ 232)
theorem rowsD_small {i : Nat} {row : List Str × List (Str × Bool)} (h : rowsD[i]? = some row) : row.1.length ≤ 10 ∧ row.2.length ≤ 10 ∧ ∀ p ∈ row.2, p.1.length ≤ 100 := by
  match i, h with
  | 0, h => cases h; decide
  | 1, h => cases h; decide
  | n + 2, h => cases h
end
section
open PySem PySem.W PySem.Spec PySem.Calls PyProof.Rows
def WhEnd (h₀ : Heap) (L : Addr) (s : Shared) (n : Nat) (J : Nat → (Str → Option Value) → Led → Prop) (s₃ : Shared) : Prop :=
  ∃ k h' tk' m' news', k < n ∧ s₃ = { s with heap := h', toks := tk' } ∧ Fr h₀ L h' m' ∧ News h₀ L h' news' ∧ J k m' news'
def WhPost (h₀ : Heap) (L : Addr) (s : Shared) (n : Nat) (J : Nat → (Str → Option Value) → Led → Prop) (Q : Flow → Shared → Prop) (f : Flow) (s₃ : Shared) : Prop :=
  match f with
  | .next => WhEnd h₀ L s n J s₃
  | .cont => WhEnd h₀ L s n J s₃
  | .brk => Q .next s₃
  | .ret v => Q (.ret v) s₃
section
variable {prog : Program} {w : World} {A : Around} {E : Value → Shared → Prop} {s : Shared} {h₀ : Heap} {env : Env} {test : PySem.Expr} {body orelse : List Stmt} {pos : Pos} {Q : Flow → Shared → Prop}
theorem WhEnd.mk {L : Addr} {n k : Nat} {J : Nat → (Str → Option Value) → Led → Prop} {h' : Heap} {tk' : Nat} {m' : Str → Option Value} {news' : Led}
    (F : Fr h₀ L h' m') (N : News h₀ L h' news') (hk : k < n) (hJ : J k m' news') : WhEnd h₀ L s n J { s with heap := h', toks := tk' } := ⟨k, h', tk', m', news', hk, rfl, F, N, hJ⟩
/-- where a while stands -/
def WhileAt (prog : Program) (w : World) (A : Around) (test : PySem.Expr) (body orelse : List Stmt) (pos : Pos) (env : Env) (Q : Flow → Shared → Prop) (E : Value → Shared → Prop) (s : Shared) : Prop := wpAny (model prog w) A (exec (.While test body orelse pos) env) Q E s
theorem while_stop (h : WhileAt prog w A test body orelse pos env Q E s) : wpAny (model prog w) A (exec (.While test body orelse pos) env) Q E s := h
theorem while_loop {L : Addr} {m₀ : Str → Option Value} {news₀ : Led} (J : Nat → (Str → Option Value) → Led → Prop) (n₀ : Nat)
    (F : Fr h₀ L s.heap m₀) (N : News h₀ L s.heap news₀) (h0 : J n₀ m₀ news₀)
    (turn : ∀ n m news h tk, J n m news → Fr h₀ L h m → News h₀ L h news →
      wpAny (model prog w) A (isTrue test env (eval test env)) (fun b s₂ => if b then wpAny (model prog w) A (execs body env) (WhPost h₀ L s n J Q) E s₂ else wpAny (model prog w) A (execs orelse env) Q E s₂) E { s with heap := h, toks := tk })
    (hE : PassesOwn (model prog w) A env E) :
    WhileAt prog w A test body orelse pos env Q E s := by
  unfold WhileAt
  refine wpAny_While (codeAny_whileLoop (fun n s' => ∃ h' tk m news, s' = { s with heap := h', toks := tk } ∧ Fr h₀ L h' m ∧ News h₀ L h' news ∧ J n m news) ?_ n₀ ⟨s.heap, s.toks, m₀, news₀, rfl, F, N, h0⟩)
  rintro n s' ⟨h', tk, m, news, rfl, F', N', hJ⟩
  refine wpAny_passesOwn hE (wpAny_mono (turn n m news h' tk hJ F' N') (fun b s₂ h₂ => ?_) fun _ _ e => e)
  cases b with
  | false =>
    simp only [Bool.false_eq_true, if_false] at h₂ ⊢
    exact wpAny_passesOwn hE h₂
  | true =>
    simp only [if_true] at h₂ ⊢
    refine wpAny_passesOwn hE (wpAny_mono h₂ (fun f s₃ h₃ => ?_) fun _ _ e => e)
    cases f with
    | ret v => exact h₃
    | brk => exact h₃
    | cont =>
      obtain ⟨k, h₃', tk₃, m₂, news₂, hk, rfl, F₃, N₃, hJ₃⟩ := h₃
      exact ⟨k, hk, h₃', tk₃, m₂, news₂, rfl, F₃, N₃, hJ₃⟩
    | next =>
      obtain ⟨k, h₃', tk₃, m₂, news₂, hk, rfl, F₃, N₃, hJ₃⟩ := h₃
      exact ⟨k, hk, h₃', tk₃, m₂, news₂, rfl, F₃, N₃, hJ₃⟩
end
section
variable {prog : Program} {w : World} {A : Around} {E : Value → Shared → Prop} {s : Shared} {h₀ : Heap} {L D : Addr} {news : Led} {n : Nat} {u : Tok} {vs : List Value} {k : Int} {v : Value}
theorem item_ls {value slice : PySem.Expr} {Q : Value → Shared → Prop} (N : News h₀ L s.heap news) (hm : (D, W.listOf vs.toArray n) ∈ news) (h0 : 0 ≤ k) (hx : vs[k.toNat]? = some v) (hfit : k < 2 ^ 63) (h : Q v s)
    (hs : subscripted slice false (.ref D) (.int k u) = operate [.ref D, .int k u] (getItem (.ref D) (.int k u))) :
    wpAny (model prog w) A (subscriptTail value slice (.ref D) (.int k u)) Q E s := by
  have hl := PySem.IsL.isList (n := n) (N _ hm).1
  exact tail_any hl.typeIs slot_list_getitem.lookup (wpAny_getItem_list hl h0 hfit (by simpa using hx) h) hs
end
end
section
open PySem PySem.W PySem.Spec PySem.Calls PyProof.Rows
structure SiteIs (x : Str) (n : Int) : Prop where
  h : siteF x = some n
def siteModes : List Int := [16877, 16841, 17405, 33188, 35232, 33156, 17406, 33206]
abbrev sg (n : Int) (k : Int) : Str := Txt.item (modeOf n) k
/-- not in 'xt' -/
def badB (n : Int) : Bool := !(!(Builtin.Str.occurrences (Str.ofString "xt") (sg n 9) 0 (Str.ofString "xt").length 1).isEmpty)
def upTab : List (Str × Nat × Bool) := [(Str.ofString "/", 0, false), (Str.ofString "/a", 1, false), (Str.ofString "/a/b", 2, false), (Str.ofString "/a/b/f", 3, false), (Str.ofString "/a/x", 2, false), (Str.ofString "/s", 1, false), (Str.ofString "/s/f", 2, false), (Str.ofString "/d", 1, false), (Str.ofString "/d/g", 2, true)]
def depthT (x : Str) : Nat := ((upTab.lookup x).getD (0, false)).1
def shutT (x : Str) : Bool := ((upTab.lookup x).getD (0, false)).2
theorem modes_range : ∀ n ∈ siteModes, 0 ≤ n ∧ n < 65536 := by decide
theorem modes_len : ∀ n ∈ siteModes, (modeOf n).length = 10 := by decide +kernel
theorem lookup_mem {α β : Type} [BEq α] [LawfulBEq α] {l : List (α × β)} {x : α} {y : β} (h : l.lookup x = some y) : (x, y) ∈ l := by
  induction l with
  | nil => cases h
  | cons p l ih =>
    rw [List.lookup_cons] at h
    by_cases q : x == p.1
    · rw [q] at h
      have e1 := eq_of_beq q
      have e2 := Option.some.inj h
      subst e1 e2
      exact .head _
    · simp only [Bool.not_eq_true] at q
      rw [q] at h
      exact .tail _ (ih h)
theorem site_modes {x : Str} {n : Int} (h : siteF x = some n) : n ∈ siteModes := by
  have h1 := lookup_mem (l := siteTab) h
  have q : ∀ p ∈ siteTab, p.2 ∈ siteModes := by decide +kernel
  exact q _ h1
def UpOk (p : Str × Int) : Bool := (p.1.length ≤ 10) && (if p.1 != dirOf p.1 then (match siteF (dirOf p.1) with
  | some n => (decide (depthT (dirOf p.1) < depthT p.1)) && (if badB n then shutT p.1 else shutT p.1 == shutT (dirOf p.1))
  | none => false) else !(shutT p.1))
theorem up_ok : ∀ p ∈ siteTab, UpOk p = true := by decide +kernel
theorem site_len {x : Str} {n : Int} (h : siteF x = some n) : x.length ≤ 1000 := by
  have q := up_ok _ (lookup_mem (l := siteTab) h)
  unfold UpOk at q
  rw [Bool.and_eq_true] at q
  have := of_decide_eq_true q.1
  exact Nat.le_trans this (by decide)
theorem up_top {x : Str} {n : Int} (h : siteF x = some n) (e : (x != dirOf x) = false) : shutT x = false := by
  have q := up_ok _ (lookup_mem (l := siteTab) h)
  unfold UpOk at q
  rw [Bool.and_eq_true] at q
  have q := q.2
  dsimp only at q
  rw [e] at q
  simpa using q
theorem up_next {x : Str} {n : Int} (h : siteF x = some n) (e : (x != dirOf x) = true) : ∃ n', siteF (dirOf x) = some n' ∧ depthT (dirOf x) < depthT x ∧ (badB n' = true → shutT x = true) ∧ (badB n' = false → shutT x = shutT (dirOf x)) := by
  have q := up_ok _ (lookup_mem (l := siteTab) h)
  unfold UpOk at q
  rw [Bool.and_eq_true] at q
  have q := q.2
  dsimp only at q
  rw [e] at q
  simp only [if_true] at q
  cases hn : siteF (dirOf x) with
  | none => rw [hn] at q; cases q
  | some n' =>
    rw [hn] at q
    simp only [Bool.and_eq_true, decide_eq_true_eq] at q
    refine ⟨n', rfl, q.1, fun hb => ?_, fun hb => ?_⟩
    · have q2 := q.2; rw [hb] at q2; simpa using q2
    · have q2 := q.2; rw [hb] at q2; simpa using q2
/-- the answer at a place -/
def placeT (x : Str) (n : Int) : Str := if shutT x = true then Str.ofString "shut" else if (sg n 7 != Str.ofString "r") = true then Str.ofString "shut" else if sg n 0 = Str.ofString "-" then Str.ofString "file" else Str.ofString "folder"
theorem first_sign : ∀ n ∈ siteModes, sg n 0 = Str.ofString "-" ∨ sg n 0 = Str.ofString "d" := by decide +kernel
end
section
open PySem PySem.W PySem.Spec PySem.Calls PyProof.Rows PyProof.Rows.LCg
/-- what an iterator of n items does (tokens may be drawn) -/
structure ItsC (prog : Program) (w : World) (A : Around) (I : Addr) (n : Nat) (P : Nat → Value → Prop) (It : Nat → Obj → Prop) (Ls : Heap → Prop) : Prop where
  item : ∀ i (s : Shared) (Q : Option Value → Shared → Prop) (E : Value → Shared → Prop) oI, i < n → s.heap.get? I = some oI → It i oI → Ls s.heap →
    (∀ v h' tk' oI', P i v → h'.get? I = some oI' → It (i + 1) oI' → (∀ b o, b ≠ I → s.heap.get? b = some o → h'.get? b = some o) → Q (some v) { s with heap := h', toks := tk' }) → wpAny (model prog w) A (pyNext (.ref I)) Q E s
  done : ∀ (s : Shared) (Q : Option Value → Shared → Prop) (E : Value → Shared → Prop) oI, s.heap.get? I = some oI → It n oI → Ls s.heap →
    (∀ h', (∀ b o, b ≠ I → s.heap.get? b = some o → h'.get? b = some o) → Q none { s with heap := h' }) → wpAny (model prog w) A (pyNext (.ref I)) Q E s
  self : ∀ (s : Shared) (Q : Value → Shared → Prop) (E : Value → Shared → Prop) oI, s.heap.get? I = some oI → It 0 oI → Q (.ref I) s → wpAny (model prog w) A (pyIter (.ref I)) Q E s
def ItR (a : Int) (n : Nat) (i : Nat) (o : Obj) : Prop := o = { cls := .type "range_iterator", dict := none, data := .fields #[rawInt (a + i), rawInt ((n : Int) - i), rawInt 1], slots := #[] }
def ItS (x : Str) (t : Tok) (i : Nat) (o : Obj) : Prop := o.cls = .type (strIterType x) ∧ o.data = .fields #[.str x t, .int i 0]
theorem ItsC.list {prog : Program} {w : World} {A : Around} (hh : A.handled = none) (I l : Addr) (items : Array Value) :
    ItsC prog w A I items.size (fun i v => items[i]? = some v) (ItL l) (fun h => h.IsList l items) where
  item := fun i s Q E oI hi ho hit hl hQ => (Its.list hh I l items).item i s Q E oI hi ho hit hl fun v h' oI' hP ho' hI' hk => hQ v h' s.toks oI' hP ho' hI' hk
  done := (Its.list hh I l items).done
  self := fun s Q E oI ho hit hQ => wpAny_pyIter_listiter (i := 0) ⟨oI, ho, hit⟩ hQ
theorem ItsC.range {prog : Program} {w : World} {A : Around} (hh : A.handled = none) (I : Addr) (a : Int) (n : Nat) :
    ItsC prog w A I n (fun i v => ∃ t, v = .int (a + i) t) (ItR a n) (fun _ => True) where
  item := fun i s Q E oI hi ho hit _ hQ => by
    have hit' : oI = _ := hit
    subst hit'
    refine wpAny_pyNext_range_item ho (by omega) fun h' hit' hs' => ?_
    refine hQ _ h' _ _ ⟨_, rfl⟩ hit' ?_ fun b o hb e => hs'.extBut b o hb e
    have e1 : a + ((i + 1 : Nat) : Int) = a + (i : Int) + 1 := by push_cast; omega
    have e2 : (n : Int) - ((i + 1 : Nat) : Int) = (n : Int) - (i : Int) - 1 := by push_cast; omega
    unfold ItR
    rw [e1, e2]
  done := fun s Q E oI ho hit _ hQ => by
    have hit' : oI = _ := hit
    subst hit'
    exact wpAny_pyNext_range_end hh ho (by omega) fun h' he' => hQ h' he'
  self := fun s Q E oI ho hit hQ => by
    have hit' : oI = _ := hit
    subst hit'
    exact wpAny_pyIter_rangeiter ho hQ
theorem ItsC.str {prog : Program} {w : World} {A : Around} (hh : A.handled = none) (I : Addr) (x : Str) (t : Tok) :
    ItsC prog w A I x.cps.size (SignAt x) (ItS x t) (fun _ => True) := by
  cases ha : x.cps.all (· < 128)
  · have e : strIterType x = "str_iterator" := by simp [strIterType, ha]
    refine ⟨fun i s Q E oI hi ho hit _ hQ => ?_, fun s Q E oI ho hit _ hQ => ?_, fun s Q E oI ho hit hQ => ?_⟩
    · unfold ItS at hit hQ; rw [e] at hit hQ
      refine wpAny_pyNext_wide_item (c := x.cps[i]) ⟨oI, ho, hit⟩ (by simp [hi]) fun h' hit' hs' => ?_
      obtain ⟨o', ho', r'⟩ := hit'
      exact hQ _ h' _ o' ⟨_, _, by simp [hi], rfl⟩ ho' r' fun b o hb e => hs'.extBut b o hb e
    · unfold ItS at hit; rw [e] at hit
      exact wpAny_pyNext_wide_end hh ⟨oI, ho, hit⟩ (by simp) fun h' he' => hQ h' he'
    · unfold ItS at hit; rw [e] at hit
      exact wpAny_pyIter_striter_wide ⟨oI, ho, hit⟩ hQ
  · have e : strIterType x = "str_ascii_iterator" := by simp [strIterType, ha]
    refine ⟨fun i s Q E oI hi ho hit _ hQ => ?_, fun s Q E oI ho hit _ hQ => ?_, fun s Q E oI ho hit hQ => ?_⟩
    · unfold ItS at hit hQ; rw [e] at hit hQ
      refine wpAny_pyNext_ascii_item (c := x.cps[i]) ⟨oI, ho, hit⟩ (by simp [hi]) fun h' hit' hs' => ?_
      obtain ⟨o', ho', r'⟩ := hit'
      exact hQ _ h' _ o' ⟨_, _, by simp [hi], rfl⟩ ho' r' fun b o hb e => hs'.extBut b o hb e
    · unfold ItS at hit; rw [e] at hit
      exact wpAny_pyNext_ascii_end hh ⟨oI, ho, hit⟩ (by simp) fun h' he' => hQ h' he'
    · unfold ItS at hit; rw [e] at hit
      exact wpAny_pyIter_striter_ascii ⟨oI, ho, hit⟩ hQ
/-- an assignment in the block changes the block's own names -/
def Asg (prog : Program) (w : World) (A : Around) (cenv : Env) (target : PySem.Expr) (v : Value) (h : Heap) (up : (Str → Option Value) → Str → Option Value) : Prop :=
  ∀ (s : Shared) (mC : Str → Option Value) (Q : Unit → Shared → Prop) (E : Value → Shared → Prop), s.heap = h → s.heap.Ns cenv.locals mC →
    (∀ h' tk', h'.Ns cenv.locals (up mC) → (∀ c o, c ≠ cenv.locals → s.heap.get? c = some o → h'.get? c = some o) → Q () { s with heap := h', toks := tk' }) → wpAny (model prog w) A (assign target cenv v) Q E s
def up1 (x : Str) (v : Value) (m : Str → Option Value) (z : Str) : Option Value := if z = x then some v else m z
def up2 (a b : Str) (x y : Value) (m : Str → Option Value) (z : Str) : Option Value := if z = b then some y else if z = a then some x else m z
theorem Asg.name {prog : Program} {w : World} {A : Around} {env : Env} {scope : Scope} {cl : List (Str × Addr)} {C : Addr} {x : Str} {px : Pos} {v : Value} {h : Heap} (hx : scope.names.lookup x = some .local) (hk : scope.kind = .function) :
    Asg prog w A (compEnvC scope cl C env) (.Name x px) v h (up1 x v) := fun s mC Q E _ hn hQ =>
  wpAny_assign_Name (wpAny_storeName_local (lookup_relabel_local hx) hn (fun h' hn' hs' => hQ h' _ hn' fun c o hc e => hs'.extBut c o hc e) (by simp [compEnvC, relabel, hk]))
theorem Asg.pair {prog : Program} {w : World} {A : Around} {env : Env} {scope : Scope} {cl : List (Str × Addr)} {C T : Addr} {a b : Str} {pa pb tp : Pos} {kk : Nat} {x y : Value} {h : Heap} (hh : A.handled = none) (hT : h.IsTuple T #[x, y])
    (ha : scope.names.lookup a = some .local) (hb : scope.names.lookup b = some .local) (hk : scope.kind = .function) :
    Asg prog w A (compEnvC scope cl C env) (.Tuple [.Name a pa, .Name b pb] kk tp) (.ref T) h (up2 a b x y) := fun s mC Q E e hn hQ =>
  kcp_assign hh (e ▸ hT) (lookup_relabel_local ha) (lookup_relabel_local hb) (by simp [compEnvC, relabel, hk]) hn fun h' tk hn' hk' => hQ h' tk hn' hk'
def OffC (I C D : Addr) (news : Led) : Prop := ∀ p ∈ news, p.1 ≠ I ∧ p.1 ≠ C ∧ p.1 ≠ D
/-- the end of a block's turn -/
def CEnd (h₀ : Heap) (L : Addr) (m : Str → Option Value) (I : Addr) (oI : Obj) (C D : Addr) (s : Shared) (J : List Value → (Str → Option Value) → Led → Prop) (s₃ : Shared) : Prop :=
  ∃ h' tk' oC mC news ys, s₃ = { s with heap := h', toks := tk' } ∧ Fr h₀ L h' m ∧ News h₀ L h' ((I, oI) :: (C, oC) :: (D, lst ys) :: news) ∧ NsObj oC mC ∧ OffC I C D news ∧ J ys mC news
theorem CEnd.mk {h₀ : Heap} {L : Addr} {m : Str → Option Value} {I : Addr} {oI : Obj} {C D : Addr} {s : Shared} {J : List Value → (Str → Option Value) → Led → Prop} {h' : Heap} {tk' : Nat} {oC : Obj} {mC : Str → Option Value} {news all : Led} {ys : List Value}
    (F : Fr h₀ L h' m) (N : News h₀ L h' all) (sub : ∀ p ∈ (I, oI) :: (C, oC) :: (D, lst ys) :: news, p ∈ all) (hC : NsObj oC mC) (off : OffC I C D news) (hJ : J ys mC news) :
    CEnd h₀ L m I oI C D s J { s with heap := h', toks := tk' } := ⟨h', tk', oC, mC, news, ys, rfl, F, fun p hp => N p (sub p hp), hC, off, hJ⟩
/-- the end of a block's turn that hands on an element -/
def CEndY (h₀ : Heap) (L : Addr) (m : Str → Option Value) (I : Addr) (oI : Obj) (C D : Addr) (s : Shared) (ys : List Value) (J : List Value → (Str → Option Value) → Led → Prop) (y : Value) (s₃ : Shared) : Prop :=
  ∃ h' tk' oC mC news, s₃ = { s with heap := h', toks := tk' } ∧ Fr h₀ L h' m ∧ News h₀ L h' ((I, oI) :: (C, oC) :: (D, lst ys) :: news) ∧ NsObj oC mC ∧ OffC I C D news ∧ J (ys ++ [y]) mC news
theorem CEndY.mk {h₀ : Heap} {L : Addr} {m : Str → Option Value} {I : Addr} {oI : Obj} {C D : Addr} {s : Shared} {J : List Value → (Str → Option Value) → Led → Prop} {h' : Heap} {tk' : Nat} {oC : Obj} {mC : Str → Option Value} {news all : Led} {ys : List Value} {y : Value}
    (F : Fr h₀ L h' m) (N : News h₀ L h' all) (sub : ∀ p ∈ (I, oI) :: (C, oC) :: (D, lst ys) :: news, p ∈ all) (hC : NsObj oC mC) (off : OffC I C D news) (hJ : J (ys ++ [y]) mC news) :
    CEndY h₀ L m I oI C D s ys J y { s with heap := h', toks := tk' } := ⟨h', tk', oC, mC, news, rfl, F, fun p hp => N p (sub p hp), hC, off, hJ⟩
def Tests (prog : Program) (w : World) (A : Around) (ifs : List PySem.Expr) (env : Env) (Q : Bool → Shared → Prop) (E : Value → Shared → Prop) (s : Shared) : Prop :=
  match ifs with
  | [] => Q true s
  | [c] => wpAny (model prog w) A (isTrue c env (eval c env)) Q E s
  | _ => False
theorem Tests.wp {prog : Program} {w : World} {A : Around} {ifs : List PySem.Expr} {env : Env} {Q : Bool → Shared → Prop} {E : Value → Shared → Prop} {s : Shared} (h : Tests prog w A ifs env Q E s) :
    wpAny (model prog w) A (forIn ifs true fun c r => if r = true then do let ok ← isTrue c env (eval c env); pure (ForInStep.yield ok) else pure (ForInStep.yield r)) Q E s := by
  match ifs, h with
  | [], h => exact wpAny_tests_nil h
  | [c], h => exact wpAny_tests_one h
  | _ :: _ :: _, h => exact h.elim
section
variable {prog : Program} {w : World} {A : Around} {E : Value → Shared → Prop} {s : Shared} {h₀ : Heap} {L : Addr} {m : Str → Option Value} {env : Env}
theorem comp_go {elt : PySem.Expr} {gens : List Comprehension} {cpos : Pos} {depth : Nat} {target iter : PySem.Expr} {ifs : List PySem.Expr} {emitK : Sem PySem.Fin → Sem PySem.Fin} {EW : (Shared → Prop) → (Value → Shared → Prop) → Shared → Prop} {I C D : Addr} {oI oC : Obj} {n : Nat} {P : Nat → Value → Prop} {It : Nat → Obj → Prop} {Ls : Heap → Prop}
    {scope : Scope} {cl : List (Str × Addr)} {ys₀ : List Value} {mC₀ : Str → Option Value} {news₀ : Led} {R : Result → Shared → Prop} (J : Nat → List Value → (Str → Option Value) → Led → Prop)
    (heq : compTurn (.ListComp elt gens scope cpos) depth (.ref I) (.ref D) (compEnvC scope cl C env) = (do
      standAt iter.pos
      match ← pyNext (.ref I) with
      | none => pure (.done .next)
      | some v =>
        letOwnedTupleGo target (.ref I) v
        assign target (compEnvC scope cl C env) v
        let mut ok := true
        for c in ifs do
          if ok then ok ← isTrue c (compEnvC scope cl C env) (eval c (compEnvC scope cl C env))
        if ok then emitK (again (.compLoop (.ListComp elt gens scope cpos) depth (.ref I) (.ref D) (compEnvC scope cl C env)))
        else again (.compLoop (.ListComp elt gens scope cpos) depth (.ref I) (.ref D) (compEnvC scope cl C env))))
    (hEW : ∀ (Q : Shared → Prop) (E : Value → Shared → Prop) (s : Shared) (k : Sem PySem.Fin) (QF : PySem.Fin → Shared → Prop), EW Q E s → (∀ s', Q s' → wpAny (model prog w) A k QF E s') → wpAny (model prog w) A (emitK k) QF E s)
    (W : ItsC prog w A I n P It Ls) (go : ∀ i v (s : Shared) (Q : Unit → Shared → Prop) (E : Value → Shared → Prop) oI, s.heap.get? I = some oI → It i oI → Q () s → wpAny (model prog w) A (letOwnedTupleGo target (.ref I) v) Q E s)
    (F : Fr h₀ L s.heap m) (N : News h₀ L s.heap ((I, oI) :: (C, oC) :: (D, lst ys₀) :: news₀)) (hC : NsObj oC mC₀) (hI : It 0 oI) (off : OffC I C D news₀) (hIC : I ≠ C) (hID : I ≠ D) (hCD : C ≠ D) (h0 : J 0 ys₀ mC₀ news₀)
    (hLs : ∀ i ys mC news h, J i ys mC news → Fr h₀ L h m → News h₀ L h news → Ls h)
    (turn : ∀ i v ys mC news oI' oC h, i < n → P i v → J i ys mC news → Fr h₀ L h m → News h₀ L h ((I, oI') :: (C, oC) :: (D, lst ys) :: news) → NsObj oC mC → OffC I C D news →
      ∃ up, Asg prog w A (compEnvC scope cl C env) target v h up ∧ ∀ oC' h' tk' (E' : Value → Shared → Prop), Fr h₀ L h' m → News h₀ L h' ((I, oI') :: (C, oC') :: (D, lst ys) :: news) → NsObj oC' (up mC) →
        Tests prog w A ifs (compEnvC scope cl C env) (fun ok s₃ => if ok = true then EW (fun s₅ => CEnd h₀ L m I oI' C D s (J (i + 1)) s₅) E' s₃ else CEnd h₀ L m I oI' C D s (J (i + 1)) s₃) E' { s with heap := h', toks := tk' })
    (done : ∀ ys mC news oC h tk, J n ys mC news → Fr h₀ L h m → News h₀ L h ((C, oC) :: (D, lst ys) :: news) → NsObj oC mC → OffC I C D news → R (.ok .next) { s with heap := h, toks := tk }) :
    codeAny (model prog w) A (.compLoop (.ListComp elt gens scope cpos) depth (.ref I) (.ref D) (compEnvC scope cl C env)) R s := by
  refine codeAny_loop rfl (fun k s' => ∃ h' tk i ys mC news oI oC, s' = { s with heap := h', toks := tk } ∧ i ≤ n ∧ k = n + 1 - i ∧ It i oI ∧ Fr h₀ L h' m ∧ News h₀ L h' ((I, oI) :: (C, oC) :: (D, lst ys) :: news) ∧ NsObj oC mC ∧ OffC I C D news ∧ J i ys mC news)
    ?_ (n + 1) ⟨s.heap, s.toks, 0, ys₀, mC₀, news₀, oI, oC, rfl, Nat.zero_le _, rfl, hI, F, N, hC, off, h0⟩
  rintro k s' ⟨h', tk, i, ys, mC, news, oI', oC', rfl, hi, rfl, hI', F', N', hC', off', hJ⟩
  show wpAny _ A ((compTurn (.ListComp elt gens scope cpos) depth (.ref I) (.ref D) (compEnvC scope cl C env)).onRaise (fun x => do noteFrame x (compEnvC scope cl C env); theTreesLotGoes x)) _ _ _
  refine wpAny_noted ?_
  rw [heq]
  have hIo := N' _ (.head _)
  have hCo := N' (C, oC') (.tail _ (.head _))
  have hDo := N' (D, lst ys) (.tail _ (.tail _ (.head _)))
  have Nr : News h₀ L h' news := fun p hp => N' p (.tail _ (.tail _ (.tail _ hp)))
  have hL := hLs i ys mC news h' hJ F' Nr
  have next : ∀ h₁ : Heap, (∀ b o, b ≠ I → h'.get? b = some o → h₁.get? b = some o) → Fr h₀ L h₁ m ∧ News h₀ L h₁ ((C, oC') :: (D, lst ys) :: news) := fun h₁ hk₁ =>
    ⟨⟨F'.ns.at' fun o e => hk₁ _ o (Ne.symm hIo.2.1) e, fun b o e => hk₁ b o (fun q => by rw [q, hIo.2.2] at e; cases e) (F'.keep b o e), F'.above⟩, fun p hp => ⟨hk₁ _ _ (by
      rcases List.mem_cons.mp hp with rfl | hp
      · exact Ne.symm hIC
      · rcases List.mem_cons.mp hp with rfl | hp
        · exact Ne.symm hID
        · exact (off' p hp).1) (N' p (.tail _ hp)).1, (N' p (.tail _ hp)).2⟩⟩
  by_cases hlt : i < n
  · refine wpAny_bind (wpAny_standAt (wpAny_bind (W.item i _ _ _ oI' hlt hIo.1 hI' hL fun v h₁ tk₁ oI₁ hP ho₁ hI₁ hk₁ => ?_)))
    obtain ⟨F₁, N₁⟩ := next h₁ hk₁
    refine wpAny_bind (go (i + 1) v _ _ _ oI₁ ho₁ hI₁ ?_)
    have N₂ : News h₀ L h₁ ((I, oI₁) :: (C, oC') :: (D, lst ys) :: news) := fun p hp => by
      rcases List.mem_cons.mp hp with rfl | hp
      · exact ⟨ho₁, hIo.2⟩
      · exact N₁ p hp
    obtain ⟨up, hA, hT⟩ := turn i v ys mC news oI₁ oC' h₁ hlt hP hJ F₁ N₂ hC' off'
    refine wpAny_bind (hA _ mC _ _ rfl (hC'.ns (N₂ (C, oC') (.tail _ (.head _))).1) fun h₂ tk₂ hn₂ hk₂ => ?_)
    obtain ⟨oC₂, heC, hoC⟩ := ns_obj hn₂
    have hk₂' : ∀ c o, c ≠ C → h₁.get? c = some o → h₂.get? c = some o := hk₂
    have F₂ : Fr h₀ L h₂ m := ⟨F₁.ns.at' fun o e => hk₂' _ o (Ne.symm hCo.2.1) e, fun b o e => hk₂' b o (fun q => by rw [q, hCo.2.2] at e; cases e) (F₁.keep b o e), F₁.above⟩
    have N₃ : News h₀ L h₂ ((I, oI₁) :: (C, oC₂) :: (D, lst ys) :: news) := fun p hp => by
      rcases List.mem_cons.mp hp with rfl | hp
      · exact ⟨hk₂' _ _ hIC (N₂ _ (.head _)).1, hIo.2⟩
      · rcases List.mem_cons.mp hp with rfl | hp
        · exact ⟨heC, hCo.2⟩
        · refine ⟨hk₂' _ _ ?_ (N₂ p (.tail _ (.tail _ hp))).1, (N₂ p (.tail _ (.tail _ hp))).2⟩
          rcases List.mem_cons.mp hp with rfl | hp
          · exact Ne.symm hCD
          · exact (off' p hp).2.1
    have fin : ∀ s₅, CEnd h₀ L m I oI₁ C D s (J (i + 1)) s₅ → ∃ m_1, m_1 < n + 1 - i ∧ ∃ h' tk i ys mC news oI oC, s₅ = { s with heap := h', toks := tk } ∧ i ≤ n ∧ m_1 = n + 1 - i ∧ It i oI ∧ Fr h₀ L h' m ∧ News h₀ L h' ((I, oI) :: (C, oC) :: (D, lst ys) :: news) ∧ NsObj oC mC ∧ OffC I C D news ∧ J i ys mC news := by
      rintro s₅ ⟨h₅, tk₅, oC₅, mC₅, news₅, ys₅, rfl, F₅, N₅, hC₅, off₅, hJ₅⟩
      exact ⟨n + 1 - (i + 1), by omega, h₅, tk₅, i + 1, ys₅, mC₅, news₅, oI₁, oC₅, rfl, hlt, rfl, hI₁, F₅, N₅, hC₅, off₅, hJ₅⟩
    refine wpAny_bind (wpAny_mono (hT oC₂ h₂ tk₂ _ F₂ N₃ hoC).wp (fun ok s₃ h₃ => ?_) fun _ _ h' => h')
    cases ok with
    | false =>
      simp only [Bool.false_eq_true, if_false] at h₃ ⊢
      exact wpAny_pure ⟨rfl, fin _ h₃⟩
    | true =>
      simp only [if_true] at h₃ ⊢
      exact hEW _ _ _ _ _ h₃ fun s₅ h₅ => wpAny_pure ⟨rfl, fin _ h₅⟩
  · have hin : i = n := by omega
    subst hin
    refine wpAny_bind (wpAny_standAt (wpAny_bind (W.done _ _ _ oI' hIo.1 hI' hL fun h₁ hk₁ => ?_)))
    obtain ⟨F₁, N₁⟩ := next h₁ hk₁
    exact wpAny_pure (done ys mC news oC' h₁ tk hJ F₁ N₁ hC' off')
/-- an element is put into the list -/
def leafK (elt : PySem.Expr) (acc : Value) (cenv : Env) (k : Sem PySem.Fin) : Sem PySem.Fin := do
  let _ ← (do let _ ← call (.builtin "list.append") [acc, ← eval elt cenv] : Sem Unit)
  k
def leafE (prog : Program) (w : World) (A : Around) (elt : PySem.Expr) (acc : Value) (cenv : Env) (Q : Shared → Prop) (E : Value → Shared → Prop) (s : Shared) : Prop :=
  wpAny (model prog w) A (eval elt cenv) (fun y s₄ => wpAny (model prog w) A (call (.builtin "list.append") [acc, y]) (fun _ s₅ => Q s₅) E s₄) E s
theorem leafE.wp {elt : PySem.Expr} {acc : Value} {cenv : Env} (Q : Shared → Prop) (E : Value → Shared → Prop) (s : Shared) (k : Sem PySem.Fin) (QF : PySem.Fin → Shared → Prop) (h : leafE prog w A elt acc cenv Q E s) (hk : ∀ s', Q s' → wpAny (model prog w) A k QF E s') :
    wpAny (model prog w) A (leafK elt acc cenv k) QF E s :=
  wpAny_bind (wpAny_bind (wpAny_mono h (fun y s₄ h₄ => wpAny_bind (wpAny_mono h₄ (fun _ s₅ h₅ => wpAny_pure (hk _ h₅)) fun _ _ h' => h')) fun _ _ h' => h'))
theorem leaf_emit {elt : PySem.Expr} {cenv : Env} {I C D : Addr} {oI : Obj} {s₀ : Shared} {ys : List Value} {J : List Value → (Str → Option Value) → Led → Prop} (hIC : I ≠ C) (hID : I ≠ D) (hCD : C ≠ D) (hz : ys.length ≤ 1000000)
    (h : wpAny (model prog w) A (eval elt cenv) (CEndY h₀ L m I oI C D s₀ ys J) E s) :
    leafE prog w A elt (.ref D) cenv (fun s₅ => CEnd h₀ L m I oI C D s₀ J s₅) E s := by
  refine wpAny_mono h (fun y s₄ h₄ => ?_) fun _ _ h' => h'
  obtain ⟨h', tk', oC, mC, news, rfl, F, N, hC, off, hJ⟩ := h₄
  have hD := N (D, lst ys) (.tail _ (.tail _ (.head _)))
  refine append_at (hsz := by rw [sizeLine_eq, List.size_toArray]; omega) hD.1 fun h₅ hs₅ hD₅ => ?_
  refine ⟨h₅, tk', oC, mC, news, ys ++ [y], rfl, F.change hs₅ hD.2.1 hD.2.2, fun p hp => ?_, hC, off, hJ⟩
  have key : p ∈ (I, oI) :: (C, oC) :: (D, lst ys) :: news → p.1 ≠ D → h₅.get? p.1 = some p.2 ∧ p.1 ≠ L ∧ h₀.get? p.1 = none := fun hp hn => ⟨hs₅.extBut _ _ hn (N p hp).1, (N p hp).2⟩
  rcases List.mem_cons.mp hp with rfl | hp
  · exact key (.head _) hID
  · rcases List.mem_cons.mp hp with rfl | hp
    · exact key (.tail _ (.head _)) hCD
    · rcases List.mem_cons.mp hp with rfl | hp
      · exact ⟨hD₅.trans (congrArg some (lst_snoc ys y)), hD.2⟩
      · exact key (.tail _ (.tail _ (.tail _ hp))) (off p hp).2.2
end
section
variable {prog : Program} {w : World} {A : Around} {E : Value → Shared → Prop} {s : Shared} {h₀ : Heap} {L : Addr} {m : Str → Option Value} {env : Env}
theorem comp_start1 {elt target iter : PySem.Expr} {g1 : Comprehension} {ifs : List PySem.Expr} {scope : Scope} {pos : Pos} {it acc : Value} {cenv : Env} {R : Result → Shared → Prop}
    (h0 : codeAny (model prog w) A (.compLoop (.ListComp elt [g1, ⟨target, iter, ifs, 0⟩] scope pos) 1 it acc cenv) R s)
    (h : ∀ E', wpAny (model prog w) A (pyIter it) (fun it' s' => codeAny (model prog w) A (.compLoop (.ListComp elt [g1, ⟨target, iter, ifs, 0⟩] scope pos) 1 it' acc cenv) R s') E' s) :
    codeAny (model prog w) A (.compStart (.ListComp elt [g1, ⟨target, iter, ifs, 0⟩] scope pos) 1 it acc cenv) R s := by
  refine codeAny_of_tree ?_
  show wpAny _ _ ((compStart (.ListComp elt [g1, ⟨target, iter, ifs, 0⟩] scope pos) 1 it acc cenv).onRaise (fun x => do noteFrame x cenv; standAt theWindowsPlace)) _ _ s
  refine wpAny_notedAt ?_
  unfold compStart
  show wpAny _ _ (ask >>= _) _ _ s
  refine wpAny_bind (wpAny_askSetting (wpAny_ite ?_))
  split
  · first
      | exact wpAny_bind (wpAny_pure (wpAny_pure (And.intro rfl h0)))
      | exact wpAny_pure (And.intro rfl h0)
  · first
      | exact wpAny_bind (wpAny_rule (wpAny_bind (wpAny_standAt (wpAny_bind (wpAny_mono (h _) (fun it' s' h' => wpAny_pure (And.intro rfl h')) fun _ _ x => x)))))
      | (refine wpAny_bind (wpAny_rule ?_); show wpAny _ _ (standAt iter.pos >>= _) _ _ s; exact wpAny_bind (wpAny_standAt (wpAny_bind (wpAny_mono (h _) (fun it' s' h' => wpAny_pure (And.intro rfl h')) fun _ _ x => x))))
def nestK (e iter2 : PySem.Expr) (acc : Value) (cenv : Env) (k : Sem PySem.Fin) : Sem PySem.Fin := do
  let x ← eval iter2 cenv
  standAt iter2.pos
  let x ← if (0 : Int) != 0 then foldedIterable iter2 x else foldedSetIterable iter2 cenv x
  let _ ← runOwn (.compStart e 1 (← holding [x] (if (0 : Int) != 0 then asyncIter x else pyIter x)) acc cenv) cenv
  k
/-- where the inner list of a block of two clauses has been found -/
def NestAt (prog : Program) (w : World) (A : Around) (e : PySem.Expr) (acc : Value) (cenv : Env) (Q : Shared → Prop) (E : Value → Shared → Prop) (x : Value) (s₁ : Shared) : Prop :=
  wpAny (model prog w) A (pyIter x) (fun it s₂ => codeAny (model prog w) A (.compStart e 1 it acc cenv) (fun r s' => match r with | .ok _ => Q s' | .error y => cameBackBy (model prog w) A cenv E y s') s₂) E s₁
def nestE (prog : Program) (w : World) (A : Around) (e iter2 : PySem.Expr) (acc : Value) (cenv : Env) (Q : Shared → Prop) (E : Value → Shared → Prop) (s : Shared) : Prop :=
  wpAny (model prog w) A (eval iter2 cenv) (NestAt prog w A e acc cenv Q E) E s
theorem nestE.wp {e iter2 : PySem.Expr} {acc : Value} {cenv : Env} (hA : A.mark none = A) (hs : ∀ x, foldedSetIterable iter2 cenv x = pure x) (Q : Shared → Prop) (E : Value → Shared → Prop) (s : Shared) (k : Sem PySem.Fin) (QF : PySem.Fin → Shared → Prop) (h : nestE prog w A e iter2 acc cenv Q E s) (hk : ∀ s', Q s' → wpAny (model prog w) A k QF E s') :
    wpAny (model prog w) A (nestK e iter2 acc cenv k) QF E s := by
  unfold nestK
  refine wpAny_bind (wpAny_mono h (fun x s₁ h₁ => ?_) fun _ _ e => e)
  refine wpAny_bind (wpAny_standAt (wpAny_bind (wpAny_of_eq (hs x) ?_)))
  refine wpAny_bind (wpAny_holding (wpAny_mono h₁ (fun it s₂ h₂ => ?_) fun _ _ e => e))
  refine wpAny_bind (wpAny_runOwn ?_)
  rw [hA]
  refine codeAny_mono h₂ fun r s' hr => ?_
  cases r with
  | ok f => exact hk _ hr
  | error y => exact hr
theorem turn_nest (elt target iter target2 iter2 : PySem.Expr) (ifs ifs2 : List PySem.Expr) (scope : Scope) (pos : Pos) (it acc : Value) (cenv : Env) :
    compTurn (.ListComp elt [⟨target, iter, ifs, 0⟩, ⟨target2, iter2, ifs2, 0⟩] scope pos) 0 it acc cenv = (do
      standAt iter.pos
      match ← pyNext it with
      | none => pure (.done .next)
      | some v =>
        letOwnedTupleGo target it v
        assign target cenv v
        let mut ok := true
        for c in ifs do
          if ok then ok ← isTrue c cenv (eval c cenv)
        if ok then nestK (.ListComp elt [⟨target, iter, ifs, 0⟩, ⟨target2, iter2, ifs2, 0⟩] scope pos) iter2 acc cenv (again (.compLoop (.ListComp elt [⟨target, iter, ifs, 0⟩, ⟨target2, iter2, ifs2, 0⟩] scope pos) 0 it acc cenv))
        else again (.compLoop (.ListComp elt [⟨target, iter, ifs, 0⟩, ⟨target2, iter2, ifs2, 0⟩] scope pos) 0 it acc cenv)) := by rfl
theorem turn_inner (elt target2 iter2 : PySem.Expr) (g1 : Comprehension) (ifs2 : List PySem.Expr) (scope : Scope) (pos : Pos) (it acc : Value) (cenv : Env) :
    compTurn (.ListComp elt [g1, ⟨target2, iter2, ifs2, 0⟩] scope pos) 1 it acc cenv = (do
      standAt iter2.pos
      match ← pyNext it with
      | none => pure (.done .next)
      | some v =>
        letOwnedTupleGo target2 it v
        assign target2 cenv v
        let mut ok := true
        for c in ifs2 do
          if ok then ok ← isTrue c cenv (eval c cenv)
        if ok then leafK elt acc cenv (again (.compLoop (.ListComp elt [g1, ⟨target2, iter2, ifs2, 0⟩] scope pos) 1 it acc cenv))
        else again (.compLoop (.ListComp elt [g1, ⟨target2, iter2, ifs2, 0⟩] scope pos) 1 it acc cenv)) := by rfl
theorem turn_one (elt target2 iter2 : PySem.Expr) (ifs2 : List PySem.Expr) (scope : Scope) (pos : Pos) (it acc : Value) (cenv : Env) :
    compTurn (.ListComp elt [⟨target2, iter2, ifs2, 0⟩] scope pos) 0 it acc cenv = (do
      standAt iter2.pos
      match ← pyNext it with
      | none => pure (.done .next)
      | some v =>
        letOwnedTupleGo target2 it v
        assign target2 cenv v
        let mut ok := true
        for c in ifs2 do
          if ok then ok ← isTrue c cenv (eval c cenv)
        if ok then leafK elt acc cenv (again (.compLoop (.ListComp elt [⟨target2, iter2, ifs2, 0⟩] scope pos) 0 it acc cenv))
        else again (.compLoop (.ListComp elt [⟨target2, iter2, ifs2, 0⟩] scope pos) 0 it acc cenv)) := by rfl
/-- what a block runs over -/
structure Src (prog : Program) (w : World) (A : Around) (xv : Value) (h : Heap) (oI : Obj) (n : Nat) (P : Nat → Value → Prop) (It : Nat → Obj → Prop) (Ls : Heap → Prop) : Prop where
  start : ∀ (s : Shared) (Q : Value → Shared → Prop) (E : Value → Shared → Prop), s.heap = h → Q (.ref h.objs.size) { s with heap := h.push oI } → wpAny (model prog w) A (pyIter xv) Q E s
  it : It 0 oI
  free : oI.isFreed = false
  W : ItsC prog w A h.objs.size n P It Ls
theorem Src.list {l : Addr} {items : List Value} {h : Heap} (hh : A.handled = none) (hl : h.IsList l items.toArray) :
    Src prog w A (.ref l) h { cls := .type "list_iterator", data := .fields #[.ref l, .int 0 0] } items.length (fun i v => items[i]? = some v) (ItL l) (fun h => h.IsList l items.toArray) where
  start := fun s Q E e hQ => by subst e; exact wpAny_pyIter_list hl hQ
  it := ⟨rfl, rfl⟩
  free := rfl
  W := by
    have := ItsC.list (prog := prog) (w := w) hh h.objs.size l items.toArray
    simpa using this
theorem Src.range {r : Addr} {b : Int} {t u v : Tok} {n : Nat} {h : Heap} (hh : A.handled = none) (hr : IsRange h r 0 b 1 t u v) (hb : b = n) (hn : n ≤ 1000000) :
    Src prog w A (.ref r) h { cls := .type "range_iterator", dict := none, data := .fields #[rawInt 0, rawInt (n : Int), rawInt 1], slots := #[] } n (fun i v => ∃ t, v = .int i t) (ItR 0 n) (fun _ => True) where
  start := fun s Q E e hQ => by
    subst e hb
    have e : Builtin.Range.rangeSize 0 (n : Int) 1 = (n : Int) := rangeSize_nat 0 n |> fun z => by simpa using z
    refine wpAny_pyIter_range hr (small_one (by omega) (by omega) (by omega) (by omega)) ?_
    rw [e]
    exact hQ
  it := by unfold ItR; simp
  free := rfl
  W := by
    have := ItsC.range (prog := prog) (w := w) hh h.objs.size 0 n
    simpa using this
theorem Src.str {x : Str} {t : Tok} {h : Heap} (hh : A.handled = none) :
    Src prog w A (.str x t) h { cls := .type (strIterType x), data := .fields #[.str x t, .int 0 0] } x.cps.size (SignAt x) (ItS x t) (fun _ => True) where
  start := fun s Q E e hQ => by subst e; exact wpAny_pyIter_strU hQ
  it := ⟨rfl, rfl⟩
  free := rfl
  W := ItsC.str hh _ x t
/-- a new object ahead of the ledger -/
theorem news_fresh {h : Heap} {news : Led} {oI : Obj} (F : Fr h₀ L h m) (N : News h₀ L h news) (hf : oI.isFreed = false) :
    Fr h₀ L (h.push oI) m ∧ News h₀ L (h.push oI) ((h.objs.size, oI) :: news) ∧ (∀ p ∈ news, p.1 < h.objs.size) := by
  have up : ∀ b o, h.get? b = some o → (h.push oI).get? b = some o := fun b o e => Heap.get?_push_of_some _ e
  refine ⟨F.keeps up, fun p hp => ?_, fun p hp => Heap.lt_size (N p hp).1⟩
  rcases List.mem_cons.mp hp with rfl | hp
  · exact ⟨Heap.get?_push_size _ hf, Ne.symm (Nat.ne_of_lt F.ns.lt), next_is_new F⟩
  · exact ⟨up _ _ (N p hp).1, (N p hp).2⟩
theorem rest_leaf {elt : PySem.Expr} {cenv : Env} {I C D : Addr} {oI : Obj} {s s₂ : Shared} {ys : List Value} {J : List Value → (Str → Option Value) → Led → Prop} {ifs : List PySem.Expr} {E' : Value → Shared → Prop} {s₁ : Shared} (hIC : I ≠ C) (hID : I ≠ D) (hCD : C ≠ D) (hz : ys.length ≤ 1000000)
    (hs : ∀ s₃, CEnd h₀ L m I oI C D s J s₃ → CEnd h₀ L m I oI C D s₂ J s₃)
    (h : Tests prog w A ifs cenv (fun ok s₃ => if ok = true then wpAny (model prog w) A (eval elt cenv) (CEndY h₀ L m I oI C D s ys J) E' s₃ else CEnd h₀ L m I oI C D s J s₃) E' s₁) :
    Tests prog w A ifs cenv (fun ok s₃ => if ok = true then leafE prog w A elt (.ref D) cenv (fun s₅ => CEnd h₀ L m I oI C D s₂ J s₅) E' s₃ else CEnd h₀ L m I oI C D s₂ J s₃) E' s₁ := by
  have rest : ∀ (ok : Bool) (s₃ : Shared), (if ok = true then wpAny (model prog w) A (eval elt cenv) (CEndY h₀ L m I oI C D s ys J) E' s₃ else CEnd h₀ L m I oI C D s J s₃) →
      (if ok = true then leafE prog w A elt (.ref D) cenv (fun s₅ => CEnd h₀ L m I oI C D s₂ J s₅) E' s₃ else CEnd h₀ L m I oI C D s₂ J s₃) := fun ok s₃ h₃ => by
    cases ok with
    | true =>
      simp only [if_true] at h₃ ⊢
      exact wpAny_mono (leaf_emit hIC hID hCD hz h₃) (fun _ s₄ h₄ => wpAny_mono h₄ (fun _ s₅ h₅ => hs _ h₅) fun _ _ e => e) fun _ _ e => e
    | false => simp only [Bool.false_eq_true, if_false] at h₃ ⊢; exact hs _ h₃
  match ifs, h with
  | [], h => exact rest true s₁ h
  | [c], h => exact wpAny_mono h (fun ok s₃ h₃ => rest _ _ h₃) fun _ _ e => e
  | _ :: _ :: _, h => exact h.elim
/-- an inner loop of a block of two clauses -/
theorem nest_run {elt target2 iter2 : PySem.Expr} {g1 : Comprehension} {ifs2 : List PySem.Expr} {scope : Scope} {pos : Pos} {cl : List (Str × Addr)} {C D : Addr} {oC oI : Obj} {n : Nat} {P : Nat → Value → Prop} {It : Nat → Obj → Prop} {Ls : Heap → Prop} {xv : Value}
    {ys₀ : List Value} {mC₀ : Str → Option Value} {news₀ : Led} {Q : Shared → Prop} (J : Nat → List Value → (Str → Option Value) → Led → Prop)
    (S : Src prog w A xv s.heap oI n P It Ls) (F : Fr h₀ L s.heap m) (N : News h₀ L s.heap ((C, oC) :: (D, lst ys₀) :: news₀)) (hC : NsObj oC mC₀) (offC : ∀ p ∈ news₀, p.1 ≠ C ∧ p.1 ≠ D) (hCD : C ≠ D) (h0 : J 0 ys₀ mC₀ news₀)
    (go : ∀ I i v (s : Shared) (Q : Unit → Shared → Prop) (E : Value → Shared → Prop) oI, s.heap.get? I = some oI → It i oI → Q () s → wpAny (model prog w) A (letOwnedTupleGo target2 (.ref I) v) Q E s)
    (hLs : ∀ i ys mC news h, J i ys mC news → Fr h₀ L h m → News h₀ L h news → Ls h) (hz : ∀ i ys mC news, J i ys mC news → ys.length ≤ 1000000)
    (turn : ∀ I, (∀ p ∈ news₀, @LT.lt Nat _ p.1 I) → (@LT.lt Nat _ C I) → (@LT.lt Nat _ D I) → ∀ i v ys mC news oI' oC h, i < n → P i v → J i ys mC news → Fr h₀ L h m → News h₀ L h ((I, oI') :: (C, oC) :: (D, lst ys) :: news) → NsObj oC mC → OffC I C D news →
      ∃ up, Asg prog w A (compEnvC scope cl C env) target2 v h up ∧ ∀ oC' h' tk' (E' : Value → Shared → Prop), Fr h₀ L h' m → News h₀ L h' ((I, oI') :: (C, oC') :: (D, lst ys) :: news) → NsObj oC' (up mC) →
        Tests prog w A ifs2 (compEnvC scope cl C env) (fun ok s₃ => if ok = true then wpAny (model prog w) A (eval elt (compEnvC scope cl C env)) (CEndY h₀ L m I oI' C D s ys (J (i + 1))) E' s₃ else CEnd h₀ L m I oI' C D s (J (i + 1)) s₃) E' { s with heap := h', toks := tk' })
    (done : ∀ ys mC news oC h tk, J n ys mC news → Fr h₀ L h m → News h₀ L h ((C, oC) :: (D, lst ys) :: news) → NsObj oC mC → (∀ p ∈ news, p.1 ≠ C ∧ p.1 ≠ D) → Q { s with heap := h, toks := tk }) :
    NestAt prog w A (.ListComp elt [g1, ⟨target2, iter2, ifs2, 0⟩] scope pos) (.ref D) (compEnvC scope cl C env) Q E xv s := by
  refine S.start s _ _ rfl ?_
  obtain ⟨F', N', hlt⟩ := news_fresh F N S.free
  have hCI : C < s.heap.objs.size := hlt _ (.head _)
  have hDI : D < s.heap.objs.size := hlt (D, lst ys₀) (.tail _ (.head _))
  have hcc : ∀ R' : Result → Shared → Prop, (∀ ys mC news oC h tk, J n ys mC news → Fr h₀ L h m → News h₀ L h ((C, oC) :: (D, lst ys) :: news) → NsObj oC mC → OffC s.heap.objs.size C D news → R' (.ok .next) { { s with heap := s.heap.push oI } with heap := h, toks := tk }) →
      codeAny (model prog w) A (.compLoop (.ListComp elt [g1, ⟨target2, iter2, ifs2, 0⟩] scope pos) 1 (.ref s.heap.objs.size) (.ref D) (compEnvC scope cl C env)) R' { s with heap := s.heap.push oI } := fun R' hd => by
    refine comp_go (s := { s with heap := s.heap.push oI }) J (turn_inner ..) leafE.wp S.W (go _) F' N' hC S.it (fun p hp => ⟨Nat.ne_of_lt (hlt p (.tail _ (.tail _ hp))), offC p hp⟩) (Ne.symm (Nat.ne_of_lt hCI)) (Ne.symm (Nat.ne_of_lt hDI)) hCD h0 hLs ?_ hd
    intro i v ys mC news oI' oC' h hi hP hJ F₁ N₁ hC₁ off₁
    obtain ⟨up, hA, hT⟩ := turn s.heap.objs.size (fun p hp => hlt p (.tail _ (.tail _ hp))) hCI hDI i v ys mC news oI' oC' h hi hP hJ F₁ N₁ hC₁ off₁
    exact ⟨up, hA, fun oC₂ h₂ tk₂ E' F₂ N₂ hC₂ => rest_leaf (s₂ := { s with heap := s.heap.push oI }) (Ne.symm (Nat.ne_of_lt hCI)) (Ne.symm (Nat.ne_of_lt hDI)) hCD (hz _ _ _ _ hJ) (fun _ e => e) (hT oC₂ h₂ tk₂ E' F₂ N₂ hC₂)⟩
  have hfin : ∀ ys mC news oC h tk, J n ys mC news → Fr h₀ L h m → News h₀ L h ((C, oC) :: (D, lst ys) :: news) → NsObj oC mC → OffC s.heap.objs.size C D news → Q { s with heap := h, toks := tk } := fun ys mC news oC h tk hJ F₁ N₁ hC₁ off₁ =>
    done ys mC news oC h tk hJ F₁ N₁ hC₁ fun p hp => (off₁ p hp).2
  refine comp_start1 (hcc _ hfin) fun E' => S.W.self _ _ _ oI (Heap.get?_push_size _ S.free) S.it (hcc _ hfin)
/-- where the list of a block has been found -/
def CompAt (prog : Program) (w : World) (A : Around) (elt : PySem.Expr) (gens : List Comprehension) (scope : Scope) (pos : Pos) (cl : List (Str × Addr)) (env : Env) (use : Option (Value → Sem Unit)) (Q : Value → Shared → Prop) (E : Value → Shared → Prop) (xv : Value) (s₁ : Shared) : Prop :=
  wpAny (model prog w) A (pyIter xv) (fun it s₂ => wpAny (model prog w) A (newList []) (fun acc s₃ => wpAny (model prog w) A (newFunctionEnv scope env.globals cl [] env.qual none .none (some env)) (fun cenv s₄ =>
    codeAny (model prog w) A (.compStart (.ListComp elt gens scope pos) 0 it acc { cenv with scope := relabel scope env }) (compPost (model prog w) A E use Q acc cenv.locals) s₄) E s₃) E s₂) E s₁
theorem comp_eval {elt target iter : PySem.Expr} {ifs : List PySem.Expr} {gs : List Comprehension} {scope : Scope} {cl : List (Str × Addr)} {pos : Pos} {Q : Value → Shared → Prop}
    (hclos : closureFor scope env = pure cl) (hkind : scope.kind = .function) (hnames : ∀ y ∈ scope.names, y.2 = .local → scope.names.lookup y.1 = some .local)
    (h : wpAny (model prog w) A (eval iter env) (CompAt prog w A elt (⟨target, iter, ifs, 0⟩ :: gs) scope pos cl env none Q E) E s)
    (hs : ∀ x, foldedSetIterable iter env x = pure x := by intro _; rfl) :
    wpAny (model prog w) A (eval (.ListComp elt (⟨target, iter, ifs, 0⟩ :: gs) scope pos) env) Q E s := by
  rw [eval_ListComp]
  exact wpAny_comprehension_free (use := none) rfl hs hclos hkind hnames h
theorem comp_assign {elt target iter : PySem.Expr} {ifs : List PySem.Expr} {gs : List Comprehension} {scope : Scope} {cl : List (Str × Addr)} {pos spos py : Pos} {y : Str} {Q : Flow → Shared → Prop}
    (hsw : swapsWith (.ListComp elt (⟨target, iter, ifs, 0⟩ :: gs) scope pos) (some (.Name y py)) spos.line env = pure true)
    (hclos : closureFor scope env = pure cl) (hkind : scope.kind = .function) (hnames : ∀ y ∈ scope.names, y.2 = .local → scope.names.lookup y.1 = some .local)
    (h : wpAny (model prog w) A (eval iter env) (CompAt prog w A elt (⟨target, iter, ifs, 0⟩ :: gs) scope pos cl env (some (assign (.Name y py) env)) (fun _ s' => Q .next s') E) E s)
    (hs : ∀ x, foldedSetIterable iter env x = pure x := by intro _; rfl) :
    wpAny (model prog w) A (exec (.Assign [.Name y py] (.ListComp elt (⟨target, iter, ifs, 0⟩ :: gs) scope pos) spos) env) Q E s := by
  rw [exec_Assign_Name_used _ _ _ _ hsw]
  refine wpAny_bind (wpAny_standAt (wpAny_bind ?_))
  show wpAny _ A (do let _ ← comprehension (.ListComp elt (⟨target, iter, ifs, 0⟩ :: gs) scope pos) scope env _ (newList []) false (eval iter env) (some (assign (.Name y py) env))) _ _ s
  exact wpAny_bind (wpAny_mono (wpAny_comprehension_free (use := some (assign (.Name y py) env)) (Q := fun _ s' => Q .next s') rfl hs hclos hkind hnames h) (fun _ s' hq => wpAny_pure (wpAny_pure hq)) fun _ _ e => e)
/-- the block's own things are made -/
theorem comp_made {elt target iter : PySem.Expr} {ifs : List PySem.Expr} {gs : List Comprehension} {scope : Scope} {cl : List (Str × Addr)} {pos : Pos} {use : Option (Value → Sem Unit)} {Q : Value → Shared → Prop} {oI : Obj} {n : Nat} {P : Nat → Value → Prop} {It : Nat → Obj → Prop} {Ls : Heap → Prop} {xv : Value} {news₀ : Led}
    (S : Src prog w A xv s.heap oI n P It Ls) (hcell : ∀ y ∈ scope.names, y.2 ≠ .cell) (hkind : scope.kind = .function) (F : Fr h₀ L s.heap m) (N : News h₀ L s.heap news₀)
    (h : ∀ I C D oC h tk, (∀ p ∈ news₀, @LT.lt Nat _ p.1 I) → (@LT.lt Nat _ I D) → (@LT.lt Nat _ D C) → NsObj oC (fun _ => none) → Fr h₀ L h m → News h₀ L h ((I, oI) :: (C, oC) :: (D, lst []) :: news₀) → ItsC prog w A I n P It Ls →
      codeAny (model prog w) A (.compLoop (.ListComp elt (⟨target, iter, ifs, 0⟩ :: gs) scope pos) 0 (.ref I) (.ref D) (compEnvC scope cl C env)) (compPost (model prog w) A E use Q (.ref D) C) { s with heap := h, toks := tk }) :
    CompAt prog w A elt (⟨target, iter, ifs, 0⟩ :: gs) scope pos cl env use Q E xv s := by
  refine S.start s _ _ rfl ?_
  obtain ⟨F', N', hlt⟩ := news_fresh F N S.free
  generalize hH1 : s.heap.push oI = H1 at F' N'
  have h1 : H1.objs.size = s.heap.objs.size + 1 := by rw [← hH1, Heap.size_push]
  refine wpAny_newObj_type (wpAny_newFunctionEnv hcell (by intro y hy; simp at hy) (fun h₁ hns₁ hsb₁ => ?_) hkind)
  dsimp only at hns₁ hsb₁ ⊢
  obtain ⟨F2, N2, hlt2⟩ := news_fresh (oI := { cls := .type "list", dict := none, data := .seq ([] : List Value).toArray }) F' N' rfl
  generalize hH2 : H1.push { cls := .type "list", dict := none, data := .seq ([] : List Value).toArray } = H2 at hns₁ hsb₁ F2 N2 ⊢
  have h2 : H2.objs.size = H1.objs.size + 1 := by rw [← hH2, Heap.size_push]
  obtain ⟨oC, heC, hoC⟩ := ns_obj hns₁
  have hLs : L < H2.objs.size := F2.ns.lt
  have keep : ∀ b o, H2.get? b = some o → h₁.get? b = some o := fun b o e => hsb₁.extBut b o (Nat.ne_of_lt (Heap.lt_size e)) (Heap.get?_push_of_some _ e)
  have hC₀ : h₀.get? H2.objs.size = none := next_is_new F2
  have F3 : Fr h₀ L h₁ m := F2.keeps keep
  have N3 : News h₀ L h₁ ((s.heap.objs.size, oI) :: (H2.objs.size, oC) :: (H1.objs.size, lst []) :: news₀) := fun p hp => by
    have old : ∀ q ∈ (H1.objs.size, lst []) :: (s.heap.objs.size, oI) :: news₀, h₁.get? q.1 = some q.2 ∧ q.1 ≠ L ∧ h₀.get? q.1 = none := fun q hq => ⟨keep _ _ (N2 q hq).1, (N2 q hq).2⟩
    rcases List.mem_cons.mp hp with rfl | hp
    · exact old _ (.tail _ (.head _))
    · rcases List.mem_cons.mp hp with rfl | hp
      · exact ⟨heC, Ne.symm (Nat.ne_of_lt hLs), hC₀⟩
      · rcases List.mem_cons.mp hp with rfl | hp
        · exact old _ (.head _)
        · exact old _ (.tail _ (.tail _ hp))
  have hc := h s.heap.objs.size H2.objs.size H1.objs.size oC h₁ (s.toks + ([] : List (Str × Value)).length) hlt (by rw [h1]; exact Nat.lt_succ_self _) (by rw [h2]; exact Nat.lt_succ_self _) hoC F3 N3 S.W
  exact codeAny_compStart_list hc (S.W.self _ _ _ oI (N3 _ (.head _)).1 S.it hc)
/-- what is to be shown when a block has ended: of its list handed on -/
def FinEv (h₀ : Heap) (L : Addr) (m : Str → Option Value) (s : Shared) (Q : Value → Shared → Prop) (D : Addr) (ys : List Value) (news : Led) : Prop :=
  ∀ h tk, Fr h₀ L h m → News h₀ L h ((D, lst ys) :: news) → Q (.ref D) { s with heap := h, toks := tk }
def FinAs (h₀ : Heap) (L : Addr) (m : Str → Option Value) (s : Shared) (y : Str) (Q : Value → Shared → Prop) (D : Addr) (ys : List Value) (news : Led) : Prop :=
  ∀ h tk, Fr h₀ L h (fun z => if z = y then some (.ref D) else m z) → News h₀ L h ((D, lst ys) :: news) → Q .none { s with heap := h, toks := tk }
theorem fin_ev {Q : Value → Shared → Prop} {C D : Addr} {ys : List Value} {news : Led} {oC : Obj} {mC : Str → Option Value} {h : Heap} {tk : Nat} (F : Fr h₀ L h m) (N : News h₀ L h ((C, oC) :: (D, lst ys) :: news)) (hC : NsObj oC mC) (off : ∀ p ∈ news, p.1 ≠ C) (hCD : C ≠ D)
    (hfin : FinEv h₀ L m s Q D ys news) : compPost (model prog w) A E none Q (.ref D) C (.ok .next) { s with heap := h, toks := tk } := by
  have hC₁ := N (C, oC) (.head _)
  refine ⟨mC, hC.ns hC₁.1, fun h'' hs'' => hfin h'' tk (F.change hs'' hC₁.2.1 hC₁.2.2) fun p hp => ⟨hs''.extBut _ _ ?_ (N p (.tail _ hp)).1, (N p (.tail _ hp)).2⟩⟩
  rcases List.mem_cons.mp hp with rfl | hp
  · exact Ne.symm hCD
  · exact off p hp
theorem fin_as {Q : Value → Shared → Prop} {C D : Addr} {ys : List Value} {news : Led} {oC : Obj} {mC : Str → Option Value} {h : Heap} {tk : Nat} {y : Str} {py : Pos} (hL : env.locals = L) (hy : env.kindOf y = some .local) (hp : (env.scope.kind == .class || (env.scope.kind == .module && env.locals != env.globals)) = false)
    (F : Fr h₀ L h m) (N : News h₀ L h ((C, oC) :: (D, lst ys) :: news)) (hC : NsObj oC mC) (off : ∀ p ∈ news, p.1 ≠ C) (hCD : C ≠ D)
    (hfin : FinAs h₀ L m s y Q D ys news) : compPost (model prog w) A E (some (assign (.Name y py) env)) Q (.ref D) C (.ok .next) { s with heap := h, toks := tk } := by
  subst hL
  have hC₁ := N (C, oC) (.head _)
  show wpAny _ A (assign (.Name y py) env (.ref D)) _ _ _
  refine wpAny_assign_Name (wpAny_storeName_local hy F.ns (fun h₂ hn₂ hs₂ => ?_) hp)
  have hL₀ : h₀.get? env.locals = none := Heap.get?_none_of_le F.above
  have F₂ : Fr h₀ env.locals h₂ (fun z => if z = y then some (.ref D) else m z) := ⟨hn₂, fun b o e => hs₂.extBut b o (fun q => by rw [q, hL₀] at e; cases e) (F.keep b o e), F.above⟩
  refine ⟨mC, (hC.ns hC₁.1).sameBut hs₂ hC₁.2.1, fun h'' hs'' => hfin h'' _ (F₂.change hs'' hC₁.2.1 hC₁.2.2) fun p hp => ⟨hs''.extBut _ _ ?_ (hs₂.extBut _ _ (N p (.tail _ hp)).2.1 (N p (.tail _ hp)).1), (N p (.tail _ hp)).2⟩⟩
  rcases List.mem_cons.mp hp with rfl | hp
  · exact Ne.symm hCD
  · exact off p hp
theorem comp_run {elt target iter : PySem.Expr} {ifs : List PySem.Expr} {scope : Scope} {cl : List (Str × Addr)} {pos : Pos} {use : Option (Value → Sem Unit)} {Q : Value → Shared → Prop} {oI : Obj} {n : Nat} {P : Nat → Value → Prop} {It : Nat → Obj → Prop} {Ls : Heap → Prop} {xv : Value} {news₀ : Led}
    (J : Nat → List Value → (Str → Option Value) → Led → Prop)
    (S : Src prog w A xv s.heap oI n P It Ls) (hcell : ∀ y ∈ scope.names, y.2 ≠ .cell) (hkind : scope.kind = .function) (F : Fr h₀ L s.heap m) (N : News h₀ L s.heap news₀) (h0 : J 0 [] (fun _ => none) news₀)
    (go : ∀ I i v (s : Shared) (Q : Unit → Shared → Prop) (E : Value → Shared → Prop) oI, s.heap.get? I = some oI → It i oI → Q () s → wpAny (model prog w) A (letOwnedTupleGo target (.ref I) v) Q E s)
    (hLs : ∀ i ys mC news h, J i ys mC news → Fr h₀ L h m → News h₀ L h news → Ls h) (hz : ∀ i ys mC news, J i ys mC news → ys.length ≤ 1000000)
    (turn : ∀ I C D s₀, (∀ p ∈ news₀, @LT.lt Nat _ p.1 I) → (@LT.lt Nat _ I D) → (@LT.lt Nat _ D C) → ∀ i v ys mC news oI' oC h, i < n → P i v → J i ys mC news → Fr h₀ L h m → News h₀ L h ((I, oI') :: (C, oC) :: (D, lst ys) :: news) → NsObj oC mC → OffC I C D news →
      ∃ up, Asg prog w A (compEnvC scope cl C env) target v h up ∧ ∀ oC' h' tk' (E' : Value → Shared → Prop), Fr h₀ L h' m → News h₀ L h' ((I, oI') :: (C, oC') :: (D, lst ys) :: news) → NsObj oC' (up mC) →
        Tests prog w A ifs (compEnvC scope cl C env) (fun ok s₃ => if ok = true then wpAny (model prog w) A (eval elt (compEnvC scope cl C env)) (CEndY h₀ L m I oI' C D s₀ ys (J (i + 1))) E' s₃ else CEnd h₀ L m I oI' C D s₀ (J (i + 1)) s₃) E' { s₀ with heap := h', toks := tk' })
    (done : ∀ C D ys mC news oC h tk, J n ys mC news → Fr h₀ L h m → News h₀ L h ((C, oC) :: (D, lst ys) :: news) → NsObj oC mC → (∀ p ∈ news, p.1 ≠ C) → (∀ p ∈ news, p.1 ≠ D) → C ≠ D → compPost (model prog w) A E use Q (.ref D) C (.ok .next) { s with heap := h, toks := tk }) :
    CompAt prog w A elt [⟨target, iter, ifs, 0⟩] scope pos cl env use Q E xv s := by
  refine comp_made S hcell hkind F N fun I C D oC h tk hlt hID hDC hC F₁ N₁ W => ?_
  have hCD : C ≠ D := Ne.symm (Nat.ne_of_lt hDC)
  have hIC : I ≠ C := Nat.ne_of_lt (Nat.lt_trans hID hDC)
  have hoff : OffC I C D news₀ := fun p hp => ⟨Nat.ne_of_lt (hlt p hp), Nat.ne_of_lt (Nat.lt_trans (hlt p hp) (Nat.lt_trans hID hDC)), Nat.ne_of_lt (Nat.lt_trans (hlt p hp) hID)⟩
  refine comp_go (s := { s with heap := h, toks := tk }) J (turn_one ..) leafE.wp W (go _) F₁ N₁ hC S.it hoff hIC (Nat.ne_of_lt hID) hCD h0 hLs ?_ ?_
  · intro i v ys mC news oI' oC' h' hi hP hJ F₂ N₂ hC₂ off₂
    obtain ⟨up, hA, hT⟩ := turn I C D { s with heap := h, toks := tk } hlt hID hDC i v ys mC news oI' oC' h' hi hP hJ F₂ N₂ hC₂ off₂
    exact ⟨up, hA, fun oC₃ h₃ tk₃ E' F₃ N₃ hC₃ => rest_leaf hIC (Nat.ne_of_lt hID) hCD (hz _ _ _ _ hJ) (fun _ e => e) (hT oC₃ h₃ tk₃ E' F₃ N₃ hC₃)⟩
  · intro ys mC news oC' h' tk' hJ F₂ N₂ hC₂ off₂
    exact done C D ys mC news oC' h' tk' hJ F₂ N₂ hC₂ (fun p hp => (off₂ p hp).2.1) (fun p hp => (off₂ p hp).2.2) hCD
/-- a block of two clauses: its outer loop -/
theorem comp_run2 {elt target iter target2 iter2 : PySem.Expr} {ifs2 : List PySem.Expr} {scope : Scope} {cl : List (Str × Addr)} {pos : Pos} {use : Option (Value → Sem Unit)} {Q : Value → Shared → Prop} {oI : Obj} {n : Nat} {P : Nat → Value → Prop} {It : Nat → Obj → Prop} {Ls : Heap → Prop} {xv : Value} {news₀ : Led}
    (J : Nat → List Value → (Str → Option Value) → Led → Prop) (hA : A.mark none = A)
    (S : Src prog w A xv s.heap oI n P It Ls) (hcell : ∀ y ∈ scope.names, y.2 ≠ .cell) (hkind : scope.kind = .function) (F : Fr h₀ L s.heap m) (N : News h₀ L s.heap news₀) (h0 : J 0 [] (fun _ => none) news₀)
    (go : ∀ I i v (s : Shared) (Q : Unit → Shared → Prop) (E : Value → Shared → Prop) oI, s.heap.get? I = some oI → It i oI → Q () s → wpAny (model prog w) A (letOwnedTupleGo target (.ref I) v) Q E s)
    (hLs : ∀ i ys mC news h, J i ys mC news → Fr h₀ L h m → News h₀ L h news → Ls h)
    (turn : ∀ I C D s₀, (∀ p ∈ news₀, @LT.lt Nat _ p.1 I) → (@LT.lt Nat _ I D) → (@LT.lt Nat _ D C) → ∀ i v ys mC news oI' oC h, i < n → P i v → J i ys mC news → Fr h₀ L h m → News h₀ L h ((I, oI') :: (C, oC) :: (D, lst ys) :: news) → NsObj oC mC → OffC I C D news →
      ∃ up, Asg prog w A (compEnvC scope cl C env) target v h up ∧ ∀ oC' h' tk' (E' : Value → Shared → Prop), Fr h₀ L h' m → News h₀ L h' ((I, oI') :: (C, oC') :: (D, lst ys) :: news) → NsObj oC' (up mC) →
        wpAny (model prog w) A (eval iter2 (compEnvC scope cl C env)) (NestAt prog w A (.ListComp elt [⟨target, iter, [], 0⟩, ⟨target2, iter2, ifs2, 0⟩] scope pos) (.ref D) (compEnvC scope cl C env) (CEnd h₀ L m I oI' C D s₀ (J (i + 1))) E') E' { s₀ with heap := h', toks := tk' })
    (done : ∀ C D ys mC news oC h tk, J n ys mC news → Fr h₀ L h m → News h₀ L h ((C, oC) :: (D, lst ys) :: news) → NsObj oC mC → (∀ p ∈ news, p.1 ≠ C) → (∀ p ∈ news, p.1 ≠ D) → C ≠ D → compPost (model prog w) A E use Q (.ref D) C (.ok .next) { s with heap := h, toks := tk })
    (hs2 : ∀ C x, foldedSetIterable iter2 (compEnvC scope cl C env) x = pure x := by intro _ _; rfl) :
    CompAt prog w A elt [⟨target, iter, [], 0⟩, ⟨target2, iter2, ifs2, 0⟩] scope pos cl env use Q E xv s := by
  refine comp_made S hcell hkind F N fun I C D oC h tk hlt hID hDC hC F₁ N₁ W => ?_
  have hCD : C ≠ D := Ne.symm (Nat.ne_of_lt hDC)
  have hIC : I ≠ C := Nat.ne_of_lt (Nat.lt_trans hID hDC)
  have hoff : OffC I C D news₀ := fun p hp => ⟨Nat.ne_of_lt (hlt p hp), Nat.ne_of_lt (Nat.lt_trans (hlt p hp) (Nat.lt_trans hID hDC)), Nat.ne_of_lt (Nat.lt_trans (hlt p hp) hID)⟩
  refine comp_go (s := { s with heap := h, toks := tk }) J (turn_nest ..) (nestE.wp hA (hs2 C)) W (go _) F₁ N₁ hC S.it hoff hIC (Nat.ne_of_lt hID) hCD h0 hLs ?_ ?_
  · intro i v ys mC news oI' oC' h' hi hP hJ F₂ N₂ hC₂ off₂
    obtain ⟨up, hA, hT⟩ := turn I C D { s with heap := h, toks := tk } hlt hID hDC i v ys mC news oI' oC' h' hi hP hJ F₂ N₂ hC₂ off₂
    refine ⟨up, hA, fun oC₃ h₃ tk₃ E' F₃ N₃ hC₃ => ?_⟩
    simp only [Tests, if_true]
    exact hT oC₃ h₃ tk₃ E' F₃ N₃ hC₃
  · intro ys mC news oC' h' tk' hJ F₂ N₂ hC₂ off₂
    exact done C D ys mC news oC' h' tk' hJ F₂ N₂ hC₂ (fun p hp => (off₂ p hp).2.1) (fun p hp => (off₂ p hp).2.2) hCD
end
end
section
open PySem PySem.W PySem.Spec PySem.Calls PyProof.Rows PySem.SeqAt
theorem strs_eqAt {vs ws : List Value} {xs ys : List Str} (h : StrsAre vs xs) (g : StrsAre ws ys) (hl : vs.length = ws.length) (A : Around) (s : Shared) :
    ∃ e : Nat → Bool, (∀ j (h1 : j < vs.toArray.size) (h2 : j < ws.toArray.size), EqAt A s vs.toArray[j] ws.toArray[j] (e j)) ∧ (List.range vs.toArray.size).all e = (xs == ys) := by
  have hx := strs_len h
  have hy := strs_len g
  refine ⟨fun j => xs[j]? == ys[j]?, fun j h1 h2 => ?_, ?_⟩
  · simp only [List.size_toArray] at h1 h2
    simp only [List.getElem_toArray]
    have e1 : ∀ {vs : List Value} {xs : List Str} (h : StrsAre vs xs) (j : Nat) (hj : j < vs.length), ∃ t, vs[j] = .str (xs[j]'(strs_len h ▸ hj)) t := by
      intro vs xs h
      induction h with
      | nil => intro j hj; cases hj
      | cons y t r ih =>
        intro j hj
        cases j with
        | zero => exact ⟨t, rfl⟩
        | succ j => exact ih j (by simpa using hj)
    obtain ⟨t, e1'⟩ := e1 h j h1
    obtain ⟨u, e2'⟩ := e1 g j h2
    rw [e1', e2', List.getElem?_eq_getElem (hx ▸ h1), List.getElem?_eq_getElem (hy ▸ h2)]
    have := EqAt.str_str (A := A) (s := s) (xs[j]'(hx ▸ h1)) t (ys[j]'(hy ▸ h2)) u
    simpa using this
  · rw [List.size_toArray, hx]
    have hxy : xs.length = ys.length := by omega
    clear h g hl hx hy
    rw [Bool.eq_iff_iff]
    simp only [List.all_eq_true, List.mem_range, beq_iff_eq]
    constructor
    · intro h
      apply List.ext_getElem? 
      intro i
      by_cases hi : i < xs.length
      · exact h i hi
      · rw [List.getElem?_eq_none (by omega), List.getElem?_eq_none (by omega)]
    · intro h j _; rw [h]
section
variable {prog : Program} {w : World} {A : Around} {E : Value → Shared → Prop} {s : Shared}
theorem eq_strs {l b : Addr} {vs ws : List Value} {xs ys : List Str} {Q : Value → Shared → Prop} (hl : s.heap.IsList l vs.toArray) (hb : s.heap.IsList b ws.toArray) (h1 : StrsAre vs xs) (h2 : StrsAre ws ys) (hu : A.units < cLine)
    (h : Q (.bool (xs == ys)) s) : wpAny (model prog w) A (compareOp .Eq (.ref l) (.ref b)) Q E s := by
  by_cases hlen : vs.length = ws.length
  · obtain ⟨e, he, hall⟩ := strs_eqAt h1 h2 hlen A.in1 s
    refine eq_listAt hl hb (by simp [hlen]) hu he ?_
    rw [hall]
    exact h
  · refine eq_list_lengthsAt hl hb (by simp [hlen]) hu ?_
    have : (xs == ys) = false := by
      rw [beq_eq_false_iff_ne]
      rintro rfl
      exact hlen ((strs_len h1).trans (strs_len h2).symm)
    rw [this] at h
    exact h
theorem ne_nil {l b : Addr} {vs : List Value} {Q : Value → Shared → Prop} (hl : s.heap.IsList l vs.toArray) (hb : s.heap.IsList b #[]) (hu : A.units < cLine)
    (h : Q (.bool (!vs.isEmpty)) s) : wpAny (model prog w) A (compareOp .NotEq (.ref l) (.ref b)) Q E s := by
  cases vs with
  | nil => exact RcNeAt.lists (e := fun _ => true) hl hb rfl hu (fun j h1 => by simp at h1) prog w E Q (by simpa using h)
  | cons v vs => exact RcNeAt.lists_lengths hl hb (by simp) hu prog w E Q (by simpa using h)
def gtB (a : Int) (p : Bool) (b : Int) (q : Bool) : Bool := if a == b then (if p == q then false else decide (b2i p > b2i q)) else decide (a > b)
theorem eqB_bb {p q : Bool} {Q : Bool → Shared → Prop} (h : Q (p == q) s) : wpAny (model prog w) A (eqBool (.bool p) (.bool q)) Q E s := EqAt.bool_bool p q prog w E Q h
theorem rc_ii {a b : Int} {t u : Tok} {Q : Value → Shared → Prop} (h : Q (.bool (decide (b < a))) s) : wpAny (model prog w) A (richCompare .Gt (.int a t) (.int b u)) Q E s := gt_int h
theorem rc_bb {p q : Bool} {Q : Value → Shared → Prop} (h : Q (.bool (decide (b2i p > b2i q))) s) : wpAny (model prog w) A (richCompare .Gt (.bool p) (.bool q)) Q E s := gt_bool h
theorem gt_body {a b : Addr} {x y : Int} {p q : Bool} {t u : Tok} {n n2 : Nat} {dd dd2 : Option Addr} {sl sl2 : Array (Option Value)} :
    Meets (Builtin.«tuple.__gt__» ⟨[.ref a, .ref b], []⟩)
      (fun A R s => s.heap.get? a = some { cls := .type "tuple", dict := dd, data := .seq #[.int x t, .bool p] n, slots := sl } ∧ s.heap.get? b = some { cls := .type "tuple", dict := dd2, data := .seq #[.int y u, .bool q] n2, slots := sl2 } ∧
        R (.ok (.ret (.bool (gtB x p y q)))) s) :=
  .of_wp fun prog w A R s h => by
    obtain ⟨hp, g, d, tk, os⟩ := s; obtain ⟨hl, hb, h⟩ := h
    have f2 := AutoSeq1.sub_tuple_tuple
    wp_walk using wpAny_loadPart' hl, wpAny_loadPart' hb, wpAny_eqBool_int, eqB_bb, rc_ii, rc_bb
    cases hxy : (x == y)
    · simp only [Bool.not_false, if_true]
      wp_walk using wpAny_eqBool_int, eqB_bb, rc_ii, rc_bb
      refine ⟨_, rfl, ?_⟩
      have e : gtB x p y q = decide (y < x) := by unfold gtB; rw [hxy]; simp
      rw [← e]
      exact h
    · simp only [Bool.not_true, Bool.false_eq_true, if_false]
      wp_walk using wpAny_eqBool_int, eqB_bb, rc_ii, rc_bb
      cases hpq : (p == q)
      · simp only [Bool.not_false, if_true]
        wp_walk using wpAny_eqBool_int, eqB_bb, rc_ii, rc_bb
        refine ⟨_, rfl, ?_⟩
        have e : gtB x p y q = decide (b2i p > b2i q) := by unfold gtB; rw [hxy, hpq]; simp
        rw [← e]
        exact h
      · simp only [Bool.not_true, Bool.false_eq_true, if_false]
        wp_walk using wpAny_eqBool_int, eqB_bb, rc_ii, rc_bb
        refine ⟨_, rfl, ?_⟩
        have e : gtB x p y q = false := by unfold gtB; rw [hxy, hpq]; simp
        rw [e] at h
        exact h
end
end
section
open PySem PySem.W PySem.Spec PySem.Calls PyProof.Rows PySem.SeqAt
abbrev pairObj (x : Int) (t : Tok) (p : Bool) : Obj := { cls := .type "tuple", data := .seq #[.int x t, .bool p] }
def PairN (need : Led) (v : Value) (d : Int × Bool) : Prop := ∃ T t, v = .ref T ∧ (T, pairObj d.1 t d.2) ∈ need
theorem PairN.more {need need' : Led} {v : Value} {d : Int × Bool} (st : ∀ p ∈ need, p ∈ need') (x : PairN need v d) : PairN need' v d := let ⟨T, t, e, h⟩ := x; ⟨T, t, e, st _ h⟩
inductive PairsN (need : Led) : List Value → List (Int × Bool) → Prop
  | nil : PairsN need [] []
  | snoc {us ds v d} : PairsN need us ds → PairN need v d → PairsN need (us ++ [v]) (ds ++ [d])
theorem PairsN.more {need need' : Led} (st : ∀ p ∈ need, p ∈ need') {us ds} (x : PairsN need us ds) : PairsN need' us ds := by
  induction x with
  | nil => exact .nil
  | snoc _ h ih => exact .snoc ih (h.more st)
theorem PairsN.len {need : Led} {us ds} (x : PairsN need us ds) : us.length = ds.length := by
  induction x with
  | nil => rfl
  | snoc _ h ih => simp only [List.length_append, List.length_cons, List.length_nil, ih]
theorem PairsN.at {need : Led} {us ds} (x : PairsN need us ds) : ∀ {i : Nat} {v : Value}, us[i]? = some v → ∃ d, ds[i]? = some d ∧ PairN need v d := by
  induction x with
  | nil => intro i v h; cases h
  | @snoc us ds v' d' x h ih =>
    intro i v hv
    by_cases hi : i < us.length
    · rw [List.getElem?_append_left hi] at hv
      obtain ⟨d, e2, e3⟩ := ih hv
      exact ⟨d, by rw [List.getElem?_append_left (x.len ▸ hi)]; exact e2, e3⟩
    · have hi' : us.length ≤ i := by omega
      rw [List.getElem?_append_right hi'] at hv
      have h0 : i - us.length = 0 := by
        cases q : i - us.length with
        | zero => rfl
        | succ n => rw [q] at hv; cases hv
      rw [h0] at hv
      have ev := Option.some.inj hv
      subst ev
      exact ⟨d', by rw [List.getElem?_append_right (x.len ▸ hi'), ← x.len, h0]; rfl, h⟩
def maxStep (d x : Int × Bool) : Int × Bool := if gtB x.1 x.2 d.1 d.2 = true then x else d
def maxD (ds : List (Int × Bool)) : Int × Bool := ds.tail.foldl maxStep (ds.headD (0, false))
section
variable {prog : Program} {w : World} {A : Around} {E : Value → Shared → Prop} {s : Shared} {h₀ : Heap} {L l : Addr} {m : Str → Option Value} {need : Led}
theorem gt_pairs {v u : Value} {d e : Int × Bool} {Q : Value → Shared → Prop} (N : News h₀ L s.heap need) (hv : PairN need v d) (hu : PairN need u e) (hz : A.units < cLine) (h : Q (.bool (gtB d.1 d.2 e.1 e.2)) s) :
    wpAny (model prog w) A (richCompare .Gt v u) Q E s := by
  obtain ⟨T, t, rfl, hT⟩ := hv
  obtain ⟨U, t', rfl, hU⟩ := hu
  have h1 := (N _ hT).1
  have h2 := (N _ hU).1
  exact richCompare_meets_room (op := .Gt) ⟨_, h1, rfl⟩ ⟨_, h2, rfl⟩ F.slot_tuple_gt F.entry_tuple_gt (F.args_tuple_gt_2 _ _) gt_body ⟨h1, h2, show Value.bool _ ≠ Value.notImplemented ∧ Q _ s from ⟨(fun x => nomatch x), h⟩⟩ hz
theorem take_snoc' {α : Type} {l : List α} {i : Nat} {v : α} (h : l[i]? = some v) : l.take (i + 1) = l.take i ++ [v] := by rw [List.take_add_one, h]; rfl
theorem max_go {vs : List Value} {ds : List (Int × Bool)} {I S : Addr} {R : Result → Shared → Prop} (hh : A.handled = none) (hu : A.units + 10 < cLine) (hl : ∀ h, News h₀ L h need → h.IsList l vs.toArray) (hp : PairsN need vs ds)
    (hIS : I ≠ S) (hnI : ∀ p ∈ need, p.1 ≠ I) (hnS : ∀ p ∈ need, p.1 ≠ S)
    (hR : ∀ v h' tk', PairN need v (maxD ds) → Fr h₀ L h' m → News h₀ L h' need → R (.ok (.ret v)) { s with heap := h', toks := tk' }) :
    ∀ (k j : Nat) (h : Heap) (tk : Nat) (vb : Value) (oI : Obj) (c : Nat), vs.length - j = k → 1 ≤ j → j ≤ vs.length → Fr h₀ L h m → News h₀ L h ((I, oI) :: (S, { cls := .type "list", data := .seq #[vb, vb] c }) :: need) → ItL l j oI → PairN need vb (maxD (ds.take j)) →
      codeAny (model prog w) A (.builtin "max.loop" ⟨[.ref I, .none, .ref S], []⟩) R { s with heap := h, toks := tk } := by
  have hname : (toString "max" ++ toString ".loop" : String) = "max.loop" := by decide
  have W := Its.list (prog := prog) (w := w) (A := A.in1) hh I l vs.toArray
  intro k
  induction k with
  | zero =>
    intro j h tk vb oI c hk h1 hj F N hI hb
    have hjn : j = vs.toArray.size := by rw [List.size_toArray]; omega
    have nI := N _ (.head _)
    have nS := N (S, _) (.tail _ (.head _))
    have Nn : News h₀ L h need := fun p hp => N p (.tail _ (.tail _ hp))
    refine codeAny_builtin PySem.F.entry_max_loop ?_
    rw [Around.under_plainId PySem.F.plain_max_loop _]
    show wpAny _ A.in1 (seqItems? (.ref S) >>= _) _ _ _
    refine wpAny_bind (wpAny_seqItems nS.1 rfl ?_)
    show wpAny _ A.in1 (tryCatch (pyNext (.ref I)) _ >>= _) _ _ _
    refine wpAny_bind (wpAny_tryCatch (W.done _ _ _ oI nI.1 (hjn ▸ hI) (hl h Nn) fun h' hk' => ?_))
    have s1 := Heap.SameBut.update h' S (Obj.mapSeq fun _ => (#[] : Array Value))
    show wpAny _ A.in1 (updateSeq S (fun _ => #[]) >>= _) _ _ _
    refine wpAny_bind ?_
    refine wpAny_updateSeq (hk' S _ (Ne.symm hIS) nS.1) rfl (wpAny_bind (wpAny_letGo (wpAny_pure ?_)))
    have F1 : Fr h₀ L h' m := ⟨F.ns.at' fun o e => hk' _ o (Ne.symm nI.2.1) e, fun b o e => hk' b o (fun q => by rw [q, nI.2.2] at e; cases e) (F.keep b o e), F.above⟩
    refine hR vb _ _ ?_ (F1.change s1 nS.2.1 nS.2.2) fun p hp => ⟨s1.extBut _ _ (hnS p hp) (hk' _ _ (hnI p hp) (Nn p hp).1), (Nn p hp).2⟩
    rw [hjn, List.size_toArray, hp.len, List.take_length] at hb
    exact hb
  | succ k ih =>
    intro j h tk vb oI c hk h1 hj F N hI hb
    have hlt : j < vs.toArray.size := by rw [List.size_toArray]; omega
    have nI := N _ (.head _)
    have nS := N (S, _) (.tail _ (.head _))
    have Nn : News h₀ L h need := fun p hp => N p (.tail _ (.tail _ hp))
    refine codeAny_builtin PySem.F.entry_max_loop ?_
    rw [Around.under_plainId PySem.F.plain_max_loop _]
    show wpAny _ A.in1 (seqItems? (.ref S) >>= _) _ _ _
    refine wpAny_bind (wpAny_seqItems nS.1 rfl ?_)
    show wpAny _ A.in1 (tryCatch (pyNext (.ref I)) _ >>= _) _ _ _
    refine wpAny_bind (wpAny_tryCatch (W.item j _ _ _ oI hlt nI.1 hI (hl h Nn) fun v h' oI' hP ho' hI' hk' => ?_))
    have hv : vs[j]? = some v := by simpa using hP
    obtain ⟨d, hd, hvd⟩ := hp.at hv
    have hS' := hk' S _ (Ne.symm hIS) nS.1
    have F1 : Fr h₀ L h' m := ⟨F.ns.at' fun o e => hk' _ o (Ne.symm nI.2.1) e, fun b o e => hk' b o (fun q => by rw [q, nI.2.2] at e; cases e) (F.keep b o e), F.above⟩
    have N1 : News h₀ L h' need := fun p hp => ⟨hk' _ _ (hnI p hp) (Nn p hp).1, (Nn p hp).2⟩
    have hstep : maxD (ds.take (j + 1)) = maxStep (maxD (ds.take j)) d := by
      rw [take_snoc' hd]
      unfold maxD
      cases q : ds.take j with
      | nil =>
        have := congrArg List.length q
        rw [List.length_take, ← hp.len] at this
        rw [List.size_toArray] at hlt
        have h0 : min j vs.length = 0 := this
        omega
      | cons a r => simp [List.foldl_append]
    show wpAny _ A.in1 (tryCatch (holding [v, v] (richCompare .Gt v vb >>= _)) _ >>= _) _ _ _
    refine wpAny_bind (wpAny_tryCatch (wpAny_holding (wpAny_bind (gt_pairs N1 hvd hb (by rw [units_in1]; omega) ?_))))
    refine wpAny_bind (wpAny_holding (wpAny_truthy_bool ?_))
    refine wpAny_bind (wpAny_letGo (wpAny_pure ?_))
    cases hg : gtB d.1 d.2 (maxD (ds.take j)).1 (maxD (ds.take j)).2 with
    | true =>
      simp only [if_true]
      refine wpAny_bind ?_
      refine wpAny_updateSeq hS' rfl (wpAny_bind (wpAny_letGo ?_))
      rw [hname]
      have s1 := Heap.SameBut.update h' S (Obj.mapSeq fun _ => (#[v, v] : Array Value))
      obtain ⟨c', hc'⟩ : ∃ c', (h'.update S (Obj.mapSeq fun _ => (#[v, v] : Array Value))).get? S = some { cls := .type "list", data := .seq #[v, v] c' } := ⟨_, Heap.get?_update_self _ hS' rfl⟩
      refine wpAny_pure ⟨plainId_quiet PySem.F.plain_max_loop _, ih (j + 1) _ _ v oI' c' (by omega) (by omega) (by rw [List.size_toArray] at hlt; omega) (F1.change s1 nS.2.1 nS.2.2) (fun p hp => ?_) hI' (by rw [hstep]; unfold maxStep; rw [if_pos hg]; exact hvd)⟩
      rcases List.mem_cons.mp hp with rfl | hp
      · exact ⟨s1.extBut _ _ hIS ho', nI.2⟩
      · rcases List.mem_cons.mp hp with rfl | hp
        · exact ⟨hc', nS.2⟩
        · exact ⟨s1.extBut _ _ (hnS p hp) (N1 p hp).1, (N1 p hp).2⟩
    | false =>
      simp only [Bool.false_eq_true, if_false]
      refine wpAny_bind (wpAny_letGo ?_)
      rw [hname]
      refine wpAny_pure ⟨plainId_quiet PySem.F.plain_max_loop _, ih (j + 1) _ _ vb oI' c (by omega) (by omega) (by rw [List.size_toArray] at hlt; omega) F1 (fun p hp => ?_) hI' (by rw [hstep]; unfold maxStep; rw [if_neg (by rw [hg]; decide)]; exact hb)⟩
      rcases List.mem_cons.mp hp with rfl | hp
      · exact ⟨ho', nI.2⟩
      · rcases List.mem_cons.mp hp with rfl | hp
        · exact ⟨hS', nS.2⟩
        · exact N1 p hp
theorem max_call {vs : List Value} {ds : List (Int × Bool)} {Q : Value → Shared → Prop} (hh : A.handled = none) (hu : A.units + 20 < cLine) (F : Fr h₀ L s.heap m) (N : News h₀ L s.heap need) (hl : ∀ h, News h₀ L h need → h.IsList l vs.toArray) (hp : PairsN need vs ds) (hne : vs.isEmpty = false)
    (h : ∀ v h' tk', PairN need v (maxD ds) → Fr h₀ L h' m → News h₀ L h' need → Q v { s with heap := h', toks := tk' }) :
    wpAny (model prog w) A (call (.builtin "max") [.ref l]) Q E s := by
  have hname : (toString "max" ++ toString ".loop" : String) = "max.loop" := by decide
  refine call_function_tree PySem.F.kind_max PySem.F.plain_max PySem.F.entry_max (PySem.F.args_max1 _) ?_
  show wpAny _ A.in1 (Builtin.Builtins.bindParams "max" ["key", "default"] 0 ⟨[], []⟩ >>= _) _ _ s
  refine wpAny_bind (wpAny_of_eq (show Builtin.Builtins.bindParams "max" ["key", "default"] 0 ⟨[], []⟩ = pure [none, none] from rfl) ?_)
  refine wpAny_bind (wpAny_pure ?_)
  refine wpAny_bind (wpAny_pyIter_list (hl _ N) ?_)
  have hlt : ∀ p ∈ need, p.1 < s.heap.objs.size := fun p hp => Heap.lt_size (N p hp).1
  have F1 := F.push { cls := .type "list_iterator", data := .fields #[.ref l, .int 0 0] }
  have N1 := N.push F { cls := .type "list_iterator", data := .fields #[.ref l, .int 0 0] }
  generalize hH1 : s.heap.push { cls := .type "list_iterator", data := .fields #[.ref l, .int 0 0] } = H1 at F1 N1 ⊢
  have hI1 : s.heap.objs.size < H1.objs.size := by rw [← hH1, Heap.size_push]; exact Nat.lt_succ_self _
  refine wpAny_bind (wpAny_newObj_type ?_)
  have F2 := F1.push { cls := .type "list", data := .seq ([] : List Value).toArray }
  have N2 := N1.push F1 { cls := .type "list", data := .seq ([] : List Value).toArray }
  rw [hname]
  refine wpAny_pure ⟨plainId_quiet PySem.F.plain_max_loop _, ?_⟩
  dsimp only
  generalize hH2 : H1.push { cls := .type "list", data := .seq ([] : List Value).toArray } = H2 at F2 N2 ⊢
  generalize hI : s.heap.objs.size = I at *
  generalize hS : H1.objs.size = S at *
  have nI := N2 _ (.tail _ (.head _))
  have nS := N2 _ (.head _)
  have hIS : I ≠ S := Nat.ne_of_lt hI1
  have hnI : ∀ p ∈ need, p.1 ≠ I := fun p hp => Nat.ne_of_lt (hlt p hp)
  have hnS : ∀ p ∈ need, p.1 ≠ S := fun p hp => Nat.ne_of_lt (Nat.lt_trans (hlt p hp) hI1)
  have Nn : News h₀ L H2 need := fun p hp => N2 p (.tail _ (.tail _ hp))
  cases hvs : vs with
  | nil => rw [hvs] at hne; cases hne
  | cons v₀ r =>
  have hn0 : 0 < vs.toArray.size := by rw [hvs]; simp
  have W := Its.list (prog := prog) (w := w) (A := A.in1) hh I l vs.toArray
  refine codeAny_builtin PySem.F.entry_max_loop ?_
  rw [Around.under_plainId PySem.F.plain_max_loop _]
  show wpAny _ A.in1 (seqItems? (.ref S) >>= _) _ _ _
  refine wpAny_bind (wpAny_seqItems nS.1 rfl ?_)
  show wpAny _ A.in1 (tryCatch (pyNext (.ref I)) _ >>= _) _ _ _
  refine wpAny_bind (wpAny_tryCatch (W.item 0 _ _ _ _ hn0 nI.1 ⟨rfl, rfl⟩ (hl H2 Nn) fun v h' oI' hP ho' hI' hk' => ?_))
  have hv : vs[0]? = some v := by simpa using hP
  obtain ⟨d, hd, hvd⟩ := hp.at hv
  have hS' := hk' S _ (Ne.symm hIS) nS.1
  have F3 : Fr h₀ L h' m := ⟨F2.ns.at' fun o e => hk' _ o (Ne.symm nI.2.1) e, fun b o e => hk' b o (fun q => by rw [q, nI.2.2] at e; cases e) (F2.keep b o e), F2.above⟩
  have N3 : News h₀ L h' need := fun p hp => ⟨hk' _ _ (hnI p hp) (Nn p hp).1, (Nn p hp).2⟩
  show wpAny _ A.in1 (updateSeq S (fun _ => #[v, v]) >>= _) _ _ _
  refine wpAny_bind ?_
  refine wpAny_updateSeq hS' rfl ?_
  rw [hname]
  have s1 := Heap.SameBut.update h' S (Obj.mapSeq fun _ => (#[v, v] : Array Value))
  obtain ⟨c', hc'⟩ : ∃ c', (h'.update S (Obj.mapSeq fun _ => (#[v, v] : Array Value))).get? S = some { cls := .type "list", data := .seq #[v, v] c' } := ⟨_, Heap.get?_update_self _ hS' rfl⟩
  refine wpAny_pure ⟨plainId_quiet PySem.F.plain_max_loop _, max_go hh (by omega) hl hp hIS hnI hnS (fun v h' tk' a b c => h v h' tk' a b c) _ 1 _ _ v oI' c' rfl (Nat.le_refl 1) (by rw [List.size_toArray] at hn0; omega) (F3.change s1 nS.2.1 nS.2.2) (fun p hp => ?_) hI' ?_⟩
  · rcases List.mem_cons.mp hp with rfl | hp
    · exact ⟨s1.extBut _ _ hIS ho', nI.2⟩
    · rcases List.mem_cons.mp hp with rfl | hp
      · exact ⟨hc', nS.2⟩
      · exact ⟨s1.extBut _ _ (hnS p hp) (N3 p hp).1, (N3 p hp).2⟩
  · cases q : ds with
    | nil => rw [q] at hd; cases hd
    | cons a r =>
      rw [q] at hd
      have e := Option.some.inj hd
      subst e
      exact hvd
end
end
section
open PySem PySem.W PySem.Spec PySem.Calls PyProof.Rows
section
variable {w : World} {Post : Heap → Heap → Value → Prop} {name qual : Str} {params : Arguments} {body : List Stmt} {scope : Scope} {dV kV doc pm cdv ct oc : Value} {an od : Option Addr} {osl : Array (Option Value)} {f : Addr} {args : List Value} {binds : List (Str × Value)}
theorem Fn.cells {nd nu : Nat} {Pre : Heap → Prop}
    (ho : (Mine.hd.heap_39 w.params).lookup f = some ⟨oc, od, .func (fnOf name qual params body scope dV kV doc pm an cdv ct), osl⟩) (hcd : codeIn (Mine.hd.heap_39 w.params) cdv qual = true)
    (hnd : 1 ≤ nd) (hbind : ∀ s : Shared, BindsTo s (fnOf name qual params body scope dV kV doc pm an cdv ct) ⟨args, []⟩ binds) (hkind : (binds.all fun y => scope.names.lookup y.1 == some .local || scope.names.lookup y.1 == some .cell) = true)
    (hnod : ((cellsFrom 0 scope.names []).map (·.1)).Nodup)
    (h : ∀ (p : Program) (loose : List Str) (mean : ExcName → Option Value) (mg mb : Str → Option Value) (dp un : Nat) (gd : Option (List Code)) (env : Env) (outer : List Env) (base : Heap) (s : Shared) (L' : Addr) (h₁ : Heap) (tk : Nat) (cells : List (Addr × Obj)),
      dp + nd < recursionLimit → un + nu < cLine → Pre s.heap → env.scope.kind = .function →
      Fr s.heap L' h₁ (bindL (envOfC qual scope L' f cdv).kindOf binds fun _ => none) → News s.heap L' h₁ cells → CellsAre (bindC (envOfC qual scope L' f cdv).kindOf binds fun _ => none) (cellsFrom (L' + 1) scope.names []) cells →
      Below ({ handled := none, depth := dp, frames := some (env :: outer), guards := gd, units := un } : Around) base (env :: outer) s.heap → (Mine.hd.heap_39 w.params).In s.heap → Top p loose mean mg mb s.heap →
      wpAny (model PG w) (({ handled := none, depth := dp, frames := some (env :: outer), guards := gd, units := un } : Around).deeper (envOfC qual scope L' f cdv)) (execs body (envOfC qual scope L' f cdv))
        (fun fl s' => FnEnd s L' Post (match fl with | .ret v => v | _ => .none) s') (fun _ _ => False)
        { s with heap := h₁, toks := tk })
    (hco : scope.isCoroutine = false := by rfl) (hgen : scope.isGenerator = false := by rfl) (hk : scope.kind = .function := by rfl) :
    Fn w f args nd nu Pre Post := by
  intro p loose mean mg mb dp un gd cn cs a ccd cl outer A₀ base h₀ L m s Q E B F X T hks hd hu hpre hret
  refine wpAny_call ?_
  have X' := X.keeps F.keep
  have T' := T.keeps F.keep
  refine codeAny_call_function (fd := fnOf name qual params body scope dV kV doc pm an cdv ct) (show dp < _ by omega) (X' _ _ ho) rfl hco hgen rfl (codeRec_of X' hcd) (hbind s _ _ _ _ ?_)
  refine wpAny_newFunctionEnv_cells hk (kindsX hkind _) fun env' he s' x => ?_
  subst he
  refine ⟨T'.nolimit.keeps x.toInCall.keep, codeAny_func ?_⟩
  obtain ⟨h₁, tk, rfl, _⟩ := x.done
  have hk₁ := x.toInCall.keep
  obtain ⟨cells, NC, Y⟩ := Cl.news (h₀ := s.heap) (Nat.le_refl _) fun n c hm => ⟨x.cell n c (lookup_of_mem_nodup (cellsFrom_names scope.names 0 (s.heap.objs.size + 1) [] [] rfl ▸ hnod) hm), x.above n c hm⟩
  have B' := pushX (env := envX cn cs L a ccd cl) B F rfl hks
  refine wpAny_mono (h p loose mean mg mb dp un gd _ outer base s s.heap.objs.size h₁ tk cells hd hu hpre hks ⟨x.toInCall.ns, hk₁, Nat.le_refl _⟩ NC Y ⟨rfl, B'.stays, B'.frames⟩ X' T') (fun fl s' he => ?_) fun _ _ x => x.elim
  obtain ⟨m', tk, h', rfl, F', hp⟩ := he
  exact hret _ h' tk F'.keep hp
end
end
section
open PySem PySem.W PySem.Spec PySem.Calls PyProof.Rows
section
variable {prog : Program} {w : World} {A : Around} {E : Value → Shared → Prop} {s : Shared} {h₀ : Heap} {L D : Addr} {news : Led} {n : Nat} {u : Tok} {vs : List Value} {k : Int} {v : Value}
theorem item_tp {value slice : PySem.Expr} {Q : Value → Shared → Prop} (N : News h₀ L s.heap news) (hm : (D, ({ cls := .type "tuple", data := .seq vs.toArray n } : Obj)) ∈ news) (h0 : 0 ≤ k) (hx : vs[k.toNat]? = some v) (hfit : k < 2 ^ 63) (h : Q v s)
    (hs : subscripted slice false (.ref D) (.int k u) = operate [.ref D, .int k u] (getItem (.ref D) (.int k u))) :
    wpAny (model prog w) A (subscriptTail value slice (.ref D) (.int k u)) Q E s := by
  have hlt := (List.getElem?_eq_some_iff.mp hx).1
  exact item_tupleT ⟨_, (N _ hm).1, rfl, n, rfl⟩ (by omega) hfit (seqIndex_of h0 (by omega)) hx h hs
theorem cell_nm {M : Model} {C c : Addr} {o : Obj} {x : Str} {pos : Pos} {scope : Scope} {cl : List (Str × Addr)} {env : Env} {Q : Value → Shared → Prop} (N : News h₀ L s.heap news) (hm : (c, o) ∈ news) (hd : o.data = .cell (some v)) (h : Q v s) (hc : cl.lookup x = some c)
    (hk : (compEnvC scope cl C env).scope.kind = .function) (hx : (compEnvC scope cl C env).kindOf x = some .cell) (hb : (x == ("__debug__" : Str)) = false) :
    wpAny M A (eval (.Name x pos) (compEnvC scope cl C env)) Q E s := wpAny_Name (wpAny_loadName_cell hk hx hc ⟨o, (N _ hm).1, hd⟩ h) hb
theorem own_nm {M : Model} {C : Addr} {oC : Obj} {mC : Str → Option Value} {x : Str} {pos : Pos} {scope : Scope} {cl : List (Str × Addr)} {env : Env} {Q : Value → Shared → Prop} (N : News h₀ L s.heap news) (hm : (C, oC) ∈ news) (hC : LCg.NsObj oC mC) (hx : mC x = some v) (h : Q v s)
    (hk : (compEnvC scope cl C env).scope.kind = .function) (hl : (compEnvC scope cl C env).kindOf x = some .local) (hd : (x == ("__debug__" : Str)) = false) :
    wpAny M A (eval (.Name x pos) (compEnvC scope cl C env)) Q E s := LCgL.ld_own N hm hC hx h hk hl hd
theorem ifexp01 {M : Model} {m : Str → Option Value} {env : Env} {x : Str} {b : Bool} {px p0 p1 pos : Pos} {k0 k1 : Nat} {Q : Value → Shared → Prop} (F : Fr h₀ L s.heap m) (hL : env.locals = L) (hm : m x = some (.bool b)) (hk : env.scope.kind = .function) (hl : env.kindOf x = some .local) (hd : (x == ("__debug__" : Str)) = false)
    (h : ∀ tk t, Q (.int (if b = true then 0 else 1) t) { s with toks := tk }) :
    wpAny M A (eval (.IfExp (.Name x px) (.Constant (.int 0) k0 p0) (.Constant (.int 1) k1 p1) pos) env) Q E s := by
  subst hL
  refine wpAny_IfExp (isTrue_plain (wpAny_Name (wpAny_loadName_local hk hl F.ns hm (wpAny_truthy_bool ?_)) hd))
  cases b with
  | true => exact wpAny_Constant_int (h _ _)
  | false => exact wpAny_Constant_int (h _ _)
theorem ne_nil' {l b : Addr} {n' : Nat} {Q : Value → Shared → Prop} (N : News h₀ L s.heap news) (hl : (l, ({ cls := .type "list", data := .seq vs.toArray n } : Obj)) ∈ news) (hb : (b, ({ cls := .type "list", data := .seq #[] n' } : Obj)) ∈ news) (hu : A.units < cLine)
    (h : Q (.bool (!vs.isEmpty)) s) : wpAny (model prog w) A (compareOp .NotEq (.ref l) (.ref b)) Q E s :=
  ne_nil ⟨_, (N _ hl).1, rfl, _, rfl⟩ ⟨_, (N _ hb).1, rfl, _, rfl⟩ hu h
theorem item_if {R ra rb : Addr} {b : Bool} {r0 r1 : List Str × List (Str × Bool)} {own : Led} {value slice : PySem.Expr} {Q : Value → Shared → Prop} (N : News h₀ L s.heap news) (hm : (R, W.listOf #[.ref ra, .ref rb] n) ∈ news) (ha : RowN own ra r0) (hb : RowN own rb r1) 
    (h : ∀ a nl ul vs us, RowAt own a nl ul vs us (if b = true then r0 else r1).1 (if b = true then r0 else r1).2 → Q (.ref a) s)
    (hs : ∀ k : Int, subscripted slice false (.ref R) (.int k u) = operate [.ref R, .int k u] (getItem (.ref R) (.int k u))) :
    wpAny (model prog w) A (subscriptTail value slice (.ref R) (.int (if b = true then 0 else 1) u)) Q E s := by
  have hl : s.heap.IsList R #[.ref ra, .ref rb] := ⟨_, (N _ hm).1, rfl, _, rfl⟩
  cases b with
  | true =>
    obtain ⟨nl, ul, vs, us, x⟩ := ha
    exact tail_any hl.typeIs slot_list_getitem.lookup (wpAny_getItem_list hl (by decide) (by decide) rfl (h _ _ _ _ _ x)) (hs _)
  | false =>
    obtain ⟨nl, ul, vs, us, x⟩ := hb
    exact tail_any hl.typeIs slot_list_getitem.lookup (wpAny_getItem_list hl (by decide) (by decide) rfl (h _ _ _ _ _ x)) (hs _)
theorem pick_take (vs : List Value) (k : Nat) : kms_pick vs none (some (k : Int)) = vs.take k := by
  unfold kms_pick
  have h1 : kms_lo none vs.length = 0 := by simp [kms_lo]
  have h2 : kms_hi (some (k : Int)) vs.length = min k vs.length := by simp only [kms_hi]; split <;> omega
  rw [h1, h2, List.drop_zero, Nat.sub_zero]
  by_cases h : k ≤ vs.length
  · rw [Nat.min_eq_left h]
  · rw [Nat.min_eq_right (by omega), List.take_length, List.take_of_length_le (by omega)]
theorem sl_take {l : Addr} {m : Str → Option Value} {k : Nat} {u : Tok} {value slice : PySem.Expr} {Q : Value → Shared → Prop} (F : Fr h₀ L s.heap m) (N : News h₀ L s.heap news) (hm : (l, ({ cls := .type "list", data := .seq vs.toArray n } : Obj)) ∈ news)
    (h : ∀ D h', Fr h₀ L h' m → News h₀ L h' ((D, W.listOf (vs.take k).toArray 0) :: news) → (∀ p ∈ news, p.1 < D) → Q (.ref D) { s with heap := h' })
    (hs : subscripted slice false (.ref l) (.ref s.heap.objs.size) = operate [.ref s.heap.objs.size, .ref l] (getItem (.ref l) (.ref s.heap.objs.size))) (ht : ∀ r, letTemporaryGo value (.ref l) r = pure ()) (hz : vs.length ≤ 1000000) :
    wpAny (model prog w) A (subscriptTail value slice (.ref l) (.ref s.heap.objs.size)) Q E { s with heap := s.heap.push { cls := .type "slice", data := .fields #[.none, .int k u, .none] } } := by
  refine sl_list (lo := none) (hi := some (k : Int)) F N ⟨_, (N _ hm).1, rfl, _, rfl⟩ ?_ ?_ (fun D h' F' N' l1 => ?_) hs ht (by rw [sizeLine_eq, List.size_toArray]; omega)
  · kmk_part
  · kmk_part
  · rw [pick_take] at N'
    exact h D h' F' N' l1
theorem eq_strs' {l b : Addr} {n' : Nat} {ws : List Value} {xs ys : List Str} {Q : Value → Shared → Prop} (N : News h₀ L s.heap news) (hl : (l, ({ cls := .type "list", data := .seq vs.toArray n } : Obj)) ∈ news) (hb : (b, ({ cls := .type "list", data := .seq ws.toArray n' } : Obj)) ∈ news) (h1 : StrsAre vs xs) (h2 : StrsAre ws ys) (hu : A.units < cLine)
    (h : Q (.bool (xs == ys)) s) : wpAny (model prog w) A (compareOp .Eq (.ref l) (.ref b)) Q E s :=
  eq_strs ⟨_, (N _ hl).1, rfl, _, rfl⟩ ⟨_, (N _ hb).1, rfl, _, rfl⟩ h1 h2 hu h
theorem parts_len (p y : Str) : (rowsOf (Txt.split p y)).length ≤ p.length + 2 := Nat.le_trans (rowsOf_len _) (split_len p y)
theorem len_pt {l : Addr} {p y : Str} {Q : Value → Shared → Prop} (N : News h₀ L s.heap news) (hm : (l, ({ cls := .type "list", data := .seq vs.toArray n } : Obj)) ∈ news) (hs : StrsAre vs (rowsOf (Txt.split p y))) (hp : p.length ≤ 1000)
    (h : ∀ t tk, Q (.int vs.length t) { s with toks := tk }) : wpAny (model prog w) A (call (.builtin "len") [.ref l]) Q E s := by
  have h1 := parts_len p y
  have h2 := strs_len hs
  have hl : s.heap.IsList l vs.toArray := ⟨_, (N _ hm).1, rfl, _, rfl⟩
  refine len_list hl (by rw [List.size_toArray]; omega) ?_
  rw [List.size_toArray]
  exact h _ _
theorem len_rw {l : Addr} {Q : Value → Shared → Prop} (N : News h₀ L s.heap news) (hm : (l, ({ cls := .type "list", data := .seq vs.toArray n } : Obj)) ∈ news) (hp : vs.length ≤ 1000000)
    (h : ∀ t tk, Q (.int vs.length t) { s with toks := tk }) : wpAny (model prog w) A (call (.builtin "len") [.ref l]) Q E s := by
  have hl : s.heap.IsList l vs.toArray := ⟨_, (N _ hm).1, rfl, _, rfl⟩
  refine len_list hl (by rw [List.size_toArray]; omega) ?_
  rw [List.size_toArray]
  exact h _ _
theorem cell_gen {M : Model} {c : Addr} {o : Obj} {x : Str} {pos : Pos} {env : Env} {Q : Value → Shared → Prop} (N : News h₀ L s.heap news) (hm : (c, o) ∈ news) (hd : o.data = .cell (some v)) (h : Q v s) (hc : env.cells.lookup x = some c)
    (hk : env.scope.kind = .function) (hx : env.kindOf x = some .cell) (hb : (x == ("__debug__" : Str)) = false) : wpAny M A (eval (.Name x pos) env) Q E s := wpAny_Name (wpAny_loadName_cell hk hx hc ⟨o, (N _ hm).1, hd⟩ h) hb
theorem max_call' {l : Addr} {m : Str → Option Value} {ds : List (Int × Bool)} {need : Led} {Q : Value → Shared → Prop} (hh : A.handled = none) (hu : A.units + 20 < cLine) (F : Fr h₀ L s.heap m) (N : News h₀ L s.heap news) (hm : (l, ({ cls := .type "list", data := .seq vs.toArray n } : Obj)) ∈ news) (hp : PairsN need vs ds) (st : ∀ p ∈ need, p ∈ news) (hne : vs.isEmpty = false)
    (h : ∀ T t h' tk', (T, pairObj (maxD ds).1 t (maxD ds).2) ∈ news → Fr h₀ L h' m → News h₀ L h' news → Q (.ref T) { s with heap := h', toks := tk' }) :
    wpAny (model prog w) A (call (.builtin "max") [.ref l]) Q E s :=
  max_call hh hu F N (fun h' N' => ⟨_, (N' _ hm).1, rfl, _, rfl⟩) (hp.more st) hne fun v h' tk' hv F' N' => by
    obtain ⟨T, t, rfl, hT⟩ := hv
    exact h T t h' tk' hT F' N'
theorem last_pl {l : Addr} {f : Nat → Str} {k : Nat} {u : Tok} {value slice : PySem.Expr} {Q : Value → Shared → Prop} (N : News h₀ L s.heap news) (hm : (l, ({ cls := .type "list", data := .seq vs.toArray n } : Obj)) ∈ news) (hs : StrsAre vs ((List.range (k + 1)).map f)) (h : ∀ t, Q (.str (f k) t) s)
    (hb : subscripted slice false (.ref l) (.int (-1) u) = operate [.ref l, .int (-1) u] (getItem (.ref l) (.int (-1) u))) : wpAny (model prog w) A (subscriptTail value slice (.ref l) (.int (-1) u)) Q E s := by
  have hne : vs.isEmpty = false := by
    have := strs_len hs
    cases vs with
    | nil => simp at this
    | cons => rfl
  refine last_ls ⟨_, (N _ hm).1, rfl, _, rfl⟩ hs hne (fun t => ?_) hb
  have e : ((List.range (k + 1)).map f).getLastD (Str.ofString "") = f k := by rw [List.range_succ, List.map_append]; simp
  rw [e]
  exact h t
theorem sl_init {l : Addr} {m : Str → Option Value} {u : Tok} {value slice : PySem.Expr} {Q : Value → Shared → Prop} (F : Fr h₀ L s.heap m) (N : News h₀ L s.heap news) (hm : (l, ({ cls := .type "list", data := .seq vs.toArray n } : Obj)) ∈ news)
    (h : ∀ D h', Fr h₀ L h' m → News h₀ L h' ((D, W.listOf vs.dropLast.toArray 0) :: news) → (∀ p ∈ news, p.1 < D) → Q (.ref D) { s with heap := h' })
    (hs : subscripted slice false (.ref l) (.ref s.heap.objs.size) = operate [.ref s.heap.objs.size, .ref l] (getItem (.ref l) (.ref s.heap.objs.size))) (ht : ∀ r, letTemporaryGo value (.ref l) r = pure ()) (hz : vs.length ≤ 1000000) :
    wpAny (model prog w) A (subscriptTail value slice (.ref l) (.ref s.heap.objs.size)) Q E { s with heap := s.heap.push { cls := .type "slice", data := .fields #[.none, .int (-1) u, .none] } } := by
  refine sl_list (lo := none) (hi := some (-1)) F N ⟨_, (N _ hm).1, rfl, _, rfl⟩ ?_ ?_ (fun D h' F' N' l1 => ?_) hs ht (by rw [sizeLine_eq, List.size_toArray]; omega)
  · kmk_part
  · kmk_part
  · rw [pick_m1] at N'
    exact h D h' F' N' l1
end
structure EqIs {α : Type} (a b : α) : Prop where
  h : a = b
def SubAt (prog : Program) (w : World) (A : Around) (value slice : PySem.Expr) (a b : Value) (Q : Value → Shared → Prop) (E : Value → Shared → Prop) (s : Shared) : Prop := wpAny (model prog w) A (subscriptTail value slice a b) Q E s
theorem sub_stop {prog : Program} {w : World} {A : Around} {E : Value → Shared → Prop} {s : Shared} {value slice : PySem.Expr} {a b : Value} {Q : Value → Shared → Prop} (h : SubAt prog w A value slice a b Q E s) : wpAny (model prog w) A (subscriptTail value slice a b) Q E s := h
end
theorem fill_k (w : World) (h : Heap) (h1 : (Mine.hd.heap_39 w.params).In h) (h2 : PySem.Challenge.rw_op0111_01.most = some 63) : True := by
  revert h2 h1
  k_fill
  intros
  trivial
section
local macro_rules | `(tactic| walk_at "exec For Name Name cons nil") => `(tactic| (k_here; k_dflt (refine wpAny_For ?_ (by intro _; rfl))))
local macro_rules | `(tactic| walk_at "exec For Name Call cons nil") => `(tactic| (k_here; k_dflt (refine wpAny_For ?_ (by intro _; rfl))))
local macro_rules | `(tactic| walk_at "exec For Name Attribute cons nil") => `(tactic| (k_here; k_dflt (refine wpAny_For ?_ (by intro _; rfl))))
local macro_rules | `(tactic| walk_at "exec For Tuple Name cons nil") => `(tactic| (k_here; k_dflt (refine wpAny_For ?_ (by intro _; rfl))))
local macro_rules | `(tactic| walk_at "exec For Tuple Call cons nil") => `(tactic| (k_here; k_dflt (refine wpAny_For ?_ (by intro _; rfl))))
local macro_rules | `(tactic| walk_at "exec For Tuple Name cons cons") => `(tactic| (k_here; k_dflt (refine wpAny_For ?_ (by intro _; rfl))))
local macro_rules | `(tactic| walk_at "subscriptTail Name Slice ref ref") => `(tactic| (k_here; (with_reducible show wpAny _ _ (subscriptTail _ (PySem.Expr.Slice _ _ none _) (Value.ref _) (Value.ref _)) _ _ _); k_dflt (refine' Mine.sl_list (by k_asm) (by k_asm) (by kmk_list) (by kmk_part) (by kmk_part) ?_ (by with_unfolding_all rfl) (by kmk_pure) (by simp only [List.size_toArray, sizeLine_eq]; omega)); intro D' h' F' N' l1; (try k_lt l1); (try k_sweep)))
local macro_rules | `(tactic| walk_at "binaryOp Add ref ref") => `(tactic| (k_here; (with_reducible show wpAny _ _ (binaryOp PySem.Operator.Add (Value.ref _) (Value.ref _)) _ _ _); k_dflt (refine' Mine.add_ls (by k_asm) (by k_asm) (by kmk_list) (by kmk_list) ?_ (by simp only [sizeLine_eq, List.length_cons, List.length_nil]; omega)); intro D' h' F' N' l1; (try k_lt l1); (try k_sweep)))
local macro_rules | `(tactic| walk_at "call builtin:issubclass") => `(tactic| (k_here; k_dflt (refine Mine.isub_str (News.get (by k_asm) (by k_mem)) rfl rfl ?_)))
local macro_rules | `(tactic| walk_at "call builtin:str.join") => `(tactic| (k_here; k_dflt (refine' Mine.join_ls (by kmk_list) (by assumption) (by assumption) ?_); intro t9 k9 n9; (try dsimp only)))
local macro_rules | `(tactic| walk_at "truthy ref") => `(tactic| (k_here; k_dflt (refine' Mine.truthy_ls (by kmk_list) (by first | omega | (simp only [List.length_nil, List.length_cons]; omega)) ?_)))
local macro_rules | `(tactic| walk_at "call builtin:list.append") => `(tactic| (k_here; k_dflt (refine' Mine.append_ls (by k_asm) (by k_asm) (by k_upd) (by first | omega | (simp only [List.length_nil, List.length_cons]; omega)) ?_); intro h' F' N'; (try k_sweep)))
local macro_rules | `(tactic| walk_at "call builtin:list.pop") => `(tactic| (k_here; k_dflt (refine' Mine.pop_ls (by k_asm) (by k_asm) (by assumption) (by assumption) (by k_upd) (by omega) ?_); intro h' t' F' N'; (try k_sweep)))
local macro_rules | `(tactic| walk_at "subscriptTail Name UnaryOp ref int") => `(tactic| (k_here; (with_reducible show wpAny _ _ (subscriptTail _ _ (Value.ref _) (Value.int (-1) _)) _ _ _); k_dflt (refine' Mine.last_ls (by kmk_list) (by assumption) (by assumption) ?_ (by with_unfolding_all rfl)); intro t'))
local macro_rules | `(tactic| walk_at "setAttr ref") => `(tactic| (k_here; k_dflt (refine' Mine.fset2_K (by k_asm) (by k_asm) (by k_mem) (by k_mem) (by first | exact tl_applies | exact tl_allow) (by rfl) (by k_put) (by exact Nat.le_of_ble_eq_true rfl) (by k_upd) ?_; k_whole); intro h' F' N'; (try k_sweep)))
local macro_rules | `(tactic| walk_at "setAttr ref") => `(tactic| (k_here; k_dflt (refine' Mine.fset1_K (by k_asm) (by k_asm) (by k_updF) (by first | exact tl_applies | exact tl_allow) ?_; k_whole); intro D' h' F' N' l1; (try dsimp only at N'); (try k_lt l1); (try k_sweep)))
local macro_rules | `(tactic| walk_at "eval Name") => `(tactic| (k_here; k_dflt (refine' Mine.name_free ?F ?c ?o ?d ?_ ?k ?x ?b ?n; (case k => exact rfl); (case x => exact rfl); (case b => decide); (case n => decide); (case F => k_asm); (case c => exact rfl); (case o => assumption); (case d => assumption); k_whole)))
local macro_rules | `(tactic| walk_at "call builtin:str.lower") => `(tactic| (k_here; k_dflt (refine SCL.lower (by omega) ?_); intro _))
section
theorem parts_fn {w : World} (x : Str) (t : Tok) : Fn w 258 [.str x t] 1 100 (fun _ => x.length ≤ 1000) (NewObj (StrsObj (rowsOf (Txt.split x (Str.ofString "/"))))) := by
  k_dflt (refine' Fn.intro (binds := [(Str.ofString "way", .str x t)]) ?k6 ?k7 ?k8 ?k9 ?kB ?_ ?c5 ?c2 ?c3 ?c4; (case k6 => k_is); (case k7 => k_is); (case k8 => decide); (case k9 => intro s; exact BindsTo.of_eq rfl); (case c5 => decide); (case kB => exact locs rfl); (case c2 => exact rfl); (case c3 => exact rfl); (case c4 => exact rfl); k_whole)
  intro p loose mean mg mb dp un gd env outer base s L' h' hd hu hpre hke F' N' B' X' T'
  (try dsimp only)
  (try k_fold)
  k_steps
  rename_i r₀ _ _ _ _ _ ls hh kk hmap hstrs hlens hisl F N
  dsimp only at N hisl ⊢
  generalize hl : Heap.objs _ = ob at N hisl ⊢
  generalize hl : ob.size = l at N hisl ⊢
  have hlen : ls.length ≤ 1002 := by
    have h1 := split_len x (Str.ofString "/")
    rw [← hmap, List.length_map] at h1
    omega
  clear hl hisl
  refine for_list (fun i m news => ∃ r vs ep, m (Str.ofString "row") = some (.ref r) ∧ news = [(r, W.listOf vs.toArray ep), (l, { cls := Value.type "list", data := Data.seq (strValues ls).toArray })] ∧ StrsAre vs (rowsOf ((ls.map (·.1)).take i))) rfl rfl F (items := strValues ls) (news₀ := [(r₀, W.listOf #[] 0), (l, { cls := Value.type "list", data := Data.seq (strValues ls).toArray })]) (cb_drop N (by simp)) ⟨r₀, [], 0, rfl, rfl, .nil⟩ ?hl ?turn ?done PassesOwn.never
  case hl =>
    rintro i m news h ⟨r, vs, ep, hm, rfl, hs⟩ F N
    exact News.isList N (.tail _ (.head _))
  case turn =>
    rintro I hI hIL i v m news oI h tk hv ⟨r, vs, ep, hm, rfl, hs⟩ F N hn
    replace F := fr_see hm F
    obtain ⟨p, hp, rfl⟩ := strValues_get hv
    have hvl : vs.length ≤ 1002 := by
      have h1 := strs_len hs
      have h2 := rowsOf_len ((ls.map (·.1)).take i)
      rw [List.length_take, List.length_map] at h2
      omega
    have hrl : @Ne Nat r I := hn _ (.head _)
    have hll : @Ne Nat l I := hn _ (.tail _ (.head _))
    have hts := take_succ_map hp
    clear hv hn
    k_steps
    all_goals (with_reducible rename Fr _ _ _ _ => F'); (with_reducible rename News _ _ _ _ => N'); (rename (_ == Str.ofString "..") = _ => ha)
    · refine TurnEnd.mk F' (cb_drop N' ?_) ?_ ⟨_, kms_pick vs none (some (-1)), 0, rfl, rfl, ?_⟩
      · kcj_all
      · k_all
      rw [hts, rowsOf_snoc, partStep_up ha, pick_m1]
      exact strs_dropLast hs
    · rename (List.any _ _) = _ => hb
      refine TurnEnd.mk F' (cb_drop N' ?_) ?_ ⟨_, vs, ep, rfl, rfl, ?_⟩
      · kcj_all
      · k_all
      rw [hts, rowsOf_snoc, partStep_stay ha hb]
      exact hs
    · rename (List.any _ _) = _ => hb
      refine TurnEnd.mk F' (cb_drop N' ?_) ?_ ⟨_, vs ++ [Value.str p.1 p.2], 0, rfl, rfl, ?_⟩
      · kcj_all
      · k_all
      rw [hts, rowsOf_snoc, partStep_in ha hb]
      exact StrsAre.append' hs (.cons _ _ .nil)
  case done =>
    rintro m news h tk ⟨r, vs, ep, hm, rfl, hs⟩ F N
    replace F := fr_see hm F
    k_steps
    refine FnEnd.mk F ⟨_, _, rfl, (N _ (.head _)).2.2, (N _ (.head _)).1, vs, ep, rfl, ?_⟩
    rw [← hmap]
    have e : (strValues ls).length = (ls.map (·.1)).length := by simp [strValues]
    rw [e, List.take_length] at hs
    exact hs
end
section
theorem fspath_fn {w : World} (x : Str) (t : Tok) : Fn w 143 [.str x t] 1 100 (fun _ => True) (fun _ _ v => v = .str x t) := by
  k_dflt (refine' Fn.intro (binds := [(Str.ofString "path", .str x t)]) ?k6 ?k7 ?k8 ?k9 ?kB ?_ ?c5 ?c2 ?c3 ?c4; (case k6 => k_is); (case k7 => k_is); (case k8 => decide); (case k9 => intro s; exact BindsTo.of_eq rfl); (case c5 => decide); (case kB => exact locs rfl); (case c2 => exact rfl); (case c3 => exact rfl); (case c4 => exact rfl); k_whole)
  intro p loose mean mg mb dp un gd env outer base s L' h' hd hu hpre hke F' N' B' X' T'
  (try dsimp only)
  (try k_fold)
  k_steps
  exact FnEnd.mk (by k_asm) rfl
local macro_rules | `(tactic| walk_at "call ref") => `(tactic| (k_here; (with_reducible show wpAny _ _ (call (Value.ref 143) [Value.str _ _]) _ _ _); k_dflt (refine' Fn.use (fspath_fn _ _) (by k_asm) (by k_asm) (by k_asm) (by k_asm) (by k_asm) (by first | exact rfl | assumption) (by ktr_room) (by ktr_units) True.intro ?_; k_whole); intro v9 h9 tk9 st9 p9 F9 N9; subst p9; (try dsimp only); (try k_sweep)))
theorem getsep_fn {w : World} (x : Str) (t : Tok) : Fn w 70 [.str x t] 1 100 (fun _ => True) (fun _ _ v => ∃ t', v = .str (Str.ofString "/") t') := by
  k_dflt (refine' Fn.intro (binds := [(Str.ofString "path", .str x t)]) ?k6 ?k7 ?k8 ?k9 ?kB ?_ ?c5 ?c2 ?c3 ?c4; (case k6 => k_is); (case k7 => k_is); (case k8 => decide); (case k9 => intro s; exact BindsTo.of_eq rfl); (case c5 => decide); (case kB => exact locs rfl); (case c2 => exact rfl); (case c3 => exact rfl); (case c4 => exact rfl); k_whole)
  intro p loose mean mg mb dp un gd env outer base s L' h' hd hu hpre hke F' N' B' X' T'
  (try dsimp only)
  (try k_fold)
  k_steps
  exact FnEnd.mk (by k_asm) ⟨_, rfl⟩
theorem splitroot_fn {w : World} (x : Str) (t : Tok) (h1 : (Txt.slice x none (some 1) != Str.ofString "/") = false) (h2 : (Txt.slice x (some 1) (some 2) != Str.ofString "/") = true) : Fn w 150 [.str x t] 2 200 (fun _ => x.length ≤ 1000)
    (NewObj fun _ o => ∃ t1 t2 t3, o = { cls := .type "tuple", data := .seq #[.str (Str.ofString "") t1, .str (Str.ofString "/") t2, .str (Txt.slice x (some 1) none) t3] }) := by
  k_dflt (refine' Fn.intro (binds := [(Str.ofString "p", .str x t)]) ?k6 ?k7 ?k8 ?k9 ?kB ?_ ?c5 ?c2 ?c3 ?c4; (case k6 => k_is); (case k7 => k_is); (case k8 => decide); (case k9 => intro s; exact BindsTo.of_eq rfl); (case c5 => decide); (case kB => exact locs rfl); (case c2 => exact rfl); (case c3 => exact rfl); (case c4 => exact rfl); k_whole)
  intro p loose mean mg mb dp un gd env outer base s L' h' hd hu hpre hke F' N' B' X' T'
  (try dsimp only)
  (try k_fold)
  k_steps
  all_goals first | (exfalso; simp_all; done) | skip
  (with_reducible rename Fr _ _ _ _ => F'); (with_reducible rename News _ _ _ _ => N')
  exact FnEnd.mk F' ⟨_, _, rfl, (N' _ (.head _)).2.2, (N' _ (.head _)).1, _, _, _, rfl⟩
end
section
theorem fm_at {w : World} {g : Heap} (X : (Mine.hd.heap_39 w.params).In g) : ∀ p ∈ fmRows, FmAt g p := by
  intro p hp
  simp only [fmRows, List.mem_cons, List.not_mem_nil, or_false] at hp
  have one : ∀ {a : Addr} {l : List Value} {n : Nat} {dd : Option Addr} {sl : Array (Option Value)}, (Mine.hd.heap_39 w.params).lookup a = some ⟨.type "tuple", dd, .seq l.toArray n, sl⟩ → g.IsTuple a l.toArray := fun e => tupK X e
  rcases hp with rfl | rfl | rfl | rfl | rfl | rfl | rfl | rfl | rfl | rfl
  all_goals refine ⟨one (by k_is), ?_⟩
  all_goals (repeat (first | exact List.forall_mem_nil _ | (refine List.forall_mem_cons.mpr ⟨⟨_, _, one (l := [_, _]) (by k_is)⟩, ?_⟩)))
theorem ifmt_fn {w : World} (n : Int) (t : Tok) : Fn w 171 [.int n t] 1 100 (fun _ => True) (fun _ _ v => ∃ t', v = .int (Builtin.bitAnd n 61440) t') := by
  k_dflt (refine' Fn.intro (binds := [(Str.ofString "mode", .int n t)]) ?k6 ?k7 ?k8 ?k9 ?kB ?_ ?c5 ?c2 ?c3 ?c4; (case k6 => k_is); (case k7 => k_is); (case k8 => decide); (case k9 => intro s; exact BindsTo.of_eq rfl); (case c5 => decide); (case kB => exact locs rfl); (case c2 => exact rfl); (case c3 => exact rfl); (case c4 => exact rfl); k_whole)
  intro p loose mean mg mb dp un gd env outer base s L' h' hd hu hpre hke F' N' B' X' T'
  (try dsimp only)
  (try k_fold)
  k_steps
  exact FnEnd.mk (by k_asm) ⟨_, rfl⟩
local macro_rules | `(tactic| walk_at "call ref") => `(tactic| (k_here; (with_reducible show wpAny _ _ (call (Value.ref 171) [Value.int _ _]) _ _ _); k_dflt (refine' Fn.use (ifmt_fn _ _) (by k_asm) (by k_asm) (by k_asm) (by k_asm) (by k_asm) rfl (by ktr_room) (by ktr_units) (by trivial) ?_; k_whole); intro v9 h9 tk9 st9 p9 F9 N9; (obtain ⟨t9, e9⟩ := p9; subst e9); (try dsimp only); (try k_sweep)))
theorem fm_fn {w : World} (n : Int) (t : Tok) : Fn w 211 [.int n t] 2 300 (fun _ => 0 ≤ n ∧ n < 65536) (fun _ _ v => ∃ t', v = .str (modeOf n) t') := by
  k_dflt (refine' Fn.intro (binds := [(Str.ofString "mode", .int n t)]) ?k6 ?k7 ?k8 ?k9 ?kB ?_ ?c5 ?c2 ?c3 ?c4; (case k6 => k_is); (case k7 => k_is); (case k8 => decide); (case k9 => intro s; exact BindsTo.of_eq rfl); (case c5 => decide); (case kB => exact locs rfl); (case c2 => exact rfl); (case c3 => exact rfl); (case c4 => exact rfl); k_whole)
  intro p loose mean mg mb dp un gd env outer base s L' h' hd hu hpre hke F' N' B' X' T'
  (try dsimp only)
  (try k_fold)
  k_steps
  (with_reducible rename Fr _ _ _ _ => F); (with_reducible rename News _ _ _ _ => N)
  rename_i c₀ _ _ _
  have ht : s.heap.IsTuple 204 ((fmRows.map fun p => Value.ref p.1).toArray) := tupK X' (by k_is)
  have hfm := fm_at X'
  refine for_enum (fun i m news => ∃ vs ep, m (Str.ofString "perm") = some (.ref c₀) ∧ m (Str.ofString "mode") = some (.int n t) ∧ news = [(c₀, W.listOf vs.toArray ep)] ∧ StrsAre vs (signsTo i n)) rfl rfl rfl rfl rfl ht F N ?h0 ?turn ?done PassesOwn.never
  case h0 => exact ⟨[], 0, rfl, rfl, rfl, .nil⟩
  case turn =>
    rintro e it hlt hie i v m news oe oi ti h tk hv ⟨vs, ep, e1, e2, rfl, hs⟩ F N hn
    replace F := fr_at (fr_at F "perm" e1) "mode" e2
    obtain ⟨p, hp, rfl⟩ : ∃ p, fmRows[i]? = some p ∧ v = .ref p.1 := by
      rw [List.getElem?_map] at hv
      cases q : fmRows[i]? with
      | none => rw [q] at hv; cases hv
      | some p => rw [q] at hv; exact ⟨p, rfl, (Option.some.inj hv).symm⟩
    have hFm := hfm p (List.mem_of_getElem? hp)
    have hce : @Ne Nat c₀ e := (hn _ (.head _)).1
    have hci : @Ne Nat c₀ it := (hn _ (.head _)).2
    have hei : @Ne Nat e it := Nat.ne_of_gt hie
    have hvl : vs.length ≤ 10 := by
      have h1 := strs_len hs
      have h2 := signs_len i n
      omega
    clear hv hn hlt hie
    k_steps
    refine for_tuple (items := p.2.map fun r => Value.ref r.1) (fun j m news => m (Str.ofString "perm") = some (.ref c₀) ∧ m (Str.ofString "mode") = some (.int n t) ∧ m (Str.ofString "index") = some (.int i ti) ∧ news = [(e, oe), (it, oi), (c₀, W.listOf vs.toArray ep)] ∧ (p.2.take j).find? (hits i n) = none) rfl rfl F N ?h0i ?hli ?turni ?donei PassesOwn.never
    case h0i => exact ⟨rfl, rfl, rfl, rfl, by simp⟩
    case hli =>
      rintro j m news h ⟨e1, e2, e3, rfl, hf⟩ F N
      exact tuple_at hFm.1 fun o e => F.keep _ o e
    case turni =>
      rintro I hI hIL j v m news oI h tk hv ⟨e1, e2, e3, rfl, hf⟩ F N hn
      replace F := fr_at (fr_at (fr_at F "perm" e1) "mode" e2) "index" e3
      obtain ⟨r, hr, rfl⟩ : ∃ r, p.2[j]? = some r ∧ v = .ref r.1 := by
        rw [List.getElem?_map] at hv
        cases q : p.2[j]? with
        | none => rw [q] at hv; cases hv
        | some r => rw [q] at hv; exact ⟨r, rfl, (Option.some.inj hv).symm⟩
      obtain ⟨t1, t2, hrt⟩ := hFm.2 r (List.mem_of_getElem? hr)
      have hIe : @Ne Nat e I := hn _ (.head _)
      have hIi : @Ne Nat it I := hn _ (.tail _ (.head _))
      have hIc : @Ne Nat c₀ I := hn _ (.tail _ (.tail _ (.head _)))
      clear hv hn hI
      k_steps
      all_goals (with_reducible rename Fr _ _ _ _ => F'); (with_reducible rename News _ _ _ _ => N')
      · (with_reducible rename (_ : Int) = 0 => hi0)
        (with_reducible rename Builtin.bitAnd _ _ = _ => hb)
        have hh : hits i n r = true := by rw [hits0 hi0]; simpa using hb
        refine wpAny_execs_nil (TurnEnd2.mk (news' := [(c₀, _)]) F' (cb_drop N' (by kcj_all)) (List.forall_mem_cons.mpr ⟨⟨hce, hci⟩, List.forall_mem_nil _⟩) ⟨_, _, rfl, rfl, rfl, ?_⟩)
        rw [signs_succ n hp, pick_some (find_at hf hr hh)]
        exact StrsAre.append' hs (.cons _ _ .nil)
      · (with_reducible rename (_ : Int) = 0 => hi0)
        (with_reducible rename ¬ Builtin.bitAnd _ _ = _ => hb)
        have hh : hits i n r = false := by rw [hits0 hi0]; simpa using hb
        exact TurnEnd.mk F' N' (off3 hIe hIi hIc) ⟨rfl, rfl, rfl, rfl, find_step hf hr hh⟩
      · (with_reducible rename ¬ (_ : Int) = 0 => hi0)
        (with_reducible rename Builtin.bitAnd _ _ = _ => hb)
        have hh : hits i n r = true := by rw [hits1 hi0]; simpa using hb
        refine wpAny_execs_nil (TurnEnd2.mk (news' := [(c₀, _)]) F' (cb_drop N' (by kcj_all)) (List.forall_mem_cons.mpr ⟨⟨hce, hci⟩, List.forall_mem_nil _⟩) ⟨_, _, rfl, rfl, rfl, ?_⟩)
        rw [signs_succ n hp, pick_some (find_at hf hr hh)]
        exact StrsAre.append' hs (.cons _ _ .nil)
      · (with_reducible rename ¬ (_ : Int) = 0 => hi0)
        (with_reducible rename ¬ Builtin.bitAnd _ _ = _ => hb)
        have hh : hits i n r = false := by rw [hits1 hi0]; simpa using hb
        exact TurnEnd.mk F' N' (off3 hIe hIi hIc) ⟨rfl, rfl, rfl, rfl, find_step hf hr hh⟩
    case donei =>
      rintro m news h tk ⟨e1, e2, e3, rfl, hf⟩ F N
      replace F := fr_at (fr_at (fr_at F "perm" e1) "mode" e2) "index" e3
      rw [List.length_map, List.take_length] at hf
      k_steps
      all_goals (with_reducible rename Fr _ _ _ _ => F'); (with_reducible rename News _ _ _ _ => N')
      · (with_reducible rename (_ : Int) = 0 => hi0)
        refine TurnEnd2.mk (news' := [(c₀, _)]) F' N' (List.forall_mem_cons.mpr ⟨⟨hce, hci⟩, List.forall_mem_nil _⟩) ⟨_, _, rfl, rfl, rfl, ?_⟩
        rw [signs_succ n hp, pick_none0 hi0 hf]
        exact StrsAre.append' hs (.cons _ _ .nil)
      · (with_reducible rename ¬ (_ : Int) = 0 => hi0)
        refine TurnEnd2.mk (news' := [(c₀, _)]) F' N' (List.forall_mem_cons.mpr ⟨⟨hce, hci⟩, List.forall_mem_nil _⟩) ⟨_, _, rfl, rfl, rfl, ?_⟩
        rw [signs_succ n hp, pick_none1 hi0 hf]
        exact StrsAre.append' hs (.cons _ _ .nil)
  case done =>
    rintro m news h tk ⟨vs, ep, e1, e2, rfl, hs⟩ F N
    replace F := fr_at (fr_at F "perm" e1) "mode" e2
    k_steps
    have e10 : (fmRows.map fun p => Value.ref p.1).length = 10 := rfl
    rw [e10] at hs
    refine join_list (News.isList N (.head _)) hs (signs_small n) fun t' k => ?_
    k_steps
    exact FnEnd.mk F ⟨_, rfl⟩
end
section
theorem rules_fn {w : World} : Fn w 225 [] 1 100 (fun _ => True) (NewAll RulesTab) := by
  k_dflt (refine' Fn.intro (binds := []) ?k6 ?k7 ?k8 ?k9 ?kB ?_ ?c5 ?c2 ?c3 ?c4; (case k6 => k_is); (case k7 => k_is); (case k8 => decide); (case k9 => intro s; exact BindsTo.of_eq rfl); (case c5 => decide); (case kB => exact locs rfl); (case c2 => exact rfl); (case c3 => exact rfl); (case c4 => exact rfl); k_whole)
  intro p loose mean mg mb dp un gd env outer base s L' h' hd hu hpre hke F' N' B' X' T'
  (try dsimp only)
  (try k_fold)
  k_steps
  (with_reducible rename Fr _ _ _ _ => F); (with_reducible rename News _ _ _ _ => N)
  refine FnEnd.mk F ⟨_, fun p hp => ⟨(N p hp).2.2, (N p hp).1⟩, _, _, _, rfl, .head _, ⟨_, _, _, _, ⟨(.tail _ (.tail _ (.tail _ (.tail _ (.tail _ (.tail _ (.head _))))))), (.tail _ (.tail _ (.tail _ (.tail _ (.tail _ (.tail _ (.tail _ (.tail _ (.tail _ (.tail _ (.tail _ (.tail _ (.tail _ (.tail _ (.head _))))))))))))))), .cons _ _ (.cons _ _ .nil), (.tail _ (.tail _ (.tail _ (.tail _ (.tail _ (.tail _ (.tail _ (.head _)))))))), .cons (.tail _ (.tail _ (.tail _ (.tail _ (.tail _ (.tail _ (.tail _ (.tail _ (.tail _ (.tail _ (.tail _ (.tail _ (.tail _ (.head _)))))))))))))) (.cons (.tail _ (.tail _ (.tail _ (.tail _ (.tail _ (.tail _ (.tail _ (.tail _ (.tail _ (.tail _ (.tail _ (.tail _ (.head _))))))))))))) (.cons (.tail _ (.tail _ (.tail _ (.tail _ (.tail _ (.tail _ (.tail _ (.tail _ (.tail _ (.tail _ (.tail _ (.head _)))))))))))) (.cons (.tail _ (.tail _ (.tail _ (.tail _ (.tail _ (.tail _ (.tail _ (.tail _ (.tail _ (.tail _ (.head _))))))))))) (.cons (.tail _ (.tail _ (.tail _ (.tail _ (.tail _ (.tail _ (.tail _ (.tail _ (.tail _ (.head _)))))))))) (.cons (.tail _ (.tail _ (.tail _ (.tail _ (.tail _ (.tail _ (.tail _ (.tail _ (.head _))))))))) .nil)))))⟩⟩, ⟨_, _, _, _, ⟨(.tail _ (.head _)), (.tail _ (.tail _ (.tail _ (.tail _ (.tail _ (.head _)))))), .cons _ _ .nil, (.tail _ (.tail _ (.head _))), .cons (.tail _ (.tail _ (.tail _ (.tail _ (.head _))))) (.cons (.tail _ (.tail _ (.tail _ (.head _)))) .nil)⟩⟩⟩
end
section
theorem rule_fn {w : World} (path : Str) (t : Tok) (al : Bool) (hpl : path.length ≤ 100) : FnT w 237 [.str path t, .bool al] 1 100 TabOk (RulePost w path al) := by
  k_dflt (refine' FnT.cells (binds := [(Str.ofString "path", .str path t), (Str.ofString "allowed", .bool al)]) ?k6 ?k7 ?k8 ?k9 ?kB ?kD ?_ ?c2 ?c3 ?c4; (case k6 => k_is); (case k7 => k_is); (case k8 => decide); (case k9 => intro s; exact BindsTo.of_eq rfl); (case kB => exact rfl); (case kD => decide +kernel); (case c2 => exact rfl); (case c3 => exact rfl); (case c4 => exact rfl); k_whole)
  intro p loose mean mg mb dp un gd env outer base s ps g L' h' tk cells hd hu hpre hke hg F' N' Y' h232 B' X' T' C'
  k_cells Y'
  (try simp only [List.cons_append, List.nil_append] at N')
  (try dsimp only)
  (try k_fold)
  have h232' : ∀ x : Addr, g.get? x = none → x ≠ 232 → s.heap.get? x = none := fun x hx hn => by
    cases q : s.heap.get? x with
    | none => rfl
    | some o => rw [hg x o hn q] at hx; cases hx
  rcases hpre with rfl | ⟨c1, c2, oc2, rfl, hc2, hoc, vs2, tq2, hok1, hok2⟩
  · k_steps
    (with_reducible rename Fr _ _ _ _ => F); (with_reducible rename News _ _ _ _ => N)
    (with_reducible rename Obj.data _ = Data.cell _ => hcv)
    (with_reducible rename (_ : Array Value)[1]? = some _ => hok2)
    (with_reducible rename Obj.data _ = Data.fields _ => hok1)
    have e0 := N _ (.head _)
    have e1 := N _ (.tail _ (.head _))
    have e2 := N _ (.tail _ (.tail _ (.head _)))
    have e3 := N _ (.tail _ (.tail _ (.tail _ (.head _))))
    have e5 := N _ (.tail _ (.tail _ (.tail _ (.tail _ (.tail _ (.head _))))))
    have e6 := N _ (.tail _ (.tail _ (.tail _ (.tail _ (.tail _ (.tail _ (.head _)))))))
    refine FnEndT.mk F e6.1 ⟨_, _, _, _, [(_, _), (_, _), (_, _), (_, _)], rfl, rfl, ⟨_, _, hok1, hok2⟩, e2.1, by k_ne,
      List.forall_mem_cons.mpr ⟨⟨h232' _ e3.2.2 (by k_ne), e3.1⟩, List.forall_mem_cons.mpr ⟨⟨h232' _ e0.2.2 (by k_ne), e0.1⟩, List.forall_mem_cons.mpr ⟨⟨h232' _ e1.2.2 (by k_ne), e1.1⟩, List.forall_mem_cons.mpr ⟨⟨h232' _ e5.2.2 (by k_ne), e5.1⟩, List.forall_mem_nil _⟩⟩⟩⟩,
      ⟨_, _, _, _, _, _, .tail _ (.head _), rfl, ⟨_, rfl⟩, rfl, .tail _ (.tail _ (.head _)), by k_get, by k_get, .tail _ (.tail _ (.tail _ (.head _))), ⟨_, rfl⟩, ?_⟩, .inl ⟨rfl, h232' _ e2.2.2 (by k_ne)⟩⟩
    clear e0 e1 e2 e3 e5 e6 N F h232'
    intro way tw hway p loose mean mg mb dp un gd cn cs a ccd cl outer A₀ base h₀ L m s Q E st B F X T hk hd hu hret
    have hce' := st _ (List.Mem.tail _ (.tail _ (.tail _ (.tail _ (.head _)))))
    dsimp only at hce'
    refine lam_enter (Post := fun v => ∃ t', v = .int (ruleM path way) t') (binds := [(Str.ofString "way", .str way tw)]) B F X T rfl rfl hk hret (st _ (List.Mem.tail _ (.tail _ (.tail _ (.head _))))) ⟨_, _, _, _, rfl, st _ (.head _), hok1, hok2⟩ (show dp < _ by omega) rfl (locs rfl) ?_ (by decide) rfl rfl rfl
    intro L' h' F' N' B' X' T'
    (try dsimp only)
    (try k_fold)
    clear F X T B st
    k_steps
    · (with_reducible rename (List.any _ _) = _ => ha)
      refine FnEnd.mk (by k_asm) ?_
      rw [ruleM_in ha]
      exact ⟨_, rfl⟩
    · (with_reducible rename (_ == _) = true => ha)
      refine FnEnd.mk (by k_asm) ?_
      rw [ruleM_under ha]
      exact ⟨_, rfl⟩
    · (with_reducible rename (_ == _) = false => ha)
      (with_reducible rename (List.any _ _) = _ => hb)
      refine FnEnd.mk (by k_asm) ?_
      rw [ruleM_out hb ha]
      exact ⟨_, rfl⟩
  · k_steps
    (with_reducible rename Fr _ _ _ _ => F); (with_reducible rename News _ _ _ _ => N)
    (with_reducible rename Obj.data _ = Data.cell _ => hcv)
    have e0 := N _ (.head _)
    have e1 := N _ (.tail _ (.head _))
    have e3 := N _ (.tail _ (.tail _ (.head _)))
    have e5 := N _ (.tail _ (.tail _ (.tail _ (.head _))))
    have e6 := N _ (.tail _ (.tail _ (.tail _ (.tail _ (.head _)))))
    refine FnEndT.mk F e6.1 ⟨_, c1, c2, oc2, [(_, _), (_, _), (_, _), (_, _)], rfl, rfl, ⟨_, _, hok1, hok2⟩, F.keep _ _ (hg _ _ hc2 hoc), hc2,
      List.forall_mem_cons.mpr ⟨⟨h232' _ e3.2.2 (by k_ne), e3.1⟩, List.forall_mem_cons.mpr ⟨⟨h232' _ e0.2.2 (by k_ne), e0.1⟩, List.forall_mem_cons.mpr ⟨⟨h232' _ e1.2.2 (by k_ne), e1.1⟩, List.forall_mem_cons.mpr ⟨⟨h232' _ e5.2.2 (by k_ne), e5.1⟩, List.forall_mem_nil _⟩⟩⟩⟩,
      ⟨_, _, _, _, _, _, .tail _ (.head _), rfl, ⟨_, rfl⟩, rfl, .tail _ (.tail _ (.head _)), by k_get, by k_get, .tail _ (.tail _ (.tail _ (.head _))), ⟨_, rfl⟩, ?_⟩, .inr rfl⟩
    clear e0 e1 e3 e5 e6 N F h232'
    intro way tw hway p loose mean mg mb dp un gd cn cs a ccd cl outer A₀ base h₀ L m s Q E st B F X T hk hd hu hret
    have hce' := st _ (List.Mem.tail _ (.tail _ (.tail _ (.tail _ (.head _)))))
    dsimp only at hce'
    refine lam_enter (Post := fun v => ∃ t', v = .int (ruleM path way) t') (binds := [(Str.ofString "way", .str way tw)]) B F X T rfl rfl hk hret (st _ (List.Mem.tail _ (.tail _ (.tail _ (.head _))))) ⟨_, _, _, _, rfl, st _ (.head _), hok1, hok2⟩ (show dp < _ by omega) rfl (locs rfl) ?_ (by decide) rfl rfl rfl
    intro L' h' F' N' B' X' T'
    (try dsimp only)
    (try k_fold)
    clear F X T B st
    k_steps
    · (with_reducible rename (List.any _ _) = _ => ha)
      refine FnEnd.mk (by k_asm) ?_
      rw [ruleM_in ha]
      exact ⟨_, rfl⟩
    · (with_reducible rename (_ == _) = true => ha)
      refine FnEnd.mk (by k_asm) ?_
      rw [ruleM_under ha]
      exact ⟨_, rfl⟩
    · (with_reducible rename (_ == _) = false => ha)
      (with_reducible rename (List.any _ _) = _ => hb)
      refine FnEnd.mk (by k_asm) ?_
      rw [ruleM_out hb ha]
      exact ⟨_, rfl⟩
end
section
local macro_rules | `(tactic| walk_at "call ref") => `(tactic| (k_here; (with_reducible show wpAny _ _ (call (Value.ref 143) [Value.str _ _]) _ _ _); k_dflt (refine' Fn.use (fspath_fn _ _) (by k_asm) (by k_asm) (by k_asm) (by k_asm) (by k_asm) rfl (by ktr_room) (by ktr_units) (by trivial) ?_; k_whole); intro v9 h9 tk9 st9 p9 F9 N9; subst p9; (try dsimp only); (try k_sweep)))
local macro_rules | `(tactic| walk_at "call ref") => `(tactic| (k_here; (with_reducible show wpAny _ _ (call (Value.ref 150) [Value.str _ _]) _ _ _); k_dflt (refine' Fn.useN (splitroot_fn _ _ (by assumption) (by assumption)) (by k_asm) (by k_asm) (by k_asm) (by k_asm) (by k_asm) rfl (by ktr_room) (by ktr_units) (by assumption) ?_; k_whole); intro a9 o9 h9 tk9 p9 st9 F9 N9 n9; (obtain ⟨t1, t2, t3, e9⟩ := p9; subst e9); (try dsimp only); (try k_sweep)))
theorem norm_fn {w : World} (x : Str) (t : Tok) (h0 : 0 < x.length) (h1 : (Txt.slice x none (some 1) != Str.ofString "/") = false) (h2 : (Txt.slice x (some 1) (some 2) != Str.ofString "/") = true) : Fn w 164 [.str x t] 3 300 (fun _ => x.length ≤ 1000)
    (fun _ _ v => ∃ t', v = .str (Str.ofString "/" ++ Txt.join (Str.ofString "/") (rowsOf (Txt.split (Txt.slice x (some 1) none) (Str.ofString "/")))) t') := by
  k_dflt (refine' Fn.intro (binds := [(Str.ofString "path", .str x t)]) ?k6 ?k7 ?k8 ?k9 ?kB ?_ ?c5 ?c2 ?c3 ?c4; (case k6 => k_is); (case k7 => k_is); (case k8 => decide); (case k9 => intro s; exact BindsTo.of_eq rfl); (case c5 => decide); (case kB => exact locs rfl); (case c2 => exact rfl); (case c3 => exact rfl); (case c4 => exact rfl); k_whole)
  intro p loose mean mg mb dp un gd env outer base s L' h' hd hu hpre hke F' N' B' X' T'
  (try dsimp only)
  (try k_fold)
  k_steps
  rotate_left
  · exfalso; omega
  (with_reducible rename Fr _ _ _ _ => F); (with_reducible rename News _ _ _ _ => N); (with_reducible rename List.map _ _ = Txt.split _ _ => hmap); (with_reducible rename ∀ a ∈ List.map _ _, Str.length a ≤ _ => hlens)
  rename_i c₀ _ l1 _
  (with_reducible rename (List (Str × Tok)) => ls)
  dsimp only at N F l1 ⊢
  generalize hl : Array.size (Heap.objs _) = l at N F l1 ⊢
  have hlen : ls.length ≤ 1002 := by
    have h1 := split_len (Txt.slice x (some 1) none) (Str.ofString "/")
    have h2 := Txt.slice_le x (some 1) none
    rw [← hmap, List.length_map] at h1
    omega
  replace hlens : ∀ a ∈ ls.map (·.1), a.length ≤ 1000 := fun a ha => Nat.le_trans (hlens a ha) (Nat.le_trans (Txt.slice_le x (some 1) none) hpre)
  clear hl
  refine for_list (fun i m news => ∃ vs ep t1 t2 t3 t4, m (Str.ofString "new_comps") = some (.ref c₀) ∧ m (Str.ofString "dot") = some (.str (Str.ofString ".") t1) ∧ m (Str.ofString "dotdot") = some (.str (Str.ofString "..") t2) ∧ m (Str.ofString "initial_slashes") = some (.str (Str.ofString "/") t3) ∧ m (Str.ofString "sep") = some (.str (Str.ofString "/") t4) ∧ news = [(c₀, W.listOf vs.toArray ep), (l, { cls := Value.type "list", data := Data.seq (strValues ls).toArray })] ∧ StrsAre vs (rowsOf ((ls.map (·.1)).take i))) rfl rfl F (items := strValues ls) (news₀ := [(c₀, W.listOf #[] 0), (l, { cls := Value.type "list", data := Data.seq (strValues ls).toArray })]) (cb_drop N (by kcj_all)) ?h0 ?hl ?turn ?done PassesOwn.never
  case h0 => exact ⟨[], 0, _, _, _, _, rfl, rfl, rfl, rfl, rfl, rfl, .nil⟩
  case hl =>
    rintro i m news h ⟨vs, ep, t1, t2, t3, t4, e1, e2, e3, e4, e5, rfl, hs⟩ F N
    exact News.isList N (.tail _ (.head _))
  case turn =>
    rintro I hI hIL i v m news oI h tk hv ⟨vs, ep, t1, t2, t3, t4, e1, e2, e3, e4, e5, rfl, hs⟩ F N hn
    replace F := fr_at (fr_at (fr_at (fr_at (fr_at F "new_comps" e1) "dot" e2) "dotdot" e3) "initial_slashes" e4) "sep" e5
    obtain ⟨p, hp, rfl⟩ := strValues_get hv
    have hvl : vs.length ≤ 1002 := by
      have h1 := strs_len hs
      have h2 := rowsOf_len ((ls.map (·.1)).take i)
      rw [List.length_take, List.length_map] at h2
      omega
    have hcl : @Ne Nat c₀ l := Ne.symm (Nat.ne_of_lt l1.1)
    have hrl : @Ne Nat c₀ I := hn _ (.head _)
    have hll : @Ne Nat l I := hn _ (.tail _ (.head _))
    have hts := take_succ_map hp
    have hpl : p.1.length ≤ 1000 := hlens _ (List.mem_map.mpr ⟨p, List.mem_of_getElem? hp, rfl⟩)
    clear hv hn
    have hlast : ((rowsOf ((ls.map (·.1)).take i)).getLastD (Str.ofString "") == Str.ofString "..") = false := by
      cases q : (rowsOf ((ls.map (·.1)).take i)).getLast? with
      | none => rw [List.getLast?_eq_none_iff.mp q]; decide
      | some y =>
        have h1 := (rowsOf_mem (List.mem_of_getLast? q)).2.1
        rw [List.getLastD_eq_getLast?, q]
        simpa using h1
    k_steps
    all_goals (with_reducible rename Fr _ _ _ _ => F'); (with_reducible rename News _ _ _ _ => N')
    · (with_reducible rename (_ == Str.ofString ".") = true => hd')
      refine TurnEnd.mk F' N' ?_ ⟨vs, ep, _, _, _, _, rfl, rfl, rfl, rfl, rfl, rfl, ?_⟩
      · exact off2 hrl hll
      · rw [hts, rowsOf_snoc, step_dot hd']; exact hs
    · (with_reducible rename (_ == Str.ofString ".") = false => hd')
      (with_reducible rename (_ != Str.ofString "..") = true => hdd)
      (with_reducible rename ¬ _ = (0 : Int) => hz)
      refine TurnEnd.mk F' N' ?_ ⟨vs ++ [Value.str p.1 p.2], ep + 1, _, _, _, _, rfl, rfl, rfl, rfl, rfl, rfl, ?_⟩
      · exact off2 hrl hll
      · rw [hts, rowsOf_snoc, step_add hz hd' hdd]; exact StrsAre.append' hs (.cons _ _ .nil)
    · (with_reducible rename (_ != Str.ofString "..") = false => hdd)
      (with_reducible rename List.isEmpty _ = true => he)
      refine TurnEnd.mk F' N' ?_ ⟨vs, ep, _, _, _, _, rfl, rfl, rfl, rfl, rfl, rfl, ?_⟩
      · exact off2 hrl hll
      · rw [hts, rowsOf_snoc, step_up hdd]
        have e := strs_empty hs he
        rw [e] at hs ⊢
        exact hs
    · (with_reducible rename (_ != Str.ofString "..") = false => hdd)
      refine TurnEnd.mk F' N' ?_ ⟨vs.dropLast, ep + 1, _, _, _, _, rfl, rfl, rfl, rfl, rfl, rfl, ?_⟩
      · exact off2 hrl hll
      · rw [hts, rowsOf_snoc, step_up hdd]; exact strs_dropLast hs
    · (with_reducible rename _ = (0 : Int) => hz)
      refine TurnEnd.mk F' N' ?_ ⟨vs, ep, _, _, _, _, rfl, rfl, rfl, rfl, rfl, rfl, ?_⟩
      · exact off2 hrl hll
      · rw [hts, rowsOf_snoc, step_nil hz]; exact hs
  case done =>
    rintro m news h tk ⟨vs, ep, t1, t2, t3, t4, e1, e2, e3, e4, e5, rfl, hs⟩ F N
    replace F := fr_at (fr_at (fr_at (fr_at (fr_at F "new_comps" e1) "dot" e2) "dotdot" e3) "initial_slashes" e4) "sep" e5
    have hsm : Small (rowsOf ((ls.map (·.1)).take (strValues ls).length)) := by
      refine ⟨fun y hy => hlens y (List.mem_of_mem_take (rowsOf_mem hy).1), ?_⟩
      have h2 := rowsOf_len ((ls.map (·.1)).take (strValues ls).length)
      rw [List.length_take, List.length_map] at h2
      omega
    k_steps
    have e : rowsOf ((ls.map (·.1)).take (strValues ls).length) = rowsOf (Txt.split (Txt.slice x (some 1) none) (Str.ofString "/")) := by
      rw [← hmap]
      have e : (strValues ls).length = (ls.map (·.1)).length := by simp [strValues]
      rw [e, List.take_length]
    refine FnEnd.mk (by k_asm) ?_
    rw [← e]
    exact ⟨_, rfl⟩
end
section
theorem site_fn {w : World} : Fn w 218 [] 1 100 (fun _ => True) (NewObj (SiteObj w)) := by
  k_dflt (refine' Fn.intro (binds := []) ?k6 ?k7 ?k8 ?k9 ?kB ?_ ?c5 ?c2 ?c3 ?c4; (case k6 => k_is); (case k7 => k_is); (case k8 => decide); (case k9 => intro s; exact BindsTo.of_eq rfl); (case c5 => decide); (case kB => exact locs rfl); (case c2 => exact rfl); (case c3 => exact rfl); (case c4 => exact rfl); k_whole)
  intro p loose mean mg mb dp un gd env outer base s L' h' hd hu hpre hke F' N' B' X' T'
  (try dsimp only)
  (try k_fold)
  k_steps
  all_goals (with_reducible rename Fr _ _ _ _ => F'); (with_reducible rename News _ _ _ _ => N')
  (with_reducible rename (_ == sysModules) = false => lo')
  (with_reducible rename Obj.IsDictOf _ _ _ => hd')
  exact FnEnd.mk F' ⟨_, _, rfl, (N' _ (.head _)).2.2, (N' _ (.head _)).1, lo', _, hd', (site_vals _ _ _ _ _ _ _ _ _).val⟩
end
section
local macro_rules | `(tactic| walk_at "call ref") => `(tactic| (k_here; (with_reducible show wpAny _ _ (call (Value.ref 143) [Value.str _ _]) _ _ _); k_dflt (refine' Fn.use (fspath_fn _ _) (by k_asm) (by k_asm) (by k_asm) (by k_asm) (by k_asm) rfl (by ktr_room) (by ktr_units) (by trivial) ?_; k_whole); intro v9 h9 tk9 st9 p9 F9 N9; subst p9; (try dsimp only); (try k_sweep)))
local macro_rules | `(tactic| walk_at "call ref") => `(tactic| (k_here; (with_reducible show wpAny _ _ (call (Value.ref 70) [Value.str _ _]) _ _ _); k_dflt (refine' Fn.use (getsep_fn _ _) (by k_asm) (by k_asm) (by k_asm) (by k_asm) (by k_asm) rfl (by ktr_room) (by ktr_units) (by trivial) ?_; k_whole); intro v9 h9 tk9 st9 p9 F9 N9; (obtain ⟨t9, e9⟩ := p9; subst e9); (try dsimp only); (try k_sweep)))
theorem dir_fn {w : World} (x : Str) (t : Tok) : Fn w 157 [.str x t] 2 300 (fun _ => x.length ≤ 1000) (fun _ _ v => ∃ t', v = .str (dirOf x) t') := by
  k_dflt (refine' Fn.intro (binds := [(Str.ofString "p", .str x t)]) ?k6 ?k7 ?k8 ?k9 ?kB ?_ ?c5 ?c2 ?c3 ?c4; (case k6 => k_is); (case k7 => k_is); (case k8 => decide); (case k9 => intro s; exact BindsTo.of_eq rfl); (case c5 => decide); (case kB => exact locs rfl); (case c2 => exact rfl); (case c3 => exact rfl); (case c4 => exact rfl); k_whole)
  intro p loose mean mg mb dp un gd env outer base s L' h' hd hu hpre hke F' N' B' X' T'
  (try dsimp only)
  (try k_fold)
  k_steps
  all_goals (with_reducible rename Fr _ _ _ _ => F')
  · (with_reducible rename (_ != _) = true => hb)
    (with_reducible rename ¬ _ = (0 : Int) => hz)
    refine FnEnd.mk F' ?_
    unfold dirOf
    rw [if_neg hz, if_pos hb]
    exact ⟨_, rfl⟩
  · (with_reducible rename (_ != _) = false => hb)
    (with_reducible rename ¬ _ = (0 : Int) => hz)
    refine FnEnd.mk F' ?_
    unfold dirOf
    rw [if_neg hz, if_neg (by rw [hb]; decide)]
    exact ⟨_, rfl⟩
  · (with_reducible rename _ = (0 : Int) => hz)
    refine FnEnd.mk F' ?_
    unfold dirOf
    rw [if_pos hz]
    exact ⟨_, rfl⟩
end
section
local macro_rules | `(tactic| k_get) => `(tactic| with_reducible assumption)
local macro_rules | `(tactic| k_mem) => `(tactic| (show (_ : Addr × Obj) ∈ (_ : List (Addr × Obj)); with_reducible assumption))
local macro_rules | `(tactic| k_all) => `(tactic| with_reducible assumption)
local macro_rules | `(tactic| walk_at "call ref") => `(tactic| (k_here; (with_reducible show wpAny _ _ (call (Value.ref 59) _) _ _ _); k_dflt (refine' call_cls (by k_asm) (by k_asm) (by k_asm) (by k_is) (by k_is) (by k_is) ?_; k_whole; intro x' d' h' F' N' l1 l2; (try k_lt l1); (try k_lt2 l2); (try k_sweep); (refine' code_def ?k1 ?k2 ?k3 ?k4 ?k5 ?kA ?kF ?kK ?k6 ?k7 ?k8 ?k9 ?kB ?_ ?c2 ?c3 ?c4 ?c5; (case kA => exact rfl); (case kF => exact rfl); (case kK => exact rfl); (case k1 => k_asm); (case k2 => k_asm); (case k3 => k_asm); (case k4 => k_asm); (case k5 => k_asm); (case k6 => k_is); (case k7 => k_is); (case k8 => (simp only [depth_under_make, depth_under_kw, depth_in1, depth_deeper, depth_caller]; omega)); (case k9 => exact BindsTo.of_eq rfl); (case c5 => decide); (case kB => exact locs rfl); (case c2 => exact rfl); (case c3 => exact rfl); (case c4 => exact rfl); k_whole; intro g' L' h' FG' F' N' B' X' T'; (try dsimp only); (try k_lift B'); (try k_fold)))))
section
theorem applies_fn {w : World} {need : Led} {x : Addr} {row : List Str × List (Str × Bool)} (hr : RecN w need x row) (ag : Str) (t : Tok) (hal : ag.length ≤ 100) (hnl : ∀ n ∈ row.1, n.length ≤ 100) : FnL w 49 need [.ref x, .str ag t] 1 100 (fun _ => True) (fun _ _ v => v = .bool (calledB row.1 ag)) := by
  obtain ⟨d, ua, rl, es, vs, us, ep, eq, ⟨hx, hdd, gu, gr, -, -, hu', hsa, hr', hrs⟩⟩ := hr
  k_dflt (refine' FnL.plain (binds := [(Str.ofString "self", .ref x), (Str.ofString "useragent", .str ag t)]) ?k6 ?k7 ?k8 ?k9 ?kB ?_ ?c5 ?c2 ?c3 ?c4; (case k6 => k_is); (case k7 => k_is); (case k8 => decide); (case k9 => intro s; exact BindsTo.of_eq rfl); (case c5 => decide); (case kB => exact locs rfl); (case c2 => exact rfl); (case c3 => exact rfl); (case c4 => exact rfl); k_whole)
  intro p loose mean mg mb dp un gd env outer base s g L' h' hd hu hpre hke hg F' N' B' X' T'
  (try dsimp only)
  (try k_fold)
  k_steps
  (with_reducible rename Fr _ _ _ _ => F); (with_reducible rename News _ _ _ _ => N); (with_reducible rename (List.map _ _)[_]? = some _ => hy); (with_reducible rename (List.map _ _ = Txt.split _ _) => hsp)
  (with_reducible rename (∀ a, a ∈ _ → Str.length a ≤ _) => hlen)
  rename_i y ty
  have hyl : y.length ≤ 100 := Nat.le_trans (hlen _ (List.mem_of_getElem? hy)) hal
  dsimp only at N
  have hsp' : (Txt.split ag (Str.ofString "/")).headD (Str.ofString "") = y := by
    rw [← hsp, List.headD_eq_head?_getD, List.head?_eq_getElem?]
    exact congrArg (fun o => Option.getD o _) hy
  generalize hl : Array.size (Heap.objs _) = l at N
  k_steps
  (with_reducible rename Fr _ _ _ _ => F); (with_reducible rename News _ _ _ _ => N)
  obtain ⟨ol, N⟩ : ∃ ol, News g L' _ ((l, ol) :: need) := ⟨_, N⟩
  refine for_list (L := L') (items := vs) (fun j m' news => (∃ tu, m' (Str.ofString "useragent") = some (.str (Txt.lower y) tu)) ∧ news = (l, ol) :: need ∧ (row.1.take j).any (hitsName (Txt.lower y)) = false) rfl rfl F N ?h1 ?hl1 ?turn1 ?done1 PassesOwn.never
  case h1 => exact ⟨⟨_, rfl⟩, rfl, by simp⟩
  case hl1 =>
    rintro j m' news h ⟨⟨tu, f1⟩, rfl, hno⟩ F N
    exact ⟨_, (N _ (.tail _ hu')).1, rfl, _, rfl⟩
  case turn1 =>
    rintro I hI hIL j v m' news oI h tk hv ⟨⟨tu, f1⟩, rfl, hno⟩ F N hn
    replace F := fr_at F "useragent" f1
    obtain ⟨z, tz, rfl, hz⟩ := strs_at hsa hv
    have hzl : z.length ≤ 100 := hnl z (List.mem_of_getElem? hz)
    have hIn : ∀ p ∈ need, p.1 ≠ I := fun p hp => hn p (.tail _ hp)
    clear hv hI
    k_steps
    all_goals (with_reducible rename Fr _ _ _ _ => F'); (with_reducible rename News _ _ _ _ => N')
    · (with_reducible rename List.isEmpty _ = _ => ha)
      refine TurnEnd.mk F' N' hn ⟨⟨_, rfl⟩, rfl, any_take hz hno ?_⟩
      unfold hitsName
      rw [ha]
      exact Bool.and_false _
    · (with_reducible rename List.isEmpty _ = _ => ha); (with_reducible rename (_ != _) = _ => hb)
      simp only [TurnPost]
      subst qk
      refine FnEndL.mk F' N' (fun p hp => .tail _ (.tail _ hp)) ?_
      have : calledB row.1 ag = true := by
        unfold calledB
        rw [hsp']
        refine any_at hz ?_
        unfold hitsName
        rw [ha, hb]
        rfl
      rw [this]
    · (with_reducible rename (_ != _) = _ => hb)
      refine TurnEnd.mk F' N' hn ⟨⟨_, rfl⟩, rfl, any_take hz hno ?_⟩
      unfold hitsName
      rw [hb]
      exact Bool.false_and _
  case done1 =>
    rintro m' news h tk ⟨⟨tu, f1⟩, rfl, hno⟩ F N
    replace F := fr_at F "useragent" f1
    k_steps
    refine FnEndL.mk F N (fun p hp => .tail _ hp) ?_
    have : calledB row.1 ag = false := by
      unfold calledB
      rw [hsp']
      rw [strs_len hsa, List.take_length] at hno
      exact hno
    rw [this]
end
section
local macro_rules | `(tactic| walk_at "getMethod ref") => `(tactic| (k_here; k_dflt (refine' fn_meth (by exact News.get (by k_asm) (by k_mem)) (by assumption) (by assumption) (by assumption) (by exact News.get (by k_asm) (by k_mem)) (by first | exact tl_applies | exact tl_allow) (by k_get) (by exact rfl) ?_; k_whole)))
local macro_rules | `(tactic| walk_at "getAttr ref") => `(tactic| (k_here; k_dflt (refine' fn_get (by exact News.get (by k_asm) (by k_mem)) (by assumption) (by assumption) (by assumption) (by exact News.get (by k_asm) (by k_mem)) (by first | exact tl_applies | exact tl_allow) (by k_get) (by exact rfl) ?_; k_whole)))
local macro_rules | `(tactic| walk_at "callWith ref") => `(tactic| (k_here; k_dflt (refine' callWith_F (by exact fnat_of (by k_asm) (by k_mem) (by assumption)) ?_; k_whole)))
local macro_rules | `(tactic| walk_at "FnAt") => `(tactic| (k_dflt (exact fnat_of (by k_asm) (by k_mem) (by assumption))))
local macro_rules | `(tactic| walk_at "call ref") => `(tactic| (k_here; (with_reducible show wpAny _ _ (call (Value.ref _) [Value.str _ _]) _ _ _); k_dflt (refine' LFn.use (by exact (by assumption : LamN _ _ _ _) _ _ (by omega)) (by k_asm) (by k_asm) (by k_asm) (by k_asm) (by k_asm) (by first | exact rfl | assumption) (by ktr_room) (by ktr_units) (by exact fun p hp => .tail _ hp) ?_; k_whole); intro v9 h9 tk9 p9 F9 N9; (obtain ⟨t9, e9⟩ := p9; subst e9); (try dsimp only); (try k_sweep)))
theorem allow_fn {w : World} {need : Led} {x : Addr} {row : List Str × List (Str × Bool)} (hr : RecN w need x row) (way : Str) (t : Tok) (hal : way.length ≤ 1000) (hnl : ∀ n ∈ row.2, n.1.length ≤ 100) : FnL w 56 need [.ref x, .str way t] 2 200 (fun _ => True) (fun _ _ v => v = .bool (allowB row.2 way)) := by
  obtain ⟨d, ua, rl, es, vs, us, ep, eq, ⟨hx, hdd, gu, gr, -, -, hu', hsa, hr', hrs⟩⟩ := hr
  k_dflt (refine' FnL.plain (binds := [(Str.ofString "self", .ref x), (Str.ofString "filename", .str way t)]) ?k6 ?k7 ?k8 ?k9 ?kB ?_ ?c5 ?c2 ?c3 ?c4; (case k6 => k_is); (case k7 => k_is); (case k8 => decide); (case k9 => intro s; exact BindsTo.of_eq rfl); (case c5 => decide); (case kB => exact locs rfl); (case c2 => exact rfl); (case c3 => exact rfl); (case c4 => exact rfl); k_whole)
  intro p loose mean mg mb dp un gd env outer base s g L' h' hd hu hpre hke hg F' N' B' X' T'
  (try dsimp only)
  (try k_fold)
  k_steps
  (with_reducible rename Fr _ _ _ _ => F); (with_reducible rename News _ _ _ _ => N)
  refine for_list (L := L') (items := us) (fun j m' news => (∃ b a tb, m' (Str.ofString "best_match") = some (.int b tb) ∧ m' (Str.ofString "allowance") = some (.bool a) ∧ (row.2.take j).foldl (allowStep way) (-1, true) = (b, a)) ∧ m' (Str.ofString "filename") = some (.str way t) ∧ news = need) rfl rfl F N ?h1 ?hl1 ?turn1 ?done1 PassesOwn.never
  case h1 => exact ⟨⟨_, _, _, rfl, rfl, rfl⟩, rfl, rfl⟩
  case hl1 =>
    rintro j m' news h ⟨⟨b, a, tb, f1, f2, hf⟩, f3, rfl⟩ F N
    exact ⟨_, (N _ hr').1, rfl, _, rfl⟩
  case turn1 =>
    rintro I hI hIL j v m' news oI h tk hv ⟨⟨b, a, tb, f1, f2, hf⟩, f3, rfl⟩ F N hn
    replace F := fr_at (fr_at (fr_at F "best_match" f1) "allowance" f2) "filename" f3
    obtain ⟨f, path, al, rfl, hz, ⟨fo, go, D, gf, es', n', ⟨rf, rc, rdt, rdi, rd, rap, ral, rg, rgd, rlam⟩⟩⟩ := hrs.at hv
    have hpl : path.length ≤ 100 := hnl _ (List.mem_of_getElem? hz)
    have hft := fold_take (way := way) hz (-1, true)
    rw [hf] at hft
    clear hv hI
    k_steps
    all_goals (with_reducible rename Fr _ _ _ _ => F'); (with_reducible rename News _ _ _ _ => N')
    · (with_reducible rename ruleM _ _ ≠ 0 => h1); (with_reducible rename _ < ruleM _ _ => h2)
      refine TurnEnd.mk F' N' hn ⟨⟨_, _, _, rfl, rfl, ?_⟩, rfl, rfl⟩
      rw [hft, allowStep, if_neg h1, if_pos h2]
    · (with_reducible rename ruleM _ _ ≠ 0 => h1); (with_reducible rename ¬ (_ < ruleM _ _) => h2); (with_reducible rename (_ : Bool) = true => h4)
      refine TurnEnd.mk F' N' hn ⟨⟨_, _, _, rfl, rfl, ?_⟩, rfl, rfl⟩
      rw [hft, allowStep, if_neg h1, if_neg h2, if_neg (fun q => by have q2 := q.2; dsimp only at q2; rw [h4] at q2; cases q2)]
    · (with_reducible rename ruleM _ _ ≠ 0 => h1); (with_reducible rename ¬ (_ < ruleM _ _) => h2); (with_reducible rename (_ : Bool) = false => h4); (with_reducible rename ruleM _ _ = _ => h3)
      refine TurnEnd.mk F' N' hn ⟨⟨_, _, _, rfl, rfl, ?_⟩, rfl, rfl⟩
      rw [hft, allowStep, if_neg h1, if_neg h2, if_pos ⟨h3, h4⟩]
    · (with_reducible rename ruleM _ _ ≠ 0 => h1'); (with_reducible rename ruleM _ _ ≠ _ => h3); (with_reducible rename ¬ (_ < ruleM _ _) => h2)
      refine TurnEnd.mk F' N' hn ⟨⟨_, _, _, rfl, rfl, ?_⟩, rfl, rfl⟩
      rw [hft, allowStep, if_neg h1', if_neg h2, if_neg (fun q => h3 q.1)]
    · (with_reducible rename ruleM _ _ = 0 => h1)
      refine TurnEnd.mk F' N' hn ⟨⟨_, _, _, rfl, rfl, ?_⟩, rfl, rfl⟩
      rw [hft, allowStep, if_pos h1]
  case done1 =>
    rintro m' news h tk ⟨⟨b, a, tb, f1, f2, hf⟩, f3, rfl⟩ F N
    replace F := fr_at (fr_at (fr_at F "best_match" f1) "allowance" f2) "filename" f3
    k_steps
    refine FnEndL.mk F N (fun p hp => hp) ?_
    rw [hrs.len, List.take_length] at hf
    unfold allowB
    rw [hf]
end
section
local macro_rules | `(tactic| walk_at "call ref") => `(tactic| (k_here; (with_reducible show wpAny _ _ (call (Value.ref 225) _) _ _ _); k_dflt (refine' Fn.useA rules_fn (by k_asm) (by k_asm) (by k_asm) (by k_asm) (by k_asm) rfl (by ktr_room) (by ktr_units) (by trivial) ?_; k_whole); intro v9 own9 h9 tk9 p9 st9 F9 N9 n9; (simp only [List.cons_append, List.nil_append, List.append_assoc] at N9); (obtain ⟨R9, ra9, rb9, e9, hR9, ha9, hb9⟩ := p9; subst e9); (try dsimp only); (try k_sweep)))
theorem recs_fn {w : World} : FnT w 244 [] 3 400 (fun ps _ => ps = #[]) (RecsPost w) := by
  k_dflt (refine' FnT.plain (binds := []) ?k6 ?k7 ?k8 ?k9 ?kB ?_ ?c5 ?c2 ?c3 ?c4; (case k6 => k_is); (case k7 => k_is); (case k8 => decide); (case k9 => intro s; exact BindsTo.of_eq rfl); (case c5 => decide); (case kB => exact locs rfl); (case c2 => exact rfl); (case c3 => exact rfl); (case c4 => exact rfl); k_whole)
  intro p loose mean mg mb dp un gd env outer base s ps g L' h' hd hu hpre hke hg F' N' B' X' T' C'
  subst hpre
  (try dsimp only)
  (try k_fold)
  k_steps
  (with_reducible rename Fr _ _ _ _ => F); (with_reducible rename News _ _ _ _ => N)
  (with_reducible rename (_, W.listOf #[Value.ref _, Value.ref _] 0) ∈ _ => hR)
  (with_reducible rename RowN _ _ rowsD[1] => hrb)
  (with_reducible rename RowN _ _ rowsD[0] => hra)
  rename_i K _ _ _ own _ _ _ hne R ra rb
  have hne1 : ∀ p ∈ own, p.1 ≠ K := fun p hp => hne p hp _ (.head _)
  have hne2 : ∀ p ∈ own, p.1 ≠ 232 := fun p hp => hne p hp _ (.tail _ (.head _))
  refine for_list (L := L') (items := [.ref ra, .ref rb]) (fun i m news => ∃ (ks : List Value) (ep : Nat) (ps : Array Value) (rest : Led), m (Str.ofString "records") = some (.ref K) ∧ news = (K, W.listOf ks.toArray ep) :: (232, tabObj ps) :: rest ∧ (∀ p ∈ own, p ∈ rest) ∧ (∀ p ∈ rest, p.1 ≠ K) ∧ (∀ p ∈ rest, p.1 ≠ 232) ∧ TabIn ps rest ∧ RecsN w rest ks (rowsD.take i)) rfl rfl F N ?h0 ?hl ?turn ?done PassesOwn.never
  case h0 => exact ⟨[], 0, #[], own, rfl, rfl, fun _ h => h, hne1, hne2, .inl rfl, .nil⟩
  case hl =>
    rintro i m news h ⟨ks, ep, ps, rest, e1, rfl, st, r1, r2, tb, rc⟩ F N
    exact ⟨_, (N _ (.tail _ (.tail _ (st _ hR)))).1, rfl, _, rfl⟩
  case turn =>
    rintro I hI hIL i v m news oI h tk hv ⟨ks, ep, ps, rest, e1, rfl, st, r1, r2, tb, rc⟩ F N hn
    replace F := fr_at F "records" e1
    obtain ⟨row, a, hrow, hv', hi⟩ : ∃ row a, rowsD[i]? = some row ∧ v = .ref a ∧ RowN own a row := by
      match i, hv with
      | 0, hv => exact ⟨_, ra, rfl, (Option.some.inj hv).symm, hra⟩
      | 1, hv => exact ⟨_, rb, rfl, (Option.some.inj hv).symm, hrb⟩
      | n + 2, hv => cases hv
    subst hv'
    obtain ⟨nl, ul, vs, us, ⟨at1, at2, at3, at4, at5⟩⟩ := hi.more st
    have hKI : @LT.lt Nat _ K I := hI _ (.head _)
    have hIr : ∀ p ∈ rest, p.1 ≠ I := fun p hp => hn _ (.tail _ (.tail _ hp))
    clear hv hI hn hra hrb hne hne1 hne2
    have hrts := take_snoc hrow
    have hks : ks.length ≤ 10 := by
      have h1 := rc.len
      rw [List.length_take] at h1
      have h2 : rowsD.length = 2 := rfl
      omega
    k_steps
    (with_reducible rename Fr _ _ _ _ => F); (with_reducible rename News _ _ _ _ => N)
    refine named4 N ?_
    intro x d ua rl es ex ed eu er ee
    subst ex ed eu er
    (with_reducible rename (_ ∧ _ ∧ _ ∧ AllLt d rest) => hld); (with_reducible rename (d < x) => hdx); (with_reducible rename (_ ∧ _ ∧ _ ∧ _ ∧ _ ∧ AllLt ua rest) => hlu); (with_reducible rename (_ ∧ _ ∧ _ ∧ _ ∧ _ ∧ _ ∧ AllLt rl rest) => hlr)
    have hru : ∀ p ∈ rest, p.1 ≠ ua := fun p hp => Nat.ne_of_lt (allLt_mem hlu.2.2.2.2.2 p hp)
    have hrr : ∀ p ∈ rest, p.1 ≠ rl := fun p hp => Nat.ne_of_lt (allLt_mem hlr.2.2.2.2.2.2 p hp)
    have hrd : ∀ p ∈ rest, p.1 ≠ d := fun p hp => Nat.ne_of_lt (allLt_mem hld.2.2.2 p hp)
    have hrx : ∀ p ∈ rest, p.1 ≠ x := fun p hp => Nat.ne_of_lt (Nat.lt_trans (allLt_mem hld.2.2.2 p hp) hdx)
    have gu : getL (Str.ofString "useragents") es = some (some (.ref ua)) := by rw [ee]; k_get
    have gr : getL (Str.ofString "rulelines") es = some (some (.ref rl)) := by rw [ee]; k_get
    have ga : getL (Str.ofString "applies_to") es = some none := by rw [ee]; k_get
    have gl : getL (Str.ofString "allowance") es = some none := by rw [ee]; k_get
    rw [← ee] at N
    clear ee
    obtain ⟨hs1, hs2, hs3⟩ := rowsD_small hrow
    have hvl := strs_len at3
    have hul := at5.len
    have hId : @LT.lt Nat _ I d := hld.1
    have hxu : @LT.lt Nat _ x ua := hlu.1
    have hur : @LT.lt Nat _ ua rl := hlr.1
    clear hld hlu hlr
    refine for_list (L := L') (items := vs) (fun j m' news => ∃ (ep1 : Nat), m' (Str.ofString "entry") = some (.ref x) ∧ m' (Str.ofString "rules") = some (.ref ul) ∧ m' (Str.ofString "records") = some (.ref K) ∧
      news = (rl, W.listOf #[] 0) :: (ua, W.listOf (vs.take j).toArray ep1) :: (x, instObj 59 d) :: (d, dictOf es 4) :: (I, oI) :: (K, W.listOf ks.toArray ep) :: (232, tabObj ps) :: rest) rfl rfl F N ?h1 ?hl1 ?turn1 ?done1 PassesOwn.never
    case h1 => exact ⟨0, rfl, rfl, rfl, rfl⟩
    case hl1 =>
      rintro j m' news h ⟨ep1, f1, f2, f3, rfl⟩ F N
      exact ⟨_, (N _ (.tail _ (.tail _ (.tail _ (.tail _ (.tail _ (.tail _ (.tail _ at2)))))))).1, rfl, _, rfl⟩
    case turn1 =>
      rintro I1 hI1 hIL1 j v m' news oI1 h tk hv ⟨ep1, f1, f2, f3, rfl⟩ F N hn
      replace F := fr_at (fr_at (fr_at F "entry" f1) "rules" f2) "records" f3
      obtain ⟨y, ty, rfl, hy⟩ := strs_at at3 hv
      have hts := take_snoc hv
      have h1r : @LT.lt Nat _ rl I1 := hI1 _ (.head _)
      have hvt : (vs.take j).length ≤ 100 := by rw [List.length_take]; omega
      clear hv hI1
      k_steps
      (with_reducible rename Fr _ _ _ _ => F'); (with_reducible rename News _ _ _ _ => N')
      refine TurnEnd.mk F' N' ?_ ⟨_, rfl, rfl, rfl, by rw [hts]⟩
      exact List.forall_mem_cons.mpr ⟨hn _ (.head _), List.forall_mem_cons.mpr ⟨Nat.ne_of_lt (Nat.lt_trans hur h1r), fun p hp => hn p (.tail _ (.tail _ hp))⟩⟩
    case done1 =>
      rintro m' news h tk ⟨ep1, f1, f2, f3, rfl⟩ F N
      rw [List.take_length] at N
      replace F := fr_at (fr_at (fr_at F "entry" f1) "rules" f2) "records" f3
      k_steps
      (with_reducible rename Fr _ _ _ _ => F); (with_reducible rename News _ _ _ _ => N)
      refine for_list (L := L') (items := us) (fun j m' news => ∃ (ep2 : Nat) (rs : List Value) (ps2 : Array Value) (rest2 : Led), m' (Str.ofString "entry") = some (.ref x) ∧ m' (Str.ofString "records") = some (.ref K) ∧
        news = (rl, W.listOf rs.toArray ep2) :: (ua, W.listOf vs.toArray ep1) :: (x, instObj 59 d) :: (d, dictOf es 4) :: (I, oI) :: (K, W.listOf ks.toArray ep) :: (232, tabObj ps2) :: rest2 ∧
        (∀ p ∈ rest, p ∈ rest2) ∧ (∀ p ∈ rest2, p.1 ≠ rl) ∧ (∀ p ∈ rest2, p.1 ≠ I) ∧ (∀ p ∈ rest2, p.1 ≠ K) ∧ (∀ p ∈ rest2, p.1 ≠ 232) ∧ TabIn ps2 rest2 ∧ RulesN w rest2 rs (row.2.take j)) rfl rfl F N ?h2 ?hl2 ?turn2 ?done2 PassesOwn.never
      case h2 => exact ⟨0, [], ps, rest, rfl, rfl, rfl, fun _ h => h, hrr, hIr, r1, r2, tb, .nil⟩
      case hl2 =>
        rintro j m' news h ⟨ep2, rs, ps2, rest2, f1, f2, rfl, st2, q1, q2, q3, q4, tb2, rn⟩ F N
        exact ⟨_, (N _ (.tail _ (.tail _ (.tail _ (.tail _ (.tail _ (.tail _ (.tail _ (st2 _ at4))))))))).1, rfl, _, rfl⟩
      case turn2 =>
        rintro I2 hI2 hIL2 j v m' news oI2 h tk hv ⟨ep2, rs, ps2, rest2, f1, f2, rfl, st2, q1, q2, q3, q4, tb2, rn⟩ F N hn
        replace F := fr_at (fr_at F "entry" f1) "records" f2
        obtain ⟨ta, py, by', ty, rfl, hy, hta⟩ := at5.at hv
        replace hta := st2 _ hta
        have hts := take_snoc hy
        have hpl := hs3 _ (List.mem_of_getElem? hy)
        have hrsl := rn.len
        have hrt : (row.2.take j).length ≤ 10 := by rw [List.length_take]; omega
        have hrs : rs.length ≤ 10 := by omega
        have h1r : @LT.lt Nat _ rl I2 := hI2 _ (.head _)
        have hnr : ∀ p ∈ rest2, p.1 ≠ I2 := fun p hp => hn p (.tail _ (.tail _ (.tail _ (.tail _ (.tail _ (.tail _ (.tail _ hp)))))))
        clear hv hI2 hrsl hrt hn
        k_steps
        (with_reducible rename Fr _ _ _ _ => F); (with_reducible rename News _ _ _ _ => N)
        k_here; k_dflt (refine rule_use (rule_fn py ty by' hpl) B' F X' (news_sub (l' := (232, tabObj ps2) :: ((I2, oI2) :: (rl, W.listOf rs.toArray ep2) :: (ua, W.listOf vs.toArray ep1) :: (x, instObj 59 d) :: (d, dictOf es 4) :: (I, oI) :: (K, W.listOf ks.toArray ep) :: rest2)) N (fun p hp => (List.perm_middle (l₁ := [(I2, oI2), (rl, W.listOf rs.toArray ep2), (ua, W.listOf vs.toArray ep1), (x, instObj 59 d), (d, dictOf es 4), (I, oI), (K, W.listOf ks.toArray ep)])).mem_iff.mpr hp)) ?hm T' C' rfl (by ktr_room) (by ktr_units) (keep := rest2) (fun p hp => .tail _ (.tail _ (.tail _ (.tail _ (.tail _ (.tail _ (.tail _ hp))))))) tb2 ?_)
        case hm => refine List.forall_mem_cons.mpr ⟨?_, List.forall_mem_cons.mpr ⟨?_, List.forall_mem_cons.mpr ⟨?_, List.forall_mem_cons.mpr ⟨?_, List.forall_mem_cons.mpr ⟨?_, List.forall_mem_cons.mpr ⟨?_, List.forall_mem_cons.mpr ⟨?_, q4⟩⟩⟩⟩⟩⟩⟩ <;> (show @Ne Nat _ _; omega)
        intro f own2 ps3 h3 tk3 F N hne tb3 hr
        replace N := news_sub N (led_re (l := [(I2, oI2), (rl, W.listOf rs.toArray ep2), (ua, W.listOf vs.toArray ep1), (x, instObj 59 d), (d, dictOf es 4), (I, oI), (K, W.listOf ks.toArray ep)]))
        simp only [List.cons_append, List.nil_append] at N
        have z1 := off_app (fun p hp => hne p hp _ (.tail _ (.tail _ (.head _)))) q1
        have z2 := off_app (fun p hp => hne p hp _ (.tail _ (.tail _ (.tail _ (.tail _ (.tail _ (.tail _ (.head _)))))))) q2
        have z3 := off_app (fun p hp => hne p hp _ (.tail _ (.tail _ (.tail _ (.tail _ (.tail _ (.tail _ (.tail _ (.head _))))))))) q3
        have z4 := off_app (fun p hp => hne p hp _ (.head _)) q4
        have z5 := off_app (fun p hp => hne p hp _ (.tail _ (.head _))) hnr
        have zs : ∀ p ∈ rest2, p ∈ own2 ++ rest2 := fun p hp => List.mem_append_right _ hp
        generalize own2 ++ rest2 = rest3 at N tb3 hr z1 z2 z3 z4 z5 zs
        clear hne q1 q2 q3 q4 hnr
        dsimp only at z1 z2 z3 z4 z5
        k_steps
        (with_reducible rename Fr _ _ _ _ => F); (with_reducible rename News _ _ _ _ => N)
        refine TurnEnd.mk F N ?_ ⟨_, rs ++ [.ref f], ps3, rest3, rfl, rfl, rfl, fun p hp => zs _ (st2 _ hp), z1, z2, z3, z4, tb3, by rw [hts]; exact (rn.more zs).snoc hr⟩
        refine List.forall_mem_cons.mpr ⟨?_, List.forall_mem_cons.mpr ⟨?_, List.forall_mem_cons.mpr ⟨?_, List.forall_mem_cons.mpr ⟨?_, List.forall_mem_cons.mpr ⟨?_, List.forall_mem_cons.mpr ⟨?_, List.forall_mem_cons.mpr ⟨?_, z5⟩⟩⟩⟩⟩⟩⟩ <;> (show @Ne Nat _ _; omega)
      case done2 =>
        rintro m' news h tk ⟨ep2, rs, ps2, rest2, f1, f2, rfl, st2, q1, q2, q3, q4, tb2, rn⟩ F N
        replace F := fr_at (fr_at F "entry" f1) "records" f2
        k_steps
        (with_reducible rename Fr _ _ _ _ => F); (with_reducible rename News _ _ _ _ => N)
        refine TurnEnd.mk F (news_sub N (l' := (I, oI) :: (K, W.listOf (ks ++ [Value.ref x]).toArray (ep + 1)) :: (232, tabObj ps2) :: ([(rl, W.listOf rs.toArray ep2), (ua, W.listOf vs.toArray ep1), (x, instObj 59 d), (d, dictOf es 4)] ++ rest2)) ?_) ?_ ⟨ks ++ [Value.ref x], _, ps2, _, rfl, rfl, fun p hp => List.mem_append_right _ (st2 _ (st _ hp)), off_app ?_ q3, off_app ?_ q4, ?_, ?_⟩
        · intro p hp
          simp only [List.cons_append, List.nil_append, List.mem_cons] at hp ⊢
          rcases hp with h | h | h | h | h | h | h | h <;> simp only [h, true_or, or_true]
        · refine List.forall_mem_cons.mpr ⟨?_, List.forall_mem_cons.mpr ⟨?_, off_app ?_ q2⟩⟩ <;> (first | (show @Ne Nat _ _; omega) | (refine List.forall_mem_cons.mpr ⟨?_, List.forall_mem_cons.mpr ⟨?_, List.forall_mem_cons.mpr ⟨?_, List.forall_mem_cons.mpr ⟨?_, List.forall_mem_nil _⟩⟩⟩⟩ <;> (show @Ne Nat _ _; omega)))
        · refine List.forall_mem_cons.mpr ⟨?_, List.forall_mem_cons.mpr ⟨?_, List.forall_mem_cons.mpr ⟨?_, List.forall_mem_cons.mpr ⟨?_, List.forall_mem_nil _⟩⟩⟩⟩ <;> (show @Ne Nat _ _; omega)
        · refine List.forall_mem_cons.mpr ⟨?_, List.forall_mem_cons.mpr ⟨?_, List.forall_mem_cons.mpr ⟨?_, List.forall_mem_cons.mpr ⟨?_, List.forall_mem_nil _⟩⟩⟩⟩ <;> (show @Ne Nat _ _; omega)
        · exact tb2.more fun p hp => List.mem_append_right _ hp
        · rw [hul, List.take_length] at rn
          rw [hrts]
          exact (rc.more fun p hp => List.mem_append_right _ (st2 _ hp)).snoc ⟨d, ua, rl, es, vs, rs, ep1, ep2, ⟨.tail _ (.tail _ (.head _)), .tail _ (.tail _ (.tail _ (.head _))), gu, gr, ga, gl, .tail _ (.head _), at3, .head _, rn.more fun p hp => List.mem_append_right _ hp⟩⟩
  case done =>
    rintro m news h tk ⟨ks, ep, ps, rest, e1, rfl, st, r1, r2, tb, rc⟩ F N
    replace F := fr_at F "records" e1
    k_steps
    (with_reducible rename Fr _ _ _ _ => F); (with_reducible rename News _ _ _ _ => N)
    have hK2 : ∀ p ∈ (K, W.listOf ks.toArray ep) :: rest, p.1 ≠ 232 := List.forall_mem_cons.mpr ⟨by show @Ne Nat _ _; omega, r2⟩
    refine FnEndT.mk F (N _ (.tail _ (.head _))).1 ⟨K, ks, ep, (K, W.listOf ks.toArray ep) :: rest, rfl, .head _, rc.more fun p hp => .tail _ hp, fun p hp => ?_, hK2⟩
    have hN := N p (by rcases List.mem_cons.mp hp with rfl | hp; exact .head _; exact .tail _ (.tail _ hp))
    refine ⟨?_, hN.1⟩
    cases q : s.heap.get? p.1 with
    | none => rfl
    | some o => have := hg p.1 o (hK2 p hp) q; rw [hN.2.2] at this; cases this
end
section
def NormN (w : World) (way plain : Str) : Prop := ∀ t, Fn w 164 [.str way t] 3 300 (fun _ => True) (fun _ _ v => ∃ t', v = .str plain t')
local macro_rules | `(tactic| walk_at "call ref") => `(tactic| (k_here; (with_reducible show wpAny _ _ (call (Value.ref 164) [Value.str _ _]) _ _ _); k_dflt (refine' Fn.use ((by assumption : NormN _ _ _) _) (by k_asm) (by k_asm) (by k_asm) (by k_asm) (by k_asm) rfl (by ktr_room) (by ktr_units) (by trivial) ?_; k_whole); intro v9 h9 tk9 st9 p9 F9 N9; (obtain ⟨t9, e9⟩ := p9; subst e9); (try dsimp only); (try k_sweep)))
local macro_rules | `(tactic| walk_at "call ref") => `(tactic| (k_here; (with_reducible show wpAny _ _ (call (Value.ref 157) [Value.str _ _]) _ _ _); k_dflt (refine' Fn.use (dir_fn _ _) (by k_asm) (by k_asm) (by k_asm) (by k_asm) (by k_asm) rfl (by ktr_room) (by ktr_units) (by assumption) ?_; k_whole); intro v9 h9 tk9 st9 p9 F9 N9; (obtain ⟨t9, e9⟩ := p9; subst e9); (try dsimp only); (try k_sweep)))
structure ModeIs (n : Int) : Prop where
  h : n ∈ siteModes
structure MoIs (n : Int) (mo : Str) : Prop where
  h : mo = modeOf n
structure FirstIs (n : Int) (x : Str) : Prop where
  h : Txt.item (modeOf n) 0 = x
theorem MoIs.first {n : Int} {mo x : Str} (a : MoIs n mo) (b : FirstIs n x) : Txt.item mo 0 = x := by rw [a.h]; exact b.h
theorem fm_fn' {w : World} {n : Int} {t : Tok} (hm : ModeIs n) : Fn w 211 [.int n t] 2 300 (fun _ => True) (fun _ _ v => ∃ t' mo, v = .str mo t' ∧ mo.length = 10 ∧ MoIs n mo) := by
  intro p loose mean mg mb dp un gd cn cs a ccd cl outer A₀ base h₀ L m s Q E h1 h2 h3 h4 h5 h6 h7 _ hret
  exact fm_fn n t p loose mean mg mb dp un gd cn cs a ccd cl outer A₀ base h₀ L m s Q E h1 h2 h3 h4 h5 h6 h7 (modes_range _ hm.h) fun v h' tk' st hp => hret v h' tk' st (hp.elim fun t' e => ⟨t', _, e, modes_len _ hm.h, ⟨rfl⟩⟩)
local macro_rules | `(tactic| walk_at "call ref") => `(tactic| (k_here; (with_reducible show wpAny _ _ (call (Value.ref 211) [Value.int _ _]) _ _ _); k_dflt (refine' Fn.use (fm_fn' (by with_reducible assumption)) (by k_asm) (by k_asm) (by k_asm) (by k_asm) (by k_asm) rfl (by ktr_room) (by ktr_units) (by trivial) ?_; k_whole); intro v9 h9 tk9 st9 p9 F9 N9; (obtain ⟨t9, mo9, e9, l9, m9⟩ := p9; subst e9); (try dsimp only); (try k_sweep)))
local macro_rules | `(tactic| walk_at "call ref") => `(tactic| (k_here; (with_reducible show wpAny _ _ (call (Value.ref 218) _) _ _ _); k_dflt (refine' Fn.useN site_fn (by k_asm) (by k_asm) (by k_asm) (by k_asm) (by k_asm) rfl (by ktr_room) (by ktr_units) (by trivial) ?_; k_whole); intro a9 o9 h9 tk9 p9 st9 F9 N9 n9; skip; (try dsimp only); (try k_sweep)))
local macro_rules | `(tactic| walk_at "call ref") => `(tactic| (k_here; (with_reducible show wpAny _ _ (call (Value.ref 49) [Value.ref _, Value.str _ _]) _ _ _); k_dflt (refine' FnL.use (applies_fn (by assumption) _ _ (by assumption) (by assumption)) (by k_asm) (by k_asm) (by k_asm) (by k_asm) (by k_asm) rfl (by ktr_room) (by ktr_units) (by trivial) (by intro p hp; simp only [List.mem_cons, hp, or_true]) ?_; k_whole); intro v9 h9 tk9 st9 p9 F9 N9; subst p9; (try dsimp only); (try k_sweep)))
local macro_rules | `(tactic| walk_at "call ref") => `(tactic| (k_here; (with_reducible show wpAny _ _ (call (Value.ref 56) [Value.ref _, Value.str _ _]) _ _ _); k_dflt (refine' FnL.use (allow_fn (by assumption) _ _ (by assumption) (by assumption)) (by k_asm) (by k_asm) (by k_asm) (by k_asm) (by k_asm) rfl (by ktr_room) (by ktr_units) (by trivial) (by intro p hp; simp only [List.mem_cons, hp, or_true]) ?_; k_whole); intro v9 h9 tk9 st9 p9 F9 N9; subst p9; (try dsimp only); (try k_sweep)))
local macro_rules | `(tactic| walk_at "subscriptTail Name Constant ref int") => `(tactic| (k_here; (with_reducible show wpAny _ _ (subscriptTail _ _ (Value.ref _) (Value.int _ _)) _ _ _); k_dflt (refine' Mine.item_ls (by k_asm) (by k_mem) (by decide) (by exact rfl) (by decide) ?_ (by with_unfolding_all rfl); k_whole)))
local macro_rules | `(tactic| walk_at "compareOp NotIn str ref") => `(tactic| (k_here; (with_reducible show wpAny _ _ (compareOp CmpOp.NotIn (Value.str _ _) (Value.ref _)) _ _ _); k_dflt (refine' Mine.site_notin (by with_reducible assumption) (by exact News.get (by k_asm) (.head _)) ?_; k_whole); (try dsimp only)))
local macro_rules | `(tactic| walk_at "subscriptTail Name Name ref str") => `(tactic| (k_here; (with_reducible show wpAny _ _ (subscriptTail _ _ (Value.ref _) (Value.str _ _)) _ _ _); k_dflt (refine' Mine.site_item (by with_reducible assumption) (by exact News.get (by k_asm) (.head _)) (by exact (by with_reducible assumption : Mine.SiteIs _ _).h) ?_ (by with_unfolding_all rfl); k_whole); intro t9; (try dsimp only)))
local macro_rules | `(tactic| walk_at "exec While Compare cons nil") => `(tactic| (k_here; k_dflt (refine Mine.while_stop ?_)))
theorem sub_rw {prog : Program} {w : World} {A : Around} {E : Value → Shared → Prop} {s : Shared} {value slice : PySem.Expr} {d : Addr} {x y : Str} {t : Tok} {Q : Value → Shared → Prop} (e : x = y) (h : wpAny (model prog w) A (subscriptTail value slice (.ref d) (.str y t)) Q E s) : wpAny (model prog w) A (subscriptTail value slice (.ref d) (.str x t)) Q E s := e ▸ h
local macro_rules | `(tactic| walk_at "subscriptTail Dict") => `(tactic| (k_here; (with_reducible show wpAny _ _ (subscriptTail _ _ (Value.ref _) (Value.str (Txt.item _ _) _)) _ _ _); k_dflt (refine Mine.sub_rw (Mine.MoIs.first (by with_reducible assumption) (by with_reducible assumption)) ?_); (try dsimp only)))
def ansB (row0 row1 : List Str × List (Str × Bool)) (ag plain : Str) : Str :=
  if allowB (if calledB row0.1 ag = true then row0.2 else row1.2) plain = false then Str.ofString "barred" else match siteF plain with
  | none => Str.ofString "missing"
  | some n => placeT plain n
section
variable {row0 row1 : List Str × List (Str × Bool)} {ag plain : Str}
theorem ans_barred0 (h : calledB row0.1 ag = true) (h2 : allowB row0.2 plain = false) : ansB row0 row1 ag plain = Str.ofString "barred" := by unfold ansB; rw [h]; simp only [if_true, h2]
theorem ans_barred1 (h : calledB row0.1 ag = false) (h2 : allowB row1.2 plain = false) : ansB row0 row1 ag plain = Str.ofString "barred" := by unfold ansB; rw [h]; simp only [Bool.false_eq_true, if_false, h2, if_true]
theorem ans_miss0 (h : calledB row0.1 ag = true) (h2 : allowB row0.2 plain = true) (h3 : (siteF plain).isSome = false) : ansB row0 row1 ag plain = Str.ofString "missing" := by
  unfold ansB; rw [h]; simp only [if_true, h2, Bool.true_eq_false, if_false]
  cases q : siteF plain with
  | none => rfl
  | some n => rw [q] at h3; cases h3
theorem ans_miss1 (h : calledB row0.1 ag = false) (h2 : allowB row1.2 plain = true) (h3 : (siteF plain).isSome = false) : ansB row0 row1 ag plain = Str.ofString "missing" := by
  unfold ansB; rw [h]; simp only [Bool.false_eq_true, if_false, h2, Bool.true_eq_false]
  cases q : siteF plain with
  | none => rfl
  | some n => rw [q] at h3; cases h3
theorem ans_at0 {n : Int} (h : calledB row0.1 ag = true) (h2 : allowB row0.2 plain = true) (h3 : siteF plain = some n) : ansB row0 row1 ag plain = placeT plain n := by
  unfold ansB; rw [h]; simp only [if_true, h2, Bool.true_eq_false, if_false, h3]
theorem ans_at1 {n : Int} (h : calledB row0.1 ag = false) (h2 : allowB row1.2 plain = true) (h3 : siteF plain = some n) : ansB row0 row1 ag plain = placeT plain n := by
  unfold ansB; rw [h]; simp only [Bool.false_eq_true, if_false, h2, Bool.true_eq_false, h3]
end
structure FinIs (res plain : Str) (n : Int) : Prop where
  h : res = placeT plain n
structure ResIs (row0 row1 : List Str × List (Str × Bool)) (ag plain res : Str) : Prop where
  h : ansB row0 row1 ag plain = res
structure ShEq (x y : Str) : Prop where
  h : shutT x = shutT y
structure ShIs (x : Str) (b : Bool) : Prop where
  h : shutT x = b
structure UpIs (a : Str) (n : Int) : Prop where
  d : depthT (dirOf a) < depthT a
  b : badB n = true → shutT a = true
  g : badB n = false → shutT a = shutT (dirOf a)
section
variable {res plain mo : Str} {n : Int} (hfin : FinIs res plain n) (hmo : MoIs n mo)
include hfin
theorem place_bad (h : shutT plain = true) : res = Str.ofString "shut" := by rw [hfin.h]; unfold placeT; rw [if_pos h]
include hmo
theorem place_shut (hs : ShIs plain false) (h7 : (Txt.item mo 7 != Str.ofString "r") = true) : res = Str.ofString "shut" := by
  rw [hfin.h]; unfold placeT; rw [if_neg (by rw [hs.h]; decide), if_pos (by unfold sg; rw [← hmo.h]; exact h7)]
theorem place_file (hs : ShIs plain false) (h7 : (Txt.item mo 7 != Str.ofString "r") = false) (hf : FirstIs n (Str.ofString "-")) : res = Str.ofString "file" := by
  rw [hfin.h]; unfold placeT; rw [if_neg (by rw [hs.h]; decide), if_neg (by unfold sg; rw [← hmo.h, h7]; decide), if_pos hf.h]
theorem place_folder (hs : ShIs plain false) (h7 : (Txt.item mo 7 != Str.ofString "r") = false) (hf : FirstIs n (Str.ofString "d")) : res = Str.ofString "folder" := by
  rw [hfin.h]; unfold placeT; rw [if_neg (by rw [hs.h]; decide), if_neg (by unfold sg; rw [← hmo.h, h7]; decide), if_neg (by unfold sg; rw [hf.h]; decide)]
end
theorem bad_of {n : Int} {mo : Str} (hmo : MoIs n mo) (h : (Builtin.Str.occurrences (Str.ofString "xt") (Txt.item mo 9) 0 (Str.length (Str.ofString "xt")) 1).isEmpty = true) : badB n = true := by unfold badB sg; rw [← hmo.h, h]; rfl
theorem good_of {n : Int} {mo : Str} (hmo : MoIs n mo) (h : (Builtin.Str.occurrences (Str.ofString "xt") (Txt.item mo 9) 0 (Str.length (Str.ofString "xt")) 1).isEmpty = false) : badB n = false := by unfold badB sg; rw [← hmo.h, h]; rfl
theorem ans_fn {w : World} {need : Led} {K r0 r1 : Addr} {ep : Nat} {row0 row1 : List Str × List (Str × Bool)} (hK : (K, W.listOf #[.ref r0, .ref r1] ep) ∈ need) (hr0 : RecN w need r0 row0) (hr1 : RecN w need r1 row1) (hs0 : ∀ n ∈ row0.1, n.length ≤ 100) (hs0' : ∀ n ∈ row0.2, n.1.length ≤ 100) (hs1' : ∀ n ∈ row1.2, n.1.length ≤ 100)
    (ag way plain : Str) (ta tw : Tok) (hag : ag.length ≤ 100) (hN : NormN w way plain) (hpl : plain.length ≤ 1000) :
    FnL w 251 need [.ref K, .str ag ta, .str way tw] 5 600 (fun _ => True) (fun _ _ v => ∃ t, v = .str (ansB row0 row1 ag plain) t) := by
  obtain ⟨d0, _, _, es0, _, _, _, _, ⟨hx0, hd0, -, -, ga0, gl0, -, -, -, -⟩⟩ := id hr0
  obtain ⟨d1, _, _, es1, _, _, _, _, ⟨hx1, hd1, -, -, ga1, gl1, -, -, -, -⟩⟩ := id hr1
  k_dflt (refine' FnL.plain (binds := [(Str.ofString "records", .ref K), (Str.ofString "agent", .str ag ta), (Str.ofString "way", .str way tw)]) ?k6 ?k7 ?k8 ?k9 ?kB ?_ ?c5 ?c2 ?c3 ?c4; (case k6 => k_is); (case k7 => k_is); (case k8 => decide); (case k9 => intro s; exact BindsTo.of_eq rfl); (case c5 => decide); (case kB => exact locs rfl); (case c2 => exact rfl); (case c3 => exact rfl); (case c4 => exact rfl); k_whole)
  intro p loose mean mg mb dp un gd env outer base s g L' h' hd hu hpre hke hg F' N' B' X' T'
  (try dsimp only)
  (try k_fold)
  k_steps
  all_goals (with_reducible rename Fr _ _ _ _ => F); (with_reducible rename News _ _ _ _ => N); (with_reducible rename calledB _ _ = _ => hc); (with_reducible rename allowB _ _ = _ => ha)
  rotate_left
  · (with_reducible rename (siteF _).isSome = _ => hsm)
    exact FnEndL.mk F N (fun p hp => .tail _ hp) ⟨_, by rw [ans_miss0 hc ha hsm]⟩
  · exact FnEndL.mk F N (fun p hp => hp) ⟨_, by rw [ans_barred0 hc ha]⟩
  rotate_left
  · (with_reducible rename (siteF _).isSome = _ => hsm)
    exact FnEndL.mk F N (fun p hp => .tail _ hp) ⟨_, by rw [ans_miss1 hc ha hsm]⟩
  · exact FnEndL.mk F N (fun p hp => hp) ⟨_, by rw [ans_barred1 hc ha]⟩
  all_goals
    (with_reducible rename (siteF _).isSome = _ => hsm)
    obtain ⟨n, hn⟩ := Option.isSome_iff_exists.mp hsm
    have hfin : FinIs (ansB row0 row1 ag plain) plain n := by first | exact ⟨ans_at0 hc ha hn⟩ | exact ⟨ans_at1 hc ha hn⟩
    obtain ⟨res, hres⟩ : ∃ res, ResIs row0 row1 ag plain res := ⟨_, ⟨rfl⟩⟩
    rw [hres.h] at hfin
    replace hn : SiteIs plain n := ⟨hn⟩
    replace N := news_sub N (l' := need) (fun p hp => .tail _ hp)
    clear hsm hc ha
    refine while_loop (L := L') (fun k m news => ∃ a ta na tp, m (Str.ofString "above") = some (.str a ta) ∧ m (Str.ofString "plain") = some (.str plain tp) ∧ SiteIs a na ∧ depthT a = k ∧ ShEq plain a ∧ news = need) (depthT plain) F N ⟨_, _, _, _, rfl, rfl, hn, rfl, ⟨rfl⟩, rfl⟩ ?_ PassesOwn.never
    clear F N
    rintro k m news h tk ⟨a, ta, na, tp, e1, e2, hna, rfl, hsh, rfl⟩ F N
    replace F := fr_at (fr_at F "above" e1) "plain" e2
    have hal := site_len hna.h
    clear e1 e2
    cases he : (a != dirOf a)
    · have hnm : ModeIs n := ⟨site_modes hn.h⟩
      have hf := first_sign _ hnm.h
      replace hsh : ShIs plain false := ⟨by rw [hsh.h]; exact up_top hna.h he⟩
      rcases hf with hf | hf
      · replace hf : FirstIs n (Str.ofString "-") := ⟨hf⟩
        k_steps
        all_goals (with_reducible rename Fr _ _ _ _ => F); (with_reducible rename News _ _ _ _ => N); (with_reducible rename MoIs _ _ => hmo); (with_reducible rename (_ != _) = _ => h7)
        · exact FnEndL.mk F N (fun p hp => .tail _ hp) ⟨_, by rw [hres.h, place_shut hfin hmo hsh h7]⟩
        · exact FnEndL.mk F N (fun p hp => .tail _ (.tail _ hp)) ⟨_, by rw [hres.h, place_file hfin hmo hsh h7 hf]⟩
      · replace hf : FirstIs n (Str.ofString "d") := ⟨hf⟩
        k_steps
        all_goals (with_reducible rename Fr _ _ _ _ => F); (with_reducible rename News _ _ _ _ => N); (with_reducible rename MoIs _ _ => hmo); (with_reducible rename (_ != _) = _ => h7)
        · exact FnEndL.mk F N (fun p hp => .tail _ hp) ⟨_, by rw [hres.h, place_shut hfin hmo hsh h7]⟩
        · exact FnEndL.mk F N (fun p hp => .tail _ (.tail _ hp)) ⟨_, by rw [hres.h, place_folder hfin hmo hsh h7 hf]⟩
    · obtain ⟨n', hn', hd', hb1, hb2⟩ := up_next hna.h he
      replace hn' : SiteIs (dirOf a) n' := ⟨hn'⟩
      have hup : UpIs a n' := ⟨hd', hb1, hb2⟩
      clear hd' hb1 hb2
      have hnm : ModeIs n' := ⟨site_modes hn'.h⟩
      k_steps
      all_goals (with_reducible rename Fr _ _ _ _ => F); (with_reducible rename News _ _ _ _ => N); (with_reducible rename MoIs _ _ => hmo); (with_reducible rename List.isEmpty _ = _ => h9)
      · refine FnEndL.mk (Post := fun _ _ v => ∃ t, v = .str (ansB row0 row1 ag plain) t) F N (fun p hp => .tail _ hp) ?_
        exact ⟨_, by rw [hres.h, place_bad hfin (by rw [hsh.h]; exact hup.b (bad_of hmo h9))]⟩
      · show WhEnd _ _ _ _ _ _
        refine WhEnd.mk (k := depthT (dirOf a)) F (news_sub N (l' := news) fun p hp => .tail _ hp) hup.d ?_
        exact ⟨dirOf a, _, n', tp, rfl, rfl, hn', rfl, ⟨by rw [hsh.h]; exact hup.g (good_of hmo h9)⟩, rfl⟩
end
end
section
local macro_rules | `(tactic| walk_at "call ref") => `(tactic| (k_here; (with_reducible show wpAny _ _ (call (Value.ref 225) _) _ _ _); k_dflt (refine' Fn.useA rules_fn (by k_asm) (by k_asm) (by k_asm) (by k_asm) (by k_asm) rfl (by ktr_room) (by ktr_units) (by trivial) ?_; k_whole); intro v9 own9 h9 tk9 p9 st9 F9 N9 n9; (try simp only [List.cons_append, List.nil_append, List.append_assoc] at N9); (obtain ⟨R9, ra9, rb9, e9, hR9, rna9, rnb9⟩ := p9; subst e9; obtain ⟨⟨nla9, ula9, vsa9, usa9, ⟨ta9, na9, nsa9, ua9, rra9⟩⟩, ⟨nlb9, ulb9, vsb9, usb9, ⟨tb9, nb9, nsb9, ub9, rrb9⟩⟩⟩ := And.intro rna9 rnb9); (try dsimp only); (try k_sweep)))
local macro_rules | `(tactic| walk_at "call ref") => `(tactic| (k_here; (with_reducible show wpAny _ _ (call (Value.ref 258) [Value.str _ _]) _ _ _); k_dflt (refine' Fn.useN (parts_fn _ _) (by k_asm) (by k_asm) (by k_asm) (by k_asm) (by k_asm) rfl (by ktr_room) (by ktr_units) (by omega) ?_; k_whole); intro a9 o9 h9 tk9 p9 st9 F9 N9 n9; (have n9 := allNe_of n9); (obtain ⟨vs9, ep9, eo9, hs9⟩ := p9; subst eo9); (try dsimp only); (try k_sweep)))
local macro_rules | `(tactic| walk_at "call ref") => `(tactic| (k_here; (with_reducible show wpAny _ _ (call (Value.ref 218) _) _ _ _); k_dflt (refine' Fn.useN site_fn (by k_asm) (by k_asm) (by k_asm) (by k_asm) (by k_asm) rfl (by ktr_room) (by ktr_units) (by trivial) ?_; k_whole); intro a9 o9 h9 tk9 p9 st9 F9 N9 n9; (have n9 := allNe_of n9); skip; (try dsimp only); (try k_sweep)))
local macro_rules | `(tactic| walk_at "eval ListComp") => `(tactic| (k_here; k_dflt (refine Mine.comp_eval (by with_unfolding_all rfl) (by rfl) (by decide) ?_)))
local macro_rules | `(tactic| walk_at "exec Assign cons ListComp") => `(tactic| (k_here; k_dflt (refine Mine.comp_assign (by with_unfolding_all rfl) (by with_unfolding_all rfl) (by rfl) (by decide) ?_)))
local macro_rules | `(tactic| walk_at "subscriptTail Name Constant ref int") => `(tactic| (k_here; (with_reducible show wpAny _ _ (subscriptTail _ _ (Value.ref _) (Value.int _ _)) _ _ _); k_dflt (refine' Mine.item_ls (by k_asm) (by kcf_m) (by decide) (by exact rfl) (by decide) ?_ (by with_unfolding_all rfl); k_whole)))
local macro_rules | `(tactic| walk_at "subscriptTail Name Constant ref int") => `(tactic| (k_here; (with_reducible show wpAny _ _ (subscriptTail _ _ (Value.ref _) (Value.int _ _)) _ _ _); k_dflt (refine' Mine.item_tp (by k_asm) (by kcf_m) (by decide) (by exact rfl) (by decide) ?_ (by with_unfolding_all rfl); k_whole)))
local macro_rules | `(tactic| walk_at "eval Name") => `(tactic| (k_here; (with_reducible show wpAny _ _ (eval (Expr.Name (Str.ofString "head") _) (compEnvC _ _ _ _)) _ _ _); k_dflt (refine' Mine.cell_nm ?N ?m ?d ?_ ?c ?k ?x ?b; (case c => rfl); (case N => k_asm); (case m => kcf_m); (case d => with_reducible assumption); (case k => rfl); (case x => rfl); (case b => decide); k_whole)))
local macro_rules | `(tactic| walk_at "eval IfExp") => `(tactic| (k_here; (with_reducible show wpAny _ _ (eval (Expr.IfExp (Expr.Name _ _) (Expr.Constant (Const.int 0) _ _) (Expr.Constant (Const.int 1) _ _) _) _) _ _ _); k_dflt (refine' Mine.ifexp01 (by k_asm) (by rfl) (by exact rfl) (by rfl) (by rfl) (by decide) ?_; k_whole); intro tk9 t9))
local macro_rules | `(tactic| walk_at "compareOp NotEq ref ref") => `(tactic| (k_here; (with_reducible show wpAny _ _ (compareOp CmpOp.NotEq (Value.ref _) (Value.ref _)) _ _ _); k_dflt (refine' Mine.ne_nil' (by k_asm) (by kcf_m) (by kcf_m) (by ktr_units) ?_; k_whole)))
local macro_rules | `(tactic| walk_at "subscriptTail Name IfExp ref int") => `(tactic| (k_here; (with_reducible show wpAny _ _ (subscriptTail _ _ (Value.ref _) (Value.int (ite _ _ _) _)) _ _ _); k_dflt (refine' Mine.item_if (by k_asm) (by kcf_m) (by with_reducible assumption) (by with_reducible assumption) ?_ (by intro _; with_unfolding_all rfl); k_whole); intro ai9 nli9 uli9 vsi9 usi9 hi9; obtain ⟨ti9, ni9, nsi9, ui9, rri9⟩ := hi9))
local macro_rules | `(tactic| walk_at "eval Name") => `(tactic| (k_here; (with_reducible show wpAny _ _ (eval (Expr.Name (Str.ofString "row") _) (compEnvC _ _ _ _)) _ _ _); k_dflt (refine' Mine.cell_nm ?N ?m ?d ?_ ?c ?k ?x ?b; (case c => rfl); (case N => k_asm); (case m => kcf_m); (case d => with_reducible assumption); (case k => rfl); (case x => rfl); (case b => decide); k_whole)))
local macro_rules | `(tactic| walk_at "subscriptTail Name Slice ref ref") => `(tactic| (k_here; (with_reducible show wpAny _ _ (subscriptTail _ _ (Value.ref _) (Value.ref _)) _ _ _); k_dflt (refine' Mine.sl_take (by k_asm) (by k_asm) (by kcf_m) ?_ (by with_unfolding_all rfl) (by kmk_pure) (by omega)); intro D' h' F' N' l1; (try k_sweep)))
local macro_rules | `(tactic| walk_at "compareOp Eq ref ref") => `(tactic| (k_here; (with_reducible show wpAny _ _ (compareOp CmpOp.Eq (Value.ref _) (Value.ref _)) _ _ _); k_dflt (refine' Mine.eq_strs' (by k_asm) (by kcf_m) (by kcf_m) (by assumption) (by exact StrsAre.take' (by assumption) _) (by ktr_units) ?_; k_whole)))
local macro_rules | `(tactic| walk_at "call builtin:len") => `(tactic| (k_here; (with_reducible show wpAny _ _ (call (Value.builtin "len") [Value.ref _]) _ _ _); k_dflt (first
  | (refine' Mine.len_pt ?N ?m ?h ?p ?_; (case N => k_asm); (case m => kcf_m); (case h => with_reducible assumption); (case p => omega))
  | (refine' Mine.len_rw ?N ?m ?p ?_; (case N => k_asm); (case m => kcf_m); (case p => omega))); intro t9 tk9; (try dsimp only)))
local macro_rules | `(tactic| walk_at "call builtin:max") => `(tactic| (k_here; (with_reducible show wpAny _ _ (call (Value.builtin "max") [Value.ref _]) _ _ _); k_dflt (refine' Mine.max_call' (by rfl) (by ktr_units) (by k_asm) (by k_asm) (by kcf_m) (by with_reducible assumption) (by kcf_all) (by with_reducible assumption) ?_); intro T9 t9 h9 tk9 m9 F9 N9; (try dsimp only); (try k_sweep)))
theorem permT {t a b c i k d : Addr × Obj} {l : Led} : ∀ p ∈ i :: k :: d :: t :: l, p ∈ t :: a :: b :: c :: i :: k :: d :: l := fun p hp => by simp only [List.mem_cons] at hp ⊢; rcases hp with h | h | h | h | h <;> simp only [h, true_or, or_true]
local macro_rules | `(tactic| walk_at "eval Name") => `(tactic| (k_here; (with_reducible show wpAny _ _ (eval (Expr.Name (Str.ofString "row") _) (envOfC _ _ _ _ _)) _ _ _); k_dflt (refine' Mine.cell_gen ?N ?m ?d ?_ ?c ?k ?x ?b; (case c => rfl); (case N => k_asm); (case m => kcf_m); (case d => with_reducible assumption); (case k => rfl); (case x => rfl); (case b => decide); k_whole)))
local macro_rules | `(tactic| walk_at "subscriptTail Name UnaryOp ref int") => `(tactic| (k_here; (with_reducible show wpAny _ _ (subscriptTail _ _ (Value.ref _) (Value.int (-1) _)) _ _ _); k_dflt (refine' Mine.last_pl (by k_asm) (by kcf_m) (by with_reducible assumption) ?_ (by with_unfolding_all rfl)); intro t'))
local macro_rules | `(tactic| walk_at "compareOp NotIn str ref") => `(tactic| (k_here; (with_reducible show wpAny _ _ (compareOp CmpOp.NotIn (Value.str _ _) (Value.ref _)) _ _ _); k_dflt (refine' Mine.site_notin (by with_reducible assumption) (by exact News.get (by k_asm) (.head _)) ?_; k_whole); (try dsimp only)))
local macro_rules | `(tactic| walk_at "subscriptTail Name Name ref str") => `(tactic| (k_here; (with_reducible show wpAny _ _ (subscriptTail _ _ (Value.ref _) (Value.str _ _)) _ _ _); k_dflt (refine' Mine.site_item (by with_reducible assumption) (by exact News.get (by k_asm) (.head _)) (by exact (by with_reducible assumption : Mine.SiteIs _ _).h) ?_ (by with_unfolding_all rfl); k_whole); intro t9; (try dsimp only)))
local macro_rules | `(tactic| walk_at "subscriptTail Name Subscript ref str") => `(tactic| (k_here; (with_reducible show wpAny _ _ (subscriptTail _ _ (Value.ref _) (Value.str _ _)) _ _ _); k_dflt (refine' Mine.site_item (by with_reducible assumption) (by exact News.get (by k_asm) (.head _)) (by exact (by with_reducible assumption : Mine.SiteIs _ _).h) ?_ (by with_unfolding_all rfl); k_whole); intro t9; (try dsimp only)))
local macro_rules | `(tactic| walk_at "subscriptTail Dict") => `(tactic| (k_here; (with_reducible show wpAny _ _ (subscriptTail _ _ (Value.ref _) (Value.int (Int.fdiv _ _) _)) _ _ _); k_dflt (refine Mine.sub_stop ?_)))
local macro_rules | `(tactic| walk_at "subscriptTail Name Slice ref ref") => `(tactic| (k_here; (with_reducible show wpAny _ _ (subscriptTail _ _ (Value.ref _) (Value.ref _)) _ _ _); k_dflt (refine' Mine.sl_init (by k_asm) (by k_asm) (by kcf_m) ?_ (by with_unfolding_all rfl) (by kmk_pure) (by omega)); intro D' h' F' N' l1; (try k_sweep)))
local macro_rules | `(tactic| walk_at "callWith ref nil nil") => `(tactic| (k_here; (with_reducible show wpAny _ _ (callWith _ (Value.ref _) _ (backTo _ (starEach [] _)) []) _ _ _); k_dflt (refine' callWith_K0 (by exact Frag.In.keeps (by with_reducible assumption) (Fr.keep (by k_asm))) (by k_is) ?_; k_whole)))
local macro_rules | `(tactic| walk_at "ite") => `(tactic| (with_reducible first | refine ite_ff ?_ | refine ite_tt ?_))
def hit1 (head z : Str) (k : Nat) : Bool := Txt.slice head (some (k : Int)) (some ((k : Int) + (z.length : Int))) == Txt.lower z
def hitW (head z : Str) : Bool := (List.range head.length).any (hit1 head z)
theorem any_range_succ (f : Nat → Bool) (k : Nat) : (List.range (k + 1)).any f = ((List.range k).any f || f k) := by rw [List.range_succ, List.any_append]; simp
theorem any_take_succ {α : Type} {l : List α} {f : α → Bool} {i : Nat} {z : α} (h : l[i]? = some z) : (l.take (i + 1)).any f = ((l.take i).any f || f z) := by rw [List.take_add_one, h, List.any_append]; simp
theorem empty_snoc {α : Type} (l : List α) (x : α) : (l ++ [x]).isEmpty = false := by cases l <;> rfl
theorem led3 {g h : Heap} {L a0 a1 a2 : Addr} {o0 o1 o2 : Obj} {own : Led} (N : News g L h ((a0, o0) :: (a1, o1) :: (a2, o2) :: own)) (hn : ∀ p ∈ own, p.1 ≠ a1) (h21 : a2 ≠ a1) {G : Prop}
    (k : ∀ rest orow, orow = o1 → News g L h ((a1, orow) :: rest) → (a2, o2) ∈ rest → (∀ p ∈ own, p ∈ rest) → (∀ p ∈ rest, p.1 ≠ a1) → G) : G :=
  k ((a2, o2) :: own) o1 rfl (news_sub N fun p hp => .tail _ hp) (.head _) (fun p hp => .tail _ hp) (List.forall_mem_cons.mpr ⟨h21, hn⟩)
theorem perm3 {a b c : Addr × Obj} {l : Led} : ∀ p ∈ a :: b :: c :: l, p ∈ b :: c :: a :: l := fun p hp => by simp only [List.mem_cons] at hp ⊢; rcases hp with h | h | h | h <;> simp only [h, true_or, or_true]
theorem perm3' {a b c : Addr × Obj} {l : Led} : ∀ p ∈ b :: c :: a :: l, p ∈ a :: b :: c :: l := fun p hp => by simp only [List.mem_cons] at hp ⊢; rcases hp with h | h | h | h <;> simp only [h, true_or, or_true]
def partsOf (p : Str) : List Str := rowsOf (Txt.split p (Str.ofString "/"))
def heldB (row : List Str) (r : Str × Bool) : Bool := partsOf r.1 == row.take (partsOf r.1).length
def heldL (row : List Str) (rules : List (Str × Bool)) : List (Int × Bool) := (rules.filter (heldB row)).map fun r => ((r.1.length : Int), r.2)
theorem heldL_yes {row : List Str} {rules : List (Str × Bool)} {i : Nat} {r : Str × Bool} (h : rules[i]? = some r) (hb : heldB row r = true) : heldL row (rules.take (i + 1)) = heldL row (rules.take i) ++ [((r.1.length : Int), r.2)] := by
  unfold heldL; rw [take_snoc h, List.filter_append, List.map_append]; simp [hb]
theorem heldL_no {row : List Str} {rules : List (Str × Bool)} {i : Nat} {r : Str × Bool} (h : rules[i]? = some r) (hb : heldB row r = false) : heldL row (rules.take (i + 1)) = heldL row (rules.take i) := by
  unfold heldL; rw [take_snoc h, List.filter_append, List.map_append]; simp [hb]
theorem led4 {g h : Heap} {L P l D c : Addr} {oP ol oD oc : Obj} {rest : Led} (N : News g L h ((P, oP) :: (l, ol) :: (D, oD) :: (c, oc) :: rest)) {G : Prop}
    (k : ∀ led, News g L h led → (P, oP) ∈ led → (c, oc) ∈ led → G) : G := k _ N (.head _) (.tail _ (.tail _ (.tail _ (.head _))))
theorem led_app {g h : Heap} {L : Addr} {led own : Led} (N : News g L h (led ++ own)) {G : Prop} (k : ∀ led2, News g L h led2 → (∀ p ∈ led, p ∈ led2) → (∀ p ∈ own, p ∈ led2) → G) : G := k _ N (fun _ h => List.mem_append_left _ h) (fun _ h => List.mem_append_right _ h)
theorem led_cons {g h : Heap} {L : Addr} {x : Addr × Obj} {led : Led} (N : News g L h (x :: led)) {G : Prop} (k : ∀ led', News g L h led' → (∀ p ∈ led, p ∈ led') → G) : G := k _ N fun _ h => .tail _ h
def calledW (names : List Str) (head : Str) : Bool := names.any (hitW head)
def barredW (ds : List (Int × Bool)) : Bool := !ds.isEmpty && !(maxD ds).2
def placeW (row : List Str) (k : Nat) : Str := Str.ofString "/" ++ Txt.join (Str.ofString "/") (row.take k)
def evenP (p : Str) : Bool := match siteF p with
  | some n => Int.fmod n 2 == 0
  | none => false
def endW (row : List Str) (n : Int) : Str := if ((List.range row.length).any (fun k => evenP (placeW row k)) || Int.fmod (Int.fdiv n 4) 2 == 0) = true then Str.ofString "shut" else if Int.fdiv n 4096 = 4 then Str.ofString "folder" else Str.ofString "file"
def walkB (b : Bool) (row : List Str) : Str :=
  if barredW (heldL row (if b = true then rowsD[0] else rowsD[1]).2) = true then Str.ofString "barred" else match siteF (placeW row row.length) with
  | none => Str.ofString "missing"
  | some n => endW row n
structure UpAll (row : List Str) : Prop where
  h : ∀ n, siteF (placeW row row.length) = some n → ∀ k, k < row.length → ∃ n', siteF (placeW row k) = some n'
theorem range_dropLast (f : Nat → Str) (n : Nat) : ((List.range (n + 1)).map f).dropLast = (List.range n).map f := by rw [List.range_succ, List.map_append]; simp
theorem led_hd {g h : Heap} {L : Addr} {x : Addr × Obj} {led : Led} (N : News g L h (x :: led)) {G : Prop} (k : ∀ led', News g L h led' → x ∈ led' → G) : G := k _ N (.head _)
theorem led_hd2 {g h : Heap} {L : Addr} {x y : Addr × Obj} {led : Led} (N : News g L h (x :: y :: led)) {G : Prop} (k : ∀ led', News g L h led' → x ∈ led' → (∀ p ∈ led, p ∈ led') → G) : G := k _ N (.head _) (fun _ h => .tail _ (.tail _ h))
theorem led_hd2' {g h : Heap} {L : Addr} {x y : Addr × Obj} {led : Led} (N : News g L h (x :: led)) (hy : y ∈ led) {G : Prop} (k : ∀ led', News g L h led' → x ∈ led' → y ∈ led' → G) : G := k _ N (.head _) (.tail _ hy)
theorem map_at {f : Nat → Str} {n i : Nat} {y : Str} (h : ((List.range n).map f)[i]? = some y) : i < n ∧ y = f i := by
  rw [List.getElem?_map] at h
  by_cases hi : i < n
  · rw [List.getElem?_range hi] at h
    exact ⟨hi, (Option.some.inj h).symm⟩
  · rw [List.getElem?_eq_none (by simpa using hi)] at h
    cases h
section
variable {b : Bool} {row : List Str} {rules : List (Str × Bool)} {ds : List (Int × Bool)} {pw : Nat → Str} {n : Int} {ys : List Value}
theorem isEmpty_len {α β : Type} {l : List α} {r : List β} (h : l.length = r.length) : l.isEmpty = r.isEmpty := by cases l <;> cases r <;> first | rfl | simp at h
theorem bar_no0 (hl : ys.length = ds.length) (h : ys.isEmpty = true) : barredW ds = false := by unfold barredW; rw [← isEmpty_len hl, h]; rfl
theorem bar_no1 (h : (maxD ds).2 = true) : barredW ds = false := by unfold barredW; rw [h]; simp
theorem bar_yes (hl : ys.length = ds.length) (h : ys.isEmpty = false) (h2 : (maxD ds).2 = false) : barredW ds = true := by unfold barredW; rw [← isEmpty_len hl, h, h2]; rfl
variable (hr : EqIs (if b = true then rowsD[0] else rowsD[1]).2 rules) (hd : EqIs (heldL row rules) ds)
include hr hd
theorem walk_barred (h : barredW ds = true) : walkB b row = Str.ofString "barred" := by unfold walkB; rw [hr.h, hd.h, if_pos h]
variable (h : barredW ds = false) (hp : EqIs (placeW row) pw)
include h hp
theorem walk_miss (h3 : (siteF (pw row.length)).isSome = false) : walkB b row = Str.ofString "missing" := by
  unfold walkB; rw [hr.h, hd.h, if_neg (by rw [h]; decide), hp.h]
  cases q : siteF (pw row.length) with
  | none => rfl
  | some n => rw [q] at h3; cases h3
theorem walk_at (h3 : SiteIs (pw row.length) n) : walkB b row = endW row n := by
  unfold walkB; rw [hr.h, hd.h, if_neg (by rw [h]; decide), hp.h, h3.h]
end
def WkPost (ag way : Str) (v : Value) : Prop := ∃ t, v = .str (walkB (calledW rowsD[0].1 (Txt.lower (Txt.partition ag (Str.ofString "/")).1)) (rowsOf (Txt.split way (Str.ofString "/")))) t
theorem WkPost.of {ag way head x : Str} {b : Bool} {row : List Str} (h1 : EqIs (Txt.lower (Txt.partition ag (Str.ofString "/")).1) head) (h2 : EqIs (calledW rowsD[0].1 head) b) (h3 : EqIs (rowsOf (Txt.split way (Str.ofString "/"))) row) (h : walkB b row = x) (t : Tok) : WkPost ag way (.str x t) :=
  ⟨t, by rw [h1.h, h2.h, h3.h, h]⟩
theorem mode_two {n : Int} (h : n ∈ siteModes) : n.fdiv 4096 = 4 ∨ n.fdiv 4096 = 8 := by
  have q : ∀ n ∈ siteModes, n.fdiv 4096 = 4 ∨ n.fdiv 4096 = 8 := by decide
  exact q n h
theorem sub_int {prog : Program} {w : World} {A : Around} {E : Value → Shared → Prop} {s : Shared} {value slice : PySem.Expr} {a : Value} {k j : Int} {t : Tok} {Q : Value → Shared → Prop} (h : k = j) (x : wpAny (model prog w) A (subscriptTail value slice a (.int j t)) Q E s) : SubAt prog w A value slice a (.int k t) Q E s := by
  subst h
  exact x
section
variable {row : List Str} {pw : Nat → Str} {n : Int} {e : Bool}
theorem end_shut1 (hq : Int.fmod (Int.fdiv n 4) 2 = 0) : endW row n = Str.ofString "shut" := by
  unfold endW
  rw [if_pos (by rw [hq]; simp)]
variable (hp : EqIs (placeW row) pw) (hy : EqIs e (!((List.range row.length).any fun k => evenP (pw k))))
include hp hy
theorem end_shut0 (he : e = false) : endW row n = Str.ofString "shut" := by
  have h := hy.h
  rw [he] at h
  unfold endW
  rw [hp.h]
  rw [if_pos (by rw [Bool.or_eq_true]; left; simpa using h)]
theorem end_any (he : e = true) (hq : Int.fmod (Int.fdiv n 4) 2 ≠ 0) : endW row n = if Int.fdiv n 4096 = 4 then Str.ofString "folder" else Str.ofString "file" := by
  have h := hy.h
  rw [he] at h
  unfold endW
  rw [hp.h]
  rw [if_neg]
  rw [Bool.or_eq_true, not_or]
  refine ⟨fun x => ?_, fun x => hq (by simpa using x)⟩
  rw [x] at h
  cases h
theorem end_dir (he : e = true) (hq : Int.fmod (Int.fdiv n 4) 2 ≠ 0) (h4 : Int.fdiv n 4096 = 4) : endW row n = Str.ofString "folder" := by rw [end_any hp hy he hq, if_pos h4]
theorem end_file (he : e = true) (hq : Int.fmod (Int.fdiv n 4) 2 ≠ 0) (h4 : Int.fdiv n 4096 = 8) : endW row n = Str.ofString "file" := by rw [end_any hp hy he hq, if_neg (by rw [h4]; decide)]
end
theorem walk_fn {w : World} (ag way : Str) (ta tw : Tok) (hag : ag.length ≤ 100) (hwl : way.length ≤ 1000) (hp1 : (Txt.partition ag (Str.ofString "/")).1.length ≤ 100) (hp2 : (Txt.lower (Txt.partition ag (Str.ofString "/")).1).length ≤ 1000) (hup : UpAll (rowsOf (Txt.split way (Str.ofString "/")))) (hsm : ∀ y ∈ rowsOf (Txt.split way (Str.ofString "/")), y.length ≤ 1000) :
    Fn w 263 [.str ag ta, .str way tw] 5 600 (fun _ => True) (fun _ _ v => WkPost ag way v) := by
  k_dflt (refine' Fn.cells (binds := [(Str.ofString "agent", .str ag ta), (Str.ofString "way", .str way tw)]) ?k6 ?k7 ?k8 ?k9 ?kB ?kD ?_ ?c2 ?c3 ?c4; (case k6 => k_is); (case k7 => k_is); (case k8 => decide); (case k9 => intro s; exact BindsTo.of_eq rfl); (case kB => exact rfl); (case kD => decide +kernel); (case c2 => exact rfl); (case c3 => exact rfl); (case c4 => exact rfl); k_whole)
  intro p loose mean mg mb dp un gd env outer base s L' h' tk cells hd hu hpre hke F' N' Y' B' X' T'
  k_cells Y'
  (try simp only [List.cons_append, List.nil_append] at N')
  (try dsimp only)
  (try k_fold)
  k_steps
  (with_reducible rename Fr _ _ _ _ => F); (with_reducible rename News _ _ _ _ => N); (with_reducible rename Obj.data _ = Data.cell (some _) => hcd)
  (with_reducible rename Obj.data _ = Data.cell (bindC _ _ _ (Str.ofString "row")) => hcr)
  rename_i own _ _ _ hne R ra rb hR hrna hrnb nl ul vs us hta hna hns hua hrra nl' ul' vs' us' htb hnb hnsb hub hrrb
  generalize hhd : Txt.lower (Txt.partition ag (Str.ofString "/")).1 = head at hp2 hcd
  refine led3 N (fun p hp => hne p hp _ (List.mem_append_left _ (.tail _ (.head _)))) (by show @Ne Nat _ _; omega) ?_
  clear N
  intro rest orow eor N mh ho hcn
  replace hcr : orow.data = Data.cell none := by rw [eor, hcr]; rfl
  replace hna := ho _ hna
  have hvl := strs_len hns
  have hnl : (rowsD[0].1).length = 2 := rfl
  clear hne hR hrna hrnb hta hua hrra hnb hnsb htb hub hrrb hp1 ho eor
  replace hhd : EqIs _ _ := ⟨hhd⟩
  refine comp_run2 (n := vs.length) (fun i ys mC news => news = (L' + 1 + 1, orow) :: rest ∧ ys.length ≤ i * 1000 ∧ ys.isEmpty = !((rowsD[0].1.take i).any (hitW head))) rfl (Src.list rfl ⟨_, (N _ (.tail _ hna)).1, rfl, _, rfl⟩) (by decide) rfl F N ⟨rfl, by simp, by simp⟩ (fun _ _ _ _ _ _ _ _ _ h => wpAny_pure h) ?hLs ?turn ?done
  case hLs =>
    rintro i ys mC news h ⟨rfl, _, _⟩ F N
    exact ⟨_, (N _ (.tail _ hna)).1, rfl, _, rfl⟩
  case turn =>
    rintro I C D s₀ hlt hID hDC i v ys mC news oI' oC h hi hP ⟨rfl, hlen, hemp⟩ F N hC off
    obtain ⟨z, tz, rfl, hz⟩ := strs_at hns hP
    refine ⟨up1 (Str.ofString "name") (.str z tz), Asg.name rfl rfl, ?_⟩
    clear F N hC
    intro oC' h' tk' E' F N hC
    have hx : (up1 (Str.ofString "name") (.str z tz) mC) (Str.ofString "name") = some (.str z tz) := by unfold up1; rw [if_pos rfl]
    generalize up1 (Str.ofString "name") (.str z tz) mC = mC1 at hC hx
    clear hP
    have hzl : z.length ≤ 100 := by
      have q : ∀ y ∈ rowsD[0].1, y.length ≤ 100 := by decide
      exact q z (List.mem_of_getElem? hz)
    k_steps
    (with_reducible rename Fr _ _ _ _ => F1); (with_reducible rename News _ _ _ _ => N1); (rename IsRange _ _ _ _ _ _ _ _ => hr)
    have hCD : C ≠ D := Ne.symm (Nat.ne_of_lt hDC)
    have hIC : I ≠ C := Nat.ne_of_lt (Nat.lt_trans hID hDC)
    refine nest_run (fun k ys2 mC news => mC (Str.ofString "name") = some (.str z tz) ∧ news = (I, oI') :: (L' + 1 + 1, orow) :: rest ∧ ys2.length ≤ i * 1000 + k ∧ k ≤ 1000 ∧ ys2.isEmpty = (ys.isEmpty && !((List.range k).any (hit1 head z))))
      (Src.range rfl hr rfl (Nat.le_trans hp2 (by decide))) F1 (news_sub N1 perm3') hC ?offC hCD ⟨hx, rfl, by omega, by omega, by simp⟩ (fun _ _ _ _ _ _ _ _ _ h => wpAny_pure h) (fun _ _ _ _ _ _ _ _ => trivial) ?hz ?turn2 ?done2
    case offC => exact List.forall_mem_cons.mpr ⟨⟨hIC, Nat.ne_of_lt hID⟩, fun p hp => (off p hp).2⟩
    case hz =>
      rintro k ys2 mC2 news ⟨_, _, hl2, hk2, _⟩
      omega
    case turn2 =>
      rintro I2 hI2 hC2 hD2 k v ys2 mC2 news oI2 oC2 h2 hk ⟨t, rfl⟩ ⟨hx2, rfl, hl2, hk2, he2⟩ F2 N2 hNC off2
      refine ⟨up1 (Str.ofString "k") (.int k t), Asg.name rfl rfl, ?_⟩
      clear F2 N2 hNC F1 N1 F N hC
      intro oC3 h3 tk3 E3 F N hC
      have hy1 : (up1 (Str.ofString "k") (.int k t) mC2) (Str.ofString "name") = some (.str z tz) := by unfold up1; rw [if_neg (by decide)]; exact hx2
      have hy2 : (up1 (Str.ofString "k") (.int k t) mC2) (Str.ofString "k") = some (.int k t) := by unfold up1; rw [if_pos rfl]
      generalize up1 (Str.ofString "k") (.int k t) mC2 = mC3 at hC hy1 hy2
      clear hx hx2 hr
      show wpAny _ _ (isTrue _ _ _) _ _ _
      have hk1 : k + 1 ≤ 1000 := by omega
      k_steps
      all_goals (with_reducible rename Fr _ _ _ _ => F); (with_reducible rename News _ _ _ _ => N); (with_reducible rename (_ == _) = _ => hq)
      · refine CEndY.mk F N (fun _ h => h) hC off2 ⟨hy1, rfl, by rw [List.length_append]; simp only [List.length_cons, List.length_nil]; omega, hk1, ?_⟩
        have e : hit1 head z k = true := hq
        rw [empty_snoc, any_range_succ, e]
        simp
      · refine CEnd.mk F N (fun _ h => h) hC off2 ⟨hy1, rfl, by omega, hk1, ?_⟩
        have e : hit1 head z k = false := hq
        rw [he2, any_range_succ, e, Bool.or_false]
    case done2 =>
      rintro ys2 mC2 news oC2 h2 tk2 ⟨hx2, rfl, hl2, _, he2⟩ F2 N2 hC2 off2
      refine CEnd.mk F2 N2 perm3 hC2 off ⟨rfl, by omega, ?_⟩
      rw [any_take_succ hz, he2, hemp, Bool.not_or]
      rfl
  case done =>
    rintro C D ys mC news oC h tk ⟨rfl, hlen, hemp⟩ F N hC off1 off2 hCD
    refine fin_ev F N hC off1 hCD ?_
    clear F N hC hcd mh hna
    intro h2 tk2 F N
    have hDr : @Ne Nat (L' + 1 + 1) D := off2 _ (.head _)
    rw [hvl, List.take_length] at hemp
    clear off1 off2 hlen
    k_steps
    (with_reducible rename Fr _ _ _ _ => F); (with_reducible rename News _ _ _ _ => N); (with_reducible rename AllNe _ _ => hP); (with_reducible rename StrsAre _ _ => hrs)
    (rename (_ < _ ∧ _ ∧ _) => hl1)
    rename_i P _ _ _ _ hPn rvs rep
    refine storeX_C F N rfl (UpdF.tail (by have := hP.2.2.1; exact Ne.symm this) (UpdF.tail (Ne.symm (Nat.ne_of_lt hl1.2.1)) (UpdF.tail (Ne.symm hDr) (UpdF.head hcn)))) hcr ?_ rfl rfl
    clear F N
    intro h3 or2 F N hcr2
    refine led4 N ?_
    clear N hl1 hP hcr hcn
    intro led N hmP hmc
    have hrl : rvs.length ≤ 1002 := by
      have h1 := parts_len way (Str.ofString "/")
      have h2 := strs_len hrs
      omega
    generalize hrow : rowsOf (Txt.split way (Str.ofString "/")) = row at hrs
    generalize hb : (!ys.isEmpty) = b at F
    have hrowl := strs_len hrs
    replace hb : calledW rowsD[0].1 head = b := by rw [← hb, hemp, Bool.not_not]; rfl
    rw [hrow] at hsm hup
    replace hb : EqIs _ _ := ⟨hb⟩
    replace hrow : EqIs _ _ := ⟨hrow⟩
    clear hemp
    k_steps
    (with_reducible rename Fr _ _ _ _ => F); (with_reducible rename News _ _ _ _ => N)
    rename_i ai nli uli vsi usi ti ni nsi ui rri
    refine led_app N ?_
    clear N
    intro led2 N hled hown
    replace hmP := hled _ hmP
    replace hmc := hled _ hmc
    replace ui := hown _ ui
    replace rri := rri.more hown
    generalize hrules : (if b = true then rowsD[0] else rowsD[1]).2 = rules at rri
    have hru : rules.length ≤ 10 ∧ ∀ r ∈ rules, r.1.length ≤ 100 := by rw [← hrules]; cases b <;> decide
    have hul := rri.len
    clear hled hown ti ni nsi hPn
    replace hrules : EqIs _ _ := ⟨hrules⟩
    refine comp_run (n := usi.length) (fun i ys mC news => (∀ p ∈ led2, p ∈ news) ∧ PairsN news ys (heldL row (rules.take i)) ∧ ys.length ≤ i ∧ i ≤ 100) (Src.list rfl ⟨_, (N _ ui).1, rfl, _, rfl⟩) (by decide) rfl F N ⟨fun _ h => h, .nil, Nat.le_refl 0, by decide⟩ (fun _ _ _ _ _ _ _ hI hit h => letGo_listiter ⟨_, hI, hit⟩ h) ?hLs ?hz ?turn ?done
    case hLs =>
      rintro i ys mC news h ⟨st, _⟩ F N
      exact ⟨_, (N _ (st _ ui)).1, rfl, _, rfl⟩
    case hz =>
      rintro i ys mC news ⟨_, _, h1, h2⟩
      omega
    case turn =>
      rintro I C D s₀ hlt hID hDC i v ys mC news oI' oC h hi hP ⟨st, hpn, hyl, hi1⟩ F N hC off
      obtain ⟨T, p, al, t, rfl, hr, hT⟩ := rri.at hP
      refine ⟨up2 (Str.ofString "path") (Str.ofString "allowed") (.str p t) (.bool al), Asg.pair rfl ⟨_, (N _ (.tail _ (.tail _ (.tail _ (st _ hT))))).1, rfl, _, rfl⟩ rfl rfl rfl, ?_⟩
      clear F N hC
      intro oC' h' tk' E' F N hC
      have hy1 : (up2 (Str.ofString "path") (Str.ofString "allowed") (.str p t) (.bool al) mC) (Str.ofString "path") = some (.str p t) := by unfold up2; rw [if_neg (by decide), if_pos rfl]
      have hy2 : (up2 (Str.ofString "path") (Str.ofString "allowed") (.str p t) (.bool al) mC) (Str.ofString "allowed") = some (.bool al) := by unfold up2; rw [if_pos rfl]
      generalize up2 (Str.ofString "path") (Str.ofString "allowed") (.str p t) (.bool al) mC = mC3 at hC hy1 hy2
      replace hmP := st _ hmP
      replace hmc := st _ hmc
      have hpl : p.length ≤ 100 := hru.2 _ (List.mem_of_getElem? hr)
      clear hT rri ui hP
      show wpAny _ _ (isTrue _ _ _) _ _ _
      k_steps
      all_goals (with_reducible rename Fr _ _ _ _ => F); (with_reducible rename News _ _ _ _ => N); (with_reducible rename (_ == _) = _ => hq); (with_reducible rename StrsAre _ (rowsOf _) => hs)
      all_goals rw [strs_len hs] at hq
      · (rename (_ < _ ∧ _ ∧ _) => hl9)
        have e : heldB row (p, al) = true := hq
        refine CEndY.mk F N permT hC (List.forall_mem_cons.mpr ⟨⟨Ne.symm (Nat.ne_of_lt hl9.2.2.2.1), Ne.symm (Nat.ne_of_lt hl9.2.2.2.2.1), Ne.symm (Nat.ne_of_lt hl9.2.2.2.2.2.1)⟩, off⟩) ⟨fun q hq => .tail _ (st q hq), ?_, by rw [List.length_append]; simp only [List.length_cons, List.length_nil]; omega, by omega⟩
        rw [heldL_yes hr e]
        exact (hpn.more fun q hq => .tail _ hq).snoc ⟨_, _, rfl, .head _⟩
      · have e : heldB row (p, al) = false := hq
        refine CEnd.mk F N (fun p hp => .tail _ (.tail _ (.tail _ hp))) hC off ⟨st, ?_, by omega, by omega⟩
        rw [heldL_no hr e]
        exact hpn
    case done =>
      rintro C D ys2 mC news oC h tk ⟨st, hpn, hy2, _⟩ F N hC off1 off2 hCD
      refine fin_as rfl rfl rfl F N hC off1 hCD ?_
      clear F N hC
      intro h4 tk4 F N
      rw [hul, List.take_length] at hpn
      replace hpn := hpn.more (need' := (D, LCg.lst ys2) :: news) (fun p hp => .tail _ hp)
      have hmD : (D, LCg.lst ys2) ∈ (D, LCg.lst ys2) :: news := .head _
      replace hmP := List.mem_cons_of_mem (D, LCg.lst ys2) (st _ hmP)
      replace hmc := List.mem_cons_of_mem (D, LCg.lst ys2) (st _ hmc)
      generalize hds : heldL row rules = ds at hpn
      generalize (D, LCg.lst ys2) :: news = led5 at N hpn hmD hmP hmc
      have hyl := hpn.len
      replace hds : EqIs _ _ := ⟨hds⟩
      clear off1 off2 hCD st ui rri
      k_steps
      all_goals (with_reducible rename Fr _ _ _ _ => F); (with_reducible rename News _ _ _ _ => N)
      rotate_left
      rotate_left
      · (with_reducible rename (maxD _).2 = false => hmx); (with_reducible rename List.isEmpty _ = false => hem)
        dsimp only
        refine FnEnd.mk F ?_
        exact WkPost.of hhd hb hrow (walk_barred hrules hds (bar_yes hyl hem hmx)) _
      all_goals
        (rename IsRange _ _ _ _ _ _ _ _ => hr)
        rename_i hkp
        clear hkp
        have hbar : barredW ds = false := by first | exact bar_no0 hyl (by assumption) | exact bar_no1 (by assumption)
        refine led_cons N ?_
        clear N
        intro led6 N h6
        replace hmP := h6 _ hmP
        replace hmc := h6 _ hmc
        clear h6
        refine comp_run (n := rvs.length + 1) (fun i ys mC news => news = led6 ∧ StrsAre ys ((List.range i).map (placeW row)) ∧ i ≤ 1100) (Src.range rfl hr (by omega) (by omega)) (by decide) rfl F N ⟨rfl, .nil, by decide⟩ (fun _ _ _ _ _ _ _ _ _ h => wpAny_pure h) (fun _ _ _ _ _ _ _ _ => trivial) ?_ ?_ ?_
        · rintro i ys mC news ⟨_, h1, h2⟩
          have := strs_len h1
          rw [List.length_map, List.length_range] at this
          omega
        · rintro I C D2 s₀ hlt hID hDC i v ys mC news oI' oC h hi ⟨t, rfl⟩ ⟨rfl, hps, hi1⟩ F N hC off
          refine ⟨up1 (Str.ofString "k") (.int i t), Asg.name rfl rfl, ?_⟩
          clear F N hC
          intro oC' h' tk' E' F N hC
          have hy1 : (up1 (Str.ofString "k") (.int i t) mC) (Str.ofString "k") = some (.int i t) := by unfold up1; rw [if_pos rfl]
          generalize up1 (Str.ofString "k") (.int i t) mC = mC3 at hC hy1
          have hti := StrsAre.take' hrs i
          have hsmi : Small (row.take i) := ⟨fun y hy => hsm y (List.mem_of_mem_take hy), by rw [List.length_take]; omega⟩
          show wpAny _ _ (eval _ _) _ _ _
          k_steps
          (with_reducible rename Fr _ _ _ _ => F); (with_reducible rename News _ _ _ _ => N)
          refine CEndY.mk F N (fun p hp => .tail _ hp) hC off ⟨rfl, ?_, by omega⟩
          rw [List.range_succ, List.map_append]
          exact StrsAre.append' hps (.cons _ _ .nil)
        · rintro C D2 ys3 mC news oC h tk ⟨rfl, hps, _⟩ F N hC off1 off2 hCD
          refine fin_as rfl rfl rfl F N hC off1 hCD ?_
          clear F N hC off1 off2 hCD hmP hmc
          intro h5 tk5 F N
          refine led_hd N ?_
          clear N
          intro led7 N hmD2
          rw [hrowl] at hps
          have hy3 := strs_len hps
          rw [List.length_map, List.length_range] at hy3
          have hdl := strs_dropLast hps
          rw [range_dropLast] at hdl
          generalize hpw : placeW row = pw at hps hdl
          replace hpw : EqIs _ _ := ⟨hpw⟩
          k_steps
          rotate_left
          · (with_reducible rename Fr _ _ _ _ => F); (with_reducible rename (siteF _).isSome = _ => hsm1)
            dsimp only
            refine FnEnd.mk F ?_
            exact WkPost.of hhd hb hrow (walk_miss hrules hds hbar hpw hsm1) _
          · (with_reducible rename Fr _ _ _ _ => F); (with_reducible rename News _ _ _ _ => N); (with_reducible rename (siteF _).isSome = _ => hsm1)
            obtain ⟨n, hn⟩ := Option.isSome_iff_exists.mp hsm1
            have hall : ∀ k, k < row.length → ∃ n', SiteIs (pw k) n' := fun k hk => by
              obtain ⟨n', h'⟩ := hup.h n (by rw [hpw.h]; exact hn) k hk
              exact ⟨n', ⟨by rw [← hpw.h]; exact h'⟩⟩
            replace hn : SiteIs (pw row.length) n := ⟨hn⟩
            clear hsm1
            refine led_hd2 N ?_
            clear N
            intro led8 N hmdl h8
            replace hmD2 := h8 _ hmD2
            clear h8
            refine comp_run (n := ys3.dropLast.length) (fun i ys mC news => news = led8 ∧ ys.length ≤ i ∧ i ≤ 1100 ∧ ys.isEmpty = !((List.range i).any fun k => evenP (pw k))) (Src.list rfl ⟨_, (N _ hmdl).1, rfl, _, rfl⟩) (by decide) rfl F N ⟨rfl, Nat.le_refl 0, by decide, rfl⟩ (fun _ _ _ _ _ _ _ _ _ h => wpAny_pure h) ?_ ?_ ?_ ?_
            · rintro i ys mC news h ⟨rfl, _⟩ F N
              exact ⟨_, (N _ hmdl).1, rfl, _, rfl⟩
            · rintro i ys mC news ⟨_, h1, h2, _⟩
              omega
            · rintro I C D3 s₀ hlt hID hDC i v ys mC news oI' oC h hi hP ⟨rfl, hyl, hi1, hye⟩ F N hC off
              obtain ⟨pl, tp, rfl, hpl⟩ := strs_at hdl hP
              obtain ⟨hil, hpe⟩ := map_at hpl
              obtain ⟨n', hn'⟩ := hall i hil
              rw [← hpe] at hn'
              replace hpe : EqIs _ _ := ⟨hpe⟩
              refine ⟨up1 (Str.ofString "place") (.str pl tp), Asg.name rfl rfl, ?_⟩
              clear F N hC hP hpl
              intro oC' h' tk' E' F N hC
              have hy1 : (up1 (Str.ofString "place") (.str pl tp) mC) (Str.ofString "place") = some (.str pl tp) := by unfold up1; rw [if_pos rfl]
              generalize up1 (Str.ofString "place") (.str pl tp) mC = mC3 at hC hy1
              show wpAny _ _ (isTrue _ _ _) _ _ _
              k_steps
              all_goals (with_reducible rename Fr _ _ _ _ => F); (with_reducible rename News _ _ _ _ => N)
              · (with_reducible rename Int.fmod _ 2 = 0 => hq)
                have e : evenP (pw i) = true := by
                  rw [← hpe.h]
                  unfold evenP
                  rw [hn'.h]
                  simp [hq]
                refine CEndY.mk F N (fun p hp => .tail _ hp) hC off ⟨rfl, by rw [List.length_append]; simp only [List.length_cons, List.length_nil]; omega, by omega, ?_⟩
                rw [empty_snoc, any_range_succ, e]
                simp
              · (with_reducible rename Int.fmod _ 2 ≠ 0 => hq)
                have e : evenP (pw i) = false := by
                  rw [← hpe.h]
                  unfold evenP
                  rw [hn'.h]
                  simp [hq]
                refine CEnd.mk F N (fun p hp => .tail _ hp) hC off ⟨rfl, by omega, by omega, ?_⟩
                rw [hye, any_range_succ, e, Bool.or_false]
            · rintro C D3 ys4 mC news oC h tk ⟨rfl, hyl, _, hye⟩ F N hC off1 off2 hCD
              refine fin_ev F N hC off1 hCD ?_
              clear F N hC off1 off2 hCD hmdl
              intro h6 tk6 F N
              refine led_hd2' N hmD2 ?_
              clear N
              intro led9 N hmD3 hmD2
              have hlen := strs_len hdl
              rw [List.length_map, List.length_range] at hlen
              rw [hlen] at hye
              replace hye : EqIs _ _ := ⟨hye⟩
              clear hlen
              (try clear hDr); (try clear hvl); (try clear hnl); (try clear hru); (try clear hul); (try clear hrl); (try clear hdl); (try clear hup); (try clear hsm); (try clear hall); (try clear hy2); (try clear hp2)
              have hy4 : ys4.length ≤ 1100 := by omega
              clear hyl
              k_steps
              all_goals (with_reducible rename Fr _ _ _ _ => F)
              · (with_reducible rename Int.fmod (Int.fdiv _ _) 2 = 0 => hq)
                dsimp only
                refine FnEnd.mk F ?_
                exact WkPost.of hhd hb hrow ((walk_at hrules hds hbar hpw hn).trans (end_shut1 hq)) _
              · (with_reducible rename News _ _ _ _ => N); (with_reducible rename Int.fmod (Int.fdiv _ _) 2 ≠ 0 => hq); (with_reducible rename List.isEmpty _ = true => hem)
                have hmd := mode_two (site_modes hn.h)
                rcases hmd with hmd | hmd
                · refine sub_int hmd ?_
                  have he : EqIs (endW row n) (Str.ofString "folder") := ⟨end_dir hpw hye hem hq hmd⟩
                  clear hq hem hmd
                  k_steps
                  (with_reducible rename Fr _ _ _ _ => F)
                  dsimp only
                  refine FnEnd.mk F ?_
                  exact WkPost.of hhd hb hrow ((walk_at hrules hds hbar hpw hn).trans he.h) _
                · refine sub_int hmd ?_
                  have he : EqIs (endW row n) (Str.ofString "file") := ⟨end_file hpw hye hem hq hmd⟩
                  clear hq hem hmd
                  k_steps
                  (with_reducible rename Fr _ _ _ _ => F)
                  dsimp only
                  refine FnEnd.mk F ?_
                  exact WkPost.of hhd hb hrow ((walk_at hrules hds hbar hpw hn).trans he.h) _
              · (with_reducible rename List.isEmpty _ = false => hem)
                dsimp only
                refine FnEnd.mk F ?_
                exact WkPost.of hhd hb hrow ((walk_at hrules hds hbar hpw hn).trans (end_shut0 hpw hye hem)) _
end
section
def aheadsD : List Str := [Str.ofString "/.", Str.ofString "/a", Str.ofString "/a/b", Str.ofString "/s", Str.ofString "/d"]
def partsD : List Str := [Str.ofString "a", Str.ofString "b", Str.ofString "f", Str.ofString "..", Str.ofString "x", Str.ofString "s", Str.ofString "d", Str.ofString "g", Str.ofString "", Str.ofString "."]
def agentsD : List Str := [Str.ofString "GoogleBot/2", Str.ofString "foxy", Str.ofString "x", Str.ofString "bot", Str.ofString "fox", Str.ofString "FOXES/1"]
structure GoodAsk (d : Str × Str) : Prop where
  ag : d.1 ∈ agentsD
  way : ∃ a ∈ aheadsD, ∃ ps : List Str, (∀ p ∈ ps, p ∈ partsD) ∧ ps.length ≤ 10 ∧ d.2 = Txt.join (Str.ofString "/") (a :: ps)
inductive AsksN (need : Led) : List Value → List (Str × Str) → Prop
  | nil : AsksN need [] []
  | snoc {us ds T d ta tw} : AsksN need us ds → (T, ({ cls := .type "tuple", data := .seq #[.str (Prod.fst d) ta, .str (Prod.snd d) tw] } : Obj)) ∈ need → GoodAsk d → AsksN need (us ++ [.ref T]) (ds ++ [d])
theorem AsksN.more {need need' : Led} (st : ∀ p ∈ need, p ∈ need') {us ds} (x : AsksN need us ds) : AsksN need' us ds := by
  induction x with
  | nil => exact .nil
  | snoc _ h g ih => exact .snoc ih (st _ h) g
theorem AsksN.len {need : Led} {us ds} (x : AsksN need us ds) : us.length = ds.length := by
  induction x with
  | nil => rfl
  | snoc _ _ _ ih => simp only [List.length_append, List.length_cons, List.length_nil, ih]
theorem AsksN.at {need : Led} {us ds} (x : AsksN need us ds) : ∀ {i : Nat} {v : Value}, us[i]? = some v → ∃ T d ta tw, v = .ref T ∧ ds[i]? = some d ∧ GoodAsk d ∧ (T, ({ cls := .type "tuple", data := .seq #[.str (Prod.fst d) ta, .str (Prod.snd d) tw] } : Obj)) ∈ need := by
  induction x with
  | nil => intro i v h; cases h
  | @snoc us ds T d ta tw x h g ih =>
    intro i v hv
    by_cases hi : i < us.length
    · rw [List.getElem?_append_left hi] at hv
      obtain ⟨T', d', ta', tw', e1, e2, e3, e4⟩ := ih hv
      exact ⟨T', d', ta', tw', e1, by rw [List.getElem?_append_left (x.len ▸ hi)]; exact e2, e3, e4⟩
    · have hi' : us.length ≤ i := by omega
      rw [List.getElem?_append_right hi'] at hv
      have h0 : i - us.length = 0 := by
        cases q : i - us.length with
        | zero => rfl
        | succ n => rw [q] at hv; cases hv
      rw [h0] at hv
      refine ⟨T, d, ta, tw, (Option.some.inj hv).symm, ?_, g, h⟩
      rw [List.getElem?_append_right (x.len ▸ hi'), ← x.len, h0]; rfl
def AsksTab (own : Led) (v : Value) : Prop := ∃ D ks ep ds, v = .ref D ∧ (D, W.listOf ks.toArray ep) ∈ own ∧ AsksN own ks ds ∧ ks.length ≤ 10
theorem good_0 : GoodAsk (Str.ofString "GoogleBot/2", Str.ofString "/a/./b/f") := ⟨by decide, Str.ofString "/a", by decide, [Str.ofString ".", Str.ofString "b", Str.ofString "f"], by decide, by decide, by decide⟩
theorem good_1 : GoodAsk (Str.ofString "foxy", Str.ofString "/s/../a//x") := ⟨by decide, Str.ofString "/s", by decide, [Str.ofString "..", Str.ofString "a", Str.ofString "", Str.ofString "x"], by decide, by decide, by decide⟩
theorem good_2 : GoodAsk (Str.ofString "x", Str.ofString "/a/b/f") := ⟨by decide, Str.ofString "/a", by decide, [Str.ofString "b", Str.ofString "f"], by decide, by decide, by decide⟩
theorem good_3 : GoodAsk (Str.ofString "bot", Str.ofString "/d/g") := ⟨by decide, Str.ofString "/d", by decide, [Str.ofString "g"], by decide, by decide, by decide⟩
theorem good_4 : GoodAsk (Str.ofString "fox", Str.ofString "/s/f") := ⟨by decide, Str.ofString "/s", by decide, [Str.ofString "f"], by decide, by decide, by decide⟩
abbrev askObj (a : Str) (ta : Tok) (w : Str) (tw : Tok) : Obj := { cls := .type "tuple", data := .seq #[.str a ta, .str w tw] }
theorem led_asks {g h : Heap} {L a P A t0 t1 t2 t3 t4 c : Addr} {b0 b1 b2 b3 b4 u0 u1 u2 u3 u4 : Tok} {ep : Nat} {oP oA oc : Obj}
    {p0 p1 p2 p3 p4 p5 p6 p7 p8 p9 x0 x1 x2 x3 x4 : Tok} (eP : oP = W.listOf #[.str (Str.ofString "a") p0, .str (Str.ofString "b") p1, .str (Str.ofString "f") p2, .str (Str.ofString "..") p3, .str (Str.ofString "x") p4, .str (Str.ofString "s") p5, .str (Str.ofString "d") p6, .str (Str.ofString "g") p7, .str (Str.ofString "") p8, .str (Str.ofString ".") p9] 0)
    (eA : oA = W.listOf #[.str (Str.ofString "/.") x0, .str (Str.ofString "/a") x1, .str (Str.ofString "/a/b") x2, .str (Str.ofString "/s") x3, .str (Str.ofString "/d") x4] 0)
    (N : News g L h ((a, W.listOf #[.ref t0, .ref t1, .ref t2, .ref t3, .ref t4] ep) :: (t4, askObj (Str.ofString "fox") b4 (Str.ofString "/s/f") u4) :: (t3, askObj (Str.ofString "bot") b3 (Str.ofString "/d/g") u3) :: (t2, askObj (Str.ofString "x") b2 (Str.ofString "/a/b/f") u2) ::
      (t1, askObj (Str.ofString "foxy") b1 (Str.ofString "/s/../a//x") u1) :: (t0, askObj (Str.ofString "GoogleBot/2") b0 (Str.ofString "/a/./b/f") u0) :: (P, oP) :: (A, oA) :: [(c, oc)]))
    (hne : ∀ p ∈ [(t4, askObj (Str.ofString "fox") b4 (Str.ofString "/s/f") u4), (t3, askObj (Str.ofString "bot") b3 (Str.ofString "/d/g") u3), (t2, askObj (Str.ofString "x") b2 (Str.ofString "/a/b/f") u2),
      (t1, askObj (Str.ofString "foxy") b1 (Str.ofString "/s/../a//x") u1), (t0, askObj (Str.ofString "GoogleBot/2") b0 (Str.ofString "/a/./b/f") u0), (P, oP), (A, oA), (c, oc)], p.1 ≠ a) {G : Prop}
    (k : ∀ a' A' P', a' = a → A' = A → P' = P → ∀ need ks ep ds, News g L h ((a, W.listOf ks.toArray ep) :: need) → AsksN need ks ds → ks.length = 5 → (∃ vp, StrsAre vp partsD ∧ (P, W.listOf vp.toArray 0) ∈ need) → (∃ va, StrsAre va aheadsD ∧ (A, W.listOf va.toArray 0) ∈ need) → (c, oc) ∈ need → (∀ p ∈ need, p.1 ≠ a) → G) : G := by
  exact k _ _ _ rfl rfl rfl _ [.ref t0, .ref t1, .ref t2, .ref t3, .ref t4] ep _ N (.snoc (us := [_, _, _, _]) (.snoc (us := [_, _, _]) (.snoc (us := [_, _]) (.snoc (us := [_]) (.snoc (us := []) .nil (.tail _ (.tail _ (.tail _ (.tail _ (.head _))))) good_0) (.tail _ (.tail _ (.tail _ (.head _)))) good_1) (.tail _ (.tail _ (.head _))) good_2) (.tail _ (.head _)) good_3) (.head _) good_4) rfl ⟨_, .cons _ _ (.cons _ _ (.cons _ _ (.cons _ _ (.cons _ _ (.cons _ _ (.cons _ _ (.cons _ _ (.cons _ _ (.cons _ _ .nil))))))))), by rw [eP]; exact .tail _ (.tail _ (.tail _ (.tail _ (.tail _ (.head _)))))⟩ ⟨_, .cons _ _ (.cons _ _ (.cons _ _ (.cons _ _ (.cons _ _ .nil)))), by rw [eA]; exact .tail _ (.tail _ (.tail _ (.tail _ (.tail _ (.tail _ (.head _))))))⟩ (.tail _ (.tail _ (.tail _ (.tail _ (.tail _ (.tail _ (.tail _ (.head _)))))))) hne
theorem fig_len {c : Int} (h0 : 0 ≤ c) (h1 : c < 1000) : (Str.ofString (toString c)).cps.size ≤ 10 := KT.len_num h0 (Int.lt_of_lt_of_le h1 (by decide))
theorem fig_at {c : Int} (h0 : 0 ≤ c) {i : Nat} {v : Value} (h : SignAt (Str.ofString (toString c)) i v) : ∃ z u, ∃ d : Nat, d < 10 ∧ z.length ≤ 640 ∧ PySem.intText? z = some (d : Int) ∧ v = .str z u := by
  obtain ⟨c', u, e, rfl⟩ := h
  obtain ⟨m, rfl⟩ := Int.eq_ofNat_of_zero_le h0
  have hm : c' ∈ (Str.ofString (toString ((m : Nat) : Int))).cps.toList := by
    rw [← Array.getElem?_toList] at e
    exact List.mem_of_getElem? e
  rw [KIN.signs_num] at hm
  obtain ⟨ch, hch, e'⟩ := List.mem_map.mp hm
  have r := digit_range (Nat.isDigit_of_mem_toDigits (by decide) (by decide) hch)
  rw [e'] at r
  obtain ⟨d, hd, rfl⟩ : ∃ d, d < 10 ∧ c' = 48 + d := ⟨c' - 48, by omega, by omega⟩
  have q : ∀ d, d < 10 → PySem.intText? ⟨#[48 + d]⟩ = some (d : Int) := by decide +kernel
  exact ⟨_, u, d, hd, by show (1 : Nat) ≤ 640; decide, q d hd, rfl⟩
section
variable {prog : Program} {w : World} {A : Around} {E : Value → Shared → Prop} {s : Shared} {h₀ : Heap} {L D : Addr} {news : Led} {e : Nat} {u : Tok} {vs : List Value} {xs : List Str}
theorem strs_get {vs : List Value} {xs : List Str} (h : StrsAre vs xs) {k : Nat} (hk : k < xs.length) : ∃ x t, vs[k]? = some (.str x t) ∧ x ∈ xs := by
  have hl := strs_len h
  have hk' : k < vs.length := by omega
  have e := List.getElem?_eq_getElem hk'
  obtain ⟨x, t, ev, ex⟩ := strs_at h e
  exact ⟨x, t, by rw [e, ev], List.mem_of_getElem? ex⟩
theorem item_strs {value slice : PySem.Expr} {k : Int} {Q : Value → Shared → Prop} (N : News h₀ L s.heap news) (hm : (D, W.listOf vs.toArray e) ∈ news) (hs : StrsAre vs xs) (h0 : 0 ≤ k) (h1 : k < xs.length) (h2 : k < 1000)
    (h : ∀ x t, x ∈ xs → Q (.str x t) s) (hb : subscripted slice false (.ref D) (.int k u) = operate [.ref D, .int k u] (getItem (.ref D) (.int k u))) :
    wpAny (model prog w) A (subscriptTail value slice (.ref D) (.int k u)) Q E s := by
  obtain ⟨m, rfl⟩ := Int.eq_ofNat_of_zero_le h0
  obtain ⟨x, t, e1, e2⟩ := strs_get hs (k := m) (by omega)
  exact item_ls N hm h0 e1 (Int.lt_of_lt_of_le h2 (by decide)) (h x t e2) hb
theorem sl_rev {ops : List Value} {l : Addr} {m : Str → Option Value} {n : Nat} {value slice : PySem.Expr} {Q : Value → Shared → Prop} (F : Fr h₀ L s.heap m) (N : News h₀ L s.heap news) (hm : (l, ({ cls := .type "list", data := .seq vs.toArray n } : Obj)) ∈ news)
    (h : ∀ D h', Fr h₀ L h' m → News h₀ L h' ((D, W.listOf vs.reverse.toArray 0) :: news) → (∀ p ∈ news, p.1 < D) → Q (.ref D) { s with heap := h' })
    (hs : subscripted slice false (.ref l) (.ref s.heap.objs.size) = operate ops (getItem (.ref l) (.ref s.heap.objs.size))) (ht : ∀ r, letTemporaryGo value (.ref l) r = pure ()) (hz : vs.length ≤ 1000000) :
    wpAny (model prog w) A (subscriptTail value slice (.ref l) (.ref s.heap.objs.size)) Q E { s with heap := s.heap.push { cls := .type "slice", data := .fields #[.none, .none, .int (-1) u] } } :=
  krv_lit (its := vs.toArray) (zs := vs.reverse) F N ⟨_, (N _ hm).1, rfl, _, rfl⟩ (.int _ _) rfl h hs ht (by rw [sizeLine_eq, List.size_toArray]; omega)
theorem strs_rev {vs : List Value} {ss : List Str} (h : StrsAre vs ss) : StrsAre vs.reverse ss.reverse := by
  induction h with
  | nil => exact .nil
  | cons x t _ ih =>
    rw [List.reverse_cons, List.reverse_cons]
    exact StrsAre.append' ih (.cons _ _ .nil)
theorem parts_short : ∀ p ∈ partsD, p.length ≤ 4 := by decide
theorem aheads_short : ∀ p ∈ aheadsD, p.length ≤ 4 := by decide
theorem join_ask {a : Str} {ta t : Tok} {ys : List Value} {rs : List Str} {Q : Value → Shared → Prop} (N : News h₀ L s.heap news) (hm : (D, W.listOf ([Value.str a ta] ++ ys).toArray e) ∈ news) (hi : StrsAre ys rs) (ha : a ∈ aheadsD) (hp : ∀ r ∈ rs, r ∈ partsD) (hz : rs.length ≤ 10)
    (h : ∀ t' k, (Txt.join (Str.ofString "/") (a :: rs)).length ≤ 2000000 → Q (.str (Txt.join (Str.ofString "/") (a :: rs)) t') { s with toks := k }) :
    wpAny (model prog w) A (call (.builtin "str.join") [.str (Str.ofString "/") t, .ref D]) Q E s := by
  refine join_ls (vs := [Value.str a ta] ++ ys) (ys := a :: rs) (PySem.IsL.isList (n := e) (N _ hm).1) (.cons _ _ hi) ⟨fun y hy => ?_, by rw [List.length_cons]; omega⟩ h
  rcases List.mem_cons.mp hy with rfl | hy
  · exact Nat.le_trans (aheads_short _ ha) (by decide)
  · exact Nat.le_trans (parts_short _ (hp _ hy)) (by decide)
theorem item_ah {value slice : PySem.Expr} {n : Int} {Q : Value → Shared → Prop} (N : News h₀ L s.heap news) (hm : (D, W.listOf vs.toArray e) ∈ news) (hs : StrsAre vs aheadsD)
    (h : ∀ x t, x ∈ aheadsD → Q (.str x t) s) (hb : ∀ k : Int, subscripted slice false (.ref D) (.int k u) = operate [.ref D, .int k u] (getItem (.ref D) (.int k u))) :
    wpAny (model prog w) A (subscriptTail value slice (.ref D) (.int (Int.fmod n 5) u)) Q E s :=
  have h1 : Int.fmod n 5 < 5 := Int.fmod_lt_of_pos _ (by decide)
  item_strs N hm hs (Int.fmod_nonneg_of_pos _ (by decide)) (by show _ < (5 : Int); exact h1) (Int.lt_trans h1 (by decide)) h (hb _)
theorem item_ag {value slice : PySem.Expr} {n : Int} {t0 t1 t2 : Tok} {Q : Value → Shared → Prop} (N : News h₀ L s.heap news) (hm : (D, W.listOf #[.str (Str.ofString "bot") t0, .str (Str.ofString "FOXES/1") t1, .str (Str.ofString "x") t2] e) ∈ news)
    (h : ∀ x t, x ∈ agentsD → Q (.str x t) s) (hb : ∀ k : Int, subscripted slice false (.ref D) (.int k u) = operate [.ref D, .int k u] (getItem (.ref D) (.int k u))) :
    wpAny (model prog w) A (subscriptTail value slice (.ref D) (.int (Int.fmod n 3) u)) Q E s :=
  have h1 : Int.fmod n 3 < 3 := Int.fmod_lt_of_pos _ (by decide)
  have q : ∀ x ∈ [Str.ofString "bot", Str.ofString "FOXES/1", Str.ofString "x"], x ∈ agentsD := by decide
  item_strs N hm (.cons _ _ (.cons _ _ (.cons _ _ .nil))) (Int.fmod_nonneg_of_pos _ (by decide)) (by show _ < (3 : Int); exact h1) (Int.lt_trans h1 (by decide)) (fun x t hx => h x t (q x hx)) (hb _)
end
local macro_rules | `(tactic| walk_at "eval Name") => `(tactic| (k_here; (with_reducible show wpAny _ _ (eval (Expr.Name (Str.ofString "parts") _) (compEnvC _ _ _ _)) _ _ _); k_dflt (refine' Mine.cell_nm ?N ?m ?d ?_ ?c ?k ?x ?b; (case c => rfl); (case N => k_asm); (case m => kcf_m); (case d => with_reducible assumption); (case k => rfl); (case x => rfl); (case b => decide); k_whole)))
local macro_rules | `(tactic| walk_at "subscriptTail Name Call ref int") => `(tactic| (k_here; (with_reducible show wpAny _ _ (subscriptTail _ _ (Value.ref _) (Value.int _ _)) _ _ _); k_dflt (refine' Mine.item_strs (by k_asm) (by kcf_m) (by with_reducible assumption) (by omega) (by show _ < (10 : Int); omega) (by omega) ?_ (by with_unfolding_all rfl); k_whole); intro x9 t9 m9; (try dsimp only)))
local macro_rules | `(tactic| walk_at "subscriptTail Name BinOp ref int") => `(tactic| (k_here; (with_reducible show wpAny _ _ (subscriptTail _ _ (Value.ref _) (Value.int (Int.fmod _ 5) _)) _ _ _); k_dflt (refine' Mine.item_ah (by k_asm) (by kcf_m) (by with_reducible assumption) ?_ (by intro _; with_unfolding_all rfl); k_whole); intro x9 t9 m9; (try dsimp only)))
local macro_rules | `(tactic| walk_at "subscriptTail List cons BinOp ref int") => `(tactic| (k_here; (with_reducible show wpAny _ _ (subscriptTail _ _ (Value.ref _) (Value.int (Int.fmod _ 3) _)) _ _ _); k_dflt (refine' Mine.item_ag (by k_asm) (by kcf_m) ?_ (by intro _; with_unfolding_all rfl); k_whole); intro x9 t9 m9; (try dsimp only)))
local macro_rules | `(tactic| walk_at "subscriptTail Name Slice ref ref") => `(tactic| (k_here; (with_reducible show wpAny _ _ (subscriptTail _ (PySem.Expr.Slice none none (some _) _) (Value.ref _) (Value.ref _)) _ _ _); k_dflt (refine' Mine.sl_rev (by k_asm) (by k_asm) (by kcf_m) ?_ (by with_unfolding_all rfl) (by kmk_pure) (by omega)); intro D' h' F' N' l1; (try k_lt l1); (try k_sweep)))
local macro_rules | `(tactic| walk_at "call builtin:str.join") => `(tactic| (k_here; k_dflt (refine' Mine.join_ask (by k_asm) (by kcf_m) (by with_reducible assumption) (by with_reducible assumption) (by with_reducible assumption) (by with_reducible assumption) ?_); intro t9 k9 n9; (try dsimp only)))
local macro_rules | `(tactic| walk_at "call type:int") => `(tactic| (k_here; k_dflt (refine KIN.call_text (by with_reducible assumption) (by with_reducible assumption) ?_); (try dsimp only)))
local macro_rules | `(tactic| walk_at "exec Assign cons ListComp") => `(tactic| (k_here; k_dflt (refine Mine.comp_assign (by with_unfolding_all rfl) (by with_unfolding_all rfl) (by rfl) (by decide) ?_)))
theorem led_ask {g h : Heap} {L a T x1 x2 x3 x4 x5 I : Addr} {oT o1 o2 o3 o4 o5 oI oa : Obj} {need : Led} (N : News g L h ((T, oT) :: (x1, o1) :: (x2, o2) :: (x3, o3) :: (x4, o4) :: (x5, o5) :: (I, oI) :: (a, oa) :: need)) {G : Prop}
    (k : News g L h ((a, oa) :: (I, oI) :: (T, oT) :: need) → G) : G := k (news_sub N fun p hp => by
  simp only [List.mem_cons] at hp ⊢
  rcases hp with h | h | h | h <;> simp only [h, true_or, or_true])
theorem led_ask2 {g h : Heap} {L a T I : Addr} {oT oI oa : Obj} {need : Led} (N : News g L h ((a, oa) :: (I, oI) :: (T, oT) :: need)) {G : Prop}
    (k : News g L h ((I, oI) :: (a, oa) :: (T, oT) :: need) → G) : G := k (news_sub N fun p hp => by
  simp only [List.mem_cons] at hp ⊢
  rcases hp with h | h | h | h <;> simp only [h, true_or, or_true])
theorem good_mk {a x : Str} {rs : List Str} (h1 : x ∈ agentsD) (h2 : a ∈ aheadsD) (h3 : ∀ r ∈ rs, r ∈ partsD) (h4 : rs.length ≤ 10) : GoodAsk (x, Txt.join (Str.ofString "/") (a :: rs)) := ⟨h1, a, h2, rs, h3, h4, rfl⟩
theorem asks_fn {w : World} (S : Addr) (items : List Value) (hint : ∀ v ∈ items, ∃ n t, v = .int n t) (hilen : items.length ≤ 5) :
    Fn w 230 [.ref S] 2 200 (fun h => h.IsList S items.toArray) (NewAll AsksTab) := by
  k_dflt (refine' Fn.cells (binds := [(Str.ofString "numbers", .ref S)]) ?k6 ?k7 ?k8 ?k9 ?kB ?kD ?_ ?c2 ?c3 ?c4; (case k6 => k_is); (case k7 => k_is); (case k8 => decide); (case k9 => intro s; exact BindsTo.of_eq rfl); (case kB => exact rfl); (case kD => decide +kernel); (case c2 => exact rfl); (case c3 => exact rfl); (case c4 => exact rfl); k_whole)
  intro p loose mean mg mb dp un gd env outer base s L' h' tk cells hd hu hpre hke F' N' Y' B' X' T'
  k_cells Y'
  (try simp only [List.cons_append, List.nil_append] at N')
  (try dsimp only)
  (try k_fold)
  k_steps
  (with_reducible rename Fr _ _ _ _ => F); (with_reducible rename News _ _ _ _ => N); (with_reducible rename Obj.data _ = Data.cell (some _) => hcd)
  refine led_asks rfl rfl N ?_ ?_
  · k_all
  clear N
  intro a A P ea eA eP need ks ep ds N hks hkl ⟨vp, hsp, hmP⟩ ⟨va, hsa, hmA⟩ hmC hna
  subst ea eA eP
  refine for_list (L := L') (items := items) (fun i m news => ∃ ks ep ds need', m (Str.ofString "asks") = some (.ref a) ∧ m (Str.ofString "ahead") = some (.ref A) ∧ news = (a, W.listOf ks.toArray ep) :: need' ∧ (∀ p ∈ need, p ∈ need') ∧ (∀ p ∈ need', p.1 ≠ a) ∧ AsksN need' ks ds ∧ ks.length = 5 + i) rfl rfl F N ?h0 ?hl ?turn ?done PassesOwn.never
  case h0 => exact ⟨ks, ep, ds, need, rfl, rfl, rfl, fun _ h => h, hna, hks, hkl⟩
  case hl =>
    rintro i m news h _ F N
    obtain ⟨o, e, x⟩ := hpre
    exact ⟨o, F.keep _ _ e, x⟩
  case done =>
    rintro m news h tk ⟨ks, ep, ds, need', hm, _, rfl, _, _, hk, hl⟩ F N
    replace F := fr_see hm F
    k_steps
    refine FnEnd.mk F ⟨_, fun p hp => ⟨(N p hp).2.2, (N p hp).1⟩, _, _, _, _, rfl, .head _, hk.more fun p hp => .tail _ hp, by omega⟩
  case turn =>
    rintro I hI hIL i v m news oI h tk hv ⟨ks, ep, ds, need', hm, hmA2, rfl, hsub, hna', hk, hl⟩ F N hn
    obtain ⟨n, t, rfl⟩ := hint v (List.mem_of_getElem? hv)
    replace F := fr_at (fr_at F "asks" hm) "ahead" hmA2
    have hi5 : i < 5 := by
      have := (List.getElem?_eq_some_iff.mp hv).1
      omega
    clear hint hv hI
    k_steps
    (with_reducible rename Fr _ _ _ _ => F); (with_reducible rename News _ _ _ _ => N)
    generalize hc : Int.fmod _ 1000 = c
    have hc0 : 0 ≤ c := by rw [← hc]; exact Int.fmod_nonneg_of_pos _ (by decide)
    have hc1 : c < 1000 := by rw [← hc]; exact Int.fmod_lt_of_pos _ (by decide)
    have hfl := fig_len hc0 hc1
    have hsub0 := hsub
    replace hsub := fun p hp => List.mem_cons_of_mem (I, oI) (List.mem_cons_of_mem (a, W.listOf ks.toArray ep) (hsub p hp))
    refine comp_run (n := (Str.ofString (toString c)).cps.size) (fun i ys mC news => news = (I, oI) :: (a, W.listOf ks.toArray ep) :: need' ∧ ∃ rs, StrsAre ys rs ∧ (∀ r ∈ rs, r ∈ partsD) ∧ rs.length = i ∧ i ≤ 10) (Src.str rfl) (by decide) rfl F N ⟨rfl, [], .nil, (fun _ h => by cases h), rfl, by decide⟩ (fun _ _ _ _ _ _ _ _ _ h => wpAny_pure h) (fun _ _ _ _ _ _ _ _ => trivial) ?_ ?_ ?_
    · rintro i ys mC news ⟨_, rs, h1, _, h2, h3⟩
      have := strs_len h1
      omega
    · rintro I2 C D s₀ hlt hID hDC j v ys mC news oI' oC h hj hP ⟨rfl, rs, hrs, hrm, hrl, hj10⟩ F N hC off
      obtain ⟨z, tz, d, hd10, hzl, hz, rfl⟩ := fig_at hc0 hP
      refine ⟨up1 (Str.ofString "figure") (.str z tz), Asg.name rfl rfl, ?_⟩
      clear F N hC hP
      intro oC' h' tk' E' F N hC
      have hy1 : (up1 (Str.ofString "figure") (.str z tz) mC) (Str.ofString "figure") = some (.str z tz) := by unfold up1; rw [if_pos rfl]
      generalize up1 (Str.ofString "figure") (.str z tz) mC = mC3 at hC hy1
      have hmC' := hsub _ hmC
      have hmP' := hsub _ hmP
      have hj11 : j + 1 ≤ 10 := by omega
      clear hmA hsub hc hfl
      show wpAny _ _ (eval _ _) _ _ _
      k_steps
      (with_reducible rename Fr _ _ _ _ => F); (with_reducible rename News _ _ _ _ => N)
      (rename _ ∈ partsD => hxm)
      refine CEndY.mk F N (fun _ h => h) hC off ⟨rfl, _, StrsAre.append' hrs (.cons _ _ .nil), fun r hr => ?_, by rw [List.length_append, hrl]; rfl, hj11⟩
      rcases List.mem_append.mp hr with hr | hr
      · exact hrm r hr
      · rw [List.mem_singleton.mp hr]
        exact hxm
    · rintro C D ys mC news oC h tk ⟨rfl, rs, hrs, hrm, hrl, hr10⟩ F N hC off1 off2 hCD
      refine fin_as rfl rfl rfl F N hC off1 hCD ?_
      clear F N hC off1 
      intro h4 tk4 F N
      have hmA' := List.mem_cons_of_mem (D, LCg.lst ys) (hsub _ hmA)
      have hyl := strs_len hrs
      have haD : @Ne Nat a D := off2 _ (.tail _ (.head _))
      have haI : @Ne Nat a I := hn _ (.head _)
      replace hrs := strs_rev hrs
      have hrm' : ∀ r ∈ rs.reverse, r ∈ partsD := fun r hr => hrm r (List.mem_reverse.mp hr)
      have hrl' : rs.reverse.length ≤ 10 := by rw [List.length_reverse]; omega
      have hkl9 : ks.length ≤ 10 := by omega
      have hy10 : ys.length ≤ 10 := by omega
      have hy10r : ys.reverse.length ≤ 10 := by rw [List.length_reverse]; exact hy10
      generalize rs.reverse = rs2 at hrs hrm' hrl'
      clear hmP hmC hsub hc hfl hrm hrl off2 hyl
      k_steps
      (with_reducible rename Fr _ _ _ _ => F); (with_reducible rename News _ _ _ _ => N)
      (rename (_ < _ ∧ _ ∧ _) => l1)
      (rename _ ∈ agentsD => m1); (rename _ ∈ aheadsD => m2)
      have hIT := l1.2.2.2.2.2.1
      have haT := l1.2.2.2.2.2.2.1
      refine led_ask N ?_
      clear N l1
      intro N
      refine append_ls F N (.head (List.forall_mem_cons.mpr ⟨Ne.symm haI, List.forall_mem_cons.mpr ⟨Ne.symm (Nat.ne_of_lt haT), hna'⟩⟩)) (by omega) ?_
      clear F N
      intro h9 F N
      k_steps
      (with_reducible rename Fr _ _ _ _ => F); (with_reducible rename News _ _ _ _ => N)
      refine led_ask2 N ?_
      clear N
      intro N
      refine TurnEnd.mk F N (List.forall_mem_cons.mpr ⟨haI, List.forall_mem_cons.mpr ⟨Ne.symm (Nat.ne_of_lt hIT), fun p hp => hn p (.tail _ hp)⟩⟩) ⟨_, _, _, _, rfl, rfl, rfl, fun p hp => .tail _ (hsub0 p hp), List.forall_mem_cons.mpr ⟨Ne.symm (Nat.ne_of_lt haT), hna'⟩, (hk.more fun p hp => .tail _ hp).snoc (.head _) (good_mk m1 m2 hrm' hrl'), by rw [List.length_append, hl]; rfl⟩
end
section
open PySem PySem.W PySem.Spec PySem.Calls PyProof.Rows
abbrev SL : Str := Str.ofString "/"
def cl (x : Str) : List Nat := x.cps.toList
theorem cl_inj {x y : Str} (h : cl x = cl y) : x = y := Str.ext' (Array.toList_inj.mp h)
theorem cl_app (a b : Str) : cl (a ++ b) = cl a ++ cl b := by
  show (a.cps ++ b.cps).toList = _
  rw [Array.toList_append]; rfl
theorem cl_slash : cl SL = [47] := by decide
theorem sl_eq : SL = ⟨#[47]⟩ := by decide
theorem cl_len (x : Str) : (cl x).length = x.length := by unfold cl; rw [Array.length_toList]; rfl
def jn : List (List Nat) → List Nat
  | [] => []
  | [x] => x
  | x :: y :: r => x ++ 47 :: jn (y :: r)
theorem cl_join : ∀ ps : List Str, cl (Str.join SL ps) = jn (ps.map cl)
  | [] => rfl
  | [_] => rfl
  | x :: y :: r => by
    show cl (x ++ SL ++ Str.join SL (y :: r)) = _
    rw [cl_app, cl_app, cl_slash, cl_join (y :: r)]
    simp [jn]
theorem txt_join (ps : List Str) : Txt.join SL ps = Str.join SL ps := StrLaws.glued_eq_join _ _
theorem cut : ∀ {p q t t' : List Nat}, 47 ∉ p → 47 ∉ q → (t = [] ∨ ∃ u, t = 47 :: u) → (t' = [] ∨ ∃ u, t' = 47 :: u) → p ++ t = q ++ t' → p = q ∧ t = t'
  | [], [], _, _, _, _, _, _, h => ⟨rfl, h⟩
  | [], b :: q, t, t', _, hq, ht, _, h => by
    rcases ht with rfl | ⟨u, rfl⟩
    · cases h
    · have e : 47 = b := by injection h
      exact absurd (by rw [← e]; exact .head _) hq
  | a :: p, [], t, t', hp, _, _, ht, h => by
    rcases ht with rfl | ⟨u, rfl⟩
    · cases h
    · have e : a = 47 := by injection h
      exact absurd (by rw [e]; exact .head _) hp
  | a :: p, b :: q, t, t', hp, hq, ht, ht', h => by
    have e : a = b := by injection h
    have h2 : p ++ t = q ++ t' := by injection h
    obtain ⟨e1, e2⟩ := cut (fun x => hp (.tail _ x)) (fun x => hq (.tail _ x)) ht ht' h2
    exact ⟨by rw [e, e1], e2⟩
def tl : List (List Nat) → List Nat
  | [] => []
  | y :: r => 47 :: jn (y :: r)
theorem jn_cons (x : List Nat) (r : List (List Nat)) : jn (x :: r) = x ++ tl r := by
  cases r with
  | nil => simp [jn, tl]
  | cons => rfl
theorem tl_or (r : List (List Nat)) : tl r = [] ∨ ∃ u, tl r = 47 :: u := by
  cases r with
  | nil => exact .inl rfl
  | cons y r => exact .inr ⟨_, rfl⟩
theorem jn_inj : ∀ {ps qs : List (List Nat)}, ps ≠ [] → qs ≠ [] → (∀ p ∈ ps, 47 ∉ p) → (∀ q ∈ qs, 47 ∉ q) → jn ps = jn qs → ps = qs
  | [], _, h, _, _, _, _ => absurd rfl h
  | _ :: _, [], _, h, _, _, _ => absurd rfl h
  | x :: r, y :: r', _, _, hp, hq, h => by
    rw [jn_cons, jn_cons] at h
    obtain ⟨e1, e2⟩ := cut (hp _ (.head _)) (hq _ (.head _)) (tl_or r) (tl_or r') h
    subst e1
    cases r with
    | nil =>
      cases r' with
      | nil => rfl
      | cons => cases e2
    | cons a r =>
      cases r' with
      | nil => cases e2
      | cons b r' =>
        have e3 : jn (a :: r) = jn (b :: r') := by injection e2
        rw [jn_inj (by simp) (by simp) (fun p h => hp p (.tail _ h)) (fun q h => hq q (.tail _ h)) e3]
theorem split_ne (x y : Str) : Txt.split x y ≠ [] := by
  unfold Txt.split
  split
  · simp
  · split
    · simp
    · intro h
      have := congrArg List.length h
      rw [length_partsBetween] at this
      cases this
theorem split_join {qs : List Str} (hne : qs ≠ []) (hf : ∀ q ∈ qs, 47 ∉ cl q) : Txt.split (Str.join SL qs) SL = qs := by
  have h1 := StrLaws.join_split (Str.join SL qs) SL
  have h2 : ∀ p ∈ Txt.split (Str.join SL qs) SL, 47 ∉ cl p := by
    rw [sl_eq]
    exact StrLaws.split_free _ 47
  have h3 : jn ((Txt.split (Str.join SL qs) SL).map cl) = jn (qs.map cl) := by rw [← cl_join, ← cl_join, h1]
  have h4 := jn_inj (by simpa using split_ne _ _) (by simpa using hne) (by simpa using h2) (by simpa using hf) h3
  exact (List.map_inj_right fun _ _ => cl_inj).mp h4
theorem slice_to {x : Str} {k : Nat} (h : k ≤ x.length) : cl (Txt.slice x none (some (k : Int))) = (cl x).take k := by
  show cl (StrLaws.sliceText x none (some (k : Int))) = _
  have hl := cl_len x
  unfold cl at hl
  rw [StrLaws.sliceText_to ⟨by omega, by omega⟩]
  simp [cl]
theorem slice_from1 {x : Str} (h : 1 ≤ x.length) : cl (Txt.slice x (some 1) none) = (cl x).drop 1 := by
  show cl (StrLaws.sliceText x (some 1) none) = _
  have hl := cl_len x
  unfold cl at hl
  rw [StrLaws.sliceText_from ⟨by omega, by omega⟩]
  simp only [cl]
  exact List.take_of_length_le (by rw [List.length_drop]; omega)
theorem slice_12 {x : Str} (h : 2 ≤ x.length) : cl (Txt.slice x (some 1) (some 2)) = ((cl x).drop 1).take 1 := by
  show cl (StrLaws.sliceText x (some 1) (some 2)) = _
  have hl := cl_len x
  unfold cl at hl
  rw [StrLaws.sliceText_plain ⟨by omega, by omega, by omega⟩]
  simp [cl]
def lettersD : List Str := [Str.ofString "a", Str.ofString "b", Str.ofString "f", Str.ofString "x", Str.ofString "s", Str.ofString "d", Str.ofString "g"]
def firstD : List Str := [Str.ofString ".", Str.ofString "a", Str.ofString "s", Str.ofString "d"]
structure WayIs (way q0 : Str) (qs : List Str) : Prop where
  e : way = Str.join SL (Str.ofString "" :: q0 :: qs)
  h0 : q0 ∈ firstD
  hs : ∀ q ∈ qs, q ∈ partsD
  hl : qs.length ≤ 12
theorem first_parts : ∀ q ∈ firstD, q ∈ partsD := by decide
theorem parts_free : ∀ q ∈ partsD, 47 ∉ cl q := by decide
theorem first_ne : ∀ q ∈ firstD, 1 ≤ q.length := by decide
theorem letters_ok : ∀ q ∈ lettersD, q.length = 1 ∧ 47 ∉ cl q ∧ q ≠ Str.ofString ".." ∧ q ≠ Str.ofString "" ∧ q ≠ Str.ofString "." := by decide
theorem parts_letters : ∀ y ∈ partsD, y ≠ Str.ofString ".." → y ≠ Str.ofString "" → y ≠ Str.ofString "." → y ∈ lettersD := by decide
theorem join_one (q : Str) (ps : List Str) : Str.join SL ((Str.ofString "" ++ SL ++ q) :: ps) = Str.join SL (Str.ofString "" :: q :: ps) := StrLaws.join_shift _ _ _ _
theorem join_two (q r : Str) (ps : List Str) : Str.join SL ((Str.ofString "" ++ SL ++ q ++ SL ++ r) :: ps) = Str.join SL (Str.ofString "" :: q :: r :: ps) := by
  rw [StrLaws.join_shift]
  show _ = Str.ofString "" ++ SL ++ (q ++ SL ++ Str.join SL (r :: ps))
  simp only [Str.append_assoc]
theorem way_of {way : Str} (h : ∃ a ∈ aheadsD, ∃ ps : List Str, (∀ p ∈ ps, p ∈ partsD) ∧ ps.length ≤ 10 ∧ way = Txt.join (Str.ofString "/") (a :: ps)) : ∃ q0 qs, WayIs way q0 qs := by
  obtain ⟨a, ha, ps, h1, h2, rfl⟩ := h
  rw [txt_join]
  simp only [aheadsD, List.mem_cons, List.not_mem_nil, or_false] at ha
  rcases ha with rfl | rfl | rfl | rfl | rfl
  · exact ⟨Str.ofString ".", ps, (join_one (Str.ofString ".") ps), by decide, h1, by omega⟩
  · exact ⟨Str.ofString "a", ps, (join_one (Str.ofString "a") ps), by decide, h1, by omega⟩
  · refine ⟨Str.ofString "a", Str.ofString "b" :: ps, (join_two (Str.ofString "a") (Str.ofString "b") ps), by decide, fun q hq => ?_, by rw [List.length_cons]; omega⟩
    rcases List.mem_cons.mp hq with rfl | hq
    · decide
    · exact h1 _ hq
  · exact ⟨Str.ofString "s", ps, (join_one (Str.ofString "s") ps), by decide, h1, by omega⟩
  · exact ⟨Str.ofString "d", ps, (join_one (Str.ofString "d") ps), by decide, h1, by omega⟩
theorem join_len {ps : List Str} (h : ∀ p ∈ ps, p.length ≤ 4) (h2 : ps.length ≤ 20) : (Str.join SL ps).length ≤ 100 := by
  have h1 := StrLaws.join_length_le SL ps
  have h3 := StrLaws.sumLen_le ps h
  have h4 : SL.length = 1 := by decide
  rw [h4] at h1
  omega
section
variable {way q0 : Str} {qs : List Str} (W : WayIs way q0 qs)
include W
theorem WayIs.all : ∀ q ∈ Str.ofString "" :: q0 :: qs, q ∈ partsD := by
  intro q hq
  rcases List.mem_cons.mp hq with rfl | hq
  · decide
  · rcases List.mem_cons.mp hq with rfl | hq
    · exact first_parts _ W.h0
    · exact W.hs _ hq
theorem WayIs.split : Txt.split way SL = Str.ofString "" :: q0 :: qs := by
  rw [W.e]
  exact split_join (by simp) fun q hq => parts_free _ (W.all q hq)
theorem WayIs.cps : cl way = 47 :: cl (Str.join SL (q0 :: qs)) := by
  rw [W.e]
  show cl (Str.ofString "" ++ SL ++ Str.join SL (q0 :: qs)) = _
  rw [cl_app, cl_app, cl_slash]
  rfl
theorem WayIs.len : way.length ≤ 100 := by
  rw [W.e]
  exact join_len (fun q hq => parts_short _ (W.all q hq)) (by have := W.hl; simp only [List.length_cons]; omega)
theorem WayIs.pos : 2 ≤ way.length := by
  have h := cl_len way
  rw [W.cps, cl_join, List.map_cons, jn_cons, List.length_cons, List.length_append, cl_len] at h
  have := first_ne _ W.h0
  omega
theorem WayIs.rest : Txt.slice way (some 1) none = Str.join SL (q0 :: qs) := by
  apply cl_inj
  rw [slice_from1 (by have := W.pos; omega), W.cps]
  rfl
theorem WayIs.split2 : Txt.split (Txt.slice way (some 1) none) SL = q0 :: qs := by
  rw [W.rest]
  exact split_join (by simp) fun q hq => parts_free _ (W.all q (.tail _ hq))
theorem WayIs.one : (Txt.slice way none (some 1) != SL) = false := by
  have e : Txt.slice way none (some 1) = SL := by
    apply cl_inj
    have h1 := slice_to (x := way) (k := 1) (by have := W.pos; omega)
    rw [W.cps] at h1
    rw [cl_slash]
    exact h1
  rw [e]
  simp
theorem WayIs.two : (Txt.slice way (some 1) (some 2) != SL) = true := by
  rw [bne_iff_ne]
  intro e
  have h1 := congrArg cl e
  rw [slice_12 W.pos, W.cps, cl_slash, cl_join, List.map_cons, jn_cons] at h1
  have h2 := parts_free _ (first_parts _ W.h0)
  have h3 := first_ne _ W.h0
  rw [← cl_len] at h3
  cases q : cl q0 with
  | nil => rw [q] at h3; cases h3
  | cons c r =>
    rw [q] at h1 h2
    have e2 : c = 47 := by
      have : [c] = [47] := h1
      injection this
    exact h2 (by rw [e2]; exact .head _)
end
theorem rows_skip (ps : List Str) : rowsOf (Str.ofString "" :: ps) = rowsOf ps := by
  have e : partStep [] (Str.ofString "") = [] := by decide
  unfold rowsOf
  rw [List.foldl_cons, e]
theorem rows_letters {ps : List Str} (h : ∀ p ∈ ps, p ∈ lettersD) : rowsOf ps = ps := by
  suffices q : ∀ acc, ps.foldl partStep acc = acc ++ ps by simpa [rowsOf] using q []
  induction ps with
  | nil => intro acc; simp
  | cons p ps ih =>
    intro acc
    obtain ⟨_, _, h1, h2, h3⟩ := letters_ok _ (h p (.head _))
    have e : partStep acc p = acc ++ [p] := by
      unfold partStep
      rw [if_neg h1, if_neg (by rintro (q | q); exact h2 q; exact h3 q)]
    rw [List.foldl_cons, e, ih fun p hp => h p (.tail _ hp)]
    simp
structure RowIs (row : List Str) : Prop where
  h : ∀ p ∈ row, p ∈ lettersD
  l : row.length ≤ 13
theorem WayIs.row {way q0 : Str} {qs : List Str} (W : WayIs way q0 qs) : RowIs (rowsOf (q0 :: qs)) := by
  refine ⟨fun y hy => ?_, ?_⟩
  · obtain ⟨h0, h1, h2, h3⟩ := rowsOf_mem hy
    exact parts_letters _ (W.all y (.tail _ h0)) h1 h2 h3
  · have h1 := rowsOf_len (q0 :: qs)
    have h2 := W.hl
    rw [List.length_cons] at h1
    omega
theorem place_all (row : List Str) : placeW row row.length = SL ++ Txt.join SL row := by unfold placeW; rw [List.take_length]
theorem place_len {row : List Str} (R : RowIs row) : (SL ++ Txt.join SL row).length ≤ 1000 := by
  rw [Str.length_append, txt_join]
  have h1 := join_len (ps := row) (fun p hp => by rw [(letters_ok _ (R.h p hp)).1]; decide) (by have := R.l; omega)
  have h2 : SL.length = 1 := by decide
  omega
theorem place_row {row : List Str} (R : RowIs row) : rowsOf (Txt.split (placeW row row.length) SL) = row := by
  rw [place_all, txt_join]
  cases row with
  | nil => decide +kernel
  | cons r rs =>
    have e : SL ++ Str.join SL (r :: rs) = Str.join SL (Str.ofString "" :: r :: rs) := by
      show _ = Str.ofString "" ++ SL ++ Str.join SL (r :: rs)
      have e2 : Str.ofString "" ++ SL = SL := by decide
      rw [e2]
    rw [e, split_join (by simp) fun q hq => ?_, rows_skip, rows_letters R.h]
    rcases List.mem_cons.mp hq with rfl | hq
    · decide
    · exact (letters_ok _ (R.h q hq)).2.1
def siteChk (p : Str × Int) : Bool :=
  placeT p.1 p.2 == endW (rowsOf (Txt.split p.1 SL)) p.2 && (List.range (rowsOf (Txt.split p.1 SL)).length).all fun k => (siteF (placeW (rowsOf (Txt.split p.1 SL)) k)).isSome
theorem site_chk : ∀ p ∈ siteTab, siteChk p = true := by decide +kernel
theorem site_row {row : List Str} (R : RowIs row) {n : Int} (h : siteF (placeW row row.length) = some n) : placeT (placeW row row.length) n = endW row n ∧ ∀ k, k < row.length → ∃ n', siteF (placeW row k) = some n' := by
  have q := site_chk _ (lookup_mem (l := siteTab) h)
  unfold siteChk at q
  rw [place_row R, Bool.and_eq_true, beq_iff_eq, List.all_eq_true] at q
  exact ⟨q.1, fun k hk => Option.isSome_iff_exists.mp (q.2 k (List.mem_range.mpr hk))⟩
def chkA (row : List Str) (rules : List (Str × Bool)) : Bool := allowB rules (placeW row row.length) == !barredW (heldL row rules)
def chkR (row : List Str) : Bool := chkA row (rowsD[0]).2 && chkA row (rowsD[1]).2
def smallR (rules : List (Str × Bool)) : Bool := rules.all fun r => decide (r.1.length ≤ 4) && decide ((partsOf r.1).length ≤ 2)
theorem small_0 : smallR (rowsD[0]).2 = true := by decide +kernel
theorem small_1 : smallR (rowsD[1]).2 = true := by decide +kernel
theorem chk_0 : chkR [] = true := by decide +kernel
theorem chk_1 : ∀ a ∈ lettersD, chkR [a] = true := by decide +kernel
theorem chk_2 : ∀ a ∈ lettersD, ∀ b ∈ lettersD, chkR [a, b] = true := by decide +kernel
theorem chk_3 : ∀ a ∈ lettersD, ∀ b ∈ lettersD, chkR [a, b, Str.ofString "g"] = true := by decide +kernel
theorem rule_pre {path w w' : Str} (hp : path.length ≤ 4) (h1 : 5 ≤ w.length) (h2 : 5 ≤ w'.length) (he : (cl w).take 5 = (cl w').take 5) : ruleM path w = ruleM path w' := by
  have e1 : (path == w) = false := by
    rw [beq_eq_false_iff_ne]
    rintro rfl
    omega
  have e2 : (path == w') = false := by
    rw [beq_eq_false_iff_ne]
    rintro rfl
    omega
  have e3 : Txt.slice w none (some ((path.length : Int) + 1)) = Txt.slice w' none (some ((path.length : Int) + 1)) := by
    apply cl_inj
    have q : ((path.length : Int) + 1) = ((path.length + 1 : Nat) : Int) := by push_cast; rfl
    rw [q, slice_to (by omega), slice_to (by omega)]
    have hk : ∀ l : List Nat, l.take (path.length + 1) = (l.take 5).take (path.length + 1) := fun l => by rw [List.take_take, Nat.min_eq_left (by omega)]
    rw [hk (cl w), hk (cl w'), he]
  unfold ruleM
  rw [e1, e2, e3]
theorem allow_pre {rules : List (Str × Bool)} {w w' : Str} (hr : smallR rules = true) (h1 : 5 ≤ w.length) (h2 : 5 ≤ w'.length) (he : (cl w).take 5 = (cl w').take 5) : allowB rules w = allowB rules w' := by
  unfold allowB
  suffices q : ∀ acc, rules.foldl (allowStep w) acc = rules.foldl (allowStep w') acc by rw [q]
  induction rules with
  | nil => intro acc; rfl
  | cons r rs ih =>
    intro acc
    unfold smallR at hr
    rw [List.all_cons, Bool.and_eq_true, Bool.and_eq_true, decide_eq_true_eq] at hr
    have e : allowStep w acc r = allowStep w' acc r := by
      unfold allowStep
      rw [rule_pre hr.1.1 h1 h2 he]
    rw [List.foldl_cons, List.foldl_cons, e]
    exact ih hr.2 _
theorem held_pre {rules : List (Str × Bool)} {row row' : List Str} (hr : smallR rules = true) (he : row.take 2 = row'.take 2) : heldL row rules = heldL row' rules := by
  unfold heldL
  congr 1
  refine List.filter_congr fun r hm => ?_
  unfold smallR at hr
  rw [List.all_eq_true] at hr
  have h := hr r hm
  rw [Bool.and_eq_true, decide_eq_true_eq, decide_eq_true_eq] at h
  unfold heldB
  have hk : ∀ l : List Str, l.take (partsOf r.1).length = (l.take 2).take (partsOf r.1).length := fun l => by rw [List.take_take, Nat.min_eq_left h.2]
  rw [hk row, hk row', he]
theorem letter_cl {p : Str} (h : p ∈ lettersD) : ∃ c, cl p = [c] := by
  have h1 := (letters_ok _ h).1
  rw [← cl_len] at h1
  exact List.length_eq_one_iff.mp h1
theorem place3 {a b c : Str} {rs : List Str} {x y : Nat} (ha : cl a = [x]) (hb : cl b = [y]) : cl (SL ++ Txt.join SL (a :: b :: c :: rs)) = 47 :: x :: 47 :: y :: 47 :: jn ((c :: rs).map cl) := by
  rw [cl_app, cl_slash, txt_join, cl_join]
  simp only [List.map_cons]
  simp [jn, ha, hb]
theorem chk_all {row : List Str} (R : RowIs row) : chkR row = true := by
  obtain ⟨h, -⟩ := R
  match row, h with
  | [], _ => exact chk_0
  | [a], h => exact chk_1 a (h a (.head _))
  | [a, b], h => exact chk_2 a (h a (.head _)) b (h b (.tail _ (.head _)))
  | a :: b :: c :: rs, h =>
    have ha := h a (.head _)
    have hb := h b (.tail _ (.head _))
    have q := chk_3 a ha b hb
    obtain ⟨x, hx⟩ := letter_cl ha
    obtain ⟨y, hy⟩ := letter_cl hb
    have e1 := place3 (c := c) (rs := rs) hx hy
    have e2 := place3 (c := Str.ofString "g") (rs := []) hx hy
    rw [← place_all] at e1 e2
    have l1 := cl_len (placeW (a :: b :: c :: rs) (a :: b :: c :: rs).length)
    have l2 := cl_len (placeW [a, b, Str.ofString "g"] [a, b, Str.ofString "g"].length)
    rw [e1] at l1
    rw [e2] at l2
    simp only [List.length_cons] at l1 l2
    have et : (cl (placeW (a :: b :: c :: rs) (a :: b :: c :: rs).length)).take 5 = (cl (placeW [a, b, Str.ofString "g"] [a, b, Str.ofString "g"].length)).take 5 := by rw [e1, e2]; rfl
    unfold chkR chkA at q ⊢
    rw [allow_pre small_0 (by simp only [List.length_cons]; omega) (by simp only [List.length_cons]; omega) et, allow_pre small_1 (by simp only [List.length_cons]; omega) (by simp only [List.length_cons]; omega) et, held_pre (row := a :: b :: c :: rs) (row' := [a, b, Str.ofString "g"]) small_0 rfl, held_pre (row := a :: b :: c :: rs) (row' := [a, b, Str.ofString "g"]) small_1 rfl]
    exact q
def agChk (ag : Str) : Bool := decide (ag.length ≤ 100) && decide ((Txt.partition ag SL).1.length ≤ 100) && decide ((Txt.lower (Txt.partition ag SL).1).length ≤ 1000) && calledB rowsD[0].1 ag == calledW rowsD[0].1 (Txt.lower (Txt.partition ag SL).1)
theorem ag_chk : ∀ ag ∈ agentsD, agChk ag = true := by decide +kernel
structure AskOk (ag way plain : Str) : Prop where
  hag : ag.length ≤ 100
  hwl : way.length ≤ 1000
  p1 : (Txt.partition ag (Str.ofString "/")).1.length ≤ 100
  p2 : (Txt.lower (Txt.partition ag (Str.ofString "/")).1).length ≤ 1000
  up : UpAll (rowsOf (Txt.split way (Str.ofString "/")))
  sm : ∀ y ∈ rowsOf (Txt.split way (Str.ofString "/")), y.length ≤ 1000
  w0 : 0 < way.length
  w1 : (Txt.slice way none (some 1) != Str.ofString "/") = false
  w2 : (Txt.slice way (some 1) (some 2) != Str.ofString "/") = true
  pl : plain = Str.ofString "/" ++ Txt.join (Str.ofString "/") (rowsOf (Txt.split (Txt.slice way (some 1) none) (Str.ofString "/")))
  ln : plain.length ≤ 1000
  eq : ansB rowsD[0] rowsD[1] ag plain = walkB (calledW rowsD[0].1 (Txt.lower (Txt.partition ag (Str.ofString "/")).1)) (rowsOf (Txt.split way (Str.ofString "/")))
theorem ans_walk {ag : Str} {row : List Str} {b : Bool} (R : RowIs row) (hb : calledB rowsD[0].1 ag = b) : ansB rowsD[0] rowsD[1] ag (placeW row row.length) = walkB b row := by
  have q := chk_all R
  unfold chkR chkA at q
  rw [Bool.and_eq_true, beq_iff_eq, beq_iff_eq] at q
  unfold ansB walkB
  rw [hb]
  cases b with
  | true =>
    simp only [if_true]
    rw [q.1]
    cases barredW (heldL row (rowsD[0]).2) with
    | true => rfl
    | false =>
      simp only [Bool.not_false, Bool.true_eq_false, Bool.false_eq_true, if_false]
      cases hs : siteF (placeW row row.length) with
      | none => rfl
      | some n => exact (site_row R hs).1
  | false =>
    simp only [Bool.false_eq_true, if_false]
    rw [q.2]
    cases barredW (heldL row (rowsD[1]).2) with
    | true => rfl
    | false =>
      simp only [Bool.not_false, Bool.true_eq_false, Bool.false_eq_true, if_false]
      cases hs : siteF (placeW row row.length) with
      | none => rfl
      | some n => exact (site_row R hs).1
theorem ask_ok {d : Str × Str} (g : GoodAsk d) : ∃ plain, AskOk d.1 d.2 plain := by
  obtain ⟨q0, qs, W⟩ := way_of g.way
  have R := W.row
  have ha := ag_chk _ g.ag
  unfold agChk at ha
  simp only [Bool.and_eq_true, decide_eq_true_eq, beq_iff_eq] at ha
  obtain ⟨⟨⟨a1, a2⟩, a3⟩, a4⟩ := ha
  have hrow : rowsOf (Txt.split d.2 SL) = rowsOf (q0 :: qs) := by rw [W.split, rows_skip]
  have hl := W.len
  have hp := W.pos
  refine ⟨_, a1, by omega, a2, a3, ?_, ?_, by omega, W.one, W.two, rfl, ?_, ?_⟩
  · rw [hrow]
    exact ⟨fun n h => (site_row R h).2⟩
  · rw [hrow]
    intro y hy
    rw [(letters_ok _ (R.h y hy)).1]
    decide
  · rw [W.split2]
    exact place_len R
  · rw [hrow, W.split2, ← place_all]
    exact ans_walk R a4
end
section
def ansOf (d : Str × Str) : Str := walkB (calledW rowsD[0].1 (Txt.lower (Txt.partition d.1 (Str.ofString "/")).1)) (rowsOf (Txt.split d.2 (Str.ofString "/")))
def AnsIs (d : Str × Str) (v : Value) : Prop := ∃ t, v = .str (ansOf d) t
theorem AnsIs.out {d : Str × Str} {v : Value} (h : AnsIs d v) : ∃ t, v = .str (ansOf d) t := h
structure KeptAt (w : World) (need : Led) (K r0 r1 : Addr) (ep : Nat) : Prop where
  k : (K, W.listOf #[.ref r0, .ref r1] ep) ∈ need
  r0 : RecN w need r0 rowsD[0]
  r1 : RecN w need r1 rowsD[1]
def KeptN (w : World) (need : Led) (K : Addr) : Prop := ∃ r0 r1 ep, KeptAt w need K r0 r1 ep
theorem KeptN.more {w : World} {need need' : Led} {K : Addr} (st : ∀ p ∈ need, p ∈ need') (x : KeptN w need K) : KeptN w need' K := let ⟨r0, r1, ep, x⟩ := x; ⟨r0, r1, ep, st _ x.k, x.r0.more st, x.r1.more st⟩
theorem normN_of {w : World} {ag way plain : Str} (a : AskOk ag way plain) : NormN w way plain := by
  intro t p loose mean mg mb dp un gd cn cs b ccd cl outer A₀ base h₀ L m s Q E h1 h2 h3 h4 h5 h6 h7 _ hret
  refine norm_fn way t a.w0 a.w1 a.w2 p loose mean mg mb dp un gd cn cs b ccd cl outer A₀ base h₀ L m s Q E h1 h2 h3 h4 h5 h6 h7 a.hwl fun v h' tk' st hp => hret v h' tk' st ?_
  rw [a.pl]
  exact hp
theorem law_ans {w : World} {need : Led} {K : Addr} {d : Str × Str} (hk : KeptN w need K) (g : GoodAsk d) (ta tw : Tok) : FnL w 251 need [.ref K, .str d.1 ta, .str d.2 tw] 5 600 (fun _ => True) (fun _ _ v => AnsIs d v) := by
  obtain ⟨r0, r1, ep, x⟩ := hk
  obtain ⟨plain, a⟩ := ask_ok g
  have h := ans_fn x.k x.r0 x.r1 (by decide) (by decide) (by decide) d.1 d.2 plain ta tw a.hag (normN_of a) a.ln
  rw [a.eq] at h
  exact h
theorem law_walk {w : World} {d : Str × Str} (g : GoodAsk d) (ta tw : Tok) : Fn w 263 [.str d.1 ta, .str d.2 tw] 5 600 (fun _ => True) (fun _ _ v => AnsIs d v) := by
  obtain ⟨plain, a⟩ := ask_ok g
  exact walk_fn d.1 d.2 ta tw a.hag a.hwl a.p1 a.p2 a.up a.sm
theorem recs_snoc {w : World} {need : Led} {ks : List Value} {rs : List (List Str × List (Str × Bool))} {row : List Str × List (Str × Bool)} (h : RecsN w need ks (rs ++ [row])) : ∃ us x, ks = us ++ [.ref x] ∧ RecsN w need us rs ∧ RecN w need x row := by
  generalize hq : rs ++ [row] = q at h
  cases h with
  | nil => cases rs <;> cases hq
  | @snoc us rs' x row' h hx =>
    obtain ⟨e1, e2⟩ := List.append_inj' hq rfl
    have e3 : row = row' := by injection e2
    subst e1 e3
    exact ⟨us, x, rfl, h, hx⟩
theorem recs_two {w : World} {need : Led} {ks : List Value} (h : RecsN w need ks rowsD) : ∃ r0 r1, ks = [.ref r0, .ref r1] ∧ RecN w need r0 rowsD[0] ∧ RecN w need r1 rowsD[1] := by
  obtain ⟨us, x, rfl, h, hx⟩ := recs_snoc (rs := [rowsD[0]]) (row := rowsD[1]) h
  obtain ⟨us, y, rfl, h, hy⟩ := recs_snoc (rs := []) (row := rowsD[0]) h
  have e : us = [] := List.eq_nil_of_length_eq_zero (by have := h.len; simpa using this)
  subst e
  exact ⟨y, x, rfl, hy, hx⟩
section
variable {w : World} {A₀ : Around} {s : Shared} {base h₀ : Heap} {outer : List Env} {L : Addr} {m : Str → Option Value} {p : Program} {loose : List Str} {mean : ExcName → Option Value} {mg mb : Str → Option Value} {Q E : Value → Shared → Prop}
theorem recs_use {dp un : Nat} {gd : Option (List Code)} {cn : Str} {cs : Scope} {a : Addr} {ccd : Value} {cl : List (Str × Addr)} {more : Led}
    (B : Below A₀ base outer h₀) (F : Fr h₀ L s.heap m) (X : (Mine.hd.heap_39 w.params).In h₀) (N : News h₀ L s.heap ((232, tabObj #[]) :: more)) (hm : ∀ p ∈ more, p.1 ≠ 232) (T : Top p loose mean mg mb h₀) (C : CodeHd h₀ 236 232) (hk : cs.kind = .function)
    (hd : dp + 3 < recursionLimit) (hu : un + 400 < cLine)
    (ret : ∀ K own ps h' tk', Fr h₀ L h' m → News h₀ L h' ((232, tabObj ps) :: (own ++ more)) → (∀ p ∈ own, ∀ q ∈ more, p.1 ≠ q.1) → KeptN w own K → Q (.ref K) { s with heap := h', toks := tk' }) :
    wpAny (model PG w) (ktrTop dp un gd cn cs L a ccd cl outer) (call (.ref 244) []) Q E s := by
  have N0 := N (232, tabObj #[]) (.head _)
  refine recs_fn p loose mean mg mb dp un gd cn cs a ccd cl outer A₀ base h₀ L m s Q E #[] B F X T C (fun q hq => N q (List.mem_cons.mpr (.inl (List.mem_singleton.mp hq)))) hk hd hu rfl fun v h' tk' ps' st h1 hp => ?_
  obtain ⟨K, ks, ep, need, rfl, hK, hr, fr, hn⟩ := hp
  obtain ⟨r0, r1, rfl, hr0, hr1⟩ := recs_two hr
  have F' : Fr h₀ L h' m := by
    obtain ⟨oL, es, ep, hL, r⟩ := F.ns
    exact ⟨⟨oL, es, ep, st _ _ (Ne.symm N0.2.1) hL, r⟩, fun b o e => st _ _ (fun q => by rw [q, N0.2.2] at e; cases e) (F.keep b o e), F.above⟩
  have Nm : News h₀ L h' more := fun q hq => ⟨st _ _ (hm q hq) (N q (.tail _ hq)).1, (N q (.tail _ hq)).2⟩
  exact ret K need ps' h' tk' F' (List.forall_mem_cons.mpr ⟨⟨h1, N0.2⟩, fresh_news F Nm fr⟩) (fresh_ne (news_sub N fun p hp => .tail _ hp) fr) ⟨r0, r1, ep, hK, hr0, hr1⟩
end
def DrawnN (need : Led) (D : Addr) : Prop := ∃ ks ep ds, (D, W.listOf ks.toArray ep) ∈ need ∧ AsksN need ks ds ∧ ks.length ≤ 10
theorem DrawnN.more {need need' : Led} {D : Addr} (st : ∀ p ∈ need, p ∈ need') (x : DrawnN need D) : DrawnN need' D := let ⟨ks, ep, ds, h1, h2, h3⟩ := x; ⟨ks, ep, ds, st _ h1, h2.more st, h3⟩
theorem drawn_of {own : Led} {v : Value} (h : AsksTab own v) : ∃ D, v = .ref D ∧ DrawnN own D := let ⟨D, ks, ep, ds, e, h1, h2, h3⟩ := h; ⟨D, e, ks, ep, ds, h1, h2, h3⟩
theorem led_law {g h : Heap} {L c x D : Addr} {oc ox : Obj} {own : Led} (N : News g L h ((x, ox) :: (c, oc) :: (232, tabObj #[]) :: own)) (hn : ∀ p ∈ own, ∀ q ∈ [(x, ox), (c, oc), (232, tabObj #[])], p.1 ≠ q.1) (hp : DrawnN own D) (hc : @Ne Nat c 232) {G : Prop}
    (k : ∀ rest, News g L h ((232, tabObj #[]) :: (c, oc) :: rest) → (∀ p ∈ (c, oc) :: rest, p.1 ≠ 232) → (∀ p ∈ rest, p.1 ≠ c) → DrawnN rest D → G) : G :=
  k own (news_sub N fun p hp => by simp only [List.mem_cons] at hp ⊢; rcases hp with h | h | h <;> simp only [h, true_or, or_true]) (List.forall_mem_cons.mpr ⟨hc, fun p hp => hn p hp _ (.tail _ (.tail _ (.head _)))⟩) (fun p hp => hn p hp _ (.tail _ (.head _))) hp
def TabN (need : Led) (ps : Array Value) : Prop := (232, tabObj ps) ∈ need
def OffA (rest : Led) (c : Addr) : Prop := ∀ p ∈ rest, p.1 ≠ c
theorem led_rec {w : World} {g h : Heap} {L c K D : Addr} {oc : Obj} {ps : Array Value} {own rest : Led} (N : News g L h ((232, tabObj ps) :: (own ++ (c, oc) :: rest))) (hn : ∀ p ∈ own, ∀ q ∈ (c, oc) :: rest, p.1 ≠ q.1) (hk : KeptN w own K) (hd : DrawnN rest D) (hr : ∀ p ∈ rest, p.1 ≠ c) (hc : @Ne Nat 232 c) {G : Prop}
    (k : ∀ rest2 ps, News g L h ((c, oc) :: rest2) → OffA rest2 c → DrawnN rest2 D → KeptN w rest2 K → TabN rest2 ps → G) : G :=
  k ((232, tabObj ps) :: (own ++ rest)) ps (news_sub N fun p hp => by simp only [List.mem_cons, List.mem_append] at hp ⊢; rcases hp with h | h | h | h <;> simp only [h, true_or, or_true])
    (List.forall_mem_cons.mpr ⟨hc, fun p hp => (List.mem_append.mp hp).elim (fun h => hn p h _ (.head _)) (hr p)⟩) (hd.more fun p hp => .tail _ (List.mem_append_right _ hp)) (hk.more fun p hp => .tail _ (List.mem_append_left _ hp)) (.head _)
theorem pick_ints {vs : List Value} {ns : List Int} (h : IntsAre vs ns) : ∀ v ∈ kms_pick vs none (some 5), ∃ n t, v = .int n t := by
  intro v hv
  have e := pick_take vs 5
  have e' : kms_pick vs none (some 5) = vs.take 5 := e
  rw [e'] at hv
  replace hv := List.mem_of_mem_take hv
  clear e e'
  induction h with
  | nil => cases hv
  | cons n t _ ih =>
    rcases List.mem_cons.mp hv with rfl | hv
    · exact ⟨n, t, rfl⟩
    · exact ih hv
theorem ints_len {vs : List Value} {ns : List Int} (h : IntsAre vs ns) : vs.length = ns.length := by
  induction h with
  | nil => rfl
  | cons _ _ _ ih => simp only [List.length_cons, ih]
theorem pick_five (vs : List Value) : (kms_pick vs none (some 5)).length ≤ 5 := by
  have e : kms_pick vs none (some 5) = vs.take 5 := pick_take vs 5
  rw [e, List.length_take]
  omega
theorem pick_all {vs : List Value} {ns : List Int} (hI : IntsAre vs ns) (hc : ¬ (((63 : Nat) : Int) < (ns.length : Int))) {G : Prop} (k : (∀ v ∈ kms_pick vs none (some 5), ∃ n t, v = .int n t) → (kms_pick vs none (some 5)).length ≤ 5 → vs.length ≤ 63 → G) : G :=
  k (pick_ints hI) (pick_five vs) (by rw [ints_len hI]; omega)
theorem led_kept {w : World} {g h : Heap} {L c K D : Addr} {oc : Obj} {ps : Array Value} {rest : Led} (N : News g L h ((c, oc) :: rest)) (hd : DrawnN rest D) (hk : KeptN w rest K) (ht : TabN rest ps) {G : Prop}
    (k : ∀ led, News g L h led → (c, oc) ∈ led → DrawnN led D → KeptN w led K → (232, tabObj ps) ∈ led → G) : G := k _ N (.head _) (hd.more fun p hp => .tail _ hp) (hk.more fun p hp => .tail _ hp) (.tail _ ht)
theorem led_more {g h : Heap} {L : Addr} {x : Addr × Obj} {led : Led} (N : News g L h (x :: led)) {G : Prop} (k : ∀ led2, News g L h led2 → x ∈ led2 → (∀ p ∈ led, p ∈ led2) → G) : G := k _ N (.head _) fun _ h => .tail _ h
section
variable {prog : Program} {w : World} {A : Around} {E : Value → Shared → Prop} {s : Shared} {h₀ : Heap} {L : Addr} {news : Led} {n : Nat} {vs : List Value}
theorem eq_same {l b : Addr} {n' : Nat} {ws : List Value} {xs : List Str} {Q : Value → Shared → Prop} (N : News h₀ L s.heap news) (hl : (l, ({ cls := .type "list", data := .seq vs.toArray n } : Obj)) ∈ news) (hb : (b, ({ cls := .type "list", data := .seq ws.toArray n' } : Obj)) ∈ news) (h1 : StrsAre vs xs) (h2 : StrsAre ws xs) (hu : A.units < cLine)
    (h : Q (.bool true) s) : wpAny (model prog w) A (compareOp .Eq (.ref l) (.ref b)) Q E s :=
  eq_strs ⟨_, (N _ hl).1, rfl, _, rfl⟩ ⟨_, (N _ hb).1, rfl, _, rfl⟩ h1 h2 hu (by rw [beq_self_eq_true]; exact h)
end
local macro_rules | `(tactic| walk_at "call ref") => `(tactic| (k_here; (with_reducible show wpAny _ _ (call (Value.ref 251) [Value.ref _, Value.str _ _, Value.str _ _]) _ _ _); k_dflt (refine' FnL.use (law_ans (by with_reducible assumption) (by with_reducible assumption) _ _) (by k_asm) (by k_asm) (by k_asm) (by k_asm) (by k_asm) rfl (by ktr_room) (by ktr_units) (by trivial) (by intro p hp; simp only [List.mem_cons, hp, or_true]) ?_; k_whole); intro v9 h9 tk9 st9 p9 F9 N9; (obtain ⟨t9, e9⟩ := AnsIs.out p9; subst e9); (try dsimp only); (try k_sweep)))
local macro_rules | `(tactic| walk_at "call ref") => `(tactic| (k_here; (with_reducible show wpAny _ _ (call (Value.ref 263) [Value.str _ _, Value.str _ _]) _ _ _); k_dflt (refine' Fn.use (law_walk (by with_reducible assumption) _ _) (by k_asm) (by k_asm) (by k_asm) (by k_asm) (by k_asm) rfl (by ktr_room) (by ktr_units) (by trivial) ?_; k_whole); intro v9 h9 tk9 st9 p9 F9 N9; (obtain ⟨t9, e9⟩ := AnsIs.out p9; subst e9); (try dsimp only); (try k_sweep)))
local macro_rules | `(tactic| walk_at "eval ListComp") => `(tactic| (k_here; k_dflt (refine Mine.comp_eval (by with_unfolding_all rfl) (by rfl) (by decide) ?_)))
local macro_rules | `(tactic| walk_at "eval Name") => `(tactic| (k_here; (with_reducible show wpAny _ _ (eval (Expr.Name (Str.ofString "kept") _) (compEnvC _ _ _ _)) _ _ _); k_dflt (refine' Mine.cell_nm ?N ?m ?d ?_ ?c ?k ?x ?b; (case c => rfl); (case N => k_asm); (case m => kcf_m); (case d => with_reducible assumption); (case k => rfl); (case x => rfl); (case b => decide); k_whole)))
local macro_rules | `(tactic| walk_at "compareOp Eq ref ref") => `(tactic| (k_here; (with_reducible show wpAny _ _ (compareOp CmpOp.Eq (Value.ref _) (Value.ref _)) _ _ _); k_dflt (refine' Mine.eq_same (by k_asm) (by kcf_m) (by kcf_m) (by with_reducible assumption) (by with_reducible assumption) (by ktr_units) ?_; k_whole)))
local macro_rules | `(tactic| walk_at "call ref") => `(tactic| (k_here; (with_reducible show wpAny _ _ (call (Value.ref 230) [Value.ref _]) _ _ _); k_dflt (refine' Fn.useA (asks_fn _ _ (by with_reducible assumption) (by with_reducible assumption)) (by k_asm) (by k_asm) (by k_asm) (by k_asm) (by k_asm) rfl (by ktr_room) (by ktr_units) (by (exact News.isList (by k_asm) (.head _))) ?_; k_whole); intro v9 own9 h9 tk9 p9 st9 F9 N9 n9; (try simp only [List.cons_append, List.nil_append, List.append_assoc] at N9); (obtain ⟨D9, e9, d9⟩ := drawn_of p9; subst e9; refine led_law N9 n9 d9 (by show @Ne Nat _ _; omega) ?_; clear N9 n9 d9 p9; intro rest9 N9 m9 r9 d9); (try dsimp only); (try k_sweep)))
local macro_rules | `(tactic| walk_at "call ref") => `(tactic| (k_here; (with_reducible show wpAny _ _ (call (Value.ref 244) _) _ _ _); k_dflt (refine' recs_use (by k_asm) (by k_asm) (by k_asm) (by k_asm) (by with_reducible assumption) (by k_asm) (by with_reducible assumption) (by first | exact rfl | assumption) (by ktr_room) (by ktr_units) ?_; k_whole); intro K9 own9 ps9 h9 tk9 F9 N9 n9 k9; (refine led_rec N9 n9 k9 (by with_reducible assumption) (by with_reducible assumption) (by show @Ne Nat _ _; omega) ?_); clear N9 n9 k9; intro rest9 ps9 N9 r9 d9 k9 t9; (try dsimp only); (try k_sweep)))
theorem law_said : PySem.Challenge.rw_op0111_01.wellSaid = true := by decide +kernel
theorem law_holds : PySem.Challenge.rw_op0111_01.Holds := by
  refine holds_law law_said fun said => ?_
  refine holds_open (q := hd.view_39) (loose := [Str.ofString "_filemode_table"]) (Xt := fun s => xlAt hd.view_39 lvK s && recOk (RowW.records (OpenRow.toRowW PySem.Challenge.rw_op0111_01.row)) s) (XP := XL hd.view_39 lvK) (Yf := Hook.obs (kmHook hd.heap_39 asK asK_eq [232])) (Ya := Hook.val (kmHook hd.heap_39 asK asK_eq [232])) (YP := Hook.says (kmHook hd.heap_39 asK asK_eq [232])) (N := 3802) left
    (Hook.of (kmHook hd.heap_39 asK asK_eq [232])) (Hook.keeps (kmHook hd.heap_39 asK asK_eq [232])) (fun s e => xl_of s (Bool.and_eq_true_iff.mp e).1) XL.keeps (by rfl) (by rfl) (by rfl) (fun s e => recFacts_of (Bool.and_eq_true_iff.mp e).2) (by rfl) (by first | assumption | decide +kernel) (by decide +kernel) ⟨rfl, rfl, rfl, rfl, rfl, by decide +kernel⟩ ?hw ?hc
  case hw => w_witness2
  case hc =>
    clear said
    k_go0
    all_goals try k_fold
    (with_reducible rename IntsAre _ _ => hI)
    (with_reducible rename ¬ (_ < _) => hc)
    refine pick_all hI hc ?_
    intro hp1 hp2 hp3
    k_steps
    (with_reducible rename Fr _ _ _ (fun y => if y = (Str.ofString "drawn") then _ else _) => F); (with_reducible rename News _ _ _ _ => N); (with_reducible rename Obj.data _ = Data.cell _ => hcd)
    (with_reducible rename DrawnN _ _ => hdr); (with_reducible rename KeptN _ _ _ => hkp); (with_reducible rename OffA _ _ => hrc); (with_reducible rename TabN _ _ => htn)
    refine storeX_C F N rfl (UpdF.head hrc) hcd ?_ rfl rfl
    clear F N
    intro h3 oc2 F N hcd
    refine led_kept N hdr hkp htn ?_
    clear N hdr hkp hrc htn
    intro led N hmC hdr hkp htb
    obtain ⟨ks, ep, ds, hD, hks, hkl⟩ := id hdr
    have hkd := hks.len
    k_steps
    refine comp_run (n := ks.length) (fun i ys mC news => news = led ∧ StrsAre ys ((ds.take i).map ansOf) ∧ i ≤ 10) (Src.list rfl ⟨_, (N _ hD).1, rfl, _, rfl⟩) (by decide) rfl F N ⟨rfl, .nil, by decide⟩ (fun _ _ _ _ _ _ _ hI hit h => letGo_listiter ⟨_, hI, hit⟩ h) ?_ ?_ ?_ ?_
    · rintro i ys mC news h ⟨rfl, _⟩ F N
      exact ⟨_, (N _ hD).1, rfl, _, rfl⟩
    · rintro i ys mC news ⟨_, h1, h2⟩
      have := strs_len h1
      rw [List.length_map, List.length_take] at this
      omega
    · rintro I C D2 s₀ hlt hID hDC i v ys mC news oI' oC h hi hP ⟨rfl, hps, hi1⟩ F N hC off
      obtain ⟨T, d, ta, tw, rfl, hdi, hg, hT⟩ := hks.at hP
      refine ⟨up2 (Str.ofString "who") (Str.ofString "where") (.str d.1 ta) (.str d.2 tw), Asg.pair rfl ⟨_, (N _ (.tail _ (.tail _ (.tail _ hT)))).1, rfl, _, rfl⟩ rfl rfl rfl, ?_⟩
      clear F N hC
      intro oC' h' tk' E' F N hC
      have hy1 : (up2 (Str.ofString "who") (Str.ofString "where") (.str d.1 ta) (.str d.2 tw) mC) (Str.ofString "who") = some (.str d.1 ta) := by unfold up2; rw [if_neg (by decide), if_pos rfl]
      have hy2 : (up2 (Str.ofString "who") (Str.ofString "where") (.str d.1 ta) (.str d.2 tw) mC) (Str.ofString "where") = some (.str d.2 tw) := by unfold up2; rw [if_pos rfl]
      generalize up2 (Str.ofString "who") (Str.ofString "where") (.str d.1 ta) (.str d.2 tw) mC = mC3 at hC hy1 hy2
      have hi2 : i + 1 ≤ 10 := by omega
      clear hT hP hks hD hlt hkl
      show wpAny _ _ (eval _ _) _ _ _
      k_steps
      (with_reducible rename Fr _ _ _ _ => F); (with_reducible rename News _ _ _ _ => N)
      refine CEndY.mk F N (fun _ h => h) hC off ⟨rfl, ?_, hi2⟩
      rw [take_snoc hdi, List.map_append]
      exact StrsAre.append' hps (.cons _ _ .nil)
    · rintro C D2 ys mC news oC h tk ⟨rfl, hps, _⟩ F N hC off1 off2 hCD
      refine fin_ev F N hC off1 hCD ?_
      clear F N hC off1 off2 hCD
      intro h5 tk5 F N
      rw [hkd, List.take_length] at hps
      refine led_more N ?_
      clear N
      intro led2 N hmD2 st
      replace hD := st _ hD
      replace hks := hks.more st
      replace htb := st _ htb
      clear st hmC hdr hkp hcd
      k_steps
      refine comp_run (n := ks.length) (fun i ys mC news => news = led2 ∧ StrsAre ys ((ds.take i).map ansOf) ∧ i ≤ 10) (Src.list rfl ⟨_, (N _ hD).1, rfl, _, rfl⟩) (by decide) rfl F N ⟨rfl, .nil, by decide⟩ (fun _ _ _ _ _ _ _ hI hit h => letGo_listiter ⟨_, hI, hit⟩ h) ?_ ?_ ?_ ?_
      · rintro i ys mC news h ⟨rfl, _⟩ F N
        exact ⟨_, (N _ hD).1, rfl, _, rfl⟩
      · rintro i ys mC news ⟨_, h1, h2⟩
        have := strs_len h1
        rw [List.length_map, List.length_take] at this
        omega
      · rintro I C D2 s₀ hlt hID hDC i v ys mC news oI' oC h hi hP ⟨rfl, hps, hi1⟩ F N hC off
        obtain ⟨T, d, ta, tw, rfl, hdi, hg, hT⟩ := hks.at hP
        refine ⟨up2 (Str.ofString "who") (Str.ofString "where") (.str d.1 ta) (.str d.2 tw), Asg.pair rfl ⟨_, (N _ (.tail _ (.tail _ (.tail _ hT)))).1, rfl, _, rfl⟩ rfl rfl rfl, ?_⟩
        clear F N hC
        intro oC' h' tk' E' F N hC
        have hy1 : (up2 (Str.ofString "who") (Str.ofString "where") (.str d.1 ta) (.str d.2 tw) mC) (Str.ofString "who") = some (.str d.1 ta) := by unfold up2; rw [if_neg (by decide), if_pos rfl]
        have hy2 : (up2 (Str.ofString "who") (Str.ofString "where") (.str d.1 ta) (.str d.2 tw) mC) (Str.ofString "where") = some (.str d.2 tw) := by unfold up2; rw [if_pos rfl]
        generalize up2 (Str.ofString "who") (Str.ofString "where") (.str d.1 ta) (.str d.2 tw) mC = mC3 at hC hy1 hy2
        have hi2 : i + 1 ≤ 10 := by omega
        clear hT hP hks hD hlt hkl
        show wpAny _ _ (eval _ _) _ _ _
        k_steps
        (with_reducible rename Fr _ _ _ _ => F); (with_reducible rename News _ _ _ _ => N)
        refine CEndY.mk F N (fun _ h => h) hC off ⟨rfl, ?_, hi2⟩
        rw [take_snoc hdi, List.map_append]
        exact StrsAre.append' hps (.cons _ _ .nil)
      · rintro C D3 ys2 mC news oC h tk ⟨rfl, hps2, _⟩ F N hC off1 off2 hCD
        refine fin_ev F N hC off1 hCD ?_
        clear F N hC off1 off2 hCD
        intro h7 tk7 F N
        rw [hkd, List.take_length] at hps2
        refine led_more N ?_
        clear N hD hks hkl hkd
        intro led3 N hmD3 st
        replace htb := st _ htb
        replace hmD2 := st _ hmD2
        clear st
        refine eq_same N hmD2 hmD3 hps hps2 (by ktr_units) ?_
        refine ⟨?_, GrownAt.of N htb, trivial⟩
        k_steps
        all_goals try k_data
        all_goals w_report
end
end
end Mine
theorem PySem.Challenge.cw_op0111_01_holds : PySem.Challenge.rw_op0111_01.Holds :=
  Mine.law_holds
