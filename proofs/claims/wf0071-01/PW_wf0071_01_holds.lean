import PyProof.Rows.All
import Wide.All
import OpenK.AllK
import Wide.FinOn
import PyProof.Rows.LoopInvV
import PySem.Challenge.RW_wf0071_01
set_option Elab.async false
set_option linter.all false
namespace Mine
section
open PySem PySem.W PyProof.Rows PySem.Calls
set_option maxRecDepth 100000
set_option maxHeartbeats 0

noncomputable abbrev pw : Program := PySem.Challenge.pw_wf0071_01
noncomputable def bT : List Stmt := behindTheImports pw
noncomputable def st (i : Nat) : List Stmt := (bT.drop i).take 1
noncomputable def fnA : List Stmt → Arguments
  | .FunctionDef _ a _ _ _ _ _ _ _ _ :: _ => a
  | _ => default
noncomputable def fnB : List Stmt → List Stmt
  | .FunctionDef _ _ b _ _ _ _ _ _ _ :: _ => b
  | _ => []
noncomputable def fnS : List Stmt → Scope
  | .FunctionDef _ _ _ _ _ _ s _ _ _ :: _ => s
  | _ => default
noncomputable def sts1 : List Stmt := bT.take 9
noncomputable def sts2 : List Stmt := (bT.drop 9).take 1
noncomputable def sts3 : List Stmt := (bT.drop 10).take 1
noncomputable def sts4 : List Stmt := (bT.drop 11).take 1
noncomputable def sts5 : List Stmt := bT.drop 12
noncomputable def envT : Env := { scope := pw.main.scope, locals := mainNs, globals := mainNs, cells := [], code := .ref 13, frame := some 14 }
noncomputable def cT : Code := .body bT envT
noncomputable def b3ks : List Stmt → List (Option Expr)
  | .Assign _ (.Dict ks _ _) _ :: _ => ks
  | _ => []
noncomputable def b3vs : List Stmt → List Expr
  | .Assign _ (.Dict _ vs _) _ :: _ => vs
  | _ => []
noncomputable def b3P : List Stmt → Pos
  | .Assign _ (.Dict _ _ q) _ :: _ => q
  | _ => default
noncomputable def b3A : List Stmt → Pos
  | .Assign _ _ q :: _ => q
  | _ => default
noncomputable def b3k : Option Expr → Int
  | some (.Constant (.int k) _ _) => k
  | _ => 0
noncomputable def b3v : Expr → Str
  | .Constant (.str s) _ _ => s
  | _ => Str.empty
noncomputable def b3prs : List (Int × Str) := ((b3ks sts4).map b3k).zip ((b3vs sts4).map b3v)
/-- the entries of the i-th chunk and on: tokens from t by three, but the last chunk (of four) by two -/
noncomputable def entsFrom : Nat → Nat → List (Int × Str) → List DictEntry
  | _, _, [] => []
  | t, d, (k, v) :: r => ⟨k, .int k t, .str v (t + 1)⟩ :: entsFrom (t + d) d r
noncomputable def chunks : Nat → List (Int × Str) → List (List (Int × Str))
  | 0, _ => []
  | n + 1, l => l.take 17 :: chunks n (l.drop 17)
noncomputable def dob (es : List DictEntry) (n : Nat) : Obj := ⟨.type "dict", none, .dict es.toArray n, #[]⟩
noncomputable def entsOf : Nat → List (List (Int × Str)) → List DictEntry
  | _, [] => []
  | t, c :: cs => entsFrom t 3 c ++ entsOf (t + 51) cs
noncomputable def subsOf : Nat → List (List (Int × Str)) → List Obj
  | _, [] => []
  | t, c :: cs => dob (entsFrom t 3 c) 17 :: subsOf (t + 51) cs
noncomputable def b3c0 : List (Int × Str) := b3prs.take 17
noncomputable def b3cs : List (List (Int × Str)) := chunks 37 (b3prs.drop 17)
noncomputable def b3last : List (Int × Str) := b3prs.drop 646
noncomputable def b3subs : List Obj := subsOf 368 b3cs ++ [dob (entsFrom 2255 2 b3last) 4]
noncomputable def b3sub (j : Nat) : Obj := b3subs.getD (j - 1) default
noncomputable def b3all : List DictEntry := entsFrom 317 3 b3c0 ++ entsOf 368 b3cs ++ entsFrom 2255 2 b3last
noncomputable def b3main : Obj := dob b3all 650
noncomputable def o11v0 (P : Params) : Obj := ⟨.type "tuple", none, (.seq [].toArray 0), [].toArray⟩
noncomputable def o12v0 (P : Params) : Obj := ⟨.none, none, (.fields [].toArray), [].toArray⟩
noncomputable def o13v0 (P : Params) : Obj := ⟨.type "code", none, (.fields [.str (.ofString "<module>") 182, .str (.ofString "<module>") 183, .str (.ofString "/claim/cut.py") 184, .int 1 0, .int 0 0, .int 0 0, .int 0 0, .int 0 0, .ref 11, .bool false, .int 181 0, .ref 12, .none, .none, .none, .none, .int 185 0, .int 1 0, .str (.ofString "/claim/cut.py") 186].toArray), [].toArray⟩
noncomputable def o14v0 (P : Params) : Obj := ⟨.type "frame", none, .plain, [some (.ref 13), some (.ref 3), some (.ref 3), none, some (.str (.ofString "__main__") 164), none, some (.ref 0)].toArray⟩
noncomputable def treeA (P : Params) : BT := (.node (boot_o_0 P) (.node (boot_o_1 P) (.node (boot_o_3 P) (.node (boot_o_7 P) .nil .nil) (.node (o11v0 P) .nil .nil)) (.node (boot_o_5 P) (.node (boot_o_9 P) .nil .nil) (.node (o13v0 P) .nil .nil))) (.node (boot_o_2 P) (.node (boot_o_4 P) (.node (boot_o_8 P) .nil .nil) (.node (o12v0 P) .nil .nil)) (.node (boot_o_6 P) (.node (boot_o_10 P) .nil .nil) (.node (o14v0 P) .nil .nil))))
-- A: size 15 toks 187 pos ⟨0, 0, 0, 0⟩ steps 12
noncomputable def heapA (P : Params) : Heap := ⟨⟨[boot_o_0 P, boot_o_1 P, boot_o_2 P, boot_o_3 P, boot_o_4 P, boot_o_5 P, boot_o_6 P, boot_o_7 P, boot_o_8 P, boot_o_9 P, boot_o_10 P, o11v0 P, o12v0 P, o13v0 P, o14v0 P]⟩, {}⟩
noncomputable def tree0 (P : Params) : BT := (.node (boot_o_0 P) (.node (boot_o_1 P) (.node (boot_o_3 P) (.node (boot_o_7 P) .nil .nil) (.node (o11v0 P) .nil .nil)) (.node (boot_o_5 P) (.node (boot_o_9 P) .nil .nil) (.node (o13v0 P) .nil .nil))) (.node (boot_o_2 P) (.node (boot_o_4 P) (.node (boot_o_8 P) .nil .nil) (.node (o12v0 P) .nil .nil)) (.node (boot_o_6 P) (.node (boot_o_10 P) .nil .nil) (.node (o14v0 P) .nil .nil))))
-- 0: size 15 toks 187 pos ⟨0, 0, 0, 0⟩ steps 0
noncomputable def o3v0 (P : Params) : Obj := ⟨.type "dict", none, (.dict [⟨PyData.keyHash P (.ofString "__name__"), .str (.ofString "__name__") 165, .str (.ofString "cpy313.stringprep") 248⟩, ⟨PyData.keyHash P (.ofString "__doc__"), .str (.ofString "__doc__") 166, .none⟩, ⟨PyData.keyHash P (.ofString "__package__"), .str (.ofString "__package__") 167, .none⟩, ⟨PyData.keyHash P (.ofString "__loader__"), .str (.ofString "__loader__") 168, .builtin "__main__.__loader__#opaque"⟩, ⟨PyData.keyHash P (.ofString "__spec__"), .str (.ofString "__spec__") 169, .none⟩, ⟨PyData.keyHash P (.ofString "__annotations__"), .str (.ofString "__annotations__") 170, .ref 6⟩, ⟨PyData.keyHash P (.ofString "__builtins__"), .str (.ofString "__builtins__") 171, .ref 4⟩, ⟨PyData.keyHash P (.ofString "__file__"), .str (.ofString "__file__") 173, .str (.ofString "/claim/cut.py") 172⟩, ⟨PyData.keyHash P (.ofString "__cached__"), .str (.ofString "__cached__") 174, .none⟩, ⟨PyData.keyHash P (.ofString "bisect_left"), .str (.ofString "bisect_left") 202, .ref 23⟩, ⟨PyData.keyHash P (.ofString "_parse_varint"), .str (.ofString "_parse_varint") 213, .ref 30⟩, ⟨PyData.keyHash P (.ofString "_iter_escaped_chars"), .str (.ofString "_iter_escaped_chars") 225, .ref 37⟩, ⟨PyData.keyHash P (.ofString "_strip_quoted_realnames"), .str (.ofString "_strip_quoted_realnames") 237, .ref 44⟩, ⟨PyData.keyHash P (.ofString "_check_parenthesis"), .str (.ofString "_check_parenthesis") 247, .ref 51⟩].toArray 14), [].toArray⟩
noncomputable def o12v1 (P : Params) : Obj := ⟨.none, none, (.fields [.int 2 0, .int 0 0, .ref 22, .int 23 0, .int 0 0, .ref 29, .int 32 0, .int 0 0, .ref 36, .int 45 0, .int 0 0, .ref 43, .int 63 0, .int 0 0, .ref 50].toArray), [].toArray⟩
noncomputable def o15v0 (P : Params) : Obj := ⟨.type "tuple", none, (.seq [.int 0 189, .none].toArray 0), [].toArray⟩
noncomputable def o16v0 (P : Params) : Obj := ⟨.type "dict", none, (.dict [⟨PyData.keyHash P (.ofString "key"), .str (.ofString "key") 190, .none⟩].toArray 1), [].toArray⟩
noncomputable def o17v0 (P : Params) : Obj := ⟨.type "tuple", none, (.seq [].toArray 0), [].toArray⟩
noncomputable def o18v0 (P : Params) : Obj := ⟨.none, none, (.fields [].toArray), [].toArray⟩
noncomputable def o19v0 (P : Params) : Obj := ⟨.type "tuple", none, (.seq [.str (.ofString "a") 194, .str (.ofString "x") 195, .str (.ofString "lo") 196, .str (.ofString "hi") 197, .str (.ofString "key") 198, .str (.ofString "mid") 199].toArray 0), [].toArray⟩
noncomputable def o20v0 (P : Params) : Obj := ⟨.type "tuple", none, (.seq [].toArray 0), [].toArray⟩
noncomputable def o21v0 (P : Params) : Obj := ⟨.none, none, (.func ⟨(.ofString "bisect_left"), (.ofString "bisect_left"), fnA (st 1), .stmts (fnB (st 1)), fnS (st 1), 0, [], (.none), (.none), (.none), (.none), none, (.none), (.none), 0⟩), [].toArray⟩
noncomputable def o22v0 (P : Params) : Obj := ⟨.type "code", none, (.fields [.str (.ofString "bisect_left") 191, .str (.ofString "bisect_left") 192, .str (.ofString "/claim/cut.py") 193, .int 2 0, .int 4 0, .int 0 0, .int 1 0, .int 3 0, .ref 17, .bool true, .int 181 0, .ref 18, .none, .ref 19, .ref 20, .ref 21, .int 200 0, .int 2 0, .str (.ofString "/claim/cut.py") 201].toArray), [].toArray⟩
noncomputable def o23v0 (P : Params) : Obj := ⟨.type "function", none, (.func ⟨(.ofString "bisect_left"), (.ofString "bisect_left"), fnA (st 1), .stmts (fnB (st 1)), fnS (st 1), 3, [], (.ref 15), (.ref 16), (.none), (.str (.ofString "cpy313.bisect") 187), none, (.ref 22), (.none), 0⟩), [].toArray⟩
noncomputable def o24v0 (P : Params) : Obj := ⟨.type "tuple", none, (.seq [].toArray 0), [].toArray⟩
noncomputable def o25v0 (P : Params) : Obj := ⟨.none, none, (.fields [].toArray), [].toArray⟩
noncomputable def o26v0 (P : Params) : Obj := ⟨.type "tuple", none, (.seq [.str (.ofString "iterator") 208, .str (.ofString "b") 209, .str (.ofString "val") 210].toArray 0), [].toArray⟩
noncomputable def o27v0 (P : Params) : Obj := ⟨.type "tuple", none, (.seq [].toArray 0), [].toArray⟩
noncomputable def o28v0 (P : Params) : Obj := ⟨.none, none, (.func ⟨(.ofString "_parse_varint"), (.ofString "_parse_varint"), fnA (st 3), .stmts (fnB (st 3)), fnS (st 3), 0, [], (.none), (.none), (.none), (.none), none, (.none), (.none), 0⟩), [].toArray⟩
noncomputable def o29v0 (P : Params) : Obj := ⟨.type "code", none, (.fields [.str (.ofString "_parse_varint") 205, .str (.ofString "_parse_varint") 206, .str (.ofString "/claim/cut.py") 207, .int 23 0, .int 1 0, .int 0 0, .int 0 0, .int 3 0, .ref 24, .bool true, .int 181 0, .ref 25, .none, .ref 26, .ref 27, .ref 28, .int 211 0, .int 23 0, .str (.ofString "/claim/cut.py") 212].toArray), [].toArray⟩
noncomputable def o30v0 (P : Params) : Obj := ⟨.type "function", none, (.func ⟨(.ofString "_parse_varint"), (.ofString "_parse_varint"), fnA (st 3), .stmts (fnB (st 3)), fnS (st 3), 3, [], (.none), (.none), (.none), (.str (.ofString "cpy313.dis") 203), none, (.ref 29), (.none), 0⟩), [].toArray⟩
noncomputable def o31v0 (P : Params) : Obj := ⟨.type "tuple", none, (.seq [].toArray 0), [].toArray⟩
noncomputable def o32v0 (P : Params) : Obj := ⟨.none, none, (.fields [].toArray), [].toArray⟩
noncomputable def o33v0 (P : Params) : Obj := ⟨.type "tuple", none, (.seq [.str (.ofString "addr") 219, .str (.ofString "pos") 220, .str (.ofString "escape") 221, .str (.ofString "ch") 222].toArray 0), [].toArray⟩
noncomputable def o34v0 (P : Params) : Obj := ⟨.type "tuple", none, (.seq [].toArray 0), [].toArray⟩
noncomputable def o35v0 (P : Params) : Obj := ⟨.none, none, (.func ⟨(.ofString "_iter_escaped_chars"), (.ofString "_iter_escaped_chars"), fnA (st 5), .stmts (fnB (st 5)), fnS (st 5), 0, [], (.none), (.none), (.none), (.none), none, (.none), (.none), 0⟩), [].toArray⟩
noncomputable def o36v0 (P : Params) : Obj := ⟨.type "code", none, (.fields [.str (.ofString "_iter_escaped_chars") 216, .str (.ofString "_iter_escaped_chars") 217, .str (.ofString "/claim/cut.py") 218, .int 32 0, .int 1 0, .int 0 0, .int 0 0, .int 35 0, .ref 31, .bool true, .int 181 0, .ref 32, .none, .ref 33, .ref 34, .ref 35, .int 223 0, .int 32 0, .str (.ofString "/claim/cut.py") 224].toArray), [].toArray⟩
noncomputable def o37v0 (P : Params) : Obj := ⟨.type "function", none, (.func ⟨(.ofString "_iter_escaped_chars"), (.ofString "_iter_escaped_chars"), fnA (st 5), .stmts (fnB (st 5)), fnS (st 5), 3, [], (.none), (.none), (.none), (.str (.ofString "cpy313.email.utils") 214), none, (.ref 36), (.none), 0⟩), [].toArray⟩
noncomputable def o38v0 (P : Params) : Obj := ⟨.type "tuple", none, (.seq [].toArray 0), [].toArray⟩
noncomputable def o39v0 (P : Params) : Obj := ⟨.none, none, (.fields [].toArray), [].toArray⟩
noncomputable def o40v0 (P : Params) : Obj := ⟨.type "tuple", none, (.seq [.str (.ofString "addr") 229, .str (.ofString "start") 230, .str (.ofString "open_pos") 231, .str (.ofString "result") 232, .str (.ofString "pos") 233, .str (.ofString "ch") 234].toArray 0), [].toArray⟩
noncomputable def o41v0 (P : Params) : Obj := ⟨.type "tuple", none, (.seq [].toArray 0), [].toArray⟩
noncomputable def o42v0 (P : Params) : Obj := ⟨.none, none, (.func ⟨(.ofString "_strip_quoted_realnames"), (.ofString "_strip_quoted_realnames"), fnA (st 6), .stmts (fnB (st 6)), fnS (st 6), 0, [], (.none), (.none), (.none), (.none), none, (.none), (.none), 0⟩), [].toArray⟩
noncomputable def o43v0 (P : Params) : Obj := ⟨.type "code", none, (.fields [.str (.ofString "_strip_quoted_realnames") 226, .str (.ofString "_strip_quoted_realnames") 227, .str (.ofString "/claim/cut.py") 228, .int 45 0, .int 1 0, .int 0 0, .int 0 0, .int 3 0, .ref 38, .bool true, .int 181 0, .ref 39, .none, .ref 40, .ref 41, .ref 42, .int 235 0, .int 45 0, .str (.ofString "/claim/cut.py") 236].toArray), [].toArray⟩
noncomputable def o44v0 (P : Params) : Obj := ⟨.type "function", none, (.func ⟨(.ofString "_strip_quoted_realnames"), (.ofString "_strip_quoted_realnames"), fnA (st 6), .stmts (fnB (st 6)), fnS (st 6), 3, [], (.none), (.none), (.none), (.str (.ofString "cpy313.email.utils") 214), none, (.ref 43), (.none), 0⟩), [].toArray⟩
noncomputable def o45v0 (P : Params) : Obj := ⟨.type "tuple", none, (.seq [].toArray 0), [].toArray⟩
noncomputable def o46v0 (P : Params) : Obj := ⟨.none, none, (.fields [].toArray), [].toArray⟩
noncomputable def o47v0 (P : Params) : Obj := ⟨.type "tuple", none, (.seq [.str (.ofString "addr") 241, .str (.ofString "opens") 242, .str (.ofString "pos") 243, .str (.ofString "ch") 244].toArray 0), [].toArray⟩
noncomputable def o48v0 (P : Params) : Obj := ⟨.type "tuple", none, (.seq [].toArray 0), [].toArray⟩
noncomputable def o49v0 (P : Params) : Obj := ⟨.none, none, (.func ⟨(.ofString "_check_parenthesis"), (.ofString "_check_parenthesis"), fnA (st 7), .stmts (fnB (st 7)), fnS (st 7), 0, [], (.none), (.none), (.none), (.none), none, (.none), (.none), 0⟩), [].toArray⟩
noncomputable def o50v0 (P : Params) : Obj := ⟨.type "code", none, (.fields [.str (.ofString "_check_parenthesis") 238, .str (.ofString "_check_parenthesis") 239, .str (.ofString "/claim/cut.py") 240, .int 63 0, .int 1 0, .int 0 0, .int 0 0, .int 3 0, .ref 45, .bool true, .int 181 0, .ref 46, .none, .ref 47, .ref 48, .ref 49, .int 245 0, .int 63 0, .str (.ofString "/claim/cut.py") 246].toArray), [].toArray⟩
noncomputable def o51v0 (P : Params) : Obj := ⟨.type "function", none, (.func ⟨(.ofString "_check_parenthesis"), (.ofString "_check_parenthesis"), fnA (st 7), .stmts (fnB (st 7)), fnS (st 7), 3, [], (.none), (.none), (.none), (.str (.ofString "cpy313.email.utils") 214), none, (.ref 50), (.none), 0⟩), [].toArray⟩
noncomputable def tree1 (P : Params) : BT := (.node (boot_o_0 P) (.node (boot_o_1 P) (.node (o3v0 P) (.node (boot_o_7 P) (.node (o15v0 P) (.node (o31v0 P) .nil .nil) (.node (o47v0 P) .nil .nil)) (.node (o23v0 P) (.node (o39v0 P) .nil .nil) .nil)) (.node (o11v0 P) (.node (o19v0 P) (.node (o35v0 P) .nil .nil) (.node (o51v0 P) .nil .nil)) (.node (o27v0 P) (.node (o43v0 P) .nil .nil) .nil))) (.node (boot_o_5 P) (.node (boot_o_9 P) (.node (o17v0 P) (.node (o33v0 P) .nil .nil) (.node (o49v0 P) .nil .nil)) (.node (o25v0 P) (.node (o41v0 P) .nil .nil) .nil)) (.node (o13v0 P) (.node (o21v0 P) (.node (o37v0 P) .nil .nil) .nil) (.node (o29v0 P) (.node (o45v0 P) .nil .nil) .nil)))) (.node (boot_o_2 P) (.node (boot_o_4 P) (.node (boot_o_8 P) (.node (o16v0 P) (.node (o32v0 P) .nil .nil) (.node (o48v0 P) .nil .nil)) (.node (o24v0 P) (.node (o40v0 P) .nil .nil) .nil)) (.node (o12v1 P) (.node (o20v0 P) (.node (o36v0 P) .nil .nil) .nil) (.node (o28v0 P) (.node (o44v0 P) .nil .nil) .nil))) (.node (boot_o_6 P) (.node (boot_o_10 P) (.node (o18v0 P) (.node (o34v0 P) .nil .nil) (.node (o50v0 P) .nil .nil)) (.node (o26v0 P) (.node (o42v0 P) .nil .nil) .nil)) (.node (o14v0 P) (.node (o22v0 P) (.node (o38v0 P) .nil .nil) .nil) (.node (o30v0 P) (.node (o46v0 P) .nil .nil) .nil)))))
-- 1: size 52 toks 250 pos ⟨74, 0, 74, 8⟩ steps 9
noncomputable def o3v1 (P : Params) : Obj := ⟨.type "dict", none, (.dict [⟨PyData.keyHash P (.ofString "__name__"), .str (.ofString "__name__") 165, .str (.ofString "cpy313.stringprep") 248⟩, ⟨PyData.keyHash P (.ofString "__doc__"), .str (.ofString "__doc__") 166, .none⟩, ⟨PyData.keyHash P (.ofString "__package__"), .str (.ofString "__package__") 167, .none⟩, ⟨PyData.keyHash P (.ofString "__loader__"), .str (.ofString "__loader__") 168, .builtin "__main__.__loader__#opaque"⟩, ⟨PyData.keyHash P (.ofString "__spec__"), .str (.ofString "__spec__") 169, .none⟩, ⟨PyData.keyHash P (.ofString "__annotations__"), .str (.ofString "__annotations__") 170, .ref 6⟩, ⟨PyData.keyHash P (.ofString "__builtins__"), .str (.ofString "__builtins__") 171, .ref 4⟩, ⟨PyData.keyHash P (.ofString "__file__"), .str (.ofString "__file__") 173, .str (.ofString "/claim/cut.py") 172⟩, ⟨PyData.keyHash P (.ofString "__cached__"), .str (.ofString "__cached__") 174, .none⟩, ⟨PyData.keyHash P (.ofString "bisect_left"), .str (.ofString "bisect_left") 202, .ref 23⟩, ⟨PyData.keyHash P (.ofString "_parse_varint"), .str (.ofString "_parse_varint") 213, .ref 30⟩, ⟨PyData.keyHash P (.ofString "_iter_escaped_chars"), .str (.ofString "_iter_escaped_chars") 225, .ref 37⟩, ⟨PyData.keyHash P (.ofString "_strip_quoted_realnames"), .str (.ofString "_strip_quoted_realnames") 237, .ref 44⟩, ⟨PyData.keyHash P (.ofString "_check_parenthesis"), .str (.ofString "_check_parenthesis") 247, .ref 51⟩, ⟨PyData.keyHash P (.ofString "b1_set"), .str (.ofString "b1_set") 309, .ref 59⟩].toArray 15), [].toArray⟩
noncomputable def o52v0 (P : Params) : Obj := ⟨.type "list", none, (.seq [.int 173 250, .int 847 251, .int 6150 252, .int 6155 253, .int 6156 254, .int 6157 255, .int 8203 256, .int 8204 257, .int 8205 258, .int 8288 259, .int 65279 260].toArray 0), [].toArray⟩
noncomputable def o53v0 (P : Params) : Obj := ⟨.type "range", none, (.fields [.int 65024 261, .int 65040 262, .int 1 263].toArray), [].toArray⟩
noncomputable def o54v0 (P : Params) : Obj := ⟨.type "list", none, (.seq [.int 65024 266, .int 65025 267, .int 65026 268, .int 65027 269, .int 65028 270, .int 65029 271, .int 65030 272, .int 65031 273, .int 65032 274, .int 65033 275, .int 65034 276, .int 65035 277, .int 65036 278, .int 65037 279, .int 65038 280, .int 65039 281].toArray 18), [].toArray⟩
noncomputable def o55v0 (P : Params) : Obj := ⟨.type "range_iterator", none, (.fields [.int 65040 0, .int 0 0, .int 1 0].toArray), [].toArray⟩
noncomputable def o56v0 (P : Params) : Obj := ⟨.type "tuple", none, (.seq [].toArray 0), [].toArray⟩
noncomputable def o57v0 (P : Params) : Obj := ⟨.type "StopIteration", none, (.fields [.ref 56, .none, .none, .none, .bool false, .none].toArray), [].toArray⟩
noncomputable def o58v0 (P : Params) : Obj := ⟨.type "list", none, (.seq [.int 173 250, .int 847 251, .int 6150 252, .int 6155 253, .int 6156 254, .int 6157 255, .int 8203 256, .int 8204 257, .int 8205 258, .int 8288 259, .int 65279 260, .int 65024 266, .int 65025 267, .int 65026 268, .int 65027 269, .int 65028 270, .int 65029 271, .int 65030 272, .int 65031 273, .int 65032 274, .int 65033 275, .int 65034 276, .int 65035 277, .int 65036 278, .int 65037 279, .int 65038 280, .int 65039 281].toArray 0), [].toArray⟩
noncomputable def o59v0 (P : Params) : Obj := ⟨.type "set", none, (.set [(65024, .int 65024 266), (65025, .int 65025 267), (65026, .int 65026 268), (65027, .int 65027 269), (65028, .int 65028 270), (65029, .int 65029 271), (6150, .int 6150 252), (65030, .int 65030 272), (65031, .int 65031 273), (65032, .int 65032 274), (65033, .int 65033 275), (6155, .int 6155 253), (6156, .int 6156 254), (6157, .int 6157 255), (8203, .int 8203 256), (8204, .int 8204 257), (8205, .int 8205 258), (65034, .int 65034 276), (65035, .int 65035 277), (65036, .int 65036 278), (65037, .int 65037 279), (65038, .int 65038 280), (65039, .int 65039 281), (173, .int 173 250), (847, .int 847 251), (8288, .int 8288 259), (65279, .int 65279 260)].toArray 29 ⟨127, [0, 1, 2, 3, 4, 5, 6, 7, 8, 9, 10, 11, 12, 13, 14, 15, 16, 17, 18, 19, 20, 21, 22, 45, 79, 96, 127].toArray, [].toArray, 0, !P.followText "set-order", 2, true⟩), [].toArray⟩
noncomputable def o60v0 (P : Params) : Obj := ⟨.type "list_iterator", none, (.fields [.none, .int 27 0].toArray), [].toArray⟩
noncomputable def o61v0 (P : Params) : Obj := ⟨.type "tuple", none, (.seq [].toArray 0), [].toArray⟩
noncomputable def o62v0 (P : Params) : Obj := ⟨.type "StopIteration", none, (.fields [.ref 61, .none, .none, .none, .bool false, .none].toArray), [].toArray⟩
noncomputable def tree2 (P : Params) : BT := (.node (boot_o_0 P) (.node (boot_o_1 P) (.node (o3v1 P) (.node (boot_o_7 P) (.node (o15v0 P) (.node (o31v0 P) .nil .nil) (.node (o47v0 P) .nil .nil)) (.node (o23v0 P) (.node (o39v0 P) .nil .nil) (.node (o55v0 P) .nil .nil))) (.node (o11v0 P) (.node (o19v0 P) (.node (o35v0 P) .nil .nil) (.node (o51v0 P) .nil .nil)) (.node (o27v0 P) (.node (o43v0 P) .nil .nil) (.node (o59v0 P) .nil .nil)))) (.node (boot_o_5 P) (.node (boot_o_9 P) (.node (o17v0 P) (.node (o33v0 P) .nil .nil) (.node (o49v0 P) .nil .nil)) (.node (o25v0 P) (.node (o41v0 P) .nil .nil) (.node (o57v0 P) .nil .nil))) (.node (o13v0 P) (.node (o21v0 P) (.node (o37v0 P) .nil .nil) (.node (o53v0 P) .nil .nil)) (.node (o29v0 P) (.node (o45v0 P) .nil .nil) (.node (o61v0 P) .nil .nil))))) (.node (boot_o_2 P) (.node (boot_o_4 P) (.node (boot_o_8 P) (.node (o16v0 P) (.node (o32v0 P) .nil .nil) (.node (o48v0 P) .nil .nil)) (.node (o24v0 P) (.node (o40v0 P) .nil .nil) (.node (o56v0 P) .nil .nil))) (.node (o12v1 P) (.node (o20v0 P) (.node (o36v0 P) .nil .nil) (.node (o52v0 P) .nil .nil)) (.node (o28v0 P) (.node (o44v0 P) .nil .nil) (.node (o60v0 P) .nil .nil)))) (.node (boot_o_6 P) (.node (boot_o_10 P) (.node (o18v0 P) (.node (o34v0 P) .nil .nil) (.node (o50v0 P) .nil .nil)) (.node (o26v0 P) (.node (o42v0 P) .nil .nil) (.node (o58v0 P) .nil .nil))) (.node (o14v0 P) (.node (o22v0 P) (.node (o38v0 P) .nil .nil) (.node (o54v0 P) .nil .nil)) (.node (o30v0 P) (.node (o46v0 P) .nil .nil) (.node (o62v0 P) .nil .nil))))))
-- 2: size 63 toks 310 pos ⟨75, 0, 75, 6⟩ steps 998
noncomputable def o3v2 (P : Params) : Obj := ⟨.type "dict", none, (.dict [⟨PyData.keyHash P (.ofString "__name__"), .str (.ofString "__name__") 165, .str (.ofString "cpy313.stringprep") 248⟩, ⟨PyData.keyHash P (.ofString "__doc__"), .str (.ofString "__doc__") 166, .none⟩, ⟨PyData.keyHash P (.ofString "__package__"), .str (.ofString "__package__") 167, .none⟩, ⟨PyData.keyHash P (.ofString "__loader__"), .str (.ofString "__loader__") 168, .builtin "__main__.__loader__#opaque"⟩, ⟨PyData.keyHash P (.ofString "__spec__"), .str (.ofString "__spec__") 169, .none⟩, ⟨PyData.keyHash P (.ofString "__annotations__"), .str (.ofString "__annotations__") 170, .ref 6⟩, ⟨PyData.keyHash P (.ofString "__builtins__"), .str (.ofString "__builtins__") 171, .ref 4⟩, ⟨PyData.keyHash P (.ofString "__file__"), .str (.ofString "__file__") 173, .str (.ofString "/claim/cut.py") 172⟩, ⟨PyData.keyHash P (.ofString "__cached__"), .str (.ofString "__cached__") 174, .none⟩, ⟨PyData.keyHash P (.ofString "bisect_left"), .str (.ofString "bisect_left") 202, .ref 23⟩, ⟨PyData.keyHash P (.ofString "_parse_varint"), .str (.ofString "_parse_varint") 213, .ref 30⟩, ⟨PyData.keyHash P (.ofString "_iter_escaped_chars"), .str (.ofString "_iter_escaped_chars") 225, .ref 37⟩, ⟨PyData.keyHash P (.ofString "_strip_quoted_realnames"), .str (.ofString "_strip_quoted_realnames") 237, .ref 44⟩, ⟨PyData.keyHash P (.ofString "_check_parenthesis"), .str (.ofString "_check_parenthesis") 247, .ref 51⟩, ⟨PyData.keyHash P (.ofString "b1_set"), .str (.ofString "b1_set") 309, .ref 59⟩, ⟨PyData.keyHash P (.ofString "in_table_b1"), .str (.ofString "in_table_b1") 316, .ref 69⟩].toArray 16), [].toArray⟩
noncomputable def o12v2 (P : Params) : Obj := ⟨.none, none, (.fields [.int 2 0, .int 0 0, .ref 22, .int 23 0, .int 0 0, .ref 29, .int 32 0, .int 0 0, .ref 36, .int 45 0, .int 0 0, .ref 43, .int 63 0, .int 0 0, .ref 50, .int 76 0, .int 0 0, .ref 68].toArray), [].toArray⟩
noncomputable def o63v0 (P : Params) : Obj := ⟨.type "tuple", none, (.seq [].toArray 0), [].toArray⟩
noncomputable def o64v0 (P : Params) : Obj := ⟨.none, none, (.fields [].toArray), [].toArray⟩
noncomputable def o65v0 (P : Params) : Obj := ⟨.type "tuple", none, (.seq [.str (.ofString "code") 313].toArray 0), [].toArray⟩
noncomputable def o66v0 (P : Params) : Obj := ⟨.type "tuple", none, (.seq [].toArray 0), [].toArray⟩
noncomputable def o67v0 (P : Params) : Obj := ⟨.none, none, (.func ⟨(.ofString "in_table_b1"), (.ofString "in_table_b1"), fnA (st 10), .stmts (fnB (st 10)), fnS (st 10), 0, [], (.none), (.none), (.none), (.none), none, (.none), (.none), 0⟩), [].toArray⟩
noncomputable def o68v0 (P : Params) : Obj := ⟨.type "code", none, (.fields [.str (.ofString "in_table_b1") 310, .str (.ofString "in_table_b1") 311, .str (.ofString "/claim/cut.py") 312, .int 76 0, .int 1 0, .int 0 0, .int 0 0, .int 3 0, .ref 63, .bool true, .int 181 0, .ref 64, .none, .ref 65, .ref 66, .ref 67, .int 314 0, .int 76 0, .str (.ofString "/claim/cut.py") 315].toArray), [].toArray⟩
noncomputable def o69v0 (P : Params) : Obj := ⟨.type "function", none, (.func ⟨(.ofString "in_table_b1"), (.ofString "in_table_b1"), fnA (st 10), .stmts (fnB (st 10)), fnS (st 10), 3, [], (.none), (.none), (.none), (.str (.ofString "cpy313.stringprep") 248), none, (.ref 68), (.none), 0⟩), [].toArray⟩
noncomputable def tree3 (P : Params) : BT := (.node (boot_o_0 P) (.node (boot_o_1 P) (.node (o3v2 P) (.node (boot_o_7 P) (.node (o15v0 P) (.node (o31v0 P) (.node (o63v0 P) .nil .nil) .nil) (.node (o47v0 P) .nil .nil)) (.node (o23v0 P) (.node (o39v0 P) .nil .nil) (.node (o55v0 P) .nil .nil))) (.node (o11v0 P) (.node (o19v0 P) (.node (o35v0 P) (.node (o67v0 P) .nil .nil) .nil) (.node (o51v0 P) .nil .nil)) (.node (o27v0 P) (.node (o43v0 P) .nil .nil) (.node (o59v0 P) .nil .nil)))) (.node (boot_o_5 P) (.node (boot_o_9 P) (.node (o17v0 P) (.node (o33v0 P) (.node (o65v0 P) .nil .nil) .nil) (.node (o49v0 P) .nil .nil)) (.node (o25v0 P) (.node (o41v0 P) .nil .nil) (.node (o57v0 P) .nil .nil))) (.node (o13v0 P) (.node (o21v0 P) (.node (o37v0 P) (.node (o69v0 P) .nil .nil) .nil) (.node (o53v0 P) .nil .nil)) (.node (o29v0 P) (.node (o45v0 P) .nil .nil) (.node (o61v0 P) .nil .nil))))) (.node (boot_o_2 P) (.node (boot_o_4 P) (.node (boot_o_8 P) (.node (o16v0 P) (.node (o32v0 P) (.node (o64v0 P) .nil .nil) .nil) (.node (o48v0 P) .nil .nil)) (.node (o24v0 P) (.node (o40v0 P) .nil .nil) (.node (o56v0 P) .nil .nil))) (.node (o12v2 P) (.node (o20v0 P) (.node (o36v0 P) (.node (o68v0 P) .nil .nil) .nil) (.node (o52v0 P) .nil .nil)) (.node (o28v0 P) (.node (o44v0 P) .nil .nil) (.node (o60v0 P) .nil .nil)))) (.node (boot_o_6 P) (.node (boot_o_10 P) (.node (o18v0 P) (.node (o34v0 P) (.node (o66v0 P) .nil .nil) .nil) (.node (o50v0 P) .nil .nil)) (.node (o26v0 P) (.node (o42v0 P) .nil .nil) (.node (o58v0 P) .nil .nil))) (.node (o14v0 P) (.node (o22v0 P) (.node (o38v0 P) .nil .nil) (.node (o54v0 P) .nil .nil)) (.node (o30v0 P) (.node (o46v0 P) .nil .nil) (.node (o62v0 P) .nil .nil))))))
-- 3: size 70 toks 317 pos ⟨76, 0, 77, 30⟩ steps 29
noncomputable def o3v3 (P : Params) : Obj := ⟨.type "dict", none, (.dict [⟨PyData.keyHash P (.ofString "__name__"), .str (.ofString "__name__") 165, .str (.ofString "cpy313.stringprep") 248⟩, ⟨PyData.keyHash P (.ofString "__doc__"), .str (.ofString "__doc__") 166, .none⟩, ⟨PyData.keyHash P (.ofString "__package__"), .str (.ofString "__package__") 167, .none⟩, ⟨PyData.keyHash P (.ofString "__loader__"), .str (.ofString "__loader__") 168, .builtin "__main__.__loader__#opaque"⟩, ⟨PyData.keyHash P (.ofString "__spec__"), .str (.ofString "__spec__") 169, .none⟩, ⟨PyData.keyHash P (.ofString "__annotations__"), .str (.ofString "__annotations__") 170, .ref 6⟩, ⟨PyData.keyHash P (.ofString "__builtins__"), .str (.ofString "__builtins__") 171, .ref 4⟩, ⟨PyData.keyHash P (.ofString "__file__"), .str (.ofString "__file__") 173, .str (.ofString "/claim/cut.py") 172⟩, ⟨PyData.keyHash P (.ofString "__cached__"), .str (.ofString "__cached__") 174, .none⟩, ⟨PyData.keyHash P (.ofString "bisect_left"), .str (.ofString "bisect_left") 202, .ref 23⟩, ⟨PyData.keyHash P (.ofString "_parse_varint"), .str (.ofString "_parse_varint") 213, .ref 30⟩, ⟨PyData.keyHash P (.ofString "_iter_escaped_chars"), .str (.ofString "_iter_escaped_chars") 225, .ref 37⟩, ⟨PyData.keyHash P (.ofString "_strip_quoted_realnames"), .str (.ofString "_strip_quoted_realnames") 237, .ref 44⟩, ⟨PyData.keyHash P (.ofString "_check_parenthesis"), .str (.ofString "_check_parenthesis") 247, .ref 51⟩, ⟨PyData.keyHash P (.ofString "b1_set"), .str (.ofString "b1_set") 309, .ref 59⟩, ⟨PyData.keyHash P (.ofString "in_table_b1"), .str (.ofString "in_table_b1") 316, .ref 69⟩, ⟨PyData.keyHash P (.ofString "b3_exceptions"), .str (.ofString "b3_exceptions") 2267, .ref 70⟩].toArray 17), [].toArray⟩
noncomputable def o70v0 (P : Params) : Obj := b3main
noncomputable def o71v0 (P : Params) : Obj := b3sub 1
noncomputable def o72v0 (P : Params) : Obj := b3sub 2
noncomputable def o73v0 (P : Params) : Obj := b3sub 3
noncomputable def o74v0 (P : Params) : Obj := b3sub 4
noncomputable def o75v0 (P : Params) : Obj := b3sub 5
noncomputable def o76v0 (P : Params) : Obj := b3sub 6
noncomputable def o77v0 (P : Params) : Obj := b3sub 7
noncomputable def o78v0 (P : Params) : Obj := b3sub 8
noncomputable def o79v0 (P : Params) : Obj := b3sub 9
noncomputable def o80v0 (P : Params) : Obj := b3sub 10
noncomputable def o81v0 (P : Params) : Obj := b3sub 11
noncomputable def o82v0 (P : Params) : Obj := b3sub 12
noncomputable def o83v0 (P : Params) : Obj := b3sub 13
noncomputable def o84v0 (P : Params) : Obj := b3sub 14
noncomputable def o85v0 (P : Params) : Obj := b3sub 15
noncomputable def o86v0 (P : Params) : Obj := b3sub 16
noncomputable def o87v0 (P : Params) : Obj := b3sub 17
noncomputable def o88v0 (P : Params) : Obj := b3sub 18
noncomputable def o89v0 (P : Params) : Obj := b3sub 19
noncomputable def o90v0 (P : Params) : Obj := b3sub 20
noncomputable def o91v0 (P : Params) : Obj := b3sub 21
noncomputable def o92v0 (P : Params) : Obj := b3sub 22
noncomputable def o93v0 (P : Params) : Obj := b3sub 23
noncomputable def o94v0 (P : Params) : Obj := b3sub 24
noncomputable def o95v0 (P : Params) : Obj := b3sub 25
noncomputable def o96v0 (P : Params) : Obj := b3sub 26
noncomputable def o97v0 (P : Params) : Obj := b3sub 27
noncomputable def o98v0 (P : Params) : Obj := b3sub 28
noncomputable def o99v0 (P : Params) : Obj := b3sub 29
noncomputable def o100v0 (P : Params) : Obj := b3sub 30
noncomputable def o101v0 (P : Params) : Obj := b3sub 31
noncomputable def o102v0 (P : Params) : Obj := b3sub 32
noncomputable def o103v0 (P : Params) : Obj := b3sub 33
noncomputable def o104v0 (P : Params) : Obj := b3sub 34
noncomputable def o105v0 (P : Params) : Obj := b3sub 35
noncomputable def o106v0 (P : Params) : Obj := b3sub 36
noncomputable def o107v0 (P : Params) : Obj := b3sub 37
noncomputable def o108v0 (P : Params) : Obj := b3sub 38
noncomputable def tree4 (P : Params) : BT := (.node (boot_o_0 P) (.node (boot_o_1 P) (.node (o3v3 P) (.node (boot_o_7 P) (.node (o15v0 P) (.node (o31v0 P) (.node (o63v0 P) .nil .nil) (.node (o95v0 P) .nil .nil)) (.node (o47v0 P) (.node (o79v0 P) .nil .nil) .nil)) (.node (o23v0 P) (.node (o39v0 P) (.node (o71v0 P) .nil .nil) (.node (o103v0 P) .nil .nil)) (.node (o55v0 P) (.node (o87v0 P) .nil .nil) .nil))) (.node (o11v0 P) (.node (o19v0 P) (.node (o35v0 P) (.node (o67v0 P) .nil .nil) (.node (o99v0 P) .nil .nil)) (.node (o51v0 P) (.node (o83v0 P) .nil .nil) .nil)) (.node (o27v0 P) (.node (o43v0 P) (.node (o75v0 P) .nil .nil) (.node (o107v0 P) .nil .nil)) (.node (o59v0 P) (.node (o91v0 P) .nil .nil) .nil)))) (.node (boot_o_5 P) (.node (boot_o_9 P) (.node (o17v0 P) (.node (o33v0 P) (.node (o65v0 P) .nil .nil) (.node (o97v0 P) .nil .nil)) (.node (o49v0 P) (.node (o81v0 P) .nil .nil) .nil)) (.node (o25v0 P) (.node (o41v0 P) (.node (o73v0 P) .nil .nil) (.node (o105v0 P) .nil .nil)) (.node (o57v0 P) (.node (o89v0 P) .nil .nil) .nil))) (.node (o13v0 P) (.node (o21v0 P) (.node (o37v0 P) (.node (o69v0 P) .nil .nil) (.node (o101v0 P) .nil .nil)) (.node (o53v0 P) (.node (o85v0 P) .nil .nil) .nil)) (.node (o29v0 P) (.node (o45v0 P) (.node (o77v0 P) .nil .nil) .nil) (.node (o61v0 P) (.node (o93v0 P) .nil .nil) .nil))))) (.node (boot_o_2 P) (.node (boot_o_4 P) (.node (boot_o_8 P) (.node (o16v0 P) (.node (o32v0 P) (.node (o64v0 P) .nil .nil) (.node (o96v0 P) .nil .nil)) (.node (o48v0 P) (.node (o80v0 P) .nil .nil) .nil)) (.node (o24v0 P) (.node (o40v0 P) (.node (o72v0 P) .nil .nil) (.node (o104v0 P) .nil .nil)) (.node (o56v0 P) (.node (o88v0 P) .nil .nil) .nil))) (.node (o12v2 P) (.node (o20v0 P) (.node (o36v0 P) (.node (o68v0 P) .nil .nil) (.node (o100v0 P) .nil .nil)) (.node (o52v0 P) (.node (o84v0 P) .nil .nil) .nil)) (.node (o28v0 P) (.node (o44v0 P) (.node (o76v0 P) .nil .nil) (.node (o108v0 P) .nil .nil)) (.node (o60v0 P) (.node (o92v0 P) .nil .nil) .nil)))) (.node (boot_o_6 P) (.node (boot_o_10 P) (.node (o18v0 P) (.node (o34v0 P) (.node (o66v0 P) .nil .nil) (.node (o98v0 P) .nil .nil)) (.node (o50v0 P) (.node (o82v0 P) .nil .nil) .nil)) (.node (o26v0 P) (.node (o42v0 P) (.node (o74v0 P) .nil .nil) (.node (o106v0 P) .nil .nil)) (.node (o58v0 P) (.node (o90v0 P) .nil .nil) .nil))) (.node (o14v0 P) (.node (o22v0 P) (.node (o38v0 P) (.node (o70v0 P) .nil .nil) (.node (o102v0 P) .nil .nil)) (.node (o54v0 P) (.node (o86v0 P) .nil .nil) .nil)) (.node (o30v0 P) (.node (o46v0 P) (.node (o78v0 P) .nil .nil) .nil) (.node (o62v0 P) (.node (o94v0 P) .nil .nil) .nil))))))
-- 4: size 109 toks 2268 pos ⟨78, 0, 78, 13⟩ steps 12524
noncomputable def o3v4 (P : Params) : Obj := ⟨.type "dict", none, (.dict [⟨PyData.keyHash P (.ofString "__name__"), .str (.ofString "__name__") 165, .str (.ofString "law_wf0071_01") 2276⟩, ⟨PyData.keyHash P (.ofString "__doc__"), .str (.ofString "__doc__") 166, .none⟩, ⟨PyData.keyHash P (.ofString "__package__"), .str (.ofString "__package__") 167, .none⟩, ⟨PyData.keyHash P (.ofString "__loader__"), .str (.ofString "__loader__") 168, .builtin "__main__.__loader__#opaque"⟩, ⟨PyData.keyHash P (.ofString "__spec__"), .str (.ofString "__spec__") 169, .none⟩, ⟨PyData.keyHash P (.ofString "__annotations__"), .str (.ofString "__annotations__") 170, .ref 6⟩, ⟨PyData.keyHash P (.ofString "__builtins__"), .str (.ofString "__builtins__") 171, .ref 4⟩, ⟨PyData.keyHash P (.ofString "__file__"), .str (.ofString "__file__") 173, .str (.ofString "/claim/cut.py") 172⟩, ⟨PyData.keyHash P (.ofString "__cached__"), .str (.ofString "__cached__") 174, .none⟩, ⟨PyData.keyHash P (.ofString "bisect_left"), .str (.ofString "bisect_left") 202, .ref 23⟩, ⟨PyData.keyHash P (.ofString "_parse_varint"), .str (.ofString "_parse_varint") 213, .ref 30⟩, ⟨PyData.keyHash P (.ofString "_iter_escaped_chars"), .str (.ofString "_iter_escaped_chars") 225, .ref 37⟩, ⟨PyData.keyHash P (.ofString "_strip_quoted_realnames"), .str (.ofString "_strip_quoted_realnames") 237, .ref 44⟩, ⟨PyData.keyHash P (.ofString "_check_parenthesis"), .str (.ofString "_check_parenthesis") 247, .ref 51⟩, ⟨PyData.keyHash P (.ofString "b1_set"), .str (.ofString "b1_set") 309, .ref 59⟩, ⟨PyData.keyHash P (.ofString "in_table_b1"), .str (.ofString "in_table_b1") 316, .ref 69⟩, ⟨PyData.keyHash P (.ofString "b3_exceptions"), .str (.ofString "b3_exceptions") 2267, .ref 70⟩, ⟨PyData.keyHash P (.ofString "map_table_b3"), .str (.ofString "map_table_b3") 2275, .ref 115⟩, ⟨PyData.keyHash P (.ofString "_law_octets"), .str (.ofString "_law_octets") 2286, .ref 122⟩, ⟨PyData.keyHash P (.ofString "_law_read"), .str (.ofString "_law_read") 2295, .ref 129⟩, ⟨PyData.keyHash P (.ofString "_law_nest"), .str (.ofString "_law_nest") 2311, .ref 136⟩, ⟨PyData.keyHash P (.ofString "_law_taken"), .str (.ofString "_law_taken") 2321, .ref 143⟩, ⟨PyData.keyHash P (.ofString "_law_longest"), .str (.ofString "_law_longest") 2327, .ref 148⟩, ⟨PyData.keyHash P (.ofString "_law_before"), .str (.ofString "_law_before") 2338, .ref 155⟩, ⟨PyData.keyHash P (.ofString "law"), .str (.ofString "law") 2344, .ref 160⟩].toArray 25), [].toArray⟩
noncomputable def o12v3 (P : Params) : Obj := ⟨.none, none, (.fields [.int 2 0, .int 0 0, .ref 22, .int 23 0, .int 0 0, .ref 29, .int 32 0, .int 0 0, .ref 36, .int 45 0, .int 0 0, .ref 43, .int 63 0, .int 0 0, .ref 50, .int 76 0, .int 0 0, .ref 68, .int 79 0, .int 0 0, .ref 114, .int 85 0, .int 0 0, .ref 121, .int 91 0, .int 0 0, .ref 128, .int 99 0, .int 0 0, .ref 135, .int 113 0, .int 0 0, .ref 142, .int 121 0, .int 0 0, .ref 147, .int 127 0, .int 0 0, .ref 154, .int 132 0, .int 0 0, .ref 159].toArray), [].toArray⟩
noncomputable def o109v0 (P : Params) : Obj := ⟨.type "tuple", none, (.seq [].toArray 0), [].toArray⟩
noncomputable def o110v0 (P : Params) : Obj := ⟨.none, none, (.fields [].toArray), [].toArray⟩
noncomputable def o111v0 (P : Params) : Obj := ⟨.type "tuple", none, (.seq [.str (.ofString "code") 2271, .str (.ofString "r") 2272].toArray 0), [].toArray⟩
noncomputable def o112v0 (P : Params) : Obj := ⟨.type "tuple", none, (.seq [].toArray 0), [].toArray⟩
noncomputable def o113v0 (P : Params) : Obj := ⟨.none, none, (.func ⟨(.ofString "map_table_b3"), (.ofString "map_table_b3"), fnA (st 12), .stmts (fnB (st 12)), fnS (st 12), 0, [], (.none), (.none), (.none), (.none), none, (.none), (.none), 0⟩), [].toArray⟩
noncomputable def o114v0 (P : Params) : Obj := ⟨.type "code", none, (.fields [.str (.ofString "map_table_b3") 2268, .str (.ofString "map_table_b3") 2269, .str (.ofString "/claim/cut.py") 2270, .int 79 0, .int 1 0, .int 0 0, .int 0 0, .int 3 0, .ref 109, .bool true, .int 181 0, .ref 110, .none, .ref 111, .ref 112, .ref 113, .int 2273 0, .int 79 0, .str (.ofString "/claim/cut.py") 2274].toArray), [].toArray⟩
noncomputable def o115v0 (P : Params) : Obj := ⟨.type "function", none, (.func ⟨(.ofString "map_table_b3"), (.ofString "map_table_b3"), fnA (st 12), .stmts (fnB (st 12)), fnS (st 12), 3, [], (.none), (.none), (.none), (.str (.ofString "cpy313.stringprep") 248), none, (.ref 114), (.none), 0⟩), [].toArray⟩
noncomputable def o116v0 (P : Params) : Obj := ⟨.type "tuple", none, (.seq [].toArray 0), [].toArray⟩
noncomputable def o117v0 (P : Params) : Obj := ⟨.none, none, (.fields [].toArray), [].toArray⟩
noncomputable def o118v0 (P : Params) : Obj := ⟨.type "tuple", none, (.seq [.str (.ofString "number") 2281, .str (.ofString "noughts") 2282, .str (.ofString "row") 2283].toArray 0), [].toArray⟩
noncomputable def o119v0 (P : Params) : Obj := ⟨.type "tuple", none, (.seq [].toArray 0), [].toArray⟩
noncomputable def o120v0 (P : Params) : Obj := ⟨.none, none, (.func ⟨(.ofString "_law_octets"), (.ofString "_law_octets"), fnA (st 14), .stmts (fnB (st 14)), fnS (st 14), 0, [], (.none), (.none), (.none), (.none), none, (.none), (.none), 0⟩), [].toArray⟩
noncomputable def o121v0 (P : Params) : Obj := ⟨.type "code", none, (.fields [.str (.ofString "_law_octets") 2278, .str (.ofString "_law_octets") 2279, .str (.ofString "/claim/cut.py") 2280, .int 85 0, .int 2 0, .int 0 0, .int 0 0, .int 3 0, .ref 116, .bool true, .int 181 0, .ref 117, .none, .ref 118, .ref 119, .ref 120, .int 2284 0, .int 85 0, .str (.ofString "/claim/cut.py") 2285].toArray), [].toArray⟩
noncomputable def o122v0 (P : Params) : Obj := ⟨.type "function", none, (.func ⟨(.ofString "_law_octets"), (.ofString "_law_octets"), fnA (st 14), .stmts (fnB (st 14)), fnS (st 14), 3, [], (.none), (.none), (.none), (.str (.ofString "law_wf0071_01") 2276), none, (.ref 121), (.none), 0⟩), [].toArray⟩
noncomputable def o123v0 (P : Params) : Obj := ⟨.type "tuple", none, (.seq [].toArray 0), [].toArray⟩
noncomputable def o124v0 (P : Params) : Obj := ⟨.none, none, (.fields [].toArray), [].toArray⟩
noncomputable def o125v0 (P : Params) : Obj := ⟨.type "tuple", none, (.seq [.str (.ofString "octets") 2290, .str (.ofString "tape") 2291, .str (.ofString "read") 2292].toArray 0), [].toArray⟩
noncomputable def o126v0 (P : Params) : Obj := ⟨.type "tuple", none, (.seq [].toArray 0), [].toArray⟩
noncomputable def o127v0 (P : Params) : Obj := ⟨.none, none, (.func ⟨(.ofString "_law_read"), (.ofString "_law_read"), fnA (st 15), .stmts (fnB (st 15)), fnS (st 15), 0, [], (.none), (.none), (.none), (.none), none, (.none), (.none), 0⟩), [].toArray⟩
noncomputable def o128v0 (P : Params) : Obj := ⟨.type "code", none, (.fields [.str (.ofString "_law_read") 2287, .str (.ofString "_law_read") 2288, .str (.ofString "/claim/cut.py") 2289, .int 91 0, .int 1 0, .int 0 0, .int 0 0, .int 3 0, .ref 123, .bool true, .int 181 0, .ref 124, .none, .ref 125, .ref 126, .ref 127, .int 2293 0, .int 91 0, .str (.ofString "/claim/cut.py") 2294].toArray), [].toArray⟩
noncomputable def o129v0 (P : Params) : Obj := ⟨.type "function", none, (.func ⟨(.ofString "_law_read"), (.ofString "_law_read"), fnA (st 15), .stmts (fnB (st 15)), fnS (st 15), 3, [], (.none), (.none), (.none), (.str (.ofString "law_wf0071_01") 2276), none, (.ref 128), (.none), 0⟩), [].toArray⟩
noncomputable def o130v0 (P : Params) : Obj := ⟨.type "tuple", none, (.seq [].toArray 0), [].toArray⟩
noncomputable def o131v0 (P : Params) : Obj := ⟨.none, none, (.fields [].toArray), [].toArray⟩
noncomputable def o132v0 (P : Params) : Obj := ⟨.type "tuple", none, (.seq [.str (.ofString "word") 2299, .str (.ofString "unseen") 2300, .str (.ofString "kept") 2301, .str (.ofString "grown") 2302, .str (.ofString "i") 2303, .str (.ofString "k") 2304, .str (.ofString "inner") 2305, .str (.ofString "nest") 2306, .str (.ofString "row") 2307].toArray 0), [].toArray⟩
noncomputable def o133v0 (P : Params) : Obj := ⟨.type "tuple", none, (.seq [.str (.ofString "word") 2308].toArray 0), [].toArray⟩
noncomputable def o134v0 (P : Params) : Obj := ⟨.none, none, (.func ⟨(.ofString "_law_nest"), (.ofString "_law_nest"), fnA (st 16), .stmts (fnB (st 16)), fnS (st 16), 0, [], (.none), (.none), (.none), (.none), none, (.none), (.none), 0⟩), [].toArray⟩
noncomputable def o135v0 (P : Params) : Obj := ⟨.type "code", none, (.fields [.str (.ofString "_law_nest") 2296, .str (.ofString "_law_nest") 2297, .str (.ofString "/claim/cut.py") 2298, .int 99 0, .int 2 0, .int 0 0, .int 0 0, .int 3 0, .ref 130, .bool true, .int 181 0, .ref 131, .none, .ref 132, .ref 133, .ref 134, .int 2309 0, .int 99 0, .str (.ofString "/claim/cut.py") 2310].toArray), [].toArray⟩
noncomputable def o136v0 (P : Params) : Obj := ⟨.type "function", none, (.func ⟨(.ofString "_law_nest"), (.ofString "_law_nest"), fnA (st 16), .stmts (fnB (st 16)), fnS (st 16), 3, [], (.none), (.none), (.none), (.str (.ofString "law_wf0071_01") 2276), none, (.ref 135), (.none), 0⟩), [].toArray⟩
noncomputable def o137v0 (P : Params) : Obj := ⟨.type "tuple", none, (.seq [].toArray 0), [].toArray⟩
noncomputable def o138v0 (P : Params) : Obj := ⟨.none, none, (.fields [].toArray), [].toArray⟩
noncomputable def o139v0 (P : Params) : Obj := ⟨.type "tuple", none, (.seq [.str (.ofString "row") 2315, .str (.ofString "p") 2316, .str (.ofString "q") 2317, .str (.ofString "told") 2318].toArray 0), [].toArray⟩
noncomputable def o140v0 (P : Params) : Obj := ⟨.type "tuple", none, (.seq [].toArray 0), [].toArray⟩
noncomputable def o141v0 (P : Params) : Obj := ⟨.none, none, (.func ⟨(.ofString "_law_taken"), (.ofString "_law_taken"), fnA (st 17), .stmts (fnB (st 17)), fnS (st 17), 0, [], (.none), (.none), (.none), (.none), none, (.none), (.none), 0⟩), [].toArray⟩
noncomputable def o142v0 (P : Params) : Obj := ⟨.type "code", none, (.fields [.str (.ofString "_law_taken") 2312, .str (.ofString "_law_taken") 2313, .str (.ofString "/claim/cut.py") 2314, .int 113 0, .int 2 0, .int 0 0, .int 0 0, .int 3 0, .ref 137, .bool true, .int 181 0, .ref 138, .none, .ref 139, .ref 140, .ref 141, .int 2319 0, .int 113 0, .str (.ofString "/claim/cut.py") 2320].toArray), [].toArray⟩
noncomputable def o143v0 (P : Params) : Obj := ⟨.type "function", none, (.func ⟨(.ofString "_law_taken"), (.ofString "_law_taken"), fnA (st 17), .stmts (fnB (st 17)), fnS (st 17), 3, [], (.none), (.none), (.none), (.str (.ofString "law_wf0071_01") 2276), none, (.ref 142), (.none), 0⟩), [].toArray⟩
noncomputable def o144v0 (P : Params) : Obj := ⟨.type "tuple", none, (.seq [].toArray 0), [].toArray⟩
noncomputable def o145v0 (P : Params) : Obj := ⟨.none, none, (.fields [].toArray), [].toArray⟩
noncomputable def o146v0 (P : Params) : Obj := ⟨.none, none, (.func ⟨(.ofString "_law_longest"), (.ofString "_law_longest"), fnA (st 18), .stmts (fnB (st 18)), fnS (st 18), 0, [], (.none), (.none), (.none), (.none), none, (.none), (.none), 0⟩), [].toArray⟩
noncomputable def o147v0 (P : Params) : Obj := ⟨.type "code", none, (.fields [.str (.ofString "_law_longest") 2322, .str (.ofString "_law_longest") 2323, .str (.ofString "/claim/cut.py") 2324, .int 121 0, .int 2 0, .int 0 0, .int 0 0, .int 3 0, .ref 144, .bool true, .int 181 0, .ref 145, .none, .none, .none, .ref 146, .int 2325 0, .int 121 0, .str (.ofString "/claim/cut.py") 2326].toArray), [].toArray⟩
noncomputable def o148v0 (P : Params) : Obj := ⟨.type "function", none, (.func ⟨(.ofString "_law_longest"), (.ofString "_law_longest"), fnA (st 18), .stmts (fnB (st 18)), fnS (st 18), 3, [], (.none), (.none), (.none), (.str (.ofString "law_wf0071_01") 2276), none, (.ref 147), (.none), 0⟩), [].toArray⟩
noncomputable def o149v0 (P : Params) : Obj := ⟨.type "tuple", none, (.seq [].toArray 0), [].toArray⟩
noncomputable def o150v0 (P : Params) : Obj := ⟨.none, none, (.fields [].toArray), [].toArray⟩
noncomputable def o151v0 (P : Params) : Obj := ⟨.type "tuple", none, (.seq [.str (.ofString "kept") 2331, .str (.ofString "words") 2332, .str (.ofString "before") 2333, .str (.ofString "one") 2334].toArray 0), [].toArray⟩
noncomputable def o152v0 (P : Params) : Obj := ⟨.type "tuple", none, (.seq [.str (.ofString "words") 2335].toArray 0), [].toArray⟩
noncomputable def o153v0 (P : Params) : Obj := ⟨.none, none, (.func ⟨(.ofString "_law_before"), (.ofString "_law_before"), fnA (st 19), .stmts (fnB (st 19)), fnS (st 19), 0, [], (.none), (.none), (.none), (.none), none, (.none), (.none), 0⟩), [].toArray⟩
noncomputable def o154v0 (P : Params) : Obj := ⟨.type "code", none, (.fields [.str (.ofString "_law_before") 2328, .str (.ofString "_law_before") 2329, .str (.ofString "/claim/cut.py") 2330, .int 127 0, .int 2 0, .int 0 0, .int 0 0, .int 3 0, .ref 149, .bool true, .int 181 0, .ref 150, .none, .ref 151, .ref 152, .ref 153, .int 2336 0, .int 127 0, .str (.ofString "/claim/cut.py") 2337].toArray), [].toArray⟩
noncomputable def o155v0 (P : Params) : Obj := ⟨.type "function", none, (.func ⟨(.ofString "_law_before"), (.ofString "_law_before"), fnA (st 19), .stmts (fnB (st 19)), fnS (st 19), 3, [], (.none), (.none), (.none), (.str (.ofString "law_wf0071_01") 2276), none, (.ref 154), (.none), 0⟩), [].toArray⟩
noncomputable def o156v0 (P : Params) : Obj := ⟨.type "tuple", none, (.seq [].toArray 0), [].toArray⟩
noncomputable def o157v0 (P : Params) : Obj := ⟨.none, none, (.fields [].toArray), [].toArray⟩
noncomputable def o158v0 (P : Params) : Obj := ⟨.none, none, (.func ⟨(.ofString "law"), (.ofString "law"), fnA (st 20), .stmts (fnB (st 20)), fnS (st 20), 0, [], (.none), (.none), (.none), (.none), none, (.none), (.none), 0⟩), [].toArray⟩
noncomputable def o159v0 (P : Params) : Obj := ⟨.type "code", none, (.fields [.str (.ofString "law") 2339, .str (.ofString "law") 2340, .str (.ofString "/claim/cut.py") 2341, .int 132 0, .int 1 0, .int 0 0, .int 0 0, .int 3 0, .ref 156, .bool true, .int 181 0, .ref 157, .none, .none, .none, .ref 158, .int 2342 0, .int 132 0, .str (.ofString "/claim/cut.py") 2343].toArray), [].toArray⟩
noncomputable def o160v0 (P : Params) : Obj := ⟨.type "function", none, (.func ⟨(.ofString "law"), (.ofString "law"), fnA (st 20), .stmts (fnB (st 20)), fnS (st 20), 3, [], (.none), (.none), (.none), (.str (.ofString "law_wf0071_01") 2276), none, (.ref 159), (.none), 0⟩), [].toArray⟩
noncomputable def tree5 (P : Params) : BT := (.node (boot_o_0 P) (.node (boot_o_1 P) (.node (o3v4 P) (.node (boot_o_7 P) (.node (o15v0 P) (.node (o31v0 P) (.node (o63v0 P) (.node (o127v0 P) .nil .nil) .nil) (.node (o95v0 P) (.node (o159v0 P) .nil .nil) .nil)) (.node (o47v0 P) (.node (o79v0 P) (.node (o143v0 P) .nil .nil) .nil) (.node (o111v0 P) .nil .nil))) (.node (o23v0 P) (.node (o39v0 P) (.node (o71v0 P) (.node (o135v0 P) .nil .nil) .nil) (.node (o103v0 P) .nil .nil)) (.node (o55v0 P) (.node (o87v0 P) (.node (o151v0 P) .nil .nil) .nil) (.node (o119v0 P) .nil .nil)))) (.node (o11v0 P) (.node (o19v0 P) (.node (o35v0 P) (.node (o67v0 P) (.node (o131v0 P) .nil .nil) .nil) (.node (o99v0 P) .nil .nil)) (.node (o51v0 P) (.node (o83v0 P) (.node (o147v0 P) .nil .nil) .nil) (.node (o115v0 P) .nil .nil))) (.node (o27v0 P) (.node (o43v0 P) (.node (o75v0 P) (.node (o139v0 P) .nil .nil) .nil) (.node (o107v0 P) .nil .nil)) (.node (o59v0 P) (.node (o91v0 P) (.node (o155v0 P) .nil .nil) .nil) (.node (o123v0 P) .nil .nil))))) (.node (boot_o_5 P) (.node (boot_o_9 P) (.node (o17v0 P) (.node (o33v0 P) (.node (o65v0 P) (.node (o129v0 P) .nil .nil) .nil) (.node (o97v0 P) .nil .nil)) (.node (o49v0 P) (.node (o81v0 P) (.node (o145v0 P) .nil .nil) .nil) (.node (o113v0 P) .nil .nil))) (.node (o25v0 P) (.node (o41v0 P) (.node (o73v0 P) (.node (o137v0 P) .nil .nil) .nil) (.node (o105v0 P) .nil .nil)) (.node (o57v0 P) (.node (o89v0 P) (.node (o153v0 P) .nil .nil) .nil) (.node (o121v0 P) .nil .nil)))) (.node (o13v0 P) (.node (o21v0 P) (.node (o37v0 P) (.node (o69v0 P) (.node (o133v0 P) .nil .nil) .nil) (.node (o101v0 P) .nil .nil)) (.node (o53v0 P) (.node (o85v0 P) (.node (o149v0 P) .nil .nil) .nil) (.node (o117v0 P) .nil .nil))) (.node (o29v0 P) (.node (o45v0 P) (.node (o77v0 P) (.node (o141v0 P) .nil .nil) .nil) (.node (o109v0 P) .nil .nil)) (.node (o61v0 P) (.node (o93v0 P) (.node (o157v0 P) .nil .nil) .nil) (.node (o125v0 P) .nil .nil)))))) (.node (boot_o_2 P) (.node (boot_o_4 P) (.node (boot_o_8 P) (.node (o16v0 P) (.node (o32v0 P) (.node (o64v0 P) (.node (o128v0 P) .nil .nil) .nil) (.node (o96v0 P) (.node (o160v0 P) .nil .nil) .nil)) (.node (o48v0 P) (.node (o80v0 P) (.node (o144v0 P) .nil .nil) .nil) (.node (o112v0 P) .nil .nil))) (.node (o24v0 P) (.node (o40v0 P) (.node (o72v0 P) (.node (o136v0 P) .nil .nil) .nil) (.node (o104v0 P) .nil .nil)) (.node (o56v0 P) (.node (o88v0 P) (.node (o152v0 P) .nil .nil) .nil) (.node (o120v0 P) .nil .nil)))) (.node (o12v3 P) (.node (o20v0 P) (.node (o36v0 P) (.node (o68v0 P) (.node (o132v0 P) .nil .nil) .nil) (.node (o100v0 P) .nil .nil)) (.node (o52v0 P) (.node (o84v0 P) (.node (o148v0 P) .nil .nil) .nil) (.node (o116v0 P) .nil .nil))) (.node (o28v0 P) (.node (o44v0 P) (.node (o76v0 P) (.node (o140v0 P) .nil .nil) .nil) (.node (o108v0 P) .nil .nil)) (.node (o60v0 P) (.node (o92v0 P) (.node (o156v0 P) .nil .nil) .nil) (.node (o124v0 P) .nil .nil))))) (.node (boot_o_6 P) (.node (boot_o_10 P) (.node (o18v0 P) (.node (o34v0 P) (.node (o66v0 P) (.node (o130v0 P) .nil .nil) .nil) (.node (o98v0 P) .nil .nil)) (.node (o50v0 P) (.node (o82v0 P) (.node (o146v0 P) .nil .nil) .nil) (.node (o114v0 P) .nil .nil))) (.node (o26v0 P) (.node (o42v0 P) (.node (o74v0 P) (.node (o138v0 P) .nil .nil) .nil) (.node (o106v0 P) .nil .nil)) (.node (o58v0 P) (.node (o90v0 P) (.node (o154v0 P) .nil .nil) .nil) (.node (o122v0 P) .nil .nil)))) (.node (o14v0 P) (.node (o22v0 P) (.node (o38v0 P) (.node (o70v0 P) (.node (o134v0 P) .nil .nil) .nil) (.node (o102v0 P) .nil .nil)) (.node (o54v0 P) (.node (o86v0 P) (.node (o150v0 P) .nil .nil) .nil) (.node (o118v0 P) .nil .nil))) (.node (o30v0 P) (.node (o46v0 P) (.node (o78v0 P) (.node (o142v0 P) .nil .nil) .nil) (.node (o110v0 P) .nil .nil)) (.node (o62v0 P) (.node (o94v0 P) (.node (o158v0 P) .nil .nil) .nil) (.node (o126v0 P) .nil .nil)))))))
-- 5: size 161 toks 2345 pos ⟨132, 0, 163, 106⟩ steps 26
noncomputable def heap5 (P : Params) : Heap := ⟨⟨[boot_o_0 P, boot_o_1 P, boot_o_2 P, o3v4 P, boot_o_4 P, boot_o_5 P, boot_o_6 P, boot_o_7 P, boot_o_8 P, boot_o_9 P, boot_o_10 P, o11v0 P, o12v3 P, o13v0 P, o14v0 P, o15v0 P, o16v0 P, o17v0 P, o18v0 P, o19v0 P, o20v0 P, o21v0 P, o22v0 P, o23v0 P, o24v0 P, o25v0 P, o26v0 P, o27v0 P, o28v0 P, o29v0 P, o30v0 P, o31v0 P, o32v0 P, o33v0 P, o34v0 P, o35v0 P, o36v0 P, o37v0 P, o38v0 P, o39v0 P, o40v0 P, o41v0 P, o42v0 P, o43v0 P, o44v0 P, o45v0 P, o46v0 P, o47v0 P, o48v0 P, o49v0 P, o50v0 P, o51v0 P, o52v0 P, o53v0 P, o54v0 P, o55v0 P, o56v0 P, o57v0 P, o58v0 P, o59v0 P, o60v0 P, o61v0 P, o62v0 P, o63v0 P, o64v0 P, o65v0 P, o66v0 P, o67v0 P, o68v0 P, o69v0 P, o70v0 P, o71v0 P, o72v0 P, o73v0 P, o74v0 P, o75v0 P, o76v0 P, o77v0 P, o78v0 P, o79v0 P, o80v0 P, o81v0 P, o82v0 P, o83v0 P, o84v0 P, o85v0 P, o86v0 P, o87v0 P, o88v0 P, o89v0 P, o90v0 P, o91v0 P, o92v0 P, o93v0 P, o94v0 P, o95v0 P, o96v0 P, o97v0 P, o98v0 P, o99v0 P, o100v0 P, o101v0 P, o102v0 P, o103v0 P, o104v0 P, o105v0 P, o106v0 P, o107v0 P, o108v0 P, o109v0 P, o110v0 P, o111v0 P, o112v0 P, o113v0 P, o114v0 P, o115v0 P, o116v0 P, o117v0 P, o118v0 P, o119v0 P, o120v0 P, o121v0 P, o122v0 P, o123v0 P, o124v0 P, o125v0 P, o126v0 P, o127v0 P, o128v0 P, o129v0 P, o130v0 P, o131v0 P, o132v0 P, o133v0 P, o134v0 P, o135v0 P, o136v0 P, o137v0 P, o138v0 P, o139v0 P, o140v0 P, o141v0 P, o142v0 P, o143v0 P, o144v0 P, o145v0 P, o146v0 P, o147v0 P, o148v0 P, o149v0 P, o150v0 P, o151v0 P, o152v0 P, o153v0 P, o154v0 P, o155v0 P, o156v0 P, o157v0 P, o158v0 P, o159v0 P, o160v0 P]⟩, {}⟩
noncomputable def tree3b (P : Params) : BT := (.node (boot_o_0 P) (.node (boot_o_1 P) (.node (o3v2 P) (.node (boot_o_7 P) (.node (o15v0 P) (.node (o31v0 P) (.node (o63v0 P) .nil .nil) (.node (o95v0 P) .nil .nil)) (.node (o47v0 P) (.node (o79v0 P) .nil .nil) .nil)) (.node (o23v0 P) (.node (o39v0 P) (.node (o71v0 P) .nil .nil) (.node (o103v0 P) .nil .nil)) (.node (o55v0 P) (.node (o87v0 P) .nil .nil) .nil))) (.node (o11v0 P) (.node (o19v0 P) (.node (o35v0 P) (.node (o67v0 P) .nil .nil) (.node (o99v0 P) .nil .nil)) (.node (o51v0 P) (.node (o83v0 P) .nil .nil) .nil)) (.node (o27v0 P) (.node (o43v0 P) (.node (o75v0 P) .nil .nil) (.node (o107v0 P) .nil .nil)) (.node (o59v0 P) (.node (o91v0 P) .nil .nil) .nil)))) (.node (boot_o_5 P) (.node (boot_o_9 P) (.node (o17v0 P) (.node (o33v0 P) (.node (o65v0 P) .nil .nil) (.node (o97v0 P) .nil .nil)) (.node (o49v0 P) (.node (o81v0 P) .nil .nil) .nil)) (.node (o25v0 P) (.node (o41v0 P) (.node (o73v0 P) .nil .nil) (.node (o105v0 P) .nil .nil)) (.node (o57v0 P) (.node (o89v0 P) .nil .nil) .nil))) (.node (o13v0 P) (.node (o21v0 P) (.node (o37v0 P) (.node (o69v0 P) .nil .nil) (.node (o101v0 P) .nil .nil)) (.node (o53v0 P) (.node (o85v0 P) .nil .nil) .nil)) (.node (o29v0 P) (.node (o45v0 P) (.node (o77v0 P) .nil .nil) .nil) (.node (o61v0 P) (.node (o93v0 P) .nil .nil) .nil))))) (.node (boot_o_2 P) (.node (boot_o_4 P) (.node (boot_o_8 P) (.node (o16v0 P) (.node (o32v0 P) (.node (o64v0 P) .nil .nil) (.node (o96v0 P) .nil .nil)) (.node (o48v0 P) (.node (o80v0 P) .nil .nil) .nil)) (.node (o24v0 P) (.node (o40v0 P) (.node (o72v0 P) .nil .nil) (.node (o104v0 P) .nil .nil)) (.node (o56v0 P) (.node (o88v0 P) .nil .nil) .nil))) (.node (o12v2 P) (.node (o20v0 P) (.node (o36v0 P) (.node (o68v0 P) .nil .nil) (.node (o100v0 P) .nil .nil)) (.node (o52v0 P) (.node (o84v0 P) .nil .nil) .nil)) (.node (o28v0 P) (.node (o44v0 P) (.node (o76v0 P) .nil .nil) (.node (o108v0 P) .nil .nil)) (.node (o60v0 P) (.node (o92v0 P) .nil .nil) .nil)))) (.node (boot_o_6 P) (.node (boot_o_10 P) (.node (o18v0 P) (.node (o34v0 P) (.node (o66v0 P) .nil .nil) (.node (o98v0 P) .nil .nil)) (.node (o50v0 P) (.node (o82v0 P) .nil .nil) .nil)) (.node (o26v0 P) (.node (o42v0 P) (.node (o74v0 P) .nil .nil) (.node (o106v0 P) .nil .nil)) (.node (o58v0 P) (.node (o90v0 P) .nil .nil) .nil))) (.node (o14v0 P) (.node (o22v0 P) (.node (o38v0 P) (.node (o70v0 P) .nil .nil) (.node (o102v0 P) .nil .nil)) (.node (o54v0 P) (.node (o86v0 P) .nil .nil) .nil)) (.node (o30v0 P) (.node (o46v0 P) (.node (o78v0 P) .nil .nil) .nil) (.node (o62v0 P) (.node (o94v0 P) .nil .nil) .nil))))))
noncomputable def qv : Program := { pw with main := { pw.main with body := [3, 5, 6, 7, 10, 12, 14, 15, 16, 17, 18, 19, 20].filterMap (pw.main.body[·]?) } }
noncomputable def heapK (P : Params) : Frag := (nat_lit 2, boot_o_2 P) :: (nat_lit 3, o3v4 P) :: (nat_lit 6, boot_o_6 P) :: (nat_lit 15, o15v0 P) :: (nat_lit 16, o16v0 P) :: (nat_lit 17, o17v0 P) :: (nat_lit 19, o19v0 P) :: (nat_lit 20, o20v0 P) :: (nat_lit 22, o22v0 P) :: (nat_lit 23, o23v0 P) :: (nat_lit 24, o24v0 P) :: (nat_lit 26, o26v0 P) :: (nat_lit 27, o27v0 P) :: (nat_lit 29, o29v0 P) :: (nat_lit 30, o30v0 P) :: (nat_lit 31, o31v0 P) :: (nat_lit 33, o33v0 P) :: (nat_lit 34, o34v0 P) :: (nat_lit 36, o36v0 P) :: (nat_lit 37, o37v0 P) :: (nat_lit 38, o38v0 P) :: (nat_lit 40, o40v0 P) :: (nat_lit 41, o41v0 P) :: (nat_lit 43, o43v0 P) :: (nat_lit 44, o44v0 P) :: (nat_lit 45, o45v0 P) :: (nat_lit 47, o47v0 P) :: (nat_lit 48, o48v0 P) :: (nat_lit 50, o50v0 P) :: (nat_lit 51, o51v0 P) :: (nat_lit 59, o59v0 P) :: (nat_lit 63, o63v0 P) :: (nat_lit 65, o65v0 P) :: (nat_lit 66, o66v0 P) :: (nat_lit 68, o68v0 P) :: (nat_lit 69, o69v0 P) :: (nat_lit 70, o70v0 P) :: (nat_lit 109, o109v0 P) :: (nat_lit 111, o111v0 P) :: (nat_lit 112, o112v0 P) :: (nat_lit 114, o114v0 P) :: (nat_lit 115, o115v0 P) :: (nat_lit 116, o116v0 P) :: (nat_lit 118, o118v0 P) :: (nat_lit 119, o119v0 P) :: (nat_lit 121, o121v0 P) :: (nat_lit 122, o122v0 P) :: (nat_lit 123, o123v0 P) :: (nat_lit 125, o125v0 P) :: (nat_lit 126, o126v0 P) :: (nat_lit 128, o128v0 P) :: (nat_lit 129, o129v0 P) :: (nat_lit 130, o130v0 P) :: (nat_lit 132, o132v0 P) :: (nat_lit 133, o133v0 P) :: (nat_lit 135, o135v0 P) :: (nat_lit 136, o136v0 P) :: (nat_lit 137, o137v0 P) :: (nat_lit 139, o139v0 P) :: (nat_lit 140, o140v0 P) :: (nat_lit 142, o142v0 P) :: (nat_lit 143, o143v0 P) :: (nat_lit 144, o144v0 P) :: (nat_lit 147, o147v0 P) :: (nat_lit 148, o148v0 P) :: (nat_lit 149, o149v0 P) :: (nat_lit 151, o151v0 P) :: (nat_lit 152, o152v0 P) :: (nat_lit 154, o154v0 P) :: (nat_lit 155, o155v0 P) :: (nat_lit 156, o156v0 P) :: (nat_lit 159, o159v0 P) :: (nat_lit 160, o160v0 P) :: []
noncomputable def adrK : List Addr := [2, 3, 6, 15, 16, 17, 19, 20, 22, 23, 24, 26, 27, 29, 30, 31, 33, 34, 36, 37, 38, 40, 41, 43, 44, 45, 47, 48, 50, 51, 59, 63, 65, 66, 68, 69, 70, 109, 111, 112, 114, 115, 116, 118, 119, 121, 122, 123, 125, 126, 128, 129, 130, 132, 133, 135, 136, 137, 139, 140, 142, 143, 144, 147, 148, 149, 151, 152, 154, 155, 156, 159, 160]
/-- a tree goes, in at most m steps of the top's run, to a value -/
noncomputable def Goes (p : Program) (w : World) {α : Type} (x : Sem α) (m : Nat) (q : Pos) (s : Shared) (a : α) (q' : Pos) (s' : Shared) : Prop :=
  ∀ (c : Code) (f : Frame) (B : List Frame) (K : α → Sem Fin) (H : Value → Sem Fin) (gd : Bool → Bool) (lv : List Value → List Value) (N : Nat) (r : Shared),
    topRun treeTable p w 11 (some (.ref 6)) N s' ⟨K a, c, q', f :: B⟩ = some r → topRun treeTable p w 11 (some (.ref 6)) (m + N) s ⟨x.wrap K H gd lv, c, q, f :: B⟩ = some r
section
variable {p : Program} {w : World} {α β : Type} {q q' q1 q2 : Pos} {s s' s1 s2 : Shared} {a : α} {b : β} {m n : Nat} {x : Sem α}
theorem topRun_step {t t2 : Thread} {N : Nat} {r : Shared} (ht : through t = false) (hk : stepOk 11 (some (.ref 6)) t = true) (hs : step (denote treeTable) p w s t = .go s2 t2)
    (k : topRun treeTable p w 11 (some (.ref 6)) N s2 t2 = some r) : topRun treeTable p w 11 (some (.ref 6)) (N + 1) s t = some r := by
  unfold topRun; rw [ht, hk, hs]; exact k
theorem Goes.done : Goes p w (.pure a) 0 q s a q s := fun _ _ _ _ _ _ _ N r h => by rw [Nat.zero_add]; exact h
theorem Goes.more (h : Goes p w x m q s a q' s') (hm : m ≤ n) : Goes p w x n q s a q' s' := fun c f B K H gd lv N r k => by
  have := topRun_mono (n - m) _ _ _ _ (h c f B K H gd lv N r k)
  rwa [show m + N + (n - m) = n + N by omega] at this
theorem Goes.bind {f : α → Sem β} (hx : Goes p w x m q s a q1 s1) (hf : Goes p w (f a) n q1 s1 b q2 s2) : Goes p w (x >>= f) (m + n) q s b q2 s2 := by
  intro c fr B K H gd lv N r h
  have e : (x >>= f).wrap K H gd lv = x.wrap (fun a => (f a).wrap K H gd lv) H gd lv := by rw [Sem.bind_eq_wrap', Sem.wrap_wrap]; rfl
  rw [e, Nat.add_assoc]
  exact hx c fr B _ H gd lv _ r (hf c fr B K H gd lv N r h)
theorem Goes.stay {f : α → Sem β} (hx : Goes p w x m q s a q s) (hf : Goes p w (f a) n q s b q2 s2) : Goes p w (x >>= f) (m + n) q s b q2 s2 := hx.bind hf
theorem Goes.keep {vs : List Value} (hx : Goes p w x m q s a q1 s1) : Goes p w (x.keep vs) m q s a q1 s1 := by
  intro c fr B K H gd lv N r h
  rw [Sem.keep_eq_wrap, Sem.wrap_wrap]
  exact hx c fr B K H gd (fun l => lv (vs ++ l)) N r h
theorem Goes.holding {vs : List Value} (hx : Goes p w x m q s a q1 s1) : Goes p w (holding vs x) m q s a q1 s1 := by
  unfold PySem.holding
  split
  · exact hx
  · exact hx.keep
theorem Goes.onRaise {h : Value → Sem Unit} (hx : Goes p w x m q s a q1 s1) : Goes p w (x.onRaise h) m q s a q1 s1 := by
  intro c fr B K H gd lv N r k
  rw [Sem.onRaise_eq_wrap, Sem.wrap_wrap]
  exact hx c fr B K _ gd lv N r k
theorem Goes.map {f : α → β} (hx : Goes p w x m q s a q1 s1) : Goes p w (f <$> x) m q s (f a) q1 s1 := by
  have : f <$> x = x >>= fun a => pure (f a) := rfl
  rw [this]
  exact (hx.bind (f := fun a => pure (f a)) Goes.done).more (Nat.le_refl _)
theorem Goes.of_eq {y : Sem α} (e : y = x) (h : Goes p w x m q s a q' s') : Goes p w y m q s a q' s' := e ▸ h
theorem Goes.of_start {s₀ : Shared} (e : s = s₀) (h : Goes p w x m q s₀ a q' s') : Goes p w x m q s a q' s' := e ▸ h
theorem Goes.rule {t : String} : Goes p w (rule t) 1 q s () q s := fun c f B K H gd lv N r h => by rw [Nat.add_comm]; exact topRun_step rfl rfl rfl h
theorem Goes.at : Goes p w (standAt q') 1 q s () q' s := fun c f B K H gd lv N r h => by rw [Nat.add_comm]; exact topRun_step rfl rfl rfl h
theorem Goes.fresh : Goes p w fresh 1 q s s.toks q { s with toks := s.toks + 1 } := fun c f B K H gd lv N r h => by rw [Nat.add_comm]; exact topRun_step rfl rfl (by obtain ⟨_, _, _, _, _⟩ := s; rfl) h
theorem Goes.alloc {o : Obj} : Goes p w (alloc o) 1 q s s.heap.objs.size q { s with heap := s.heap.push o } := fun c f B K H gd lv N r h => by
  rw [Nat.add_comm]; exact topRun_step rfl rfl (by obtain ⟨_, _, _, _, _⟩ := s; rfl) h
theorem Goes.load {d : Addr} {o : Obj} {part : Option Value} (ho : s.heap.get? d = some o) : Goes p w (loadPart d part) 1 q s o q s := fun c f B K H gd lv N r h => by
  rw [Nat.add_comm]
  refine topRun_step rfl rfl ?_ h
  obtain ⟨heap, _, _, _, _⟩ := s
  dsimp only at ho
  show (match heap.get? d with | some o => _ | none => _) = _
  rw [ho]; rfl
theorem Goes.update {d : Addr} {o : Obj} {part : Option Value} {f : Obj → Obj} (ho : s.heap.get? d = some o) (hd : 11 ≤ d) : Goes p w (updatePart d part f) 1 q s () q { s with heap := s.heap.update d f } := fun c fr B K H gd lv N r h => by
  rw [Nat.add_comm]
  refine topRun_step rfl ?_ ?_ h
  · show (true && (Nat.ble 11 d || _ || _ || _)) = true
    rw [Nat.ble_eq_true_of_le hd]; rfl
  · obtain ⟨heap, _, _, _, _⟩ := s
    dsimp only at ho
    show (if (heap.get? d).isSome then _ else _) = _
    rw [ho]; rfl
theorem goes_range {P : Pos} (F : Nat → PUnit → Sem (ForInStep PUnit)) (S : Nat → Shared) {len : Nat} (h : ∀ i, i < len → Goes p w (F i ⟨⟩) m P (S i) (.yield ⟨⟩) P (S (i + 1))) :
    ∀ (j i : Nat), i + j = len → Goes p w (forIn (List.range' i j) PUnit.unit F) (m * j) P (S i) ⟨⟩ P (S len)
  | 0, i, e => by
    rw [show i = len by omega]
    exact Goes.done
  | j + 1, i, e => by
    rw [List.range'_succ, List.forIn_cons]
    refine Goes.more (n := m * (j + 1)) (Goes.bind (m := m) (n := m * j) (h i (by omega)) ?_) (by rw [Nat.mul_succ]; omega)
    exact goes_range F S h j (i + 1) (by omega)
end
theorem hash_tree (b : Bool) : ∀ (w : World) (p : Program) (heap : Heap) (gens : Array GenState) (drawn : Drawn) (toks : Nat) (os : OsState) (c : Code) (f : Frame) (B : List Frame) (K : Option Value → Sem PySem.Fin) (H : Value → Sem PySem.Fin) (gd : Bool → Bool) (lv : List Value → List Value) (N : Nat) (q : Pos) (k : Int) (t : Tok) (refuse : Sem Value),
    topRun treeTable p (w.withFollow "special-get-raises" b) 11 (some (.ref 6)) (N + 5) ⟨heap, gens, drawn, toks, os⟩ ⟨(callSpecialIfBoundUnlessNone? (.int k t) ⟨⟨[95, 95, 104, 97, 115, 104, 95, 95]⟩⟩ refuse).wrap K H gd lv, c, q, f :: B⟩ =
    topRun treeTable p (w.withFollow "special-get-raises" b) 11 (some (.ref 6)) N ⟨heap, gens, drawn, toks + 1, os⟩ ⟨K (some (.int (rawHash k) toks)), c, q, f :: B⟩ := by
  cases b <;> (intros; rw [PySem.W.Fast.te16697807410369149715, PySem.W.Fast.te14082659384304107361, PySem.W.Fast.te14364793385576792824]; kernel_rfl)
section
variable {p : Program} {w : World} {q : Pos} {s : Shared}
theorem goes_hash0 {k : Int} {t : Tok} {refuse : Sem Value} : Goes p w (callSpecialIfBoundUnlessNone? (.int k t) (Str.ofString "__hash__") refuse) 5 q s (some (.int (rawHash k) s.toks)) q { s with toks := s.toks + 1 } := by
  obtain ⟨heap, gens, drawn, toks, os⟩ := s
  refine byRow2 "special-get-raises" (P := fun w => Goes p w (callSpecialIfBoundUnlessNone? (.int k t) (Str.ofString "__hash__") refuse) 5 q ⟨heap, gens, drawn, toks, os⟩ (some (.int (rawHash k) toks)) q ⟨heap, gens, drawn, toks + 1, os⟩) ?_ ?_ w
  all_goals
    intro w c f B K H gd lv N r h
    rw [show Str.ofString "__hash__" = ⟨⟨[95, 95, 104, 97, 115, 104, 95, 95]⟩⟩ by decide +kernel, Nat.add_comm, hash_tree]
    exact h
theorem goes_hash {k : Int} {t : Tok} : Goes p w (pyHash (.int k t)) 5 q s (hashInt k) q { s with toks := s.toks + 1 } := by
  have hr := rawHash_range k
  have hs : specialOf (.int k t) (Str.ofString "__hash__") = .pure (some (.builtin "int.__hash__")) := slot_int_hash.lookup
  unfold pyHash pyHashByItsType
  refine (Goes.bind (m := 0) (n := 5) (a := ()) (Goes.of_eq (x := .pure ()) rfl Goes.done) ?_).more (Nat.le_refl _)
  refine (Goes.bind (m := 0) (n := 5) (a := some (.builtin "int.__hash__")) (Goes.of_eq hs Goes.done) ?_).more (Nat.le_refl _)
  refine Goes.of_eq (if_neg (by rw [beq_builtin_none]; exact Bool.false_ne_true)) ?_
  refine (Goes.bind (m := 0) (n := 5) (a := some (.builtin "int.__hash__")) (Goes.of_eq hs Goes.done) ?_).more (Nat.le_refl _)
  refine Goes.of_eq (if_neg Bool.false_ne_true) ?_
  refine (Goes.bind (m := 5) (n := 0) goes_hash0 ?_).more (Nat.le_refl _)
  refine Goes.of_eq (x := .pure (hashInt k)) ?_ Goes.done
  show (if (decide (-(2 : Int) ^ 63 ≤ rawHash k) && decide (rawHash k < 2 ^ 63)) = true then _ else _) = _
  rw [if_pos (by rw [decide_eq_true hr.1, decide_eq_true hr.2]; rfl)]
  rfl
/-- what stands in a dict, by hashes -/
theorem no_places {es : List DictEntry} {h : Int} (hn : ∀ e ∈ es, e.hash ≠ h) : placesWithHash es.toArray.size (fun i => es.toArray[i]?.map (·.hash)) h = [] := by
  unfold placesWithHash
  rw [List.filter_eq_nil_iff]
  intro i hi
  have hlt : i < es.length := by simpa using List.mem_range.mp hi
  simp only [List.getElem?_toArray, List.getElem?_eq_getElem hlt, Option.map_some, beq_iff_eq, Option.some.injEq]
  exact hn _ (List.getElem_mem hlt)
theorem goes_entries {d : Addr} {o : Obj} {es : Array DictEntry} {n : Nat} {part : Option Value} (ho : s.heap.get? d = some o) (hd : o.data = .dict es n) : Goes p w (dictEntries d part) 1 q s es q s := by
  unfold dictEntries
  refine (Goes.bind (m := 1) (n := 0) (Goes.load ho) ?_).more (Nat.le_refl _)
  rw [hd]
  exact Goes.done
theorem goes_epoch {d : Addr} {o : Obj} {es : Array DictEntry} {n : Nat} {part : Option Value} (ho : s.heap.get? d = some o) (hd : o.data = .dict es n) : Goes p w (dictEpoch d part) 1 q s n q s := by
  unfold dictEpoch
  refine (Goes.bind (m := 1) (n := 0) (Goes.load ho) ?_).more (Nat.le_refl _)
  rw [hd]
  exact Goes.done
theorem goes_find {d : Addr} {o : Obj} {es : List DictEntry} {n : Nat} {k h : Int} {t : Tok} (ho : s.heap.get? d = some o) (hd : o.data = .dict es.toArray n) (hn : ∀ e ∈ es, e.hash ≠ h) :
    Goes p w (dictFind d (.int k t) h) 1 q s none q s := by
  unfold dictFind
  refine Goes.holding ?_
  refine (Goes.bind (m := 1) (n := 0) (goes_entries ho hd) ?_).more (Nat.le_refl _)
  dsimp only
  rw [no_places hn]
  exact Goes.of_eq (x := .pure none) rfl Goes.done
theorem dict_push {o : Obj} {es : Array DictEntry} {n : Nat} {f : Array DictEntry → Array DictEntry} (hd : o.data = .dict es n) : (o.mapDictKeys f).data = .dict (f es) (n + 1) := by
  obtain ⟨c, d, dt, sl⟩ := o
  cases hd
  rfl
theorem dict_alive {o : Obj} {es : Array DictEntry} {n : Nat} {f : Array DictEntry → Array DictEntry} (hd : o.data = .dict es n) : (o.mapDictKeys f).isFreed = false := by
  obtain ⟨c, d, dt, sl⟩ := o
  cases hd
  rfl
theorem goes_push {d : Addr} {o : Obj} {es : Array DictEntry} {n : Nat} {f : Array DictEntry → Array DictEntry} {part : Option Value} (ho : s.heap.get? d = some o) (hd : o.data = .dict es n) (h11 : 11 ≤ d) (hz : (f es).size ≤ 1000000) :
    Goes p w (updateDictKeys d f part) 3 q s () q { s with heap := s.heap.update d (Obj.mapDictKeys f) } := by
  have ho' : (s.heap.update d (Obj.mapDictKeys f)).get? d = some (o.mapDictKeys f) := Heap.get?_update_self _ ho (dict_alive hd)
  unfold updateDictKeys
  refine (Goes.bind (m := 1) (n := 2) (Goes.load ho) ?_).more (Nat.le_refl _)
  rw [hd]
  refine (Goes.bind (m := 1) (n := 1) (Goes.update ho h11) ?_).more (Nat.le_refl _)
  unfold lookBehind
  refine (Goes.bind (m := 1) (n := 0) (Goes.load (s := { s with heap := s.heap.update d (Obj.mapDictKeys f) }) ho') ?_).more (Nat.le_refl _)
  rw [dict_push hd]
  have : (Data.dict (f es) (n + 1)).pastItsLine = none := by
    unfold Data.pastItsLine
    rw [sizeLine_eq] at *
    simp only
    rw [if_neg (by omega)]
  rw [this]
  exact Goes.done
theorem goes_set {d : Addr} {o : Obj} {es : List DictEntry} {n : Nat} {k : Int} {t u : Tok} {v : Str} (ho : s.heap.get? d = some o) (hd : o.data = .dict es.toArray n) (h11 : 11 ≤ d) (hn : ∀ e ∈ es, e.hash ≠ hashInt k) (hz : es.length < 1000000) :
    Goes p w (dictSet d (.int k t) (.str v u)) 10 q s () q { s with heap := s.heap.update d (Obj.mapDictKeys (·.push ⟨hashInt k, .int k t, .str v u⟩)), toks := s.toks + 1 } := by
  unfold dictSet
  refine Goes.holding ?_
  refine (Goes.bind (m := 5) (n := 5) goes_hash ?_).more (Nat.le_refl _)
  unfold dictSetHashed
  refine Goes.holding ?_
  refine (Goes.bind (m := 1) (n := 4) (goes_find (s := { s with toks := s.toks + 1 }) ho hd hn) ?_).more (Nat.le_refl _)
  refine (Goes.bind (m := 1) (n := 3) Goes.rule ?_).more (Nat.le_refl _)
  exact goes_push (s := { s with toks := s.toks + 1 }) ho hd h11 (by simp; omega)
theorem goes_put {d : Addr} {o : Obj} {es : List DictEntry} {n : Nat} {k h : Int} {t : Tok} {v : Value} (ho : s.heap.get? d = some o) (hd : o.data = .dict es.toArray n) (h11 : 11 ≤ d) (hn : ∀ e ∈ es, e.hash ≠ h) (hz : es.length < 1000000) :
    Goes p w (dictPut d h (.int k t) v) 4 q s () q { s with heap := s.heap.update d (Obj.mapDictKeys (·.push ⟨h, .int k t, v⟩)) } := by
  unfold dictPut
  refine (Goes.bind (m := 1) (n := 3) (goes_find ho hd hn) ?_).more (Nat.le_refl _)
  exact goes_push ho hd h11 (by simp; omega)
end
noncomputable def HB (base M : List Obj) : Heap := ⟨⟨base ++ M⟩, {}⟩
theorem HB_get {base pre post : List Obj} {es : List DictEntry} {n : Nat} : (HB base (pre ++ dob es n :: post)).get? (base.length + pre.length) = some (dob es n) := by
  unfold Heap.get? HB
  simp only [List.getElem?_toArray]
  rw [List.getElem?_append_right (by omega), Nat.add_sub_cancel_left, List.getElem?_append_right (Nat.le_refl _), Nat.sub_self]
  rfl
theorem HB_push {base M : List Obj} {o : Obj} : (HB base M).push o = HB base (M ++ [o]) := by
  unfold HB Heap.push
  simp
theorem HB_size {base M : List Obj} : (HB base M).objs.size = base.length + M.length := by
  unfold HB; simp
theorem modify_mid {α : Type} (f : α → α) (o : α) (r : List α) : ∀ l : List α, (l ++ o :: r).modify l.length f = l ++ f o :: r
  | [] => rfl
  | a :: l => congrArg (a :: ·) (modify_mid f o r l)
theorem HB_update {base pre post : List Obj} {o : Obj} {f : Obj → Obj} : (HB base (pre ++ o :: post)).update (base.length + pre.length) f = HB base (pre ++ f o :: post) := by
  unfold HB Heap.update
  simp only [Heap.mk.injEq, and_true]
  apply Array.toList_inj.mp
  rw [Array.toList_modify, ← List.append_assoc, ← List.append_assoc, ← List.length_append]
  exact modify_mid f o post (base ++ pre)
theorem dob_push {es : List DictEntry} {n : Nat} {e : DictEntry} : (dob es n).mapDictKeys (·.push e) = dob (es ++ [e]) (n + 1) := by
  unfold dob Obj.mapDictKeys
  simp
noncomputable def pv : Nat → List (Int × Str) → List (Value × Value)
  | _, [] => []
  | t, (k, v) :: r => (.int k t, .str v (t + 1)) :: pv (t + 2) r
noncomputable def kt (k : Int) : Sem Value := mkInt k
noncomputable def vt (P : Pos) (v : Str) : Sem Value := do let x ← mkText v; standAt P; pure x
section
variable {p : Program} {w : World} {q P : Pos} {s : Shared} {base : List Obj} {gens : Array GenState} {drawn : Drawn} {os : OsState}
theorem goes_kt {k : Int} : Goes p w (kt k) 1 q s (.int k s.toks) q { s with toks := s.toks + 1 } := by
  unfold kt mkInt
  refine (Goes.bind (m := 1) (n := 0) Goes.fresh ?_).more (Nat.le_refl _)
  exact Goes.done
theorem goes_vt {v : Str} : Goes p w (vt P v) 2 q s (.str v s.toks) P { s with toks := s.toks + 1 } := by
  unfold vt mkText
  refine (Goes.bind (m := 1) (n := 1) (a := .str v s.toks) (q1 := q) (s1 := { s with toks := s.toks + 1 }) ?_ ?_).more (Nat.le_refl _)
  · refine (Goes.bind (m := 1) (n := 0) Goes.fresh ?_).more (Nat.le_refl _)
    exact Goes.done
  · refine (Goes.bind (m := 1) (n := 0) Goes.at ?_).more (Nat.le_refl _)
    exact Goes.done
/-- one pair more -/
theorem goes_set1 {pre : List Obj} {es : List DictEntry} {n toks : Nat} {k : Int} {t u : Tok} {v : Str} (hb : 11 ≤ base.length) (hk : hashInt k = k) (hn : ∀ e ∈ es, e.hash ≠ k) (hz : es.length < 1000000) :
    Goes p w (dictSet (base.length + pre.length) (.int k t) (.str v u)) 10 q ⟨HB base (pre ++ [dob es n]), gens, drawn, toks, os⟩ () q ⟨HB base (pre ++ [dob (es ++ [⟨k, .int k t, .str v u⟩]) (n + 1)]), gens, drawn, toks + 1, os⟩ := by
  have h := goes_set (p := p) (w := w) (q := q) (s := ⟨HB base (pre ++ [dob es n]), gens, drawn, toks, os⟩) (t := t) (u := u) (v := v) HB_get rfl (Nat.le_trans hb (Nat.le_add_right _ _)) (hk ▸ hn) hz
  dsimp only at h
  rw [HB_update, dob_push, hk] at h
  exact h
theorem goes_long {pre : List Obj} (hb : 11 ≤ base.length) (F : Sem Value × Sem Value → PUnit → Sem (ForInStep PUnit))
    (hF : ∀ k v, F (kt k, vt P v) ⟨⟩ = (kt k >>= fun kv => holding [kv] (vt P v) >>= fun vv => holding [kv, vv] (dictSet (base.length + pre.length) kv vv) >>= fun _ => pure (.yield ⟨⟩))) :
    ∀ (prs : List (Int × Str)) (es : List DictEntry) (n toks : Nat), (∀ x ∈ prs, hashInt x.1 = x.1) → (∀ e ∈ es, ∀ x ∈ prs, e.hash ≠ x.1) → (prs.map (·.1)).Nodup → es.length + prs.length < 1000000 →
      Goes p w (forIn (prs.map fun x => (kt x.1, vt P x.2)) PUnit.unit F) (13 * prs.length) P ⟨HB base (pre ++ [dob es n]), gens, drawn, toks, os⟩ ⟨⟩ P
        ⟨HB base (pre ++ [dob (es ++ entsFrom toks 3 prs) (n + prs.length)]), gens, drawn, toks + 3 * prs.length, os⟩
  | [], es, n, toks, _, _, _, _ => by
    rw [List.map_nil, List.forIn_nil]
    simp only [entsFrom, List.append_nil, List.length_nil, Nat.add_zero, Nat.mul_zero]
    exact Goes.done
  | (k, v) :: prs, es, n, toks, hk, hn, hd, hz => by
    have hd' := List.nodup_cons.mp (by simpa using hd : (k :: prs.map (·.1)).Nodup)
    have ih := goes_long hb F hF prs (es ++ [⟨k, .int k toks, .str v (toks + 1)⟩]) (n + 1) (toks + 3) (fun x hx => hk x (.tail _ hx)) (fun e he x hx => by
      rcases List.mem_append.mp he with he | he
      · exact hn e he x (.tail _ hx)
      · rw [List.mem_singleton.mp he]
        intro e'
        exact hd'.1 (List.mem_map.mpr ⟨x, hx, e'.symm⟩)) hd'.2 (by simp at hz ⊢; omega)
    rw [List.map_cons, List.forIn_cons, hF]
    have e1 : es ++ entsFrom toks 3 ((k, v) :: prs) = es ++ [⟨k, .int k toks, .str v (toks + 1)⟩] ++ entsFrom (toks + 3) 3 prs := by simp [entsFrom]
    rw [e1, show n + ((k, v) :: prs).length = n + 1 + prs.length by simp; omega, show toks + 3 * ((k, v) :: prs).length = toks + 3 + 3 * prs.length by simp; omega]
    refine (Goes.bind (m := 13) (n := 13 * prs.length) (a := .yield ⟨⟩) ?_ ih).more (by simp; omega)
    refine (Goes.bind (m := 1) (n := 12) goes_kt ?_).more (Nat.le_refl _)
    refine (Goes.bind (m := 2) (n := 10) (Goes.holding goes_vt) ?_).more (Nat.le_refl _)
    refine (Goes.bind (m := 10) (n := 0) (Goes.holding (goes_set1 hb (hk _ (.head _)) (fun e he => hn e he _ (.head _)) (by simp at hz; omega))) ?_).more (Nat.le_refl _)
    exact Goes.done
/-- a long run of pairs makes a dict -/
theorem goes_subLong {M : List Obj} {prs : List (Int × Str)} {toks : Nat} (hb : 11 ≤ base.length) (h15 : 15 < prs.length) (hk : ∀ x ∈ prs, hashInt x.1 = x.1) (hd : (prs.map (·.1)).Nodup) (hz : prs.length < 1000000) :
    Goes p w (subDict (prs.map fun x => (kt x.1, vt P x.2))) (2 + 13 * prs.length) P ⟨HB base M, gens, drawn, toks, os⟩ (base.length + M.length) P
      ⟨HB base (M ++ [dob (entsFrom toks 3 prs) prs.length]), gens, drawn, toks + 3 * prs.length, os⟩ := by
  unfold subDict
  refine (Goes.bind (m := 1) (n := 1 + 13 * prs.length) Goes.alloc ?_).more (by omega)
  dsimp only
  rw [HB_push, HB_size]
  refine Goes.more (n := 1 + 13 * prs.length) (Goes.bind (m := 1 + 13 * prs.length) (n := 0) (a := ()) (Goes.holding ?_) Goes.done) (by omega)
  rw [if_neg (by rw [List.length_map]; omega)]
  refine (Goes.bind (m := 1) (n := 13 * prs.length) Goes.rule ?_).more (by omega)
  refine (Goes.bind (m := 13 * prs.length) (n := 0) (goes_long (pre := M) hb _ (fun k v => rfl) prs [] 0 toks hk (fun e he => nomatch he) hd (by simpa using hz)) ?_).more (by omega)
  rw [List.nil_append, Nat.zero_add]
  exact Goes.done
/-- the values of pairs, two tokens each -/
theorem goes_pairs : ∀ (prs : List (Int × Str)) (toks : Nat) (h : Heap),
    Goes p w (evalPairs (prs.map fun x => (kt x.1, vt P x.2))) (3 * prs.length) P ⟨h, gens, drawn, toks, os⟩ (pv toks prs) P ⟨h, gens, drawn, toks + 2 * prs.length, os⟩
  | [], toks, h => Goes.done
  | (k, v) :: prs, toks, h => by
    have G := goes_pairs prs (toks + 2) h
    rw [List.map_cons]
    unfold evalPairs
    rw [show toks + 2 * ((k, v) :: prs).length = toks + 2 + 2 * prs.length by simp; omega]
    refine Goes.more (n := 3 * ((k, v) :: prs).length) (Goes.bind (m := 1) (n := 2 + 3 * prs.length) goes_kt ?_) (by simp; omega)
    refine Goes.more (n := 2 + 3 * prs.length) (Goes.bind (m := 2) (n := 3 * prs.length) (Goes.holding goes_vt) ?_) (by omega)
    refine Goes.more (n := 3 * prs.length) (Goes.bind (m := 3 * prs.length) (n := 0) (Goes.holding G) ?_) (by omega)
    exact Goes.done
theorem goes_sets {pre : List Obj} (hb : 11 ≤ base.length) (F : Value × Value → PUnit → Sem (ForInStep PUnit))
    (hF : ∀ k v, F (k, v) ⟨⟩ = (dictSet (base.length + pre.length) k v >>= fun _ => pure (.yield ⟨⟩))) :
    ∀ (prs : List (Int × Str)) (t : Nat) (es : List DictEntry) (n toks : Nat), (∀ x ∈ prs, hashInt x.1 = x.1) → (∀ e ∈ es, ∀ x ∈ prs, e.hash ≠ x.1) → (prs.map (·.1)).Nodup → es.length + prs.length < 1000000 →
      Goes p w (forIn (pv t prs) PUnit.unit F) (10 * prs.length) P ⟨HB base (pre ++ [dob es n]), gens, drawn, toks, os⟩ ⟨⟩ P
        ⟨HB base (pre ++ [dob (es ++ entsFrom t 2 prs) (n + prs.length)]), gens, drawn, toks + prs.length, os⟩
  | [], t, es, n, toks, _, _, _, _ => by
    unfold pv
    rw [List.forIn_nil]
    simp only [entsFrom, List.append_nil, List.length_nil, Nat.add_zero, Nat.mul_zero]
    exact Goes.done
  | (k, v) :: prs, t, es, n, toks, hk, hn, hd, hz => by
    have hd' := List.nodup_cons.mp (by simpa using hd : (k :: prs.map (·.1)).Nodup)
    have ih := goes_sets hb F hF prs (t + 2) (es ++ [⟨k, .int k t, .str v (t + 1)⟩]) (n + 1) (toks + 1) (fun x hx => hk x (.tail _ hx)) (fun e he x hx => by
      rcases List.mem_append.mp he with he | he
      · exact hn e he x (.tail _ hx)
      · rw [List.mem_singleton.mp he]
        intro e'
        exact hd'.1 (List.mem_map.mpr ⟨x, hx, e'.symm⟩)) hd'.2 (by simp at hz ⊢; omega)
    unfold pv
    rw [List.forIn_cons, hF]
    have e1 : es ++ entsFrom t 2 ((k, v) :: prs) = es ++ [⟨k, .int k t, .str v (t + 1)⟩] ++ entsFrom (t + 2) 2 prs := by simp [entsFrom]
    rw [e1, show n + ((k, v) :: prs).length = n + 1 + prs.length by simp; omega, show toks + ((k, v) :: prs).length = toks + 1 + prs.length by simp; omega]
    refine Goes.more (n := 10 * ((k, v) :: prs).length) (Goes.bind (m := 10) (n := 10 * prs.length) (a := .yield ⟨⟩) (q1 := P) (s1 := ⟨HB base (pre ++ [dob (es ++ [⟨k, .int k t, .str v (t + 1)⟩]) (n + 1)]), gens, drawn, toks + 1, os⟩) ?_ ?_) (by simp; omega)
    rotate_left
    · exact ih
    refine Goes.more (n := 10) (Goes.bind (m := 10) (n := 0) (goes_set1 hb (hk _ (.head _)) (fun e he => hn e he _ (.head _)) (by simp at hz; omega)) ?_) (Nat.le_refl _)
    exact Goes.done
/-- a short run of pairs makes a dict -/
theorem goes_subShort {M : List Obj} {prs : List (Int × Str)} {toks : Nat} (hb : 11 ≤ base.length) (h15 : prs.length ≤ 15) (hk : ∀ x ∈ prs, hashInt x.1 = x.1) (hd : (prs.map (·.1)).Nodup) :
    Goes p w (subDict (prs.map fun x => (kt x.1, vt P x.2))) (1 + 13 * prs.length) P ⟨HB base M, gens, drawn, toks, os⟩ (base.length + M.length) P
      ⟨HB base (M ++ [dob (entsFrom toks 2 prs) prs.length]), gens, drawn, toks + 3 * prs.length, os⟩ := by
  unfold subDict
  refine Goes.more (n := 1 + 13 * prs.length) (Goes.bind (m := 1) (n := 13 * prs.length) Goes.alloc ?_) (by omega)
  dsimp only
  rw [HB_push, HB_size]
  refine Goes.more (n := 13 * prs.length) (Goes.bind (m := 13 * prs.length) (n := 0) (a := ()) (Goes.holding ?_) Goes.done) (by omega)
  rw [if_pos (by rw [List.length_map]; omega)]
  refine Goes.more (n := 13 * prs.length) (Goes.bind (m := 3 * prs.length) (n := 10 * prs.length) (goes_pairs prs toks _) ?_) (by omega)
  refine Goes.holding ?_
  rw [show toks + 3 * prs.length = toks + 2 * prs.length + prs.length by omega]
  refine Goes.more (n := 10 * prs.length) (Goes.bind (m := 10 * prs.length) (n := 0) (goes_sets (pre := M) hb _ (fun k v => rfl) prs toks [] 0 (toks + 2 * prs.length) hk (fun e he => nomatch he) hd (by simp; omega)) ?_) (by omega)
  rw [List.nil_append, Nat.zero_add]
  exact Goes.done
/-- one dict's entries behind another's -/
theorem goes_merge {es1 es2 : List DictEntry} {n1 n2 toks : Nat} {mid : List Obj} (hb : 11 ≤ base.length) (h1 : es1 ≠ []) (hi : ∀ e ∈ es2, ∃ k t, e.key = .int k t) (hn : ∀ e ∈ es1, ∀ e' ∈ es2, e.hash ≠ e'.hash) (hd : (es2.map (·.hash)).Nodup) (hz : es1.length + es2.length < 1000000) :
    Goes p w (mergeMapping base.length (.ref (base.length + (mid.length + 1))) false) (5 + 6 * es2.length) P ⟨HB base (dob es1 n1 :: (mid ++ [dob es2 n2])), gens, drawn, toks, os⟩ () P
      ⟨HB base (dob (es1 ++ es2) (n1 + es2.length) :: (mid ++ [dob es2 n2])), gens, drawn, toks, os⟩ := by
  have gm : ∀ es n, (HB base (dob es n :: (mid ++ [dob es2 n2]))).get? base.length = some (dob es n) := fun es n => HB_get (pre := [])
  have gs : ∀ es n, (HB base (dob es n :: (mid ++ [dob es2 n2]))).get? (base.length + (mid.length + 1)) = some (dob es2 n2) := fun es n => HB_get (pre := dob es n :: mid) (post := [])
  have hsub : isSubtype (.type "dict") (.type "dict") = .pure true := by rw [isSubtype_type]; kernel_rfl
  have hit : typeLookup (.type "dict") (Str.ofString "__iter__") = .pure (some (.builtin "dict.__iter__")) := F.slot_dict_iter.lookup
  unfold mergeMapping
  refine Goes.more (n := 5 + 6 * es2.length) (Goes.stay (m := 1) (n := 4 + 6 * es2.length) (a := true) ?_ ?_) (by omega)
  · unfold isInstance
    refine Goes.more (n := 1) (Goes.stay (m := 1) (n := 0) (a := .type "dict") ?_ (Goes.of_eq hsub Goes.done)) (Nat.le_refl _)
    unfold typeOf
    refine Goes.more (n := 1) (Goes.bind (m := 1) (n := 0) (Goes.load (gs _ _)) ?_) (Nat.le_refl _)
    exact Goes.done
  refine Goes.of_eq (if_pos rfl) ?_
  refine Goes.more (n := 4 + 6 * es2.length) (Goes.stay (m := 1) (n := 3 + 6 * es2.length) (a := some (.builtin "dict.__iter__")) ?_ ?_) (by omega)
  · unfold specialOf
    refine Goes.more (n := 1) (Goes.stay (m := 1) (n := 0) (a := .type "dict") ?_ (Goes.of_eq hit Goes.done)) (Nat.le_refl _)
    unfold typeOf
    refine Goes.more (n := 1) (Goes.bind (m := 1) (n := 0) (Goes.load (gs _ _)) ?_) (Nat.le_refl _)
    exact Goes.done
  refine Goes.more (n := 3 + 6 * es2.length) (Goes.bind (m := 0) (n := 3 + 6 * es2.length) (a := true) (Goes.of_eq (x := .pure true) (congrArg Sem.pure (beq_self_eq_true _)) Goes.done) ?_) (by omega)
  dsimp only
  have hne : (base.length + (mid.length + 1) == sysModules) = false := by
    rw [beq_eq_false_iff_ne]
    show base.length + (mid.length + 1) ≠ 1
    omega
  rw [hne]
  refine Goes.of_eq (if_neg Bool.false_ne_true) ?_
  refine Goes.more (n := 3 + 6 * es2.length) (Goes.bind (m := 1) (n := 2 + 6 * es2.length) (goes_entries (gm _ _) rfl) ?_) (by omega)
  refine Goes.of_eq (if_neg (by simp [h1])) ?_
  refine Goes.more (n := 2 + 6 * es2.length) (Goes.bind (m := 1) (n := 1 + 6 * es2.length) (goes_entries (gs _ _) rfl) ?_) (by omega)
  refine Goes.more (n := 1 + 6 * es2.length) (Goes.bind (m := 1) (n := 6 * es2.length) (goes_epoch (gs _ _) rfl) ?_) (by omega)
  rw [List.size_toArray, List.range_eq_range']
  refine Goes.more (n := 6 * es2.length) (Goes.bind (m := 6 * es2.length) (n := 0) (a := ⟨⟩) (Goes.of_start (by simp) (goes_range (m := 6) _ (fun i => ⟨HB base (dob (es1 ++ es2.take i) (n1 + i) :: (mid ++ [dob es2 n2])), gens, drawn, toks, os⟩) (len := es2.length) ?_ es2.length 0 (by omega))) ?_) (by omega)
  · intro i hlt
    obtain ⟨k, t, hkey⟩ := hi es2[i] (List.getElem_mem hlt)
    rw [List.take_add_one, List.getElem?_eq_getElem hlt, Option.toList_some, ← List.append_assoc, ← Nat.add_assoc]
    refine Goes.more (n := 6) (Goes.stay (m := 1) (n := 5) (goes_entries (gs _ _) rfl) ?_) (by omega)
    simp only [List.getElem?_toArray, List.getElem?_eq_getElem hlt]
    refine Goes.more (n := 5) (Goes.bind (m := 4) (n := 1) (a := ()) (q1 := P) (s1 := ⟨HB base (dob (es1 ++ es2.take i ++ [es2[i]]) (n1 + i + 1) :: (mid ++ [dob es2 n2])), gens, drawn, toks, os⟩) (Goes.holding ?_) ?_) (by omega)
    · have hp := goes_put (p := p) (w := w) (q := P) (s := ⟨HB base (dob (es1 ++ es2.take i) (n1 + i) :: (mid ++ [dob es2 n2])), gens, drawn, toks, os⟩) (d := base.length) (h := es2[i].hash) (k := k) (t := t) (v := es2[i].val) (gm _ _) rfl hb (fun e he => by
        rcases List.mem_append.mp he with he | he
        · exact hn e he _ (List.getElem_mem hlt)
        · obtain ⟨x, hx, rfl⟩ := List.mem_take_iff_getElem.mp he
          intro e
          exact List.pairwise_iff_getElem.mp hd x i (by simp; omega) (by simpa using hlt) (by omega) (by simpa using e)) (by simp; omega)
      rw [← hkey] at hp
      have hu := HB_update (base := base) (pre := []) (post := mid ++ [dob es2 n2]) (o := dob (es1 ++ es2.take i) (n1 + i)) (f := Obj.mapDictKeys (·.push ⟨es2[i].hash, es2[i].key, es2[i].val⟩))
      rw [dob_push] at hu
      simp only [List.nil_append, List.length_nil, Nat.add_zero] at hu
      rw [hu] at hp
      exact hp
    · refine Goes.more (n := 1) (Goes.stay (m := 1) (n := 0) (goes_epoch (gs _ _) rfl) ?_) (by omega)
      refine Goes.of_eq (if_neg (by simp)) Goes.done
  · rw [List.take_length]
    exact Goes.done
end
theorem ents_hash : ∀ (t d : Nat) (c : List (Int × Str)), (entsFrom t d c).map (·.hash) = c.map (·.1)
  | _, _, [] => rfl
  | t, d, (k, v) :: r => by simp [entsFrom, ents_hash (t + d) d r]
theorem ents_len : ∀ (t d : Nat) (c : List (Int × Str)), (entsFrom t d c).length = c.length
  | _, _, [] => rfl
  | t, d, (k, v) :: r => by simp [entsFrom, ents_len (t + d) d r]
theorem ents_key : ∀ (t d : Nat) (c : List (Int × Str)), ∀ e ∈ entsFrom t d c, ∃ k t, e.key = .int k t
  | _, _, [], e, h => nomatch h
  | t, d, (k, v) :: r, e, h => by
    unfold entsFrom at h
    rcases List.mem_cons.mp h with rfl | h
    · exact ⟨_, _, rfl⟩
    · exact ents_key (t + d) d r e h
noncomputable def pt (P : Pos) (x : Int × Str) : Sem Value × Sem Value := (kt x.1, vt P x.2)
noncomputable def it (P : Pos) (x : Int × Str) : Option (Sem Value) × Sem Value := (some (kt x.1), vt P x.2)
noncomputable abbrev Run1 := Sem Value × Sem Value
theorem bind_assocS {α β γ : Type} (x : Sem α) (f : α → Sem β) (g : β → Sem γ) : (x >>= f) >>= g = x >>= fun a => f a >>= g := by
  rw [Sem.bind_eq_wrap' x f, Sem.bind_eq_wrap' _ g, Sem.wrap_wrap, Sem.bind_eq_wrap' x]
  refine Sem.wrap_congr x _ _ (fun a => ?_) fun e => rfl
  exact (Sem.bind_eq_wrap' (f a) g).symm
section
variable {P : Pos} (F : Option (Sem Value) × Sem Value → Option Addr × List Run1 → Sem (ForInStep (Option Addr × List Run1))) (fl : List Run1 → Option Addr → Sem (Option Addr))
theorem disp_run (hF : ∀ k v m run, F (some k, v) (m, run) = if ((run ++ [(k, v)]).length == 17) = true then (fl (run ++ [(k, v)]) m >>= fun m' => pure (.yield (m', []))) else pure (.yield (m, run ++ [(k, v)]))) :
    ∀ (c : List (Int × Str)) (run : List Run1) (m : Option Addr) (rest : List (Option (Sem Value) × Sem Value)), c ≠ [] → run.length + c.length = 17 →
      forIn (c.map (it P) ++ rest) (m, run) F = (fl (run ++ c.map (pt P)) m >>= fun m' => forIn rest (m', []) F)
  | [x], run, m, rest, _, hl => by
    rw [List.map_cons, List.map_nil, List.cons_append, List.nil_append, List.forIn_cons]
    show (F (some (kt x.1), vt P x.2) (m, run) >>= _) = _
    rw [hF, if_pos (by simp at hl ⊢; omega), bind_assocS]
    rfl
  | x :: y :: c, run, m, rest, _, hl => by
    rw [List.map_cons, List.cons_append, List.forIn_cons]
    show (F (some (kt x.1), vt P x.2) (m, run) >>= _) = _
    rw [hF, if_neg (by simp at hl ⊢; omega)]
    show forIn ((y :: c).map (it P) ++ rest) (m, run ++ [(kt x.1, vt P x.2)]) F = _
    rw [disp_run hF (y :: c) _ m rest (by simp) (by simp at hl ⊢; omega)]
    simp [pt]
theorem disp_end (hF : ∀ k v m run, F (some k, v) (m, run) = if ((run ++ [(k, v)]).length == 17) = true then (fl (run ++ [(k, v)]) m >>= fun m' => pure (.yield (m', []))) else pure (.yield (m, run ++ [(k, v)]))) :
    ∀ (c : List (Int × Str)) (run : List Run1) (m : Option Addr), run.length + c.length < 17 → forIn (c.map (it P)) (m, run) F = Sem.pure (m, run ++ c.map (pt P))
  | [], run, m, _ => by
    rw [List.map_nil, List.forIn_nil, List.map_nil, List.append_nil]
    rfl
  | x :: c, run, m, hl => by
    rw [List.map_cons, List.forIn_cons]
    show (F (some (kt x.1), vt P x.2) (m, run) >>= _) = _
    rw [hF, if_neg (by simp at hl ⊢; omega)]
    show forIn (c.map (it P)) (m, run ++ [(kt x.1, vt P x.2)]) F = _
    rw [disp_end hF c _ m (by simp at hl ⊢; omega)]
    simp [pt]
end
section
variable {p : Program} {w : World} {P : Pos} {base : List Obj} {gens : Array GenState} {drawn : Drawn} {os : OsState}
/-- a run of pairs put behind what the main dict holds -/
theorem goes_flush {c : List (Int × Str)} {es : List DictEntry} {n toks d : Nat} {subs : List Obj} {x : Sem Addr} {let_go : Value → Value → Sem Unit} {m : Nat} (hb : 11 ≤ base.length) (h1 : es ≠ [])
    (hx : Goes p w x m P ⟨HB base (dob es n :: subs), gens, drawn, toks, os⟩ (base.length + (subs.length + 1)) P ⟨HB base (dob es n :: (subs ++ [dob (entsFrom toks d c) c.length])), gens, drawn, toks + 3 * c.length, os⟩)
    (hd : (es.map (·.hash) ++ c.map (·.1)).Nodup) (hz : es.length + c.length < 1000000) :
    Goes p w (do
        let sub ← holding [.ref base.length] x
        (holding [.ref base.length, .ref sub] (mergeMapping base.length (.ref sub) false)).onRaise (let_go (.ref sub))
        pure (some base.length)) (m + (5 + 6 * c.length)) P ⟨HB base (dob es n :: subs), gens, drawn, toks, os⟩ (some base.length) P
      ⟨HB base (dob (es ++ entsFrom toks d c) (n + c.length) :: (subs ++ [dob (entsFrom toks d c) c.length])), gens, drawn, toks + 3 * c.length, os⟩ := by
  have hd' := List.nodup_append.mp hd
  refine Goes.bind (Goes.holding hx) ?_
  have hm := goes_merge (p := p) (w := w) (P := P) (base := base) (gens := gens) (drawn := drawn) (os := os) (es1 := es) (es2 := entsFrom toks d c) (n1 := n) (n2 := c.length) (toks := toks + 3 * c.length) (mid := subs) hb h1 (ents_key toks d c) (fun e he e' he' hh => by
    have a := List.mem_map_of_mem (f := (·.hash)) he
    have b := List.mem_map_of_mem (f := (·.hash)) he'
    rw [ents_hash] at b
    exact hd'.2.2 _ a _ b hh) (by rw [ents_hash]; exact hd'.2.1) (by rw [ents_len]; exact hz)
  rw [ents_len] at hm
  refine Goes.more (n := 5 + 6 * c.length) (Goes.bind (m := 5 + 6 * c.length) (n := 0) (Goes.onRaise (Goes.holding hm)) ?_) (by omega)
  exact Goes.done
theorem goes_chunks (F : Option (Sem Value) × Sem Value → Option Addr × List Run1 → Sem (ForInStep (Option Addr × List Run1))) (fl : List Run1 → Option Addr → Sem (Option Addr)) (lg : Value → Sem Unit)
    (hF : ∀ k v m run, F (some k, v) (m, run) = if ((run ++ [(k, v)]).length == 17) = true then (fl (run ++ [(k, v)]) m >>= fun m' => pure (.yield (m', []))) else pure (.yield (m, run ++ [(k, v)])))
    (hfl : ∀ x run, fl (x :: run) (some base.length) = (do
        let sub ← holding [.ref base.length] (subDict (x :: run))
        (holding [.ref base.length, .ref sub] (mergeMapping base.length (.ref sub) false)).onRaise lg
        pure (some base.length)))
    (hb : 11 ≤ base.length) (last : List (Int × Str)) (hl : last.length < 17) :
    ∀ (cs : List (List (Int × Str))) (es : List DictEntry) (n toks : Nat) (subs : List Obj), es ≠ [] → (∀ c ∈ cs, c.length = 17) → (∀ c ∈ cs, ∀ x ∈ c, hashInt x.1 = x.1) → (es.map (·.hash) ++ cs.flatten.map (·.1)).Nodup → es.length + cs.flatten.length < 1000000 →
      Goes p w (forIn (cs.flatten.map (it P) ++ last.map (it P)) (some base.length, []) F) (330 * cs.length) P ⟨HB base (dob es n :: subs), gens, drawn, toks, os⟩ (some base.length, last.map (pt P)) P
        ⟨HB base (dob (es ++ entsOf toks cs) (n + 17 * cs.length) :: (subs ++ subsOf toks cs)), gens, drawn, toks + 51 * cs.length, os⟩
  | [], es, n, toks, subs, _, _, _, _, _ => by
    rw [List.flatten_nil, List.map_nil, List.nil_append, disp_end F fl hF last [] (some base.length) (by simpa using hl)]
    simp only [entsOf, subsOf, List.append_nil, List.length_nil, Nat.mul_zero, Nat.add_zero, List.nil_append]
    exact Goes.done
  | c :: cs, es, n, toks, subs, h1, h17, hk, hd, hz => by
    have hc17 := h17 c (.head _)
    rw [List.flatten_cons, List.map_append, ← List.append_assoc] at hd
    rw [List.flatten_cons, List.length_append] at hz
    have hdc := (List.nodup_append.mp hd).1
    obtain ⟨x, r, hxr⟩ : ∃ x r, c = x :: r := by
      cases c with
      | nil => simp at hc17
      | cons x r => exact ⟨x, r, rfl⟩
    have hsub := goes_subLong (p := p) (w := w) (P := P) (base := base) (gens := gens) (drawn := drawn) (os := os) (M := dob es n :: subs) (prs := c) (toks := toks) hb (by omega) (hk c (.head _)) (List.nodup_append.mp hdc).2.1 (by omega)
    have hfs := goes_flush (p := p) (w := w) (P := P) (base := base) (gens := gens) (drawn := drawn) (os := os) (c := c) (es := es) (n := n) (toks := toks) (d := 3) (subs := subs) (let_go := fun _ => lg) hb h1 hsub hdc (by omega)
    have ih := goes_chunks F fl lg hF hfl hb last hl cs (es ++ entsFrom toks 3 c) (n + c.length) (toks + 3 * c.length) (subs ++ [dob (entsFrom toks 3 c) c.length]) (by simp [h1]) (fun c' h' => h17 c' (.tail _ h')) (fun c' h' => hk c' (.tail _ h'))
      (by rw [List.map_append, ents_hash]; exact hd) (by rw [List.length_append, ents_len]; omega)
    rw [List.flatten_cons, List.map_append, List.append_assoc, disp_run F fl hF c [] (some base.length) _ (by rw [hxr]; simp) (by simpa using hc17), List.nil_append]
    have efl : fl (c.map (pt P)) (some base.length) = (do
        let sub ← holding [.ref base.length] (subDict (c.map fun x => (kt x.1, vt P x.2)))
        (holding [.ref base.length, .ref sub] (mergeMapping base.length (.ref sub) false)).onRaise lg
        pure (some base.length)) := by rw [hxr]; exact hfl _ _
    rw [efl]
    have e1 : es ++ entsOf toks (c :: cs) = es ++ entsFrom toks 3 c ++ entsOf (toks + 51) cs := by simp [entsOf]
    have e2 : subs ++ subsOf toks (c :: cs) = subs ++ [dob (entsFrom toks 3 c) 17] ++ subsOf (toks + 51) cs := by simp [subsOf]
    rw [e1, e2, show n + 17 * (c :: cs).length = n + 17 + 17 * cs.length by simp; omega, show toks + 51 * (c :: cs).length = toks + 51 + 51 * cs.length by simp; omega]
    rw [hc17] at hfs ih
    exact Goes.more (n := 330 * (c :: cs).length) (Goes.bind hfs ih) (by simp; omega)
theorem goes_display {c0 last : List (Int × Str)} {cs : List (List (Int × Str))} {toks : Nat} (hb : 11 ≤ base.length) (h0 : c0.length = 17) (h17 : ∀ c ∈ cs, c.length = 17) (hl0 : last ≠ []) (hl : last.length ≤ 15)
    (hk : ∀ x ∈ c0 ++ (cs.flatten ++ last), hashInt x.1 = x.1) (hd : ((c0 ++ (cs.flatten ++ last)).map (·.1)).Nodup) (hz : (c0 ++ (cs.flatten ++ last)).length < 1000000) :
    Goes p w (dictDisplay ((c0 ++ (cs.flatten ++ last)).map (it P))) (600 + 330 * cs.length) P ⟨HB base [], gens, drawn, toks, os⟩ (.ref base.length) P
      ⟨HB base (dob (entsFrom toks 3 c0 ++ entsOf (toks + 51) cs ++ entsFrom (toks + 51 + 51 * cs.length) 2 last) (17 + 17 * cs.length + last.length) :: (subsOf (toks + 51) cs ++ [dob (entsFrom (toks + 51 + 51 * cs.length) 2 last) last.length])),
        gens, drawn, toks + 51 + 51 * cs.length + 3 * last.length, os⟩ := by
  have hz' : c0.length + (cs.flatten.length + last.length) < 1000000 := by simpa using hz
  have hd0 := List.nodup_append.mp (by simpa [List.map_append] using hd : (c0.map (·.1) ++ (cs.flatten ++ last).map (·.1)).Nodup)
  obtain ⟨x0, r0, hc0⟩ : ∃ x r, c0 = x :: r := by
    cases c0 with
    | nil => simp at h0
    | cons x r => exact ⟨x, r, rfl⟩
  obtain ⟨xl, rl, hcl⟩ : ∃ x r, last = x :: r := by
    cases last with
    | nil => exact absurd rfl hl0
    | cons x r => exact ⟨x, r, rfl⟩
  let fl : List Run1 → Option Addr → Sem (Option Addr) := fun run main => if run.isEmpty = true then pure main else match main with
    | none => subDict run >>= fun d => pure (some d)
    | some d => holding [.ref d] (subDict run) >>= fun sub =>
      (holding [.ref d, .ref sub] (mergeMapping d (.ref sub) false)).onRaise (fun x => do let _ ← holding [.ref d, x] (runValue (.builtin "proto.let_go" {}))) >>= fun _ => pure (some d)
  have hfl : ∀ x run, fl (x :: run) (some base.length) = (do
        let sub ← holding [.ref base.length] (subDict (x :: run))
        (holding [.ref base.length, .ref sub] (mergeMapping base.length (.ref sub) false)).onRaise (fun x => do let _ ← holding [.ref base.length, x] (runValue (.builtin "proto.let_go" {})))
        pure (some base.length)) := fun x run => rfl
  have hfl0 : ∀ x run, fl (x :: run) none = (subDict (x :: run) >>= fun d => pure (some d)) := fun x run => rfl
  unfold dictDisplay
  dsimp only
  rw [List.map_append, List.map_append]
  refine Goes.more (n := 600 + 330 * cs.length) (Goes.bind (m := 223 + 330 * cs.length) (n := 377) (a := (some base.length, last.map (pt P))) (q1 := P)
    (s1 := ⟨HB base (dob (entsFrom toks 3 c0 ++ entsOf (toks + 51) cs) (17 + 17 * cs.length) :: ([] ++ subsOf (toks + 51) cs)), gens, drawn, toks + 51 + 51 * cs.length, os⟩) ?_ ?_) (by omega)
  · rw [disp_run (P := P) _ fl (fun k v m run => rfl) c0 [] none _ (by rw [hc0]; simp) (by simpa using h0), List.nil_append]
    have e0 : fl (c0.map (pt P)) none = (subDict (c0.map fun x => (kt x.1, vt P x.2)) >>= fun d => pure (some d)) := by rw [hc0]; exact hfl0 _ _
    rw [e0]
    have hsub := goes_subLong (p := p) (w := w) (P := P) (base := base) (gens := gens) (drawn := drawn) (os := os) (M := []) (prs := c0) (toks := toks) hb (by omega) (fun x hx => hk x (List.mem_append_left _ hx)) hd0.1 (by omega)
    rw [h0] at hsub
    have hd1 : ((entsFrom toks 3 c0).map (·.hash) ++ cs.flatten.map (·.1)).Nodup := by
      rw [ents_hash]
      have := hd
      rw [List.map_append, List.map_append, ← List.append_assoc] at this
      exact (List.nodup_append.mp this).1
    have hch := fun F hF => goes_chunks (p := p) (w := w) (P := P) (base := base) (gens := gens) (drawn := drawn) (os := os) F fl _ hF hfl hb last (by omega) cs (entsFrom toks 3 c0) 17 (toks + 51) [] (by rw [hc0]; simp [entsFrom])
      h17 (fun c hc x hx => hk x (List.mem_append_right _ (List.mem_append_left _ (List.mem_flatten.mpr ⟨c, hc, hx⟩)))) hd1 (by rw [ents_len]; omega)
    refine Goes.more (n := 223 + 330 * cs.length) (Goes.bind (m := 223) (n := 330 * cs.length) (a := some base.length) (q1 := P) (s1 := ⟨HB base [dob (entsFrom toks 3 c0) 17], gens, drawn, toks + 51, os⟩) ?_ (hch _ (fun k v m run => rfl))) (by omega)
    refine Goes.more (n := 223) (Goes.bind (m := 223) (n := 0) (Goes.more hsub (by omega)) ?_) (by omega)
    exact Goes.done
  · dsimp only
    have hsub := goes_subShort (p := p) (w := w) (P := P) (base := base) (gens := gens) (drawn := drawn) (os := os) (M := dob (entsFrom toks 3 c0 ++ entsOf (toks + 51) cs) (17 + 17 * cs.length) :: ([] ++ subsOf (toks + 51) cs)) (prs := last) (toks := toks + 51 + 51 * cs.length) hb hl
      (fun x hx => hk x (List.mem_append_right _ (List.mem_append_right _ hx))) (by
        have := hd0.2.1
        rw [List.map_append] at this
        exact (List.nodup_append.mp this).2.1)
    have hes : ∀ (t : Nat) (cs : List (List (Int × Str))), (entsOf t cs).map (·.hash) = cs.flatten.map (·.1) := by
      intro t cs
      induction cs generalizing t with
      | nil => rfl
      | cons c cs ih => simp [entsOf, ents_hash, ih]
    have hesl : (entsOf (toks + 51) cs).length = cs.flatten.length := by
      have := congrArg List.length (hes (toks + 51) cs)
      rwa [List.length_map, List.length_map] at this
    have hfs := goes_flush (p := p) (w := w) (P := P) (base := base) (gens := gens) (drawn := drawn) (os := os) (c := last) (es := entsFrom toks 3 c0 ++ entsOf (toks + 51) cs) (n := 17 + 17 * cs.length) (toks := toks + 51 + 51 * cs.length) (d := 2) (subs := [] ++ subsOf (toks + 51) cs)
      (let_go := fun _ x => do let _ ← holding [.ref base.length, x] (runValue (.builtin "proto.let_go" {}))) hb (by rw [hc0]; simp [entsFrom]) hsub (by
        rw [List.map_append, ents_hash, hes]
        have := hd
        rw [List.map_append, List.map_append, ← List.append_assoc] at this
        exact this) (by rw [List.length_append, ents_len, hesl]; omega)
    have efl : fl (last.map (pt P)) (some base.length) = (do
        let sub ← holding [.ref base.length] (subDict (last.map fun x => (kt x.1, vt P x.2)))
        (holding [.ref base.length, .ref sub] (mergeMapping base.length (.ref sub) false)).onRaise (fun x => do let _ ← holding [.ref base.length, x] (runValue (.builtin "proto.let_go" {})))
        pure (some base.length)) := by rw [hcl]; exact hfl _ _
    show Goes p w (fl (last.map (pt P)) (some base.length) >>= _) _ _ _ _ _ _
    rw [efl]
    refine Goes.more (n := 377) (Goes.bind (n := 0) hfs ?_) (by omega)
    rw [List.nil_append]
    exact Goes.done
end
noncomputable def isK : Option Expr → Bool
  | some (.Constant (.int _) _ _) => true
  | _ => false
noncomputable def isV : Expr → Bool
  | .Constant (.str _) _ _ => true
  | _ => false
theorem isK_ex {k : Option Expr} (h : isK k = true) : ∃ i a b, k = some (.Constant (.int i) a b) := by
  unfold isK at h
  split at h
  · exact ⟨_, _, _, rfl⟩
  · cases h
theorem isV_ex {v : Expr} (h : isV v = true) : ∃ s a b, v = .Constant (.str s) a b := by
  unfold isV at h
  split at h
  · exact ⟨_, _, _, rfl⟩
  · cases h
theorem b3_items (P : Pos) (env : Env) : ∀ (ks : List (Option Expr)) (vs : List Expr), ks.all isK = true → vs.all isV = true →
    (evalEachOpt ks env).zip ((evalEach vs env).map fun v => do let x ← v; standAt P; pure x) = ((ks.map b3k).zip (vs.map b3v)).map (it P)
  | [], _, _, _ => rfl
  | _ :: _, [], _, _ => by
    unfold evalEach
    rw [List.map_nil, List.zip_nil_right, List.map_nil, List.zip_nil_right]
    rfl
  | k :: ks, v :: vs, hk, hv => by
    rw [List.all_cons, Bool.and_eq_true] at hk hv
    have ih := b3_items P env ks vs hk.2 hv.2
    unfold evalEachOpt evalEach
    rw [List.map_cons, List.zip_cons_cons, List.map_cons, List.map_cons, List.zip_cons_cons, List.map_cons, ih]
    congr 1
    obtain ⟨i, a, b, rfl⟩ := isK_ex hk.1
    obtain ⟨s, c, d, rfl⟩ := isV_ex hv.1
    rfl
noncomputable def incr : List Int → Bool
  | a :: b :: l => decide (a < b) && incr (b :: l)
  | _ => true
theorem incr_lt : ∀ (l : List Int) (a : Int), incr (a :: l) = true → ∀ x ∈ l, a < x
  | [], _, _, x, hx => nomatch hx
  | b :: l, a, h, x, hx => by
    rw [incr, Bool.and_eq_true, decide_eq_true_eq] at h
    rcases List.mem_cons.mp hx with rfl | hx
    · exact h.1
    · exact Int.lt_trans h.1 (incr_lt l b h.2 x hx)
theorem incr_tail : ∀ (l : List Int) (a : Int), incr (a :: l) = true → incr l = true
  | [], _, _ => rfl
  | b :: l, a, h => by
    rw [incr, Bool.and_eq_true] at h
    exact h.2
theorem incr_nodup : ∀ l : List Int, incr l = true → l.Nodup
  | [], _ => List.nodup_nil
  | a :: l, h => List.nodup_cons.mpr ⟨fun hx => Int.lt_irrefl _ (incr_lt l a h a hx), incr_nodup l (incr_tail l a h)⟩
theorem hash_small {k : Int} (h0 : 0 ≤ k) (h1 : k < 2 ^ 60) : hashInt k = k := by
  have e : rawHash k = k := by
    unfold rawHash
    have : k.natAbs % (2 ^ 61 - 1) = k.natAbs := Nat.mod_eq_of_lt (by omega)
    simp only [this, if_neg (show ¬ k < 0 by omega)]
    rw [if_neg (by simp; omega)]
    omega
  unfold hashInt
  rw [e, if_neg (by simp; omega)]
theorem b3_cut : b3prs = b3c0 ++ (b3cs.flatten ++ b3last) := by kernel_rfl
theorem b3_ok : (b3ks sts4).all isK = true ∧ (b3vs sts4).all isV = true := ⟨by kernel_rfl, by kernel_rfl⟩
theorem b3_incr : incr (b3prs.map (·.1)) = true := by kernel_rfl
theorem b3_small : b3prs.all (fun x => decide (0 ≤ x.1) && decide (x.1 < 2 ^ 60)) = true := by kernel_rfl
theorem b3_lens : (b3prs.length = 650 ∧ b3c0.length = 17) ∧ (b3cs.length = 37 ∧ b3last.length = 4) := ⟨⟨by kernel_rfl, by kernel_rfl⟩, by kernel_rfl, by kernel_rfl⟩
theorem b3_17 : b3cs.all (fun c => c.length == 17) = true := by kernel_rfl
theorem sts4_is : sts4 = [.Assign [.Name (Str.ofString "b3_exceptions") ⟨78, 0, 78, 13⟩] (.Dict (b3ks sts4) (b3vs sts4) (b3P sts4)) (b3A sts4)] := by kernel_rfl
theorem tree3b_list (P : Params) : (tree3b P).list 109 = (tree3 P).list 70 ++ (b3main :: b3subs) := by kernel_rfl
noncomputable abbrev S0 (w : World) (os : OsState) : Shared := ⟨boot_heap w.params, Array.mk [], boot_drawn, boot_toks, os⟩
noncomputable abbrev SA (w : World) (os : OsState) : Shared := ⟨heapA w.params, #[], {}, 187, os⟩
noncomputable abbrev T0 (w : World) (os : OsState) : SharedT := ⟨tree0 w.params, 15, {}, #[], {}, 187, os⟩
noncomputable abbrev T1 (w : World) (os : OsState) : SharedT := ⟨tree1 w.params, 52, {}, #[], {}, 250, os⟩
noncomputable abbrev T2 (w : World) (os : OsState) : SharedT := ⟨tree2 w.params, 63, {}, #[], {}, 310, os⟩
noncomputable abbrev T3 (w : World) (os : OsState) : SharedT := ⟨tree3 w.params, 70, {}, #[], {}, 317, os⟩
noncomputable abbrev T3b (w : World) (os : OsState) : SharedT := ⟨tree3b w.params, 109, {}, #[], {}, 2267, os⟩
noncomputable abbrev T4 (w : World) (os : OsState) : SharedT := ⟨tree4 w.params, 109, {}, #[], {}, 2268, os⟩
noncomputable abbrev T5 (w : World) (os : OsState) : SharedT := ⟨tree5 w.params, 161, {}, #[], {}, 2345, os⟩
noncomputable abbrev S5 (w : World) (os : OsState) : Shared := ⟨heap5 w.params, #[], {}, 2345, os⟩
theorem pre_go : ∀ w : World, (fun os => topGo treeTable pw w 11 (some (.ref 6)) 12 (S0 w os) (topStub pw)) = fun os => some (SA w os, ⟨denote treeTable cT, cT, ⟨0, 0, 0, 0⟩, [topFrame ⟨0, 0, 0, 0⟩]⟩) := by
  intro w
  unfold S0 SA
  rw [PySem.W.Fast.te15667345088766844465, PySem.W.Fast.te14364793385576792824, PySem.W.Fast.te11892475500146522536]
  kernel_rfl
theorem block_go : ∀ w : World, (fun os => segRun treeTable pw w 11 (some (.ref 6)) 1 1 (SA w os) (blockOf bT envT cT ⟨0, 0, 0, 0⟩ [topFrame ⟨0, 0, 0, 0⟩])) = fun os => some (Flow.next, (T0 w os).abs, cT, ⟨0, 0, 0, 0⟩) := by
  intro w
  unfold SA T0
  rw [PySem.W.Fast.te14374325043358763698, PySem.W.Fast.te14364793385576792824]
  kernel_rfl
theorem seg1 : ∀ w : World, (fun os => segRunT treeTable pw w 11 (some (.ref 6)) 1 207 (T0 w os) ⟨(execs sts1 envT).wrap doneF deadEnd id id, cT, ⟨0, 0, 0, 0⟩, [topFrame ⟨0, 0, 0, 0⟩]⟩) = fun os => some (Flow.next, T1 w os, cT, ⟨74, 0, 74, 8⟩) := by
  intro w
  unfold T0 T1
  rw [PySem.W.Fast.te10110043849684766642, PySem.W.Fast.te14364793385576792824, PySem.W.Fast.te12563942051412417395]
  kernel_rfl
/-- the second piece, world by world: one theorem for each, so that the kernel holds one at a time -/
noncomputable def seg2P (w : World) : Prop := (fun os => segRunT treeTable pw w 11 (some (.ref 6)) 1 999 (T1 w os) ⟨(execs sts2 envT).wrap doneF deadEnd id id, cT, ⟨74, 0, 74, 8⟩, [topFrame ⟨0, 0, 0, 0⟩]⟩) = fun os => some (Flow.next, T2 w os, cT, ⟨75, 0, 75, 6⟩)
theorem seg2a : ∀ w : World, seg2P ((w.withFollow "set-order" false).withFollow "special-get-raises" false) := by
  intro w
  unfold seg2P T1 T2
  rw [PySem.W.Fast.te10110043849684766642, PySem.W.Fast.te14364793385576792824, PySem.W.Fast.te12563942051412417395]
  kernel_rfl
theorem seg2b : ∀ w : World, seg2P ((w.withFollow "set-order" true).withFollow "special-get-raises" false) := by
  intro w
  unfold seg2P T1 T2
  rw [PySem.W.Fast.te10110043849684766642, PySem.W.Fast.te14364793385576792824, PySem.W.Fast.te12563942051412417395]
  kernel_rfl
theorem seg2c : ∀ w : World, seg2P ((w.withFollow "set-order" false).withFollow "special-get-raises" true) := by
  intro w
  unfold seg2P T1 T2
  rw [PySem.W.Fast.te10110043849684766642, PySem.W.Fast.te14364793385576792824, PySem.W.Fast.te12563942051412417395]
  kernel_rfl
theorem seg2d : ∀ w : World, seg2P ((w.withFollow "set-order" true).withFollow "special-get-raises" true) := by
  intro w
  unfold seg2P T1 T2
  rw [PySem.W.Fast.te10110043849684766642, PySem.W.Fast.te14364793385576792824, PySem.W.Fast.te12563942051412417395]
  kernel_rfl
theorem seg2 (w : World) : (fun os => segRunT treeTable pw w 11 (some (.ref 6)) 1 999 (T1 w os) ⟨(execs sts2 envT).wrap doneF deadEnd id id, cT, ⟨74, 0, 74, 8⟩, [topFrame ⟨0, 0, 0, 0⟩]⟩) = fun os => some (Flow.next, T2 w os, cT, ⟨75, 0, 75, 6⟩) := byRow2 "special-get-raises" (P := seg2P) (byRow2 "set-order" (P := fun w => seg2P (w.withFollow "special-get-raises" false)) seg2a seg2b) (byRow2 "set-order" (P := fun w => seg2P (w.withFollow "special-get-raises" true)) seg2c seg2d) w
theorem seg3 : ∀ w : World, (fun os => segRunT treeTable pw w 11 (some (.ref 6)) 1 30 (T2 w os) ⟨(execs sts3 envT).wrap doneF deadEnd id id, cT, ⟨75, 0, 75, 6⟩, [topFrame ⟨0, 0, 0, 0⟩]⟩) = fun os => some (Flow.next, T3 w os, cT, ⟨76, 0, 77, 30⟩) := by
  intro w
  unfold T2 T3
  rw [PySem.W.Fast.te10110043849684766642, PySem.W.Fast.te14364793385576792824, PySem.W.Fast.te12563942051412417395]
  kernel_rfl
/-- what is left of the fourth piece when the dict stands -/
noncomputable def restB (v : Value) : Sem Flow := do
  standAt ⟨78, 0, 78, 13⟩
  bindName envT (Str.ofString "b3_exceptions") v
  pure .next
theorem seg4 : ∀ w : World, (fun os => segRunT treeTable pw w 11 (some (.ref 6)) 1 20 (T3b w os) ⟨(restB (.ref 70)).wrap doneF deadEnd id id, cT, b3P sts4, [topFrame ⟨0, 0, 0, 0⟩]⟩) = fun os => some (Flow.next, T4 w os, cT, ⟨78, 0, 78, 13⟩) := by
  intro w
  unfold T3b T4
  rw [PySem.W.Fast.te10110043849684766642, PySem.W.Fast.te14364793385576792824]
  kernel_rfl
theorem seg5 : ∀ w : World, (fun os => segRunT treeTable pw w 11 (some (.ref 6)) 1 300 (T4 w os) ⟨(execs sts5 envT).wrap doneF deadEnd id id, cT, ⟨78, 0, 78, 13⟩, [topFrame ⟨0, 0, 0, 0⟩]⟩) = fun os => some (Flow.next, T5 w os, cT, ⟨132, 0, 163, 106⟩) := by
  intro w
  unfold T4 T5
  rw [PySem.W.Fast.te10110043849684766642, PySem.W.Fast.te14364793385576792824, PySem.W.Fast.te12563942051412417395]
  kernel_rfl
theorem fin_go : ∀ w : World, (fun os => topRun treeTable pw w 11 (some (.ref 6)) 2 (T5 w os).abs ⟨doneF .next, cT, ⟨132, 0, 163, 106⟩, [topFrame ⟨0, 0, 0, 0⟩]⟩) = fun os => some (S5 w os) := by
  intro w
  unfold T5 S5
  rw [PySem.W.Fast.te14082659384304107361, PySem.W.Fast.te14364793385576792824]
  kernel_rfl
theorem base70 (P : Params) : ((tree3 P).list 70).length = 70 := by unfold BT.list; simp
theorem abs3 (w : World) (os : OsState) : (T3 w os).abs = ⟨HB ((tree3 w.params).list 70) [], #[], {}, 317, os⟩ := by
  unfold SharedT.abs HB absHeap
  simp
theorem abs3b (w : World) (os : OsState) : (T3b w os).abs = ⟨HB ((tree3 w.params).list 70) (b3main :: b3subs), #[], {}, 2267, os⟩ := by
  unfold SharedT.abs HB absHeap
  simp only
  rw [tree3b_list]
theorem goes_b3 (w : World) (os : OsState) (q : Pos) : Goes pw w (standAt (b3A sts4) >>= fun _ => eval (.Dict (b3ks sts4) (b3vs sts4) (b3P sts4)) envT) 13000 q (T3 w os).abs (.ref 70) (b3P sts4) (T3b w os).abs := by
  have hd := goes_display (p := pw) (w := w) (P := b3P sts4) (base := (tree3 w.params).list 70) (gens := #[]) (drawn := {}) (os := os) (c0 := b3c0) (last := b3last) (cs := b3cs) (toks := 317) (by rw [base70]; omega) b3_lens.1.2
    (fun c hc => by simpa using List.all_eq_true.mp b3_17 c hc) (by intro e; have := b3_lens.2.2; rw [e] at this; simp at this) (by rw [b3_lens.2.2]; omega)
    (fun x hx => by
      rw [← b3_cut] at hx
      have := List.all_eq_true.mp b3_small x hx
      rw [Bool.and_eq_true, decide_eq_true_eq, decide_eq_true_eq] at this
      exact hash_small this.1 this.2)
    (by rw [← b3_cut]; exact incr_nodup _ b3_incr) (by rw [← b3_cut, b3_lens.1.1]; omega)
  rw [← b3_cut, base70, b3_lens.2.1, b3_lens.2.2] at hd
  rw [abs3, abs3b, arm_eval_Dict, b3_items _ _ _ _ b3_ok.1 b3_ok.2]
  refine Goes.more (n := 13000) (Goes.bind (m := 1) (n := 12811) Goes.at ?_) (by omega)
  refine Goes.more (n := 12811) (Goes.bind (m := 1) (n := 12810) Goes.at ?_) (by omega)
  exact hd
theorem piece4 (w : World) (os : OsState) (rest : List Stmt) {N : Nat} {r : Shared} (k : topRun treeTable pw w 11 (some (.ref 6)) N (T4 w os).abs (restOf rest envT cT ⟨78, 0, 78, 13⟩ [topFrame ⟨0, 0, 0, 0⟩]) = some r) :
    topRun treeTable pw w 11 (some (.ref 6)) (13000 + (20 + N)) (T3 w os).abs (restOf (sts4 ++ rest) envT cT ⟨76, 0, 77, 30⟩ [topFrame ⟨0, 0, 0, 0⟩]) = some r := by
  rw [sts4_is, List.singleton_append]
  unfold restOf
  rw [execs_cons_wrap, exec_Assign_Name _ _ _ _ _ rfl]
  have e : (do
      standAt (b3A sts4)
      let v ← eval (.Dict (b3ks sts4) (b3vs sts4) (b3P sts4)) envT
      standAt ⟨78, 0, 78, 13⟩
      bindName envT (Str.ofString "b3_exceptions") v
      pure Flow.next) = (standAt (b3A sts4) >>= fun _ => eval (.Dict (b3ks sts4) (b3vs sts4) (b3P sts4)) envT) >>= restB := by
    rw [bind_assocS]; rfl
  rw [e, Sem.bind_eq_wrap', Sem.wrap_wrap]
  refine goes_b3 w os ⟨76, 0, 77, 30⟩ cT (topFrame ⟨0, 0, 0, 0⟩) [] _ _ _ _ _ _ ?_
  obtain ⟨a, ha, hN⟩ := seg_top (res := id) (K' := fun f => match f with | .next => (execs rest envT).wrap doneF (leaveH envT) id id | f => doneF f) (H' := leaveH envT) (B := [topFrame ⟨0, 0, 0, 0⟩]) rfl 20 (T3b w os).abs
    ⟨(restB (.ref 70)).wrap doneF deadEnd id id, cT, b3P sts4, [topFrame ⟨0, 0, 0, 0⟩]⟩
    ⟨(restB (.ref 70)).wrap (fun f => match f with | .next => (execs rest envT).wrap doneF (leaveH envT) id id | f => doneF f) (leaveH envT) id id, cT, b3P sts4, [topFrame ⟨0, 0, 0, 0⟩]⟩ _ _ _ _ ⟨rfl, rfl, .inl ⟨rfl, rfl, _, rfl, rfl⟩⟩ (segRun_of (congrFun (seg4 w) os))
  obtain rfl : a = .next := ha
  exact hN N r k
theorem body_cut : bT = sts1 ++ (sts2 ++ (sts3 ++ (sts4 ++ (sts5 ++ [])))) := by kernel_rfl
theorem run_top (w : World) (os : OsState) : topRun treeTable pw w 11 (some (.ref 6)) (12 + (1 + (207 + (999 + (30 + (13000 + (20 + (300 + 2)))))))) (S0 w os) (topStub pw) = some (S5 w os) := by
  refine go_top (congrFun (pre_go w) os) (piece_block (congrFun (block_go w) os) ?_)
  rw [body_cut]
  refine piece_app (segRun_of (congrFun (seg1 w) os)) (piece_app (segRun_of (congrFun (seg2 w) os)) (piece_app (segRun_of (congrFun (seg3 w) os)) (piece4 w os _ (piece_app (segRun_of (congrFun (seg5 w) os)) ?_))))
  exact piece_nil (congrFun (fin_go w) os)
noncomputable abbrev looseT : List Str := [⟨⟨[98, 105, 115, 101, 99, 116, 95, 108, 101, 102, 116]⟩⟩, ⟨⟨[98, 49, 95, 115, 101, 116]⟩⟩, ⟨⟨[98, 51, 95, 101, 120, 99, 101, 112, 116, 105, 111, 110, 115]⟩⟩]
theorem adr_ok (P : Params) : adrK = (heapK P).map (·.1) := by kernel_rfl
noncomputable abbrev hookT : Hook := kmHook heapK adrK adr_ok [150, 131]
noncomputable abbrev XtT : Shared → Bool := fun s => xlAt qv [] s && recOk (RowW.records PySem.Challenge.rw_wf0071_01.row.toRowW) s
theorem open_top0 : ∀ w : World, (fencedOpening treeTable pw w 20000).map (fun s => (s.heap, s.gens, s.drawn, s.toks)) = some (boot_heap w.params, Array.mk [], boot_drawn, boot_toks) :=
  boot_open (by kernel_rfl) (by decide) (fun s => by kernel_rfl)
theorem size_top : ∀ w : World, ((boot_heap w.params).isNs mainGlobals && (Array.mk ([] : List GenState)).size == 0, (boot_heap w.params).objs.size, (boot_heap w.params).nsMap mainGlobals "__annotations__") = (true, 11, some (.ref 6)) := by
  intro w
  rw [PySem.W.Fast.te8920871248978507458]
  kernel_rfl
theorem look_a : ∀ w : World, (fun os : OsState => (staticsOk (importedModules pw.main.body) (boot_heap w.params) (heap5 w.params) && namesBound pw (heap5 w.params) && gensDone (S5 w os) && laidKept (boot_heap w.params) (heap5 w.params))) = fun _ => true := by
  intro w
  unfold S5
  kernel_rfl
theorem look_c : ∀ w : World, (fun os : OsState => hookT.obs (S5 w os)) = fun _ => hookT.val w := by
  intro w
  unfold S5
  show (fun os : OsState => (adrK.map (heap5 w.params).get?, [150, 131].map (heap5 w.params).get?)) = fun _ => ((heapK w.params).map fun p => some p.2, [150, 131].map fun _ => some (tabObj #[]))
  kernel_rfl
theorem lb1 : ∀ w : World, (fun os : OsState => seen ((recsOf qv).map (·.name)) (ownsOf qv) [] { S5 w os with gens := #[] }) = fun _ => expectedOf qv := by
  intro w
  unfold S5
  rw [PySem.W.Fast.te5160383126252970620]
  kernel_rfl
theorem lb2 : ∀ w : World, (fun os : OsState => (S5 w os).heap.bltView) = fun _ => bltViewBooted := by
  intro w
  unfold S5
  kernel_rfl
theorem lb3a : ∀ w : World, (heap5 w.params).keysOk (looseW qv looseT) ((recsOf qv).map (·.name)) ((litsOf qv).map (·.1)) ((clssOf qv (looseW qv looseT)).map (·.name)) = true := by
  intro w
  unfold looseT
  rw [PySem.W.Fast.te10880121769531294198]
  kernel_rfl
theorem lb3b : ∀ w : World, ((heap5 w.params).accountedOkI (importedModules pw.main.body) && (heap5 w.params).isNs mainGlobals && (heap5 w.params).isNs builtinsNs) = true := by
  intro w
  kernel_rfl
theorem lb3c : ∀ w : World, tablesOk qv (heap5 w.params) = true := by
  intro w
  rw [PySem.W.Fast.te10994771534591457954]
  kernel_rfl
theorem lb3d : ∀ w : World, (fun os => XtT (S5 w os)) = fun _ => true := by
  intro w
  unfold XtT S5
  kernel_rfl
theorem lb4 : ∀ w : World, (fun os => tabsOk qv (S5 w os)) = fun _ => true := by
  intro w
  unfold S5
  rw [PySem.W.Fast.te479339242167458305]
  kernel_rfl
theorem lb5 : ∀ w : World, (fun os => pinSeenD qv (drecsOf qv) (S5 w os)) = fun _ => pinGoodD (drecsOf qv) := by
  intro w
  unfold S5
  rw [PySem.W.Fast.te16090120013241838585]
  kernel_rfl
theorem lb6 : ∀ w : World, (fun os => plainSeenE qv (looseW qv looseT) (S5 w os)) = fun _ => plainGoodE qv (looseW qv looseT) := by
  intro w
  unfold S5 looseT
  rw [PySem.W.Fast.te2386780881361962483]
  kernel_rfl
theorem lb7 : ∀ w : World, (fun os => plainSeenD qv looseT (S5 w os)) = fun _ => plainGoodD qv looseT := by
  intro w
  unfold S5 looseT
  rw [PySem.W.Fast.te11698064438423848299]
  kernel_rfl
theorem lb8 : ∀ w : World, (fun os => wideSeen qv (S5 w os)) = fun _ => wideGood qv := by
  intro w
  unfold S5
  rw [PySem.W.Fast.te7317090234206586261]
  kernel_rfl
theorem lb9 : ∀ w : World, (fun os => clsSeenW qv looseT (S5 w os)) = fun _ => clsGoodW qv looseT := by
  intro w
  unfold S5 looseT
  rw [PySem.W.Fast.te7369524293546568484]
  kernel_rfl
theorem look_b : ∀ w : World, (fun os : OsState => openSeen qv looseT (importedModules pw.main.body) XtT true (S5 w os)) = fun _ => openGood qv looseT := by
  intro w
  funext os
  unfold openSeen openGood
  refine looks_pair (congrFun (lb1 w) os) (looks_pair (congrFun (lb2 w) os) (looks_pair ?_ (looks_pair (congrFun (lb4 w) os) (looks_pair (congrFun (lb5 w) os) (looks_pair (congrFun (lb6 w) os) (looks_pair (congrFun (lb7 w) os) (looks_pair (congrFun (lb8 w) os) (congrFun (lb9 w) os))))))))
  have h3 := lb3b w
  rw [Bool.and_eq_true, Bool.and_eq_true] at h3
  show (_ && _ && _ && _ && _ && _ && _) = true
  simp only [Bool.and_eq_true]
  exact ⟨⟨⟨⟨⟨⟨lb3a w, h3.1.1⟩, h3.1.2⟩, h3.2⟩, lb3c w⟩, Bool.and_eq_true_iff.mp (congrFun (lb3d w) os)⟩, rfl⟩
theorem left_ : LeftO pw qv looseT XtT hookT.obs hookT.val 20000 :=
  LeftO.of_pieces (H₀ := boot_heap) (H₁ := heap5) (gs₀ := Array.mk []) (gs₁ := #[]) (d₀ := boot_drawn) (d₁ := {}) (k₀ := boot_toks) (k₁ := 2345) (m₀ := 11) (ann := some (.ref 6)) open_top0 size_top run_top (by decide)
    fun w => funext fun os => looks_pair (congrFun (look_a w) os) (looks_pair (congrFun (look_b w) os) (congrFun (look_c w) os))
section
set_option maxRecDepth 100000
noncomputable abbrev RW : OpenLaw := PySem.Challenge.rw_wf0071_01
theorem sd_res : namesResolve RW.row.prog = true := by rw [PySem.W.Fast.te8377067652309620493]; kernel_rfl
theorem sd_road : noRoadLSs { strict := !(importedModules RW.row.prog.main.body).all cThrough.contains, foot := none, bare := (["vars", "dir", "locals"] : List Str).filter (readsOut RW.row.prog RW.row.prog.main.body) } RW.row.prog.main.body = true := by rw [PySem.W.Fast.te8326940854005059898]; kernel_rfl
theorem sd_attr : (namesMeet RW.row.prog RW.row.prog.main.body fun _ n => attrL n) = true := by rw [PySem.W.Fast.te17119622794617984870]; kernel_rfl
theorem sd_block : noClassBlock RW.prog RW.footing = true := by rw [PySem.W.Fast.te8179353310426384613]; kernel_rfl
theorem sd_foot : noRoadLSs { strict := true, foot := some RW.bound', writes := RW.writes, may := RW.may } RW.footing = true := by rw [PySem.W.Fast.te8326940854005059898]; kernel_rfl
theorem sd_bound : RW.bound'.all (fun n => !builtinNamed n || RW.about == [n] || !RW.reads n) = true := by rw [PySem.W.Fast.named_eq]; kernel_rfl
theorem sd_own : RW.own.all (fun n => !builtinNamed n) = true := by rw [PySem.W.Fast.named_eq]; kernel_rfl
theorem sd_above : (namesMeet RW.prog RW.above fun _ n => !RW.own.contains n) = true := by rw [PySem.W.Fast.te17119622794617984870]; kernel_rfl
theorem sd_last : (namesMeet RW.prog RW.footing fun sc n => sc.kind == .module || sc.names.lookup n != some .globalExplicit) = true := by rw [PySem.W.Fast.te17119622794617984870]; kernel_rfl
theorem sd_part : RW.row.partSaid = true := by
  unfold OpenRow.partSaid
  iterate 13 (refine look_both ?_ (by kernel_rfl))
  unfold looksOpen
  refine look_both (look_both (look_both (look_both ?_ sd_res) ?_) sd_road) sd_attr
  · kernel_rfl
  · kernel_rfl
theorem sd_row : RW.row.wellSaid = true := by
  unfold OpenRow.wellSaid
  refine look_both (look_both sd_part ?_) ?_
  · kernel_rfl
  · kernel_rfl
theorem said_ok : RW.wellSaid = true := by
  unfold OpenLaw.wellSaid
  refine look_both ?_ sd_last
  refine look_both ?_ sd_above
  refine look_both ?_ sd_own
  iterate 5 (refine look_both ?_ (by kernel_rfl))
  refine look_both ?_ sd_bound
  iterate 3 (refine look_both ?_ (by kernel_rfl))
  refine look_both ?_ sd_foot
  iterate 2 (refine look_both ?_ (by kernel_rfl))
  refine look_both ?_ sd_block
  iterate 2 (refine look_both ?_ (by kernel_rfl))
  exact sd_row
end
end
open PySem PySem.W PyProof.Rows PySem.Calls PySem.Spec PyProof.V
theorem regK : (fun (_ : OpenLaw) (_ : Params → Frag) => True) PySem.Challenge.rw_wf0071_01 heapK := by k_fill; trivial
local macro_rules | `(tactic| walk_at "STEPS") => `(tactic| repeat' (first
  | (k_unfold; (try dsimp only))
  | ((fail_if_success (with_reducible show wpAny _ _ (exec (PySem.Stmt.While _ _ _ _) _) _ _ _));
     (fail_if_success (with_reducible show wpAny _ _ (exec (PySem.Stmt.For _ _ _ _ _) _) _ _ _));
     (fail_if_success (with_reducible show wpAny _ _ (call (Value.ref _) _ _) _ _ _));
     (fail_if_success (with_reducible show wpAny _ _ (call (Value.builtin "iter") _ _) _ _ _));
     (fail_if_success (with_reducible show wpAny _ _ (call (Value.builtin "next") _ _) _ _ _));
     (fail_if_success (with_reducible show wpAny _ _ (call (Value.builtin "str.join") _ _) _ _ _));
     (fail_if_success (with_reducible show wpAny _ _ (subscriptTail _ _ (Value.ref _) (Value.ref _)) _ _ _));
     (fail_if_success (with_reducible show wpAny _ _ (pyIter _) _ _ _));
     (fail_if_success (with_reducible show wpAny _ _ (eval (PySem.Expr.ListComp _ _ _ _) _) _ _ _));
     (first | walk1 | (dsimp only; walk1) | (leave1; walk_say "STEP leave1"; try dsimp only)))
  | fail "no step"))
local macro_rules | `(tactic| walk_at "STEPSG") => `(tactic| repeat' (first
  | (k_unfold; (try dsimp only))
  | ((fail_if_success (with_reducible show wpAny _ _ (exec (PySem.Stmt.While _ _ _ _) _) _ _ _));
     (fail_if_success (with_reducible show wpAny _ _ (exec (PySem.Stmt.For _ _ _ _ _) _) _ _ _));
     (fail_if_success (with_reducible show wpAny _ _ (call (Value.ref _) _ _) _ _ _));
     (fail_if_success (with_reducible show wpAny _ _ (call (Value.builtin "iter") _ _) _ _ _));
     (fail_if_success (with_reducible show wpAny _ _ (call (Value.builtin "next") _ _) _ _ _));
     (fail_if_success (with_reducible show wpAny _ _ (call (Value.builtin "str.join") _ _) _ _ _));
     (fail_if_success (with_reducible show wpAny _ _ (subscriptTail _ _ (Value.ref _) (Value.ref _)) _ _ _));
     (fail_if_success (with_reducible show wpAny _ _ (pyIter _) _ _ _));
     (fail_if_success (with_reducible show wpAny _ _ (eval (PySem.Expr.ListComp _ _ _ _) _) _ _ _));
     (fail_if_success (with_reducible show wpAny _ _ (storeName _ _ _) _ _ _));
     (fail_if_success (with_reducible show wpAny _ _ (call (Value.type "enumerate") _ _) _ _ _));
     (first | walk1 | (dsimp only; walk1) | (leave1; walk_say "STEP leave1"; try dsimp only)))
  | fail "no step"))
local macro_rules | `(tactic| walk_at "NAMES") => `(tactic| ((try dsimp only); (repeat' (first | exact List.forall_mem_nil _ | refine List.forall_mem_cons.mpr ⟨?_, ?_⟩ | rfl)); done))
local macro_rules | `(tactic| walk_at "SUB") => `(tactic| ((try dsimp only); first
  | exact List.forall_mem_nil _
  | (refine' List.forall_mem_cons.mpr ⟨?xa, ?xb⟩; (case xa => k_mem); (case xb => walk_at "SUB"))
  | (intro p hp; (repeat (first | exact hp | refine List.Mem.tail _ ?_)); done)))
section

/-- the state at a loop's head: the frame's map by a list of pairs, the ledger, the generators -/
inductive AtG {σ : Type} (h₀ : Heap) (L : Addr) (s : Shared) (Led : σ → List (Addr × Obj)) (ps : σ → List (Str × Value)) (gs : σ → Array GenState) (stored : List Str) (m₀ : Str → Option Value) (c : σ) (s₂ : Shared) : Prop
  | mk (h' : Heap) (tk : Nat) (m' : Str → Option Value) (news' : List (Addr × Obj)) (e : s₂ = { s with heap := h', toks := tk, gens := gs c }) (F : Fr h₀ L h' m') (N : News h₀ L h' news') (hn : ∀ p ∈ Led c, p ∈ news')
    (hk : ∀ p ∈ ps c, m' p.1 = some p.2) (hr : ∀ z, (∀ p ∈ ps c, z ≠ p.1) → stored.contains z = false → m' z = m₀ z) : AtG h₀ L s Led ps gs stored m₀ c s₂

noncomputable def WhlEnd {σ : Type} (h₀ : Heap) (L : Addr) (s : Shared) (Led : σ → List (Addr × Obj)) (ps : σ → List (Str × Value)) (gs : σ → Array GenState) (stored : List Str) (m₀ : Str → Option Value) (P : σ → Prop) (μ : σ → Nat) (c : σ) (Q : Flow → Shared → Prop) (f : Flow) (s₂ : Shared) : Prop :=
  match f with
  | .ret v => Q (.ret v) s₂
  | .brk => Q .next s₂
  | _ => ∃ c', AtG h₀ L s Led ps gs stored m₀ c' s₂ ∧ P c' ∧ μ c' < μ c

theorem kp_if {x v r : Option Value} {a z : Str} {d : Decidable (z = a)} (h : z ≠ a) (k : x = r) : @ite _ (z = a) d v x = r := by rw [if_neg h]; exact k
theorem kp_ne3 {stored : List Str} {z a : Str} (h3 : stored.contains z = false) (e : stored.contains a = true) : z ≠ a := fun q => by rw [q, e] at h3; cases h3
theorem kp_ne2 {ps : List (Str × Value)} {z a : Str} (h2 : ∀ p ∈ ps, z ≠ p.1) (e : (ps.map (·.1)).contains a = true) : z ≠ a := fun q => by
  obtain ⟨p, hp, h⟩ := List.mem_map.mp (List.contains_iff_mem.mp e)
  exact h2 p hp (q.trans h.symm)
theorem kst_out {f : Str → Option Value} {z : Str} : ∀ {ps : List (Str × Value)}, (∀ a ∈ ps.map (·.1), z ≠ a) → kstB f ps z = f z
  | [], _ => rfl
  | p :: r, h => by
    show (if z = p.1 then some p.2 else kstB f r z) = f z
    rw [if_neg (h _ (.head _))]
    exact kst_out fun a ha => h a (.tail _ ha)
theorem kp_kst {f : Str → Option Value} {ps ps' : List (Str × Value)} {z : Str} {r : Option Value} (h2 : ∀ p ∈ ps', z ≠ p.1) (e : (ps.map (·.1)).all (fun a => (ps'.map (·.1)).contains a) = true) (k : f z = r) : kstB f ps z = r :=
  (kst_out fun a ha => kp_ne2 h2 (List.all_eq_true.mp e a ha)).trans k
theorem kp_end {c : Bool} {x y : Option Value} (h : c = false) : (if c = true then x else y) = y := if_neg (by rw [h]; decide)
theorem cut_le {α : Type} (l : List α) (p n : Nat) : ((l.drop p).take n).length ≤ l.length := Nat.le_trans (List.length_take_le' _ _) (List.length_drop ▸ Nat.sub_le _ _)
theorem cut2_le {α : Type} (l : List α) (p n q m : Nat) : ((l.drop p).take n ++ (l.drop q).take m).length ≤ l.length + l.length := Nat.le_trans (Nat.le_of_eq List.length_append) (Nat.add_le_add (cut_le l p n) (cut_le l q m))
theorem step_lt {n i : Nat} (h : i < n) : n + 1 - (i + 1) < n + 1 - i := Nat.sub_lt_sub_left (Nat.lt_succ_of_lt h) (Nat.lt_succ_self i)
theorem kp_sub {a b : List Str} {z : Str} (h : b.contains z = false) (e : a.all (fun x => b.contains x) = true) : a.contains z = false := by
  cases q : a.contains z with
  | false => rfl
  | true => rw [List.all_eq_true.mp e z (List.contains_iff_mem.mp q)] at h; cases h
theorem kp_cut {c : Bool} {x y r : Option Value} (h : c = false) (k : y = r) : (if c = true then x else y) = r := (kp_end h).trans k
theorem fr_kst {h₀ h : Heap} {L : Addr} {ps : List (Str × Value)} {stored : List Str} {m₀ m₁ : Str → Option Value} (h1 : ∀ p ∈ ps, m₁ p.1 = some p.2) (h2 : ∀ z, (∀ p ∈ ps, z ≠ p.1) → stored.contains z = false → m₁ z = m₀ z)
    (F : Fr h₀ L h m₁) : Fr h₀ L h (kstB (fun z => if stored.contains z then m₁ z else m₀ z) ps) := by
  have em : kstB (fun z => if stored.contains z then m₁ z else m₀ z) ps = m₁ := by
    funext y
    refine kstB_eq h1 fun hn => ?_
    show (if stored.contains y = true then m₁ y else m₀ y) = m₁ y
    cases h3 : stored.contains y with
    | true => simp
    | false => simp only [Bool.false_eq_true, if_false]; exact (h2 y hn h3).symm
  rw [em]
  exact F

section
variable {prog : Program} {w : World} {A : Around} {E : Value → Shared → Prop} {Q : Flow → Shared → Prop} {s : Shared} {env : Env} {h₀ : Heap} {L : Addr}

theorem whileG {σ : Type} {test : Expr} {body : List Stmt} {pos : Pos} {m₀ : Str → Option Value} (Led : σ → List (Addr × Obj)) (ps : σ → List (Str × Value)) (gs : σ → Array GenState) (stored : List Str) (P : σ → Prop) (μ : σ → Nat) (c₀ : σ)
    {news₀ : List (Addr × Obj)} (F : Fr h₀ L s.heap m₀) (N : News h₀ L s.heap news₀) (hn : ∀ p ∈ Led c₀, p ∈ news₀) (hg : s.gens = gs c₀) (hk : ∀ p ∈ ps c₀, m₀ p.1 = some p.2) (hp : P c₀)
    (turn : ∀ (c : σ) (u : Str → Option Value) h tk, P c → Fr h₀ L h (kstB (fun z => if stored.contains z then u z else m₀ z) (ps c)) → News h₀ L h (Led c) →
      wpAny (model prog w) A (isTrue test env (eval test env)) (fun b s₂ =>
        if b = true then wpAny (model prog w) A (execs body env) (WhlEnd h₀ L s Led ps gs stored m₀ P μ c Q) E s₂ else Q .next s₂) E { s with heap := h, toks := tk, gens := gs c })
    (hE : PassesOwn (model prog w) A env E := by passes_own) :
    wpAny (model prog w) A (exec (.While test body [] pos) env) Q E s := by
  refine wpAny_While (codeAny_whileLoop (fun n s' => ∃ c : σ, μ c = n ∧ P c ∧ AtG h₀ L s Led ps gs stored m₀ c s') ?_ (μ c₀)
    ⟨c₀, rfl, hp, s.heap, s.toks, m₀, news₀, by rw [← hg], F, N, hn, hk, fun _ _ _ => rfl⟩)
  rintro n s' ⟨c, rfl, hP, h, tk, m', news', rfl, F', N', hn', hk', hr'⟩
  have F₁ := fr_kst hk' hr' F'
  have N₁ : News h₀ L h (Led c) := fun p hp => N' p (hn' p hp)
  refine wpAny_passesOwn hE (wpAny_mono (turn c m' h tk hP F₁ N₁) (fun b s₂ p => ?_) fun _ _ x => x)
  cases b with
  | false =>
    simp only [Bool.false_eq_true, if_false] at p ⊢
    exact wpAny_execs_nil p
  | true =>
    simp only [if_true] at p ⊢
    refine wpAny_passesOwn hE (wpAny_mono p (fun f s₃ q => ?_) fun _ _ x => x)
    cases f with
    | ret v => exact q
    | brk => exact q
    | next => obtain ⟨c', a, b, d⟩ := q; exact ⟨μ c', d, c', rfl, b, a⟩
    | cont => obtain ⟨c', a, b, d⟩ := q; exact ⟨μ c', d, c', rfl, b, a⟩

noncomputable def ForEnd {σ : Type} (h₀ : Heap) (L : Addr) (s : Shared) (I : Addr) (oI : Obj) (Led : σ → List (Addr × Obj)) (ps : σ → List (Str × Value)) (gs : σ → Array GenState) (stored : List Str) (m₀ : Str → Option Value) (P : σ → Prop) (Q : Flow → Shared → Prop) (f : Flow) (s₂ : Shared) : Prop :=
  match f with
  | .ret v => Q (.ret v) s₂
  | .brk => Q .next s₂
  | _ => ∃ c', AtG h₀ L s (fun c => (I, oI) :: Led c) ps gs stored m₀ c' s₂ ∧ P c' ∧ ∀ p ∈ Led c', p.1 ≠ I

inductive FInv {σ : Type} (h₀ : Heap) (L : Addr) (s : Shared) (n : Nat) (Led : σ → List (Addr × Obj)) (ps : σ → List (Str × Value)) (gs : σ → Array GenState) (stored : List Str) (m₀ : Str → Option Value) (P : Nat → σ → Prop) (I : Addr) (St : Nat → Heap → Prop) (k : Nat) (s' : Shared) : Prop
  | mk (i : Nat) (c : σ) (hi : i ≤ n) (hk : k = n + 1 - i) (hP : P i c) (hne : ∀ p ∈ Led c, p.1 ≠ I) (hA : AtG h₀ L s Led ps gs stored m₀ c s') (hst : St i s'.heap) : FInv h₀ L s n Led ps gs stored m₀ P I St k s'

theorem forCore {σ : Type} {x : Str} {px : Pos} {body : List Stmt} {m₀ : Str → Option Value} {I : Addr} {fp wr : List Addr} {n : Nat} {Pv : Nat → Value → Prop} {St : Nat → Heap → Prop}
    (Led : σ → List (Addr × Obj)) (ps : σ → List (Str × Value)) (gs : σ → Array GenState) (stored : List Str) (P : Nat → σ → Prop) (c₀ : σ)
    {news₀ : List (Addr × Obj)} (W : Walks prog w A I fp wr n Pv St) (hx : env.kindOf x = some .local) (hpl : (env.scope.kind == .class || (env.scope.kind == .module && env.locals != env.globals)) = false)
    (hL : env.locals = L) (hxs : stored.contains x = true) (hwr : ∀ b ∈ wr, b = I) (hI : ∀ i h, St i h → ∃ o, h.get? I = some o) (hI0 : h₀.get? I = none) (hIL : I ≠ L)
    (hfp : ∀ b ∈ fp, b = I ∨ (∃ o, h₀.get? b = some o) ∨ ∃ o, ∀ i c, P i c → (b, o) ∈ Led c)
    (hst : St 0 s.heap) (F : Fr h₀ L s.heap m₀) (N : News h₀ L s.heap news₀) (hn : ∀ p ∈ Led c₀, p ∈ news₀) (hnI : ∀ p ∈ Led c₀, p.1 ≠ I) (hg : s.gens = gs c₀) (hk : ∀ p ∈ ps c₀, m₀ p.1 = some p.2) (hp : P 0 c₀) (hxp : ∀ i c, P i c → ∀ p ∈ ps c, p.1 ≠ x)
    (turn : ∀ i (c : σ) (u : Str → Option Value) h tk v oI, i < n → Pv i v → P i c → (∀ p ∈ Led c, p.1 ≠ I) → Fr h₀ L h (fun y => if y = x then some v else kstB (fun z => if stored.contains z then u z else m₀ z) (ps c)  y) → News h₀ L h ((I, oI) :: Led c) →
      wpAny (model prog w) A (execs body env) (ForEnd h₀ L s I oI Led ps gs stored m₀ (P (i + 1)) Q) E { s with heap := h, toks := tk, gens := gs c })
    (done : ∀ (c : σ) (u : Str → Option Value) h tk, P n c → Fr h₀ L h (kstB (fun z => if stored.contains z then u z else m₀ z) (ps c)) → News h₀ L h (Led c) → Q .next { s with heap := h, toks := tk, gens := gs c })
    (hE : PassesOwn (model prog w) A env E := by passes_own) :
    codeAny (model prog w) A (.forLoop (.Name x px) (.ref I) body [] env) (fun r s' => match r with | .ok f => Q f s' | .error e => cameBackBy (model prog w) A env E e s') s := by
  subst hL
  have old : ∀ b o, h₀.get? b = some o → b ≠ I := fun b o e q => by rw [q, hI0] at e; cases e
  refine codeAny_forLoop (FInv h₀ env.locals s n Led ps gs stored m₀ P I St) ?_ (n + 1)
    ⟨0, c₀, Nat.zero_le _, rfl, hp, hnI, ⟨s.heap, s.toks, m₀, news₀, by rw [← hg], F, N, hn, hk, fun _ _ _ => rfl⟩, hst⟩
  rintro k s' ⟨i, c, hi, rfl, hP, hne, ⟨h, tk, m', news', rfl, F', N', hn', hk', hr'⟩, hst'⟩
  have N₁ : News h₀ env.locals h (Led c) := fun p hp => N' p (hn' p hp)
  have next : ∀ h₁ : Heap, (∀ b o, b ∉ wr → h.get? b = some o → h₁.get? b = some o) → Fr h₀ env.locals h₁ m' ∧ News h₀ env.locals h₁ (Led c) := fun h₁ hk₁ =>
    ⟨⟨F'.ns.at' fun o e => hk₁ _ o (fun q => hIL (hwr _ q).symm) e, fun b o e => hk₁ b o (fun q => old b o e (hwr _ q)) (F'.keep b o e), F'.above⟩,
      fun p hp => ⟨hk₁ _ _ (fun q => hne p hp (hwr _ q)) (N₁ p hp).1, (N₁ p hp).2⟩⟩
  by_cases hlt : i < n
  · refine W.item i _ _ _ hlt hst' fun v h₁ tk₁ hPv hst₁ hk₁ => ?_
    obtain ⟨F₁, N₁'⟩ := next h₁ hk₁
    refine wpAny_assign_Name (wpAny_storeName_local hx F₁.ns (fun h₂ hn₂ hs₂ => ?_) hpl)
    obtain ⟨oI, hoI⟩ := hI _ _ hst₁
    have F₂ := F₁.set hn₂ hs₂
    have N₂ : News h₀ env.locals h₂ ((I, oI) :: Led c) := by
      refine List.forall_mem_cons.mpr ⟨by exact ⟨(hs₂.2 I hIL).trans hoI, hIL, hI0⟩, ?_⟩
      intro p hp
      · exact (N₁'.set hs₂) p hp
    have em : (fun y => if y = x then some v else m' y) = (fun y => if y = x then some v else kstB (fun z => if stored.contains z then m' z else m₀ z) (ps c) y) := by
      funext y
      by_cases e : y = x
      · simp [e]
      · simp only [if_neg e]
        refine (kstB_eq hk' fun hq => ?_).symm
        cases h3 : stored.contains y with
        | true => simp
        | false => simp only [Bool.false_eq_true, if_false]; exact (hr' y hq h3).symm
    rw [em] at F₂
    refine wpAny_passesOwn hE (wpAny_mono (turn i c m' h₂ _ v oI hlt hPv hP hne F₂ N₂) (fun f s₃ h₃ => ?_) fun _ _ e => e)
    have fin : (∃ c', AtG h₀ env.locals s (fun c => (I, oI) :: Led c) ps gs stored m₀ c' s₃ ∧ P (i + 1) c' ∧ ∀ p ∈ Led c', p.1 ≠ I) →
        ∃ m, m < n + 1 - i ∧ FInv h₀ env.locals s n Led ps gs stored m₀ P I St m s₃ := by
      rintro ⟨c', ⟨h₃', tk₃, m₃, news₃, rfl, F₃, N₃, hn₃, hk₃, hr₃⟩, hP', hne'⟩
      refine ⟨n + 1 - (i + 1), step_lt hlt, i + 1, c', hlt, rfl, hP', hne', ⟨h₃', tk₃, m₃, news₃, rfl, F₃, N₃, fun p hp => hn₃ p (.tail _ hp), hk₃, hr₃⟩, ?_⟩
      refine W.frame _ _ _ hst₁ fun b hb o e => ?_
      rcases hfp b hb with rfl | ⟨o', ho'⟩ | ⟨o', ho'⟩
      · have : oI = o := by rw [hoI] at e; exact Option.some.inj e
        subst this
        exact (N₃ _ (hn₃ _ (.head _))).1
      · have : o' = o := by have := F₁.keep b o' ho'; rw [e] at this; exact (Option.some.inj this).symm
        subst this
        exact F₃.keep b _ ho'
      · have : o' = o := by have := (N₁' _ (ho' i c hP)).1; rw [e] at this; exact (Option.some.inj this).symm
        subst this
        exact (N₃ _ (hn₃ _ (.tail _ (ho' _ c' hP')))).1
    cases f with
    | ret v => exact h₃
    | brk => exact h₃
    | next => exact fin h₃
    | cont => exact fin h₃
  · have hin : i = n := Nat.le_antisymm hi (Nat.not_lt.mp hlt)
    subst hin
    refine W.done _ _ _ hst' fun h₁ tk₁ hk₁ => wpAny_execs_nil ?_
    obtain ⟨F₁, N₁'⟩ := next h₁ hk₁
    exact done c m' h₁ tk₁ hP (fr_kst hk' hr' F₁) N₁'
theorem whl_next {σ : Type} {Led : σ → List (Addr × Obj)} {ps : σ → List (Str × Value)} {gs : σ → Array GenState} {stored : List Str} {m₀ m' : Str → Option Value} {P : σ → Prop} {μ : σ → Nat} {c : σ} {h' : Heap} {tk : Nat} {g : Array GenState} {news' : List (Addr × Obj)} (c' : σ)
    (F : Fr h₀ L h' m') (N : News h₀ L h' news') (hn : ∀ p ∈ Led c', p ∈ news') (hk : ∀ p ∈ ps c', m' p.1 = some p.2) (hr : ∀ z, (∀ p ∈ ps c', z ≠ p.1) → stored.contains z = false → m' z = m₀ z) (hp : P c') (hm : μ c' < μ c) (hg : g = gs c') :
    WhlEnd h₀ L s Led ps gs stored m₀ P μ c Q .next { s with heap := h', toks := tk, gens := g } := ⟨c', ⟨h', tk, m', news', by rw [hg], F, N, hn, hk, hr⟩, hp, hm⟩
theorem for_next {σ : Type} {I : Addr} {oI : Obj} {Led : σ → List (Addr × Obj)} {ps : σ → List (Str × Value)} {gs : σ → Array GenState} {stored : List Str} {m₀ m' : Str → Option Value} {P : σ → Prop} {h' : Heap} {tk : Nat} {g : Array GenState} {news' : List (Addr × Obj)} (c' : σ)
    (F : Fr h₀ L h' m') (N : News h₀ L h' news') (hI : (I, oI) ∈ news') (hn : ∀ p ∈ Led c', p ∈ news') (hk : ∀ p ∈ ps c', m' p.1 = some p.2) (hr : ∀ z, (∀ p ∈ ps c', z ≠ p.1) → stored.contains z = false → m' z = m₀ z) (hne : ∀ p ∈ Led c', p.1 ≠ I) (hp : P c') (hg : g = gs c') :
    ForEnd h₀ L s I oI Led ps gs stored m₀ P Q .next { s with heap := h', toks := tk, gens := g } :=
  ⟨c', ⟨h', tk, m', news', by rw [hg], F, N, List.forall_mem_cons.mpr ⟨hI, hn⟩, hk, hr⟩, hp, hne⟩
end
theorem allLt_to {d : Nat} : ∀ {l : List (Addr × Obj)}, AllLt d l → ∀ p ∈ l, p.1 < d
  | [], _, _, h => nomatch h
  | _ :: _, ⟨a, b⟩, p, h => by
    rcases List.mem_cons.mp h with rfl | h
    · exact a
    · exact allLt_to b p h

noncomputable def lit (l : Addr) (i : Nat) : Obj := { cls := .type "list_iterator", data := .fields #[.ref l, .int i 0] }
noncomputable def litDone (i : Nat) : Obj := { cls := .type "list_iterator", data := .fields #[.none, .int i 0] }
theorem lit_is {h : Heap} {it l : Addr} {i : Nat} (e : h.get? it = some (lit l i)) : h.IsListIter it l i := ⟨_, e, rfl, rfl⟩
section
variable {prog : Program} {w : World} {A : Around} {E : Value → Shared → Prop} {s : Shared} {h₀ : Heap} {L : Addr} {m : Str → Option Value} {news news' : List (Addr × Obj)}
theorem list_is {h : Heap} {l : Addr} {vs : Array Value} {k : Nat} (N : News h₀ L h news) (hm : (l, W.listOf vs k) ∈ news) : h.IsList l vs := ⟨_, (N _ hm).1, rfl, k, rfl⟩
theorem iterList {l : Addr} {vs : Array Value} {k : Nat} {Q : Value → Shared → Prop} (F : Fr h₀ L s.heap m) (N : News h₀ L s.heap news) (hm : (l, W.listOf vs k) ∈ news)
    (h : ∀ I h', Fr h₀ L h' m → News h₀ L h' ((I, lit l 0) :: news) → (∀ p ∈ news, p.1 < I) → Q (.ref I) { s with heap := h' }) : wpAny (model prog w) A (pyIter (.ref l)) Q E s := by
  refine wpAny_pyIter_list (list_is N hm) ?_
  exact h _ _ (F.push _) (News.push F N _ rfl) (fun q hq => Heap.lt_size (N q hq).1)
theorem iterCall {l : Addr} {vs : Array Value} {k : Nat} {Q : Value → Shared → Prop} (F : Fr h₀ L s.heap m) (N : News h₀ L s.heap news) (hm : (l, W.listOf vs k) ∈ news)
    (h : ∀ I h', Fr h₀ L h' m → News h₀ L h' ((I, lit l 0) :: news) → (∀ p ∈ news, p.1 < I) → Q (.ref I) { s with heap := h' }) : wpAny (model prog w) A (call (.builtin "iter") [.ref l]) Q E s := by
  refine call_function_entry (by decide +kernel) (by decide +kernel) kdk_entry_iter (kdk_args_iter _) ?_
  unfold Builtin.«iter»
  refine wpAny_bind (m := someArgs "iter" 1 2 _) (wpAny_of_eq (a := [Value.ref l]) (by first | rfl | kernel_rfl!) ?_)
  show wpAny _ _ (pyIter (.ref l) >>= _) _ _ _
  refine wpAny_bind (iterList F N hm fun I h' F' N' hl => ?_)
  exact wpAny_pure ⟨_, rfl, h I h' F' N' hl⟩
theorem updNews {h h' : Heap} {d : Addr} {o o' : Obj} (N : News h₀ L h news) (U : Upd d o o' news news') (hs : Heap.SameBut d h h') (ho : h'.get? d = some o') : News h₀ L h' news' := by
  obtain ⟨pre, post, hl, hl', a, b⟩ := U.split
  rw [hl']
  exact (show News h₀ L h (pre ++ (d, o) :: post) from hl ▸ N).setIn a b hs ho
theorem upd_mem {d : Addr} {o o' : Obj} (U : Upd d o o' news news') : (d, o) ∈ news := by
  obtain ⟨pre, post, hl, _⟩ := U.split
  rw [hl]; exact List.mem_append_right _ (.head _)
theorem nextCall {it l : Addr} {vs : List Value} {k i : Nat} {v : Value} {Q : Value → Shared → Prop} (F : Fr h₀ L s.heap m) (N : News h₀ L s.heap news) (U : Upd it (lit l i) (lit l (i + 1)) news news') (hm : (l, W.listOf vs.toArray k) ∈ news) (hv : vs[i]? = some v)
    (h : ∀ h', Fr h₀ L h' m → News h₀ L h' news' → Q v { s with heap := h' }) : wpAny (model prog w) A (call (.builtin "next") [.ref it]) Q E s := by
  have hi := N _ (upd_mem U)
  have hit := lit_is hi.1
  have hl := list_is N hm
  refine call_function_entry (by decide +kernel) (by decide +kernel) kdk_entry_next (kdk_args_next _) ?_
  unfold Builtin.«next»
  refine wpAny_bind (m := someArgs "next" 1 2 _) (wpAny_of_eq (a := [Value.ref it]) (by first | rfl | kernel_rfl!) ?_)
  dsimp only
  refine wpAny_bind (wpAny_specialOf (name := Str.ofString "__next__") hit.typeIs slot_listiter_next.lookup ?_)
  refine wpAny_ite_split (fun hab => absurd hab (by decide)) (fun _ => ?_)
  refine wpAny_bind ?_
  obtain ⟨o, ho, hc, hd⟩ := id hit
  obtain ⟨ol, hol, _, nl, hdl⟩ := hl
  have eo : o = lit l i := by rw [hi.1] at ho; exact (Option.some.inj ho).symm
  subst eo
  refine wpAny_callSpecial?_slot (name := Str.ofString "__next__") hit.typeIs slot_listiter_next
    (wpAny_call_entry slot_listiter_next hit.typeIs entry_listiter_next ?_ (args_listiter_next _))
  show wpAny _ _ (field (.ref it) 0 >>= _) _ _ s
  refine wpAny_bind (wpAny_field ho hd (x := .ref l) rfl ?_)
  show wpAny _ _ (if (Value.ref l == Value.none) = true then _ else _) _ _ s
  rw [if_neg (show ¬ ((Value.ref l == Value.none) = true) from Bool.false_ne_true)]
  show wpAny _ _ (field (.ref it) 1 >>= _) _ _ s
  refine wpAny_bind (wpAny_field ho hd (x := .int i 0) rfl ?_)
  show wpAny _ _ (seqItems? (.ref l) >>= _) _ _ s
  refine wpAny_bind (wpAny_seqItems hol hdl ?_)
  have hv' : vs.toArray[i]? = some v := by simpa using hv
  simp only [Int.toNat_natCast, hv']
  refine wpAny_bind (wpAny_setField ho hd (by simp) (wpAny_pure ⟨v, rfl, ?_⟩))
  have hs : Heap.SameBut it s.heap (s.heap.update it (Obj.mapFields (·.setIfInBounds 1 (rawInt ((i : Int) + 1))))) := Heap.SameBut.update ..
  refine wpAny_pure ⟨v, rfl, h _ (F.change hs hi.2.1 hi.2.2) (updNews N U hs ?_)⟩
  exact Heap.get?_update_self _ ho (Obj.isFreed_of_fields (Obj.data_mapFields hd _))
theorem nextEnd {it l : Addr} {vs : List Value} {k i : Nat} {Q : Value → Shared → Prop} (hh : A.handled = none) (F : Fr h₀ L s.heap m) (N : News h₀ L s.heap news) (U : Upd it (lit l i) (litDone i) news news') (hm : (l, W.listOf vs.toArray k) ∈ news) (hv : vs.length ≤ i)
    (h : ∀ h₁ h' e, Fr h₀ L h₁ m → News h₀ L h₁ news' → Heap.MadeExcOf h₁ h' e (.type "StopIteration") [] → E (.ref e) { s with heap := h' }) : wpAny (model prog w) A (call (.builtin "next") [.ref it]) Q E s := by
  have hi := N _ (upd_mem U)
  have hit := lit_is hi.1
  have hl := list_is N hm
  refine call_function_entry (by decide +kernel) (by decide +kernel) kdk_entry_next (kdk_args_next _) ?_
  unfold Builtin.«next»
  refine wpAny_bind (m := someArgs "next" 1 2 _) (wpAny_of_eq (a := [Value.ref it]) (by first | rfl | kernel_rfl!) ?_)
  dsimp only
  refine wpAny_bind (wpAny_specialOf (name := Str.ofString "__next__") hit.typeIs slot_listiter_next.lookup ?_)
  refine wpAny_ite_split (fun hab => absurd hab (by decide)) (fun _ => ?_)
  refine wpAny_bind ?_
  obtain ⟨o, ho, hc, hd⟩ := id hit
  obtain ⟨ol, hol, _, nl, hdl⟩ := hl
  have eo : o = lit l i := by rw [hi.1] at ho; exact (Option.some.inj ho).symm
  subst eo
  refine wpAny_callSpecial?_slot (name := Str.ofString "__next__") hit.typeIs slot_listiter_next
    (wpAny_call_entry slot_listiter_next hit.typeIs entry_listiter_next ?_ (args_listiter_next _))
  show wpAny _ _ (field (.ref it) 0 >>= _) _ _ s
  refine wpAny_bind (wpAny_field ho hd (x := .ref l) rfl ?_)
  show wpAny _ _ (if (Value.ref l == Value.none) = true then _ else _) _ _ s
  rw [if_neg (show ¬ ((Value.ref l == Value.none) = true) from Bool.false_ne_true)]
  show wpAny _ _ (field (.ref it) 1 >>= _) _ _ s
  refine wpAny_bind (wpAny_field ho hd (x := .int i 0) rfl ?_)
  show wpAny _ _ (seqItems? (.ref l) >>= _) _ _ s
  refine wpAny_bind (wpAny_seqItems hol hdl ?_)
  have hv' : vs.toArray[i]? = none := by simp; omega
  simp only [Int.toNat_natCast, hv']
  refine wpAny_bind (wpAny_rule (wpAny_bind (wpAny_setField ho hd (by simp) ?_)))
  show wpAny _ _ (newExc (.type "StopIteration") [] >>= _) _ _ _
  refine wpAny_bind ?_
  simp only [newExc, newTuple]
  refine wpAny_bind (wpAny_newObj_type ?_ (by size_fits))
  refine wpAny_bind (m := firstArgMember _ _) (wpAny_of_eq (a := Value.none) (by first | rfl | (simp only [firstArgMember]; rfl)) ?_)
  refine wpAny_newObj_type ?_ (by size_fits)
  simp only [raiseNew]
  refine wpAny_bind (wpAny_handled ?_)
  rw [show A.in1.in1.handled = none from hh]
  refine wpAny_bind (wpAny_pure (wpAny_throw ?_))
  have hs : Heap.SameBut it s.heap (s.heap.update it (Obj.mapFields (·.setIfInBounds 0 Value.none))) := Heap.SameBut.update ..
  refine h _ _ _ (F.change hs hi.2.1 hi.2.2) (updNews N U hs (Heap.get?_update_self _ ho (Obj.isFreed_of_fields (Obj.data_mapFields hd _)))) ⟨fun b o hb => Heap.get?_push_of_some _ (Heap.get?_push_of_some _ hb), Heap.get?_none_of_le (by simp), _, Heap.get?_push_size _ rfl, Heap.get?_none_of_le (by simp), ?_⟩
  exact Heap.get?_push_of_some _ (Heap.get?_push_size _ rfl)
end

section
variable {prog : Program} {w : World} {A₀ A : Around} {s : Shared} {base h₀ : Heap} {L : Addr} {m : Str → Option Value} {env : Env} {news : List (Addr × Obj)}
  {R : Result → Shared → Prop} {name qual : Str} {params : Arguments} {body : List Stmt} {scope : Scope} {cl : List (Str × Addr)} {dV kV doc pm cdv ct : Value} {an : Option Addr} {fo : Obj} {f : Addr} {args : Args} {binds : List (Str × Value)}
/-- a def called from the outermost frame that catches: behind it the frame's own slots may have turned -/
theorem enterTry (B : Below A₀ base [] h₀) (F : Fr h₀ L s.heap m) (N : News h₀ L s.heap news) (hlim : h₀.NoLimit) (hA : A.frames = some [env]) (hf : env.frame = some L) (hke : env.scope.kind = .function)
    (ho : s.heap.get? f = some fo) (hd : fo.data = .func (fnX name qual params body scope cl dV kV doc pm an cdv ct)) (hcd : s.heap.CodeRec cdv qual) (hroom : A.depth < recursionLimit)
    (hbind : BindsTo s (fnX name qual params body scope cl dV kV doc pm an cdv ct) args binds) (hloc : ∀ y ∈ binds, scope.names.lookup y.1 = some .local)
    (h : ∀ g L' h₁, Fr h₀ L g m → Fr g L' h₁ (fun y => binds.reverse.lookup y) → News g L' h₁ news → Below A base [env] g → h₀.StaysIn g → KtsDicts [L] g → (∀ p ∈ news, p.1 < L') →
      wpAny (model prog w) (A.deeper (envX qual scope L' f cdv cl)) (execs body (envX qual scope L' f cdv cl))
        (fun fl s' => LeaveS0 [L] h₀ L m g R (match fl with | .ret v => v | _ => .none) s')
        (fun e s' => wpAny (model prog w) (A.deeper (envX qual scope L' f cdv cl)) (leaving (envX qual scope L' f cdv cl) e) (fun _ s'' => R (.error e) s'') (fun e' s'' => R (.error e') s'') s')
        { s with heap := h₁, toks := s.toks + binds.length })
    (hcell : ∀ x ∈ scope.names, x.2 ≠ .cell) (hco : scope.isCoroutine = false := by rfl) (hgen : scope.isGenerator = false := by rfl) (hk : scope.kind = .function := by rfl) : codeAny (model prog w) A (.call (.ref f) args) R s := by
  obtain ⟨FG, BG, st, _⟩ := groundX (R := R) B F N hA hf hke
  have hnL : h₀.get? L = none := kts_self F
  obtain ⟨oL, es, ep, hLg, hLd, hLk, hLf⟩ := id FG.ns
  have D : KtsDicts [L] (hideAll s.heap (news.map (·.1))) := fun b hb => by
    rw [List.mem_singleton.mp hb]
    exact ⟨oL, es, ep, hLg, hLd⟩
  refine codeAny_call_def (fd := fnX name qual params body scope cl dV kV doc pm an cdv ct) (body := body) (binds := binds) hroom ho hd (hlim.keeps F.keep) hcd rfl hbind hcell hloc (fun h₁ hns hk₁ => ?_) hco hgen hk
  refine wpAny_mono (h _ s.heap.objs.size h₁ FG ⟨hns, fun b o e => hk₁ b o (of_hideAll _ e), Nat.le_of_eq (hideAll_size _ _)⟩
    (fun p hp => ⟨hk₁ _ _ (N p hp).1, Nat.ne_of_lt (Heap.lt_size (N p hp).1), hideAll_none _ (List.mem_map_of_mem hp)⟩) BG st D (fun p hp => Heap.lt_size (N p hp).1)) (fun fl s' hl => ?_) fun _ _ y => y
  obtain ⟨g', L', m', news', T, F', N', k⟩ := hl
  obtain ⟨sl, hs⟩ := T.up hLg
  refine k ⟨⟨_, es, ep, F'.keep _ _ hs, hLd, hLk, hLf⟩, fun b o e => F'.keep b o (T.other b o (st b o e) fun q => ?_), F.above⟩ fun p hp => ⟨(N' p hp).1, fun q => ?_, ?_⟩
  · rw [List.mem_singleton.mp q, hnL] at e; cases e
  · have := (N' p hp).2.2; rw [q, hs] at this; cases this
  · cases q : h₀.get? p.1 with
    | none => rfl
    | some o =>
      obtain ⟨sl', hs'⟩ := T.up (st _ _ q)
      have := (N' p hp).2.2
      rw [hs'] at this
      cases this
end

section
variable {prog : Program} {w : World} {A₀ A : Around} {s : Shared} {base h₀ : Heap} {L : Addr} {m : Str → Option Value} {env : Env} {news : List (Addr × Obj)} {K : Frag} {p : Program} {loose : List Str} {mean : ExcName → Option Value} {mg mb : Str → Option Value}
  {R : Result → Shared → Prop} {name qual : Str} {params : Arguments} {body : List Stmt} {scope : Scope} {dV kV doc pm cdv ct oc : Value} {an od : Option Addr} {osl : Array (Option Value)} {f : Addr} {args : Args} {binds : List (Str × Value)}
theorem enterTryK (B : Below A₀ base [] h₀) (F : Fr h₀ L s.heap m) (X₀ : K.In h₀) (N : News h₀ L s.heap news) (T : Top p loose mean mg mb h₀) (hA : A.frames = some [env]) (hf : env.frame = some L) (hke : env.scope.kind = .function)
    (ho : K.lookup f = some ⟨oc, od, .func (fnOf name qual params body scope dV kV doc pm an cdv ct), osl⟩) (hcd : codeIn K cdv qual = true) (hroom : A.depth < recursionLimit)
    (hbind : BindsTo s (fnOf name qual params body scope dV kV doc pm an cdv ct) args binds) (hloc : ∀ y ∈ binds, scope.names.lookup y.1 = some .local)
    (h : ∀ g L' h₁, Fr h₀ L g m → Fr g L' h₁ (fun y => binds.reverse.lookup y) → News g L' h₁ news → Below A base [env] g → K.In g → Top p loose mean mg mb g → KtsDicts [L] g → (∀ p ∈ news, p.1 < L') →
      wpAny (model prog w) (A.deeper (envOf qual scope L' f cdv)) (execs body (envOf qual scope L' f cdv))
        (fun fl s' => LeaveS0 [L] h₀ L m g R (match fl with | .ret v => v | _ => .none) s')
        (fun e s' => wpAny (model prog w) (A.deeper (envOf qual scope L' f cdv)) (leaving (envOf qual scope L' f cdv) e) (fun _ s'' => R (.error e) s'') (fun e' s'' => R (.error e') s'') s')
        { s with heap := h₁, toks := s.toks + binds.length })
    (hco : scope.isCoroutine = false) (hgen : scope.isGenerator = false) (hk : scope.kind = .function) (hcell : ∀ x ∈ scope.names, x.2 ≠ .cell) : codeAny (model prog w) A (.call (.ref f) args) R s :=
  have X := X₀.keeps F.keep
  enterTry B F N T.nolimit hA hf hke (X _ _ ho) rfl (codeRec_of X hcd) hroom hbind hloc (fun g L' h₁ FG F' N' B' st D lt => h g L' h₁ FG F' N' B' (X₀.keeps st) (T.keeps st) D lt) hcell hco hgen hk
end
end
local macro_rules | `(tactic| walk_at "KEEP") => `(tactic| (intro z h2 h3; (repeat' (first | exact kp_end h3 | exact kp_kst h2 (by rfl) (kp_end h3) | refine kp_if (kp_ne3 h3 (by rfl)) ?_ | refine kp_if (kp_ne2 h2 (by rfl)) ?_ | refine kp_kst h2 (by rfl) ?_ | refine kp_cut (kp_sub h3 (by rfl)) ?_)); done))
section
section
variable {M : Model} {A : Around} {R : GenEnd} {Y : Protocol} {n : Nat} {s₀ : Shared} {c : Code} {fs : List PySem.Frame} {s : Shared} {env : Env}
  {K : Flow → Sem Fin} {H : Value → Sem Fin} {gd : Bool → Bool} {lv : List Value → List Value}
theorem seg_If {test : Expr} {body orelse : List Stmt} {pos : Pos}
    (h : wpAny M (A.over c fs) (isTrue test env (eval test env)) (fun b s' => if b = true then Seg M A R Y n s₀ c ((execs body env).wrap K H gd lv) fs s' else Seg M A R Y n s₀ c ((execs orelse env).wrap K H gd lv) fs s')
      (fun x s' => Seg M A R Y n s₀ c (H x) fs s') s) :
    Seg M A R Y n s₀ c ((exec (.If test body orelse pos) env).wrap K H gd lv) fs s := by
  show Seg M A R Y n s₀ c ((standAt pos >>= fun _ => isTrue test env (eval test env) >>= fun b => if b = true then execs body env else execs orelse env).wrap K H gd lv) fs s
  refine seg_bind_wrap (wpAny_standAt (seg_bind_wrap (wpAny_mono h (fun b s' hb => ?_) fun _ _ e => e)))
  cases b with
  | true => exact hb
  | false => exact hb
theorem seg_Assign {st : Stmt} (h : wpAny M (A.over c fs) (exec st env) (fun f s' => f = .next ∧ Seg M A R Y n s₀ c (K .next) fs s') (fun x s' => Seg M A R Y n s₀ c (H x) fs s') s) :
    Seg M A R Y n s₀ c ((exec st env).wrap K H gd lv) fs s := seg_wrap (wpAny_mono h (fun f s' ⟨e, h⟩ => e ▸ h) fun _ _ e => e)
theorem seg_For {target iter : Expr} {body orelse : List Stmt} {pos : Pos} (hs : ∀ x, foldedSetIterable iter env x = pure x)
    (h : wpAny M (A.over c fs) (eval iter env) (fun x s₁ => wpAny M (A.over c fs) (pyIter x) (fun it s₂ => ∀ p, Seg M A R Y n s₀ (.forLoop target it body orelse env) (M.den (.forLoop target it body orelse env))
      (.ret (fun r => ((match r with | .ok f => (.pure f : Sem Flow) | .error e => .raise e).onRaise fun (x : Value) => do
        if (← field x 1) == Value.none then unsupported "frame.own-activation:exception-without-traceback"
        setFlight x env.frame).wrap K H gd lv) none (gd false) (lv []) c p [] :: fs) s₂) (fun x s' => Seg M A R Y n s₀ c (H x) fs s') s₁) (fun x s' => Seg M A R Y n s₀ c (H x) fs s') s) :
    Seg M A R Y n s₀ c ((exec (.For target iter body orelse pos) env).wrap K H gd lv) fs s := by
  rw [exec_For]
  refine seg_bind_wrap (wpAny_standAt (seg_bind_wrap (wpAny_mono h (fun x s₁ h₁ => seg_bind_wrap (wpAny_of_eq (hs x) (seg_bind_wrap (wpAny_standAt (seg_bind_wrap (wpAny_holding (wpAny_mono h₁ (fun it s₂ h₂ => ?_) fun _ _ e => e))))))) fun _ _ e => e)))
  exact seg_call h₂
end
section
variable {prog : Program} {w : World} {A : Around} {R : GenEnd} {Y : Protocol} {n : Nat} {s₀ : Shared} {fs : List PySem.Frame} {s : Shared} {env : Env}
theorem seg_forLoop {target : Expr} {it : Value} {body orelse : List Stmt}
    (h : wpAny (model prog w) (A.over (.forLoop target it body orelse env) fs) (pyNext it) (fun r s₁ => match r with
        | none => Seg (model prog w) A R Y n s₀ (.block orelse env) ((model prog w).den (.block orelse env)) fs s₁
        | some v => wpAny (model prog w) (A.over (.forLoop target it body orelse env) fs) (letOwnedTupleGo target it v) (fun _ s₂ => wpAny (model prog w) (A.over (.forLoop target it body orelse env) fs) (assign target env v) (fun _ s₃ =>
            Seg (model prog w) A R Y n s₀ (.forLoop target it body orelse env) ((execs body env).wrap (fun f => match f with
              | .next | .cont => .pure (.again (.forLoop target it body orelse env))
              | .brk => .pure (.done .next)
              | .ret v => .pure (.done (.ret v))) (fun e => (do noteFrame e env; theTreesLotGoes e : Sem Unit).wrap (fun _ => .raise e) .raise id id) id id) fs s₃) (fun _ _ => False) s₂) (fun _ _ => False) s₁)
      (fun _ _ => False) s) :
    Seg (model prog w) A R Y n s₀ (.forLoop target it body orelse env) ((model prog w).den (.forLoop target it body orelse env)) fs s := by
  show Seg _ A R Y n s₀ _ ((forTurn target it body orelse env).onRaise (fun x => do noteFrame x env; theTreesLotGoes x)) fs s
  unfold forTurn
  rw [Sem.onRaise_eq_wrap]
  refine seg_bind_wrap (wpAny_standAt (seg_bind_wrap (wpAny_onRaise (wpAny_mono h (fun r s₁ h₁ => ?_) fun _ _ f => f.elim))))
  cases r with
  | none => exact seg_again rfl h₁
  | some v =>
    refine seg_bind_wrap (wpAny_mono h₁ (fun _ s₂ h₂ => seg_bind_wrap (wpAny_mono h₂ (fun _ s₃ h₃ => ?_) fun _ _ f => f.elim)) fun _ _ f => f.elim)
    rw [Sem.bind_eq_wrap', Sem.wrap_wrap]
    rw [Sem.wrap_congr (execs body env) _ _ (K' := fun f => match f with
            | .next | .cont => .pure (.again (.forLoop target it body orelse env))
            | .brk => .pure (.done .next)
            | .ret v => .pure (.done (.ret v))) (H' := (fun e => (do noteFrame e env; theTreesLotGoes e : Sem Unit).wrap (fun _ => .raise e) .raise id id))
        (fun f => by cases f <;> rfl)
        (fun e => by first | exact Sem.bind_eq_wrap _ _ | (show (do noteFrame e env; theTreesLotGoes e : Sem Unit).bind (fun _ => .raise e) = _; rw [Sem.bind_eq_wrap]))]
    exact h₃
theorem seg_block_nil {k h g l c₁ p₁ kp c} (hk : Seg (model prog w) A R Y n s₀ c₁ (k (.ok .next)) fs s) (hc : c = Code.block [] env) :
    Seg (model prog w) A R Y n s₀ c ((model prog w).den (.block [] env)) (.ret k h g l c₁ p₁ kp :: fs) s := by
  have := seg_leaf (c := c) (M := model prog w) (A := A) (R := R) (Y := Y) (n := n) (s₀ := s₀) (s := s) (fs := fs) (h := h) (g := g) (l := l) (p₁ := p₁) (kp := kp) (Except.ok Flow.next) hk
  exact this
end
end
section
open LCg (NsObj lst lst_snoc fr_but news_but ns_obj)
noncomputable abbrev testsOf (ifs : List Expr) (env : Env) : Sem Bool := forIn ifs true fun c r => if r = true then do let ok ← isTrue c env (eval c env); pure (ForInStep.yield ok) else pure (ForInStep.yield r)
/-- a turn of a list comprehension is over: the state, the ledger with the block's own objects, the values so far -/
inductive CTurn {σ : Type} (h₀ : Heap) (L : Addr) (m : Str → Option Value) (s : Shared) (I : Addr) (oI : Obj) (C : Addr) (oC : Obj) (D : Addr) (Led : σ → List (Addr × Obj)) (ys : σ → List Value) (gs : σ → Array GenState) (P : σ → Prop) (c : σ) (y : Option Value) (s₄ : Shared) : Prop
  | mk (h' : Heap) (tk : Nat) (c' : σ) (all : List (Addr × Obj)) (e : s₄ = { s with heap := h', toks := tk, gens := gs c' }) (F : Fr h₀ L h' m) (N : News h₀ L h' all) (zI : (I, oI) ∈ all) (zC : (C, oC) ∈ all) (zD : (D, lst (ys c)) ∈ all) (hs : ∀ p ∈ Led c', p ∈ all) (off : ∀ p ∈ Led c', p.1 ≠ I ∧ p.1 ≠ C ∧ p.1 ≠ D) (hP : P c') (hy : ys c' = ys c ++ y.toList) : CTurn h₀ L m s I oI C oC D Led ys gs P c y s₄
inductive CInv {σ : Type} (h₀ : Heap) (L : Addr) (m : Str → Option Value) (s : Shared) (I C D : Addr) (n : Nat) (Led : σ → List (Addr × Obj)) (ys : σ → List Value) (gs : σ → Array GenState) (P : Nat → σ → Prop) (St : Nat → Heap → Prop) (k : Nat) (s' : Shared) : Prop
  | mk (h' : Heap) (tk i : Nat) (c : σ) (m' : Str → Option Value) (e : s' = { s with heap := h', toks := tk, gens := gs c }) (hi : i ≤ n) (hk : k = n + 1 - i) (hP : P i c) (hst : St i h') (F : Fr h₀ L h' m) (hn : h'.Ns C m') (N : News h₀ L h' ((D, lst (ys c)) :: Led c))
    (off : ∀ p ∈ Led c, p.1 ≠ I ∧ p.1 ≠ C ∧ p.1 ≠ D) : CInv h₀ L m s I C D n Led ys gs P St k s'
noncomputable def CompBlk (prog : Program) (w : World) (A : Around) (E : Value → Shared → Prop) (env : Env) (elt : Expr) (x : Str) (px : Pos) (ifs : List Expr) (iter : Expr) (scope : Scope) (cl : List (Str × Addr)) (pos : Pos) (use : Option (Value → Sem Unit)) (Q : Value → Shared → Prop) (it : Value) (s₂ : Shared) : Prop :=
  wpAny (model prog w) A (newList []) (fun acc s₃ => wpAny (model prog w) A (newFunctionEnv scope env.globals cl [] env.qual none .none (some env)) (fun cenv s₄ =>
    codeAny (model prog w) A (.compStart (.ListComp elt [⟨.Name x px, iter, ifs, 0⟩] scope pos) 0 it acc { cenv with scope := relabel scope env }) (compPost (model prog w) A E use Q acc cenv.locals) s₄) E s₃) E s₂
section
variable {prog : Program} {w : World} {A : Around} {E : Value → Shared → Prop} {s : Shared} {h₀ : Heap} {L : Addr} {m : Str → Option Value} {env : Env}
theorem compE {elt iter : Expr} {x : Str} {px : Pos} {ifs : List Expr} {scope : Scope} {cl : List (Str × Addr)} {pos : Pos} {Q : Value → Shared → Prop}
    (hclos : closureFor scope env = pure cl) (hkind : scope.kind = .function) (hnames : ∀ y ∈ scope.names, y.2 = .local → scope.names.lookup y.1 = some .local)
    (h : wpAny (model prog w) A (eval iter env) (fun xv s₁ => wpAny (model prog w) A (pyIter xv) (fun it s₂ => CompBlk prog w A E env elt x px ifs iter scope cl pos none Q it s₂) E s₁) E s)
    (hs : ∀ x, foldedSetIterable iter env x = pure x := by intro _; rfl) :
    wpAny (model prog w) A (eval (.ListComp elt [⟨.Name x px, iter, ifs, 0⟩] scope pos) env) Q E s := by
  rw [eval_ListComp]
  exact wpAny_comprehension_free (use := none) rfl hs hclos hkind hnames h
theorem compA {elt iter : Expr} {x y : Str} {px py : Pos} {ifs : List Expr} {scope : Scope} {cl : List (Str × Addr)} {pos spos : Pos} {Q : Flow → Shared → Prop}
    (hsw : swapsWith (.ListComp elt [⟨.Name x px, iter, ifs, 0⟩] scope pos) (some (.Name y py)) spos.line env = pure true)
    (hclos : closureFor scope env = pure cl) (hkind : scope.kind = .function) (hnames : ∀ y ∈ scope.names, y.2 = .local → scope.names.lookup y.1 = some .local)
    (h : wpAny (model prog w) A (eval iter env) (fun xv s₁ => wpAny (model prog w) A (pyIter xv) (fun it s₂ => CompBlk prog w A E env elt x px ifs iter scope cl pos (some (assign (.Name y py) env)) (fun _ s' => Q .next s') it s₂) E s₁) E s)
    (hs : ∀ x, foldedSetIterable iter env x = pure x := by intro _; rfl) :
    wpAny (model prog w) A (exec (.Assign [.Name y py] (.ListComp elt [⟨.Name x px, iter, ifs, 0⟩] scope pos) spos) env) Q E s := by
  rw [exec_Assign_Name_used _ _ _ _ hsw]
  refine wpAny_bind (wpAny_standAt (wpAny_bind ?_))
  show wpAny _ A (do let _ ← comprehension (.ListComp elt [⟨.Name x px, iter, ifs, 0⟩] scope pos) scope env _ (newList []) false (eval iter env) (some (assign (.Name y py) env))) _ _ s
  exact wpAny_bind (wpAny_mono (wpAny_comprehension_free (use := some (assign (.Name y py) env)) (Q := fun _ s' => Q .next s') rfl hs hclos hkind hnames h) (fun _ s' hq => wpAny_pure (wpAny_pure hq)) fun _ _ e => e)

theorem blockG {σ : Type} {elt iter : Expr} {x : Str} {px : Pos} {ifs : List Expr} {scope : Scope} {cl : List (Str × Addr)} {pos : Pos} {use : Option (Value → Sem Unit)} {Q : Value → Shared → Prop} {I : Addr} {fp : List Addr} {n : Nat} {Pv : Nat → Value → Prop} {St : Nat → Heap → Prop} {news₀ : List (Addr × Obj)}
    (Led : σ → List (Addr × Obj)) (ys : σ → List Value) (gs : σ → Array GenState) (P : Nat → σ → Prop) (c₀ : σ)
    (W : Walks prog w A I fp [I] n Pv St) (hsz : n ≤ sizeLine) (hI : ∀ i h, St i h → ∃ o, h.get? I = some o)
    (hfp : ∀ b ∈ fp, b = I ∨ (∃ o, h₀.get? b = some o) ∨ ∃ o, ∀ i c, P i c → (b, o) ∈ Led c)
    (hcell : ∀ y ∈ scope.names, y.2 ≠ .cell) (hkind : scope.kind = .function) (hx : scope.names.lookup x = some .local)
    (hst : St 0 s.heap) (F : Fr h₀ L s.heap m) (N : News h₀ L s.heap news₀) (hn : ∀ p ∈ Led c₀, p ∈ news₀) (hnI : ∀ p ∈ Led c₀, p.1 ≠ I) (hIL : I ≠ L) (hI0 : h₀.get? I = none) (hg : s.gens = gs c₀) (hy : ys c₀ = []) (hlen : ∀ i c, P i c → (ys c).length ≤ i) (hp : P 0 c₀)
    (turn : ∀ i c v oI C oC D m₂ h tk (E' : Value → Shared → Prop), i < n → Pv i v → P i c → NsObj oC m₂ → m₂ x = some v → Fr h₀ L h m → News h₀ L h ((I, oI) :: (C, oC) :: (D, lst (ys c)) :: Led c) → ((@Ne Nat I C) ∧ (@Ne Nat I D) ∧ (@Ne Nat C D)) → (∀ p ∈ Led c, p.1 ≠ I ∧ p.1 ≠ C ∧ p.1 ≠ D) →
      wpAny (model prog w) A (testsOf ifs (compEnvC scope cl C env)) (fun ok s₃ => if ok = true then wpAny (model prog w) A (eval elt (compEnvC scope cl C env)) (fun y s₄ => CTurn h₀ L m s I oI C oC D Led ys gs (P (i + 1)) c (some y) s₄) E' s₃
        else CTurn h₀ L m s I oI C oC D Led ys gs (P (i + 1)) c none s₃) E' { s with heap := h, toks := tk, gens := gs c })
    (done : ∀ c C oC D m₂ h tk, P n c → NsObj oC m₂ → Fr h₀ L h m → News h₀ L h ((C, oC) :: (D, lst (ys c)) :: Led c) → (@Ne Nat C D) → (∀ p ∈ Led c, p.1 ≠ C ∧ p.1 ≠ D) →
      compPost (model prog w) A E use Q (.ref D) C (.ok .next) { s with heap := h, toks := tk, gens := gs c }) :
    CompBlk prog w A E env elt x px ifs iter scope cl pos use Q (.ref I) s := by
  unfold CompBlk
  refine wpAny_newObj_type (wpAny_newFunctionEnv hcell (by intro y hy; simp at hy) (fun h₁ hns₁ hsb₁ => ?_) hkind)
  dsimp only at hns₁ hsb₁ ⊢
  generalize hH2 : s.heap.push { cls := .type "list", dict := none, data := .seq ([] : List Value).toArray } = H2 at hns₁ hsb₁ ⊢
  have hC : H2.objs.size = s.heap.objs.size + 1 := by rw [← hH2, Heap.size_push]
  have hDC : s.heap.objs.size ≠ H2.objs.size := by rw [hC]; exact Nat.ne_of_lt (Nat.lt_succ_self _)
  have below : ∀ b, b < s.heap.objs.size → b ≠ H2.objs.size ∧ b ≠ s.heap.objs.size := fun b hb => ⟨by rw [hC]; exact Nat.ne_of_lt (Nat.lt_succ_of_lt hb), Nat.ne_of_lt hb⟩
  have hIf : I ∈ fp := W.sub I (List.mem_singleton.mpr rfl)
  have hfp2 : ∀ b ∈ fp, b < s.heap.objs.size := by
    intro b hb
    rcases hfp b hb with rfl | ⟨o, ho⟩ | ⟨o, ho⟩
    · obtain ⟨o, ho⟩ := hI _ _ hst; exact Heap.lt_size ho
    · exact Heap.lt_size (F.keep _ _ ho)
    · exact Heap.lt_size (N _ (hn _ (ho 0 c₀ hp))).1
  have hDf : s.heap.objs.size ∉ fp := fun hm => Nat.lt_irrefl _ (hfp2 _ hm)
  have hCf : H2.objs.size ∉ fp := fun hm => by have := hfp2 _ hm; rw [hC] at this; exact Nat.lt_irrefl _ (Nat.lt_of_succ_lt this)
  have hIlt : I < s.heap.objs.size := hfp2 I hIf
  have old : ∀ b o, s.heap.get? b = some o → h₁.get? b = some o := fun b o e => hsb₁.extBut b o (below b (Heap.lt_size e)).1 (Heap.get?_push_of_some _ (hH2 ▸ Heap.get?_push_of_some _ e))
  have hacc : h₁.get? s.heap.objs.size = some (lst []) := hsb₁.extBut _ _ hDC (Heap.get?_push_of_some _ (hH2 ▸ Heap.get?_push_size _ rfl))
  have hst₁ : St 0 h₁ := W.frame _ _ _ hst fun b _ o e => old b o e
  have fresh : ∀ a, s.heap.objs.size ≤ a → s.heap.get? a = none := fun a ha => by
    cases e : s.heap.get? a with
    | none => rfl
    | some o' => exact absurd (Heap.lt_size e) (Nat.not_lt.mpr ha)
  have fresh₀ : ∀ a, s.heap.objs.size ≤ a → h₀.get? a = none := fun a ha => by
    cases e : h₀.get? a with
    | none => rfl
    | some o' => have := F.keep a o' e; rw [fresh a ha] at this; cases this
  have hD₀ : h₀.get? s.heap.objs.size = none := fresh₀ _ (Nat.le_refl _)
  have hC₀ : h₀.get? H2.objs.size = none := fresh₀ _ (by rw [hC]; exact Nat.le_succ _)
  have hLlt : L < s.heap.objs.size := F.ns.lt
  have hDL : s.heap.objs.size ≠ L := Ne.symm (below L hLlt).2
  have hCL : H2.objs.size ≠ L := Ne.symm (below L hLlt).1
  have hCI : I ≠ H2.objs.size := (below I hIlt).1
  have hDI : I ≠ s.heap.objs.size := (below I hIlt).2
  have off₀ : ∀ p ∈ Led c₀, p.1 ≠ I ∧ p.1 ≠ H2.objs.size ∧ p.1 ≠ s.heap.objs.size := fun p hp => ⟨hnI p hp, (below _ (Heap.lt_size (N p (hn p hp)).1)).1, (below _ (Heap.lt_size (N p (hn p hp)).1)).2⟩
  have loop : ∀ s₃ : Shared, s₃ = { s with heap := h₁, toks := s.toks + ([] : List (Str × Value)).length } →
      codeAny (model prog w) A (.compLoop (.ListComp elt [⟨.Name x px, iter, ifs, 0⟩] scope pos) 0 (.ref I) (.ref s.heap.objs.size) (compEnvC scope cl H2.objs.size env))
        (compPost (model prog w) A E use Q (.ref s.heap.objs.size) H2.objs.size) s₃ := by
    rintro s₃ rfl
    refine codeAny_compLoop_tests
      (CInv h₀ L m s I H2.objs.size s.heap.objs.size n Led ys gs P St) ?_ (n + 1)
      ⟨h₁, _, 0, c₀, _, by rw [← hg], Nat.zero_le _, rfl, hp, hst₁, F.keeps old, hns₁, fun p hp => ?_, off₀⟩
    · rintro k s' ⟨h', tk, i, c, m', rfl, hi, rfl, hP, hst', F', hn', N', off'⟩
      by_cases hlt : i < n
      · refine W.item i _ _ _ hlt hst' fun v h₂ tk₂ hPv hst₂ hk₂ => ?_
        refine wpAny_assign_Name (wpAny_storeName_local (lookup_relabel_local hx) (hn'.at' fun o e => hk₂ _ o (by simpa using Ne.symm hCI) e) (fun h₃ hn₃ hs₃ => ?_) (by simp [compEnvC, relabel, hkind]))
        have hst₃ : St (i + 1) h₃ := W.frame _ _ _ hst₂ fun b hb o e => hs₃.extBut b o (fun q => hCf (by have q' : b = H2.objs.size := q; rw [← q']; exact hb)) e
        obtain ⟨oI, heI⟩ := hI _ _ hst₃
        obtain ⟨oC, heC, hoC⟩ := ns_obj hn₃
        have F₃ : Fr h₀ L h₃ m := (fr_but F' hk₂ (Ne.symm hIL) hI0).change hs₃ hCL hC₀
        have N₂ : News h₀ L h₂ ((s.heap.objs.size, lst (ys c)) :: Led c) := news_but N' hk₂ fun p hp => by
          rcases List.mem_cons.mp hp with rfl | hp
          · exact Ne.symm hDI
          · exact (off' p hp).1
        have N₃ : News h₀ L h₃ ((I, oI) :: (H2.objs.size, oC) :: (s.heap.objs.size, lst (ys c)) :: Led c) := fun p hp => by
          rcases List.mem_cons.mp hp with rfl | hp
          · exact ⟨heI, hIL, hI0⟩
          · rcases List.mem_cons.mp hp with rfl | hp
            · exact ⟨heC, hCL, hC₀⟩
            · have z := N₂ p hp
              refine ⟨hs₃.extBut _ _ ?_ z.1, z.2⟩
              rcases List.mem_cons.mp hp with rfl | hp
              · exact hDC
              · exact (off' p hp).2.1
        refine wpAny_mono (turn i c v oI H2.objs.size oC s.heap.objs.size _ h₃ _ _ hlt hPv hP hoC (by simp) F₃ N₃ ⟨hCI, hDI, Ne.symm hDC⟩ off') (fun ok s₃ h₃' => ?_) fun _ _ e => e
        have stUp : ∀ (h₄ : Heap) (c' : σ) (all : List (Addr × Obj)), P (i + 1) c' → Fr h₀ L h₄ m → News h₀ L h₄ all → (I, oI) ∈ all → (∀ p ∈ Led c', p ∈ all) → St (i + 1) h₄ := by
          intro h₄ c' all hP' F₄ N₄ zI hs₄
          refine W.frame _ _ _ hst₃ fun b hb o e => ?_
          rcases hfp b hb with rfl | ⟨o', ho'⟩ | ⟨o', ho'⟩
          · have : oI = o := by rw [heI] at e; exact Option.some.inj e
            subst this
            exact (N₄ _ zI).1
          · have : o' = o := by have := F₃.keep b o' ho'; rw [e] at this; exact (Option.some.inj this).symm
            subst this
            exact F₄.keep b _ ho'
          · have : o' = o := by have := (N₃ _ (.tail _ (.tail _ (.tail _ (ho' i c hP))))).1; rw [e] at this; exact (Option.some.inj this).symm
            subst this
            exact (N₄ _ (hs₄ _ (ho' _ c' hP'))).1
        cases ok with
        | false =>
          simp only [Bool.false_eq_true, if_false] at h₃' ⊢
          obtain ⟨h₄, tk₄, c', all, rfl, F₄, N₄, zI, zC, zD, hs₄, off₄, hP', hy'⟩ := h₃'
          refine ⟨n + 1 - (i + 1), step_lt hlt, h₄, tk₄, i + 1, c', _, rfl, hlt, rfl, hP', stUp _ _ _ hP' F₄ N₄ zI hs₄, F₄, hoC.ns (N₄ _ zC).1, fun p hp => ?_, off₄⟩
          rcases List.mem_cons.mp hp with rfl | hp
          · have e : ys c' = ys c := by simpa using hy'
            rw [e]; exact N₄ _ zD
          · exact N₄ _ (hs₄ _ hp)
        | true =>
          simp only [if_true] at h₃' ⊢
          refine wpAny_mono h₃' (fun y s₄ h₄' => ?_) fun _ _ e => e
          obtain ⟨h₄, tk₄, c', all, rfl, F₄, N₄, zI, zC, zD, hs₄, off₄, hP', hy'⟩ := h₄'
          have e : ys c' = ys c ++ [y] := by simpa using hy'
          have hst₄ := stUp _ _ _ hP' F₄ N₄ zI hs₄
          have hlen' := hlen _ _ hP
          refine append_at (hsz := by show (ys c).toArray.size ≤ sizeLine; rw [List.size_toArray]; exact Nat.le_trans hlen' (Nat.le_trans hi hsz)) (N₄ _ zD).1 fun h₅ hs₅ hD₅ => ?_
          refine ⟨n + 1 - (i + 1), step_lt hlt, h₅, tk₄, i + 1, c', _, rfl, hlt, rfl, hP', W.frame _ _ _ hst₄ fun b hb o e => hs₅.extBut b o (fun q => hDf (q ▸ hb)) e, F₄.change hs₅ hDL hD₀,
            (hoC.ns (N₄ _ zC).1).sameBut hs₅ (Ne.symm hDC), fun p hp => ?_, off₄⟩
          rcases List.mem_cons.mp hp with rfl | hp
          · exact ⟨hD₅.trans (congrArg some (by rw [e]; exact lst_snoc (ys c) y)), hDL, hD₀⟩
          · exact ⟨hs₅.extBut _ _ (off₄ p hp).2.2 (N₄ _ (hs₄ _ hp)).1, (N₄ _ (hs₄ _ hp)).2⟩
      · obtain rfl : i = n := Nat.le_antisymm hi (Nat.not_lt.mp hlt)
        refine W.done _ _ _ hst' fun h₂ tk₂ hk₂ => ?_
        have hn₂ : h₂.Ns H2.objs.size m' := hn'.at' fun o e => hk₂ _ o (by simpa using Ne.symm hCI) e
        obtain ⟨oC, heC, hoC⟩ := ns_obj hn₂
        have N₂ : News h₀ L h₂ ((s.heap.objs.size, lst (ys c)) :: Led c) := news_but N' hk₂ fun p hp => by
          rcases List.mem_cons.mp hp with rfl | hp
          · exact Ne.symm hDI
          · exact (off' p hp).1
        exact done c _ oC _ m' h₂ tk₂ hP hoC (fr_but F' hk₂ (Ne.symm hIL) hI0) (List.forall_mem_cons.mpr ⟨⟨heC, hCL, hC₀⟩, N₂⟩) (Ne.symm hDC) fun p hp => (off' p hp).2
    · rcases List.mem_cons.mp hp with rfl | hp
      · exact ⟨by rw [hy]; exact hacc, hDL, hD₀⟩
      · exact ⟨old _ _ (N p (hn p hp)).1, (N p (hn p hp)).2⟩
  exact codeAny_compStart_list (loop _ rfl) (W.self 0 _ _ _ hst₁ (loop _ rfl))
/-- behind a comprehension whose list is a value -/
theorem postE {Q : Value → Shared → Prop} {C D : Addr} {oC : Obj} {m₂ : Str → Option Value} {ys : List Value} {led : List (Addr × Obj)} {h : Heap} {tk : Nat} {g : Array GenState} (hC : NsObj oC m₂) (F : Fr h₀ L h m) (N : News h₀ L h ((C, oC) :: (D, lst ys) :: led)) (ne : @Ne Nat C D) (off : ∀ p ∈ led, p.1 ≠ C ∧ p.1 ≠ D)
    (fin : ∀ h', Fr h₀ L h' m → News h₀ L h' ((D, lst ys) :: led) → Q (.ref D) { s with heap := h', toks := tk, gens := g }) :
    compPost (model prog w) A E none Q (.ref D) C (.ok .next) { s with heap := h, toks := tk, gens := g } := by
  have z := N _ (.head _)
  refine ⟨m₂, hC.ns z.1, fun h' hs => fin h' (F.change hs z.2.1 z.2.2) fun p hp => ?_⟩
  refine ⟨hs.extBut _ _ ?_ (N p (.tail _ hp)).1, (N p (.tail _ hp)).2⟩
  rcases List.mem_cons.mp hp with rfl | hp
  · exact Ne.symm ne
  · exact (off p hp).1
theorem cturn {σ : Type} {I : Addr} {oI : Obj} {C : Addr} {oC : Obj} {D : Addr} {Led : σ → List (Addr × Obj)} {ys : σ → List Value} {gs : σ → Array GenState} {P : σ → Prop} {c : σ} {y : Option Value} {h' : Heap} {tk : Nat} {g : Array GenState} {all : List (Addr × Obj)} (c' : σ)
    (F : Fr h₀ L h' m) (N : News h₀ L h' all) (hs : ∀ p ∈ (I, oI) :: (C, oC) :: (D, lst (ys c)) :: Led c', p ∈ all) (off : ∀ p ∈ Led c', p.1 ≠ I ∧ p.1 ≠ C ∧ p.1 ≠ D) (hp : P c') (hy : ys c' = ys c ++ y.toList) (hg : g = gs c') :
    CTurn h₀ L m s I oI C oC D Led ys gs P c y { s with heap := h', toks := tk, gens := g } :=
  ⟨h', tk, c', all, by rw [hg], F, N, hs _ (.head _), hs _ (.tail _ (.head _)), hs _ (.tail _ (.tail _ (.head _))), fun p hp => hs p (.tail _ (.tail _ (.tail _ hp))), off, hp, hy⟩
end
end
section
structure OSt where
  n : Int
  t : Tok
  l : Addr
  row : List Int
  vs : List Value
  k : Nat
noncomputable def octGo : Nat → Int → List Int → List Int
  | 0, _, row => row
  | f + 1, n, row => if 64 ≤ n then octGo f (n / 64) ((64 + (n / 64) % 64) :: row) else row
theorem octGo_more : ∀ (f : Nat) (n : Int) (row : List Int), n < 64 ^ (f + 1) → octGo (f + 1) n row = octGo f n row
  | 0, n, row, h => by
    have : ¬ (64 : Int) ≤ n := by simp at h; omega
    simp [octGo, this]
  | f + 1, n, row, h => by
    rw [octGo]
    conv => rhs; rw [octGo]
    split
    · exact octGo_more f _ _ (by rw [Int.pow_succ] at h; omega)
    · rfl
noncomputable def octs (n k : Int) : List Int := (List.replicate k.toNat (64 : Int)) ++ octGo 3 n [n % 64]
structure OInv (n : Int) (c : OSt) : Prop where
  h1 : 0 ≤ c.n
  h2 : c.n < 10000
  hI : IntsAre c.vs c.row
  h4 : c.row.length ≤ 3
  h6 : (c.row.length ≤ 1 ∧ c.n < 10000) ∨ (c.row.length ≤ 2 ∧ c.n < 157) ∨ c.n < 3
  h5 : octGo 3 c.n c.row = octGo 3 n [n % 64]
set_option maxRecDepth 100000 in
set_option maxHeartbeats 8000000 in
theorem octets {w : World} {p : Program} {loose : List Str} {mean : ExcName → Option Value} {mg mb : Str → Option Value}
    (dp un : Nat) (gd : Option (List Code)) (cn : Str) (cs : Scope) (a : Addr) (ccd : Value) (cl : List (Str × Addr)) (outer : List Env) (A₀ : Around) (base h₀ : Heap) (L : Addr) (m : Str → Option Value) (news : List (Addr × Obj)) (s : Shared)
    (Q E : Value → Shared → Prop) (n k : Int) (t u : Tok)
    (B : Below A₀ base outer h₀) (F : Fr h₀ L s.heap m) (X : (Mine.heapK w.params).In h₀) (N : News h₀ L s.heap news) (T : Top p loose mean mg mb h₀) (hk : cs.kind = .function)
    (hn : 0 ≤ n) (hn2 : n < 10000) (hk1 : 0 ≤ k) (hk2 : k ≤ 2) (hd : dp + 5 < recursionLimit) (hu : un + 100 < cLine)
    (ret : ∀ r vs h' tk', IntsAre vs (octs n k) → Fr h₀ L h' m → News h₀ L h' ((r, W.listOf vs.toArray 0) :: news) → (∀ p ∈ news, p.1 < r) → Q (.ref r) { s with heap := h', toks := tk' }) :
    wpAny (model PySem.Challenge.pw_wf0071_01 w) (ktrTop dp un gd cn cs L a ccd cl outer) (call (.ref 122) [.int n t, .int k u]) Q E s := by
  refine wpAny_call ?_
  k_dflt cell_enter
  walk_at "STEPS"
  rename Fr _ _ _ _ => F'; rename News _ _ _ _ => N'
  refine whileG (fun c : OSt => (c.l, W.listOf c.vs.toArray c.k) :: news) (fun c => [(Str.ofString "number", .int c.n c.t), (Str.ofString "row", .ref c.l)]) (fun _ => s.gens) []
    (OInv n) (fun c => c.n.toNat) ⟨n, t, _, [n % 64], [_], _⟩ F' N' (by intro p hp; exact hp) rfl ?_ ?_ ?_
  · walk_at "NAMES"
  · have e := Int.fmod_eq_emod_of_nonneg n (b := 64) (by omega)
    rw [e]
    exact ⟨hn, hn2, .cons _ _ .nil, by simp, .inl ⟨by simp, hn2⟩, rfl⟩
  · rintro ⟨cn', ct, c1, crow, cvs, ck⟩ u' h2 tk2 ⟨h1, h2', hI, h4, h6, h5⟩ F2 N2
    dsimp only at *
    walk_at "STEPS"
    · rename Fr _ _ _ _ => F3; rename News _ _ _ _ => N3
      rename IntsAre _ _ => hI3; rename 64 ≤ cn' => hc
      have e1 := Int.fdiv_eq_ediv_of_nonneg cn' (b := 64) (by omega)
      have e2 := Int.fmod_eq_emod_of_nonneg (cn' / 64) (b := 64) (by omega)
      rw [e1] at hI3
      rw [e2] at hI3
      refine' whl_next ⟨cn' / 64, ?t, ?l, [64 + cn' / 64 % 64] ++ crow, ?vs, ?k⟩ F3 N3 ?sub ?names ?keep ⟨?p1, ?p2, hI3, ?p3, ?p4, ?p5⟩ ?less rfl
      case names => rw [e1]; walk_at "NAMES"
      case sub => walk_at "SUB"
      case keep => walk_at "KEEP"
      case p1 => dsimp only; omega
      case p2 => dsimp only; omega
      case p3 => dsimp only; simp only [List.length_append, List.length_cons, List.length_nil]; omega
      case p4 => dsimp only; simp only [List.length_append, List.length_cons, List.length_nil]; omega
      case p5 =>
        dsimp only
        rw [← h5]
        conv => rhs; rw [octGo, if_pos hc]
        exact octGo_more 2 _ _ (by omega)
      case less => dsimp only; omega
    · rename Fr _ _ _ m => F3; rename News _ _ _ _ => N3
      rename IntsAre _ _ => hI3; rename ¬ 64 ≤ cn' => hc
      refine' ret _ ?xvs _ _ ?xints F3 ?xnews ?xlt
      case xnews => exact cb_drop N3 (by walk_at "SUB")
      case xints =>
        have e : octs n k = (List.replicate k.toNat [64]).flatten ++ crow := by
          have e1 : octGo 3 cn' crow = crow := by rw [octGo, if_neg hc]
          have e2 : ∀ j : Nat, (List.replicate j [(64 : Int)]).flatten = List.replicate j 64 := by
            intro j; induction j with
            | zero => rfl
            | succ j ih => rw [List.replicate_succ, List.flatten_cons, ih]; rfl
          rw [octs, ← h5, e1, e2]
        rw [e]; exact hI3
      case xlt => exact allLt_to (And.right (And.right (And.right (by assumption))))
end
section
/-- everything in a heap but the base, and the generator's own three objects -/
noncomputable def Cov (base : Heap) (C e it : Addr) (rest : List (Addr × Obj)) (h : Heap) : Prop := ∀ b o, b ≠ C → b ≠ e → b ≠ it → h.get? b = some o → base.get? b = some o ∨ (b, o) ∈ rest
theorem rest_of (base : Heap) (C e it : Addr) (h : Heap) (hk : ∀ b o, base.get? b = some o → h.get? b = some o) : ∃ rest, Cov base C e it rest h ∧ ∀ p ∈ rest, h.get? p.1 = some p.2 ∧ p.1 ≠ C ∧ p.1 ≠ e ∧ p.1 ≠ it ∧ base.get? p.1 = none := by
  refine ⟨(List.range h.objs.size).filterMap fun b => if b = C ∨ b = e ∨ b = it ∨ (base.get? b).isSome = true then none else (h.get? b).map fun o => (b, o), fun b o h1 h2 h3 ho => ?_, fun p hp => ?_⟩
  · cases hb : base.get? b with
    | some o' => have := hk b o' hb; rw [ho] at this; exact .inl this.symm
    | none =>
      refine .inr (List.mem_filterMap.mpr ⟨b, List.mem_range.mpr (Heap.lt_size ho), ?_⟩)
      rw [if_neg (by simp [h1, h2, h3, hb]), ho]; rfl
  · obtain ⟨b, _, hb⟩ := List.mem_filterMap.mp hp
    split at hb
    · cases hb
    · rename_i hn
      simp only [not_or] at hn
      cases ho : h.get? b with
      | none => rw [ho] at hb; cases hb
      | some o =>
        rw [ho] at hb
        cases hb
        refine ⟨ho, hn.1, hn.2.1, hn.2.2.1, ?_⟩
        cases hq : base.get? b with
        | none => rfl
        | some _ => simp [hq] at hn
inductive Since3 (C e it : Addr) (s₀ s : Shared) : Prop
  | mk (h' : Heap) (tk : Nat) (hs : s = { s₀ with heap := h', toks := tk }) (hk : ∀ b o, b ≠ C → b ≠ e → b ≠ it → s₀.heap.get? b = some o → h'.get? b = some o) : Since3 C e it s₀ s
theorem since3_of {base : Heap} {C e it : Addr} {rest : List (Addr × Obj)} {s₀ : Shared} {h : Heap} {tk : Nat} {m : Str → Option Value} (cov : Cov base C e it rest s₀.heap) (F : Fr base C h m) (N : ∀ p ∈ rest, h.get? p.1 = some p.2) : Since3 C e it s₀ { s₀ with heap := h, toks := tk } :=
  ⟨h, tk, rfl, fun b o h1 h2 h3 ho => (cov b o h1 h2 h3 ho).elim (F.keep b o) (N (b, o))⟩
noncomputable def tup (p : Int) (t : Tok) (x : Str) (u : Tok) : Obj := { cls := .type "tuple", data := .seq #[.int p t, .str x u] }
/-- what a yield of the generator promises -/
inductive EscY (base : Heap) (C e it : Addr) (items : List (Int × Str)) (m : Nat) (s₀ : Shared) (v : Value) (s : Shared) (kap : Resume → Shared → Prop) : Prop
  | mk (T : Addr) (p : Int) (ch : Str) (t u : Tok) (oC oe oi : Obj) (hit : items[items.length - 1 - m]? = some (p, ch)) (hv : v = .ref T) (hT : s.heap.get? T = some (tup p t ch u)) (hT0 : s₀.heap.get? T = none) (nC : @Ne Nat T C) (ne : @Ne Nat T e) (ni : @Ne Nat T it) (hs : Since3 C e it s₀ s)
    (hC : s.heap.get? C = some oC) (he : s.heap.get? e = some oe) (hi : s.heap.get? it = some oi)
    (hk : ∀ s'' : Shared, (∀ b o, base.get? b = some o → s''.heap.get? b = some o) → s''.heap.get? C = some oC → s''.heap.get? e = some oe → s''.heap.get? it = some oi → kap (.send .none) s'') : EscY base C e it items m s₀ v s kap
noncomputable def escY (base : Heap) (C e it : Addr) (items : List (Int × Str)) : Protocol := fun m s₀ v s kap => EscY base C e it items m s₀ v s kap
noncomputable def escR (C e it : Addr) : GenEnd := fun n s₀ r s₁ => r = .ok (.ret .none) ∧ (n = 0 ∧ Since3 C e it s₀ s₁)

section
variable {prog : Program} {w : World} {A : Around}
theorem nextGenQ {E : Value → Shared → Prop} {s : Shared} {a : Addr} {g n : Nat} {gs : GenState} {P : Nat → Shared → Shared → Prop} {Y : Protocol} {Q : Option Value → Shared → Prop} (hh : A.handled = none)
    (hl : s.heap.NoLimit) (hroom : A.depth < recursionLimit)
    (hg : s.heap.IsGen a g) (hgs : s.gens[g]? = some gs)
    (hgo : gs.Goes (model prog w) A.in1 (fun n s₀ r s₁ => r = .ok (.ret .none) ∧ P n s₀ s₁) Y n (.send .none) (s.setGen g .running))
    (hY : ∀ v s₁ gs', gs'.bare = true → Y (n - 1) (s.setGen g .running) v s₁ (fun r' s'' => match n with
        | 0 => False
        | m + 1 => gs'.Goes (model prog w) A.in1 (fun n s₀ r s₁ => r = .ok (.ret .none) ∧ P n s₀ s₁) Y m r' s'') → Q (some v) (s₁.setGen g gs'))
    (hP : ∀ s₁, P n (s.setGen g .running) s₁ → ∀ h', (∀ b o, s₁.heap.get? b = some o → h'.get? b = some o) → Q none { s₁.setGen g .finished with heap := h' }) :
    wpAny (model prog w) A (pyNext (.ref a)) Q E s := by
  unfold pyNext
  refine wpAny_bind (wpAny_attempt (wpAny_callSpecial?_slot (name := Str.ofString "__next__") hg.typeIs slot_gen_next
    (wpAny_call_entry slot_gen_next hg.typeIs entry_gen_next ?_ (args_gen_next _))))
  show wpAny _ _ (Builtin.Generator.genWake (.ref a) (.send .none)) _ _ s
  unfold Builtin.Generator.genWake
  refine wpAny_bind (wpAny_holding (wpAny_genNumber hg (wpAny_bind (wpAny_genState hgs ?_))))
  cases gs with
  | running => exact hgo.elim
  | finished => exact hgo.elim
  | _ =>
    refine wpAny_bind (wpAny_roomToWake hl hroom ?_)
    show wpAny _ _ (.resume g (.send .none) [] _) _ _ s
    refine wpAny_resumeQ hgs hgo (fun x s₁ hx => ?_) (fun v s₁ gs' hb hv => ?_)
    · obtain ⟨rfl, hp⟩ := hx
      show wpAny _ _ (newExc (.type "StopIteration") [] >>= _) _ _ _
      refine wpAny_bind ?_
      simp only [newExc, newTuple]
      refine wpAny_bind (wpAny_newObj_type ?_ (by size_fits))
      refine wpAny_bind (m := firstArgMember _ _) (wpAny_of_eq (a := Value.none) (by first | rfl | (simp only [firstArgMember]; rfl)) ?_)
      refine wpAny_newObj_type ?_ (by size_fits)
      simp only [raiseNew]
      refine wpAny_bind (wpAny_bind (wpAny_handled ?_))
      rw [show A.in1.handled = none from hh]
      refine wpAny_throw ?_
      refine wpAny_bind (wpAny_isInstance (T := "StopIteration") (b := true) ⟨_, Heap.get?_push_size _ rfl, rfl⟩ isSubtype_stop ?_)
      exact wpAny_pure (hP s₁ hp _ fun b o hb => Heap.get?_push_of_some _ (Heap.get?_push_of_some _ hb))
    · exact wpAny_pure ⟨v, rfl, wpAny_pure (hY v s₁ gs' hb hv)⟩

section
variable {base : Heap} {C e it : Addr} {items : List (Int × Str)} {R : GenEnd} {n : Nat} {s₀ : Shared} {c : Code} {fs : List PySem.Frame} {s : Shared} {env : Env} {K : Flow → Sem Fin} {H : Value → Sem Fin} {gd : Bool → Bool} {lv : List Value → List Value}
/-- the value of a yield is laid, and what is due behind it -/
inductive YOut (prog : Program) (w : World) (A : Around) (base : Heap) (C e it : Addr) (items : List (Int × Str)) (R : GenEnd) (n : Nat) (s₀ : Shared) (c : Code) (fs : List PySem.Frame) (K : Flow → Sem Fin) (rest : List (Addr × Obj)) (v : Value) (s' : Shared) : Prop
  | mk (T : Addr) (p : Int) (ch : Str) (t u : Tok) (oe oi : Obj) (h : Heap) (tk : Nat) (m : Str → Option Value) (all : List (Addr × Obj)) (hv : v = .ref T) (hs : s' = { s₀ with heap := h, toks := tk }) (F : Fr base C h m) (N : News base C h all) (hr : ∀ p ∈ rest, p ∈ all) (zT : (T, tup p t ch u) ∈ all) (ze : (e, oe) ∈ all) (zi : (it, oi) ∈ all) (n1 : ∀ p ∈ rest, p.1 ≠ T) (n2 : @Ne Nat T e) (n3 : @Ne Nat T it)
    (hit : items[items.length - 1 - n]? = some (p, ch))
    (k : ∀ (s'' : Shared) (rest' : List (Addr × Obj)), Fr base C s''.heap m → News base C s''.heap ((e, oe) :: (it, oi) :: rest') → Cov base C e it rest' s''.heap → (∀ p ∈ rest', p.1 ≠ e ∧ p.1 ≠ it) → Seg (model prog w) A R (escY base C e it items) n s'' c (K .next) fs s'') : YOut prog w A base C e it items R n s₀ c fs K rest v s'
theorem genYield {x : Expr} {ypos pos : Pos} {rest : List (Addr × Obj)} (hfs : splitAtGen fs = none) (hgd : gd false = false) (hfg : fs.any Frame.guarded = false) (cov : Cov base C e it rest s₀.heap) (hne : ∀ p ∈ rest, p.1 ≠ C)
    (h : wpAny (model prog w) (A.over c fs) (eval x env) (YOut prog w A base C e it items R n s₀ c fs K rest) (fun _ _ => False) s) (hco : env.scope.isCoroutine = false := by rfl) (hi : interactive env = false := by rfl) :
    Seg (model prog w) A R (escY base C e it items) (n + 1) s₀ c ((exec (.Expr (.Yield (some x) ypos) pos) env).wrap K H gd lv) fs s := by
  refine seg_Expr_Yield hfs hgd hfg (wpAny_mono h (fun v s' hv => ?_) fun _ _ f => f.elim) hco hi
  obtain ⟨T, p, ch, t, u, oe, oi, h, tk, m, all, rfl, rfl, F, N, hr, zT, ze, zi, n1, n2, n3, hit, k⟩ := hv
  intro kap hkap
  have hT := N _ zT
  obtain ⟨oC, es, ep, hC, hCd, hCk, hCf⟩ := id F.ns
  refine ⟨T, p, ch, t, u, oC, oe, oi, hit, rfl, hT.1, ?_, hT.2.1, n2, n3, since3_of cov F fun p hp => (N p (hr p hp)).1, hC, (N _ ze).1, (N _ zi).1, fun s'' hb c1 c2 c3 => ?_⟩
  · cases q : s₀.heap.get? T with
    | none => rfl
    | some o =>
      rcases cov T o hT.2.1 n2 n3 q with q' | q'
      · rw [hT.2.2] at q'; cases q'
      · exact absurd rfl (n1 _ q')
  · obtain ⟨rest', cov', hr'⟩ := rest_of base C e it s''.heap hb
    have F'' : Fr base C s''.heap m := ⟨⟨oC, es, ep, c1, hCd, hCk, hCf⟩, hb, F.above⟩
    refine hkap _ s'' (k s'' rest' F'' ?_ cov' fun p hp => ⟨(hr' p hp).2.2.1, (hr' p hp).2.2.2.1⟩)
    refine List.forall_mem_cons.mpr ⟨by exact ⟨c2, (N _ ze).2⟩, ?_⟩
    refine List.forall_mem_cons.mpr ⟨by exact ⟨c3, (N _ zi).2⟩, ?_⟩
    intro p hp
    · exact ⟨(hr' p hp).1, (hr' p hp).2.1, (hr' p hp).2.2.2.2⟩
end
end
end
section
section
variable {prog : Program} {w : World} {A : Around} {E : Value → Shared → Prop} {s : Shared} {h₀ : Heap} {L : Addr} {m : Str → Option Value} {news : List (Addr × Obj)} {Q : Value → Shared → Prop}
theorem srcStr {x : Str} {t : Tok} (hh : A.handled = none) (F : Fr h₀ L s.heap m) (N : News h₀ L s.heap news)
    (h : ∀ I St h', Walks prog w A I [I] [I] x.cps.size (SignAt x) St → (∀ i (h : Heap), St i h → ∃ o, h.get? I = some o) → St 0 h' → Fr h₀ L h' m → News h₀ L h' news → I ≠ L → h₀.get? I = none → (∀ p ∈ news, p.1 < I) → Q (.ref I) { s with heap := h' }) :
    wpAny (model prog w) A (pyIter (.str x t)) Q E s := by
  have hL : s.heap.objs.size ≠ L := Nat.ne_of_gt F.ns.lt
  have lt : ∀ p ∈ news, p.1 < s.heap.objs.size := fun p hp => Heap.lt_size (N p hp).1
  cases ha : x.cps.all (· < 128)
  · exact wpAny_pyIter_wide ha (h _ _ _ (Walks.strWide hh _ x t) (fun i h st => let ⟨o, ho, _⟩ := st; ⟨o, ho⟩) ⟨_, Heap.get?_push_size _ rfl, rfl, rfl⟩ (F.push _) (fun p hp => ⟨Heap.get?_push_of_some _ (N p hp).1, (N p hp).2⟩) hL (next_is_new F) lt)
  · exact wpAny_pyIter_ascii ha (h _ _ _ (Walks.strAscii hh _ x t) (fun i h st => let ⟨o, ho, _⟩ := st; ⟨o, ho⟩) ⟨_, Heap.get?_push_size _ rfl, rfl, rfl⟩ (F.push _) (fun p hp => ⟨Heap.get?_push_of_some _ (N p hp).1, (N p hp).2⟩) hL (next_is_new F) lt)
theorem srcList {l : Addr} {vs : Array Value} {k : Nat} (hh : A.handled = none) (F : Fr h₀ L s.heap m) (N : News h₀ L s.heap news) (hm : (l, W.listOf vs k) ∈ news)
    (h : ∀ I h', Walks prog w A I [I, l] [I] vs.size (fun i v => vs[i]? = some v) (fun i h => h.IsListIter I l i ∧ h.IsList l vs) → (∀ i (h : Heap), (h.IsListIter I l i ∧ h.IsList l vs) → ∃ o, h.get? I = some o) → (h'.IsListIter I l 0 ∧ h'.IsList l vs) → Fr h₀ L h' m → News h₀ L h' news → I ≠ L → h₀.get? I = none → (∀ p ∈ news, p.1 < I) → Q (.ref I) { s with heap := h' }) :
    wpAny (model prog w) A (pyIter (.ref l)) Q E s := by
  have hl := list_is N hm
  have lt : ∀ p ∈ news, p.1 < s.heap.objs.size := fun p hp => Heap.lt_size (N p hp).1
  refine wpAny_pyIter_list hl ?_
  exact h _ _ (Walks.list hh _ _ (Nat.ne_of_lt (lt _ hm)) vs) (fun i h st => let ⟨o, ho, _⟩ := st.1; ⟨o, ho⟩) ⟨⟨_, Heap.get?_push_size _ rfl, rfl, rfl⟩, hl.push _⟩ (F.push _) (fun p hp => ⟨Heap.get?_push_of_some _ (N p hp).1, (N p hp).2⟩) (Nat.ne_of_gt F.ns.lt) (next_is_new F) lt
theorem srcRange {r : Addr} {a b : Int} {t u v : Tok} {n : Nat} (hh : A.handled = none) (F : Fr h₀ L s.heap m) (N : News h₀ L s.heap news) (hr : IsRange s.heap r a b 1 t u v) (hn : n = (b - a).toNat) (ha : -(2 ^ 62) ≤ a) (ha' : a < 2 ^ 62) (hb : -(2 ^ 62) ≤ b) (hb' : b < 2 ^ 62)
    (h : ∀ I h', Walks prog w A I [I] [I] n (fun i v => ∃ t, v = .int (a + i * 1) t) (fun i h => IsRangeIter h I (a + (i : Nat) * 1) ((n : Int) - (i : Nat)) 1) → (∀ i (h : Heap), IsRangeIter h I (a + (i : Nat) * 1) ((n : Int) - (i : Nat)) 1 → ∃ o, h.get? I = some o) → IsRangeIter h' I (a + (0 : Nat) * 1) ((n : Int) - (0 : Nat)) 1 → Fr h₀ L h' m → News h₀ L h' news → I ≠ L → h₀.get? I = none → (∀ p ∈ news, p.1 < I) → Q (.ref I) { s with heap := h' }) :
    wpAny (model prog w) A (pyIter (.ref r)) Q E s := by
  have hsz : Builtin.Range.rangeSize a b 1 = (n : Int) := by rw [rangeSize_one]; split <;> omega
  refine wpAny_pyIter_range hr (small_one ha ha' hb hb') ?_
  exact h _ _ (Walks.range hh _ a 1 n) (fun i h st => ⟨_, st⟩) (by show IsRangeIter _ _ _ _ _; rw [hsz]; simpa using Heap.get?_push_size _ rfl) (F.push _) (fun p hp => ⟨Heap.get?_push_of_some _ (N p hp).1, (N p hp).2⟩) (Nat.ne_of_gt F.ns.lt) (next_is_new F) (fun p hp => Heap.lt_size (N p hp).1)
/-- range with a negative step -/
theorem srcDown {r : Addr} {a b : Int} {t u v : Tok} {n : Nat} (hh : A.handled = none) (F : Fr h₀ L s.heap m) (N : News h₀ L s.heap news) (hr : IsRange s.heap r a b (-1) t u v) (hn : n = (a - b).toNat) (hsm : Builtin.Range.small a b (-1) = true)
    (h : ∀ I h', Walks prog w A I [I] [I] n (fun i v => ∃ t, v = .int (a + i * (-1)) t) (fun i h => IsRangeIter h I (a + (i : Nat) * (-1)) ((n : Int) - (i : Nat)) (-1)) → (∀ i (h : Heap), IsRangeIter h I (a + (i : Nat) * (-1)) ((n : Int) - (i : Nat)) (-1) → ∃ o, h.get? I = some o) → IsRangeIter h' I (a + (0 : Nat) * (-1)) ((n : Int) - (0 : Nat)) (-1) → Fr h₀ L h' m → News h₀ L h' news → I ≠ L → h₀.get? I = none → (∀ p ∈ news, p.1 < I) → Q (.ref I) { s with heap := h' }) :
    wpAny (model prog w) A (pyIter (.ref r)) Q E s := by
  have hsz : Builtin.Range.rangeSize a b (-1) = (n : Int) := by
    unfold Builtin.Range.rangeSize
    simp only [show ¬ (-1 : Int) > 0 by decide, if_false, show (-(-1 : Int)) = 1 by decide, Int.ediv_one]
    split <;> omega
  refine wpAny_pyIter_range hr hsm ?_
  exact h _ _ (Walks.range hh _ a (-1) n) (fun i h st => ⟨_, st⟩) (by show IsRangeIter _ _ _ _ _; rw [hsz]; simpa using Heap.get?_push_size _ rfl) (F.push _) (fun p hp => ⟨Heap.get?_push_of_some _ (N p hp).1, (N p hp).2⟩) (Nat.ne_of_gt F.ns.lt) (next_is_new F) (fun p hp => Heap.lt_size (N p hp).1)
end
end
section
section
variable {prog : Program} {w : World} {A : Around}
theorem enumStr (hh : A.handled = none) (e it : Addr) (hei : e ≠ it) (x : Str) (t : Tok) : WalksU prog w A e [e, it] [e, it] x.cps.size (fun i vals => ∃ t v, SignAt x i v ∧ vals = #[.int i t, v])
    (fun i h => (∃ old, IsEnum h e it i old) ∧ h.IsStrIter it (strIterType x) x t i) (fun i T h => (∃ y, IsEnumOut h e it ((i : Int) + 1) y T) ∧ h.IsStrIter it (strIterType x) x t (i + 1) ∧ T ≠ e ∧ T ≠ it) := by
  cases ha : x.cps.all (· < 128)
  · rw [show strIterType x = "str_iterator" by simp [strIterType, ha]]
    exact (WalksT.enumerateD (Draws.strWide (A := A.in1) hh it x t) e hei (by simpa using hei) (by simp)).toU
  · rw [show strIterType x = "str_ascii_iterator" by simp [strIterType, ha]]
    exact (WalksT.enumerateD (Draws.strAscii (A := A.in1) hh it x t) e hei (by simpa using hei) (by simp)).toU

theorem fr_two {h₀ h h' : Heap} {L a b : Addr} {m : Str → Option Value} (F : Fr h₀ L h m) (hk : ∀ x o, x ∉ [a, b] → h.get? x = some o → h'.get? x = some o) (la : L ≠ a) (lb : L ≠ b) (ha : h₀.get? a = none) (hb : h₀.get? b = none) : Fr h₀ L h' m :=
  ⟨F.ns.at' fun o e => hk L o (by simp [la, lb]) e, fun x o e => hk x o (fun hm => by
    rcases List.mem_cons.mp hm with rfl | hm
    · rw [ha] at e; cases e
    · rw [List.mem_singleton.mp hm, hb] at e; cases e) (F.keep x o e), F.above⟩
theorem news_two {h₀ h h' : Heap} {L a b : Addr} {news : List (Addr × Obj)} (N : News h₀ L h news) (hk : ∀ x o, x ∉ [a, b] → h.get? x = some o → h'.get? x = some o) (off : ∀ p ∈ news, p.1 ≠ a ∧ p.1 ≠ b) : News h₀ L h' news :=
  fun p hp => ⟨hk _ _ (by simp [off p hp]) (N p hp).1, (N p hp).2⟩

theorem genLoop {σ : Type} {base : Heap} {C e it : Addr} {items : List (Int × Str)} {R : GenEnd} {fs : List PySem.Frame} {env : Env} {xa xb : Str} {pa pb pt : Pos} {kt : Nat} {body : List Stmt}
    (text : Str) (tt : Tok) (ps : σ → List (Str × Value)) (P : Nat → σ → Prop) (rem : Nat → σ → Nat)
    (hh : (A.over (.forLoop (.Tuple [.Name xa pa, .Name xb pb] kt pt) (.ref e) body [] env) fs).handled = none) (hC : env.locals = C) (hxa : env.kindOf xa = some .local) (hxb : env.kindOf xb = some .local)
    (hp : (env.scope.kind == .class || (env.scope.kind == .module && env.locals != env.globals)) = false) (hei : e ≠ it) (heC : e ≠ C) (hiC : it ≠ C) (hbe : base.get? e = none) (hbi : base.get? it = none)
    (turn : ∀ i st s₀ h tk mC rest oe oi t ch u, i < text.cps.size → text.cps[i]? = some ch → P i st →
      Fr base C h (fun y => if y = xb then some (.str ⟨#[ch]⟩ u) else if y = xa then some (.int i t) else kstB mC (ps st) y) → News base C h ((e, oe) :: (it, oi) :: rest) → Cov base C e it rest s₀.heap → (∀ p ∈ rest, p.1 ≠ C ∧ p.1 ≠ e ∧ p.1 ≠ it) →
      (∀ st' s₀' h' tk' mC' rest' n' all, Fr base C h' mC' → News base C h' all → (∀ p ∈ (e, oe) :: (it, oi) :: rest', p ∈ all) → Cov base C e it rest' s₀'.heap → (∀ p ∈ rest', p.1 ≠ e ∧ p.1 ≠ it) → P (i + 1) st' → (∀ p ∈ ps st', mC' p.1 = some p.2) → rem (i + 1) st' = n' →
        Seg (model prog w) A R (escY base C e it items) n' s₀' (.forLoop (.Tuple [.Name xa pa, .Name xb pb] kt pt) (.ref e) body [] env) (.pure (.again (.forLoop (.Tuple [.Name xa pa, .Name xb pb] kt pt) (.ref e) body [] env))) fs { s₀' with heap := h', toks := tk' }) →
      Seg (model prog w) A R (escY base C e it items) (rem i st) s₀ (.forLoop (.Tuple [.Name xa pa, .Name xb pb] kt pt) (.ref e) body [] env) ((execs body env).wrap (fun f => match f with
              | .next | .cont => .pure (.again (.forLoop (.Tuple [.Name xa pa, .Name xb pb] kt pt) (.ref e) body [] env))
              | .brk => .pure (.done .next)
              | .ret v => .pure (.done (.ret v))) (fun e => (do noteFrame e env; theTreesLotGoes e : Sem Unit).wrap (fun _ => .raise e) .raise id id) id id) fs { s₀ with heap := h, toks := tk })
    (done : ∀ st s₀ h tk mC rest, P text.cps.size st → Fr base C h (kstB mC (ps st)) → News base C h rest → Cov base C e it rest s₀.heap → (∀ p ∈ rest, p.1 ≠ C ∧ p.1 ≠ e ∧ p.1 ≠ it) →
      Seg (model prog w) A R (escY base C e it items) (rem text.cps.size st) s₀ (.block [] env) ((model prog w).den (.block [] env)) fs { s₀ with heap := h, toks := tk }) :
    ∀ (k i : Nat) (st : σ) (s₀ : Shared) (h : Heap) (tk : Nat) (mC : Str → Option Value) (rest : List (Addr × Obj)), text.cps.size - i = k → i ≤ text.cps.size → P i st → (∀ p ∈ ps st, mC p.1 = some p.2) → (∃ old, IsEnum h e it i old) → h.IsStrIter it (strIterType text) text tt i →
      Fr base C h mC → News base C h rest → Cov base C e it rest s₀.heap → (∀ p ∈ rest, p.1 ≠ e ∧ p.1 ≠ it) →
      Seg (model prog w) A R (escY base C e it items) (rem i st) s₀ (.forLoop (.Tuple [.Name xa pa, .Name xb pb] kt pt) (.ref e) body [] env) ((model prog w).den (.forLoop (.Tuple [.Name xa pa, .Name xb pb] kt pt) (.ref e) body [] env)) fs { s₀ with heap := h, toks := tk } := by
  subst hC
  have W := enumStr (prog := prog) (w := w) hh e it hei text tt
  intro k
  induction k with
  | zero =>
    intro i st s₀ h tk mC rest hk hi hI hps he hs F N cov off
    have hin : i = text.cps.size := by omega
    subst hin
    refine seg_forLoop (W.done _ _ _ ⟨he, hs⟩ fun h' tk' hk' => ?_)
    have F' := fr_two F hk' (Ne.symm heC) (Ne.symm hiC) hbe hbi
    have N' := news_two N hk' off
    have em : kstB mC (ps st) = mC := by funext y; exact kstB_eq hps fun _ => rfl
    exact done st s₀ h' tk' mC rest hI (em.symm ▸ F') N' cov fun p hp => ⟨(N p hp).2.1, off p hp⟩
  | succ k ih =>
    intro i st s₀ h tk mC rest hk hi hI hps he hs F N cov off
    have hlt : i < text.cps.size := by omega
    refine seg_forLoop (W.item i _ _ _ hlt ⟨he, hs⟩ fun T vals h₁ tk₁ hPv hT₁ hmid hk₁ => ?_)
    obtain ⟨t, v, ⟨ch, u, hch, rfl⟩, rfl⟩ := hPv
    refine W.go _ _ _ i T _ _ _ hmid fun h₂ hst₂ hk₂ => ?_
    have hT₂ : h₂.IsTuple T #[.int i t, .str ⟨#[ch]⟩ u] := let ⟨o, x, r⟩ := hT₁; ⟨o, hk₂ _ o (W.apart i T _ hmid) x, r⟩
    refine wpAny_assign_Tuple hh hT₂ rfl rfl fun h₃ hx₃ => ?_
    have old₃ : ∀ b o, h₂.get? b = some o → h₃.get? b = some o := fun b o x => hx₃ b o (Nat.ne_of_lt (Heap.lt_size x)) x
    have F₃ : Fr base env.locals h₃ mC := (fr_two (fr_two F hk₁ (Ne.symm heC) (Ne.symm hiC) hbe hbi) hk₂ (Ne.symm heC) (Ne.symm hiC) hbe hbi).keeps old₃
    have N₃ : News base env.locals h₃ rest := (news_two (news_two N hk₁ off) hk₂ off).grown old₃
    have e₃ : ∃ oe, h₃.get? e = some oe := by obtain ⟨old, x⟩ := hst₂.1; exact ⟨_, old₃ _ _ x⟩
    have i₃ : ∃ oi, h₃.get? it = some oi := by obtain ⟨o, x, _⟩ := hst₂.2; exact ⟨_, old₃ _ _ x⟩
    obtain ⟨oe, e₃⟩ := e₃
    obtain ⟨oi, i₃⟩ := i₃
    show wpAny _ _ (do holding [_] (assign (.Name xa pa) env _); do holding [] (assign (.Name xb pb) env _); pure ()) _ _ _
    refine wpAny_bind (wpAny_holding (wpAny_assign_Name (wpAny_storeName_local hxa F₃.ns (fun h₄ hn₄ hs₄ => ?_) hp)))
    have F₄ := F₃.set hn₄ hs₄
    have N₄ : News base env.locals h₄ ((e, oe) :: (it, oi) :: rest) := News.set (List.forall_mem_cons.mpr ⟨⟨e₃, heC, hbe⟩, List.forall_mem_cons.mpr ⟨⟨i₃, hiC, hbi⟩, N₃⟩⟩) hs₄
    refine wpAny_bind (wpAny_holding (wpAny_assign_Name (wpAny_storeName_local hxb F₄.ns (fun h₅ hn₅ hs₅ => wpAny_pure ?_) hp)))
    have F₅ := F₄.set hn₅ hs₅
    have N₅ := News.set N₄ hs₅
    have em : kstB mC (ps st) = mC := by funext y; exact kstB_eq hps fun _ => rfl
    rw [← em] at F₅
    refine turn i st s₀ h₅ _ mC rest oe oi t ch u hlt hch hI F₅ N₅ cov (fun p hp => ⟨(N p hp).2.1, off p hp⟩) fun st' s₀' h' tk' mC' rest' n' all F' N' hs' cov' off' hI' hps' hn' => ?_
    subst hn'
    refine seg_again rfl (ih (i + 1) st' s₀' h' tk' mC' rest' (by omega) hlt hI' hps' ?_ ?_ F' (fun p hp => N' p (hs' p (.tail _ (.tail _ hp)))) cov' off')
    · obtain ⟨old, x⟩ := hst₂.1
      have : oe = _ := Option.some.inj (e₃.symm.trans (old₃ _ _ x))
      exact ⟨old, by have := (N' _ (hs' _ (.head _))).1; rw [‹oe = _›] at this; exact this⟩
    · obtain ⟨o, x, r⟩ := hst₂.2
      have : oi = o := Option.some.inj (i₃.symm.trans (old₃ _ _ x))
      exact ⟨o, by have := (N' _ (hs' _ (.tail _ (.head _)))).1; rw [‹oi = _›] at this; exact this, r⟩
end
end
section
theorem min_nat {z : Int} {n : Nat} (h : 0 ≤ z) : max 0 (min z (n : Int)) = ((min z.toNat n : Nat) : Int) := by
  obtain ⟨m, rfl⟩ := Int.eq_ofNat_of_zero_le h
  rw [Int.toNat_natCast]
  rcases Nat.le_total m n with q | q
  · rw [Nat.min_eq_left q, Int.min_eq_left (Int.ofNat_le.mpr q)]
    exact Int.max_eq_right h
  · rw [Nat.min_eq_right q, Int.min_eq_right (Int.ofNat_le.mpr q)]
    exact Int.max_eq_right (Int.natCast_nonneg _)
theorem pick_run {vs : List Value} {x y : Int} (h : 0 ≤ x) (h2 : 0 ≤ y) : (slicePick vs.toArray (some x) (some y) none).toList = (vs.drop x.toNat).take (y.toNat - x.toNat) := by
  have e : sliceBounds (some x) (some y) none vs.toArray.size = (((min x.toNat vs.toArray.size : Nat) : Int), ((min y.toNat vs.toArray.size : Nat) : Int), 1) := by
    simp only [sliceBounds, Option.getD_none, show (1 : Int) > 0 by decide, if_true, if_neg (show ¬ (x < 0) by omega), if_neg (show ¬ (y < 0) by omega)]
    congr 1
    · exact min_nat h
    · congr 1
      exact min_nat h2
  rw [kmk_pick_nat _ e]
  show (vs.drop (min x.toNat vs.length)).take (min y.toNat vs.length - min x.toNat vs.length) = _
  rw [kmk_drop_min]
  by_cases hx : x.toNat ≤ vs.length
  · rw [Nat.min_eq_left hx]
    by_cases hy : y.toNat ≤ vs.length
    · rw [Nat.min_eq_left hy]
    · rw [Nat.min_eq_right (by omega), List.take_of_length_le (by rw [List.length_drop]; omega), List.take_of_length_le (by rw [List.length_drop]; omega)]
  · rw [List.drop_of_length_le (by omega), List.take_nil, List.take_nil]
theorem pick_from {vs : List Value} {x : Int} (h : 0 ≤ x) : (slicePick vs.toArray (some x) none none).toList = vs.drop x.toNat := by
  have e : sliceBounds (some x) none none vs.toArray.size = (((min x.toNat vs.toArray.size : Nat) : Int), ((vs.toArray.size : Nat) : Int), 1) := by
    simp only [sliceBounds, Option.getD_none, show (1 : Int) > 0 by decide, if_true, if_neg (show ¬ (x < 0) by omega)]
    congr 1
    exact min_nat h
  rw [kmk_pick_nat _ e]
  show (vs.drop (min x.toNat vs.length)).take (vs.length - min x.toNat vs.length) = _
  rw [kmk_drop_min, List.take_of_length_le (by rw [List.length_drop]; exact Nat.sub_le_sub_left (Nat.min_le_left _ _) _)]
theorem pick_upto {vs : List Value} {y : Int} (h : 0 ≤ y) : (slicePick vs.toArray none (some y) none).toList = vs.take y.toNat := by
  have e : sliceBounds none (some y) none vs.toArray.size = (((0 : Nat) : Int), ((min y.toNat vs.toArray.size : Nat) : Int), 1) := by
    simp only [sliceBounds, Option.getD_none, show (1 : Int) > 0 by decide, if_true, if_neg (show ¬ (y < 0) by omega)]
    congr 1
    congr 1
    exact min_nat h
  rw [kmk_pick_nat _ e]
  show (vs.drop 0).take (min y.toNat vs.length - 0) = _
  rw [List.drop_zero, Nat.sub_zero, kmk_take_min]
section
variable {prog : Program} {w : World} {A : Around} {E : Value → Shared → Prop} {s : Shared} {h₀ : Heap} {L l b : Addr} {m : Str → Option Value} {news news' : List (Addr × Obj)} {value slice : Expr} {vs ws : List Value} {k k2 : Nat} {x y : Int} {t u : Tok} {Q : Value → Shared → Prop}
theorem lenL (N : News h₀ L s.heap news) (hm : (l, W.listOf vs.toArray k) ∈ news) (hz : vs.length ≤ 1000000) (h : Q (.int vs.length (s.toks + 1)) { s with toks := s.toks + 1 + 1 }) : wpAny (model prog w) A (call (.builtin "len") [.ref l]) Q E s :=
  Calls.call_len_list (list_is N hm) (by rw [List.size_toArray]; omega) (by simpa using h)
theorem sliceRun (F : Fr h₀ L s.heap m) (N : News h₀ L s.heap news) (hm : (l, W.listOf vs.toArray k) ∈ news) (hz : vs.length ≤ 1000000) (hx : 0 ≤ x) (hy : 0 ≤ y)
    (h : ∀ D h', Fr h₀ L h' m → News h₀ L h' ((D, W.listOf ((vs.drop x.toNat).take (y.toNat - x.toNat)).toArray 0) :: news) → (∀ p ∈ news, p.1 < D) → Q (.ref D) { s with heap := h' })
    (hs : subscripted slice false (.ref l) (.ref s.heap.objs.size) = operate [.ref s.heap.objs.size, .ref l] (getItem (.ref l) (.ref s.heap.objs.size))) (ht : ∀ r, letTemporaryGo value (.ref l) r = pure ()) :
    wpAny (model prog w) A (subscriptTail value slice (.ref l) (.ref s.heap.objs.size)) Q E { s with heap := s.heap.push { cls := .type "slice", data := .fields #[.int x t, .int y u, .none] } } :=
  kmk_slice_lit F N (list_is N hm) (.int _ _) (.int _ _) (pick_run hx hy) h hs ht (by rw [List.size_toArray, sizeLine_eq]; omega)
theorem sliceFrom (F : Fr h₀ L s.heap m) (N : News h₀ L s.heap news) (hm : (l, W.listOf vs.toArray k) ∈ news) (hz : vs.length ≤ 1000000) (hx : 0 ≤ x)
    (h : ∀ D h', Fr h₀ L h' m → News h₀ L h' ((D, W.listOf (vs.drop x.toNat).toArray 0) :: news) → (∀ p ∈ news, p.1 < D) → Q (.ref D) { s with heap := h' })
    (hs : subscripted slice false (.ref l) (.ref s.heap.objs.size) = operate [.ref s.heap.objs.size, .ref l] (getItem (.ref l) (.ref s.heap.objs.size))) (ht : ∀ r, letTemporaryGo value (.ref l) r = pure ()) :
    wpAny (model prog w) A (subscriptTail value slice (.ref l) (.ref s.heap.objs.size)) Q E { s with heap := s.heap.push { cls := .type "slice", data := .fields #[.int x t, .none, .none] } } :=
  kmk_slice_lit F N (list_is N hm) (.int _ _) .none (pick_from hx) h hs ht (by rw [List.size_toArray, sizeLine_eq]; omega)
theorem sliceUpto (F : Fr h₀ L s.heap m) (N : News h₀ L s.heap news) (hm : (l, W.listOf vs.toArray k) ∈ news) (hz : vs.length ≤ 1000000) (hy : 0 ≤ y)
    (h : ∀ D h', Fr h₀ L h' m → News h₀ L h' ((D, W.listOf (vs.take y.toNat).toArray 0) :: news) → (∀ p ∈ news, p.1 < D) → Q (.ref D) { s with heap := h' })
    (hs : subscripted slice false (.ref l) (.ref s.heap.objs.size) = operate [.ref s.heap.objs.size, .ref l] (getItem (.ref l) (.ref s.heap.objs.size))) (ht : ∀ r, letTemporaryGo value (.ref l) r = pure ()) :
    wpAny (model prog w) A (subscriptTail value slice (.ref l) (.ref s.heap.objs.size)) Q E { s with heap := s.heap.push { cls := .type "slice", data := .fields #[.none, .int y u, .none] } } :=
  kmk_slice_lit F N (list_is N hm) .none (.int _ _) (pick_upto hy) h hs ht (by rw [List.size_toArray, sizeLine_eq]; omega)
theorem sliceRev {vk : Value} {ops : List Value} (F : Fr h₀ L s.heap m) (N : News h₀ L s.heap news) (hm : (l, W.listOf vs.toArray k) ∈ news) (hz : vs.length ≤ 1000000) (pk : IsPart vk (some (-1)))
    (h : ∀ D h', Fr h₀ L h' m → News h₀ L h' ((D, W.listOf vs.reverse.toArray 0) :: news) → (∀ p ∈ news, p.1 < D) → Q (.ref D) { s with heap := h' })
    (hs : subscripted slice false (.ref l) (.ref s.heap.objs.size) = operate ops (getItem (.ref l) (.ref s.heap.objs.size))) (ht : ∀ r, letTemporaryGo value (.ref l) r = pure ()) :
    wpAny (model prog w) A (subscriptTail value slice (.ref l) (.ref s.heap.objs.size)) Q E { s with heap := s.heap.push { cls := .type "slice", data := .fields #[.none, .none, vk] } } :=
  krv_lit F N (list_is N hm) pk rfl h hs ht (by rw [List.size_toArray, sizeLine_eq]; omega)
theorem itemL {v : Value} (N : News h₀ L s.heap news) (hm : (l, W.listOf vs.toArray k) ∈ news) (h0 : 0 ≤ x) (hfit : x < 2 ^ 62) (hv : vs[x.toNat]? = some v) (h : Q v s)
    (hs : subscripted slice false (.ref l) (.int x t) = operate [.ref l, .int x t] (getItem (.ref l) (.int x t))) (ht : ∀ r, letTemporaryGo value (.ref l) r = pure ()) :
    wpAny (model prog w) A (subscriptTail value slice (.ref l) (.int x t)) Q E s :=
  subscriptTail_ops (list_is N hm).typeIs list_getitem_lookup (wpAny_getItem_list (list_is N hm) h0 (by omega) (by simpa using hv) h) hs ht
theorem addL (F : Fr h₀ L s.heap m) (N : News h₀ L s.heap news) (hm : (l, W.listOf vs.toArray k) ∈ news) (hb : (b, W.listOf ws.toArray k2) ∈ news) (hz : vs.length + ws.length ≤ 1000000)
    (h : ∀ D h', Fr h₀ L h' m → News h₀ L h' ((D, W.listOf (vs ++ ws).toArray 0) :: news) → (∀ p ∈ news, p.1 < D) → Q (.ref D) { s with heap := h' }) :
    wpAny (model prog w) A (binaryOp .Add (.ref l) (.ref b)) Q E s :=
  add_lists F N (list_is N hm) (list_is N hb) (fun h' F' N' => h _ h' F' N' fun p hp => Heap.lt_size (N p hp).1) (by rw [sizeLine_eq]; omega)
theorem extendL (F : Fr h₀ L s.heap m) (N : News h₀ L s.heap news) (hb : (b, W.listOf ws.toArray k2) ∈ news) (hz : vs.length + ws.length ≤ 1000000) (hne : ws ≠ [])
    (U : Upd l (W.listOf vs.toArray k) (W.listOf (vs ++ ws).toArray (k + 1)) news news') (h : ∀ h', Fr h₀ L h' m → News h₀ L h' news' → Q .none { s with heap := h' }) : wpAny (model prog w) A (call (.builtin "list.extend") [.ref l, .ref b]) Q E s :=
  kl_extend (its := vs.toArray) (its2 := ws.toArray) F N hb (by rfl) (by simpa using hne) U (extend_door (by rw [List.size_toArray, List.size_toArray, sizeLine_eq]; omega)) (by show vs.length ≤ _; rw [sizeLine_eq]; omega) (by rw [List.size_toArray, List.size_toArray, sizeLine_eq]; omega) h
theorem extendNil (F : Fr h₀ L s.heap m) (N : News h₀ L s.heap news) (hb : (b, W.listOf ws.toArray k2) ∈ news) (hz : vs.length ≤ 1000000) (hne : ws = [])
    (U : Upd l (W.listOf vs.toArray k) (W.listOf vs.toArray k) news news') (h : ∀ h', Fr h₀ L h' m → News h₀ L h' news' → Q .none { s with heap := h' }) : wpAny (model prog w) A (call (.builtin "list.extend") [.ref l, .ref b]) Q E s := by
  subst hne
  exact kxn_extend (its := vs.toArray) (its2 := ([] : List Value).toArray) F N hb (by rfl) U (extend_door (by rw [List.size_toArray, List.size_toArray, sizeLine_eq]; simp; omega)) (by show vs.length ≤ _; rw [sizeLine_eq]; omega) (by rw [List.size_toArray, List.size_toArray, sizeLine_eq]; simp; omega) h
end
end
section
section
variable {prog : Program} {w : World} {A : Around} {E : Value → Shared → Prop} {Q : Flow → Shared → Prop} {s : Shared} {env : Env} {h₀ : Heap} {L : Addr}
inductive CellInv {σ : Type} (h₀ : Heap) (L : Addr) (s : Shared) (n : Nat) (Led : σ → List (Addr × Obj)) (ps : σ → List (Str × Value)) (gs : σ → Array GenState) (stored : List Str) (m₀ : Str → Option Value) (P : Nat → σ → Prop) (I cj : Addr) (St : Nat → Heap → Prop) (k : Nat) (s' : Shared) : Prop
  | mk (i : Nat) (c : σ) (oj : Obj) (vj : Option Value) (hi : i ≤ n) (hk : k = n + 1 - i) (hP : P i c) (hne : ∀ p ∈ Led c, p.1 ≠ I ∧ p.1 ≠ cj) (hjd : oj.data = .cell vj) (hA : AtG h₀ L s (fun c => (cj, oj) :: Led c) ps gs stored m₀ c s') (hst : St i s'.heap) : CellInv h₀ L s n Led ps gs stored m₀ P I cj St k s'
/-- for over a target that is a cell of the frame -/
theorem forCell {σ : Type} {x : Str} {px : Pos} {body : List Stmt} {m₀ : Str → Option Value} {I cj : Addr} {oj₀ : Obj} {v₀ : Option Value} {fp wr : List Addr} {n : Nat} {Pv : Nat → Value → Prop} {St : Nat → Heap → Prop}
    (Led : σ → List (Addr × Obj)) (ps : σ → List (Str × Value)) (gs : σ → Array GenState) (stored : List Str) (P : Nat → σ → Prop) (c₀ : σ)
    {news₀ : List (Addr × Obj)} (W : Walks prog w A I fp wr n Pv St) (hx : env.kindOf x = some .cell) (hkf : env.scope.kind = .function) (hcl : env.cells.lookup x = some cj)
    (hL : env.locals = L) (hwr : ∀ b ∈ wr, b = I) (hI : ∀ i h, St i h → ∃ o, h.get? I = some o) (hI0 : h₀.get? I = none) (hIL : I ≠ L) (hIj : I ≠ cj)
    (hfp : ∀ b ∈ fp, b = I ∨ (∃ o, h₀.get? b = some o) ∨ ∃ o, ∀ i c, P i c → (b, o) ∈ Led c)
    (hst : St 0 s.heap) (F : Fr h₀ L s.heap m₀) (N : News h₀ L s.heap news₀) (hj : (cj, oj₀) ∈ news₀) (hjd : oj₀.data = .cell v₀) (hn : ∀ p ∈ Led c₀, p ∈ news₀) (hnI : ∀ p ∈ Led c₀, p.1 ≠ I ∧ p.1 ≠ cj) (hg : s.gens = gs c₀) (hk : ∀ p ∈ ps c₀, m₀ p.1 = some p.2) (hp : P 0 c₀)
    (turn : ∀ i (c : σ) (u : Str → Option Value) h tk v oI oj, i < n → Pv i v → P i c → (∀ p ∈ Led c, p.1 ≠ I ∧ p.1 ≠ cj) → oj.data = .cell (some v) → Fr h₀ L h (kstB (fun z => if stored.contains z then u z else m₀ z) (ps c)) → News h₀ L h ((I, oI) :: (cj, oj) :: Led c) →
      wpAny (model prog w) A (execs body env) (ForEnd h₀ L s I oI (fun c => (cj, oj) :: Led c) ps gs stored m₀ (fun c => P (i + 1) c ∧ ∀ p ∈ Led c, p.1 ≠ cj) Q) E { s with heap := h, toks := tk, gens := gs c })
    (done : ∀ (c : σ) (u : Str → Option Value) h tk oj v, P n c → oj.data = .cell v → Fr h₀ L h (kstB (fun z => if stored.contains z then u z else m₀ z) (ps c)) → News h₀ L h ((cj, oj) :: Led c) → Q .next { s with heap := h, toks := tk, gens := gs c })
    (hE : PassesOwn (model prog w) A env E := by passes_own) :
    codeAny (model prog w) A (.forLoop (.Name x px) (.ref I) body [] env) (fun r s' => match r with | .ok f => Q f s' | .error e => cameBackBy (model prog w) A env E e s') s := by
  subst hL
  have old : ∀ b o, h₀.get? b = some o → b ≠ I := fun b o e q => by rw [q, hI0] at e; cases e
  have hjL := (N _ hj).2.1
  have hj0 := (N _ hj).2.2
  refine codeAny_forLoop (CellInv h₀ env.locals s n Led ps gs stored m₀ P I cj St) ?_ (n + 1)
    ⟨0, c₀, oj₀, v₀, Nat.zero_le _, rfl, hp, hnI, hjd, ⟨s.heap, s.toks, m₀, news₀, by rw [← hg], F, N, List.forall_mem_cons.mpr ⟨hj, hn⟩, hk, fun _ _ _ => rfl⟩, hst⟩
  rintro k s' ⟨i, c, oj, vj, hi, rfl, hP, hne, hjd', ⟨h, tk, m', news', rfl, F', N', hn', hk', hr'⟩, hst'⟩
  have N₁ : News h₀ env.locals h ((cj, oj) :: Led c) := fun p hp => N' p (hn' p hp)
  have hne1 : ∀ p ∈ (cj, oj) :: Led c, p.1 ≠ I := List.forall_mem_cons.mpr ⟨Ne.symm hIj, fun p hp => (hne p hp).1⟩
  have next : ∀ h₁ : Heap, (∀ b o, b ∉ wr → h.get? b = some o → h₁.get? b = some o) → Fr h₀ env.locals h₁ m' ∧ News h₀ env.locals h₁ ((cj, oj) :: Led c) := fun h₁ hk₁ =>
    ⟨⟨F'.ns.at' fun o e => hk₁ _ o (fun q => hIL (hwr _ q).symm) e, fun b o e => hk₁ b o (fun q => old b o e (hwr _ q)) (F'.keep b o e), F'.above⟩,
      fun p hp => ⟨hk₁ _ _ (fun q => hne1 p hp (hwr _ q)) (N₁ p hp).1, (N₁ p hp).2⟩⟩
  by_cases hlt : i < n
  · refine W.item i _ _ _ hlt hst' fun v h₁ tk₁ hPv hst₁ hk₁ => ?_
    obtain ⟨F₁, N₁'⟩ := next h₁ hk₁
    have zj := N₁' _ (.head _)
    refine wpAny_assign_Name (wpAny_storeName_cell hkf hx hcl ⟨oj, zj.1, hjd'⟩ fun h₂ hv₂ hs₂ => ?_)
    obtain ⟨oj', hoj', hdj'⟩ := hv₂
    obtain ⟨oI, hoI⟩ := hI _ _ hst₁
    have F₂ : Fr h₀ env.locals h₂ m' := F₁.change hs₂ hjL hj0
    have N₂ : News h₀ env.locals h₂ ((I, oI) :: (cj, oj') :: Led c) := by
      refine List.forall_mem_cons.mpr ⟨by exact ⟨(hs₂.2 I hIj).trans hoI, hIL, hI0⟩, ?_⟩
      refine List.forall_mem_cons.mpr ⟨by exact ⟨hoj', hjL, hj0⟩, ?_⟩
      intro p hp
      · exact ⟨(hs₂.2 _ (hne p hp).2).trans (N₁' p (.tail _ hp)).1, (N₁' p (.tail _ hp)).2⟩
    refine wpAny_passesOwn hE (wpAny_mono (turn i c m' h₂ _ v oI oj' hlt hPv hP hne hdj' (fr_kst hk' hr' F₂) N₂) (fun f s₃ h₃ => ?_) fun _ _ e => e)
    have fin : (∃ c', AtG h₀ env.locals s (fun c => (I, oI) :: (cj, oj') :: Led c) ps gs stored m₀ c' s₃ ∧ (P (i + 1) c' ∧ ∀ p ∈ Led c', p.1 ≠ cj) ∧ ∀ p ∈ (cj, oj') :: Led c', p.1 ≠ I) →
        ∃ m, m < n + 1 - i ∧ CellInv h₀ env.locals s n Led ps gs stored m₀ P I cj St m s₃ := by
      rintro ⟨c', ⟨h₃', tk₃, m₃, news₃, rfl, F₃, N₃, hn₃, hk₃, hr₃⟩, ⟨hP', hcj'⟩, hne'⟩
      refine ⟨n + 1 - (i + 1), step_lt hlt, i + 1, c', oj', some v, hlt, rfl, hP', fun p hp => ⟨hne' p (.tail _ hp), hcj' p hp⟩, hdj', ⟨h₃', tk₃, m₃, news₃, rfl, F₃, N₃, fun p hp => hn₃ p (.tail _ hp), hk₃, hr₃⟩, ?_⟩
      refine W.frame _ _ _ hst₁ fun b hb o e => ?_
      rcases hfp b hb with rfl | ⟨o', ho'⟩ | ⟨o', ho'⟩
      · have : oI = o := by rw [hoI] at e; exact Option.some.inj e
        subst this
        exact (N₃ _ (hn₃ _ (.head _))).1
      · have : o' = o := by have := F₁.keep b o' ho'; rw [e] at this; exact (Option.some.inj this).symm
        subst this
        exact F₃.keep b _ ho'
      · have : o' = o := by have := (N₁' _ (.tail _ (ho' i c hP))).1; rw [e] at this; exact (Option.some.inj this).symm
        subst this
        exact (N₃ _ (hn₃ _ (.tail _ (.tail _ (ho' _ c' hP'))))).1
    cases f with
    | ret v => exact h₃
    | brk => exact h₃
    | next => exact fin h₃
    | cont => exact fin h₃
  · have hin : i = n := Nat.le_antisymm hi (Nat.not_lt.mp hlt)
    subst hin
    refine W.done _ _ _ hst' fun h₁ tk₁ hk₁ => wpAny_execs_nil ?_
    obtain ⟨F₁, N₁'⟩ := next h₁ hk₁
    exact done c m' h₁ tk₁ oj vj hP hjd' (fr_kst hk' hr' F₁) N₁'
end
end
section
/-- the generator is at its j-th item -/
inductive GenSt (prog : Program) (w : World) (A : Around) (base : Heap) (G C : Addr) (g : Nat) (items : List (Int × Str)) (own : List (Addr × Obj)) (j : Nat) (h : Heap) (gens : Array GenState) : Prop
  | mk (gs : GenState) (hgs : gens[g]? = some gs) (hsz : j = 0 → h.objs.size = G + 1) (hgo : ∀ s'' : Shared, (∀ b o, base.get? b = some o → s''.heap.get? b = some o) → (∀ p ∈ own, s''.heap.get? p.1 = some p.2) → (j = 0 → s''.heap.objs.size = G + 1) →
    gs.Goes (model prog w) A.in1 (escR C (G + 1 + 1) (G + 1)) (escY base C (G + 1 + 1) (G + 1) items) (items.length - j) (.send .none) s'') : GenSt prog w A base G C g items own j h gens
section
variable {prog : Program} {w : World} {A : Around} {s : Shared} {h₀ : Heap} {L : Addr} {m : Str → Option Value} {news : List (Addr × Obj)} {K : Frag} {p : Program} {loose : List Str} {mean : ExcName → Option Value} {mg mb : Str → Option Value}
  {R : Result → Shared → Prop} {name qual : Str} {params : Arguments} {body : List Stmt} {scope : Scope} {dV kV doc pm cdv ct oc : Value} {an od : Option Addr} {osl : Array (Option Value)} {f : Addr} {args : Args} {binds : List (Str × Value)}
theorem genDef (F : Fr h₀ L s.heap m) (X₀ : K.In h₀) (N : News h₀ L s.heap news) (T : Top p loose mean mg mb h₀)
    (ho : K.lookup f = some ⟨oc, od, .func (fnOf name qual params body scope dV kV doc pm an cdv ct), osl⟩) (hcd : codeIn K cdv qual = true) (hroom : A.depth < recursionLimit)
    (hbind : BindsTo s (fnOf name qual params body scope dV kV doc pm an cdv ct) args binds) (hloc : ∀ y ∈ binds, scope.names.lookup y.1 = some .local)
    (h : ∀ C oC oG h' tk, LCg.NsObj oC (fun x => binds.reverse.lookup x) → Fr h₀ L h' m → News h₀ L h' ((C + 1, oG) :: (C, oC) :: news) → (∀ p ∈ news, p.1 < C) → L < C → h₀.objs.size ≤ C → h'.objs.size = C + 1 + 1 → h'.IsGen (C + 1) s.gens.size →
      R (.ok (.ret (.ref (C + 1)))) { s with heap := h', toks := tk, gens := s.gens.push (.fresh (.func body (envOf qual scope C f cdv))) })
    (hco : scope.isCoroutine = false) (hgen : scope.isGenerator = true) (hk : scope.kind = .function) (hcell : ∀ x ∈ scope.names, x.2 ≠ .cell) : codeAny (model prog w) A (.call (.ref f) args) R s := by
  have X := X₀.keeps F.keep
  refine codeAny_call_generator hroom (X _ _ ho) rfl hco hgen rfl (codeRec_of X hcd) (hbind _ _ _ _ ?_)
  refine wpAny_newFunctionEnv hcell hloc (fun h₁ hns₁ hsb₁ => ?_) hk
  have keep : ∀ b o, s.heap.get? b = some o → h₁.get? b = some o := fun b o e => hsb₁.extBut b o (Nat.ne_of_lt (Heap.lt_size e)) (Heap.get?_push_of_some _ e)
  have hsz : h₁.objs.size = s.heap.objs.size + 1 := by rw [hsb₁.1, Heap.size_push]
  obtain ⟨oC, hoC, hNs⟩ := LCg.ns_obj hns₁
  have hC0 : h₀.get? s.heap.objs.size = none := next_is_new F
  refine ⟨(T.nolimit.keeps F.keep).keeps keep, ?_⟩
  have F₁ := F.keeps keep
  have N₁ : News h₀ L h₁ ((s.heap.objs.size, oC) :: news) := List.forall_mem_cons.mpr ⟨⟨hoC, Nat.ne_of_gt F.ns.lt, hC0⟩, N.grown keep⟩
  have hle : h₀.objs.size ≤ s.heap.objs.size := Nat.le_of_lt (Nat.lt_of_le_of_lt F.above F.ns.lt)
  show R (.ok (.ret (.ref h₁.objs.size))) _
  rw [hsz]
  refine h s.heap.objs.size oC _ _ _ hNs (F₁.push _) (hsz ▸ News.push F₁ N₁ _ rfl) (fun p hp => Heap.lt_size (N p hp).1) F.ns.lt hle (by rw [Heap.size_push, hsz]) ?_
  rw [← hsz]
  exact ⟨_, _, _, Heap.get?_push_size _ rfl, rfl, rfl, rfl⟩
end
noncomputable def escs : Nat → Bool → List Nat → List (Int × Str)
  | _, _, [] => []
  | i, true, c :: r => ((i : Int), ⟨#[92, c]⟩) :: escs (i + 1) false r
  | i, false, c :: r => if c = 92 then escs (i + 1) true r else ((i : Int), ⟨#[c]⟩) :: escs (i + 1) false r
noncomputable def escEnd : Bool → List Nat → Bool
  | b, [] => b
  | true, _ :: r => escEnd false r
  | false, c :: r => escEnd (c == 92) r
theorem item_at {α : Type} {items pre r : List α} {x : α} (h : items = pre ++ x :: r) : items[items.length - 1 - r.length]? = some x := by
  subst h
  have : (pre ++ x :: r).length - 1 - r.length = pre.length := by simp
  rw [this]; simp
theorem bs_cat (c : Nat) : (Str.ofString "\\" ++ ⟨#[c]⟩ : Str) = ⟨#[92, c]⟩ := rfl
theorem bs_eq {c : Nat} : ((⟨#[c]⟩ : Str) == Str.ofString "\\") = true ↔ c = 92 := by
  rw [beq_iff_eq]
  constructor
  · intro h
    have : (⟨#[c]⟩ : Str).cps = (⟨#[92]⟩ : Str).cps := congrArg Str.cps h
    simpa using this
  · intro h; subst h; rfl
set_option maxRecDepth 100000 in
set_option maxHeartbeats 8000000 in
theorem escs_ {w : World} {p : Program} {loose : List Str} {mean : ExcName → Option Value} {mg mb : Str → Option Value}
    (dp un : Nat) (gd : Option (List Code)) (cn : Str) (cs : Scope) (a : Addr) (ccd : Value) (cl : List (Str × Addr)) (outer : List Env) (A₀ : Around) (base h₀ : Heap) (L : Addr) (m : Str → Option Value) (news : List (Addr × Obj)) (s : Shared)
    (Q E : Value → Shared → Prop) (text : Str) (tt : Tok)
    (B : Below A₀ base outer h₀) (F : Fr h₀ L s.heap m) (X : (Mine.heapK w.params).In h₀) (XB : (Mine.heapK w.params).In base) (N : News h₀ L s.heap news) (T : Top p loose mean mg mb h₀) (TB : Top p loose mean mg mb base) (hk : cs.kind = .function)
    (hd : dp + 5 < recursionLimit) (hu : un + 100 < cLine) (hbs : base.objs.size ≤ h₀.objs.size) (hend : escEnd false text.cps.toList = false)
    (ret : ∀ C oC oG h' tk' gs, Fr h₀ L h' m → News h₀ L h' ((C + 1, oG) :: (C, oC) :: news) → (∀ p ∈ news, p.1 < C) → L < C → h'.IsGen (C + 1) s.gens.size → gs.bare = true →
      GenSt PySem.Challenge.pw_wf0071_01 w (ktrTop dp un gd cn cs L a ccd cl outer) base (C + 1) C s.gens.size (escs 0 false text.cps.toList) [(C, oC)] 0 h' (s.gens.push gs) → Q (.ref (C + 1)) { s with heap := h', toks := tk', gens := s.gens.push gs }) :
    wpAny (model PySem.Challenge.pw_wf0071_01 w) (ktrTop dp un gd cn cs L a ccd cl outer) (call (.ref 37) [.str text tt]) Q E s := by
  refine wpAny_call ?_
  k_dflt (refine' genDef ?k2 ?k3 ?k4 ?k5 ?k6 ?k7 ?k8 ?k9 ?kB ?_ ?c2 ?c3 ?c4 ?c5; (case k2 => exact F); (case k3 => exact X); (case k4 => exact N); (case k5 => exact T); (case k6 => k_is); (case k7 => k_is); (case k8 => ktr_room); (case k9 => exact BindsTo.of_eq rfl); (case c5 => decide); (case kB => exact locs rfl); (case c2 => exact rfl); (case c3 => exact rfl); (case c4 => exact rfl); k_whole)
  intro C oC oG h' tk' hNs F' N' lt hLC hle hsz hG
  dsimp only
  refine ret C oC oG h' tk' _ F' N' lt hLC hG (by rfl) ⟨_, Array.getElem?_push_size .., fun _ => hsz, fun s'' hb hown hsz' => ⟨rfl, seg_func ?_⟩⟩
  have F0 : Fr base C s''.heap _ := ⟨hNs.ns (hown _ (.head _)), hb, Nat.le_trans hbs hle⟩
  obtain ⟨rest, cov, hr⟩ := rest_of base C (C + 1 + 1 + 1) (C + 1 + 1) s''.heap hb
  have N0 : News base C s''.heap rest := fun p hp => ⟨(hr p hp).1, (hr p hp).2.1, (hr p hp).2.2.2.2⟩
  clear F X T N F' N'
  have sz := hsz' rfl
  refine seg_execs_cons (seg_Assign ?_)
  walk_at "STEPSG"
  refine wpAny_storeName_local rfl F0.ns (fun h1 hn1 hs1 => ?_) rfl
  have F1 := F0.set hn1 hs1
  have N1 := News.set N0 hs1
  have z1 : h1.objs.size = C + 1 + 1 := hs1.1.trans sz
  clear F0 N0 sz
  walk_at "STEPSG"
  dsimp only
  refine seg_execs_cons (seg_Assign ?_)
  walk_at "STEPSG"
  refine wpAny_storeName_local rfl F1.ns (fun h2 hn2 hs2 => ?_) rfl
  have F2 := F1.set hn2 hs2
  have N2 := News.set N1 hs2
  have z2 : h2.objs.size = C + 1 + 1 := hs2.1.trans z1
  clear F1 N1 z1
  walk_at "STEPSG"
  dsimp only
  refine seg_execs_cons (seg_For (by intro _; rfl) ?_)
  walk_at "STEPSG"
  refine call_enumerate_str fun h3 he3 hi3 hz3 hk3 => ?_
  dsimp only at he3 hi3 hz3 hk3
  rw [z2] at he3 hi3
  have e3 : h2.objs.size + 1 = C + 1 + 1 + 1 := by rw [z2]
  dsimp only
  rw [e3]
  clear e3 z2
  have heC : @Ne Nat (C + 1 + 1 + 1) C := by omega
  have hiC : @Ne Nat (C + 1 + 1) C := by omega
  have hei : @Ne Nat (C + 1 + 1 + 1) (C + 1 + 1) := by omega
  have fresh : ∀ x : Nat, C < x → base.get? x = none := by
    intro x hx
    cases q : base.get? x with
    | none => rfl
    | some o => have q' := Heap.lt_size q; have : base.objs.size ≤ C := Nat.le_trans hbs hle; exact absurd (Nat.lt_of_lt_of_le q' (Nat.le_trans this (Nat.le_of_lt hx))) (Nat.lt_irrefl _)
  have l3 : @LT.lt Nat _ C (C + 1 + 1 + 1) := by omega
  have l2 : @LT.lt Nat _ C (C + 1 + 1) := by omega
  refine (enumStr (by rfl) _ _ hei text tt).self 0 _ _ _ ⟨⟨_, he3⟩, hi3⟩ fun ps => ?_
  have e0 : (escs 0 false text.cps.toList).length - 0 = (escs 0 false (text.cps.toList.drop 0)).length := by rw [List.drop_zero]; rfl
  rw [e0]
  have fr3 := F2.keeps hk3
  have nw3 := N2.grown hk3
  refine genLoop text tt (fun b : Bool => [(Str.ofString "escape", .bool b)]) (fun i b => (∃ pre, escs 0 false text.cps.toList = pre ++ escs i b (text.cps.toList.drop i)) ∧ escEnd b (text.cps.toList.drop i) = false) (fun i b => (escs i b (text.cps.toList.drop i)).length)
    (by rfl) (by rfl) (by rfl) (by rfl) (by rfl) hei heC hiC (fresh _ l3) (fresh _ l2) ?turn ?done _ 0 false s'' h3 _ _ rest rfl (Nat.zero_le _) ⟨⟨[], by rw [List.drop_zero]; rfl⟩, hend⟩ ?_ ⟨_, he3⟩ hi3 fr3 nw3 cov (fun p hp => ⟨(hr p hp).2.2.1, (hr p hp).2.2.2.1⟩)
  case turn =>
    clear fr3 nw3 F2 N2 e0 cov hr hb hown hsz' he3 hi3 hz3 hk3 hn1 hn2 hs1 hs2
    intro i b s₀ h tk mC rest oe oi t ch u hlt hch hP F N cov off again
    obtain ⟨⟨pre, hpre⟩, hfin⟩ := hP
    have hdrop : text.cps.toList.drop i = ch :: text.cps.toList.drop (i + 1) := by
      rw [List.drop_eq_getElem_cons (by simpa using hlt)]
      congr 1
      have := Array.getElem?_eq_some_iff.mp hch
      obtain ⟨_, e⟩ := this
      simpa using e
    rw [hdrop] at hpre hfin
    refine seg_execs_cons (seg_If ?_)
    cases b with
    | true =>
      have e : (escs i true (text.cps.toList.drop i)).length = (escs (i + 1) false (text.cps.toList.drop (i + 1))).length + 1 := by rw [hdrop]; rfl
      rw [e]
      walk_at "STEPS"
      refine seg_execs_cons (genYield (rest := rest) (by rfl) rfl (by rfl) cov (fun p hp => (off p hp).1) ?_)
      walk_at "STEPS"
      rename Fr _ _ _ _ => F1; rename News _ _ _ _ => N1; rename (_ ∧ _ ∧ AllLt _ _) => lr
      obtain ⟨lr1, lr2, lr3⟩ := lr
      have lr4 := allLt_to lr3
      have hn : escs 0 false text.cps.toList = pre ++ ((i : Int), ⟨#[92, ch]⟩) :: escs (i + 1) false (text.cps.toList.drop (i + 1)) := hpre
      refine ⟨_, (i : Int), ⟨#[92, ch]⟩, t, _, oe, oi, _, _, _, _, rfl, rfl, F1, N1, ?sub, .head _, .tail _ (.head _), .tail _ (.tail _ (.head _)), fun p hp => Nat.ne_of_lt (lr4 p hp), Nat.ne_of_gt lr1, Nat.ne_of_gt lr2, item_at hn, fun s2 rest2 F2 N2 cov2 off2 => ?_⟩
      case sub => walk_at "SUB"
      clear F1 N1 lr1 lr2 lr3 lr4 cov off
      dsimp only
      refine seg_execs_cons (seg_Assign ?_)
      walk_at "STEPS"
      rename Fr _ _ _ _ => F3; rename News _ _ _ _ => N3
      refine again false s2 _ _ _ rest2 _ _ F3 N3 (by walk_at "SUB") cov2 off2 ⟨⟨pre ++ [((i : Int), ⟨#[92, ch]⟩)], by rw [hn]; simp⟩, hfin⟩ (by walk_at "NAMES") rfl
    | false =>
      walk_at "STEPS"
      refine seg_execs_cons (seg_If ?_)
      walk_at "STEPS"
      · rename (_ == _) = true => hc
        have hc := bs_eq.mp hc
        have e : escs i false (text.cps.toList.drop i) = escs (i + 1) true (text.cps.toList.drop (i + 1)) := by rw [hdrop, escs, if_pos hc]
        rw [e]
        rw [escs, if_pos hc] at hpre
        refine seg_execs_cons (seg_Assign ?_)
        walk_at "STEPS"
        rename Fr _ _ _ _ => F3; rename News _ _ _ _ => N3
        refine again true s₀ _ _ _ rest _ _ F3 N3 (by walk_at "SUB") cov (fun p hp => (off p hp).2) ⟨⟨pre, hpre⟩, by rw [escEnd, hc] at hfin; exact hfin⟩ (by walk_at "NAMES") rfl
      · rename (_ == _) = false => hc
        have hc : ¬ ch = 92 := fun x => by rw [bs_eq.mpr x] at hc; cases hc
        have e : (escs i false (text.cps.toList.drop i)).length = (escs (i + 1) false (text.cps.toList.drop (i + 1))).length + 1 := by rw [hdrop, escs, if_neg hc]; rfl
        rw [e]
        rw [escs, if_neg hc] at hpre
        refine seg_execs_cons (genYield (rest := rest) (by rfl) rfl (by rfl) cov (fun p hp => (off p hp).1) ?_)
        walk_at "STEPS"
        rename Fr _ _ _ _ => F1; rename News _ _ _ _ => N1; rename (_ ∧ _ ∧ AllLt _ _) => lr
        obtain ⟨lr1, lr2, lr3⟩ := lr
        have lr4 := allLt_to lr3
        refine ⟨_, (i : Int), ⟨#[ch]⟩, t, _, oe, oi, _, _, _, _, rfl, rfl, F1, N1, ?sub, .head _, .tail _ (.head _), .tail _ (.tail _ (.head _)), fun p hp => Nat.ne_of_lt (lr4 p hp), Nat.ne_of_gt lr1, Nat.ne_of_gt lr2, item_at hpre, fun s2 rest2 F2 N2 cov2 off2 => ?_⟩
        case sub => walk_at "SUB"
        refine again false s2 s2.heap s2.toks _ rest2 _ _ F2 N2 (by walk_at "SUB") cov2 off2 ⟨⟨pre ++ [((i : Int), ⟨#[ch]⟩)], by rw [hpre]; simp⟩, by rw [escEnd, show (ch == 92) = false from beq_eq_false_iff_ne.mpr hc] at hfin; exact hfin⟩ (by walk_at "NAMES") rfl
  case done =>
    intro b s₀ h tk mC rest hP F N cov off
    obtain ⟨⟨pre, hpre⟩, hfin⟩ := hP
    rw [List.drop_eq_nil_of_le (by simp)] at hpre hfin
    have hb : b = false := hfin
    subst hb
    refine seg_block_nil ?_ rfl
    refine seg_execs_cons (seg_If ?_)
    walk_at "STEPS"
    rename Fr _ _ _ _ => F3; rename News _ _ _ _ => N3
    rw [show escs text.cps.size false (List.drop text.cps.size text.cps.toList) = [] by rw [List.drop_eq_nil_of_le (by simp)]; rfl]
    exact seg_end (.ok (.ret .none)) ⟨rfl, rfl, since3_of cov F3 fun p hp => (N3 p hp).1⟩
  · walk_at "NAMES"
end
section
structure VSt where
  b : Int
  v : Int
  tb : Tok
  tv : Tok
  i : Nat
noncomputable def vr : List Int → Int → Option (Int × List Int)
  | [], _ => none
  | b :: r, v => if 64 ≤ b then vr r (v * 64 + b % 64) else some (v * 64 + b % 64, r)
theorem vr_le : ∀ (l : List Int) (v n : Int) (r : List Int), vr l v = some (n, r) → (∀ b ∈ l, 0 ≤ b ∧ b < 128) → 0 ≤ v → v ≤ n
  | [], _, _, _, h, _, _ => by cases h
  | b :: l, v, n, r, h, hb, hv => by
    have h1 := hb b (.head _)
    rw [vr] at h
    split at h
    · have := vr_le l _ n r h (fun b hb' => hb b (.tail _ hb')) (by omega)
      omega
    · cases h; omega
theorem bor64 {x b : Int} : Builtin.bitOr (x * 2 ^ (6 : Int).toNat) (Builtin.bitAnd b 63) = x * 64 + b % 64 := by
  have e1 := bitXor_and (x * 64) (b % 64)
  have e2 : Builtin.bitXor (x * 64) (b % 64) = Builtin.bitOr (x * 64) (b % 64) - Builtin.bitAnd (x * 64) (b % 64) := rfl
  have h0 : ∀ y z : Int, Builtin.bitAnd (2 * y) z = 2 * Builtin.bitAnd y (z / 2) := by
    intro y z
    rw [kbt_halves (2 * y) z]
    have a1 : 2 * y / 2 = y := by omega
    have a2 : ¬ (2 * y % 2 = 1 ∧ z % 2 = 1) := by omega
    rw [a1, if_neg a2]; omega
  have e3 : Builtin.bitAnd (x * 64) (b % 64) = 0 := by
    have a : x * 64 = 2 * (2 * (2 * (2 * (2 * (2 * x))))) := by omega
    rw [a, h0, h0, h0, h0, h0, h0]
    have z : b % 64 / 2 / 2 / 2 / 2 / 2 / 2 = 0 := by omega
    rw [z]
    have : Builtin.bitAnd x 0 = 0 := by have := bitAnd_range x (y := 0) (by omega); omega
    rw [this]; rfl
  have e4 : (2 : Int) ^ (6 : Int).toNat = 64 := by decide
  rw [bitAnd_m6, e4]
  omega
theorem band64 {b : Int} (h0 : 0 ≤ b) (h1 : b < 128) : Builtin.bitAnd b 64 = if 64 ≤ b then 64 else 0 := by
  have := kbt_bit b 6
  have e4 : (2 : Int) ^ 6 = 64 := by decide
  rw [e4] at this
  rw [this]
  split <;> omega
structure VInv (ns : List Int) (n : Int) (rest : List Int) (c : VSt) : Prop where
  h1 : 0 ≤ c.b
  h2 : c.b < 128
  h3 : 0 ≤ c.v
  h4 : c.v < 10000
  h5 : c.i ≤ ns.length
  h6 : (if 64 ≤ c.b then vr (ns.drop c.i) c.v else some (c.v, ns.drop c.i)) = some (n, rest)
set_option maxRecDepth 100000 in
set_option maxHeartbeats 8000000 in
theorem varint_ {w : World} {p : Program} {loose : List Str} {mean : ExcName → Option Value} {mg mb : Str → Option Value}
    (dp un : Nat) (gd : Option (List Code)) (cn : Str) (cs : Scope) (a : Addr) (ccd : Value) (cl : List (Str × Addr)) (outer : List Env) (A₀ : Around) (base h₀ : Heap) (L : Addr) (m : Str → Option Value) (news : List (Addr × Obj)) (s : Shared)
    (Q E : Value → Shared → Prop) (l it : Addr) (vs : List Value) (ns : List Int) (k i : Nat)
    (B : Below A₀ base outer h₀) (F : Fr h₀ L s.heap m) (X : (Mine.heapK w.params).In h₀) (N : News h₀ L s.heap ((it, lit l i) :: news)) (T : Top p loose mean mg mb h₀) (hk : cs.kind = .function)
    (hm : (l, W.listOf vs.toArray k) ∈ news) (hI : IntsAre vs ns) (hne : ∀ p ∈ news, p.1 ≠ it) (hd : dp + 5 < recursionLimit) (hu : un + 100 < cLine) (hns : ∀ b ∈ ns, 0 ≤ b ∧ b < 128)
    (n : Int) (rest : List Int) (hv : vr (ns.drop i) 0 = some (n, rest)) (hn : n < 10000)
    (ret : ∀ j t h' tk', ns.drop j = rest → j ≤ ns.length → Fr h₀ L h' m → News h₀ L h' ((it, lit l j) :: news) → Q (.int n t) { s with heap := h', toks := tk' }) :
    wpAny (model PySem.Challenge.pw_wf0071_01 w) (ktrTop dp un gd cn cs L a ccd cl outer) (call (.ref 30) [.ref it]) Q E s := by
  refine wpAny_call ?_
  k_dflt cell_enter
  walk_at "STEPS"
  have pick : ∀ (i : Nat) (v : Int) (x : Int × List Int), vr (ns.drop i) v = some x → ∃ b, ns[i]? = some b ∧ ns.drop i = b :: ns.drop (i + 1) := by
    intro i v x h
    cases e : ns[i]? with
    | none =>
      rw [List.getElem?_eq_none_iff] at e
      rw [List.drop_eq_nil_of_le e] at h; cases h
    | some b =>
      obtain ⟨hlt, hb⟩ := List.getElem?_eq_some_iff.mp e
      exact ⟨b, rfl, by rw [List.drop_eq_getElem_cons hlt, hb]⟩
  obtain ⟨b0, hb0, hd0⟩ := pick i 0 _ hv
  have hb1 := hns b0 (List.mem_of_getElem? hb0)
  obtain ⟨t0, ht0⟩ := hI.get i b0 hb0
  refine nextCall (by k_asm) (by k_asm) (Upd.head hne) (List.Mem.tail _ hm) ht0 fun h1 F1 N1 => ?_
  walk_at "STEPS"
  rename Fr _ _ _ _ => F'; rename News _ _ _ _ => N'
  refine' whileG (fun c : VSt => (it, lit l c.i) :: news) (fun c => [(Str.ofString "b", .int c.b c.tb), (Str.ofString "val", .int c.v c.tv)]) (fun _ => s.gens) []
    (VInv ns n rest) (fun c => ns.length - c.i) ⟨b0, ?_, _, _, i + 1⟩ F' N' (by walk_at "SUB") rfl (by walk_at "NAMES") ?_ ?_
  · rw [bitAnd_m6]
    rw [hd0, vr, show (0 : Int) * 64 + b0 % 64 = b0 % 64 by omega] at hv
    have := (List.getElem?_eq_some_iff.mp hb0).1
    exact ⟨hb1.1, hb1.2, by dsimp only; omega, by dsimp only; omega, by dsimp only; omega, hv⟩
  · rintro ⟨cb, cv, ctb, ctv, ci⟩ u' h2 tk2 ⟨h1, h2', h3, h4, h5, h6⟩ F2 N2
    dsimp only at *
    walk_at "STEPS"
    · rename Builtin.bitAnd cb 64 ≠ 0 => hc
      rw [band64 h1 h2'] at hc
      have hc : 64 ≤ cb := by split at hc <;> simp_all
      rw [if_pos hc] at h6
      obtain ⟨b', hb', hd'⟩ := pick ci cv _ h6
      have hb2 := hns b' (List.mem_of_getElem? hb')
      obtain ⟨t', ht'⟩ := hI.get ci b' hb'
      refine nextCall (by k_asm) (by k_asm) (Upd.head hne) (List.Mem.tail _ hm) ht' fun h1 F1 N1 => ?_
      walk_at "STEPS"
      rename Fr _ _ _ _ => F3; rename News _ _ _ _ => N3
      rw [hd', vr] at h6
      have hle : cv * 64 + b' % 64 ≤ n := by
        split at h6
        · exact vr_le _ _ _ _ h6 (fun b hb => hns b (List.mem_of_mem_drop hb)) (by omega)
        · cases h6; omega
      have hl := (List.getElem?_eq_some_iff.mp hb').1
      refine' whl_next ⟨b', cv * 64 + b' % 64, ?t, ?tv, ci + 1⟩ F3 N3 ?sub ?names ?keep ⟨hb2.1, hb2.2, ?p1, ?p2, ?p3, ?p4⟩ ?less rfl
      case names => rw [bor64]; walk_at "NAMES"
      case sub => walk_at "SUB"
      case keep => walk_at "KEEP"
      case p1 => dsimp only; omega
      case p2 => dsimp only; omega
      case p3 => dsimp only; omega
      case p4 => exact h6
      case less => dsimp only; omega
    · rename Builtin.bitAnd cb 64 = 0 => hc
      rw [band64 h1 h2'] at hc
      have hc : ¬ 64 ≤ cb := by split at hc <;> simp_all
      rw [if_neg hc] at h6
      cases h6
      rename Fr _ _ _ m => F3; rename News _ _ _ _ => N3
      exact ret ci _ _ _ rfl h5 F3 N3
set_option maxRecDepth 100000 in
set_option maxHeartbeats 8000000 in
theorem varint_end {w : World} {p : Program} {loose : List Str} {mean : ExcName → Option Value} {mg mb : Str → Option Value}
    (dp un : Nat) (gd : Option (List Code)) (cn : Str) (cs : Scope) (a : Addr) (ccd : Value) (cl : List (Str × Addr)) (outer : List Env) (A₀ : Around) (base h₀ : Heap) (L : Addr) (m : Str → Option Value) (news : List (Addr × Obj)) (s : Shared)
    (Q E : Value → Shared → Prop) (l it : Addr) (vs : List Value) (k i : Nat)
    (B : Below A₀ base outer h₀) (F : Fr h₀ L s.heap m) (X : (Mine.heapK w.params).In h₀) (N : News h₀ L s.heap ((it, lit l i) :: news)) (T : Top p loose mean mg mb h₀) (hk : cs.kind = .function)
    (hm : (l, W.listOf vs.toArray k) ∈ news) (hne : ∀ p ∈ news, p.1 ≠ it) (hd : dp + 5 < recursionLimit) (hu : un + 100 < cLine) (hi : vs.length ≤ i)
    (ret : ∀ e t h' g tk', Fr h₀ L g m → RaisedS base g (envX cn cs L a ccd cl :: outer) e (.type "StopIteration") t [] ((it, litDone i) :: news) h' → g.UpToSlots h' → E (.ref e) { s with heap := h', toks := tk' }) :
    wpAny (model PySem.Challenge.pw_wf0071_01 w) (ktrTop dp un gd cn cs L a ccd cl outer) (call (.ref 30) [.ref it]) Q E s := by
  refine wpAny_call ?_
  k_dflt cell_enter
  walk_at "STEPS"
  refine nextEnd (by rfl) (by k_asm) (by k_asm) (Upd.head hne) (List.Mem.tail _ hm) hi fun h1 h2 e F1 N1 M => ?_
  refine leave_raiseS (by k_asm) M F1 N1 fun h' t R _ U => ?_
  exact ret e t h' _ _ (by k_asm) R U

structure RSt where
  j : Nat
  done : List Int
  vs : List Value
  k : Nat
theorem vr_lt : ∀ (l : List Int) (v n : Int) (r : List Int), vr l v = some (n, r) → r.length < l.length
  | [], _, _, _, h => by cases h
  | b :: l, v, n, r, h => by
    rw [vr] at h
    split at h
    · have := vr_lt l _ n r h
      simp; omega
    · cases h; simp
/-- reading to the end: the numbers, or a stop amid one -/
noncomputable def vrs : Nat → List Int → Option (List Int)
  | 0, _ => none
  | _ + 1, [] => some []
  | f + 1, l => match vr l 0 with
    | some (n, r) => (vrs f r).map (n :: ·)
    | none => none
inductive RInv (ns out : List Int) (c : RSt) : Prop
  | mk (h1 : IntsAre c.vs c.done) (h2 : c.j ≤ ns.length) (h3 : c.done.length ≤ 100) (f' : Nat) (rest : List Int) (h4 : vrs f' (ns.drop c.j) = some rest) (h5 : out = c.done ++ rest) : RInv ns out c
set_option maxRecDepth 100000 in
set_option maxHeartbeats 8000000 in
theorem read_ {w : World} {p : Program} {loose : List Str} {mean : ExcName → Option Value} {mg mb : Str → Option Value}
    (dp un : Nat) (gd : Option (List Code)) (cn : Str) (cs : Scope) (a : Addr) (ccd : Value) (cl : List (Str × Addr)) (A₀ : Around) (base h₀ : Heap) (L : Addr) (m : Str → Option Value) (news : List (Addr × Obj)) (s : Shared)
    (Q E : Value → Shared → Prop) (l : Addr) (vs : List Value) (ns : List Int) (k : Nat)
    (B : Below A₀ base [] h₀) (F : Fr h₀ L s.heap m) (X : (Mine.heapK w.params).In h₀) (XB : (Mine.heapK w.params).In base) (N : News h₀ L s.heap news) (T : Top p loose mean mg mb h₀) (TB : Top p loose mean mg mb base) (hk : cs.kind = .function)
    (hm : (l, W.listOf vs.toArray k) ∈ news) (hI : IntsAre vs ns) (hd : dp + 15 < recursionLimit) (hu : un + 200 < cLine) (hns : ∀ b ∈ ns, 0 ≤ b ∧ b < 128)
    (out : List Int) (f : Nat) (hv : vrs f ns = some out) (hn : ∀ n ∈ out, n < 10000) (hlen : out.length ≤ 100)
    (ret : ∀ r vs k h' tk', IntsAre vs out → Fr h₀ L h' m → News h₀ L h' ((r, W.listOf vs.toArray k) :: news) → (∀ p ∈ news, p.1 < r) → Q (.ref r) { s with heap := h', toks := tk' }) :
    wpAny (model PySem.Challenge.pw_wf0071_01 w) (ktrTop dp un gd cn cs L a ccd cl []) (call (.ref 129) [.ref l]) Q E s := by
  refine wpAny_call ?_
  k_dflt (refine' enterTryK ?k1 ?k2 ?k3 ?k4 ?k5 ?kA ?kF ?kK ?k6 ?k7 ?k8 ?k9 ?kB ?_ ?c2 ?c3 ?c4 ?c5; (case kA => exact rfl); (case kF => exact rfl); (case kK => assumption); (case k1 => k_asm); (case k2 => k_asm); (case k3 => k_asm); (case k4 => k_asm); (case k5 => k_asm); (case k6 => k_is); (case k7 => k_is); (case k8 => ktr_room); (case k9 => exact BindsTo.of_eq rfl); (case c5 => decide); (case kB => exact locs rfl); (case c2 => exact rfl); (case c3 => exact rfl); (case c4 => exact rfl); k_whole; intro g' L' h' FG' F' N' B' X' T' D' lt')
  (try dsimp only)
  (try k_fold)
  walk_at "STEPS"
  refine iterCall (by k_asm) (by k_asm) hm fun it h1 F1 N1 lI => ?_
  walk_at "STEPS"
  rename Fr _ _ _ _ => F2; rename News _ _ _ _ => N2
  rename (_ ∧ AllLt _ _) => lr
  obtain ⟨lr1, lr2⟩ := lr
  have lr3 := allLt_to lr2
  rename_i rd hx hh
  refine' whileG (fun c : RSt => (it, lit l c.j) :: (rd, W.listOf c.vs.toArray c.k) :: news) (fun c => []) (fun _ => s.gens) []
    (RInv ns out) (fun c => ns.length - c.j) ⟨0, [], [], 0⟩ F2 N2 ?_ rfl ?_ ?_ ?_
  · walk_at "SUB"
  · exact List.forall_mem_nil _
  · exact ⟨.nil, Nat.zero_le _, by simp, f, out, hv, rfl⟩
  · rintro ⟨j, dn, dvs, dk⟩ u h3 tk3 ⟨q1, q2, q3, f', rest, q4, q5⟩ F3 N3
    dsimp only at *
    walk_at "STEPS"
    by_cases hj : j < ns.length
    · have hdj : ns.drop j ≠ [] := by rw [Ne, List.drop_eq_nil_iff]; omega
      obtain ⟨f'', n, r, e1, e2, e3⟩ : ∃ f'' n r, vr (ns.drop j) 0 = some (n, r) ∧ vrs f'' r = some (rest.drop 1) ∧ rest = n :: rest.drop 1 := by
        cases f' with
        | zero => cases q4
        | succ f'' =>
          cases e : ns.drop j with
          | nil => exact absurd e hdj
          | cons x xs =>
            rw [e] at q4
            cases e' : vr (x :: xs) 0 with
            | none => simp [vrs, e'] at q4
            | some y =>
              obtain ⟨n, r⟩ := y
              simp only [vrs, e'] at q4
              cases e'' : vrs f'' r with
              | none => simp [e''] at q4
              | some z => simp [e''] at q4; exact ⟨f'', n, r, rfl, by rw [e'', ← q4]; rfl, by rw [← q4]; rfl⟩
      refine' varint_ _ _ _ _ _ _ _ _ _ _ _ _ _ _ _ _ _ _ l it vs ns k j ?B ?F ?X N3 ?T ?hk ?hm hI ?hne ?hd ?hu hns n r e1 ?hn fun j' t' h4 tk4 j1 j2 F4 N4 => ?_
      case B => k_asm
      case F => k_asm
      case X => k_asm
      case T => k_asm
      case hk => rfl
      case hm => exact .tail _ hm
      case hne => exact List.forall_mem_cons.mpr ⟨Nat.ne_of_gt lr1, fun p hp => Nat.ne_of_lt (lI p hp)⟩
      case hd => dsimp only [ktrTop]; omega
      case hu => dsimp only [ktrTop]; omega
      case hn => exact hn n (by rw [q5, e3]; simp)
      walk_at "STEPS"
      rename Fr _ _ _ _ => F5; rename News _ _ _ _ => N5
      rw [List.push_toArray] at N5
      refine' whl_next ⟨j', dn ++ [n], dvs ++ [.int n t'], dk + 1⟩ F5 N5 ?sub ?names ?keep ⟨?p1, j2, ?p2, f'', rest.drop 1, ?p3, ?p4⟩ ?less rfl
      case sub => walk_at "SUB"
      case names => exact List.forall_mem_nil _
      case keep => intro z h2 h3; rfl
      case p1 => exact q1.append (.cons _ _ .nil)
      case p2 => dsimp only; rw [q5, e3] at hlen; simp at hlen ⊢; omega
      case p3 => dsimp only; rw [j1]; exact e2
      case p4 => dsimp only; rw [q5, e3]; simp
      case less =>
        dsimp only
        have := vr_lt _ _ _ _ e1
        rw [← j1] at this
        simp at this; omega
    · have hrest : rest = [] := by
        have e : ns.drop j = [] := List.drop_eq_nil_of_le (by omega)
        rw [e] at q4
        cases f' with
        | zero => cases q4
        | succ f'' => cases q4; rfl
      have hout : out = dn := by rw [q5, hrest, List.append_nil]
      refine' varint_end _ _ _ _ _ _ _ _ _ _ _ _ _ _ _ _ _ _ l it vs k j ?B ?F ?X N3 ?T ?hk ?hm ?hne ?hd ?hu ?hi fun e t h5 g tk5 FG R U => ?_
      case B => k_asm
      case F => k_asm
      case X => k_asm
      case T => k_asm
      case hk => rfl
      case hm => exact .tail _ hm
      case hne => exact List.forall_mem_cons.mpr ⟨Nat.ne_of_gt lr1, fun p hp => Nat.ne_of_lt (lI p hp)⟩
      case hd => dsimp only [ktrTop]; omega
      case hu => dsimp only [ktrTop]; omega
      case hi => rw [hI.length]; omega
      refine' caught_S0 (T' := "StopIteration") R FG ?K U XB TB ?D .refl ?ex ?hv ?hn ?hexc ?hnt ?hsub (fun h6 g6 news6 T6 F6 N6 G6 N7 B6 X6 P6 D6 => ?_)
      case K => k_asm
      case D => exact D'
      case ex => k_is
      case hv => decide +kernel
      case hn => decide
      case hexc => rw [isSubtype_type]; kernel_rfl
      case hnt => rw [isSubtype_type]; kernel_rfl
      case hsub => rw [isSubtype_type]; kernel_rfl
      walk_at "STEPS"
      rename Fr _ _ _ _ => F8; rename News _ _ _ _ => N8
      exact ret rd dvs dk _ _ (hout ▸ q1) F8 (cb_drop N8 (by walk_at "SUB")) lr3
end
section
inductive GNext {σ : Type} (h₀ : Heap) (L : Addr) (s : Shared) (own : List (Addr × Obj)) (Led : σ → List (Addr × Obj)) (ps : σ → List (Str × Value)) (stored : List Str) (m₀ : Str → Option Value) (P : σ → Prop) (g' : Array GenState) (s₂ : Shared) : Prop
  | mk (c' : σ) (h' : Heap) (tk : Nat) (m' : Str → Option Value) (all : List (Addr × Obj)) (e : s₂ = { s with heap := h', toks := tk, gens := g' }) (F : Fr h₀ L h' m') (N : News h₀ L h' all) (ho : ∀ p ∈ own, p ∈ all) (hl : ∀ p ∈ Led c', p ∈ all)
    (hk : ∀ p ∈ ps c', m' p.1 = some p.2) (hr : ∀ z, (∀ p ∈ ps c', z ≠ p.1) → stored.contains z = false → m' z = m₀ z) (hP : P c') (off : ∀ p ∈ Led c', ∀ q ∈ own, p.1 ≠ q.1) : GNext h₀ L s own Led ps stored m₀ P g' s₂
noncomputable def GEnd {σ : Type} (h₀ : Heap) (L : Addr) (s : Shared) (own : List (Addr × Obj)) (Led : σ → List (Addr × Obj)) (ps : σ → List (Str × Value)) (stored : List Str) (m₀ : Str → Option Value) (P : σ → Prop) (g' : Array GenState) (Q : Flow → Shared → Prop) (f : Flow) (s₂ : Shared) : Prop :=
  match f with
  | .ret v => Q (.ret v) s₂
  | .brk => Q .next s₂
  | _ => GNext h₀ L s own Led ps stored m₀ P g' s₂
inductive GInv {σ : Type} (prog : Program) (w : World) (A : Around) (base : Heap) (C g : Nat) (items : List (Int × Str)) (oG : Obj) (h₀ : Heap) (L : Addr) (s : Shared) (Led : σ → List (Addr × Obj)) (ps : σ → List (Str × Value)) (stored : List Str) (m₀ : Str → Option Value) (P : Nat → σ → Prop) (k : Nat) (s' : Shared) : Prop
  | mk (j : Nat) (c : σ) (h : Heap) (tk : Nat) (g' : Array GenState) (m' : Str → Option Value) (own : List (Addr × Obj)) (hj : j ≤ items.length) (hk : k = items.length + 1 - j) (hP : P j c)
      (e : s' = { s with heap := h, toks := tk, gens := g' }) (hb : AllBare g') (hG : h.IsGen (C + 1) g) (zG : h.get? (C + 1) = some oG) (off : ∀ q ∈ Led c, q.1 ≠ C + 1 ∧ q.1 ≠ C ∧ q.1 ≠ C + 1 + 1 + 1 ∧ q.1 ≠ C + 1 + 1) (F : Fr h₀ L h m') (N : News h₀ L h (Led c)) (hown : ∀ p ∈ own, h.get? p.1 = some p.2)
      (hgen : GenSt prog w A base (C + 1) C g items own j h g') (hps : ∀ p ∈ ps c, m' p.1 = some p.2) (hr : ∀ z, (∀ p ∈ ps c, z ≠ p.1) → stored.contains z = false → m' z = m₀ z) : GInv prog w A base C g items oG h₀ L s Led ps stored m₀ P k s'
inductive GKey (C g : Nat) (oG : Obj) (h₀ : Heap) (L : Addr) (s : Shared) (led : List (Addr × Obj)) (m' : Str → Option Value) (gg : Array GenState) (s₁ : Shared) : Prop
  | mk (h₁ : Heap) (tk₁ : Nat) (e : s₁ = { s with heap := h₁, toks := tk₁, gens := gg }) (F : Fr h₀ L h₁ m') (N : News h₀ L h₁ led) (hG : h₁.IsGen (C + 1) g) (zG : h₁.get? (C + 1) = some oG) : GKey C g oG h₀ L s led m' gg s₁
section
variable {prog : Program} {w : World} {A : Around} {E : Value → Shared → Prop} {Q : Flow → Shared → Prop} {s : Shared} {env : Env} {h₀ base : Heap} {L : Addr}
theorem letGo_gen {s : Shared} {G g : Addr} {T : Addr} {elts : List Expr} {k : Nat} {pos : Pos} {Q : Unit → Shared → Prop} (hG : s.heap.IsGen G g) (h : Q () s) : wpAny (model prog w) A (letOwnedTupleGo (.Tuple elts k pos) (.ref G) (.ref T)) Q E s := by
  obtain ⟨o, nm, qn, ho, hc, hd, _⟩ := hG
  show wpAny _ _ (load G >>= _) _ _ _
  refine wpAny_bind (wpAny_load ho ?_)
  rw [hc, hd]
  dsimp only
  rw [if_neg (by
    have e : (["enumerate", "zip", "dict_itemiterator", "dict_reverseitemiterator", "odict_iterator", "itertools.zip_longest", "itertools.pairwise"].contains "generator") = false := by decide
    rw [e]; simp)]
  exact wpAny_pure h
theorem bare_set {gens : Array GenState} {g : Nat} {x : GenState} (h : AllBare gens) (hx : x.bare = true) {s : Shared} (e : s.gens = gens) : AllBare (s.setGen g x).gens := by
  subst e
  intro y hy
  obtain ⟨i, hi, rfl⟩ := Array.mem_iff_getElem.mp hy
  by_cases q : g = i
  · subst q
    have : (s.setGen g x).gens[g]? = some x := by
      have hlt : g < s.gens.size := by simpa [Shared.setGen] using hi
      simp [Shared.setGen, hlt]
    rw [Array.getElem?_eq_getElem hi] at this
    rw [Option.some.inj this]; exact hx
  · have : (s.setGen g x).gens[i]? = s.gens[i]? := by simp [Shared.setGen, q]
    rw [Array.getElem?_eq_getElem hi] at this
    exact h _ (Array.mem_of_getElem? this.symm)
theorem forGen {σ : Type} {xa xb : Str} {pa pb pt : Pos} {kt : Nat} {body : List Stmt} {m₀ : Str → Option Value} {C g : Nat} {oG oC : Obj} {items : List (Int × Str)}
    (Led : σ → List (Addr × Obj)) (ps : σ → List (Str × Value)) (stored : List Str) (P : Nat → σ → Prop) (c₀ : σ)
    {news₀ : List (Addr × Obj)} (hh : A.handled = none) (hroom : A.depth < recursionLimit) (hlim : h₀.NoLimit) (hbase : base.StaysIn h₀) (hbs : base.objs.size ≤ h₀.objs.size)
    (hxa : env.kindOf xa = some .local) (hxb : env.kindOf xb = some .local) (hpl : (env.scope.kind == .class || (env.scope.kind == .module && env.locals != env.globals)) = false)
    (hL : env.locals = L) (hsa : stored.contains xa = true) (hsb : stored.contains xb = true)
    (hLC : @LT.lt Nat _ L C) (hG : s.heap.IsGen (C + 1) g) (hst : GenSt prog w A base (C + 1) C g items [(C, oC)] 0 s.heap s.gens) (hbare : AllBare s.gens)
    (F : Fr h₀ L s.heap m₀) (N : News h₀ L s.heap ((C + 1, oG) :: (C, oC) :: news₀)) (hn : ∀ p ∈ Led c₀, p ∈ news₀) (hlt : ∀ p ∈ Led c₀, p.1 < C) (hk : ∀ p ∈ ps c₀, m₀ p.1 = some p.2) (hp : P 0 c₀)
    (turn : ∀ j (c : σ) (u : Str → Option Value) h tk g' p x t v T oC oe oi, items[j]? = some (p, x) → P j c → AllBare g' → (∀ q ∈ Led c, q.1 ≠ C + 1 ∧ q.1 ≠ C ∧ q.1 ≠ C + 1 + 1 + 1 ∧ q.1 ≠ C + 1 + 1) → (∀ q ∈ Led c, q.1 ≠ T) →
      Fr h₀ L h (fun y => if y = xb then some (.str x v) else if y = xa then some (.int p t) else kstB (fun z => if stored.contains z then u z else m₀ z) (ps c) y) →
      News h₀ L h ((T, tup p t x v) :: (C + 1, oG) :: (C, oC) :: (C + 1 + 1 + 1, oe) :: (C + 1 + 1, oi) :: Led c) →
      wpAny (model prog w) A (execs body env) (GEnd h₀ L s [(C + 1, oG), (C, oC), (C + 1 + 1 + 1, oe), (C + 1 + 1, oi)] Led ps stored m₀ (P (j + 1)) g' Q) E { s with heap := h, toks := tk, gens := g' })
    (done : ∀ (c : σ) (u : Str → Option Value) h tk g', P items.length c → AllBare g' → Fr h₀ L h (kstB (fun z => if stored.contains z then u z else m₀ z) (ps c)) → News h₀ L h (Led c) → Q .next { s with heap := h, toks := tk, gens := g' })
    (hE : PassesOwn (model prog w) A env E := by passes_own) :
    codeAny (model prog w) A (.forLoop (.Tuple [.Name xa pa, .Name xb pb] kt pt) (.ref (C + 1)) body [] env) (fun r s' => match r with | .ok f => Q f s' | .error e => cameBackBy (model prog w) A env E e s') s := by
  subst hL
  obtain ⟨gs₀, hgs₀, hsz₀, hgo₀⟩ := hst
  have hsz := hsz₀ rfl
  have sub₀ : ∀ b o, h₀.get? b = some o → b < C + 1 + 1 := fun b o e => Nat.lt_of_lt_of_eq (Heap.lt_size (F.keep b o e)) hsz
  have none_of : ∀ b : Addr, C + 1 + 1 ≤ b → h₀.get? b = none := fun b hb => by
    cases q : h₀.get? b with
    | none => rfl
    | some o => exact absurd (Nat.lt_of_lt_of_le (sub₀ b o q) hb) (Nat.lt_irrefl _)
  have zG := N _ (.head _)
  have zC := N _ (.tail _ (.head _))
  have bnone : ∀ b : Addr, h₀.get? b = none → base.get? b = none := fun b hb => by
    cases q : base.get? b with
    | none => rfl
    | some o => rw [hbase b o q] at hb; cases hb
  have he0 : h₀.get? (C + 1 + 1 + 1) = none := none_of _ (Nat.le_succ _)
  have hi0 : h₀.get? (C + 1 + 1) = none := none_of _ (Nat.le_refl _)
  have heL : @Ne Nat (C + 1 + 1 + 1) env.locals := Nat.ne_of_gt (Nat.lt_succ_of_lt (Nat.lt_succ_of_lt (Nat.lt_succ_of_lt hLC)))
  have hiL : @Ne Nat (C + 1 + 1) env.locals := Nat.ne_of_gt (Nat.lt_succ_of_lt (Nat.lt_succ_of_lt hLC))
  have hGe : @Ne Nat (C + 1) (C + 1 + 1 + 1) := Nat.ne_of_lt (Nat.lt_succ_of_lt (Nat.lt_succ_self _))
  have hGi : @Ne Nat (C + 1) (C + 1 + 1) := Nat.ne_of_lt (Nat.lt_succ_self _)
  have hGC : @Ne Nat (C + 1) C := Nat.ne_of_gt (Nat.lt_succ_self _)
  have h3 : (4 : Nat) = 4 := rfl
  refine codeAny_forLoop_any (GInv prog w A base C g items oG h₀ env.locals s Led ps stored m₀ P) ?_ (items.length + 1)
    ⟨0, c₀, s.heap, s.toks, s.gens, m₀, [(C, oC)], Nat.zero_le _, rfl, hp, rfl, hbare, hG, zG.1, fun q hq => ?_, F, fun p hp => N p (.tail _ (.tail _ (hn p hp))), fun p hp => by rw [List.mem_singleton.mp hp]; exact zC.1, ⟨gs₀, hgs₀, hsz₀, hgo₀⟩, hk, fun _ _ _ => rfl⟩
  · rintro k s' ⟨j, c, h, tk, g', m', own, hj, rfl, hP, rfl, hb', hG', zG', off, F', N', hown, ⟨gs, hgs, hsz', hgo⟩, hk', hr'⟩
    have key : ∀ s₁ : Shared, Since3 C (C + 1 + 1 + 1) (C + 1 + 1) (Shared.setGen { s with heap := h, toks := tk, gens := g' } g .running) s₁ → GKey C g oG h₀ env.locals s (Led c) m' (Shared.setGen { s with heap := h, toks := tk, gens := g' } g .running).gens s₁ := by
      rintro s₁ ⟨h₁, tk₁, rfl, hk₁⟩
      replace hk₁ : ∀ b o, b ≠ C → b ≠ C + 1 + 1 + 1 → b ≠ C + 1 + 1 → h.get? b = some o → h₁.get? b = some o := hk₁
      refine ⟨h₁, tk₁, rfl, ⟨F'.ns.at' fun o e => hk₁ _ o (Ne.symm zC.2.1) (Ne.symm heL) (Ne.symm hiL) e, fun b o e => hk₁ b o (fun q => ?_) (fun q => ?_) (fun q => ?_) (F'.keep b o e), F'.above⟩, fun p hp => ⟨hk₁ _ _ (off p hp).2.1 (off p hp).2.2.1 (off p hp).2.2.2 (N' p hp).1, (N' p hp).2⟩, ?_, ?_⟩
      · rw [q, zC.2.2] at e; cases e
      · rw [q, he0] at e; cases e
      · rw [q, hi0] at e; cases e
      · obtain ⟨o, nm, qn, ho, r⟩ := hG'
        exact ⟨o, nm, qn, hk₁ _ o hGC hGe hGi ho, r⟩
      · exact hk₁ _ _ hGC hGe hGi zG'
    refine nextGenQ hh (hlim.keeps F'.keep) hroom hG' hgs (hgo _ (fun b o e => F'.keep b o (hbase b o e)) hown hsz') (fun v s₁ gs' hb₁ hv => ?_) (fun s₁ hp₁ h'' hk'' => ?_)
    · obtain ⟨T, p, x, t, u, oC', oe, oi, hit, rfl, hT, hT0, nT1, nT2, nT3, hsince, hC', he', hi', hkap⟩ := hv
      obtain ⟨h₁, tk₁, rfl, F₁, N₁, hG₁, zG₁⟩ := key s₁ hsince
      dsimp only at hT hC' he' hi'
      by_cases hlt' : j < items.length
      · obtain ⟨n, hn0⟩ := Nat.exists_eq_add_of_lt hlt'
        have hn' : items.length - j = n + 1 := by rw [hn0, Nat.add_assoc]; exact Nat.add_sub_cancel_left ..
        rw [hn'] at hit hkap
        have hidx : items.length - 1 - (n + 1 - 1) = j := by rw [hn0]; exact Nat.add_sub_cancel ..
        rw [hidx] at hit
        have hT0' : h.get? T = none := hT0
        have hTh : h₀.get? T = none := by
          cases q : h₀.get? T with
          | none => rfl
          | some o => rw [F'.keep T o q] at hT0'; cases hT0'
        have hTL : T ≠ env.locals := by
          rintro rfl
          obtain ⟨o, _, _, q, _⟩ := F'.ns
          rw [q] at hT0'; cases hT0'
        refine letGo_gen (G := C + 1) (g := g) hG₁ ?_
        have hTup : h₁.IsTuple T #[.int p t, .str x u] := ⟨_, hT, rfl, _, rfl⟩
        refine wpAny_assign_Tuple hh hTup rfl rfl fun h₃ hx₃ => ?_
        have old₃ : ∀ b o, h₁.get? b = some o → h₃.get? b = some o := fun b o x => hx₃ b o (Nat.ne_of_lt (Heap.lt_size x)) x
        have F₃ := F₁.keeps old₃
        have N₃ : News h₀ env.locals h₃ ((T, tup p t x u) :: (C + 1, oG) :: (C, oC') :: (C + 1 + 1 + 1, oe) :: (C + 1 + 1, oi) :: Led c) := by
          refine List.forall_mem_cons.mpr ⟨by exact ⟨old₃ _ _ hT, hTL, hTh⟩, ?_⟩
          refine List.forall_mem_cons.mpr ⟨by exact ⟨old₃ _ _ zG₁, zG.2⟩, ?_⟩
          refine List.forall_mem_cons.mpr ⟨by exact ⟨old₃ _ _ hC', zC.2⟩, ?_⟩
          refine List.forall_mem_cons.mpr ⟨by exact ⟨old₃ _ _ he', heL, he0⟩, ?_⟩
          refine List.forall_mem_cons.mpr ⟨by exact ⟨old₃ _ _ hi', hiL, hi0⟩, ?_⟩
          intro q hq
          · exact ⟨old₃ _ _ (N₁ q hq).1, (N₁ q hq).2⟩
        show wpAny _ _ (do holding [_] (assign (.Name xa pa) env _); do holding [] (assign (.Name xb pb) env _); pure ()) _ _ _
        refine wpAny_bind (wpAny_holding (wpAny_assign_Name (wpAny_storeName_local hxa F₃.ns (fun h₄ hn₄ hs₄ => ?_) hpl)))
        have F₄ := F₃.set hn₄ hs₄
        have N₄ := News.set N₃ hs₄
        refine wpAny_bind (wpAny_holding (wpAny_assign_Name (wpAny_storeName_local hxb F₄.ns (fun h₅ hn₅ hs₅ => wpAny_pure ?_) hpl)))
        have F₅ := F₄.set hn₅ hs₅
        have N₅ := News.set N₄ hs₅
        have em : kstB (fun z => if stored.contains z then m' z else m₀ z) (ps c) = m' := by
          funext y
          refine kstB_eq hk' fun hn => ?_
          show (if stored.contains y = true then m' y else m₀ y) = m' y
          cases h3 : stored.contains y with
          | true => simp
          | false => simp only [Bool.false_eq_true, if_false]; exact (hr' y hn h3).symm
        rw [← em] at F₅
        have bare₂ : AllBare (Shared.setGen { s with heap := h₁, toks := tk₁, gens := (Shared.setGen { s with heap := h, toks := tk, gens := g' } g .running).gens } g gs').gens :=
          bare_set (bare_set (s := { s with heap := h, toks := tk, gens := g' }) hb' (by rfl) rfl) hb₁ rfl
        refine wpAny_passesOwn hE (wpAny_mono (turn j c m' h₅ _ _ p x t u T oC' oe oi hit hP bare₂ off (fun q hq e => by have z := (N' q hq).1; rw [e, hT0'] at z; cases z) F₅ N₅) (fun f s₃ h₃ => ?_) fun _ _ e => e)
        have fin : GNext h₀ env.locals s [(C + 1, oG), (C, oC'), (C + 1 + 1 + 1, oe), (C + 1 + 1, oi)] Led ps stored m₀ (P (j + 1)) (Shared.setGen { s with heap := h₁, toks := tk₁, gens := (Shared.setGen { s with heap := h, toks := tk, gens := g' } g .running).gens } g gs').gens s₃ →
            ∃ m, m < items.length + 1 - j ∧ GInv prog w A base C g items oG h₀ env.locals s Led ps stored m₀ P m s₃ := by
          rintro ⟨c', h', tk', m₂, all, rfl, F₆, N₆, ho₆, hl₆, hk₆, hr₆, hP₆, off₆⟩
          have zz : ∀ b o, (b, o) ∈ [(C + 1, oG), (C, oC'), (C + 1 + 1 + 1, oe), (C + 1 + 1, oi)] → h'.get? b = some o := fun b o hm => (N₆ _ (ho₆ _ hm)).1
          refine ⟨items.length + 1 - (j + 1), step_lt hlt', j + 1, c', h', tk', _, m₂, [(C, oC'), (C + 1 + 1 + 1, oe), (C + 1 + 1, oi)], hlt', rfl, hP₆, rfl, bare₂, ?_, zz _ _ (.head _), fun q hq => ⟨off₆ q hq _ (.head _), off₆ q hq _ (.tail _ (.head _)), off₆ q hq _ (.tail _ (.tail _ (.head _))), off₆ q hq _ (.tail _ (.tail _ (.tail _ (.head _))))⟩,
            F₆, fun p hp => N₆ p (hl₆ p hp), fun p hp => zz _ _ (.tail _ hp), ⟨gs', setGen_self (gs := .running) (setGen_self hgs), fun q => absurd q (Nat.succ_ne_zero j), fun s'' hb'' hown'' _ => ?_⟩, hk₆, hr₆⟩
          · obtain ⟨o, nm, qn, ho, r⟩ := hG₁
            have : o = oG := by rw [zG₁] at ho; exact (Option.some.inj ho).symm
            subst this
            exact ⟨o, nm, qn, zz _ _ (.head _), r⟩
          · have e1 : items.length - (j + 1) = n := by rw [hn0, Nat.add_right_comm]; exact Nat.add_sub_cancel_left ..
            rw [e1]
            exact hkap s'' hb'' (hown'' _ (.head _)) (hown'' _ (.tail _ (.head _))) (hown'' _ (.tail _ (.tail _ (.head _))))
        cases f with
        | ret v => exact h₃
        | brk => exact h₃
        | next => exact fin h₃
        | cont => exact fin h₃
      · have hjn : items.length - j = 0 := Nat.sub_eq_zero_of_le (Nat.not_lt.mp hlt')
        rw [hjn] at hkap
        exact (hkap { s with heap := h₁ } (fun b o e => F₁.keep b o (hbase b o e)) hC' he' hi').elim
    · obtain ⟨hn0, hsince⟩ := hp₁
      obtain ⟨h₁, tk₁, rfl, F₁, N₁, hG₁, zG₁⟩ := key s₁ hsince
      have hjl : j = items.length := Nat.le_antisymm hj (Nat.le_of_sub_eq_zero hn0)
      subst hjl
      refine wpAny_execs_nil ?_
      have bare₂ : AllBare (Shared.setGen { s with heap := h₁, toks := tk₁, gens := (Shared.setGen { s with heap := h, toks := tk, gens := g' } g .running).gens } g .finished).gens :=
          bare_set (bare_set (s := { s with heap := h, toks := tk, gens := g' }) hb' (by rfl) rfl) (by rfl) rfl
      exact done c m' h'' tk₁ _ hP bare₂ (fr_kst hk' hr' (F₁.keeps hk'')) (N₁.grown hk'')
  · have := hlt q hq
    exact ⟨Nat.ne_of_lt (Nat.lt_succ_of_lt this), Nat.ne_of_lt this, Nat.ne_of_lt (Nat.lt_succ_of_lt (Nat.lt_succ_of_lt (Nat.lt_succ_of_lt this))), Nat.ne_of_lt (Nat.lt_succ_of_lt (Nat.lt_succ_of_lt this))⟩
end
end
section
section
variable {prog : Program} {w : World} {A : Around} {E : Value → Shared → Prop} {s : Shared} {h₀ : Heap} {L : Addr} {m : Str → Option Value}
theorem mapOf_fr {K : Type} [DecidableEq K] {knd : KeyKind prog w K} {f : K → Option Value} {a : Addr} {A' : Around} {base h : Heap} {outer : List Env} (hM : base.MapOf knd a f) (B : Below A' base outer h₀) (F : Fr h₀ L h m) : h.MapOf knd a f :=
  let ⟨o, es, ep, ho, r⟩ := hM; ⟨o, es, ep, F.keep _ _ (B.stays _ _ ho), r⟩
theorem setOf_fr {K : Type} [DecidableEq K] {knd : KeyKind prog w K} {S : K → Bool} {n : Nat} {a : Addr} {A' : Around} {base h : Heap} {outer : List Env} (hM : base.SetOf knd a S n) (B : Below A' base outer h₀) (F : Fr h₀ L h m) : h.SetOf knd a S n :=
  let ⟨o, es, ep, t, ho, r⟩ := hM; ⟨o, es, ep, t, F.keep _ _ (B.stays _ _ ho), r⟩
theorem getM_dict {K : Type} [DecidableEq K] {knd : KeyKind prog w K} {f : K → Option Value} {a : Addr} {pl : Sem Bool} {Q : Value × List Value → Shared → Prop} (hm : s.heap.MapOf knd a f) (h : Q (.builtin "dict.get", [.ref a]) s) : wpAny (model prog w) A (getMethod (.ref a) "get" pl) Q E s :=
  getMethod_builtin hm.typeIs PySem.F.plainAttrs_dict PySem.F.slot_dict_get PySem.F.type_dict_get hm.noDict h
theorem get1_dict {K : Type} [DecidableEq K] {knd : KeyKind prog w K} {f : K → Option Value} {a : Addr} {k : K} {key : Value} {Q : Value → Shared → Prop} (hm : s.heap.MapOf knd a f) (lo : (a == sysModules) = false) (hkey : knd.is k key = true) (x : Option Value) (hx : f k = x) (h : Q (x.getD .none) { s with toks := s.toks + 1 }) :
    wpAny (model prog w) A (call (.builtin "dict.get") [.ref a, key]) Q E s :=
  call_meetsIn PySem.F.slot_dict_get hm.typeIs PySem.F.entry_dict_get (PySem.F.args_dict_get_2 _ _) (meets_dict_get knd a hkey lo) ⟨_, hm, by rw [hx]; exact h⟩
end
set_option maxRecDepth 100000 in
set_option maxHeartbeats 8000000 in
theorem b3_hit {w : World} {p : Program} {loose : List Str} {mean : ExcName → Option Value} {mg mb : Str → Option Value}
    (dp un : Nat) (gd : Option (List Code)) (cn : Str) (cs : Scope) (a : Addr) (ccd : Value) (cl : List (Str × Addr)) (outer : List Env) (A₀ : Around) (base h₀ : Heap) (L : Addr) (m : Str → Option Value) (news : List (Addr × Obj)) (s : Shared)
    (Q E : Value → Shared → Prop) (c : Nat) (t tr : Tok) (r : Str) (f : Int → Option Value)
    (B : Below A₀ base outer h₀) (F : Fr h₀ L s.heap m) (X : (Mine.heapK w.params).In h₀) (N : News h₀ L s.heap news) (T : Top p loose mean mg mb h₀) (hk : cs.kind = .function)
    (hd : dp + 5 < recursionLimit) (hu : un + 100 < cLine) (hM : base.MapOf (intKind PySem.Challenge.pw_wf0071_01 w) 70 f) (hf : f c = some (.str r tr))
    (ret : ∀ t h' tk', Fr h₀ L h' m → News h₀ L h' news → Q (.str r t) { s with heap := h', toks := tk' }) :
    wpAny (model PySem.Challenge.pw_wf0071_01 w) (ktrTop dp un gd cn cs L a ccd cl outer) (call (.ref 115) [.str ⟨#[c]⟩ t]) Q E s := by
  refine wpAny_call ?_
  k_dflt cell_enter
  walk_at "STEPS"
  refine getM_dict (mapOf_fr hM (by k_asm) (by k_asm)) ?_
  walk_at "STEPS"
  refine get1_dict (k := (c : Int)) (mapOf_fr hM (by k_asm) (by k_asm)) (by decide) (intKind_is _ _ _ _) _ hf ?_
  dsimp only [Option.getD]
  walk_at "STEPS"
  exact ret _ _ _ (by k_asm) (by k_asm)
set_option maxRecDepth 100000 in
set_option maxHeartbeats 8000000 in
theorem b3_low {w : World} {p : Program} {loose : List Str} {mean : ExcName → Option Value} {mg mb : Str → Option Value}
    (dp un : Nat) (gd : Option (List Code)) (cn : Str) (cs : Scope) (a : Addr) (ccd : Value) (cl : List (Str × Addr)) (outer : List Env) (A₀ : Around) (base h₀ : Heap) (L : Addr) (m : Str → Option Value) (news : List (Addr × Obj)) (s : Shared)
    (Q E : Value → Shared → Prop) (c : Nat) (t : Tok) (f : Int → Option Value)
    (B : Below A₀ base outer h₀) (F : Fr h₀ L s.heap m) (X : (Mine.heapK w.params).In h₀) (N : News h₀ L s.heap news) (T : Top p loose mean mg mb h₀) (hk : cs.kind = .function)
    (hd : dp + 5 < recursionLimit) (hu : un + 100 < cLine) (hM : base.MapOf (intKind PySem.Challenge.pw_wf0071_01 w) 70 f) (hc : c = 70 ∨ c = 73 ∨ c = 76 ∨ c = 83 ∨ c = 84) (hf : f c = none)
    (ret : ∀ t h' tk', Fr h₀ L h' m → News h₀ L h' news → Q (.str ⟨#[c + 32]⟩ t) { s with heap := h', toks := tk' }) :
    wpAny (model PySem.Challenge.pw_wf0071_01 w) (ktrTop dp un gd cn cs L a ccd cl outer) (call (.ref 115) [.str ⟨#[c]⟩ t]) Q E s := by
  refine wpAny_call ?_
  k_dflt cell_enter
  walk_at "STEPS"
  refine getM_dict (mapOf_fr hM (by k_asm) (by k_asm)) ?_
  walk_at "STEPS"
  refine get1_dict (k := (c : Int)) (mapOf_fr hM (by k_asm) (by k_asm)) (by decide) (intKind_is _ _ _ _) _ hf ?_
  dsimp only [Option.getD]
  rcases hc with rfl | rfl | rfl | rfl | rfl <;> walk_at "STEPS"
  all_goals exact ret _ _ _ (by k_asm) (by k_asm)
set_option maxRecDepth 100000 in
set_option maxHeartbeats 8000000 in
theorem b1_ {w : World} {p : Program} {loose : List Str} {mean : ExcName → Option Value} {mg mb : Str → Option Value}
    (dp un : Nat) (gd : Option (List Code)) (cn : Str) (cs : Scope) (a : Addr) (ccd : Value) (cl : List (Str × Addr)) (outer : List Env) (A₀ : Around) (base h₀ : Heap) (L : Addr) (m : Str → Option Value) (news : List (Addr × Obj)) (s : Shared)
    (Q E : Value → Shared → Prop) (c : Nat) (t : Tok) (S : Int → Bool) (n : Nat)
    (B : Below A₀ base outer h₀) (F : Fr h₀ L s.heap m) (X : (Mine.heapK w.params).In h₀) (N : News h₀ L s.heap news) (T : Top p loose mean mg mb h₀) (hk : cs.kind = .function)
    (hd : dp + 5 < recursionLimit) (hu : un + 100 < cLine) (hM : base.SetOf (intKind PySem.Challenge.pw_wf0071_01 w) 59 S n)
    (ret : ∀ h' tk', Fr h₀ L h' m → News h₀ L h' news → Q (.bool (S c)) { s with heap := h', toks := tk' }) :
    wpAny (model PySem.Challenge.pw_wf0071_01 w) (ktrTop dp un gd cn cs L a ccd cl outer) (call (.ref 69) [.str ⟨#[c]⟩ t]) Q E s := by
  refine wpAny_call ?_
  k_dflt cell_enter
  walk_at "STEPS"
  refine wpAny_inSet_of (k := (c : Int)) (intKind_is _ _ _ _) rfl (setOf_fr hM (by k_asm) (by k_asm)) ?_
  walk_at "STEPS"
  exact ret _ _ (by k_asm) (by k_asm)
end
section
section
variable {prog : Program} {w : World} {A : Around} {E : Value → Shared → Prop} {s : Shared} {h₀ : Heap} {L : Addr} {m : Str → Option Value} {news news' : List (Addr × Obj)}
theorem appendAny {l : Addr} {vs : List Value} {k : Nat} {v : Value} {Q : Value → Shared → Prop} (F : Fr h₀ L s.heap m) (N : News h₀ L s.heap news) (U : Upd l (W.listOf vs.toArray k) (W.listOf (vs ++ [v]).toArray (k + 1)) news news') (hsz : vs.length ≤ 1000000)
    (h : ∀ h', Fr h₀ L h' m → News h₀ L h' news' → Q .none { s with heap := h' }) : wpAny (model prog w) A (call (.builtin "list.append") [.ref l, v]) Q E s := by
  have hi := N _ (upd_mem U)
  refine append_at hi.1 (fun h' hs ho => h h' (F.change hs hi.2.1 hi.2.2) (updNews N U hs ?_)) (by rw [List.size_toArray, sizeLine_eq]; omega)
  rw [ho]
  exact congrArg some (by rw [List.push_toArray])
theorem joinAny {l : Addr} {vs : List Value} {k : Nat} {xs : List Str} {x : Str} {t : Tok} {Q : Value → Shared → Prop} (N : News h₀ L s.heap news) (hm : (l, W.listOf vs.toArray k) ∈ news) (hS : StrsAre vs xs) (hok : (xs.map (·.length)).sum + xs.length * x.length ≤ 16777216)
    (h : ∀ t' tk, Q (.str (Txt.join x xs) t') { s with toks := tk }) : wpAny (model prog w) A (call (.builtin "str.join") [.str x t, .ref l]) Q E s :=
  join_list (list_is N hm) (by simpa using hS) hok h
end
theorem strs_snoc {y : Str} {t : Tok} : ∀ {vs : List Value} {ys : List Str}, StrsAre vs ys → StrsAre (vs ++ [.str y t]) (ys ++ [y])
  | _, _, .nil => .cons y t .nil
  | _, _, .cons z u r => .cons z u (strs_snoc r)
theorem strs_len : ∀ {vs : List Value} {ys : List Str}, StrsAre vs ys → vs.length = ys.length
  | _, _, .nil => rfl
  | _, _, .cons z u r => congrArg (· + 1) (strs_len r)
theorem sum_le {xs : List Str} {k : Nat} (h : ∀ x ∈ xs, x.length ≤ k) : (xs.map (·.length)).sum ≤ xs.length * k := by
  induction xs with
  | nil => simp
  | cons x xs ih =>
    have := h x (.head _)
    have := ih fun y hy => h y (.tail _ hy)
    rw [List.map_cons, List.sum_cons, List.length_cons, Nat.add_mul]
    omega
theorem escs_le : ∀ (i : Nat) (b : Bool) (l : List Nat), (escs i b l).length ≤ l.length
  | _, _, [] => Nat.le_refl _
  | i, true, c :: r => by have := escs_le (i + 1) false r; simp only [escs, List.length_cons]; omega
  | i, false, c :: r => by
    rw [escs]
    split
    · have := escs_le (i + 1) true r; simp only [List.length_cons]; omega
    · have := escs_le (i + 1) false r; simp only [List.length_cons]; omega
theorem escs_pos : ∀ (i : Nat) (b : Bool) (l : List Nat) (p : Int) (x : Str), (p, x) ∈ escs i b l → 0 ≤ p ∧ p < i + l.length
  | _, _, [], _, _, h => nomatch h
  | i, true, c :: r, p, x, h => by
    rcases List.mem_cons.mp h with e | h
    · cases e; simp only [List.length_cons]; omega
    · have := escs_pos (i + 1) false r p x h; simp only [List.length_cons]; omega
  | i, false, c :: r, p, x, h => by
    rw [escs] at h
    split at h
    · have := escs_pos (i + 1) true r p x h; simp only [List.length_cons]; omega
    · rcases List.mem_cons.mp h with e | h
      · cases e; simp only [List.length_cons]; omega
      · have := escs_pos (i + 1) false r p x h; simp only [List.length_cons]; omega
theorem bare_push {gens : Array GenState} {x : GenState} (h : AllBare gens) (hx : x.bare = true) : AllBare (gens.push x) := fun y hy => by
  rcases Array.mem_push.mp hy with q | q
  · exact h y q
  · rw [q]; exact hx
theorem off_own {Led : List (Addr × Obj)} {C : Nat} {o1 o2 o3 o4 : Obj} (h : ∀ p ∈ Led, p.1 ≠ C + 1 ∧ p.1 ≠ C ∧ p.1 ≠ C + 1 + 1 + 1 ∧ p.1 ≠ C + 1 + 1) : ∀ p ∈ Led, ∀ q ∈ [(C + 1, o1), (C, o2), (C + 1 + 1 + 1, o3), (C + 1 + 1, o4)], p.1 ≠ q.1 := by
  intro p hp q hq
  obtain ⟨a, b, c, d⟩ := h p hp
  rcases List.mem_cons.mp hq with rfl | hq
  · exact a
  rcases List.mem_cons.mp hq with rfl | hq
  · exact b
  rcases List.mem_cons.mp hq with rfl | hq
  · exact c
  rw [List.mem_singleton.mp hq]
  exact d
theorem off_head {l : Addr} {o o' : Obj} {news : List (Addr × Obj)} {C : Nat} (h : ∀ p ∈ (l, o) :: news, p.1 ≠ C + 1 ∧ p.1 ≠ C ∧ p.1 ≠ C + 1 + 1 + 1 ∧ p.1 ≠ C + 1 + 1) : ∀ p ∈ (l, o') :: news, p.1 ≠ C + 1 ∧ p.1 ≠ C ∧ p.1 ≠ C + 1 + 1 + 1 ∧ p.1 ≠ C + 1 + 1 := by
  refine List.forall_mem_cons.mpr ⟨by exact h (l, o) (.head _), ?_⟩
  intro p hp
  · exact h p (.tail _ hp)
structure SSt where
  start : Int
  ts : Tok
  op : Option Int
  t2 : Tok
  vs : List Value
  xs : List Str
  k : Nat
noncomputable def opV (op : Option Int) (t : Tok) : Value := match op with | some n => .int n t | none => .none
noncomputable def stripStep (x : Str) (st : Int × Option Int × List Str) (it : Int × Str) : Int × Option Int × List Str :=
  if it.2 == Str.ofString "\"" then (match st.2.1 with
    | none => (st.1, some it.1, st.2.2)
    | some o => (it.1 + 1, none, if st.1 = o then st.2.2 else st.2.2 ++ [Txt.slice x (some st.1) (some o)]))
  else st
noncomputable def stripT (x : Str) : Str :=
  if (Builtin.Str.occurrences x (Str.ofString "\"") 0 x.length 1).isEmpty = true then x else
    let r := (escs 0 false x.cps.toList).foldl (stripStep x) (0, none, [])
    Txt.join (Str.ofString "") (if r.1 < x.length then r.2.2 ++ [Txt.slice x (some r.1) none] else r.2.2)
structure SInv (text : Str) (j : Nat) (c : SSt) : Prop where
  hS : StrsAre c.vs c.xs
  hxl : c.xs.length ≤ j
  hs0 : 0 ≤ c.start
  hs1 : c.start ≤ 1000
  ho : ∀ o, c.op = some o → 0 ≤ o ∧ o ≤ 1000
  hxs : ∀ x ∈ c.xs, x.length ≤ 1000
  hfold : ((escs 0 false text.cps.toList).take j).foldl (stripStep text) (0, none, []) = (c.start, c.op, c.xs)
set_option maxRecDepth 100000 in
set_option maxHeartbeats 8000000 in
theorem strip_ {w : World} {p : Program} {loose : List Str} {mean : ExcName → Option Value} {mg mb : Str → Option Value}
    (dp un : Nat) (gd : Option (List Code)) (cn : Str) (cs : Scope) (a : Addr) (ccd : Value) (cl : List (Str × Addr)) (outer : List Env) (A₀ : Around) (base h₀ : Heap) (L : Addr) (m : Str → Option Value) (news : List (Addr × Obj)) (s : Shared)
    (Q E : Value → Shared → Prop) (text : Str) (tt : Tok)
    (B : Below A₀ base outer h₀) (F : Fr h₀ L s.heap m) (X : (Mine.heapK w.params).In h₀) (XB : (Mine.heapK w.params).In base) (N : News h₀ L s.heap news) (T : Top p loose mean mg mb h₀) (TB : Top p loose mean mg mb base) (hk : cs.kind = .function)
    (hd : dp + 15 < recursionLimit) (hu : un + 200 < cLine) (hbs : base.objs.size ≤ h₀.objs.size) (hG : AllBare s.gens) (hend : escEnd false text.cps.toList = false) (hlen : text.length ≤ 1000)
    (ret : ∀ t h' tk' g', AllBare g' → Fr h₀ L h' m → News h₀ L h' news → Q (.str (stripT text) t) { s with heap := h', toks := tk', gens := g' }) :
    wpAny (model PySem.Challenge.pw_wf0071_01 w) (ktrTop dp un gd cn cs L a ccd cl outer) (call (.ref 44) [.str text tt]) Q E s := by
  refine wpAny_call ?_
  k_dflt cell_enter
  walk_at "STEPS"
  · rename _ = true => hq
    have e : stripT text = text := by rw [stripT, if_pos hq]
    rw [← e]
    exact ret _ _ _ _ hG (by k_asm) (by k_asm)
  · rename _ = false => hq
    refine wpAny_For ?_
    walk_at "STEPS"
    rename Fr _ _ _ m => FG
    have hbs' := Nat.le_trans hbs (Nat.le_trans FG.above (Nat.le_of_lt FG.ns.lt))
    refine' escs_ _ _ _ _ _ _ _ _ _ _ _ _ _ _ _ _ _ _ text tt ?B ?F ?X XB ?N ?T TB ?hk ?hd ?hu ?hbs hend fun C oC oG h1 tk1 gs F1 N1 lt1 hLC hG1 hbare hst => ?_
    case B => k_asm
    case F => k_asm
    case X => k_asm
    case N => k_asm
    case T => k_asm
    case hk => rfl
    case hd => dsimp only [ktrTop]; omega
    case hu => dsimp only [ktrTop]; omega
    case hbs => exact hbs'
    walk_at "STEPS"
    refine wpAny_pyIter_gen hG1 ?_
    rename_i l hA l1 hB F2 N2
    refine' forGen (items := escs 0 false text.cps.toList) (base := base) (g := s.gens.size) (oC := oC) (oG := oG) (fun c : SSt => (l, W.listOf c.vs.toArray c.k) :: news) (fun c => [(Str.ofString "start", .int c.start c.ts), (Str.ofString "open_pos", opV c.op c.t2), (Str.ofString "result", .ref l)]) [Str.ofString "pos", Str.ofString "ch"]
      (SInv text) ⟨0, _, none, 0, [], [], 0⟩ (by rfl) ?room ?lim ?base hbs' (by rfl) (by rfl) (by rfl) (by rfl) (by rfl) (by rfl) hLC hG1 hst ?bare F1 N1 ?sub ?lt ?names ?p0 ?turn ?done
    case room => ktr_room
    case lim => exact (show Top _ _ _ _ _ _ by k_asm).nolimit
    case base => exact (show Below _ _ _ _ by k_asm).stays
    case bare => exact bare_push hG hbare
    case sub => walk_at "SUB"
    case lt => exact lt1
    case names => walk_at "NAMES"
    case p0 => exact ⟨.nil, Nat.le_refl _, (by dsimp only; omega), (by dsimp only; omega), (fun o e => by cases e), (fun x h => nomatch h), rfl⟩
    case turn =>
      rintro j ⟨cs, cts, cop, ct2, cvs, cxs, ck⟩ u hh tkk g'' p x t v T oC' oe oi hit ⟨hS, hxl, hs0, hs1, ho, hxs, hfold⟩ hbg off nT F3 N3
      dsimp only at *
      have off1 := (off _ (.head _)).1
      have off2 := (off _ (.head _)).2.1
      have off3 := (off _ (.head _)).2.2.1
      have off4 := (off _ (.head _)).2.2.2
      have nT1 := nT _ (.head _)
      have hjl := (List.getElem?_eq_some_iff.mp hit).1
      have hstep : ((escs 0 false text.cps.toList).take (j + 1)).foldl (stripStep text) (0, none, []) = stripStep text (cs, cop, cxs) (p, x) := by
        rw [List.take_add_one, hit, Option.toList_some, List.foldl_append, hfold]; rfl
      have hpos := escs_pos 0 false _ p x (List.mem_of_getElem? hit)
      have hle := escs_le 0 false text.cps.toList
      have hz : text.cps.toList.length ≤ 1000 := by simpa [Str.length] using hlen
      cases cop with
      | none =>
        dsimp only [opV] at F3
        walk_at "STEPS"
        · rename (_ == _) = true => hc
          rename Fr _ _ _ _ => F4; rename News _ _ _ _ => N4
          refine' ⟨⟨cs, cts, some p, _, cvs, cxs, ck⟩, _, _, _, _, rfl, F4, N4, ?sub1, ?sub2, ?names, ?keep, ⟨hS, ?q1, hs0, hs1, ?q2, hxs, ?q3⟩, ?off⟩
          case sub1 => walk_at "SUB"
          case sub2 => walk_at "SUB"
          case names => walk_at "NAMES"
          case keep => walk_at "KEEP"
          case q1 => dsimp only; omega
          case q2 => rintro o e; cases e; omega
          case q3 => rw [hstep, stripStep, if_pos hc]
          case off => exact off_own (off_head off)
        · rename (_ == _) = false => hc
          rename Fr _ _ _ _ => F4; rename News _ _ _ _ => N4
          refine' ⟨⟨cs, cts, none, 0, cvs, cxs, ck⟩, _, _, _, _, rfl, F4, N4, ?sub1, ?sub2, ?names, ?keep, ⟨hS, ?q1, hs0, hs1, (fun o e => by cases e), hxs, ?q3⟩, ?off⟩
          case sub1 => walk_at "SUB"
          case sub2 => walk_at "SUB"
          case names => walk_at "NAMES"
          case keep => walk_at "KEEP"
          case q1 => dsimp only; omega
          case q3 => rw [hstep, stripStep, if_neg (by rw [hc]; exact Bool.false_ne_true)]
          case off => exact off_own (off_head off)
      | some o =>
        obtain ⟨ho0, ho1⟩ := ho o rfl
        dsimp only [opV] at F3
        walk_at "STEPS"
        · rename (_ == _) = true => hc
          rename ¬ cs = o => hne
          refine' appendAny ?F ?N ?U ?sz fun h9 F9 N9 => ?_
          case F => k_asm
          case N => k_asm
          case U => exact .tail (Ne.symm nT1) (.tail (Ne.symm off1) (.tail (Ne.symm off2) (.tail (Ne.symm off3) (.tail (Ne.symm off4) (.head fun p hp => Nat.ne_of_lt (l1 p hp))))))
          case sz => rw [strs_len hS]; omega
          walk_at "STEPS"
          rename Fr _ _ _ _ => F4; rename News _ _ _ _ => N4
          rename_i tq _ _ _ _
          refine' ⟨⟨p + 1, _, none, 0, cvs ++ [.str (Txt.slice text (some cs) (some o)) tq], cxs ++ [Txt.slice text (some cs) (some o)], ck + 1⟩, _, _, _, _, rfl, F4, N4, ?sub1, ?sub2, ?names, ?keep, ⟨?q0, ?q1, ?q4, ?q5, (fun o e => by cases e), ?q6, ?q3⟩, ?off⟩
          case sub1 => walk_at "SUB"
          case sub2 => walk_at "SUB"
          case names => walk_at "NAMES"
          case keep => walk_at "KEEP"
          case q0 => exact strs_snoc hS
          case q1 => dsimp only; rw [List.length_append, List.length_singleton]; omega
          case q4 => dsimp only; omega
          case q5 => dsimp only; omega
          case q6 => intro x hx; rcases List.mem_append.mp hx with hx | hx; exact hxs x hx; rw [List.mem_singleton.mp hx]; exact Nat.le_trans (Txt.slice_le _ _ _) hlen
          case q3 => rw [hstep, stripStep, if_pos hc]; dsimp only; rw [if_neg hne]
          case off => exact off_own (off_head off)
        · rename (_ == _) = true => hc
          rename cs = o => hne
          rename Fr _ _ _ _ => F4; rename News _ _ _ _ => N4
          refine' ⟨⟨p + 1, _, none, 0, cvs, cxs, ck⟩, _, _, _, _, rfl, F4, N4, ?sub1, ?sub2, ?names, ?keep, ⟨hS, ?q1, ?q4, ?q5, (fun o e => by cases e), hxs, ?q3⟩, ?off⟩
          case sub1 => walk_at "SUB"
          case sub2 => walk_at "SUB"
          case names => walk_at "NAMES"
          case keep => walk_at "KEEP"
          case q1 => dsimp only; omega
          case q4 => dsimp only; omega
          case q5 => dsimp only; omega
          case q3 => rw [hstep, stripStep, if_pos hc]; dsimp only; rw [if_pos hne]
          case off => exact off_own (off_head off)
        · rename (_ == _) = false => hc
          rename Fr _ _ _ _ => F4; rename News _ _ _ _ => N4
          refine' ⟨⟨cs, cts, some o, ct2, cvs, cxs, ck⟩, _, _, _, _, rfl, F4, N4, ?sub1, ?sub2, ?names, ?keep, ⟨hS, ?q1, hs0, hs1, ho, hxs, ?q3⟩, ?off⟩
          case sub1 => walk_at "SUB"
          case sub2 => walk_at "SUB"
          case names => walk_at "NAMES"
          case keep => walk_at "KEEP"
          case q1 => dsimp only; omega
          case q3 => rw [hstep, stripStep, if_neg (by rw [hc]; exact Bool.false_ne_true)]
          case off => exact off_own (off_head off)
    case done => 
      rintro ⟨cs, cts, cop, ct2, cvs, cxs, ck⟩ u hh tkk g'' ⟨hS, hxl, hs0, hs1, ho, hxs, hfold⟩ hbg F3 N3
      dsimp only at *
      have hle := escs_le 0 false text.cps.toList
      have hz : text.cps.toList.length ≤ 1000 := by simpa [Str.length] using hlen
      have hsum := sum_le hxs
      have hfold := (congrArg (fun l => l.foldl (stripStep text) (0, none, [])) (List.take_length (l := escs 0 false text.cps.toList))).symm.trans hfold
      walk_at "STEPS"
      · rename cs < _ => hlt
        rename Fr _ _ _ _ => F4; rename News _ _ _ _ => N4
        rw [List.push_toArray] at N4
        refine joinAny N4 (.head _) (strs_snoc hS) ?_ fun t9 tk9 => ?_
        · have := Txt.slice_le text (some cs) none
          rw [List.map_append, List.sum_append, List.length_append]
          simp only [List.map_cons, List.map_nil, List.sum_cons, List.sum_nil, List.length_cons, List.length_nil, show (Str.ofString "").length = 0 from rfl]
          omega
        walk_at "STEPS"
        have e : stripT text = Txt.join (Str.ofString "") (cxs ++ [Txt.slice text (some cs) none]) := by
          rw [stripT, if_neg (by rw [hq]; exact Bool.false_ne_true)]
          dsimp only
          rw [hfold, if_pos hlt]
        rw [← e]
        rename News _ _ _ _ => N9
        exact ret _ _ _ _ hbg (by k_asm) (cb_drop N9 (by walk_at "SUB"))
      · rename ¬ cs < _ => hlt
        rename Fr _ _ _ _ => F4; rename News _ _ _ _ => N4
        refine joinAny N4 (.head _) hS ?_ fun t9 tk9 => ?_
        · simp only [show (Str.ofString "").length = 0 from rfl]
          omega
        walk_at "STEPS"
        have e : stripT text = Txt.join (Str.ofString "") cxs := by
          rw [stripT, if_neg (by rw [hq]; exact Bool.false_ne_true)]
          dsimp only
          rw [hfold, if_neg hlt]
        rw [← e]
        rename News _ _ _ _ => N9
        exact ret _ _ _ _ hbg (by k_asm) (cb_drop N9 (by walk_at "SUB"))
end
section
open PySem.AutoSeq1 (wpAny_loadPart')
theorem rc_lt {prog : Program} {w : World} {A : Around} {E : Value → Shared → Prop} {s : Shared} {a b : Int} {t u : Tok} {Q : Value → Shared → Prop} (h : Q (.bool (decide (a < b))) s) : wpAny (model prog w) A (richCompare .Lt (.int a t) (.int b u)) Q E s := P.lt_int h
theorem rc_le {prog : Program} {w : World} {A : Around} {E : Value → Shared → Prop} {s : Shared} {a b : Int} {t u : Tok} {Q : Value → Shared → Prop} (h : Q (.bool (decide (a ≤ b))) s) : wpAny (model prog w) A (richCompare .LtE (.int a t) (.int b u)) Q E s := P.le_int h
noncomputable def ltL : List Int → List Int → Bool
  | _, [] => false
  | [], _ :: _ => true
  | a :: as, b :: bs => if a = b then ltL as bs else decide (a < b)
noncomputable def leL : List Int → List Int → Bool
  | [], _ => true
  | _ :: _, [] => false
  | a :: as, b :: bs => if a = b then leL as bs else decide (a ≤ b)
set_option maxRecDepth 100000 in
set_option maxHeartbeats 8000000 in
theorem lt_loop (l b : Addr) (vs ws : List Value) (ns ms : List Int) (n n2 : Nat) (hv : IntsAre vs ns) (hw : IntsAre ws ms) (k : Nat) :
    ∀ i : Nat, vs.length - i = k → Meets (Builtin.«list.__eq__.loop» ⟨[.ref l, .ref b, rawInt i, rawInt 0], []⟩)
      (fun _ R s => s.heap.get? l = some { cls := .type "list", dict := none, data := .seq vs.toArray n, slots := #[] } ∧ s.heap.get? b = some { cls := .type "list", dict := none, data := .seq ws.toArray n2, slots := #[] } ∧
        i ≤ vs.length ∧ i ≤ ws.length ∧ R (.ok (.ret (.bool (ltL (ns.drop i) (ms.drop i))))) s) := by
  have hvl := hv.length
  have hwl := hw.length
  induction k with
  | zero =>
    intro i hk prog w A R s h
    obtain ⟨hp, g, d, tk, os⟩ := s; obtain ⟨hl, hb, hi0, hi0', h⟩ := h
    have hin : i = vs.length := by omega
    wp_walk using wpAny_loadPart' hl, wpAny_loadPart' hb
    have hi1 : vs.toArray[((i : Nat) : Int).toNat]? = none := by simp; omega
    rw [hi1]
    have hd : ns.drop i = [] := List.drop_eq_nil_of_le (by omega)
    rw [hd] at h
    wp_walk using wpAny_loadPart' hl, wpAny_loadPart' hb
    show R (.ok (.ret (.bool (decide (vs.toArray.size < ws.toArray.size))))) _
    have e : decide (vs.toArray.size < ws.toArray.size) = ltL [] (ms.drop i) := by
      cases e' : ms.drop i with
      | nil =>
        have := List.drop_eq_nil_iff.mp e'
        simp only [List.size_toArray, ltL]
        simp; omega
      | cons x y =>
        have hlt : i < ms.length := by
          rcases Nat.lt_or_ge i ms.length with q | q
          · exact q
          · rw [List.drop_eq_nil_of_le q] at e'; cases e'
        simp only [List.size_toArray, ltL]
        simp; omega
    rw [e]
    exact h
  | succ k ih =>
    intro i hk prog w A R s h
    obtain ⟨hp, g, d, tk, os⟩ := s; obtain ⟨hl, hb, hi0, hi0', h⟩ := h
    have hlt : i < ns.length := by omega
    obtain ⟨t1, ht1⟩ := hv.get i ns[i] (List.getElem?_eq_getElem hlt)
    wp_walk using wpAny_loadPart' hl, wpAny_loadPart' hb
    have hi1 : vs.toArray[((i : Nat) : Int).toNat]? = some (.int ns[i] t1) := by simpa using ht1
    rw [hi1]
    by_cases hlt2 : i < ms.length
    · obtain ⟨t2, ht2⟩ := hw.get i ms[i] (List.getElem?_eq_getElem hlt2)
      have hi2 : ws.toArray[((i : Nat) : Int).toNat]? = some (.int ms[i] t2) := by simpa using ht2
      rw [hi2]
      have hd1 : ns.drop i = ns[i] :: ns.drop (i + 1) := List.drop_eq_getElem_cons hlt
      have hd2 : ms.drop i = ms[i] :: ms.drop (i + 1) := List.drop_eq_getElem_cons hlt2
      have hc : ((i : Int) + 1) = ((i + 1 : Nat) : Int) := by push_cast; rfl
      rw [hd1, hd2, ltL] at h
      refine wpAny_bind (wpAny_eqBool_int ?_)
      by_cases e : ns[i] = ms[i]
      · rw [if_pos e] at h
        rw [show (ns[i] == ms[i]) = true by simp [e]]
        wp_walk
        rw [hc]
        exact ⟨plainId_quiet MeetsSeq3.plain_eq_loop _, codeAny_builtin MeetsSeq3.entry_eq_loop (by
          rw [Around.under_plainId MeetsSeq3.plain_eq_loop _]
          exact ih (i + 1) (by omega) prog w A R _ ⟨hl, hb, by omega, by omega, h⟩)⟩
      · rw [if_neg e] at h
        rw [show (ns[i] == ms[i]) = false by simp [e]]
        wp_walk using wpAny_loadPart' hl, wpAny_loadPart' hb
        rw [hi1, hi2]
        wp_walk using rc_lt
        exact h
    · have hi2 : ws.toArray[((i : Nat) : Int).toNat]? = none := by simp; omega
      rw [hi2]
      have hd2 : ms.drop i = [] := List.drop_eq_nil_of_le (by omega)
      have hd1 : ns.drop i = ns[i] :: ns.drop (i + 1) := List.drop_eq_getElem_cons hlt
      rw [hd1, hd2, ltL] at h
      wp_walk using wpAny_loadPart' hl, wpAny_loadPart' hb
      show R (.ok (.ret (.bool (decide (vs.toArray.size < ws.toArray.size))))) _
      rw [show decide (vs.toArray.size < ws.toArray.size) = false by simp; omega]
      exact h
set_option maxRecDepth 100000 in
set_option maxHeartbeats 8000000 in
theorem lt_meets (l b : Addr) (vs ws : List Value) (ns ms : List Int) (n n2 : Nat) (hv : IntsAre vs ns) (hw : IntsAre ws ms) :
    Meets (Builtin.«list.__lt__» ⟨[.ref l, .ref b], []⟩)
      (fun _ R s => s.heap.get? l = some { cls := .type "list", dict := none, data := .seq vs.toArray n, slots := #[] } ∧ s.heap.get? b = some { cls := .type "list", dict := none, data := .seq ws.toArray n2, slots := #[] } ∧
        R (.ok (.ret (.bool (ltL ns ms)))) s) := by
  intro prog w A R s h
  obtain ⟨hp, g, d, tk, os⟩ := s; obtain ⟨hl, hb, h⟩ := h
  have f3 := AutoSeq1.sub_list_list
  wp_walk using wpAny_loadPart' hl, wpAny_loadPart' hb
  exact ⟨plainId_quiet MeetsSeq3.plain_eq_loop _, codeAny_builtin MeetsSeq3.entry_eq_loop (by
    rw [Around.under_plainId MeetsSeq3.plain_eq_loop _]
    exact lt_loop l b vs ws ns ms n n2 hv hw _ 0 rfl prog w A R _ ⟨hl, hb, Nat.zero_le _, Nat.zero_le _, h⟩)⟩
theorem ltRefs {prog : Program} {w : World} {A : Around} {E : Value → Shared → Prop} {s : Shared} {h₀ : Heap} {L l b : Addr} {news : List (Addr × Obj)} {vs ws : List Value} {ns ms : List Int} {k k2 : Nat} {Q : Value → Shared → Prop}
    (N : News h₀ L s.heap news) (hm : (l, W.listOf vs.toArray k) ∈ news) (hb : (b, W.listOf ws.toArray k2) ∈ news) (hv : IntsAre vs ns) (hw : IntsAre ws ms) (hu : A.units < cLine) (h : Q (.bool (ltL ns ms)) s) :
    wpAny (model prog w) A (compareOp .Lt (.ref l) (.ref b)) Q E s :=
  richCompare_meets_room (op := .Lt) ⟨_, (N _ hm).1, rfl⟩ ⟨_, (N _ hb).1, rfl⟩ PySem.F.slot_list_lt PySem.F.entry_list_lt (PySem.F.args_list_lt_2 _ _) (lt_meets l b vs ws ns ms k k2 hv hw)
    ⟨(N _ hm).1, (N _ hb).1, show Value.bool (ltL ns ms) ≠ Value.notImplemented ∧ Q (.bool (ltL ns ms)) s from ⟨(fun x => nomatch x), h⟩⟩ hu
set_option maxRecDepth 100000 in
set_option maxHeartbeats 8000000 in
theorem le_loop (l b : Addr) (vs ws : List Value) (ns ms : List Int) (n n2 : Nat) (hv : IntsAre vs ns) (hw : IntsAre ws ms) (k : Nat) :
    ∀ i : Nat, vs.length - i = k → Meets (Builtin.«list.__eq__.loop» ⟨[.ref l, .ref b, rawInt i, rawInt 1], []⟩)
      (fun _ R s => s.heap.get? l = some { cls := .type "list", dict := none, data := .seq vs.toArray n, slots := #[] } ∧ s.heap.get? b = some { cls := .type "list", dict := none, data := .seq ws.toArray n2, slots := #[] } ∧
        i ≤ vs.length ∧ i ≤ ws.length ∧ R (.ok (.ret (.bool (leL (ns.drop i) (ms.drop i))))) s) := by
  have hvl := hv.length
  have hwl := hw.length
  induction k with
  | zero =>
    intro i hk prog w A R s h
    obtain ⟨hp, g, d, tk, os⟩ := s; obtain ⟨hl, hb, hi0, hi0', h⟩ := h
    have hin : i = vs.length := by omega
    wp_walk using wpAny_loadPart' hl, wpAny_loadPart' hb
    have hi1 : vs.toArray[((i : Nat) : Int).toNat]? = none := by simp; omega
    rw [hi1]
    have hd : ns.drop i = [] := List.drop_eq_nil_of_le (by omega)
    rw [hd] at h
    wp_walk using wpAny_loadPart' hl, wpAny_loadPart' hb
    show R (.ok (.ret (.bool (decide (vs.toArray.size ≤ ws.toArray.size))))) _
    have e : decide (vs.toArray.size ≤ ws.toArray.size) = leL [] (ms.drop i) := by
      cases e' : ms.drop i with
      | nil =>
        have := List.drop_eq_nil_iff.mp e'
        simp only [List.size_toArray, leL]
        simp; omega
      | cons x y =>
        have hlt : i < ms.length := by
          rcases Nat.lt_or_ge i ms.length with q | q
          · exact q
          · rw [List.drop_eq_nil_of_le q] at e'; cases e'
        simp only [List.size_toArray, leL]
        simp; omega
    rw [e]
    exact h
  | succ k ih =>
    intro i hk prog w A R s h
    obtain ⟨hp, g, d, tk, os⟩ := s; obtain ⟨hl, hb, hi0, hi0', h⟩ := h
    have hlt : i < ns.length := by omega
    obtain ⟨t1, ht1⟩ := hv.get i ns[i] (List.getElem?_eq_getElem hlt)
    wp_walk using wpAny_loadPart' hl, wpAny_loadPart' hb
    have hi1 : vs.toArray[((i : Nat) : Int).toNat]? = some (.int ns[i] t1) := by simpa using ht1
    rw [hi1]
    by_cases hlt2 : i < ms.length
    · obtain ⟨t2, ht2⟩ := hw.get i ms[i] (List.getElem?_eq_getElem hlt2)
      have hi2 : ws.toArray[((i : Nat) : Int).toNat]? = some (.int ms[i] t2) := by simpa using ht2
      rw [hi2]
      have hd1 : ns.drop i = ns[i] :: ns.drop (i + 1) := List.drop_eq_getElem_cons hlt
      have hd2 : ms.drop i = ms[i] :: ms.drop (i + 1) := List.drop_eq_getElem_cons hlt2
      have hc : ((i : Int) + 1) = ((i + 1 : Nat) : Int) := by push_cast; rfl
      rw [hd1, hd2, leL] at h
      refine wpAny_bind (wpAny_eqBool_int ?_)
      by_cases e : ns[i] = ms[i]
      · rw [if_pos e] at h
        rw [show (ns[i] == ms[i]) = true by simp [e]]
        wp_walk
        rw [hc]
        exact ⟨plainId_quiet MeetsSeq3.plain_eq_loop _, codeAny_builtin MeetsSeq3.entry_eq_loop (by
          rw [Around.under_plainId MeetsSeq3.plain_eq_loop _]
          exact ih (i + 1) (by omega) prog w A R _ ⟨hl, hb, by omega, by omega, h⟩)⟩
      · rw [if_neg e] at h
        rw [show (ns[i] == ms[i]) = false by simp [e]]
        wp_walk using wpAny_loadPart' hl, wpAny_loadPart' hb
        rw [hi1, hi2]
        wp_walk using rc_le
        exact h
    · have hi2 : ws.toArray[((i : Nat) : Int).toNat]? = none := by simp; omega
      rw [hi2]
      have hd2 : ms.drop i = [] := List.drop_eq_nil_of_le (by omega)
      have hd1 : ns.drop i = ns[i] :: ns.drop (i + 1) := List.drop_eq_getElem_cons hlt
      rw [hd1, hd2, leL] at h
      wp_walk using wpAny_loadPart' hl, wpAny_loadPart' hb
      show R (.ok (.ret (.bool (decide (vs.toArray.size ≤ ws.toArray.size))))) _
      rw [show decide (vs.toArray.size ≤ ws.toArray.size) = false by simp; omega]
      exact h
set_option maxRecDepth 100000 in
set_option maxHeartbeats 8000000 in
theorem le_meets (l b : Addr) (vs ws : List Value) (ns ms : List Int) (n n2 : Nat) (hv : IntsAre vs ns) (hw : IntsAre ws ms) :
    Meets (Builtin.«list.__le__» ⟨[.ref l, .ref b], []⟩)
      (fun _ R s => s.heap.get? l = some { cls := .type "list", dict := none, data := .seq vs.toArray n, slots := #[] } ∧ s.heap.get? b = some { cls := .type "list", dict := none, data := .seq ws.toArray n2, slots := #[] } ∧
        R (.ok (.ret (.bool (leL ns ms)))) s) := by
  intro prog w A R s h
  obtain ⟨hp, g, d, tk, os⟩ := s; obtain ⟨hl, hb, h⟩ := h
  have f3 := AutoSeq1.sub_list_list
  wp_walk using wpAny_loadPart' hl, wpAny_loadPart' hb
  exact ⟨plainId_quiet MeetsSeq3.plain_eq_loop _, codeAny_builtin MeetsSeq3.entry_eq_loop (by
    rw [Around.under_plainId MeetsSeq3.plain_eq_loop _]
    exact le_loop l b vs ws ns ms n n2 hv hw _ 0 rfl prog w A R _ ⟨hl, hb, Nat.zero_le _, Nat.zero_le _, h⟩)⟩
theorem leRefs {prog : Program} {w : World} {A : Around} {E : Value → Shared → Prop} {s : Shared} {h₀ : Heap} {L l b : Addr} {news : List (Addr × Obj)} {vs ws : List Value} {ns ms : List Int} {k k2 : Nat} {Q : Value → Shared → Prop}
    (N : News h₀ L s.heap news) (hm : (l, W.listOf vs.toArray k) ∈ news) (hb : (b, W.listOf ws.toArray k2) ∈ news) (hv : IntsAre vs ns) (hw : IntsAre ws ms) (hu : A.units < cLine) (h : Q (.bool (leL ns ms)) s) :
    wpAny (model prog w) A (compareOp .LtE (.ref l) (.ref b)) Q E s :=
  richCompare_meets_room (op := .LtE) ⟨_, (N _ hm).1, rfl⟩ ⟨_, (N _ hb).1, rfl⟩ PySem.F.slot_list_le PySem.F.entry_list_le (PySem.F.args_list_le_2 _ _) (le_meets l b vs ws ns ms k k2 hv hw)
    ⟨(N _ hm).1, (N _ hb).1, show Value.bool (leL ns ms) ≠ Value.notImplemented ∧ Q (.bool (leL ns ms)) s from ⟨(fun x => nomatch x), h⟩⟩ hu
end
section
noncomputable def checkGo : List (Int × Str) → Int → Bool
  | [], o => decide (o = 0)
  | (_, c) :: r, o => if c == Str.ofString "(" then checkGo r (o + 1) else if c == Str.ofString ")" then (if o - 1 < 0 then false else checkGo r (o - 1)) else checkGo r o
noncomputable def checkT (x : Str) : Bool := checkGo (escs 0 false (stripT x).cps.toList) 0
structure CSt where
  o : Int
  t : Tok
structure KInv (text : Str) (j : Nat) (c : CSt) : Prop where
  h0 : 0 ≤ c.o
  h1 : c.o ≤ j
  hgo : checkGo ((escs 0 false (stripT text).cps.toList).drop j) c.o = checkT text
set_option maxRecDepth 100000 in
set_option maxHeartbeats 8000000 in
theorem check_ {w : World} {p : Program} {loose : List Str} {mean : ExcName → Option Value} {mg mb : Str → Option Value}
    (dp un : Nat) (gd : Option (List Code)) (cn : Str) (cs : Scope) (a : Addr) (ccd : Value) (cl : List (Str × Addr)) (outer : List Env) (A₀ : Around) (base h₀ : Heap) (L : Addr) (m : Str → Option Value) (news : List (Addr × Obj)) (s : Shared)
    (Q E : Value → Shared → Prop) (text : Str) (tt : Tok)
    (B : Below A₀ base outer h₀) (F : Fr h₀ L s.heap m) (X : (Mine.heapK w.params).In h₀) (XB : (Mine.heapK w.params).In base) (N : News h₀ L s.heap news) (T : Top p loose mean mg mb h₀) (TB : Top p loose mean mg mb base) (hk : cs.kind = .function)
    (hd : dp + 25 < recursionLimit) (hu : un + 300 < cLine) (hbs : base.objs.size ≤ h₀.objs.size) (hG : AllBare s.gens) (hend : escEnd false text.cps.toList = false) (hlen : text.length ≤ 1000)
    (hend2 : escEnd false (stripT text).cps.toList = false) (hlen2 : (stripT text).length ≤ 1000)
    (ret : ∀ h' tk' g', AllBare g' → Fr h₀ L h' m → News h₀ L h' news → Q (.bool (checkT text)) { s with heap := h', toks := tk', gens := g' }) :
    wpAny (model PySem.Challenge.pw_wf0071_01 w) (ktrTop dp un gd cn cs L a ccd cl outer) (call (.ref 51) [.str text tt]) Q E s := by
  refine wpAny_call ?_
  k_dflt cell_enter
  walk_at "STEPS"
  rename Fr _ _ _ m => FG
  have hbs' := Nat.le_trans hbs (Nat.le_trans FG.above (Nat.le_of_lt FG.ns.lt))
  refine' strip_ _ _ _ _ _ _ _ _ _ _ _ _ _ _ _ _ _ _ text tt ?B ?F ?X XB ?N ?T TB ?hk ?hd ?hu hbs' ?hG hend hlen fun t1 h1 tk1 g1 hb1 F1 N1 => ?_
  case B => k_asm
  case F => k_asm
  case X => k_asm
  case N => k_asm
  case T => k_asm
  case hk => rfl
  case hd => dsimp only [ktrTop]; omega
  case hu => dsimp only [ktrTop]; omega
  case hG => exact hG
  walk_at "STEPS"
  refine wpAny_For ?_
  walk_at "STEPS"
  refine' escs_ _ _ _ _ _ _ _ _ _ _ _ _ _ _ _ _ _ _ (stripT text) t1 ?B ?F ?X XB ?N ?T TB ?hk ?hd ?hu hbs' hend2 fun C oC oG h1 tk1 gs F1 N1 lt1 hLC hG1 hbare hst => ?_
  case B => k_asm
  case F => k_asm
  case X => k_asm
  case N => k_asm
  case T => k_asm
  case hk => rfl
  case hd => dsimp only [ktrTop]; omega
  case hu => dsimp only [ktrTop]; omega
  walk_at "STEPS"
  refine wpAny_pyIter_gen hG1 ?_
  refine' forGen (items := escs 0 false (stripT text).cps.toList) (base := base) (g := g1.size) (oC := oC) (oG := oG) (fun c : CSt => news) (fun c => [(Str.ofString "opens", .int c.o c.t)]) [Str.ofString "pos", Str.ofString "ch"]
      (KInv text) ⟨0, _⟩ (by rfl) ?room ?lim ?base hbs' (by rfl) (by rfl) (by rfl) (by rfl) (by rfl) (by rfl) hLC hG1 hst ?bare F1 N1 ?sub ?lt ?names ?p0 ?turn ?done
  case room => ktr_room
  case lim => exact (show Top _ _ _ _ _ _ by k_asm).nolimit
  case base => exact (show Below _ _ _ _ by k_asm).stays
  case bare => exact bare_push hb1 hbare
  case sub => walk_at "SUB"
  case lt => exact lt1
  case names => walk_at "NAMES"
  case p0 => exact ⟨Int.le_refl _, Int.le_refl _, by rw [List.drop_zero]; rfl⟩
  case turn =>
    rintro j ⟨co, ct⟩ u hh tkk g'' p x t v T oC' oe oi hit ⟨hc0, hc1, hgo⟩ hbg off nT F3 N3
    dsimp only at *
    have hjl := (List.getElem?_eq_some_iff.mp hit).1
    have hle := escs_le 0 false (stripT text).cps.toList
    have hz : (stripT text).cps.toList.length ≤ 1000 := by simpa [Str.length] using hlen2
    rw [List.drop_eq_getElem_cons hjl, (List.getElem?_eq_some_iff.mp hit).2, checkGo] at hgo
    walk_at "STEPS"
    · rename (x == _) = true => hc
      rw [if_pos hc] at hgo
      rename Fr _ _ _ _ => F4; rename News _ _ _ _ => N4
      refine' ⟨⟨co + 1, _⟩, _, _, _, _, rfl, F4, N4, ?sub1, ?sub2, ?names, ?keep, ⟨?q1, ?q2, hgo⟩, ?off⟩
      case sub1 => walk_at "SUB"
      case sub2 => walk_at "SUB"
      case names => walk_at "NAMES"
      case keep => walk_at "KEEP"
      case q1 => dsimp only; omega
      case q2 => dsimp only; omega
      case off => exact off_own off
    · rename (_ == Str.ofString "(") = false => hc; rename (_ == Str.ofString ")") = true => hc2; rename co - 1 < 0 => hc3
      rw [if_neg (by rw [hc]; exact Bool.false_ne_true), if_pos hc2, if_pos hc3] at hgo
      dsimp only [GEnd]
      walk_at "STEPS"
      rw [hgo]
      rename News _ _ _ _ => N9
      exact ret _ _ _ hbg (by k_asm) (cb_drop N9 (by walk_at "SUB"))
    · rename (_ == Str.ofString "(") = false => hc; rename (_ == Str.ofString ")") = true => hc2; rename ¬ co - 1 < 0 => hc3
      rw [if_neg (by rw [hc]; exact Bool.false_ne_true), if_pos hc2, if_neg hc3] at hgo
      rename Fr _ _ _ _ => F4; rename News _ _ _ _ => N4
      refine' ⟨⟨co - 1, _⟩, _, _, _, _, rfl, F4, N4, ?sub1, ?sub2, ?names, ?keep, ⟨?q1, ?q2, hgo⟩, ?off⟩
      case sub1 => walk_at "SUB"
      case sub2 => walk_at "SUB"
      case names => walk_at "NAMES"
      case keep => walk_at "KEEP"
      case q1 => dsimp only; omega
      case q2 => dsimp only; omega
      case off => exact off_own off
    · rename (_ == Str.ofString "(") = false => hc; rename (_ == Str.ofString ")") = false => hc2
      rw [if_neg (by rw [hc]; exact Bool.false_ne_true), if_neg (by rw [hc2]; exact Bool.false_ne_true)] at hgo
      rename Fr _ _ _ _ => F4; rename News _ _ _ _ => N4
      refine' ⟨⟨co, ct⟩, _, _, _, _, rfl, F4, N4, ?sub1, ?sub2, ?names, ?keep, ⟨?q1, ?q2, hgo⟩, ?off⟩
      case sub1 => walk_at "SUB"
      case sub2 => walk_at "SUB"
      case names => walk_at "NAMES"
      case keep => walk_at "KEEP"
      case q1 => dsimp only; omega
      case q2 => dsimp only; omega
      case off => exact off_own off
  case done =>
    rintro ⟨co, ct⟩ u hh tkk g'' ⟨hc0, hc1, hgo⟩ hbg F3 N3
    dsimp only at *
    rw [List.drop_eq_nil_of_le (Nat.le_refl _), checkGo] at hgo
    walk_at "STEPS"
    have e : (co == 0) = checkT text := by rw [← hgo]; rfl
    rw [e]
    rename News _ _ _ _ => N9
    exact ret _ _ _ hbg (by k_asm) (cb_drop N9 (by walk_at "SUB"))
end
local macro_rules | `(tactic| walk_at "INL") => `(tactic| ((repeat (first | assumption | exact List.Mem.head _ | refine List.Mem.tail _ ?_)); done))
local macro_rules | `(tactic| walk_at "SZ") => `(tactic| (first | exact Nat.le_trans (Nat.add_le_add (cut_le _ _ _) (cut_le _ _ _)) (by omega) | omega | (simp only [List.length_append, List.length_take, List.length_drop, List.length_cons, List.length_nil, List.length_reverse]; omega)))
local macro_rules | `(tactic| walk_at "PURE") => `(tactic| (intro _; with_unfolding_all rfl))
local macro_rules | `(tactic| walk_at "call builtin:len") => `(tactic| ((with_reducible show wpAny _ _ (call (Value.builtin "len") [Value.ref _]) _ _ _); k_dflt (refine' lenL ?N ?m ?z ?_); (case N => k_asm); (case m => walk_at "INL"); (case z => walk_at "SZ")))
local macro_rules | `(tactic| walk_at "subscriptTail Name Slice ref ref") => `(tactic| (first
  | ((with_reducible show wpAny _ _ (subscriptTail _ (PySem.Expr.Slice none none (some _) _) (Value.ref _) (Value.ref _)) _ _ _); (refine' sliceRev ?F ?N ?m ?z ?p ?_ ?s ?t; (case F => k_asm); (case N => k_asm); (case m => walk_at "INL"); (case z => walk_at "SZ"); (case p => exact IsPart.int _ _); (case s => with_unfolding_all rfl); (case t => walk_at "PURE")))
  | ((with_reducible show wpAny _ _ (subscriptTail _ (PySem.Expr.Slice (some _) (some _) none _) (Value.ref _) (Value.ref _)) _ _ _); refine' sliceRun ?F ?N ?m ?z ?x ?y ?_ ?s ?t; (case F => k_asm); (case N => k_asm); (case m => walk_at "INL"); (case z => walk_at "SZ"); (case x => omega); (case y => omega); (case s => with_unfolding_all rfl); (case t => walk_at "PURE"))
  | ((with_reducible show wpAny _ _ (subscriptTail _ (PySem.Expr.Slice (some _) none none _) (Value.ref _) (Value.ref _)) _ _ _); refine' sliceFrom ?F ?N ?m ?z ?x ?_ ?s ?t; (case F => k_asm); (case N => k_asm); (case m => walk_at "INL"); (case z => walk_at "SZ"); (case x => omega); (case s => with_unfolding_all rfl); (case t => walk_at "PURE"))
  | ((with_reducible show wpAny _ _ (subscriptTail _ (PySem.Expr.Slice none (some _) none _) (Value.ref _) (Value.ref _)) _ _ _); refine' sliceUpto ?F ?N ?m ?z ?y ?_ ?s ?t; (case F => k_asm); (case N => k_asm); (case m => walk_at "INL"); (case z => walk_at "SZ"); (case y => omega); (case s => with_unfolding_all rfl); (case t => walk_at "PURE"))); intro D' h' F' N' l1'; (try dsimp only))
local macro_rules | `(tactic| walk_at "binaryOp Add ref ref") => `(tactic| (k_dflt (refine' addL ?F ?N ?a ?b ?z ?_; (case F => k_asm); (case N => k_asm); (case a => walk_at "INL"); (case b => walk_at "INL"); (case z => walk_at "SZ"))); intro D' h' F' N' l1'; (try dsimp only))
local macro_rules | `(tactic| walk_at "GO") => `(tactic| ((walk_at "STEPS"); (repeat ((walk_at "subscriptTail Name Slice ref ref"); (walk_at "STEPS")))))
section
/-- the ms of the block: the later starts whose stretch up to J is no greater -/
noncomputable def msL (ns : List Int) (i J t : Nat) : List Int := ((List.range t).filter fun u => leL ((ns.drop (i + 1 + u)).take (J - (i + 1 + u))) ((ns.drop i).take (J - i))).map fun u => ((i + 1 + u : Nat) : Int)
noncomputable def longAt (ns : List Int) (i : Nat) : Nat → Int
  | 0 => 0
  | t + 1 => if msL ns i (i + 1 + t) t = [] then ((t + 1 : Nat) : Int) else longAt ns i t
noncomputable def longT (ns : List Int) (i : Nat) : Int := longAt ns i (ns.length - i)
theorem msL_len (ns : List Int) (i J t : Nat) : (msL ns i J t).length ≤ t := by
  unfold msL
  rw [List.length_map]
  exact Nat.le_trans (List.length_filter_le _ _) (by simp)
theorem msL_succ (ns : List Int) (i J t : Nat) : msL ns i J (t + 1) = msL ns i J t ++ (if leL ((ns.drop (i + 1 + t)).take (J - (i + 1 + t))) ((ns.drop i).take (J - i)) = true then [((i + 1 + t : Nat) : Int)] else []) := by
  unfold msL
  rw [List.range_succ, List.filter_append, List.map_append]
  congr 1
  by_cases h : leL ((ns.drop (i + 1 + t)).take (J - (i + 1 + t))) ((ns.drop i).take (J - i)) = true
  · rw [if_pos h]; simp [List.filter_cons, h]
  · rw [if_neg h]; simp [List.filter_cons, h]
structure LInv (ns : List Int) (i t : Nat) (c : Int × Tok) : Prop where
  h0 : 0 ≤ c.1
  h1 : c.1 ≤ 200
  hl : c.1 = longAt ns i t
set_option maxRecDepth 100000 in
set_option maxHeartbeats 8000000 in
theorem longest_ {w : World} {p : Program} {loose : List Str} {mean : ExcName → Option Value} {mg mb : Str → Option Value}
    (dp un : Nat) (gd : Option (List Code)) (cn : Str) (cs : Scope) (a : Addr) (ccd : Value) (cl : List (Str × Addr)) (outer : List Env) (A₀ : Around) (base h₀ : Heap) (L : Addr) (m : Str → Option Value) (news : List (Addr × Obj)) (s : Shared)
    (Q E : Value → Shared → Prop) (l : Addr) (vs : List Value) (ns : List Int) (k : Nat) (i : Nat) (tt : Tok)
    (B : Below A₀ base outer h₀) (F : Fr h₀ L s.heap m) (X : (Mine.heapK w.params).In h₀) (N : News h₀ L s.heap news) (T : Top p loose mean mg mb h₀) (hk : cs.kind = .function)
    (hm : (l, W.listOf vs.toArray k) ∈ news) (hI : IntsAre vs ns) (hvl : vs.length ≤ 100) (hi : i < vs.length)
    (hd : dp + 35 < recursionLimit) (hu : un + 400 < cLine)
    (ret : ∀ t h' tk', Fr h₀ L h' m → News h₀ L h' news → Q (.int (longT ns i) t) { s with heap := h', toks := tk' }) :
    wpAny (model PySem.Challenge.pw_wf0071_01 w) (ktrTop dp un gd cn cs L a ccd cl outer) (call (.ref 148) [.ref l, .int i tt]) Q E s := by
  have hvn : vs.length = ns.length := hI.length
  refine wpAny_call ?_
  k_dflt (refine' code_defC ?k1 ?k2 ?k3 ?k4 ?k5 ?kA ?kF ?kK ?k6 ?k7 ?k8 ?k9 ?kB ?kD ?_ ?c2 ?c3 ?c4; (case kA => exact rfl); (case kF => exact rfl); (case kK => assumption); (case k1 => k_asm); (case k2 => k_asm); (case k3 => k_asm); (case k4 => k_asm); (case k5 => k_asm); (case k6 => k_is); (case k7 => k_is); (case k8 => ktr_room); (case k9 => exact BindsTo.of_eq rfl); (case kB => exact rfl); (case kD => decide +kernel); (case c2 => exact rfl); (case c3 => exact rfl); (case c4 => exact rfl); k_whole; intro g' L' h' tk' cells' FG' F' N' Y' B' X' T' l1; k_cells Y'; (try simp only [List.cons_append, List.nil_append] at N'); (try dsimp only); (try k_lift B'); (try k_fold))
  walk_at "STEPS"
  refine wpAny_For ?_
  walk_at "STEPS"
  rename IsRange _ _ _ _ _ _ _ _ => hr
  refine' srcRange (n := ns.length - i) (by rfl) ?F ?N hr ?sz ?b1 ?b2 ?b3 ?b4 fun I hI' W hIo hst F2 N2 hIL hI0 hIlt => ?_
  case F => k_asm
  case N => k_asm
  case sz => omega
  case b1 => omega
  case b2 => omega
  case b3 => omega
  case b4 => omega
  rename_i o1 o2 o3 d1 d2 d3 _ _ _ _ _ _ _ _ _ _ _ _
  have d2' : o2.data = .cell (some (.int i tt)) := d2
  have d3' : o3.data = .cell (some (.ref l)) := d3
  have lI3 := hIlt _ (.head _)
  have lI2 := hIlt _ (.tail _ (.head _))
  have lI1 := hIlt _ (.tail _ (.tail _ (.head _)))
  refine' forCell (σ := Int × Tok) (oj₀ := o1) (fun _ => (L' + 1 + 1, o2) :: (L' + 1, o3) :: news) (fun c => [(Str.ofString "best", .int c.1 c.2)]) (fun _ => s.gens) [] (LInv ns i) (0, _) W (by rfl) (by rfl) (by rfl) (by rfl) (fun b hb => List.mem_singleton.mp hb) hIo hI0 hIL (Nat.ne_of_gt lI3) (fun b hb => .inl (List.mem_singleton.mp hb)) hst F2 N2 (.head _) d1 ?xsub ?xne rfl ?xnames ?xp ?turn ?done
  case xsub => walk_at "SUB"
  case xne =>
    intro p hp
    refine ⟨Nat.ne_of_lt (hIlt p (.tail _ hp)), ?_⟩
    rcases List.mem_cons.mp hp with rfl | hp
    · exact Nat.ne_of_lt (Nat.lt_succ_self _)
    rcases List.mem_cons.mp hp with rfl | hp
    · exact Nat.ne_of_lt (Nat.lt_succ_of_lt (Nat.lt_succ_self _))
    · exact Nat.ne_of_lt (Nat.lt_succ_of_lt (Nat.lt_succ_of_lt (Nat.lt_succ_of_lt (l1 p hp))))
  case xnames => walk_at "NAMES"
  case xp => exact ⟨Int.le_refl _, (by dsimp only; omega), rfl⟩
  case turn =>
    rintro j ⟨b, tb⟩ u h tk v oI oj hj ⟨tj, rfl⟩ ⟨hb0, hb1, hbl⟩ hne hjd F3 N3
    dsimp only at *
    walk_at "STEPS"
    refine compE (by with_unfolding_all rfl) (by rfl) (by decide) ?_
    walk_at "STEPS"
    rename IsRange _ _ _ _ _ _ _ _ => hr2
    refine' srcRange (n := j) (by rfl) ?F ?N hr2 ?sz ?b1 ?b2 ?b3 ?b4 fun I2 hI2 W2 hIo2 hst2 F4 N4 hIL2 hI02 hIlt2 => ?_
    case F => k_asm
    case N => k_asm
    case sz => omega
    case b1 => omega
    case b2 => omega
    case b3 => omega
    case b4 => omega
    refine' blockG (σ := List Value) (fun _ => (I, oI) :: (L' + 1 + 1 + 1, oj) :: (L' + 1 + 1, o2) :: (L' + 1, o3) :: news) (fun c => c) (fun _ => s.gens) (fun t c => IntsAre c (msL ns i (i + 1 + j) t)) [] W2 ?zsz hIo2 (fun b hb => .inl (List.mem_singleton.mp hb)) (by decide) (by rfl) (by rfl) hst2 F4 N4 ?zsub ?zne hIL2 hI02 rfl rfl ?zlen .nil ?zturn ?zdone
    case zsz => rw [sizeLine_eq]; omega
    case zsub => walk_at "SUB"
    case zne => exact fun p hp => Nat.ne_of_lt (hIlt2 p hp)
    case zlen => exact fun t c hc => by rw [hc.length]; exact msL_len _ _ _ _
    case zturn =>
      intro t c v oI2 C oC D m₂ h5 tk5 E' ht hv hc hC hx F5 N5 ne5 off5
      obtain ⟨tv, rfl⟩ := hv
      dsimp only at *
      refine wpAny_tests_one ?_
      walk_at "GO"
      have e1 : ((i : Int) + 1 + (j : Int) * 1).toNat = i + 1 + j := by rw [Int.mul_one]; rfl
      have e2 : ((i : Int) + 1 + (t : Int) * 1).toNat = i + 1 + t := by rw [Int.mul_one]; rfl
      have e3 : ((i : Int)).toNat = i := rfl
      rename News _ _ _ _ => N6
      simp only [e1, e2, e3] at N6
      rename IntsAre vs ns => hI9
      refine leRefs N6 (.tail _ (.head _)) (.head _) ((hI9.drop _).take _) ((hI9.drop _).take _) (by ktr_units) ?_
      have hsucc := msL_succ ns i (i + 1 + j) t
      cases hle : leL ((ns.drop (i + 1 + t)).take (i + 1 + j - (i + 1 + t))) ((ns.drop i).take (i + 1 + j - i)) with
      | true =>
        rw [hle, if_pos rfl] at hsucc
        walk_at "STEPS"
        rename Fr _ _ _ _ => F7; rename News _ _ _ _ => N7
        refine' cturn (c ++ [.int ((i : Int) + 1 + (t : Int) * 1) tv]) F7 N7 ?ysub (fun p hp => off5 p hp) ?yp rfl rfl
        case ysub => walk_at "SUB"
        case yp =>
          rw [hsucc]
          refine hc.append ?_
          rw [show ((i : Int) + 1 + (t : Int) * 1) = ((i + 1 + t : Nat) : Int) by rw [Int.mul_one]; rfl]
          exact .cons _ _ .nil
      | false =>
        rw [hle, if_neg Bool.false_ne_true, List.append_nil] at hsucc
        walk_at "STEPS"
        rename Fr _ _ _ _ => F7; rename News _ _ _ _ => N7
        refine' cturn c F7 N7 ?ysub (fun p hp => off5 p hp) ?yp (by simp) rfl
        case ysub => walk_at "SUB"
        case yp => rw [hsucc]; exact hc
    case zdone =>
      intro c C oC D m₂ h5 tk5 hc hC F5 N5 ne5 off5
      dsimp only at *
      refine postE hC F5 N5 ne5 off5 fun h6 F6 N6 => ?_
      walk_at "STEPS"
      · rename _ = true => hq
        have hq := of_decide_eq_true hq
        rename Fr _ _ _ _ => F7; rename News _ _ _ _ => N7
        refine' for_next ((i : Int) + 1 + (j : Int) * 1 - (i : Int), _) F7 N7 ?yI ?ysub ?ynames ?ykeep ?yne ⟨⟨?y0, ?y1, ?y2⟩, ?yj⟩ rfl
        case yI => k_mem
        case ysub => walk_at "SUB"
        case ynames => walk_at "NAMES"
        case ykeep => walk_at "KEEP"
        case yne => exact List.forall_mem_cons.mpr ⟨Nat.ne_of_lt lI3, fun p hp => (hne p hp).1⟩
        case y0 => dsimp only; omega
        case y1 => dsimp only; omega
        case y2 => dsimp only; rw [longAt, if_pos hq]; omega
        case yj => exact fun p hp => (hne p hp).2
      · rename _ = false => hq
        have hq := of_decide_eq_false hq
        rename Fr _ _ _ _ => F7; rename News _ _ _ _ => N7
        refine' for_next (b, tb) F7 N7 ?yI ?ysub ?ynames ?ykeep ?yne ⟨⟨hb0, hb1, ?y2⟩, ?yj⟩ rfl
        case yI => k_mem
        case ysub => walk_at "SUB"
        case ynames => walk_at "NAMES"
        case ykeep => walk_at "KEEP"
        case yne => exact List.forall_mem_cons.mpr ⟨Nat.ne_of_lt lI3, fun p hp => (hne p hp).1⟩
        case y2 => dsimp only; rw [longAt, if_neg hq]; exact hbl
        case yj => exact fun p hp => (hne p hp).2
  case done =>
    rintro ⟨b, tb⟩ u h tk oj v ⟨hb0, hb1, hbl⟩ hjd F3 N3
    dsimp only at *
    walk_at "STEPS"
    rename News _ _ _ _ => N9
    have e : b = longT ns i := hbl
    rw [e]
    exact ret _ _ _ (by k_asm) (cb_drop N9 (by walk_at "SUB"))
end
section
/-- the key's call answers -/
noncomputable def KeyOk (w : World) (p : Program) (loose : List Str) (mean : ExcName → Option Value) (mg mb : Str → Option Value) (base : Heap) (kf : Addr) (need : List (Addr × Obj)) (dom : List Int) (keyOf : Int → Str) : Prop :=
  ∀ (dp un : Nat) (gd : Option (List Code)) (cn : Str) (cs : Scope) (a : Addr) (ccd : Value) (cl : List (Str × Addr)) (outer : List Env) (A₀ : Around) (h₀ : Heap) (L : Addr) (m : Str → Option Value) (news : List (Addr × Obj)) (s : Shared)
    (Q E : Value → Shared → Prop) (n : Int) (t : Tok), Below A₀ base outer h₀ → Fr h₀ L s.heap m → (Mine.heapK w.params).In h₀ → News h₀ L s.heap news → (∀ q ∈ need, q ∈ news) → Top p loose mean mg mb h₀ → cs.kind = .function → n ∈ dom →
    dp + 5 < recursionLimit → un + 100 < cLine → (∀ t' h' tk', Fr h₀ L h' m → News h₀ L h' news → Q (.str (keyOf n) t') { s with heap := h', toks := tk' }) →
    wpAny (model PySem.Challenge.pw_wf0071_01 w) (ktrTop dp un gd cn cs L a ccd cl outer) (call (.ref kf) [.int n t]) Q E s
noncomputable def bisGo (f : Nat → Bool) : Nat → Int → Int → Int
  | 0, lo, _ => lo
  | n + 1, lo, hi => if lo < hi then (if f ((lo + hi) / 2).toNat then bisGo f n ((lo + hi) / 2 + 1) hi else bisGo f n lo ((lo + hi) / 2)) else lo
noncomputable def bisF (keyOf : Int → Str) (ns : List Int) (x : Str) (j : Nat) : Bool := decide ((keyOf (ns.getD j 0)).cps.toList < x.cps.toList)
noncomputable def bisT (keyOf : Int → Str) (ns : List Int) (x : Str) : Int := bisGo (bisF keyOf ns x) ns.length 0 ns.length
theorem bisGo_range (f : Nat → Bool) : ∀ (n : Nat) (lo hi : Int), lo ≤ hi → lo ≤ bisGo f n lo hi ∧ bisGo f n lo hi ≤ hi
  | 0, lo, hi, h => ⟨Int.le_refl _, h⟩
  | n + 1, lo, hi, h => by
    rw [bisGo]
    split
    · split
      · have := bisGo_range f n ((lo + hi) / 2 + 1) hi (by omega); omega
      · have := bisGo_range f n lo ((lo + hi) / 2) (by omega); omega
    · omega
theorem bisT_range (keyOf : Int → Str) (ns : List Int) (x : Str) : 0 ≤ bisT keyOf ns x ∧ bisT keyOf ns x ≤ ns.length := bisGo_range _ _ _ _ (by omega)
theorem bis_pos {lo hi : Int} {n : Nat} (h : hi - lo ≤ n) (h2 : lo < hi) : ∃ n', n = n' + 1 := ⟨n - 1, by omega⟩
theorem bis_mid {lo hi : Int} (h : lo < hi) : lo ≤ (lo + hi) / 2 ∧ (lo + hi) / 2 < hi := by omega
theorem bis_up {lo hi md : Int} {n : Nat} (h : hi - lo ≤ ((n + 1 : Nat) : Int)) (b : lo ≤ md) : hi - (md + 1) ≤ n := by omega
theorem bis_dn {lo hi md : Int} {n : Nat} (h : hi - lo ≤ ((n + 1 : Nat) : Int)) (b : md < hi) : md - lo ≤ n := by omega
theorem bis_l1 {lo hi md : Int} (b1 : lo ≤ md) (b2 : md < hi) : (hi - (md + 1)).toNat < (hi - lo).toNat := by omega
theorem bis_l2 {lo hi md : Int} (b1 : lo ≤ md) (b2 : md < hi) : (md - lo).toNat < (hi - lo).toNat := by omega
theorem bis_m {lo hi md : Int} {n : Nat} (h0 : 0 ≤ lo) (b1 : lo ≤ md) (b2 : md < hi) (h : hi ≤ n) : md.toNat < n := by omega
structure BSt where
  lo : Int
  hi : Int
  t1 : Tok
  t2 : Tok
inductive BisInv (keyOf : Int → Str) (ns : List Int) (x : Str) (c : BSt) : Prop
  | mk (h0 : 0 ≤ c.lo) (h1 : c.lo ≤ c.hi) (h2 : c.hi ≤ ns.length) (n : Nat) (h3 : c.hi - c.lo ≤ n) (h4 : bisGo (bisF keyOf ns x) n c.lo c.hi = bisT keyOf ns x) : BisInv keyOf ns x c
set_option maxRecDepth 100000 in
set_option maxHeartbeats 8000000 in
theorem bisect_ {w : World} {p : Program} {loose : List Str} {mean : ExcName → Option Value} {mg mb : Str → Option Value}
    (dp un : Nat) (gd : Option (List Code)) (cn : Str) (cs : Scope) (a : Addr) (ccd : Value) (cl : List (Str × Addr)) (outer : List Env) (A₀ : Around) (base h₀ : Heap) (L : Addr) (m : Str → Option Value) (news : List (Addr × Obj)) (s : Shared)
    (Q E : Value → Shared → Prop) (l kf : Addr) (vs : List Value) (ns : List Int) (k : Nat) (x : Str) (tx : Tok) (need : List (Addr × Obj)) (keyOf : Int → Str)
    (B : Below A₀ base outer h₀) (F : Fr h₀ L s.heap m) (X : (Mine.heapK w.params).In h₀) (N : News h₀ L s.heap news) (T : Top p loose mean mg mb h₀) (hk : cs.kind = .function)
    (hm : (l, W.listOf vs.toArray k) ∈ news) (hI : IntsAre vs ns) (hvl : vs.length ≤ 100) (of : Obj) (fd : FuncData) (hkf : (kf, of) ∈ need) (hfd : of.data = .func fd) (hneed : ∀ q ∈ need, q ∈ news) (hkey : KeyOk w p loose mean mg mb base kf need ns keyOf)
    (hd : dp + 15 < recursionLimit) (hu : un + 200 < cLine)
    (ret : ∀ t h' tk', Fr h₀ L h' m → News h₀ L h' news → Q (.int (bisT keyOf ns x) t) { s with heap := h', toks := tk' }) :
    wpAny (model PySem.Challenge.pw_wf0071_01 w) (ktrTop dp un gd cn cs L a ccd cl outer) (call (.ref 23) [.ref l, .str x tx] [(Str.ofString "key", .ref kf)]) Q E s := by
  have hvn : vs.length = ns.length := hI.length
  refine wpAny_call ?_
  k_dflt (refine' code_def ?k1 ?k2 ?k3 ?k4 ?k5 ?kA ?kF ?kK ?k6 ?k7 ?k8 ?k9 ?kB ?_ ?c2 ?c3 ?c4 ?c5; (case kA => exact rfl); (case kF => exact rfl); (case kK => assumption); (case k1 => k_asm); (case k2 => k_asm); (case k3 => k_asm); (case k4 => k_asm); (case k5 => k_asm); (case k6 => k_is); (case k7 => k_is); (case k8 => ktr_room); (case k9 => first | exact BindsTo.of_eq rfl | exact binds_K (by k_in) rfl (by k_is) rfl rfl rfl); (case c5 => decide); (case kB => exact locs rfl); (case c2 => exact rfl); (case c3 => exact rfl); (case c4 => exact rfl); k_whole; intro g' L' h' FG' F' N' B' X' T'; (try dsimp only); (try k_lift B'); (try k_fold))
  walk_at "STEPS"
  rename Fr _ _ _ _ => F2; rename News _ _ _ _ => N2
  refine' whileG (fun c : BSt => news) (fun c => [(Str.ofString "lo", .int c.lo c.t1), (Str.ofString "hi", .int c.hi c.t2)]) (fun _ => s.gens) [Str.ofString "mid"] (BisInv keyOf ns x) (fun c => (c.hi - c.lo).toNat) ⟨0, vs.length, _, _⟩ F2 N2 ?xsub rfl ?xnames ?xp ?turn
  case xsub => walk_at "SUB"
  case xnames => walk_at "NAMES"
  case xp => exact ⟨Int.le_refl _, by dsimp only; omega, by dsimp only; omega, ns.length, by dsimp only; omega, by dsimp only; rw [hvn]; rfl⟩
  case turn =>
    rintro ⟨lo, hi, t1, t2⟩ u h tk2 ⟨hlo, hlh, hhi, n, hn, hgo⟩ F3 N3
    dsimp only at *
    walk_at "STEPS"
    · rename Fr _ _ _ _ => F4; rename News _ _ _ _ => N4
      have em : (lo + hi).fdiv 2 = (lo + hi) / 2 := Int.fdiv_eq_ediv_of_nonneg _ (by omega)
      rw [em] at F4
      have hlt : lo < hi := by assumption
      have bm := bis_mid hlt
      have hmid : ((lo + hi) / 2).toNat < ns.length := bis_m hlo bm.1 bm.2 hhi
      refine callWith_function_kw (o := of) (fd := fd) (Calls.evalArgs_plain (Calls.spliced_cons ?_))
      simp only [Bool.false_eq_true, if_false]
      walk_at "STEPS"
      · exact (N4 _ (hneed _ hkf)).1
      refine' hkey _ _ _ _ _ _ _ _ _ _ _ _ _ _ _ _ _ _ _ ?B ?F ?X ?N hneed ?T ?hk ?hdom ?hd ?hu fun t' h5 tk5 F5 N5 => ?_
      case B => k_asm
      case F => k_asm
      case X => k_asm
      case N => k_asm
      case T => k_asm
      case hk => rfl
      case hdom =>
        rw [List.getD_eq_getElem?_getD, List.getElem?_eq_getElem hmid]
        exact List.getElem_mem hmid
      case hd => dsimp only [ktrTop]; omega
      case hu => dsimp only [ktrTop]; omega
      walk_at "STEPS"
      · rename (_ : List Nat) < _ => hc
        rename Fr _ _ _ _ => F6; rename News _ _ _ _ => N6
        obtain ⟨n', rfl⟩ : ∃ n', n = n' + 1 := bis_pos hn hlt
        rw [bisGo, if_pos (by assumption), if_pos (show bisF keyOf ns x ((lo + hi) / 2).toNat = true from decide_eq_true hc)] at hgo
        refine' whl_next ⟨(lo + hi) / 2 + 1, hi, _, t2⟩ F6 N6 ?ysub ?ynames ?ykeep ⟨?y1, ?y2, ?y3, n', ?y4, hgo⟩ ?less rfl
        case ysub => walk_at "SUB"
        case ynames => walk_at "NAMES"
        case ykeep => walk_at "KEEP"
        case y1 => exact Int.le_trans hlo (Int.le_trans bm.1 (Int.le_of_lt (Int.lt_succ _)))
        case y2 => exact bm.2
        case y3 => exact hhi
        case y4 => exact bis_up hn bm.1
        case less => exact bis_l1 bm.1 bm.2
      · rename ¬ (_ : List Nat) < _ => hc
        rename Fr _ _ _ _ => F6; rename News _ _ _ _ => N6
        obtain ⟨n', rfl⟩ : ∃ n', n = n' + 1 := bis_pos hn hlt
        rw [bisGo, if_pos (by assumption), if_neg (by rw [show bisF keyOf ns x ((lo + hi) / 2).toNat = false from decide_eq_false hc]; exact Bool.false_ne_true)] at hgo
        refine' whl_next ⟨lo, (lo + hi) / 2, t1, _⟩ F6 N6 ?ysub ?ynames ?ykeep ⟨?y1, ?y2, ?y3, n', ?y4, hgo⟩ ?less rfl
        case ysub => walk_at "SUB"
        case ynames => walk_at "NAMES"
        case ykeep => walk_at "KEEP"
        case y1 => exact hlo
        case y2 => exact bm.1
        case y3 => exact Int.le_trans (Int.le_of_lt bm.2) hhi
        case y4 => exact bis_dn hn bm.2
        case less => exact bis_l2 bm.1 bm.2
    · have e : bisGo (bisF keyOf ns x) n lo hi = lo := by
        cases n with
        | zero => rfl
        | succ n => rw [bisGo, if_neg (by assumption)]
      have e2 : lo = bisT keyOf ns x := e.symm.trans hgo
      rw [e2]
      exact ret _ _ _ (by k_asm) (by k_asm)
end
section
section
variable {prog : Program} {w : World} {A : Around} {E : Value → Shared → Prop} {s : Shared} {h₀ : Heap} {L : Addr} {m : Str → Option Value} {news : List (Addr × Obj)} {Q : Value → Shared → Prop}
theorem srcStep {r : Addr} {a b c : Int} {t u v : Tok} {n : Nat} (hh : A.handled = none) (F : Fr h₀ L s.heap m) (N : News h₀ L s.heap news) (hr : IsRange s.heap r a b c t u v) (hsz : Builtin.Range.rangeSize a b c = (n : Int)) (hsm : Builtin.Range.small a b c = true)
    (h : ∀ I h', Walks prog w A I [I] [I] n (fun i v => ∃ t, v = .int (a + i * c) t) (fun i h => IsRangeIter h I (a + (i : Nat) * c) ((n : Int) - (i : Nat)) c) → (∀ i (h : Heap), IsRangeIter h I (a + (i : Nat) * c) ((n : Int) - (i : Nat)) c → ∃ o, h.get? I = some o) → IsRangeIter h' I (a + (0 : Nat) * c) ((n : Int) - (0 : Nat)) c → Fr h₀ L h' m → News h₀ L h' news → I ≠ L → h₀.get? I = none → (∀ p ∈ news, p.1 < I) → Q (.ref I) { s with heap := h' }) :
    wpAny (model prog w) A (pyIter (.ref r)) Q E s := by
  refine wpAny_pyIter_range hr hsm ?_
  exact h _ _ (Walks.range hh _ a c n) (fun i h st => ⟨_, st⟩) (by show IsRangeIter _ _ _ _ _; rw [hsz]; simpa using Heap.get?_push_size _ rfl) (F.push _) (fun p hp => ⟨Heap.get?_push_of_some _ (N p hp).1, (N p hp).2⟩) (Nat.ne_of_gt F.ns.lt) (next_is_new F) (fun p hp => Heap.lt_size (N p hp).1)
end
theorem small_two {a b : Int} (ha : -(2 ^ 61) ≤ a) (ha' : a < 2 ^ 61) (hb : -(2 ^ 61) ≤ b) (hb' : b < 2 ^ 61) : Builtin.Range.small a b 2 = true := by
  unfold Builtin.Range.small Builtin.Range.rangeSize
  simp only [Builtin.Range.rangeFitsLong, Bool.and_eq_true, Bool.or_eq_true, decide_eq_true_eq, beq_iff_eq, show (2 : Int) > 0 by decide, if_true]
  split <;> omega
theorem strs_drop : ∀ {vs : List Value} {xs : List Str}, StrsAre vs xs → ∀ k : Nat, StrsAre (vs.drop k) (xs.drop k)
  | _, _, h, 0 => h
  | _, _, .nil, _ + 1 => .nil
  | _, _, .cons _ _ h, k + 1 => strs_drop h k
theorem strs_take : ∀ {vs : List Value} {xs : List Str}, StrsAre vs xs → ∀ k : Nat, StrsAre (vs.take k) (xs.take k)
  | _, _, _, 0 => .nil
  | _, _, .nil, _ + 1 => .nil
  | _, _, .cons y t h, k + 1 => .cons y t (strs_take h k)
theorem strs_app : ∀ {vs ws : List Value} {xs ys : List Str}, StrsAre vs xs → StrsAre ws ys → StrsAre (vs ++ ws) (xs ++ ys)
  | _, _, _, _, .nil, h => h
  | _, _, _, _, .cons y t r, h => .cons y t (strs_app r h)
noncomputable def GoodT (x : Str) : Prop := escEnd false x.cps.toList = false ∧ x.length ≤ 1000 ∧ escEnd false (stripT x).cps.toList = false ∧ (stripT x).length ≤ 1000
noncomputable def wholeT (xs : List Str) (p q : Nat) : Str := Txt.join (Str.ofString "") ((xs.drop p).take (q - p))
noncomputable def turnedT (xs : List Str) (p q : Nat) : Str := Txt.join (Str.ofString "") ((xs.drop (p + 1)).take (q - (p + 1)) ++ (xs.drop p).take (p + 1 - p))
noncomputable def takenGo (xs : List Str) (p : Nat) : Nat → Nat → Int
  | 0, _ => 0
  | n + 1, q => if checkT (wholeT xs p q) = true then (if checkT (turnedT xs p q) = false then ((q - p) / 2 : Nat) else 0) else takenGo xs p n (q + 2)
noncomputable def takenT (xs : List Str) (p : Nat) : Int := takenGo xs p ((xs.length - p) / 2) (p + 2)
set_option maxRecDepth 100000 in
set_option maxHeartbeats 8000000 in
theorem taken_ {w : World} {p : Program} {loose : List Str} {mean : ExcName → Option Value} {mg mb : Str → Option Value}
    (dp un : Nat) (gd : Option (List Code)) (cn : Str) (cs : Scope) (a : Addr) (ccd : Value) (cl : List (Str × Addr)) (outer : List Env) (A₀ : Around) (base h₀ : Heap) (L : Addr) (m : Str → Option Value) (news : List (Addr × Obj)) (s : Shared)
    (Q E : Value → Shared → Prop) (l : Addr) (vs : List Value) (xs : List Str) (k : Nat) (pp : Nat) (tt : Tok)
    (B : Below A₀ base outer h₀) (F : Fr h₀ L s.heap m) (X : (Mine.heapK w.params).In h₀) (XB : (Mine.heapK w.params).In base) (N : News h₀ L s.heap news) (T : Top p loose mean mg mb h₀) (TB : Top p loose mean mg mb base) (hk : cs.kind = .function)
    (hm : (l, W.listOf vs.toArray k) ∈ news) (hS : StrsAre vs xs) (hxl : xs.length ≤ 100) (hpp : pp < xs.length) (hxs : ∀ x ∈ xs, x.length ≤ 4) (hgood : ∀ q, pp + 2 ≤ q → q ≤ xs.length → GoodT (wholeT xs pp q) ∧ GoodT (turnedT xs pp q))
    (hd : dp + 35 < recursionLimit) (hu : un + 400 < cLine) (hbs : base.objs.size ≤ h₀.objs.size) (hG : AllBare s.gens) 
    (ret : ∀ t h' tk' g', AllBare g' → Fr h₀ L h' m → News h₀ L h' news → Q (.int (takenT xs pp) t) { s with heap := h', toks := tk', gens := g' }) :
    wpAny (model PySem.Challenge.pw_wf0071_01 w) (ktrTop dp un gd cn cs L a ccd cl outer) (call (.ref 143) [.ref l, .int pp tt]) Q E s := by
  refine wpAny_call ?_
  have hvl : vs.length ≤ 100 := by rw [strs_len hS]; exact hxl
  k_dflt cell_enter
  walk_at "STEPS"
  rename Fr _ _ _ m => FG
  have hbs' := Nat.le_trans hbs (Nat.le_trans FG.above (Nat.le_of_lt FG.ns.lt))
  refine wpAny_For ?_
  walk_at "STEPS"
  rename IsRange _ _ _ _ _ _ _ _ => hr
  have hxv : vs.length = xs.length := strs_len hS
  rw [hxv] at hr
  refine' srcStep (n := (xs.length - pp) / 2) (by rfl) ?F ?N hr ?sz ?sm fun I hI W hIo hst F2 N2 hIL hI0 hIlt => ?_
  case F => k_asm
  case N => k_asm
  case sz =>
    unfold Builtin.Range.rangeSize
    simp only [show (2 : Int) > 0 by decide, if_true]
    split <;> omega
  case sm => exact small_two (by omega) (by omega) (by omega) (by omega)
  refine' forCore (σ := Array GenState) (fun _ => news) (fun _ => []) (fun g => g) [Str.ofString "q", Str.ofString "told"] (fun i g => AllBare g ∧ takenGo xs pp ((xs.length - pp) / 2 - i) (pp + 2 + i * 2) = takenT xs pp) s.gens W (by rfl) (by rfl) (by rfl) (by rfl) (fun b hb => List.mem_singleton.mp hb) hIo hI0 hIL (fun b hb => .inl (List.mem_singleton.mp hb)) hst F2 N2 ?sub (fun p hp => Nat.ne_of_lt (hIlt p hp)) rfl ?names ⟨hG, rfl⟩ (fun i c hP => fun p hp => nomatch hp) ?turn ?done
  case sub => walk_at "SUB"
  case names => exact List.forall_mem_nil _
  case turn =>
    rintro i g u h tk v oI hi ⟨t, rfl⟩ ⟨hbg, hgo⟩ hne F3 N3
    dsimp only at *
    have hq := hgood (pp + 2 + i * 2) (by omega) (by omega)
    walk_at "GO"
    have e1 : ((pp : Int)).toNat = pp := rfl
    have e2 : ((pp : Int) + 2 + (i : Int) * 2).toNat = pp + 2 + i * 2 := rfl
    have e3 : ((pp : Int) + 1).toNat = pp + 1 := rfl
    rename News _ _ _ _ => N4
    simp only [e1, e2] at N4
    have hjoin : ∀ ys : List Str, (∀ x ∈ ys, x ∈ xs) → ys.length ≤ 200 → (ys.map (·.length)).sum + ys.length * (Str.ofString "").length ≤ 16777216 := by
      intro ys h1 h2
      have := sum_le (k := 4) fun x hx => hxs x (h1 x hx)
      simp only [show (Str.ofString "").length = 0 from rfl]
      omega
    refine joinAny N4 (.head _) (strs_take (strs_drop hS pp) _) (hjoin _ (fun x hx => List.mem_of_mem_drop (List.mem_of_mem_take hx)) (Nat.le_trans (cut_le _ _ _) (by omega))) fun t4 tk4 => ?_
    walk_at "STEPS"
    refine' check_ _ _ _ _ _ _ _ _ _ _ _ _ _ _ _ _ _ _ (wholeT xs pp (pp + 2 + i * 2)) t4 ?B ?F ?X XB ?N ?T TB ?hk ?hd ?hu hbs' ?hG hq.1.1 hq.1.2.1 hq.1.2.2.1 hq.1.2.2.2 fun h5 tk5 g5 hb5 F5 N5 => ?_
    case B => k_asm
    case F => k_asm
    case X => k_asm
    case N => k_asm
    case T => k_asm
    case hk => rfl
    case hd => dsimp only [ktrTop]; omega
    case hu => dsimp only [ktrTop]; omega
    case hG => exact hbg
    cases hct : checkT (wholeT xs pp (pp + 2 + i * 2)) with
    | false =>
      walk_at "STEPS"
      rename Fr _ _ _ _ => F6; rename News _ _ _ _ => N6
      refine' for_next g5 F6 N6 ?xI ?xsub ?xnames ?xkeep hne ⟨hb5, ?xgo⟩ rfl
      case xI => k_mem
      case xsub => walk_at "SUB"
      case xnames => exact List.forall_mem_nil _
      case xkeep => walk_at "KEEP"
      case xgo =>
        obtain ⟨n', hn'⟩ : ∃ n', (xs.length - pp) / 2 - i = n' + 1 := ⟨(xs.length - pp) / 2 - i - 1, (Nat.sub_add_cancel (Nat.sub_pos_of_lt hi)).symm⟩
        rw [hn', takenGo, if_neg (by rw [hct]; exact Bool.false_ne_true)] at hgo
        rw [show (xs.length - pp) / 2 - (i + 1) = n' by omega, show pp + 2 + (i + 1) * 2 = pp + 2 + i * 2 + 2 by omega]
        exact hgo
    | true =>
      walk_at "GO"
      rename News _ _ _ _ => N6
      simp only [e1, e2, e3] at N6
      refine joinAny N6 (.head _) (strs_app (strs_take (strs_drop hS (pp + 1)) _) (strs_take (strs_drop hS pp) _)) (hjoin _ (fun x hx => (List.mem_append.mp hx).elim (fun h => List.mem_of_mem_drop (List.mem_of_mem_take h)) (fun h => List.mem_of_mem_drop (List.mem_of_mem_take h))) (Nat.le_trans (cut2_le _ _ _ _ _) (by omega))) fun t7 tk7 => ?_
      walk_at "STEPS"
      refine' check_ _ _ _ _ _ _ _ _ _ _ _ _ _ _ _ _ _ _ (turnedT xs pp (pp + 2 + i * 2)) t7 ?B ?F ?X XB ?N ?T TB ?hk ?hd ?hu hbs' ?hG hq.2.1 hq.2.2.1 hq.2.2.2.1 hq.2.2.2.2 fun h8 tk8 g8 hb8 F8 N8 => ?_
      case B => k_asm
      case F => k_asm
      case X => k_asm
      case N => k_asm
      case T => k_asm
      case hk => rfl
      case hd => dsimp only [ktrTop]; omega
      case hu => dsimp only [ktrTop]; omega
      case hG => exact hb5
      obtain ⟨n', hn'⟩ : ∃ n', (xs.length - pp) / 2 - i = n' + 1 := ⟨(xs.length - pp) / 2 - i - 1, (Nat.sub_add_cancel (Nat.sub_pos_of_lt hi)).symm⟩
      rw [hn', takenGo, if_pos hct] at hgo
      cases hcu : checkT (turnedT xs pp (pp + 2 + i * 2)) with
      | false =>
        rw [if_pos hcu] at hgo
        walk_at "STEPS"
        dsimp only [ForEnd]
        walk_at "STEPS"
        rename News _ _ _ _ => N9
        rw [show ((pp : Int) + 2 + (i : Int) * 2 - (pp : Int)).fdiv 2 = takenT xs pp by rw [← hgo, Int.fdiv_eq_ediv_of_nonneg _ (by omega), show (pp : Int) + 2 + (i : Int) * 2 - (pp : Int) = ((pp + 2 + i * 2 - pp : Nat) : Int) by omega]; rfl]
        exact ret _ _ _ _ hb8 (by k_asm) (cb_drop N9 (by walk_at "SUB"))
      | true =>
        rw [if_neg (by rw [hcu]; decide)] at hgo
        walk_at "STEPS"
        dsimp only [ForEnd]
        walk_at "STEPS"
        rename News _ _ _ _ => N9
        rw [hgo]
        exact ret _ _ _ _ hb8 (by k_asm) (cb_drop N9 (by walk_at "SUB"))
  case done =>
    rintro g u h tk ⟨hbg, hgo⟩ F3 N3
    dsimp only at *
    rw [Nat.sub_self, takenGo] at hgo
    walk_at "STEPS"
    rw [hgo]
    rename News _ _ _ _ => N9
    exact ret _ _ _ _ hbg (by k_asm) (cb_drop N9 (by walk_at "SUB"))
end
section
noncomputable def tabs (P : Addr) (a b : Nat) : Option (Addr × Obj) → List (Addr × Obj)
  | none => [(P, W.tabObj #[])]
  | some q => [(P, W.tabObj #[rawInt a, rawInt b, .ref q.1]), q]
theorem tabs_mem (P : Addr) (a b : Nat) (made : Option (Addr × Obj)) : ∃ ps, (P, W.tabObj ps) ∈ tabs P a b made := by
  cases made with
  | none => exact ⟨_, .head _⟩
  | some q => exact ⟨_, .head _⟩
noncomputable def madeOk (qual : Str) (made : Option (Addr × Obj)) : Prop := ∀ q, made = some q → ∃ fv t, q.2.data = .fields fv ∧ fv[1]? = some (.str qual t)
section
variable {M : Model} {A : Around} {E : Value → Shared → Prop} {s : Shared} {h₀ : Heap} {L a c P : Addr} {m mg mb : Str → Option Value} {cn : Str} {cs : Scope} {ccd : Value} {cl : List (Str × Addr)}
  {p : Program} {loose : List Str} {mean : ExcName → Option Value} {name qual : Str} {params : Arguments} {body : Expr} {scope : Scope} {pos : Pos} {firstLine : Nat} {clos : List (Str × Addr)}
theorem upd_mid {P : Addr} {o : Obj} {pre post : List (Addr × Obj)} (h1 : ∀ q ∈ pre, q.1 ≠ P) (h2 : ∀ q ∈ post, q.1 ≠ P) : UpdF P o (pre ++ (P, o) :: post) (fun o' => pre ++ (P, o') :: post) := by
  induction pre with
  | nil => exact .head h2
  | cons x pre ih => exact .tail (h1 x (.head _)) (ih fun q hq => h1 q (.tail _ hq))
/-- a lambda, made anew or found in the code's table -/
theorem lamTab {Q : Value → Shared → Prop} {pre post : List (Addr × Obj)} {ln cl1 : Nat} {made : Option (Addr × Obj)} (F : Fr h₀ L s.heap m) (N : News h₀ L s.heap (pre ++ (tabs P ln cl1 made ++ post))) (T : Top p loose mean mg mb h₀) (C : CodeHd h₀ c P) (hcd : ccd = .ref c)
    (hl : pos.line = ln) (hc : pos.col = cl1) (h1 : ∀ q ∈ pre, q.1 ≠ P) (h2 : ∀ q ∈ post, q.1 ≠ P) (h3 : ∀ q, made = some q → q.1 ≠ P) (hmade : madeOk qual made)
    (ht : ∀ q : Addr, TriplesOk [rawInt ln, rawInt cl1, .ref q]) (hf : ∀ q : Addr, codeAmong pos [rawInt ln, rawInt cl1, .ref q] = some (.ref q)) (ht0 : TriplesOk []) (hf0 : codeAmong pos [] = none)
    (hcl : closureFor scope (envX cn cs L a ccd cl) = pure clos)
    (h : ∀ f q ctv h' tk, madeOk qual (some q) → Fr h₀ L h' m → News h₀ L h' ((f, kla_obj name qual params body scope clos ((mg "__name__").getD .none) q.1 ctv) :: (pre ++ (tabs P ln cl1 (some q) ++ post))) →
      (∀ x ∈ pre ++ (tabs P ln cl1 (some q) ++ post), x.1 < f) → (made = some q ∨ ∀ x ∈ pre ++ (tabs P ln cl1 made ++ post), x.1 < q.1) → Q (.ref f) { s with heap := h', toks := tk }) :
    wpAny M A (makeFunction name qual params (.expr body) scope (envX cn cs L a ccd cl) [] [] [] pos firstLine) Q E s := by
  subst hl hc
  cases made with
  | none =>
    refine kla_nest F N T C hcd (upd_mid h1 h2) ht0 hf0 hcl fun f c' oc fv t ctv h' tk F' N' d1 d2 l1 l2 => ?_
    refine h f (c', oc) ctv h' tk (fun q hq => by cases hq; exact ⟨fv, t, d1, d2⟩) F' (fun x hx => N' x ?_) ?_ (.inr l1)
    · rcases List.mem_cons.mp hx with rfl | hx
      · exact .head _
      rcases List.mem_append.mp hx with hx | hx
      · exact .tail _ (.tail _ (List.mem_append_left _ hx))
      rcases List.mem_cons.mp hx with rfl | hx
      · exact .tail _ (.tail _ (List.mem_append_right _ (.head _)))
      rcases List.mem_cons.mp hx with rfl | hx
      · exact .tail _ (.head _)
      · exact .tail _ (.tail _ (List.mem_append_right _ (.tail _ hx)))
    · intro x hx
      rcases List.mem_append.mp hx with hx | hx
      · exact Nat.lt_trans (l1 x (List.mem_append_left _ hx)) l2
      rcases List.mem_cons.mp hx with rfl | hx
      · exact Nat.lt_trans (l1 (P, W.tabObj #[]) (List.mem_append_right _ (.head _))) l2
      rcases List.mem_cons.mp hx with rfl | hx
      · exact l2
      · exact Nat.lt_trans (l1 x (List.mem_append_right _ (.tail _ hx))) l2
  | some q =>
    obtain ⟨c', oc⟩ := q
    refine kla_hit F N T C hcd (ps := #[rawInt pos.line, rawInt pos.col, .ref c']) (List.mem_append_right _ (.head _)) (ht c') (hf c') hcl fun f ctv h' tk F' N' l1 => ?_
    exact h f (c', oc) ctv h' tk hmade F' N' l1 (.inl rfl)
end
end
section
theorem strs_get : ∀ {vs : List Value} {xs : List Str}, StrsAre vs xs → ∀ (i : Nat) (x : Str), xs[i]? = some x → ∃ t, vs[i]? = some (.str x t)
  | _, _, .nil, _, _, h => by simp at h
  | _, _, .cons y t _, 0, x, h => by simp at h; subst h; exact ⟨t, rfl⟩
  | _, _, .cons _ _ r, i + 1, x, h => strs_get r i x (by simpa using h)
theorem first_of {h₀ h : Heap} {L : Addr} {f : Addr} {o : Obj} {rest : List (Addr × Obj)} (N : News h₀ L h ((f, o) :: rest)) : ∃ o', o' = o ∧ News h₀ L h ((f, o') :: rest) := ⟨o, rfl, N⟩
structure LBS where
  made : Option (Addr × Obj)
  vs : List Value
  k : Nat
structure BefInv (lb : Addr) (ns : List Int) (xs : List Str) (i : Nat) (c : LBS) : Prop where
  hmade : madeOk (Str.ofString "_law_before.<locals>.<lambda>") c.made
  hmlb : ∀ q, c.made = some q → @Ne Nat q.1 lb
  hm150 : ∀ q, c.made = some q → @Ne Nat q.1 150
  hbI : IntsAre c.vs ((xs.take i).map (bisT (fun j => xs.getD j.toNat Str.empty) ns))
  hbk : c.k = i
set_option maxRecDepth 100000 in
set_option maxHeartbeats 8000000 in
theorem before_ {w : World} {p : Program} {loose : List Str} {mean : ExcName → Option Value} {mg mb : Str → Option Value}
    (dp un : Nat) (gd : Option (List Code)) (cn : Str) (cs : Scope) (a : Addr) (ccd : Value) (cl : List (Str × Addr)) (outer : List Env) (A₀ : Around) (base h₀ : Heap) (L : Addr) (m : Str → Option Value) (news : List (Addr × Obj)) (s : Shared)
    (Q E : Value → Shared → Prop) (l lw : Addr) (vs ws : List Value) (ns : List Int) (xs : List Str) (k k2 : Nat)
    (B : Below A₀ base outer h₀) (F : Fr h₀ L s.heap m) (X : (Mine.heapK w.params).In h₀) (N : News h₀ L s.heap ((150, W.tabObj #[]) :: news)) (T : Top p loose mean mg mb h₀) (hk : cs.kind = .function)
    (hm : (l, W.listOf vs.toArray k) ∈ news) (hI : IntsAre vs ns) (hvl : vs.length ≤ 100) (hmw : (lw, W.listOf ws.toArray k2) ∈ news) (hS : StrsAre ws xs) (hwl : ws.length ≤ 100)
    (h150 : ∀ q ∈ news, q.1 ≠ 150) (hdom : ∀ n ∈ ns, 0 ≤ n ∧ n < xs.length)
    (hd : dp + 35 < recursionLimit) (hu : un + 400 < cLine)
    (ret : ∀ r vs' ps h' tk', IntsAre vs' (xs.map (bisT (fun j => xs.getD j.toNat Str.empty) ns)) → Fr h₀ L h' m → News h₀ L h' ((r, W.listOf vs'.toArray vs'.length) :: (150, W.tabObj ps) :: news) → (∀ p ∈ news, p.1 < r) → Q (.ref r) { s with heap := h', toks := tk' }) :
    wpAny (model PySem.Challenge.pw_wf0071_01 w) (ktrTop dp un gd cn cs L a ccd cl outer) (call (.ref 155) [.ref l, .ref lw]) Q E s := by
  have hC : CodeHd h₀ 154 150 := codeHd_of_K X (by kernel_rfl)
  have hI9 := hI
  refine wpAny_call ?_
  k_dflt (refine' code_defC ?k1 ?k2 ?k3 ?k4 ?k5 ?kA ?kF ?kK ?k6 ?k7 ?k8 ?k9 ?kB ?kD ?_ ?c2 ?c3 ?c4; (case kA => exact rfl); (case kF => exact rfl); (case kK => assumption); (case k1 => k_asm); (case k2 => k_asm); (case k3 => k_asm); (case k4 => k_asm); (case k5 => k_asm); (case k6 => k_is); (case k7 => k_is); (case k8 => ktr_room); (case k9 => exact BindsTo.of_eq rfl); (case kB => exact rfl); (case kD => decide +kernel); (case c2 => exact rfl); (case c3 => exact rfl); (case c4 => exact rfl); k_whole; intro g' L' h' tk' cells' FG' F' N' Y' B' X' T' l1; k_cells Y'; (try simp only [List.cons_append, List.nil_append] at N'); (try dsimp only); (try k_lift B'); (try k_fold))
  walk_at "STEPS"
  refine wpAny_For ?_
  walk_at "STEPS"
  rename_i oc dc lb hA lb1 hB F2 N2
  have dc' : oc.data = .cell (some (.ref lw)) := dc
  refine' srcList (by rfl) ?F ?N ?m fun I hI Wk hIo hst F3 N3 hIL hI0 hIlt => ?_
  case F => k_asm
  case N => k_asm
  case m => exact .tail _ (.tail _ (.tail _ hmw))
  have n1 : @Ne Nat I 150 := Nat.ne_of_gt (hIlt (150, W.tabObj #[]) (.tail _ (.tail _ (.head _))))
  have n2 : @Ne Nat lb 150 := Nat.ne_of_gt lb1.2.1
  have n3 : @Ne Nat (L' + 1) 150 := Nat.ne_of_gt (Nat.lt_succ_of_lt (l1 (150, W.tabObj #[]) (.head _)))
  refine' forCore (σ := LBS) (fun c => (lb, W.listOf c.vs.toArray c.k) :: (L' + 1, oc) :: (tabs 150 130 49 c.made ++ news)) (fun _ => [(Str.ofString "before", .ref lb)]) (fun _ => s.gens) [Str.ofString "one"]
    (BefInv lb ns xs) ⟨none, [], 0⟩ Wk (by rfl) (by rfl) (by rfl) (by rfl) (fun b hb => List.mem_singleton.mp hb) hIo hI0 hIL ?xfp hst F3 N3 ?xsub ?xne rfl ?xnames ?xp ?xps ?turn ?done
  case xfp =>
    refine List.forall_mem_cons.mpr ⟨by exact .inl rfl, ?_⟩
    intro b hb
    · rw [List.mem_singleton.mp hb]
      exact .inr (.inr ⟨_, fun i c hc => .tail _ (.tail _ (List.mem_append_right _ hmw))⟩)
  case xsub => intro q hq; exact hq
  case xne => exact fun p hp => Nat.ne_of_lt (hIlt p hp)
  case xnames => walk_at "NAMES"
  case xp => exact ⟨(fun q hq => by cases hq), (fun q hq => by cases hq), (fun q hq => by cases hq), .nil, rfl⟩
  case xps => intro i c hP q hq; rw [List.mem_singleton.mp hq]; show Str.ofString "before" ≠ Str.ofString "one"; decide
  case turn =>
    rintro i ⟨made, bvs, bk⟩ u h tk v oI hi hv ⟨hmade, hmlb, hm150, hbI, hbk⟩ hne F4 N4
    dsimp only at *
    have hi2 : i < xs.length := by rw [← strs_len hS]; simpa using hi
    obtain ⟨tx, htx⟩ := strs_get hS i _ (List.getElem?_eq_getElem hi2)
    have hvx : v = .str xs[i] tx := by
      have : ws[i]? = some v := by simpa using hv
      rw [htx] at this; exact (Option.some.inj this).symm
    subst hvx
    have hpre : ∀ q ∈ [(I, oI), (lb, W.listOf bvs.toArray bk), (L' + 1, oc)], q.1 ≠ 150 := List.forall_mem_cons.mpr ⟨n1, List.forall_mem_cons.mpr ⟨n2, List.forall_mem_cons.mpr ⟨n3, List.forall_mem_nil _⟩⟩⟩
    walk_at "STEPS"
    refine kla_eval (by rfl) ?_
    refine' lamTab (P := 150) (pre := [(I, oI), (lb, W.listOf bvs.toArray bk), (L' + 1, oc)]) (post := news) ?F ?N ?T (hC.keeps FG'.keep) (by rfl) (by rfl) (by rfl) hpre h150 ?hq hmade ?t1 ?t2 ?t3 ?t4 ?cl ?_
    case F => k_asm
    case N => k_asm
    case T => k_asm
    case hq => exact hm150
    case t1 => intro q; kn_triples
    case t2 => intro q; kn_hit
    case t3 => kn_triples
    case t4 => kn_among
    case cl => exact rfl
    intro f q' ctv h5 tk5 hmade5 F5 N5 lt51 lt52
    obtain ⟨c', oc'⟩ := q'
    obtain ⟨fv, t5, d51, d52⟩ := hmade5 _ rfl
    dsimp only at d51
    simp only [tabs, List.cons_append, List.nil_append] at N5 lt51
    have hcI : @Ne Nat c' I ∧ @Ne Nat c' 150 ∧ @Ne Nat c' lb := by
      rcases lt52 with e | lt
      · exact ⟨hne (c', oc') (by rw [e]; exact .tail _ (.tail _ (List.mem_append_left _ (.tail _ (.head _))))), hm150 _ e, hmlb _ e⟩
      · refine ⟨Nat.ne_of_gt (lt (I, oI) (.head _)), Nat.ne_of_gt (lt (150, (tabs 150 130 49 made)[0]!.2) (List.mem_append_right _ (List.mem_append_left _ ?_))), Nat.ne_of_gt (lt (lb, W.listOf bvs.toArray bk) (.tail _ (.head _)))⟩
        cases made <;> exact .head _
    clear lt52 hmade5
    walk_at "STEPS"
    obtain ⟨ofn, hofe, N6⟩ := first_of N5
    clear N5
    have hkey : KeyOk w p loose mean mg mb base f [(f, ofn), (c', oc'), (L' + 1, oc), (lw, W.listOf ws.toArray k2)] ns (fun j => xs.getD j.toNat Str.empty) := by
      subst hofe
      intro dp un gd cn cs a ccd cl outer A₀ h₀ L m news s Q E n t B F X N hn T hk hdn hd hu ret
      have g1 := hn _ (.head _)
      have g2 := hn _ (.tail _ (.head _))
      have g3 := hn _ (.tail _ (.tail _ (.head _)))
      have g4 := hn _ (.tail _ (.tail _ (.tail _ (.head _))))
      refine wpAny_call ?_
      refine' kla_code ?k1 ?k2 ?k3 ?k4 ?k5 ?kA ?kF ?kK g1 ?k7 ?k8 ?k9 ?kB ?_ ?c2 ?c3 ?c4 ?c5
      case kA => exact rfl
      case kF => exact rfl
      case kK => assumption
      case k1 => k_asm
      case k2 => k_asm
      case k3 => k_asm
      case k4 => k_asm
      case k5 => k_asm
      case k7 => exact codeRec_news N g2 d51 d52
      case k8 => ktr_room
      case k9 => exact rfl
      case c5 => decide
      case kB => exact locs rfl
      case c2 => exact rfl
      case c3 => exact rfl
      case c4 => exact rfl
      intro g' L' h' FG' F' N' B' X' T'
      dsimp only
      walk_at "STEPS"
      obtain ⟨hn0, hn1⟩ := hdom n hdn
      have hnl : n.toNat < xs.length := by omega
      obtain ⟨tv, htv⟩ := strs_get hS n.toNat _ (List.getElem?_eq_getElem hnl)
      refine itemL (N') g4 hn0 (by have := strs_len hS; omega) htv ?_ (by with_unfolding_all rfl) (by intro _; with_unfolding_all rfl)
      walk_at "STEPS"
      have e : xs[n.toNat] = xs.getD n.toNat Str.empty := by rw [List.getD_eq_getElem?_getD, List.getElem?_eq_getElem hnl]; rfl
      rw [e]
      exact ret _ _ _ (by k_asm) (by k_asm)
    walk_at "STEPS"
    refine' bisect_ _ _ _ _ _ _ _ _ _ _ _ _ _ _ _ _ _ _ _ _ vs ns k _ _ _ _ ?B ?F ?X N6 ?T ?hk ?hm hI9 hvl ofn _ (.head _) (by rw [hofe]) ?hneed hkey ?hd ?hu fun t6 h6 tk6 F7 N7 => ?_
    case B => k_asm
    case F => k_asm
    case X => k_asm
    case T => k_asm
    case hk => rfl
    case hm => exact .tail _ (.tail _ (.tail _ (.tail _ (.tail _ (.tail _ hm)))))
    case hneed =>
      refine List.forall_mem_cons.mpr ⟨by exact .head _, ?_⟩
      refine List.forall_mem_cons.mpr ⟨by exact .tail _ (.tail _ (.tail _ (.tail _ (.tail _ (.head _))))), ?_⟩
      refine List.forall_mem_cons.mpr ⟨by exact .tail _ (.tail _ (.tail _ (.head _))), ?_⟩
      intro q hq
      rw [List.mem_singleton.mp hq]
      exact .tail _ (.tail _ (.tail _ (.tail _ (.tail _ (.tail _ hmw)))))
    case hd => dsimp only [ktrTop]; omega
    case hu => dsimp only [ktrTop]; omega
    walk_at "STEPS"
    have c1 := lt51 (lb, W.listOf bvs.toArray bk) (.tail _ (.head _))
    have hxl := strs_len hS
    refine' appendAny F7 N7 (.tail (Nat.ne_of_gt c1) (.tail (Ne.symm (hne (lb, W.listOf bvs.toArray bk) (.head _))) (.head ?_))) (by rw [hbI.length, List.length_map, List.length_take]; omega) fun h8 F8 N8 => ?_
    · refine List.forall_mem_cons.mpr ⟨by exact Nat.ne_of_lt lb1.1, ?_⟩
      refine List.forall_mem_cons.mpr ⟨by exact Nat.ne_of_lt lb1.2.1, ?_⟩
      refine List.forall_mem_cons.mpr ⟨by exact hcI.2.2, ?_⟩
      intro q hq
      · exact Nat.ne_of_lt (allLt_to lb1.2.2 q hq)
    walk_at "STEPS"
    rename Fr _ _ _ _ => F9; rename News _ _ _ _ => N9
    refine' for_next ⟨some (c', oc'), bvs ++ [.int (bisT (fun j => xs.getD j.toNat Str.empty) ns xs[i]) t6], bk + 1⟩ F9 N9 ?yI ?ysub ?ynames ?ykeep ?yne ⟨?ym, ?yl, ?y150, ?yi, ?yk⟩ rfl
    case yI => k_mem
    case ysub =>
      simp only [tabs, List.cons_append, List.nil_append]
      walk_at "SUB"
    case ynames => walk_at "NAMES"
    case ykeep => walk_at "KEEP"
    case yne => exact List.forall_mem_cons.mpr ⟨hne (lb, W.listOf bvs.toArray bk) (.head _), List.forall_mem_cons.mpr ⟨hne _ (.tail _ (.head _)), List.forall_mem_cons.mpr ⟨Ne.symm n1, List.forall_mem_cons.mpr ⟨hcI.1, fun q hq => hne q (.tail _ (.tail _ (List.mem_append_right _ hq)))⟩⟩⟩⟩
    case yl => intro q hq; cases hq; exact hcI.2.2
    case y150 => intro q hq; cases hq; exact hcI.2.1
    case ym => intro q hq; cases hq; exact ⟨fv, t5, d51, d52⟩
    case yi =>
      dsimp only
      rw [List.take_add_one, List.getElem?_eq_getElem hi2, Option.toList_some, List.map_append]
      exact hbI.append (.cons _ _ .nil)
    case yk => dsimp only; rw [hbk]
  case done =>
    rintro ⟨made, bvs, bk⟩ u h tk ⟨hmade, hmlb, hm150, hbI, hbk⟩ F4 N4
    dsimp only at *
    have hxl := strs_len hS
    rw [show ws.toArray.size = xs.length by simpa using hxl, List.take_length] at hbI
    have hbl : bvs.length = xs.length := by rw [hbI.length, List.length_map]
    have ebk : bk = bvs.length := by rw [hbk, hbl]; simpa using hxl
    subst ebk
    walk_at "STEPS"
    rename News _ _ _ _ => N9
    obtain ⟨ps, hps⟩ := tabs_mem 150 130 49 made
    refine' ret _ bvs ps _ _ hbI (by k_asm) (cb_drop N9 ?_) (fun q hq => allLt_to lb1.2.2 q hq)
    refine List.forall_mem_cons.mpr ⟨by exact .head _, ?_⟩
    refine List.forall_mem_cons.mpr ⟨by exact .tail _ (.tail _ (List.mem_append_left _ hps)), ?_⟩
    intro q hq
    · exact .tail _ (.tail _ (List.mem_append_right _ hq))
end
section
/-- a nest: where its list lies, its values, its texts -/
structure Nst where
  ad : Addr
  vs : List Value
  xs : List Str
  k : Nat
structure NS where
  made : Option (Addr × Obj)
  lk : Addr
  kvs : List Value
  kk : Nat
  lg : Addr
  gk : Nat
  nests : List Nst
noncomputable def nled (ns : List Nst) : List (Addr × Obj) := ns.map fun q => (q.ad, W.listOf q.vs.toArray q.k)
noncomputable def tailT (word : Str) (j : Int) : Str := Txt.slice word (some j) none
noncomputable def nestStep (word : Str) (xu : List Str) (st : List Int × List (List Str)) (i : Int) : List Int × List (List Str) :=
  let k := (bisT (tailT word) st.1 (tailT word i)).toNat
  (st.1.take k ++ [i], st.2.take k ++ [[Str.ofString "(" ++ xu.getD i.toNat Str.empty] ++ (st.2.drop k).reverse.flatten ++ [Str.ofString ")"]])
noncomputable def nestAt (word : Str) (xu : List Str) : Nat → List Int × List (List Str)
  | 0 => ([], [])
  | i + 1 => nestStep word xu (nestAt word xu i) ((word.length : Int) - 1 - i)
section
variable {prog : Program} {w : World} {A : Around} {E : Value → Shared → Prop} {s : Shared} {h₀ : Heap} {L l b : Addr} {m : Str → Option Value} {news news' : List (Addr × Obj)} {value slice : Expr} {vs ws : List Value} {k k2 : Nat} {x y : Int} {t u : Tok} {Q : Value → Shared → Prop}
/-- a temporary list turned round -/
theorem sliceRevT {vk : Value} {ops : List Value} (F : Fr h₀ L s.heap m) (N : News h₀ L s.heap news) (hm : (l, W.listOf vs.toArray k) ∈ news) (hz : vs.length ≤ 1000000) (pk : IsPart vk (some (-1)))
    (h : ∀ D h', Fr h₀ L h' m → News h₀ L h' ((D, W.listOf vs.reverse.toArray 0) :: news) → (∀ p ∈ news, p.1 < D) → Q (.ref D) { s with heap := h' })
    (hs : subscripted slice false (.ref l) (.ref s.heap.objs.size) = operate ops (getItem (.ref l) (.ref s.heap.objs.size))) :
    wpAny (model prog w) A (subscriptTail value slice (.ref l) (.ref s.heap.objs.size)) Q E { s with heap := s.heap.push { cls := .type "slice", data := .fields #[.none, .none, vk] } } := by
  have hl := list_is N hm
  refine tail_any (Heap.IsList.typeIs (s := { s with heap := s.heap.push { cls := .type "slice", data := .fields #[.none, .none, vk] } }) (hl.push _)) list_getitem_lookup
    (wpAny_getItem_list_slice (hl.push _) (Heap.IsSliceOf.new ..) .none .none pk (by decide) ?_ (by rw [List.size_toArray, sizeLine_eq]; omega)) hs
  have N1 := News.push (F.push { cls := .type "slice", data := .fields #[.none, .none, vk] }) (N.grown fun _ _ e => Heap.get?_push_of_some _ e) { cls := .type "list", data := .seq (slicePick vs.toArray none none (some (-1))) }
  rw [Heap.size_push] at N1
  show Q (.ref (s.heap.push _).objs.size) _
  rw [Heap.size_push]
  rw [krv_pick] at N1
  refine h (s.heap.objs.size + 1) _ ((F.push _).push _) ?_ (fun p hp => Nat.lt_succ_of_lt (Heap.lt_size (N p hp).1))
  rw [krv_pick]
  exact N1
end
local macro_rules | `(tactic| walk_at "REVT") => `(tactic| (refine' sliceRevT ?F ?N ?m ?z ?p ?_ ?s; (case F => k_asm); (case N => k_asm); (case m => walk_at "INL"); (case z => walk_at "SZ"); (case p => exact IsPart.int _ _); (case s => with_unfolding_all rfl); intro D' h' F' N' l1'; (try dsimp only)))
theorem small_down {word : Str} (h : word.length ≤ 10) : Builtin.Range.small ((word.length : Int) - 1) (-1) (-1) = true := by
  unfold Builtin.Range.small Builtin.Range.rangeSize
  simp only [Builtin.Range.rangeFitsLong, Bool.and_eq_true, Bool.or_eq_true, decide_eq_true_eq, beq_iff_eq, show ¬ (-1 : Int) > 0 by decide, if_false, show (-(-1 : Int)) = 1 by decide, Int.ediv_one]
  split <;> omega
theorem ints_take : ∀ {vs : List Value} {xs : List Int}, IntsAre vs xs → ∀ k : Nat, IntsAre (vs.take k) (xs.take k)
  | _, _, _, 0 => .nil
  | _, _, .nil, _ + 1 => .nil
  | _, _, .cons y t h, k + 1 => .cons y t (ints_take h k)
theorem flat_rev {α : Type} : ∀ l : List (List α), l.reverse.flatten.length = l.flatten.length
  | [] => rfl
  | x :: l => by rw [List.reverse_cons, List.flatten_append, List.length_append, flat_rev l, List.flatten_cons, List.length_append]; simp; omega
theorem flat_cut {α : Type} (l : List (List α)) (k : Nat) : (l.take k).flatten.length + (l.drop k).flatten.length = l.flatten.length := by
  rw [← List.length_append, ← List.flatten_append, List.take_append_drop]
theorem nestAt_len (word : Str) (xu : List Str) : ∀ i, (nestAt word xu i).2.flatten.length = 2 * i
  | 0 => rfl
  | i + 1 => by
    have ih := nestAt_len word xu i
    unfold nestAt nestStep
    generalize nestAt word xu i = st at ih ⊢
    dsimp only
    have h1 := flat_cut st.2 (bisT (tailT word) st.1 (tailT word (word.length - 1 - i))).toNat
    have h2 := flat_rev (st.2.drop (bisT (tailT word) st.1 (tailT word (word.length - 1 - i))).toNat)
    rw [List.flatten_append, List.length_append]
    simp only [List.flatten_cons, List.flatten_nil, List.append_nil, List.length_append, List.length_cons, List.length_nil]
    omega
theorem nestAt_both (word : Str) (xu : List Str) : ∀ i, (nestAt word xu i).2.length = (nestAt word xu i).1.length ∧ (nestAt word xu i).1.length ≤ i
  | 0 => ⟨rfl, Nat.le_refl _⟩
  | i + 1 => by
    have ih := nestAt_both word xu i
    unfold nestAt nestStep
    generalize nestAt word xu i = st at ih ⊢
    dsimp only
    simp only [List.length_append, List.length_take, List.length_cons, List.length_nil]
    exact ⟨by rw [ih.1], Nat.succ_le_succ (Nat.le_trans (Nat.min_le_right _ _) ih.2)⟩
structure NInv (word : Str) (xu : List Str) (i : Nat) (c : NS) : Prop where
  hmade : madeOk (Str.ofString "_law_nest.<locals>.<lambda>") c.made
  hm131 : ∀ q, c.made = some q → @Ne Nat q.1 131
  hg131 : @Ne Nat c.lg 131
  hk131 : @Ne Nat c.lk 131
  hn131 : ∀ q ∈ c.nests, @Ne Nat q.ad 131
  hkI : IntsAre c.kvs (nestAt word xu i).1
  hnx : c.nests.map (·.xs) = (nestAt word xu i).2
  hnS : ∀ q ∈ c.nests, StrsAre q.vs q.xs ∧ q.xs ≠ []
set_option maxRecDepth 100000 in
set_option maxHeartbeats 8000000 in
theorem nest_ {w : World} {p : Program} {loose : List Str} {mean : ExcName → Option Value} {mg mb : Str → Option Value}
    (dp un : Nat) (gd : Option (List Code)) (cn : Str) (cs : Scope) (a : Addr) (ccd : Value) (cl : List (Str × Addr)) (outer : List Env) (A₀ : Around) (base h₀ : Heap) (L : Addr) (m : Str → Option Value) (news : List (Addr × Obj)) (s : Shared)
    (Q E : Value → Shared → Prop) (word : Str) (tw : Tok) (lu : Addr) (us : List Value) (xu : List Str) (ku : Nat)
    (B : Below A₀ base outer h₀) (F : Fr h₀ L s.heap m) (X : (Mine.heapK w.params).In h₀) (N : News h₀ L s.heap ((131, W.tabObj #[]) :: news)) (T : Top p loose mean mg mb h₀) (hk : cs.kind = .function)
    (hmu : (lu, W.listOf us.toArray ku) ∈ news) (hS : StrsAre us xu) (hul : us.length ≤ 100) (hwl : word.length ≤ 10) (hwu : word.length ≤ xu.length) (hx4 : ∀ x ∈ xu, x.length ≤ 3) (h131 : ∀ q ∈ news, q.1 ≠ 131)
    (hd : dp + 35 < recursionLimit) (hu : un + 400 < cLine)
    (ret : ∀ r lk lr kvs rvs kk kr ps h' tk', IntsAre kvs (nestAt word xu word.length).1 → StrsAre rvs (nestAt word xu word.length).2.reverse.flatten → Fr h₀ L h' m →
      News h₀ L h' ((r, { cls := .type "tuple", data := .seq #[.ref lk, .ref lr] }) :: (lr, W.listOf rvs.toArray kr) :: (lk, W.listOf kvs.toArray kk) :: (131, W.tabObj ps) :: news) → Q (.ref r) { s with heap := h', toks := tk' }) :
    wpAny (model PySem.Challenge.pw_wf0071_01 w) (ktrTop dp un gd cn cs L a ccd cl outer) (call (.ref 136) [.str word tw, .ref lu]) Q E s := by
  have hC : CodeHd h₀ 135 131 := codeHd_of_K X (by kernel_rfl)
  refine wpAny_call ?_
  k_dflt (refine' code_defC ?k1 ?k2 ?k3 ?k4 ?k5 ?kA ?kF ?kK ?k6 ?k7 ?k8 ?k9 ?kB ?kD ?_ ?c2 ?c3 ?c4; (case kA => exact rfl); (case kF => exact rfl); (case kK => assumption); (case k1 => k_asm); (case k2 => k_asm); (case k3 => k_asm); (case k4 => k_asm); (case k5 => k_asm); (case k6 => k_is); (case k7 => k_is); (case k8 => ktr_room); (case k9 => exact BindsTo.of_eq rfl); (case kB => exact rfl); (case kD => decide +kernel); (case c2 => exact rfl); (case c3 => exact rfl); (case c4 => exact rfl); k_whole; intro g' L' h' tk' cells' FG' F' N' Y' B' X' T' l1; k_cells Y'; (try simp only [List.cons_append, List.nil_append] at N'); (try dsimp only); (try k_lift B'); (try k_fold))
  walk_at "STEPS"
  refine wpAny_For ?_
  walk_at "STEPS"
  rename IsRange _ _ _ _ _ _ _ _ => hr
  rename_i oc dc lk hA lb1 hB tkA lg hD lg1 hE F2 N2 hF tkB t1 u1 v1 F3 N3 up
  refine' srcDown (n := word.length) (by rfl) ?F ?N hr ?sz ?sm fun I hI Wk hIo hst F3 N3 hIL hI0 hIlt => ?_
  case F => k_asm
  case N => k_asm
  case sz => omega
  case sm => exact small_down hwl
  have dc' : oc.data = .cell (some (.str word tw)) := dc
  have n1 : @Ne Nat I 131 := Nat.ne_of_gt (hIlt (131, W.tabObj #[]) (.tail _ (.tail _ (.tail _ (.head _)))))
  have nL : @Ne Nat (L' + 1) 131 := Nat.ne_of_gt (Nat.lt_succ_of_lt (l1 (131, W.tabObj #[]) (.head _)))
  refine' forCore (σ := NS) (fun c => (c.lg, W.listOf (c.nests.map fun q => Value.ref q.ad).toArray c.gk) :: (c.lk, W.listOf c.kvs.toArray c.kk) :: (L' + 1, oc) :: (tabs 131 103 44 c.made ++ (nled c.nests ++ news))) (fun c => [(Str.ofString "kept", .ref c.lk), (Str.ofString "grown", .ref c.lg)]) (fun _ => s.gens) [Str.ofString "i", Str.ofString "k", Str.ofString "inner", Str.ofString "nest"]
    (NInv word xu) ⟨none, lk, [], 0, lg, 0, []⟩ Wk (by rfl) (by rfl) (by rfl) (by rfl) (fun b hb => List.mem_singleton.mp hb) hIo hI0 hIL (fun b hb => .inl (List.mem_singleton.mp hb)) hst F3 N3 ?xsub ?xne rfl ?xnames ?xp ?xps ?turn ?done
  case xsub => intro q hq; exact hq
  case xne => exact fun p hp => Nat.ne_of_lt (hIlt p hp)
  case xnames => walk_at "NAMES"
  case xp => exact ⟨(fun q hq => by cases hq), (fun q hq => by cases hq), Nat.ne_of_gt lg1.2.2.1, Nat.ne_of_gt lb1.2.1, (fun q hq => nomatch hq), .nil, rfl, (fun q hq => nomatch hq)⟩
  case xps => intro i c hP q hq; revert q; simp only [List.forall_mem_cons, List.not_mem_nil, false_implies, implies_true, and_true]; decide
  case turn =>
    rintro i ⟨made, lk', kvs, kk, lg', gk, nests⟩ u h tk v oI hi ⟨tv, rfl⟩ ⟨hmade, hm131, hg131, hk131, hn131, hkI, hnx, hnS⟩ hne F4 N4
    dsimp only at *
    have hpre : ∀ q ∈ [(I, oI), (lg', W.listOf (nests.map fun q => Value.ref q.ad).toArray gk), (lk', W.listOf kvs.toArray kk), (L' + 1, oc)], q.1 ≠ 131 := by
      simp only [List.forall_mem_cons, List.not_mem_nil, false_implies, implies_true, and_true]
      exact ⟨n1, hg131, hk131, nL⟩
    have hpost : ∀ q ∈ nled nests ++ news, q.1 ≠ 131 := by
      intro q hq
      rcases List.mem_append.mp hq with hq | hq
      · obtain ⟨x, hx, rfl⟩ := List.mem_map.mp hq
        exact hn131 x hx
      · exact h131 q hq
    walk_at "STEPS"
    refine kla_eval (by rfl) ?_
    refine' lamTab (P := 131) (pre := [(I, oI), (lg', W.listOf (nests.map fun q => Value.ref q.ad).toArray gk), (lk', W.listOf kvs.toArray kk), (L' + 1, oc)]) (post := nled nests ++ news) ?F ?N ?T (hC.keeps FG'.keep) (by rfl) (by rfl) (by rfl) hpre hpost ?hq hmade ?t1 ?t2 ?t3 ?t4 ?cl ?_
    case F => k_asm
    case N => k_asm
    case T => k_asm
    case hq => exact hm131
    case t1 => intro q; kn_triples
    case t2 => intro q; kn_hit
    case t3 => kn_triples
    case t4 => kn_among
    case cl => exact rfl
    intro f q' ctv h5 tk5 hmade5 F5 N5 lt51 lt52
    obtain ⟨c', oc'⟩ := q'
    obtain ⟨fv, t5, d51, d52⟩ := hmade5 _ rfl
    dsimp only at d51
    simp only [tabs, List.cons_append, List.nil_append] at N5 lt51
    obtain ⟨ofn, hofe, N6⟩ := first_of N5
    clear N5
    have hkey : KeyOk w p loose mean mg mb base f [(f, ofn), (c', oc'), (L' + 1, oc)] (nestAt word xu i).1 (tailT word) := by
      subst hofe
      intro dp un gd cn cs a ccd cl outer A₀ h₀ L m news s Q E n t B F X N hn T hk hdn hd hu ret
      have g1 := hn _ (.head _)
      have g2 := hn _ (.tail _ (.head _))
      have g3 := hn _ (.tail _ (.tail _ (.head _)))
      refine wpAny_call ?_
      refine' kla_code ?k1 ?k2 ?k3 ?k4 ?k5 ?kA ?kF ?kK g1 ?k7 ?k8 ?k9 ?kB ?_ ?c2 ?c3 ?c4 ?c5
      case kA => exact rfl
      case kF => exact rfl
      case kK => assumption
      case k1 => k_asm
      case k2 => k_asm
      case k3 => k_asm
      case k4 => k_asm
      case k5 => k_asm
      case k7 => exact codeRec_news N g2 d51 d52
      case k8 => ktr_room
      case k9 => exact rfl
      case c5 => decide
      case kB => exact locs rfl
      case c2 => exact rfl
      case c3 => exact rfl
      case c4 => exact rfl
      intro g' L' h' FG' F' N' B' X' T'
      dsimp only
      walk_at "STEPS"
      exact ret _ _ _ (by k_asm) (by k_asm)
    walk_at "STEPS"
    refine' bisect_ _ _ _ _ _ _ _ _ _ _ _ _ _ _ _ _ _ _ _ _ kvs _ kk _ _ _ _ ?B ?F ?X N6 ?T ?hk ?hm hkI ?hvl ofn _ (.head _) (by rw [hofe]) ?hneed hkey ?hd ?hu fun t6 h6 tk6 F7 N7 => ?_
    case B => k_asm
    case F => k_asm
    case X => k_asm
    case T => k_asm
    case hk => rfl
    case hm => exact .tail _ (.tail _ (.tail _ (.head _)))
    case hvl => rw [hkI.length]; have := (nestAt_both word xu i).2; omega
    case hneed =>
      refine List.forall_mem_cons.mpr ⟨by exact .head _, ?_⟩
      refine List.forall_mem_cons.mpr ⟨by exact .tail _ (.tail _ (.tail _ (.tail _ (.tail _ (.tail _ (.head _)))))), ?_⟩
      intro q hq
      rw [List.mem_singleton.mp hq]
      exact .tail _ (.tail _ (.tail _ (.tail _ (.head _))))
    case hd => dsimp only [ktrTop]; omega
    case hu => dsimp only [ktrTop]; omega
    have hb := bisT_range (tailT word) (nestAt word xu i).1 (Txt.slice word (some ((word.length : Int) - 1 + (i : Int) * (-1))) none)
    generalize hkz : bisT (tailT word) (nestAt word xu i).1 (Txt.slice word (some ((word.length : Int) - 1 + (i : Int) * (-1))) none) = kz at hb ⊢
    obtain ⟨hb0, hb1⟩ := hb
    walk_at "STEPS"
    have hnl : (nests.map fun q => Value.ref q.ad).length ≤ 100 := by
      rw [List.length_map]
      have e := congrArg List.length hnx
      rw [List.length_map] at e
      have := nestAt_both word xu i
      omega
    refine wpAny_For ?_
    walk_at "STEPS"
    (walk_at "subscriptTail Name Slice ref ref")
    walk_at "STEPS"
    walk_at "REVT"
    walk_at "STEPS"
    rename_i li h62 lli h63 F63 N63 D1 h64 F64 N64 lD1 D2 h65 F65 N65 lD2
    refine' srcList (by rfl) F65 N65 (.head _) fun I2 h66 Wk2 hIo2 hst2 F66 N66 hI2L hI20 hI2lt => ?_
    have hli0 : ∀ q ∈ (f, ofn) :: (I, oI) :: (lg', W.listOf (nests.map fun q => Value.ref q.ad).toArray gk) :: (lk', W.listOf kvs.toArray kk) :: (L' + 1, oc) :: (131, W.tabObj #[rawInt 103, rawInt 44, .ref c']) :: (c', oc') :: (nled nests ++ news), q.1 < li := allLt_to lli
    have hli : ∀ q ∈ (D2, W.listOf ((nests.map fun q => Value.ref q.ad).drop kz.toNat).reverse.toArray 0) :: (f, ofn) :: (I, oI) :: (lg', W.listOf (nests.map fun q => Value.ref q.ad).toArray gk) :: (lk', W.listOf kvs.toArray kk) :: (L' + 1, oc) :: (131, W.tabObj #[rawInt 103, rawInt 44, .ref c']) :: (c', oc') :: (nled nests ++ news), q.1 ≠ li := by
      refine List.forall_mem_cons.mpr ⟨by exact Nat.ne_of_gt (lD2 _ (.tail _ (.head _))), ?_⟩
      intro q hq
      · exact Nat.ne_of_lt (hli0 q hq)
    have lli' := hI2lt (li, W.listOf #[] 0) (.tail _ (.tail _ (.head _)))
    refine' forCore (σ := List Value × List Str × Nat) (fun c => (li, W.listOf c.1.toArray c.2.2) :: (D2, W.listOf ((nests.map fun q => Value.ref q.ad).drop kz.toNat).reverse.toArray 0) :: (f, ofn) :: (I, oI) :: (lg', W.listOf (nests.map fun q => Value.ref q.ad).toArray gk) :: (lk', W.listOf kvs.toArray kk) :: (L' + 1, oc) :: (131, W.tabObj #[rawInt 103, rawInt 44, .ref c']) :: (c', oc') :: (nled nests ++ news))
      (fun _ => [(Str.ofString "inner", .ref li), (Str.ofString "k", .int kz t6), (Str.ofString "i", .int ((word.length : Int) - 1 + (i : Int) * (-1)) tv), (Str.ofString "kept", .ref lk'), (Str.ofString "grown", .ref lg')]) (fun _ => s.gens) [Str.ofString "nest"]
      (fun j c => StrsAre c.1 c.2.1 ∧ c.2.1 = (((nests.drop kz.toNat).reverse.take j).map (·.xs)).flatten) ⟨[], [], 0⟩ Wk2 (by rfl) (by rfl) (by rfl) (by rfl) (fun b hb => List.mem_singleton.mp hb) hIo2 hI20 hI2L ?xfp2 hst2 F66 N66 ?xsub2 ?xne2 rfl ?xnames2 ?xp2 ?xps2 ?turn2 ?done2
    case xfp2 =>
      refine List.forall_mem_cons.mpr ⟨by exact .inl rfl, ?_⟩
      intro b hb
      · rw [List.mem_singleton.mp hb]
        exact .inr (.inr ⟨_, fun i c hc => .tail _ (.head _)⟩)
    case xsub2 => walk_at "SUB"
    case xne2 => exact fun p hp => Nat.ne_of_lt (hI2lt p (by
      rcases List.mem_cons.mp hp with rfl | hp
      · exact .tail _ (.tail _ (.head _))
      rcases List.mem_cons.mp hp with rfl | hp
      · exact .head _
      · exact .tail _ (.tail _ (.tail _ hp))))
    case xnames2 => walk_at "NAMES"
    case xp2 => exact ⟨.nil, rfl⟩
    case xps2 => intro i c hP q hq; revert q; simp only [List.forall_mem_cons, List.not_mem_nil, false_implies, implies_true, and_true]; decide
    case turn2 =>
      rintro j ⟨vs2, xs2, k2⟩ u2 h7 tk7 v oI2 hj hv ⟨hSt2, hxs2⟩ hne2 F7 N7
      dsimp only at *
      have hv2 : (((nests.drop kz.toNat).reverse).map fun q => Value.ref q.ad)[j]? = some v := by simpa [List.map_drop, List.map_reverse] using hv
      rw [List.getElem?_map] at hv2
      obtain ⟨q, hq, rfl⟩ := Option.map_eq_some_iff.mp hv2
      have hqm : q ∈ nests := List.mem_of_mem_drop (List.mem_reverse.mp (List.mem_of_getElem? hq))
      have hqled : (q.ad, W.listOf q.vs.toArray q.k) ∈ nled nests := List.mem_map.mpr ⟨q, hqm, rfl⟩
      have hql := strs_len (hnS q hqm).1
      have hsl := strs_len hSt2
      have hjl : xs2.length + q.xs.length ≤ 20 := by
        have e1 : xs2 ++ q.xs = (((nests.drop kz.toNat).reverse.take (j + 1)).map (·.xs)).flatten := by
          rw [List.take_add_one, hq, hxs2]; simp
        have e2 := congrArg List.length e1
        rw [List.length_append] at e2
        have e3 := flat_cut (((nests.drop kz.toNat).reverse).map (·.xs)) (j + 1)
        rw [← List.map_take] at e3
        have e4 : (((nests.drop kz.toNat).reverse).map (·.xs)).flatten.length = (((nestAt word xu i).2).drop kz.toNat).flatten.length := by
          rw [List.map_reverse, flat_rev, List.map_drop, hnx]
        have e5 := flat_cut (nestAt word xu i).2 kz.toNat
        have e6 := nestAt_len word xu i
        omega
      walk_at "STEPS"
      refine' extendL (vs := vs2) (ws := q.vs) (k := k2) (k2 := q.k) ?eF ?eN ?eb ?ez ?ene ?eU ?_
      case eF => k_asm
      case eN => k_asm
      case eb => exact .tail _ (.tail _ (.tail _ (.tail _ (.tail _ (.tail _ (.tail _ (.tail _ (.tail _ (.tail _ (List.mem_append_left _ hqled))))))))))
      case ez => omega
      case ene => intro e; rw [e] at hql; exact (hnS q hqm).2 (List.eq_nil_of_length_eq_zero hql.symm)
      case eU => exact .tail (Ne.symm (hne2 _ (.head _))) (.head hli)
      intro h8 F8 N8
      walk_at "STEPS"
      rename Fr _ _ _ _ => F9; rename News _ _ _ _ => N9
      refine' for_next ⟨vs2 ++ q.vs, xs2 ++ q.xs, k2 + 1⟩ F9 N9 ?zI ?zsub ?znames ?zkeep ?zne ⟨?zs, ?zx⟩ rfl
      case zI => k_mem
      case zsub => walk_at "SUB"
      case znames => walk_at "NAMES"
      case zkeep => walk_at "KEEP"
      case zne => exact fun p hp => (List.mem_cons.mp hp).elim (fun e => e ▸ hne2 (li, W.listOf vs2.toArray k2) (.head _)) fun hp => hne2 p (.tail _ hp)
      case zs => exact strsAre_append hSt2 (hnS q hqm).1
      case zx => dsimp only; rw [List.take_add_one, hq, hxs2]; simp
    case done2 =>
      rintro ⟨vs2, xs2, k2⟩ u2 h7 tk7 ⟨hSt2, hxs2⟩ F7 N7
      dsimp only at *
      have hkl : kvs.length ≤ 100 := by rw [hkI.length]; have := (nestAt_both word xu i).2; omega
      have hfull : xs2 = ((nestAt word xu i).2.drop kz.toNat).reverse.flatten := by
        rw [hxs2, List.take_of_length_le (by simp), List.map_reverse, List.map_drop, hnx]
      have hvl2 : vs2.length ≤ 20 := by
        rw [strs_len hSt2, hfull, flat_rev]
        have e5 := flat_cut (nestAt word xu i).2 kz.toNat
        have e6 := nestAt_len word xu i
        omega
      have hmuL : (lu, W.listOf us.toArray ku) ∈ nled nests ++ news := List.mem_append_right _ hmu
      have hix : ((word.length : Int) - 1 + (i : Int) * (-1)).toNat < xu.length := by omega
      obtain ⟨tx, htx⟩ := strs_get hS ((word.length : Int) - 1 + (i : Int) * (-1)).toNat _ (List.getElem?_eq_getElem hix)
      have hx3 := hx4 _ (List.getElem_mem hix)
      walk_at "GO"
      refine' itemL ?iN ?im ?i0 ?i9 htx ?_ (by with_unfolding_all rfl) (by intro _; with_unfolding_all rfl)
      case iN => k_asm
      case im => walk_at "INL"
      case i0 => omega
      case i9 => omega
      generalize hxi : xu[((word.length : Int) - 1 + (i : Int) * (-1)).toNat] = xi at hx3 ⊢
      walk_at "GO"
      rename_i dk hdk ldk hz8 hz9 d3 hd3 ld3 t3 k3 a3 lp hlp llp d2 hd2 ld2 lq hlq llq dn hdn ldn lb hlb llb dg hdg ldg h9 F9 N9
      have hcI : @Ne Nat c' I ∧ @Ne Nat c' 131 := by
        rcases lt52 with e | lt
        · exact ⟨hne (c', oc') (by rw [e]; exact .tail _ (.tail _ (.tail _ (List.mem_append_left _ (.tail _ (.head _)))))), hm131 _ e⟩
        · refine ⟨Nat.ne_of_gt (lt (I, oI) (.head _)), Nat.ne_of_gt (lt (131, (tabs 131 103 44 made)[0]!.2) (List.mem_append_right _ (List.mem_append_left _ ?_)))⟩
          cases made <;> exact .head _
      have hti : tailT word ((word.length : Int) - 1 - i) = Txt.slice word (some ((word.length : Int) - 1 + (i : Int) * (-1))) none := by
        unfold tailT
        rw [show (word.length : Int) - 1 - i = (word.length : Int) - 1 + (i : Int) * (-1) by omega]
      refine' for_next ⟨some (c', oc'), dk, kvs.take kz.toNat ++ [.int ((word.length : Int) - 1 + (i : Int) * (-1)) tv], 0, dg, 0, nests.take kz.toNat ++ [⟨dn, [Value.str (Str.ofString "(" ++ xi) t3] ++ vs2 ++ [Value.str (Str.ofString ")") k3], [Str.ofString "(" ++ xi] ++ xs2 ++ [Str.ofString ")"], 0⟩]⟩ F9 N9 ?yI ?ysub ?ynames ?ykeep ?yne ⟨?ym, ?y1, ?y2, ?y3, ?y4, ?yi, ?yx, ?yS⟩ rfl
      case yI => k_mem
      case ysub =>
        dsimp only
        simp only [tabs, List.cons_append, List.nil_append]
        rw [List.map_append, List.map_take]
        refine List.forall_mem_cons.mpr ⟨by exact .head _, ?_⟩
        refine List.forall_mem_cons.mpr ⟨by exact .tail _ (.tail _ (.tail _ (.tail _ (.tail _ (.tail _ (.tail _ (.head _))))))), ?_⟩
        refine List.forall_mem_cons.mpr ⟨by k_mem, ?_⟩
        refine List.forall_mem_cons.mpr ⟨by k_mem, ?_⟩
        refine List.forall_mem_cons.mpr ⟨by k_mem, ?_⟩
        intro p hp
        have hnew : (dn, W.listOf ([Value.str (Str.ofString "(" ++ xi) t3] ++ vs2 ++ [Value.str (Str.ofString ")") k3]).toArray 0) = p ∨ p ∈ nled nests ++ news := by
          rcases List.mem_append.mp hp with hp | hp
          · unfold nled at hp
            rw [List.map_append] at hp
            rcases List.mem_append.mp hp with hp | hp
            · rw [List.map_take] at hp
              exact .inr (List.mem_append_left _ (List.mem_of_mem_take hp))
            · rw [List.map_cons, List.map_nil, List.mem_singleton] at hp
              exact .inl hp.symm
          · exact .inr (List.mem_append_right _ hp)
        rcases hnew with rfl | hp
        · exact .tail _ (.tail _ (.head _))
        · repeat (first | exact hp | refine List.Mem.tail _ ?_)
      case ynames => walk_at "NAMES"
      case ykeep => walk_at "KEEP"
      case yne =>
        dsimp only
        simp only [tabs, List.cons_append, List.nil_append]
        refine List.forall_mem_cons.mpr ⟨by exact Nat.ne_of_gt (ldg (I, oI) (by k_mem)), ?_⟩
        refine List.forall_mem_cons.mpr ⟨by exact Nat.ne_of_gt (ldk (I, oI) (by k_mem)), ?_⟩
        refine List.forall_mem_cons.mpr ⟨by exact hne _ (.tail _ (.tail _ (.head _))), ?_⟩
        refine List.forall_mem_cons.mpr ⟨by exact Ne.symm n1, ?_⟩
        refine List.forall_mem_cons.mpr ⟨by exact hcI.1, ?_⟩
        intro p hp
        have hnew : p.1 = dn ∨ p ∈ nled nests ++ news := by
          rcases List.mem_append.mp hp with hp | hp
          · unfold nled at hp
            rw [List.map_append] at hp
            rcases List.mem_append.mp hp with hp | hp
            · rw [List.map_take] at hp
              exact .inr (List.mem_append_left _ (List.mem_of_mem_take hp))
            · rw [List.map_cons, List.map_nil, List.mem_singleton] at hp
              exact .inl (by rw [hp])
          · exact .inr (List.mem_append_right _ hp)
        rcases hnew with e | hp
        · rw [e]; exact Nat.ne_of_gt (ldn (I, oI) (by k_mem))
        · exact hne p (.tail _ (.tail _ (.tail _ (List.mem_append_right _ hp))))
      case ym => intro q hq; cases hq; exact ⟨fv, t5, d51, d52⟩
      case y1 => intro q hq; cases hq; exact hcI.2
      case y2 => exact Nat.ne_of_gt (ldg (131, W.tabObj #[rawInt 103, rawInt 44, .ref c']) (by k_mem))
      case y3 => exact Nat.ne_of_gt (ldk (131, W.tabObj #[rawInt 103, rawInt 44, .ref c']) (by k_mem))
      case y4 =>
        dsimp only
        intro q hq
        rcases List.mem_append.mp hq with hq | hq
        · exact hn131 q (List.mem_of_mem_take hq)
        · rw [List.mem_singleton.mp hq]
          exact Nat.ne_of_gt (ldn (131, W.tabObj #[rawInt 103, rawInt 44, .ref c']) (by k_mem))
      case yi =>
        dsimp only
        unfold nestAt nestStep
        dsimp only
        rw [hti, hkz, show (word.length : Int) - 1 + (i : Int) * (-1) = (word.length : Int) - 1 - i by omega]
        exact (ints_take hkI _).append (.cons _ _ .nil)
      case yx =>
        dsimp only
        unfold nestAt nestStep
        dsimp only
        rw [hti, hkz, List.map_append, List.map_take, hnx, hfull]
        rw [show ((word.length : Int) - 1 - i).toNat = ((word.length : Int) - 1 + (i : Int) * (-1)).toNat by omega, List.getD_eq_getElem?_getD, List.getElem?_eq_getElem hix, Option.getD_some, hxi]
        rfl
      case yS =>
        dsimp only
        intro q hq
        rcases List.mem_append.mp hq with hq | hq
        · exact hnS q (List.mem_of_mem_take hq)
        · rw [List.mem_singleton.mp hq]
          exact ⟨strsAre_append (strsAre_append (.cons _ _ .nil) hSt2) (.cons _ _ .nil), by simp⟩
  case done =>
    rintro ⟨made, lk', kvs, kk, lg', gk, nests⟩ u h tk ⟨hmade, hm131, hg131, hk131, hn131, hkI, hnx, hnS⟩ F4 N4
    dsimp only at *
    have hnl : (nests.map fun q => Value.ref q.ad).length ≤ 100 := by
      rw [List.length_map]
      have e := congrArg List.length hnx
      rw [List.length_map] at e
      have := nestAt_both word xu word.length
      omega
    walk_at "STEPS"
    refine wpAny_For ?_
    walk_at "STEPS"
    (walk_at "subscriptTail Name Slice ref ref")
    walk_at "STEPS"
    rename_i li h62 lli h63 F63 N63 D2 h65 F65 N65 lD2
    have hli0 : ∀ q ∈ (lg', W.listOf (nests.map fun q => Value.ref q.ad).toArray gk) :: (lk', W.listOf kvs.toArray kk) :: (L' + 1, oc) :: (tabs 131 103 44 made ++ (nled nests ++ news)), q.1 < li := allLt_to lli
    have hli : ∀ q ∈ (D2, W.listOf (nests.map fun q => Value.ref q.ad).reverse.toArray 0) :: (lg', W.listOf (nests.map fun q => Value.ref q.ad).toArray gk) :: (lk', W.listOf kvs.toArray kk) :: (L' + 1, oc) :: (tabs 131 103 44 made ++ (nled nests ++ news)), q.1 ≠ li := by
      refine List.forall_mem_cons.mpr ⟨by exact Nat.ne_of_gt (lD2 _ (.head _)), ?_⟩
      intro q hq
      · exact Nat.ne_of_lt (hli0 q hq)
    refine' srcList (by rfl) F65 N65 (.head _) fun I2 h66 Wk2 hIo2 hst2 F66 N66 hI2L hI20 hI2lt => ?_
    refine' forCore (σ := List Value × List Str × Nat) (fun c => (li, W.listOf c.1.toArray c.2.2) :: (D2, W.listOf (nests.map fun q => Value.ref q.ad).reverse.toArray 0) :: (lg', W.listOf (nests.map fun q => Value.ref q.ad).toArray gk) :: (lk', W.listOf kvs.toArray kk) :: (L' + 1, oc) :: (tabs 131 103 44 made ++ (nled nests ++ news)))
      (fun _ => [(Str.ofString "row", .ref li), (Str.ofString "kept", .ref lk')]) (fun _ => s.gens) [Str.ofString "nest"]
      (fun j c => StrsAre c.1 c.2.1 ∧ c.2.1 = ((nests.reverse.take j).map (·.xs)).flatten) ⟨[], [], 0⟩ Wk2 (by rfl) (by rfl) (by rfl) (by rfl) (fun b hb => List.mem_singleton.mp hb) hIo2 hI20 hI2L ?xfp2 hst2 F66 N66 ?xsub2 ?xne2 rfl ?xnames2 ?xp2 ?xps2 ?turn2 ?done2
    case xfp2 =>
      refine List.forall_mem_cons.mpr ⟨by exact .inl rfl, ?_⟩
      intro b hb
      · rw [List.mem_singleton.mp hb]
        exact .inr (.inr ⟨_, fun i c hc => .tail _ (.head _)⟩)
    case xsub2 => walk_at "SUB"
    case xne2 => exact fun p hp => Nat.ne_of_lt (hI2lt p (by
      rcases List.mem_cons.mp hp with rfl | hp
      · exact .tail _ (.head _)
      rcases List.mem_cons.mp hp with rfl | hp
      · exact .head _
      · exact .tail _ (.tail _ hp)))
    case xnames2 => walk_at "NAMES"
    case xp2 => exact ⟨.nil, rfl⟩
    case xps2 => intro i c hP q hq; revert q; simp only [List.forall_mem_cons, List.not_mem_nil, false_implies, implies_true, and_true]; decide
    case turn2 =>
      rintro j ⟨vs2, xs2, k2⟩ u2 h7 tk7 v oI2 hj hv ⟨hSt2, hxs2⟩ hne2 F7 N7
      dsimp only at *
      have hv2 : (nests.reverse.map fun q => Value.ref q.ad)[j]? = some v := by simpa [List.map_reverse] using hv
      rw [List.getElem?_map] at hv2
      obtain ⟨q, hq, rfl⟩ := Option.map_eq_some_iff.mp hv2
      have hqm : q ∈ nests := List.mem_reverse.mp (List.mem_of_getElem? hq)
      have hqled : (q.ad, W.listOf q.vs.toArray q.k) ∈ nled nests := List.mem_map.mpr ⟨q, hqm, rfl⟩
      have hql := strs_len (hnS q hqm).1
      have hsl := strs_len hSt2
      have hjl : xs2.length + q.xs.length ≤ 20 := by
        have e1 : xs2 ++ q.xs = ((nests.reverse.take (j + 1)).map (·.xs)).flatten := by
          rw [List.take_add_one, hq, hxs2]; simp
        have e2 := congrArg List.length e1
        rw [List.length_append] at e2
        have e3 := flat_cut (nests.reverse.map (·.xs)) (j + 1)
        rw [← List.map_take] at e3
        have e4 : (nests.reverse.map (·.xs)).flatten.length = (nestAt word xu word.length).2.flatten.length := by
          rw [List.map_reverse, flat_rev, hnx]
        have e6 := nestAt_len word xu word.length
        omega
      walk_at "STEPS"
      refine' extendL (vs := vs2) (ws := q.vs) (k := k2) (k2 := q.k) ?eF ?eN ?eb ?ez ?ene ?eU ?_
      case eF => k_asm
      case eN => k_asm
      case eb => exact .tail _ (.tail _ (.tail _ (.tail _ (.tail _ (.tail _ (List.mem_append_right _ (List.mem_append_left _ hqled)))))))
      case ez => omega
      case ene => intro e; rw [e] at hql; exact (hnS q hqm).2 (List.eq_nil_of_length_eq_zero hql.symm)
      case eU => exact .tail (Ne.symm (hne2 _ (.head _))) (.head hli)
      intro h8 F8 N8
      walk_at "STEPS"
      rename Fr _ _ _ _ => F9; rename News _ _ _ _ => N9
      refine' for_next ⟨vs2 ++ q.vs, xs2 ++ q.xs, k2 + 1⟩ F9 N9 ?zI ?zsub ?znames ?zkeep ?zne ⟨?zs, ?zx⟩ rfl
      case zI => k_mem
      case zsub => walk_at "SUB"
      case znames => walk_at "NAMES"
      case zkeep => walk_at "KEEP"
      case zne => exact fun p hp => (List.mem_cons.mp hp).elim (fun e => e ▸ hne2 (li, W.listOf vs2.toArray k2) (.head _)) fun hp => hne2 p (.tail _ hp)
      case zs => exact strsAre_append hSt2 (hnS q hqm).1
      case zx => dsimp only; rw [List.take_add_one, hq, hxs2]; simp
    case done2 =>
      rintro ⟨vs2, xs2, k2⟩ u2 h7 tk7 ⟨hSt2, hxs2⟩ F7 N7
      dsimp only at *
      have hfull : xs2 = (nestAt word xu word.length).2.reverse.flatten := by
        rw [hxs2, List.take_of_length_le (by simp), List.map_reverse, hnx]
      walk_at "STEPS"
      rename News _ _ _ _ => N9
      obtain ⟨ps, hps⟩ := tabs_mem 131 103 44 made
      refine' ret _ lk' li kvs vs2 kk k2 ps _ _ hkI (hfull ▸ hSt2) (by k_asm) (cb_drop N9 ?_)
      refine List.forall_mem_cons.mpr ⟨by exact .head _, ?_⟩
      refine List.forall_mem_cons.mpr ⟨by exact .tail _ (.head _), ?_⟩
      refine List.forall_mem_cons.mpr ⟨by k_mem, ?_⟩
      refine List.forall_mem_cons.mpr ⟨by exact .tail _ (.tail _ (.tail _ (.tail _ (.tail _ (.tail _ (List.mem_append_left _ hps)))))), ?_⟩
      intro p hp
      · exact .tail _ (.tail _ (.tail _ (.tail _ (.tail _ (.tail _ (List.mem_append_right _ (List.mem_append_right _ hp)))))))
end
section
open LCg (NsObj lst lst_snoc fr_but news_but ns_obj)
section
variable {prog : Program} {w : World} {A : Around} {E : Value → Shared → Prop} {s : Shared} {h₀ : Heap} {L : Addr} {m : Str → Option Value} {env : Env}
theorem newEnvCell {scope : Scope} {globals : Addr} {cl : List (Str × Addr)} {qual : Str} {x : Str} {Q : Env → Shared → Prop}
    (hc : ∀ n, cellsFrom n scope.names cl = (x, n) :: cl) (hp : ∀ h, pushCells h scope.names = h.push { cls := .type "cell", data := .cell none })
    (h : Q (newEnv scope s.heap.objs.size globals ((x, s.heap.objs.size + 1) :: cl) qual none .none (some env) builtinsNs) { s with heap := (s.heap.push { cls := .type "dict", data := .dict #[] }).push { cls := .type "cell", data := .cell none } }) :
    wpAny (model prog w) A (newFunctionEnv scope globals cl [] qual none .none (some env)) Q E s := by
  simp only [newFunctionEnv, Option.isSome_some, if_true]
  refine wpAny_bind (wpAny_alloc ?_)
  refine wpAny_bind (wpAny_layCells _ (fun name kind cells => by cases hkc : kind == NameKind.cell <;> simp [hkc]) _ _ _ _ ?_)
  rw [hp, show ({ s with heap := s.heap.push { cls := .type "dict", data := .dict #[] } } : Shared).heap.objs.size = s.heap.objs.size + 1 from Heap.size_push .., hc]
  exact wpAny_bind (by rw [List.forIn_nil]; exact wpAny_pure (wpAny_pure h))
inductive CInvC {σ : Type} (h₀ : Heap) (L : Addr) (m : Str → Option Value) (s : Shared) (I C D K : Addr) (n : Nat) (Led : σ → List (Addr × Obj)) (ys : σ → List Value) (gs : σ → Array GenState) (P : Nat → σ → Prop) (St : Nat → Heap → Prop) (k : Nat) (s' : Shared) : Prop
  | mk (h' : Heap) (tk i : Nat) (c : σ) (m' : Str → Option Value) (vK : Option Value) (e : s' = { s with heap := h', toks := tk, gens := gs c }) (hi : i ≤ n) (hk : k = n + 1 - i) (hP : P i c) (hst : St i h') (F : Fr h₀ L h' m) (hn : h'.Ns C m') (hK : h'.IsCell K vK) (N : News h₀ L h' ((D, lst (ys c)) :: Led c))
    (off : ∀ p ∈ Led c, p.1 ≠ I ∧ p.1 ≠ C ∧ p.1 ≠ D ∧ p.1 ≠ K) : CInvC h₀ L m s I C D K n Led ys gs P St k s'
/-- the block of a comprehension whose target is its own cell -/
theorem blockC {σ : Type} {elt iter : Expr} {x : Str} {px : Pos} {ifs : List Expr} {scope : Scope} {cl : List (Str × Addr)} {pos : Pos} {use : Option (Value → Sem Unit)} {Q : Value → Shared → Prop} {I : Addr} {fp : List Addr} {n : Nat} {Pv : Nat → Value → Prop} {St : Nat → Heap → Prop} {news₀ : List (Addr × Obj)}
    (Led : σ → List (Addr × Obj)) (ys : σ → List Value) (gs : σ → Array GenState) (P : Nat → σ → Prop) (c₀ : σ)
    (W : Walks prog w A I fp [I] n Pv St) (hsz : n ≤ sizeLine) (hI : ∀ i h, St i h → ∃ o, h.get? I = some o)
    (hfp : ∀ b ∈ fp, b = I ∨ (∃ o, h₀.get? b = some o) ∨ ∃ o, ∀ i c, P i c → (b, o) ∈ Led c)
    (hcell : ∀ n, cellsFrom n scope.names cl = (x, n) :: cl) (hpush : ∀ h, pushCells h scope.names = h.push { cls := .type "cell", data := .cell none })
    (hkind : scope.kind = .function) (hx : (relabel scope env).names.lookup x = some .cell)
    (hst : St 0 s.heap) (F : Fr h₀ L s.heap m) (N : News h₀ L s.heap news₀) (hn : ∀ p ∈ Led c₀, p ∈ news₀) (hnI : ∀ p ∈ Led c₀, p.1 ≠ I) (hIL : I ≠ L) (hI0 : h₀.get? I = none) (hg : s.gens = gs c₀) (hy : ys c₀ = []) (hlen : ∀ i c, P i c → (ys c).length ≤ i) (hp : P 0 c₀)
    (turn : ∀ i c v oI C oC D K oK m₂ h tk (E' : Value → Shared → Prop), i < n → Pv i v → P i c → NsObj oC m₂ → oK.data = .cell (some v) → Fr h₀ L h m → News h₀ L h ((I, oI) :: (C, oC) :: (D, lst (ys c)) :: (K, oK) :: Led c) → ((@Ne Nat I C) ∧ (@Ne Nat I D) ∧ (@Ne Nat C D) ∧ (@Ne Nat K I) ∧ (@Ne Nat K C) ∧ (@Ne Nat K D)) → (∀ p ∈ Led c, p.1 ≠ I ∧ p.1 ≠ C ∧ p.1 ≠ D ∧ p.1 ≠ K) →
      wpAny (model prog w) A (testsOf ifs (compEnvC scope ((x, K) :: cl) C env)) (fun ok s₃ => if ok = true then wpAny (model prog w) A (eval elt (compEnvC scope ((x, K) :: cl) C env)) (fun y s₄ => CTurn h₀ L m s I oI C oC D (fun c => (K, oK) :: Led c) ys gs (fun c => P (i + 1) c ∧ ∀ p ∈ Led c, p.1 ≠ K) c (some y) s₄) E' s₃
        else CTurn h₀ L m s I oI C oC D (fun c => (K, oK) :: Led c) ys gs (fun c => P (i + 1) c ∧ ∀ p ∈ Led c, p.1 ≠ K) c none s₃) E' { s with heap := h, toks := tk, gens := gs c })
    (done : ∀ c C oC D m₂ h tk, P n c → NsObj oC m₂ → Fr h₀ L h m → News h₀ L h ((C, oC) :: (D, lst (ys c)) :: Led c) → (@Ne Nat C D) → (∀ p ∈ Led c, p.1 ≠ C ∧ p.1 ≠ D) →
      compPost (model prog w) A E use Q (.ref D) C (.ok .next) { s with heap := h, toks := tk, gens := gs c }) :
    CompBlk prog w A E env elt x px ifs iter scope cl pos use Q (.ref I) s := by
  unfold CompBlk
  refine wpAny_newObj_type (newEnvCell hcell hpush ?_)
  dsimp only
  generalize hH2 : s.heap.push { cls := .type "list", dict := none, data := .seq ([] : List Value).toArray } = H2
  have hD : H2.objs.size = s.heap.objs.size + 1 := by rw [← hH2, Heap.size_push]
  generalize hH3 : H2.push { cls := .type "dict", data := .dict #[] } = H3
  have hS3 : H3.objs.size = s.heap.objs.size + 1 + 1 := by rw [← hH3, Heap.size_push, hD]
  have hS3' : H3.objs.size = H2.objs.size + 1 := by rw [← hH3, Heap.size_push]
  rw [← hS3']
  generalize hH4 : H3.push { cls := .type "cell", data := .cell none } = H4
  have hDC : s.heap.objs.size ≠ H2.objs.size := by rw [hD]; exact Nat.ne_of_lt (Nat.lt_succ_self _)
  have hDK : s.heap.objs.size ≠ H3.objs.size := by rw [hS3]; exact Nat.ne_of_lt (Nat.lt_succ_of_lt (Nat.lt_succ_self _))
  have hCK : H2.objs.size ≠ H3.objs.size := by rw [hS3']; exact Nat.ne_of_lt (Nat.lt_succ_self _)
  have below : ∀ b, b < s.heap.objs.size → b ≠ H2.objs.size ∧ b ≠ s.heap.objs.size ∧ b ≠ H3.objs.size := fun b hb => ⟨by rw [hD]; exact Nat.ne_of_lt (Nat.lt_succ_of_lt hb), Nat.ne_of_lt hb, by rw [hS3]; exact Nat.ne_of_lt (Nat.lt_succ_of_lt (Nat.lt_succ_of_lt hb))⟩
  have hIf : I ∈ fp := W.sub I (List.mem_singleton.mpr rfl)
  have hfp2 : ∀ b ∈ fp, b < s.heap.objs.size := by
    intro b hb
    rcases hfp b hb with rfl | ⟨o, ho⟩ | ⟨o, ho⟩
    · obtain ⟨o, ho⟩ := hI _ _ hst; exact Heap.lt_size ho
    · exact Heap.lt_size (F.keep _ _ ho)
    · exact Heap.lt_size (N _ (hn _ (ho 0 c₀ hp))).1
  have hDf : s.heap.objs.size ∉ fp := fun hm => (below _ (hfp2 _ hm)).2.1 rfl
  have hKf : H3.objs.size ∉ fp := fun hm => (below _ (hfp2 _ hm)).2.2 rfl
  have hIlt : I < s.heap.objs.size := hfp2 I hIf
  have up2 : ∀ b o, s.heap.get? b = some o → H2.get? b = some o := fun b o e => hH2 ▸ Heap.get?_push_of_some _ e
  have up3 : ∀ b o, H2.get? b = some o → H3.get? b = some o := fun b o e => hH3 ▸ Heap.get?_push_of_some _ e
  have up4 : ∀ b o, H3.get? b = some o → H4.get? b = some o := fun b o e => hH4 ▸ Heap.get?_push_of_some _ e
  have old : ∀ b o, s.heap.get? b = some o → H4.get? b = some o := fun b o e => up4 _ _ (up3 _ _ (up2 _ _ e))
  have hacc : H4.get? s.heap.objs.size = some (lst []) := up4 _ _ (up3 _ _ (hH2 ▸ Heap.get?_push_size _ rfl))
  have hns : H4.Ns H2.objs.size (fun _ => none) := (hH3 ▸ Heap.Ns.new H2 (.type "dict") : H3.Ns H2.objs.size (fun _ => none)).keeps up4
  have hcl : H4.IsCell H3.objs.size none := ⟨_, hH4 ▸ Heap.get?_push_size _ rfl, rfl⟩
  have hst₁ : St 0 H4 := W.frame _ _ _ hst fun b _ o e => old b o e
  have fresh : ∀ a, s.heap.objs.size ≤ a → s.heap.get? a = none := fun a ha => by
    cases e : s.heap.get? a with
    | none => rfl
    | some o' => exact absurd (Heap.lt_size e) (Nat.not_lt.mpr ha)
  have fresh₀ : ∀ a, s.heap.objs.size ≤ a → h₀.get? a = none := fun a ha => by
    cases e : h₀.get? a with
    | none => rfl
    | some o' => have := F.keep a o' e; rw [fresh a ha] at this; cases this
  have hD₀ : h₀.get? s.heap.objs.size = none := fresh₀ _ (Nat.le_refl _)
  have hC₀ : h₀.get? H2.objs.size = none := fresh₀ _ (by rw [hD]; exact Nat.le_succ _)
  have hK₀ : h₀.get? H3.objs.size = none := fresh₀ _ (by rw [hS3]; exact Nat.le_succ_of_le (Nat.le_succ _))
  have hLlt : L < s.heap.objs.size := F.ns.lt
  have hDL : s.heap.objs.size ≠ L := Ne.symm (below L hLlt).2.1
  have hCL : H2.objs.size ≠ L := Ne.symm (below L hLlt).1
  have hKL : H3.objs.size ≠ L := Ne.symm (below L hLlt).2.2
  have hCI : I ≠ H2.objs.size := (below I hIlt).1
  have hDI : I ≠ s.heap.objs.size := (below I hIlt).2.1
  have hKI : I ≠ H3.objs.size := (below I hIlt).2.2
  have off₀ : ∀ p ∈ Led c₀, p.1 ≠ I ∧ p.1 ≠ H2.objs.size ∧ p.1 ≠ s.heap.objs.size ∧ p.1 ≠ H3.objs.size := fun p hp => ⟨hnI p hp, below _ (Heap.lt_size (N p (hn p hp)).1)⟩
  have loop : ∀ s₃ : Shared, s₃ = { s with heap := H4 } →
      codeAny (model prog w) A (.compLoop (.ListComp elt [⟨.Name x px, iter, ifs, 0⟩] scope pos) 0 (.ref I) (.ref s.heap.objs.size) (compEnvC scope ((x, H3.objs.size) :: cl) H2.objs.size env))
        (compPost (model prog w) A E use Q (.ref s.heap.objs.size) H2.objs.size) s₃ := by
    rintro s₃ rfl
    refine codeAny_compLoop_tests
      (CInvC h₀ L m s I H2.objs.size s.heap.objs.size H3.objs.size n Led ys gs P St) ?_ (n + 1)
      ⟨H4, _, 0, c₀, _, _, by rw [← hg], Nat.zero_le _, rfl, hp, hst₁, F.keeps old, hns, hcl, fun p hp => ?_, off₀⟩
    · rintro k s' ⟨h', tk, i, c, m', vK, rfl, hi, rfl, hP, hst', F', hn', hK', N', off'⟩
      by_cases hlt : i < n
      · refine W.item i _ _ _ hlt hst' fun v h₂ tk₂ hPv hst₂ hk₂ => ?_
        have hK₂ : h₂.IsCell H3.objs.size vK := by
          obtain ⟨o, ho, d⟩ := hK'
          exact ⟨o, hk₂ _ o (by simpa using Ne.symm hKI) ho, d⟩
        refine wpAny_assign_Name (wpAny_storeName_cell (by simp [compEnvC, relabel, hkind]) hx (by simp [compEnvC, List.lookup]) hK₂ (fun h₃ hv₃ hs₃ => ?_))
        have hst₃ : St (i + 1) h₃ := W.frame _ _ _ hst₂ fun b hb o e => hs₃.extBut b o (fun q => hKf (by have q' : b = H3.objs.size := q; rw [← q']; exact hb)) e
        obtain ⟨oI, heI⟩ := hI _ _ hst₃
        have hn₃ : h₃.Ns H2.objs.size m' := (hn'.at' fun o e => hk₂ _ o (by simpa using Ne.symm hCI) e).sameBut hs₃ hCK
        obtain ⟨oC, heC, hoC⟩ := ns_obj hn₃
        obtain ⟨oK, heK, hoK⟩ := hv₃
        have F₃ : Fr h₀ L h₃ m := (fr_but F' hk₂ (Ne.symm hIL) hI0).change hs₃ hKL hK₀
        have N₂ : News h₀ L h₂ ((s.heap.objs.size, lst (ys c)) :: Led c) := news_but N' hk₂ fun p hp => by
          rcases List.mem_cons.mp hp with rfl | hp
          · exact Ne.symm hDI
          · exact (off' p hp).1
        have N₃ : News h₀ L h₃ ((I, oI) :: (H2.objs.size, oC) :: (s.heap.objs.size, lst (ys c)) :: (H3.objs.size, oK) :: Led c) := fun p hp => by
          rcases List.mem_cons.mp hp with rfl | hp
          · exact ⟨heI, hIL, hI0⟩
          rcases List.mem_cons.mp hp with rfl | hp
          · exact ⟨heC, hCL, hC₀⟩
          rcases List.mem_cons.mp hp with rfl | hp
          · exact ⟨hs₃.extBut _ _ hDK (N₂ _ (.head _)).1, hDL, hD₀⟩
          rcases List.mem_cons.mp hp with rfl | hp
          · exact ⟨heK, hKL, hK₀⟩
          · have z := N₂ p (.tail _ hp)
            exact ⟨hs₃.extBut _ _ (off' p hp).2.2.2 z.1, z.2⟩
        refine wpAny_mono (turn i c v oI H2.objs.size oC s.heap.objs.size H3.objs.size oK _ h₃ _ _ hlt hPv hP hoC hoK F₃ N₃ ⟨hCI, hDI, Ne.symm hDC, Ne.symm hKI, Ne.symm hCK, Ne.symm hDK⟩ off') (fun ok s₃ h₃' => ?_) fun _ _ e => e
        have stUp : ∀ (h₄ : Heap) (c' : σ) (all : List (Addr × Obj)), P (i + 1) c' → Fr h₀ L h₄ m → News h₀ L h₄ all → (I, oI) ∈ all → (∀ p ∈ Led c', p ∈ all) → St (i + 1) h₄ := by
          intro h₄ c' all hP' F₄ N₄ zI hs₄
          refine W.frame _ _ _ hst₃ fun b hb o e => ?_
          rcases hfp b hb with rfl | ⟨o', ho'⟩ | ⟨o', ho'⟩
          · have : oI = o := by rw [heI] at e; exact Option.some.inj e
            subst this
            exact (N₄ _ zI).1
          · have : o' = o := by have := F₃.keep b o' ho'; rw [e] at this; exact (Option.some.inj this).symm
            subst this
            exact F₄.keep b _ ho'
          · have : o' = o := by have := (N₃ _ (.tail _ (.tail _ (.tail _ (.tail _ (ho' i c hP)))))).1; rw [e] at this; exact (Option.some.inj this).symm
            subst this
            exact (N₄ _ (hs₄ _ (ho' _ c' hP'))).1
        cases ok with
        | false =>
          simp only [Bool.false_eq_true, if_false] at h₃' ⊢
          obtain ⟨h₄, tk₄, c', all, rfl, F₄, N₄, zI, zC, zD, hs₄, off₄, ⟨hP', hK4⟩, hy'⟩ := h₃'
          have hs₄' : ∀ p ∈ Led c', p ∈ all := fun p hp => hs₄ p (.tail _ hp)
          refine ⟨n + 1 - (i + 1), step_lt hlt, h₄, tk₄, i + 1, c', _, some v, rfl, hlt, rfl, hP', stUp _ _ _ hP' F₄ N₄ zI hs₄', F₄, hoC.ns (N₄ _ zC).1, ⟨oK, (N₄ _ (hs₄ _ (.head _))).1, hoK⟩, fun p hp => ?_, fun p hp => ⟨(off₄ p (.tail _ hp)).1, (off₄ p (.tail _ hp)).2.1, (off₄ p (.tail _ hp)).2.2, hK4 p hp⟩⟩
          rcases List.mem_cons.mp hp with rfl | hp
          · have e : ys c' = ys c := by simpa using hy'
            rw [e]; exact N₄ _ zD
          · exact N₄ _ (hs₄' _ hp)
        | true =>
          simp only [if_true] at h₃' ⊢
          refine wpAny_mono h₃' (fun y s₄ h₄' => ?_) fun _ _ e => e
          obtain ⟨h₄, tk₄, c', all, rfl, F₄, N₄, zI, zC, zD, hs₄, off₄, ⟨hP', hK4⟩, hy'⟩ := h₄'
          have hs₄' : ∀ p ∈ Led c', p ∈ all := fun p hp => hs₄ p (.tail _ hp)
          have e : ys c' = ys c ++ [y] := by simpa using hy'
          have hst₄ := stUp _ _ _ hP' F₄ N₄ zI hs₄'
          have hlen' := hlen _ _ hP
          refine append_at (hsz := by show (ys c).toArray.size ≤ sizeLine; rw [List.size_toArray]; exact Nat.le_trans hlen' (Nat.le_trans hi hsz)) (N₄ _ zD).1 fun h₅ hs₅ hD₅ => ?_
          refine ⟨n + 1 - (i + 1), step_lt hlt, h₅, tk₄, i + 1, c', _, some v, rfl, hlt, rfl, hP', W.frame _ _ _ hst₄ fun b hb o e => hs₅.extBut b o (fun q => hDf (q ▸ hb)) e, F₄.change hs₅ hDL hD₀,
            (hoC.ns (N₄ _ zC).1).sameBut hs₅ (Ne.symm hDC), ⟨oK, hs₅.extBut _ _ (Ne.symm hDK) (N₄ _ (hs₄ _ (.head _))).1, hoK⟩, fun p hp => ?_, fun p hp => ⟨(off₄ p (.tail _ hp)).1, (off₄ p (.tail _ hp)).2.1, (off₄ p (.tail _ hp)).2.2, hK4 p hp⟩⟩
          rcases List.mem_cons.mp hp with rfl | hp
          · exact ⟨hD₅.trans (congrArg some (by rw [e]; exact lst_snoc (ys c) y)), hDL, hD₀⟩
          · exact ⟨hs₅.extBut _ _ (off₄ p (.tail _ hp)).2.2 (N₄ _ (hs₄' _ hp)).1, (N₄ _ (hs₄' _ hp)).2⟩
      · obtain rfl : i = n := Nat.le_antisymm hi (Nat.not_lt.mp hlt)
        refine W.done _ _ _ hst' fun h₂ tk₂ hk₂ => ?_
        have hn₂ : h₂.Ns H2.objs.size m' := hn'.at' fun o e => hk₂ _ o (by simpa using Ne.symm hCI) e
        obtain ⟨oC, heC, hoC⟩ := ns_obj hn₂
        have N₂ : News h₀ L h₂ ((s.heap.objs.size, lst (ys c)) :: Led c) := news_but N' hk₂ fun p hp => by
          rcases List.mem_cons.mp hp with rfl | hp
          · exact Ne.symm hDI
          · exact (off' p hp).1
        exact done c _ oC _ m' h₂ tk₂ hP hoC (fr_but F' hk₂ (Ne.symm hIL) hI0) (List.forall_mem_cons.mpr ⟨⟨heC, hCL, hC₀⟩, N₂⟩) (Ne.symm hDC) fun p hp => ⟨(off' p hp).2.1, (off' p hp).2.2.1⟩
    · rcases List.mem_cons.mp hp with rfl | hp
      · exact ⟨by rw [hy]; exact hacc, hDL, hD₀⟩
      · exact ⟨old _ _ (N p (hn p hp)).1, (N p (hn p hp)).2⟩
  exact codeAny_compStart_list (loop _ rfl) (W.self 0 _ _ _ hst₁ (loop _ rfl))
end
end
section
section
variable {prog : Program} {w : World} {A : Around} {E : Value → Shared → Prop} {s : Shared} {h₀ : Heap} {L l b : Addr} {m : Str → Option Value} {news news' : List (Addr × Obj)} {value slice : Expr} {vs ws : List Value} {k k2 : Nat} {x y : Int} {t u : Tok} {Q : Value → Shared → Prop}
/-- the front of a temporary list -/
theorem sliceUptoT {ops : List Value} (F : Fr h₀ L s.heap m) (N : News h₀ L s.heap news) (hm : (l, W.listOf vs.toArray k) ∈ news) (hz : vs.length ≤ 1000000) (hy : 0 ≤ y)
    (h : ∀ D h', Fr h₀ L h' m → News h₀ L h' ((D, W.listOf (vs.take y.toNat).toArray 0) :: news) → (∀ p ∈ news, p.1 < D) → Q (.ref D) { s with heap := h' })
    (hs : subscripted slice false (.ref l) (.ref s.heap.objs.size) = operate ops (getItem (.ref l) (.ref s.heap.objs.size))) :
    wpAny (model prog w) A (subscriptTail value slice (.ref l) (.ref s.heap.objs.size)) Q E { s with heap := s.heap.push { cls := .type "slice", data := .fields #[.none, .int y u, .none] } } := by
  have hl := list_is N hm
  refine tail_any (Heap.IsList.typeIs (s := { s with heap := s.heap.push { cls := .type "slice", data := .fields #[.none, .int y u, .none] } }) (hl.push _)) list_getitem_lookup
    (wpAny_getItem_list_slice (hl.push _) (Heap.IsSliceOf.new ..) .none (.int _ _) .none (by decide) ?_ (by rw [List.size_toArray, sizeLine_eq]; omega)) hs
  have N1 := News.push (F.push { cls := .type "slice", data := .fields #[.none, .int y u, .none] }) (N.grown fun _ _ e => Heap.get?_push_of_some _ e) { cls := .type "list", data := .seq (slicePick vs.toArray none (some y) none) }
  rw [Heap.size_push] at N1
  show Q (.ref (s.heap.push _).objs.size) _
  rw [Heap.size_push]
  have e : slicePick vs.toArray none (some y) none = (vs.take y.toNat).toArray := Array.toList_inj.mp (by rw [pick_upto hy])
  rw [e] at N1
  refine h (s.heap.objs.size + 1) _ ((F.push _).push _) ?_ (fun p hp => Nat.lt_succ_of_lt (Heap.lt_size (N p hp).1))
  rw [e]
  exact N1
end
noncomputable def codesT : List Nat := [70, 73, 76, 83, 84, 383, 223, 64256, 64257, 64258, 64259, 64260, 64261, 64262]
noncomputable def meansT : List (List Nat) := [[102], [105], [108], [115], [116], [115], [115, 115], [102, 102], [102, 105], [102, 108], [102, 102, 105], [102, 102, 108], [115, 116], [115, 116]]
noncomputable def behindT : List (List Nat) := [[], [173], [8205, 8288], [65279]]
noncomputable def piecesT : List (List Nat) := [[], [34, 40, 34], [92, 41], [92, 92]]
noncomputable def idxT (c : Nat) : Int := if c = 102 then 0 else if c = 105 then 1 else if c = 108 then 2 else if c = 115 then 3 else 4
noncomputable def numT (g0 : Int) (c : Nat) : Int := g0 % 4096 + 700 * idxT c
noncomputable def strC (c : List Nat) : Str := ⟨c.toArray⟩
structure ASp where
  text : List Nat
  spel : List Nat
  oc : List Int
  due : List Int
  un : List Str
noncomputable def givenT (ns : List Int) : List Int := (ns.take 4 ++ [78, 9, 140, 218]).take 4
/-- one letter more -/
noncomputable def bStep (g0 x : Int) (st : List Int × List Int × List Str) (c : Nat) : List Int × List Int × List Str :=
  (st.1 ++ octs (numT g0 c) (x / 14 % 3), st.2.1 ++ [numT g0 c], st.2.2 ++ [strC (piecesT.getD (x / 14 / 4 % 4).toNat [])])
/-- one item more -/
noncomputable def aStep (g0 : Int) (st : ASp) (x : Int) : ASp :=
  let cs := meansT.getD (x % 14).toNat []
  let r := cs.foldl (bStep g0 x) (st.oc, st.due, st.un)
  ⟨st.text ++ [codesT.getD (x % 14).toNat 0] ++ behindT.getD (x / 14 % 4).toNat [], st.spel ++ cs, r.1, r.2.1, r.2.2⟩
noncomputable def aT (ns : List Int) : ASp := (givenT ns).foldl (aStep ((givenT ns).getD 0 0)) ⟨[], [], [], [], []⟩
noncomputable def lawK (n : Nat) : List Stmt := (fnB (st 20)).drop n
theorem getD_map {α β : Type} (f : α → β) : ∀ (l : List α) (d : α) (i : Nat), i < l.length → (l.map f)[i]? = some (f (l.getD i d))
  | l, d, i, h => by rw [List.getElem?_map, List.getD_eq_getElem?_getD, List.getElem?_eq_getElem h]; rfl
theorem getD_all {α : Type} (P : α → Bool) (l : List α) (d : α) (h : l.all P = true) (hd : P d = true) (i : Nat) : P (l.getD i d) = true := by
  rw [List.getD_eq_getElem?_getD]
  cases e : l[i]? with
  | none => exact hd
  | some x => exact List.all_eq_true.mp h x (List.mem_of_getElem? e)
theorem news_gen {h₀ h : Heap} {L a : Addr} {pre post : List (Addr × Obj)} {vs : List Value} {xs : List Str} (N : News h₀ L h (pre ++ (a, W.listOf vs.toArray 0) :: post)) (hS : StrsAre vs xs) : ∃ ws, StrsAre ws xs ∧ News h₀ L h (pre ++ (a, W.listOf ws.toArray 0) :: post) := ⟨vs, hS, N⟩
theorem ints_get : ∀ {vs : List Value} {xs : List Int}, IntsAre vs xs → ∀ (i : Nat) (x : Int), xs[i]? = some x → ∃ t, vs[i]? = some (.int x t)
  | _, _, .nil, _, _, h => by simp at h
  | _, _, .cons y t _, 0, x, h => by simp at h; subst h; exact ⟨t, rfl⟩
  | _, _, .cons _ _ r, i + 1, x, h => ints_get r i x (by simpa using h)
theorem octGo_len : ∀ (f : Nat) (n : Int) (row : List Int), row.length ≤ (octGo f n row).length ∧ (octGo f n row).length ≤ row.length + f
  | 0, n, row => by unfold octGo; omega
  | f + 1, n, row => by
    unfold octGo
    split
    · have := octGo_len f (n / 64) ((64 + n / 64 % 64) :: row)
      simp at this ⊢
      omega
    · omega
theorem octs_len (n k : Int) (h0 : 0 ≤ k) (h1 : k ≤ 2) : 1 ≤ (octs n k).length ∧ (octs n k).length ≤ 6 := by
  have := octGo_len 3 n [n % 64]
  unfold octs
  rw [List.length_append, List.length_replicate]
  simp at this
  omega
theorem bFold_len (g0 x : Int) : ∀ (cs : List Nat) (st : List Int × List Int × List Str), (cs.foldl (bStep g0 x) st).1.length ≤ st.1.length + 6 * cs.length ∧ (cs.foldl (bStep g0 x) st).2.1.length = st.2.1.length + cs.length ∧ (cs.foldl (bStep g0 x) st).2.2.length = st.2.2.length + cs.length
  | [], st => by simp
  | c :: cs, st => by
    have ih := bFold_len g0 x cs (bStep g0 x st c)
    have h0 : 0 ≤ x / 14 % 3 := Int.emod_nonneg _ (by decide)
    have h1 : x / 14 % 3 < 3 := Int.emod_lt_of_pos _ (by decide)
    have ho := octs_len (numT g0 c) (x / 14 % 3) h0 (by omega)
    have e1 : (bStep g0 x st c).1.length = st.1.length + (octs (numT g0 c) (x / 14 % 3)).length := by simp [bStep]
    have e2 : (bStep g0 x st c).2.1.length = st.2.1.length + 1 := by simp [bStep]
    have e3 : (bStep g0 x st c).2.2.length = st.2.2.length + 1 := by simp [bStep]
    rw [List.foldl_cons, List.length_cons]
    omega
theorem aFold_len (g0 : Int) : ∀ (l : List Int) (st : ASp), (l.foldl (aStep g0) st).text.length ≤ st.text.length + 3 * l.length ∧ (l.foldl (aStep g0) st).spel.length ≤ st.spel.length + 3 * l.length ∧ (l.foldl (aStep g0) st).oc.length ≤ st.oc.length + 18 * l.length ∧ (l.foldl (aStep g0) st).due.length ≤ st.due.length + 3 * l.length ∧ (l.foldl (aStep g0) st).un.length ≤ st.un.length + 3 * l.length
  | [], st => by simp
  | x :: l, st => by
    have ih := aFold_len g0 l (aStep g0 st x)
    have hm : (meansT.getD (x % 14).toNat []).length ≤ 3 := by simpa using getD_all (fun c : List Nat => decide (c.length ≤ 3)) meansT [] (by decide) (by decide) (x % 14).toNat
    have hb : (behindT.getD (x / 14 % 4).toNat []).length ≤ 2 := by simpa using getD_all (fun c : List Nat => decide (c.length ≤ 2)) behindT [] (by decide) (by decide) (x / 14 % 4).toNat
    have hf := bFold_len g0 x (meansT.getD (x % 14).toNat []) (st.oc, st.due, st.un)
    have e1 : (aStep g0 st x).text.length = st.text.length + 1 + (behindT.getD (x / 14 % 4).toNat []).length := by simp [aStep]; omega
    have e2 : (aStep g0 st x).spel.length = st.spel.length + (meansT.getD (x % 14).toNat []).length := by simp [aStep]
    rw [List.foldl_cons, List.length_cons]
    simp only [aStep] at ih e1 e2 ⊢
    dsimp only at hf
    omega
theorem strC_app (a b : List Nat) : strC a ++ strC b = strC (a ++ b) := by
  show (⟨a.toArray ++ b.toArray⟩ : Str) = ⟨(a ++ b).toArray⟩
  simp
theorem item_codes (k : Int) (h0 : 0 ≤ k) (h1 : k < 14) : Txt.item (strC codesT) k = strC [codesT.getD k.toNat 0] := by
  obtain ⟨n, rfl⟩ := Int.eq_ofNat_of_zero_le h0
  have hn : n < 14 := by omega
  have all : ∀ n : Nat, n < 14 → Txt.item (strC codesT) (n : Int) = strC [codesT.getD (n : Int).toNat 0] := by decide +kernel
  exact all n hn
theorem sign_at {mz : List Nat} {j : Nat} {v : Value} (h : SignAt (strC mz) j v) : ∃ tc c, mz[j]? = some c ∧ v = .str (strC [c]) tc := by
  obtain ⟨c, u, hc, rfl⟩ := h
  exact ⟨u, c, by simpa [strC] using hc, rfl⟩
theorem slice_clip (x : Str) (l : Option Int) (j : Int) (h : (x.length : Int) ≤ j) : Txt.slice x l (some j) = Txt.slice x l (some (x.length : Int)) := by
  have e : Builtin.Str.strSliceIndices l (some j) 1 x.length = Builtin.Str.strSliceIndices l (some (x.length : Int)) 1 x.length := by
    unfold Builtin.Str.strSliceIndices
    have h1 : ¬ j < 0 := by omega
    have h2 : ¬ ((x.length : Int) < 0) := by omega
    simp only [if_neg h1, if_neg h2, show (1 : Int) > 0 by decide, if_true]
    rw [show min j (x.length : Int) = (x.length : Int) by omega, show min (x.length : Int) (x.length : Int) = (x.length : Int) by omega]
  unfold Txt.slice
  rw [e]
theorem strC_len (c : List Nat) : (strC c).length = c.length := by simp [strC, Str.length]
theorem slice_upto (c : List Nat) (j : Nat) : Txt.slice (strC c) none (some (j : Int)) = strC (c.take j) := by
  by_cases h : j ≤ c.length
  · have := beq_iff_eq.mp (slice_closes_toL (x := strC c) (j := (j : Int)) (by omega) (by rw [strC_len]; omega))
    rw [this]
    simp [strC]
  · rw [slice_clip _ _ _ (by rw [strC_len]; omega)]
    have := beq_iff_eq.mp (slice_closes_toL (x := strC c) (j := ((strC c).length : Int)) (by omega) (by omega))
    rw [this, strC_len, List.take_of_length_le (l := c) (by omega)]
    simp [strC]
theorem slice_run (c : List Nat) (i j : Nat) (h : i ≤ j) (h1 : j ≤ c.length) : Txt.slice (strC c) (some (i : Int)) (some (j : Int)) = strC ((c.drop i).take (j - i)) := by
  have := beq_iff_eq.mp (slice_closesL (x := strC c) (i := (i : Int)) (j := (j : Int)) (by omega) (by omega) (by rw [strC_len]; omega))
  rw [this]
  simp [strC]
theorem news_ne {h₀ h : Heap} {L a b : Addr} {news : List (Addr × Obj)} {o1 o2 : Obj} {c : Option Value} (N : News h₀ L h news) (ha : (a, o1) ∈ news) (hb : (b, o2) ∈ news) (hd : o2.data = .cell c) (hs : ∀ c, o1.data ≠ .cell c) : @Ne Nat a b ∧ @Ne Nat b a := by
  have key : @Ne Nat a b := by
    intro e
    have e' : a = b := e
    subst e'
    have h1 := (N _ ha).1
    have h2 := (N _ hb).1
    have : o1 = o2 := Option.some.inj (h1.symm.trans h2)
    subst this
    exact hs _ hd
  exact ⟨key, key.symm⟩
end
section
noncomputable def innerB : List Stmt → List Stmt
  | .For _ _ b _ _ :: _ => b
  | _ => []
noncomputable def lawIn : List Stmt := innerB ((innerB (lawK 10)).drop 3)
theorem fr_tok {h₀ h : Heap} {L : Addr} {a : Str} {n : Int} {t : Tok} {f : Str → Option Value} (F : Fr h₀ L h (fun y => if y = a then some (.int n t) else f y)) : ∃ t', Fr h₀ L h (fun y => if y = a then some (.int n t') else f y) := ⟨t, F⟩
set_option maxRecDepth 100000 in
set_option maxHeartbeats 8000000 in
theorem lawB {w : World} {p : Program} {loose : List Str} {mean : ExcName → Option Value} {mg mb : Str → Option Value} (h₀ : Heap) (L fa : Addr) (cd : Value) (u : Str → Option Value) (s : Shared) (Q : Flow → Shared → Prop) (E1 : Value → Shared → Prop)
    (c : Nat) (tc tp : Tok) (x g0 : Int) (oc due : List Int) (un : List Str) (rest : List (Addr × Obj)) (I2 lo ld lu lp D2 : Addr) (oI2 : Obj) (ov dv uv pv gv : List Value) (ok dk uk : Nat) (gs : List Int)
    (F : Fr h₀ L s.heap (fun y => if y = Str.ofString "letter" then some (.str (strC [c]) tc) else kstB u [(Str.ofString "part", .int (x / 14) tp), (Str.ofString "octets", .ref lo), (Str.ofString "due", .ref ld), (Str.ofString "unseen", .ref lu), (Str.ofString "pieces", .ref lp), (Str.ofString "given", .ref D2)] y))
    (X : (heapK w.params).In h₀) (B : Below callerA h₀ [] h₀) (T : Top p loose mean mg mb h₀)
    (N : News h₀ L s.heap ((I2, oI2) :: (lu, W.listOf uv.toArray uk) :: (ld, W.listOf dv.toArray dk) :: (lo, W.listOf ov.toArray ok) :: rest))
    (hp : (lp, W.listOf pv.toArray 0) ∈ rest) (hg : (D2, W.listOf gv.toArray 0) ∈ rest) (hPS : StrsAre pv (piecesT.map strC)) (hgI : IntsAre gv gs) (hg0 : gs[0]? = some g0) (hc : c = 102 ∨ c = 105 ∨ c = 108 ∨ c = 115 ∨ c = 116)
    (hov : IntsAre ov oc) (hdv : IntsAre dv due) (huv : StrsAre uv un) (hol : oc.length ≤ 1000) (hdl : due.length ≤ 1000) (hul : un.length ≤ 1000)
    (n1 : @Ne Nat I2 lu ∧ @Ne Nat I2 ld ∧ @Ne Nat I2 lo) (n2 : @Ne Nat lu ld ∧ @Ne Nat lu lo ∧ @Ne Nat ld lo) (n3 : ∀ q ∈ rest, @Ne Nat q.1 lu ∧ @Ne Nat q.1 ld ∧ @Ne Nat q.1 lo)
    (ret : ∀ h' tk' tn ov' ok' dv' uv' news', IntsAre ov' (oc ++ octs (numT g0 c) (x / 14 % 3)) → IntsAre dv' (due ++ [numT g0 c]) → StrsAre uv' (un ++ [strC (piecesT.getD (x / 14 / 4 % 4).toNat [])]) →
      Fr h₀ L h' (fun y => if y = Str.ofString "number" then some (.int (numT g0 c) tn) else if y = Str.ofString "letter" then some (.str (strC [c]) tc) else kstB u [(Str.ofString "part", .int (x / 14) tp), (Str.ofString "octets", .ref lo), (Str.ofString "due", .ref ld), (Str.ofString "unseen", .ref lu), (Str.ofString "pieces", .ref lp), (Str.ofString "given", .ref D2)] y) →
      News h₀ L h' news' → ((I2, oI2) ∈ news' ∧ ∀ q ∈ (lu, W.listOf uv'.toArray (uk + 1)) :: (ld, W.listOf dv'.toArray (dk + 1)) :: (lo, W.listOf ov'.toArray ok') :: rest, q ∈ news') → Q .next { s with heap := h', toks := tk' }) :
    wpAny (model PySem.Challenge.pw_wf0071_01 w) (callerA.deeper (envOfC (Str.ofString "law") (fnS (st 20)) L fa cd)) (execs lawIn (envOfC (Str.ofString "law") (fnS (st 20)) L fa cd)) Q (fun e s' => wpAny (model PySem.Challenge.pw_wf0071_01 w) (callerA.deeper (envOfC (Str.ofString "law") (fnS (st 20)) L fa cd)) (leaving (envOfC (Str.ofString "law") (fnS (st 20)) L fa cd) e) (fun x s'' => E1 e s'') (fun e' s'' => E1 e' s'') s') s := by
  conv in lawIn => whnf
  conv in (occs := *) (fnS _) => all_goals whnf
  obtain ⟨tg, htg⟩ := ints_get hgI 0 _ hg0
  have hgL : (D2, W.listOf gv.toArray 0) ∈ (I2, oI2) :: (lu, W.listOf uv.toArray uk) :: (ld, W.listOf dv.toArray dk) :: (lo, W.listOf ov.toArray ok) :: rest := .tail _ (.tail _ (.tail _ (.tail _ hg)))
  walk_at "STEPS"
  refine' itemL ?iN hgL (by decide) (by decide) htg ?_ (by with_unfolding_all rfl) (by intro _; with_unfolding_all rfl)
  case iN => k_asm
  have hidx : 0 ≤ idxT c ∧ idxT c ≤ 4 := by rcases hc with rfl | rfl | rfl | rfl | rfl <;> decide
  have hfind : Txt.find (Str.ofString "filst") (strC [c]) = idxT c := by rcases hc with rfl | rfl | rfl | rfl | rfl <;> decide +kernel
  have hfm : g0.fmod 4096 = g0 % 4096 := Int.fmod_eq_emod_of_nonneg _ (by decide)
  have hm0 : 0 ≤ g0 % 4096 := Int.emod_nonneg _ (by decide)
  have hm1 : g0 % 4096 < 4096 := Int.emod_lt_of_pos _ (by decide)
  have hnum : g0.fmod 4096 + 700 * Txt.find (Str.ofString "filst") (strC [c]) = numT g0 c := by rw [hfind, hfm]; rfl
  have hn0 : 0 ≤ numT g0 c := by unfold numT; omega
  have hn1 : numT g0 c < 10000 := by unfold numT; omega
  have hf3 : (x / 14).fmod 3 = x / 14 % 3 := Int.fmod_eq_emod_of_nonneg _ (by decide)
  have h30 : 0 ≤ x / 14 % 3 := Int.emod_nonneg _ (by decide)
  have h31 : x / 14 % 3 < 3 := Int.emod_lt_of_pos _ (by decide)
  walk_at "STEPS"
  all_goals try (exfalso; (rename Txt.find _ _ = -1 => hneg); rw [hfind] at hneg; omega)
  rename Fr _ _ _ _ => F5
  rename News _ _ _ _ => N5
  rw [hnum] at F5
  obtain ⟨tn, F5⟩ := fr_tok F5
  rw [hnum, hf3]
  refine' octets _ _ _ _ _ _ _ _ _ _ _ _ _ _ _ _ _ _ _ _ _ _ ?B ?F ?X ?N ?T ?hk hn0 hn1 h30 (by omega) ?hd ?hu fun r rv h6 tk6 hrI F6 N6 lr => ?_
  case B => k_asm
  case F => k_asm
  case X => k_asm
  case N => k_asm
  case T => k_asm
  case hk => rfl
  case hd => decide
  case hu => decide
  walk_at "STEPS"
  have hrl := hrI.length
  have hol2 := octs_len (numT g0 c) (x / 14 % 3) h30 (by omega)
  have hovl := hov.length
  have hdvl := hdv.length
  have huvl := strs_len huv
  have hr : @Ne Nat r lo ∧ @Ne Nat r ld ∧ @Ne Nat r lu := ⟨Nat.ne_of_gt (lr (lo, W.listOf ov.toArray ok) (by k_mem)), Nat.ne_of_gt (lr (ld, W.listOf dv.toArray dk) (by k_mem)), Nat.ne_of_gt (lr (lu, W.listOf uv.toArray uk) (by k_mem))⟩
  refine' extendL (vs := ov) (ws := rv) (k := ok) (k2 := 0) ?eF ?eN ?eb ?ez ?ene ?eU ?_
  case eF => k_asm
  case eN => k_asm
  case eb => exact .head _
  case ez => omega
  case ene => intro e; rw [e] at hrl; simp at hrl; omega
  case eU => exact .tail hr.1 (.tail n1.2.2 (.tail n2.2.1 (.tail n2.2.2 (.head fun q hq => (n3 q hq).2.2))))
  intro h8 F8 N8
  walk_at "STEPS"
  refine' appendAny (vs := dv) (k := dk) ?aF ?aN ?aU (by omega) fun h9 F9 N9 => ?_
  case aF => k_asm
  case aN => k_asm
  case aU => exact .tail hr.2.1 (.tail n1.2.1 (.tail n2.1 (.head fun q hq => (List.mem_cons.mp hq).elim (fun e => e ▸ Ne.symm n2.2.2) fun hq => (n3 q hq).2.1)))
  have hq0 : 0 ≤ x / 14 / 4 % 4 := Int.emod_nonneg _ (by decide)
  have hq1 : x / 14 / 4 % 4 < 4 := Int.emod_lt_of_pos _ (by decide)
  have hfq : ((x / 14).fdiv 4).fmod 4 = x / 14 / 4 % 4 := by rw [Int.fdiv_eq_ediv_of_nonneg _ (by decide), Int.fmod_eq_emod_of_nonneg _ (by decide)]
  obtain ⟨tb, htb⟩ := strs_get hPS (x / 14 / 4 % 4).toNat (strC (piecesT.getD (x / 14 / 4 % 4).toNat [])) (getD_map strC piecesT [] _ (by simp [piecesT]; omega))
  walk_at "STEPS"
  rw [hfq]
  have hpL : (lp, W.listOf pv.toArray 0) ∈ (lo, W.listOf (ov ++ rv).toArray (ok + 1)) :: rest := .tail _ hp
  refine' itemL ?iN (.tail _ (.tail _ (.tail _ (.tail _ hpL)))) hq0 (by omega) htb ?_ (by with_unfolding_all rfl) (by intro _; with_unfolding_all rfl)
  case iN => k_asm
  walk_at "STEPS"
  refine' appendAny (vs := uv) (k := uk) ?bF ?bN ?bU (by omega) fun h10 F10 N10 => ?_
  case bF => k_asm
  case bN => k_asm
  case bU => exact .tail hr.2.2 (.tail n1.1 (.head fun q hq => (List.mem_cons.mp hq).elim (fun e => e ▸ Ne.symm n2.1) fun hq => (List.mem_cons.mp hq).elim (fun e => e ▸ Ne.symm n2.2.1) fun hq => (n3 q hq).1))
  walk_at "STEPS"
  rename Fr _ _ _ _ => F11
  rename News _ _ _ _ => N11
  refine ret _ _ tn (ov ++ rv) (ok + 1) (dv ++ [.int (numT g0 c) tn]) (uv ++ [.str (strC (piecesT.getD (x / 14 / 4 % 4).toNat [])) tb]) _ (hov.append hrI) (hdv.append (.cons _ _ .nil)) (strsAre_append huv (.cons _ _ .nil)) F11 N11 ⟨?_, ?_⟩
  · k_mem
  · walk_at "SUB"
end
section
local macro_rules | `(tactic| walk_at "STEPA") => `(tactic| repeat' (first
  | (k_unfold; (try dsimp only))
  | ((fail_if_success (with_reducible show wpAny _ _ (exec (PySem.Stmt.While _ _ _ _) _) _ _ _));
     (fail_if_success (with_reducible show wpAny _ _ (execs (PySem.Stmt.Assign _ _ _ :: _) _) _ _ _));
     (fail_if_success (with_reducible show wpAny _ _ (exec (PySem.Stmt.For _ _ _ _ _) _) _ _ _));
     (fail_if_success (with_reducible show wpAny _ _ (call (Value.ref _) _ _) _ _ _));
     (fail_if_success (with_reducible show wpAny _ _ (call (Value.builtin "iter") _ _) _ _ _));
     (fail_if_success (with_reducible show wpAny _ _ (call (Value.builtin "next") _ _) _ _ _));
     (fail_if_success (with_reducible show wpAny _ _ (call (Value.builtin "str.join") _ _) _ _ _));
     (fail_if_success (with_reducible show wpAny _ _ (subscriptTail _ _ (Value.ref _) (Value.ref _)) _ _ _));
     (fail_if_success (with_reducible show wpAny _ _ (pyIter _) _ _ _));
     (fail_if_success (with_reducible show wpAny _ _ (eval (PySem.Expr.ListComp _ _ _ _) _) _ _ _));
     (first | walk1 | (dsimp only; walk1) | (leave1; walk_say "STEP leave1"; try dsimp only)))
  | fail "no step"))
theorem gen_toks {α : Type} {M : Model} {A : Around} {m : Sem α} {Q : α → Shared → Prop} {E : Value → Shared → Prop} {hp : Heap} {g : Array GenState} {d : _} {t : Nat} {o : OsState} (h : ∀ tk : Nat, wpAny M A m Q E { heap := hp, gens := g, drawn := d, toks := tk, os := o }) : wpAny M A m Q E { heap := hp, gens := g, drawn := d, toks := t, os := o } := h t
local macro_rules | `(tactic| walk_at "TOK") => `(tactic| ((try dsimp only); (with_reducible refine gen_toks ?_); intro tk))
structure ASt where
  tt : Tok
  ts : Tok
  ov : List Value
  ok : Nat
  dv : List Value
  dk : Nat
  uv : List Value
  uk : Nat
  sp : ASp
structure BSt2 where
  ov : List Value
  ok : Nat
  dv : List Value
  dk : Nat
  uv : List Value
  uk : Nat
  r : List Int × List Int × List Str
structure AInv (ns : List Int) (i : Nat) (c : ASt) : Prop where
  hsp : c.sp = ((givenT ns).take i).foldl (aStep ((givenT ns).getD 0 0)) ⟨[], [], [], [], []⟩
  hov : IntsAre c.ov c.sp.oc
  hdv : IntsAre c.dv c.sp.due
  huv : StrsAre c.uv c.sp.un
structure BInv (g0 x : Int) (st : List Int × List Int × List Str) (mz : List Nat) (j : Nat) (c : BSt2) : Prop where
  hr : c.r = (mz.take j).foldl (bStep g0 x) st
  hov : IntsAre c.ov c.r.1
  hdv : IntsAre c.dv c.r.2.1
  huv : StrsAre c.uv c.r.2.2
set_option maxRecDepth 100000 in
set_option maxHeartbeats 8000000 in
theorem lawA {w : World} {p : Program} {loose : List Str} {mean : ExcName → Option Value} {mg mb : Str → Option Value} (h₀ : Heap) (L fa : Addr) (cd : Value) (u : Str → Option Value) (s : Shared) (Q : Flow → Shared → Prop) (E1 : Value → Shared → Prop) (l : Addr) (vs : List Value) (ns : List Int) (news : List (Addr × Obj))
    (F : Fr h₀ L s.heap (kstB u [(Str.ofString "script", .ref l)])) (X : (heapK w.params).In h₀) (B : Below callerA h₀ [] h₀) (T : Top p loose mean mg mb h₀) (N : News h₀ L s.heap news) (hl : h₀.IsList l vs.toArray) (hI : IntsAre vs ns) (hn : ns.length ≤ 63)
    (k : ∀ u' h' tk' tt ts lo ld lu ov dv uv ok dk uk, IntsAre ov (aT ns).oc → IntsAre dv (aT ns).due → StrsAre uv (aT ns).un → Fr h₀ L h' (kstB u' [(Str.ofString "text", .str (strC (aT ns).text) tt), (Str.ofString "spelled", .str (strC (aT ns).spel) ts), (Str.ofString "octets", .ref lo), (Str.ofString "due", .ref ld), (Str.ofString "unseen", .ref lu)]) →
      News h₀ L h' ((lu, W.listOf uv.toArray uk) :: (ld, W.listOf dv.toArray dk) :: (lo, W.listOf ov.toArray ok) :: news) → (∀ q ∈ news, q.1 < lo ∧ q.1 < ld ∧ q.1 < lu) → (@LT.lt Nat _ lo ld ∧ @LT.lt Nat _ ld lu) →
      wpAny (model PySem.Challenge.pw_wf0071_01 w) (callerA.deeper (envOfC (Str.ofString "law") (fnS (st 20)) L fa cd)) (execs (lawK 11) (envOfC (Str.ofString "law") (fnS (st 20)) L fa cd)) Q (fun e s' => wpAny (model PySem.Challenge.pw_wf0071_01 w) (callerA.deeper (envOfC (Str.ofString "law") (fnS (st 20)) L fa cd)) (leaving (envOfC (Str.ofString "law") (fnS (st 20)) L fa cd) e) (fun x s'' => E1 e s'') (fun e' s'' => E1 e' s'') s') { s with heap := h', toks := tk' }) :
    wpAny (model PySem.Challenge.pw_wf0071_01 w) (callerA.deeper (envOfC (Str.ofString "law") (fnS (st 20)) L fa cd)) (execs (lawK 0) (envOfC (Str.ofString "law") (fnS (st 20)) L fa cd)) Q (fun e s' => wpAny (model PySem.Challenge.pw_wf0071_01 w) (callerA.deeper (envOfC (Str.ofString "law") (fnS (st 20)) L fa cd)) (leaving (envOfC (Str.ofString "law") (fnS (st 20)) L fa cd) e) (fun x s'' => E1 e s'') (fun e' s'' => E1 e' s'') s') s := by
  have hvn := hI.length
  conv in (lawK _) => whnf
  conv in (occs := *) (fnS _) => all_goals whnf
  refine wpAny_execs_cons ?_
  walk_at "STEPA"
  refine' kmk_slice_lit (zs := vs.take 4) ?F1 ?N1 ?l1 .none (.int _ _) ?e1 ?_ ?s1 ?t1 ?z1
  case F1 => k_asm
  case N1 => k_asm
  case l1 => obtain ⟨o, ho, r⟩ := hl; exact ⟨o, Fr.keep (by k_asm) _ _ ho, r⟩
  case e1 => exact pick_upto (by decide)
  case s1 => with_unfolding_all rfl
  case t1 => walk_at "PURE"
  case z1 => rw [List.size_toArray, sizeLine_eq]; omega
  intro D1 h1 F1 N1 lD1
  have hv4 : (vs.take 4).length ≤ 4 := by rw [List.length_take]; omega
  walk_at "STEPA"
  rename_i lb hlb llb Dc hDc lDc
  refine' sliceUptoT ?F2 ?N2 ?m2 ?z2 ?y2 ?_ ?s2
  case F2 => k_asm
  case N2 => k_asm
  case m2 => exact .head _
  case z2 => walk_at "SZ"
  case y2 => decide
  case s2 => with_unfolding_all rfl
  intro D2 h2 F2 N2 lD2
  dsimp only
  walk_at "STEPA"
  rename News _ _ _ _ => N3
  rename Fr _ _ _ _ => F3
  obtain ⟨gv, hgv, hgI, hgl⟩ : ∃ gv : List Value, gv = List.take (Int.toNat 4) (List.take 4 vs ++ [Value.int 78 (s.toks + 1), Value.int 9 (s.toks + 1 + 1), Value.int 140 (s.toks + 1 + 1 + 1), Value.int 218 (s.toks + 1 + 1 + 1 + 1)]) ∧ IntsAre gv (givenT ns) ∧ gv.length = 4 := by
    refine ⟨_, rfl, ?_, ?_⟩
    · exact ints_take ((ints_take hI 4).append (.cons _ _ (.cons _ _ (.cons _ _ (.cons _ _ .nil))))) 4
    · rw [List.length_take, List.length_append, show Int.toNat 4 = 4 from rfl]; simp
  rw [← hgv] at N3
  have N4 : News h₀ L _ ((D2, W.listOf gv.toArray 0) :: news) := cb_drop N3 (by walk_at "SUB")
  clear N3 hgv lD2 lDc llb lD1
  walk_at "TOK"
  refine wpAny_execs_cons ?_
  walk_at "STEPA"
  walk_at "TOK"
  refine wpAny_execs_cons ?_
  walk_at "STEPA"
  walk_at "TOK"
  rename News _ _ _ _ => N5
  obtain ⟨mv, hMS, N6⟩ := news_gen (pre := []) (xs := meansT.map strC) N5 (by
    rw [show meansT.map strC = [Str.ofString "f", Str.ofString "i", Str.ofString "l", Str.ofString "s", Str.ofString "t", Str.ofString "s", Str.ofString "ss", Str.ofString "ff", Str.ofString "fi", Str.ofString "fl", Str.ofString "ffi", Str.ofString "ffl", Str.ofString "st", Str.ofString "st"] by decide +kernel]
    exact .cons _ _ (.cons _ _ (.cons _ _ (.cons _ _ (.cons _ _ (.cons _ _ (.cons _ _ (.cons _ _ (.cons _ _ (.cons _ _ (.cons _ _ (.cons _ _ (.cons _ _ (.cons _ _ (.nil)))))))))))))))
  simp only [List.nil_append] at N6
  clear N5
  refine wpAny_execs_cons ?_
  walk_at "STEPA"
  walk_at "TOK"
  rename News _ _ _ _ => N7
  obtain ⟨bv, hBS, N8⟩ := news_gen (pre := []) (xs := behindT.map strC) N7 (by
    rw [show behindT.map strC = [Str.ofString "", Str.ofString "\u00ad", Str.ofString "\u200d\u2060", Str.ofString "\ufeff"] by decide +kernel]
    exact .cons _ _ (.cons _ _ (.cons _ _ (.cons _ _ (.nil)))))
  simp only [List.nil_append] at N8
  clear N7
  refine wpAny_execs_cons ?_
  walk_at "STEPA"
  walk_at "TOK"
  rename News _ _ _ _ => N9
  obtain ⟨pv, hPS, N10⟩ := news_gen (pre := []) (xs := piecesT.map strC) N9 (by
    rw [show piecesT.map strC = [Str.ofString "", Str.ofString "\"(\"", Str.ofString "\\)", Str.ofString "\\\\"] by decide +kernel]
    exact .cons _ _ (.cons _ _ (.cons _ _ (.cons _ _ (.nil)))))
  simp only [List.nil_append] at N10
  clear N9
  refine wpAny_execs_cons ?_
  walk_at "STEPA"
  walk_at "TOK"
  refine wpAny_execs_cons ?_
  walk_at "STEPA"
  walk_at "TOK"
  refine wpAny_execs_cons ?_
  walk_at "STEPA"
  walk_at "TOK"
  refine wpAny_execs_cons ?_
  walk_at "STEPA"
  walk_at "TOK"
  walk_at "STEPS"
  refine wpAny_For ?_
  walk_at "STEPS"
  rename News _ _ _ _ => N9
  rename Fr _ _ _ _ => F9
  rename_i lm y1 llm y2 y3 lbe y4 llbe y5 y6 lp y7 llp y8 y9 y10 y11 y12 y13 lo y14 llo y15 y16 ld y17 lld y18 y19 lu y20 llu y21
  have hpl := strs_len hPS
  have hbl := strs_len hBS
  have hml := strs_len hMS
  rw [show (piecesT.map strC).length = 4 from rfl] at hpl
  rw [show (behindT.map strC).length = 4 from rfl] at hbl
  rw [show (meansT.map strC).length = 14 from rfl] at hml
  have hsg : Str.ofString "FILST\u017f\u00df\ufb00\ufb01\ufb02\ufb03\ufb04\ufb05\ufb06" = strC codesT := by decide +kernel
  have he0 : Str.ofString "" = strC [] := by decide +kernel
  rw [hsg, he0] at F9
  have hlu : ld < lu ∧ lo < lu ∧ True := ⟨llu.1, llu.2.1, trivial⟩
  have hld : lo < ld ∧ True := ⟨lld.1, trivial⟩
  have hlow : ∀ q ∈ (lp, W.listOf pv.toArray 0) :: (lbe, W.listOf bv.toArray 0) :: (lm, W.listOf mv.toArray 0) :: (D2, W.listOf gv.toArray 0) :: news, q.1 < lo := by
    refine List.forall_mem_cons.mpr ⟨by exact llo.1, ?_⟩
    refine List.forall_mem_cons.mpr ⟨by exact llo.2.1, ?_⟩
    refine List.forall_mem_cons.mpr ⟨by exact llo.2.2.1, ?_⟩
    refine List.forall_mem_cons.mpr ⟨by exact llo.2.2.2.1, ?_⟩
    intro q hq
    · exact allLt_to llo.2.2.2.2 q hq
  refine' srcList (by rfl) F9 N9 ?gm fun I hI1 Wk hIo hst F10 N10 hIL hI0 hIlt => ?_
  case gm => k_mem
  refine' forCore (σ := ASt) (fun c => (lu, W.listOf c.uv.toArray c.uk) :: (ld, W.listOf c.dv.toArray c.dk) :: (lo, W.listOf c.ov.toArray c.ok) :: (lp, W.listOf pv.toArray 0) :: (lbe, W.listOf bv.toArray 0) :: (lm, W.listOf mv.toArray 0) :: (D2, W.listOf gv.toArray 0) :: news)
    (fun c => [(Str.ofString "text", .str (strC c.sp.text) c.tt), (Str.ofString "spelled", .str (strC c.sp.spel) c.ts), (Str.ofString "octets", .ref lo), (Str.ofString "due", .ref ld), (Str.ofString "unseen", .ref lu), (Str.ofString "pieces", .ref lp), (Str.ofString "behind", .ref lbe), (Str.ofString "means", .ref lm), (Str.ofString "signs", .str (strC codesT) _), (Str.ofString "given", .ref D2)])
    (fun _ => s.gens) [Str.ofString "x", Str.ofString "part", Str.ofString "letter", Str.ofString "number"]
    (AInv ns) ⟨_, _, [], 0, [], 0, [], 0, ⟨[], [], [], [], []⟩⟩ Wk (by rfl) (by rfl) (by rfl) (by rfl) (fun b hb => List.mem_singleton.mp hb) hIo hI0 hIL ?xfp hst F10 N10 ?xsub ?xne rfl ?xnames ?xp ?xps ?turn ?done
  case xfp =>
    refine List.forall_mem_cons.mpr ⟨by exact .inl rfl, ?_⟩
    intro b hb
    · rw [List.mem_singleton.mp hb]
      exact .inr (.inr ⟨_, fun i c hc => .tail _ (.tail _ (.tail _ (.tail _ (.tail _ (.tail _ (.head _))))))⟩)
  case xsub => walk_at "SUB"
  case xne => exact fun p hp => Nat.ne_of_lt (hIlt p (by revert hp; revert p; walk_at "SUB"))
  case xnames => walk_at "NAMES"
  case xp => exact ⟨rfl, .nil, .nil, .nil⟩
  case xps => intro i c hP q hq; revert q; simp only [List.forall_mem_cons, List.not_mem_nil, false_implies, implies_true, and_true]; decide
  case turn =>
    rintro i ⟨tt, ts, ov, ok, dv, dk, uv, uk, sp⟩ u2 h7 tk7 v oI hi hv ⟨hsp, hov, hdv, huv⟩ hne F7 N7
    dsimp only at *
    have hi4 : i < (givenT ns).length := by rw [← hgI.length]; simpa using hi
    obtain ⟨tx, htx⟩ := ints_get hgI i _ (List.getElem?_eq_getElem hi4)
    have hvx : v = .int (givenT ns)[i] tx := by
      have : gv[i]? = some v := by simpa using hv
      rw [htx] at this; exact (Option.some.inj this).symm
    subst hvx
    generalize hxe : (givenT ns)[i] = x at F7
    have hd0 : 0 ≤ x % 14 := Int.emod_nonneg _ (by decide)
    have hd1 : x % 14 < 14 := Int.emod_lt_of_pos _ (by decide)
    have hfm : x.fmod 14 = x % 14 := Int.fmod_eq_emod_of_nonneg x (by decide)
    have hfd : x.fdiv 14 = x / 14 := Int.fdiv_eq_ediv_of_nonneg x (by decide)
    have hlen := aFold_len ((givenT ns).getD 0 0) ((givenT ns).take i) ⟨[], [], [], [], []⟩
    rw [← hsp] at hlen
    have hti : ((givenT ns).take i).length ≤ 3 := by rw [List.length_take]; have := hgI.length; omega
    simp only [List.length_nil, Nat.zero_add] at hlen
    have htl : (strC sp.text).length ≤ 12 := by show sp.text.length ≤ 12; omega
    have hsl : (strC sp.spel).length ≤ 12 := by show sp.spel.length ≤ 12; omega
    have hit : Txt.item (strC codesT) (x % 14) = strC [codesT.getD (x % 14).toNat 0] := item_codes _ hd0 hd1
    have hil : (strC [codesT.getD (x % 14).toNat 0]).length = 1 := rfl
    refine wpAny_execs_cons ?_
    walk_at "STEPA"
    walk_at "TOK"
    refine wpAny_execs_cons ?_
    walk_at "STEPA"
    rw [hfm, hit]
    walk_at "STEPA"
    have hq0 : 0 ≤ x / 14 % 4 := Int.emod_nonneg _ (by decide)
    have hq1 : x / 14 % 4 < 4 := Int.emod_lt_of_pos _ (by decide)
    have hfq : (x / 14).fmod 4 = x / 14 % 4 := Int.fmod_eq_emod_of_nonneg _ (by decide)
    obtain ⟨tb, htb⟩ := strs_get hBS (x / 14 % 4).toNat (strC (behindT.getD (x / 14 % 4).toNat [])) (getD_map strC behindT [] _ (by simp [behindT]; omega))
    have hbl2 : (strC (behindT.getD (x / 14 % 4).toNat [])).length ≤ 2 := by
      have := getD_all (fun c : List Nat => decide (c.length ≤ 2)) behindT [] (by decide) (by decide) (x / 14 % 4).toNat
      simpa [strC, Str.length] using this
    obtain ⟨tm, htm⟩ := strs_get hMS (x % 14).toNat (strC (meansT.getD (x % 14).toNat [])) (getD_map strC meansT [] _ (by simp [meansT]; omega))
    have hml2 : (strC (meansT.getD (x % 14).toNat [])).length ≤ 3 := by
      have := getD_all (fun c : List Nat => decide (c.length ≤ 3)) meansT [] (by decide) (by decide) (x % 14).toNat
      simpa [strC, Str.length] using this
    rw [hfd, hfq]
    refine' itemL ?iN ?im hq0 (by omega) htb ?_ (by with_unfolding_all rfl) (by intro _; with_unfolding_all rfl)
    case iN => k_asm
    case im => walk_at "INL"
    generalize hbz : behindT.getD (x / 14 % 4).toNat [] = bz at hbl2
    walk_at "STEPA"
    walk_at "TOK"
    refine wpAny_execs_cons ?_
    walk_at "STEPA"
    try rw [hfm]
    refine' itemL ?iN2 ?im2 hd0 (by omega) htm ?_ (by with_unfolding_all rfl) (by intro _; with_unfolding_all rfl)
    case iN2 => k_asm
    case im2 => walk_at "INL"
    generalize hmz : meansT.getD (x % 14).toNat [] = mz at hml2 htm
    walk_at "STEPS"
    refine wpAny_For ?_
    walk_at "STEPS"
    try rw [hfm]
    refine' itemL ?iN3 ?im3 hd0 (by omega) htm ?_ (by with_unfolding_all rfl) (by intro _; with_unfolding_all rfl)
    case iN3 => k_asm
    case im3 => walk_at "INL"
    walk_at "STEPS"
    rename Fr _ _ _ _ => F20
    rename News _ _ _ _ => N20
    have hmzc : ∀ z ∈ mz, z = 102 ∨ z = 105 ∨ z = 108 ∨ z = 115 ∨ z = 116 := by
      intro z hz
      have := getD_all (fun c : List Nat => c.all fun z => decide (z = 102 ∨ z = 105 ∨ z = 108 ∨ z = 115 ∨ z = 116)) meansT [] (by decide) (by decide) (x % 14).toNat
      rw [hmz] at this
      simpa using List.all_eq_true.mp this z hz
    rw [hfd] at F20
    rename_i tkA hA2 tB2 kB2 aB2 tC2 kC2 aC2 hD2
    refine' srcStr (by rfl) F20 N20 fun I2 St2 h21 Wk2 hIo2 hst2 F21 N21 hI2L hI20 hI2lt => ?_
    refine' forCore (σ := BSt2) (fun c => (lu, W.listOf c.uv.toArray c.uk) :: (ld, W.listOf c.dv.toArray c.dk) :: (lo, W.listOf c.ov.toArray c.ok) :: (I, oI) :: (lp, W.listOf pv.toArray 0) :: (lbe, W.listOf bv.toArray 0) :: (lm, W.listOf mv.toArray 0) :: (D2, W.listOf gv.toArray 0) :: news)
      (fun _ => [(Str.ofString "part", .int (x / 14) _), (Str.ofString "octets", .ref lo), (Str.ofString "due", .ref ld), (Str.ofString "unseen", .ref lu), (Str.ofString "pieces", .ref lp), (Str.ofString "given", .ref D2), (Str.ofString "text", .str (strC sp.text ++ strC [codesT.getD (x % 14).toNat 0] ++ strC bz) _), (Str.ofString "spelled", .str (strC sp.spel ++ strC mz) _), (Str.ofString "behind", .ref lbe), (Str.ofString "means", .ref lm), (Str.ofString "signs", .str (strC codesT) _)])
      (fun _ => s.gens) [Str.ofString "letter", Str.ofString "number"]
      (BInv ((givenT ns).getD 0 0) x (sp.oc, sp.due, sp.un) mz) ⟨ov, ok, dv, dk, uv, uk, (sp.oc, sp.due, sp.un)⟩ Wk2 (by rfl) (by rfl) (by rfl) (by rfl) (fun b hb => List.mem_singleton.mp hb) hIo2 hI20 hI2L ?xfp2 hst2 F21 N21 ?xsub2 ?xne2 rfl ?xnames2 ?xp2 ?xps2 ?turn2 ?done2
    case xfp2 => exact fun b hb => .inl (List.mem_singleton.mp hb)
    case xsub2 => walk_at "SUB"
    case xne2 => exact fun p hp => Nat.ne_of_lt (hI2lt p (by revert hp; revert p; walk_at "SUB"))
    case xnames2 => walk_at "NAMES"
    case xp2 => exact ⟨rfl, hov, hdv, huv⟩
    case xps2 => intro i c hP q hq; revert q; simp only [List.forall_mem_cons, List.not_mem_nil, false_implies, implies_true, and_true]; decide
    case turn2 =>
      rintro j ⟨ov2, ok2, dv2, dk2, uv2, uk2, r2⟩ u3 h8 tk8 v oI2 hj hv ⟨hr2, hov2, hdv2, huv2⟩ hne2 F8 N8
      dsimp only at *
      obtain ⟨tc, c, hcz, hvc⟩ := sign_at hv
      subst hvc
      have hcm : c ∈ mz := List.mem_of_getElem? hcz
      have hbf := bFold_len ((givenT ns).getD 0 0) x (mz.take j) (sp.oc, sp.due, sp.un)
      rw [← hr2] at hbf
      have hmj : (mz.take j).length ≤ 3 := by rw [List.length_take]; have : mz.length ≤ 3 := hml2; omega
      have hg0 : (givenT ns)[0]? = some ((givenT ns).getD 0 0) := by rw [List.getD_eq_getElem?_getD, List.getElem?_eq_getElem (by omega)]; rfl
      refine' lawB h₀ L fa cd _ _ _ E1 c tc _ x ((givenT ns).getD 0 0) r2.1 r2.2.1 r2.2.2 _ I2 lo ld lu lp D2 oI2 ov2 dv2 uv2 pv gv ok2 dk2 uk2 (givenT ns) F8 X B T N8 (.tail _ (.head _)) (.tail _ (.tail _ (.tail _ (.tail _ (.head _))))) hPS hgI hg0 (hmzc c hcm) hov2 hdv2 huv2 (by dsimp only at hbf; omega) (by dsimp only at hbf; omega) (by dsimp only at hbf; omega)
        ⟨Ne.symm (Nat.ne_of_lt (hI2lt _ (.tail _ (.head _)))), Ne.symm (Nat.ne_of_lt (hI2lt _ (.tail _ (.tail _ (.head _))))), Ne.symm (Nat.ne_of_lt (hI2lt _ (.tail _ (.tail _ (.tail _ (.head _))))))⟩ ⟨Nat.ne_of_gt hlu.1, Nat.ne_of_gt hlu.2.1, Nat.ne_of_gt hld.1⟩ ?n3 fun h9 tk9 tn ov3 ok3 dv3 uv3 news3 hov3 hdv3 huv3 F9 N9 hm9 => ?_
      case n3 =>
        refine List.forall_mem_cons.mpr ⟨by exact ⟨Nat.ne_of_gt (hIlt (lu, W.listOf [].toArray 0) (.head _)), Nat.ne_of_gt (hIlt (ld, W.listOf [].toArray 0) (.tail _ (.head _))), Nat.ne_of_gt (hIlt (lo, W.listOf [].toArray 0) (.tail _ (.tail _ (.head _))))⟩, ?_⟩
        intro q hq
        · have := hlow q hq
          exact ⟨Nat.ne_of_lt (Nat.lt_trans this hlu.2.1), Nat.ne_of_lt (Nat.lt_trans this hld.1), Nat.ne_of_lt this⟩
      refine' for_next ⟨ov3, ok3, dv3, dk2 + 1, uv3, uk2 + 1, bStep ((givenT ns).getD 0 0) x r2 c⟩ F9 N9 hm9.1 hm9.2 ?znames ?zkeep ?zne ⟨?zr, hov3, hdv3, huv3⟩ rfl
      case znames => walk_at "NAMES"
      case zkeep => walk_at "KEEP"
      case zne =>
        dsimp only
        refine List.forall_mem_cons.mpr ⟨by exact hne2 (lu, W.listOf uv2.toArray uk2) (.head _), ?_⟩
        refine List.forall_mem_cons.mpr ⟨by exact hne2 (ld, W.listOf dv2.toArray dk2) (.tail _ (.head _)), ?_⟩
        refine List.forall_mem_cons.mpr ⟨by exact hne2 (lo, W.listOf ov2.toArray ok2) (.tail _ (.tail _ (.head _))), ?_⟩
        intro q hq
        · exact hne2 q (.tail _ (.tail _ (.tail _ hq)))
      case zr =>
        dsimp only
        rw [List.take_add_one, hcz, Option.toList_some, List.foldl_append, ← hr2]
        rfl
    case done2 =>
      rintro ⟨ov2, ok2, dv2, dk2, uv2, uk2, r2⟩ u3 h8 tk8 ⟨hr2, hov2, hdv2, huv2⟩ F8 N8
      dsimp only at *
      rw [show (strC mz).cps.size = mz.length from rfl, List.take_length] at hr2
      walk_at "STEPS"
      refine' for_next ⟨_, _, ov2, ok2, dv2, dk2, uv2, uk2, aStep ((givenT ns).getD 0 0) sp x⟩ F8 N8 ?yI ?ysub ?ynames ?ykeep ?yne ⟨?ysp, ?yo, ?yd, ?yu⟩ rfl
      case ynames =>
        have e1 : strC sp.text ++ strC [codesT.getD (x % 14).toNat 0] ++ strC bz = strC (sp.text ++ [codesT.getD (x % 14).toNat 0] ++ bz) := by rw [strC_app, strC_app]
        have e2 : strC sp.spel ++ strC mz = strC (sp.spel ++ mz) := strC_app _ _
        dsimp only [aStep]
        rw [hbz, hmz, ← e1, ← e2]
        walk_at "NAMES"
      case yI => k_mem
      case ysub => walk_at "SUB"
      case ykeep => walk_at "KEEP"
      case yne =>
        dsimp only
        refine List.forall_mem_cons.mpr ⟨by exact hne (lu, W.listOf uv.toArray uk) (.head _), ?_⟩
        refine List.forall_mem_cons.mpr ⟨by exact hne (ld, W.listOf dv.toArray dk) (.tail _ (.head _)), ?_⟩
        refine List.forall_mem_cons.mpr ⟨by exact hne (lo, W.listOf ov.toArray ok) (.tail _ (.tail _ (.head _))), ?_⟩
        intro q hq
        · exact hne q (.tail _ (.tail _ (.tail _ hq)))
      case ysp =>
        dsimp only
        rw [List.take_add_one, List.getElem?_eq_getElem hi4, hxe, Option.toList_some, List.foldl_append, ← hsp]
        rfl
      case yo => dsimp only [aStep]; rw [hmz, ← hr2]; exact hov2
      case yd => dsimp only [aStep]; rw [hmz, ← hr2]; exact hdv2
      case yu => dsimp only [aStep]; rw [hmz, ← hr2]; exact huv2
  case done =>
    rintro ⟨tt, ts, ov, ok, dv, dk, uv, uk, sp⟩ u2 h7 tk7 ⟨hsp, hov, hdv, huv⟩ F7 N7
    dsimp only at *
    have e : sp = aT ns := by
      rw [hsp, List.take_of_length_le (by rw [← hgI.length]; simp)]
      rfl
    subst e
    refine k (kstB _ [(Str.ofString "pieces", .ref lp), (Str.ofString "behind", .ref lbe), (Str.ofString "means", .ref lm), (Str.ofString "signs", .str (strC codesT) _), (Str.ofString "given", .ref D2)]) _ _ _ _ lo ld lu ov dv uv ok dk uk hov hdv huv F7 (cb_drop N7 ?_) ?_ ⟨hld.1, hlu.1⟩
    · refine List.forall_mem_cons.mpr ⟨by k_mem, ?_⟩
      refine List.forall_mem_cons.mpr ⟨by k_mem, ?_⟩
      refine List.forall_mem_cons.mpr ⟨by k_mem, ?_⟩
      intro q hq
      · repeat (first | exact hq | refine List.Mem.tail _ ?_)
    · intro q hq
      have := hlow q (.tail _ (.tail _ (.tail _ (.tail _ hq))))
      exact ⟨this, Nat.lt_trans this hld.1, Nat.lt_trans this hlu.2.1⟩
end
section
/-- what a sign of the text gives: nothing for table B.1, else B.3 -/
noncomputable def signT (c : Nat) : Option Str := if c = 173 ∨ c = 8205 ∨ c = 8288 ∨ c = 65279 then none else some (strC (meansT.getD (codesT.idxOf c) []))
noncomputable def wordsOf (tx : List Nat) : List Str := tx.filterMap signT
/-- what the tables hold of the signs -/
noncomputable def TabsOk (f : Int → Option Value) (S : Int → Bool) : Prop :=
  (∀ c : Nat, (c = 173 ∨ c = 8205 ∨ c = 8288 ∨ c = 65279) → S c = true) ∧
  (∀ c : Nat, c ∈ codesT → S c = false ∧ (((c = 70 ∨ c = 73 ∨ c = 76 ∨ c = 83 ∨ c = 84) ∧ f c = none) ∨ ((∃ tr, f c = some (.str (strC (meansT.getD (codesT.idxOf c) [])) tr)))))
theorem low_means (c : Nat) (h : c = 70 ∨ c = 73 ∨ c = 76 ∨ c = 83 ∨ c = 84) : strC (meansT.getD (codesT.idxOf c) []) = ⟨#[c + 32]⟩ := by
  rcases h with rfl | rfl | rfl | rfl | rfl <;> decide +kernel
theorem words_le (tx : List Nat) : ∀ x ∈ wordsOf tx, x.length ≤ 3 := by
  intro x hx
  obtain ⟨c, _, hc⟩ := List.mem_filterMap.mp hx
  unfold signT at hc
  split at hc
  · cases hc
  · cases hc
    have := getD_all (fun c : List Nat => decide (c.length ≤ 3)) meansT [] (by decide) (by decide) (codesT.idxOf c)
    simpa [strC, Str.length] using this
theorem wordsOf_len (tx : List Nat) (i : Nat) : (wordsOf (tx.take i)).length ≤ i := by
  unfold wordsOf
  have := List.length_filterMap_le signT (tx.take i)
  rw [List.length_take] at this
  omega
set_option maxRecDepth 100000 in
set_option maxHeartbeats 8000000 in
theorem lawC {w : World} {p : Program} {loose : List Str} {mean : ExcName → Option Value} {mg mb : Str → Option Value} (h₀ : Heap) (L fa : Addr) (cd : Value) (u : Str → Option Value) (s : Shared) (Q : Flow → Shared → Prop) (E1 : Value → Shared → Prop)
    (tx sp : List Nat) (oc due : List Int) (un : List Str) (tt ts : Tok) (lo ld lu : Addr) (ov dv uv : List Value) (ok dk uk : Nat) (w5 w4 w3 w2 w1 w0 : Obj) (c3 c2 c1 c0 : Option Value) (f : Int → Option Value) (S : Int → Bool) (nS fu : Nat)
    (F : Fr h₀ L s.heap (kstB u [(Str.ofString "text", .str (strC tx) tt), (Str.ofString "spelled", .str (strC sp) ts), (Str.ofString "octets", .ref lo), (Str.ofString "due", .ref ld), (Str.ofString "unseen", .ref lu)]))
    (X : (heapK w.params).In h₀) (B : Below callerA h₀ [] h₀) (T : Top p loose mean mg mb h₀)
    (N : News h₀ L s.heap [(lu, W.listOf uv.toArray uk), (ld, W.listOf dv.toArray dk), (lo, W.listOf ov.toArray ok), (L + 1 + 1 + 1 + 1 + 1 + 1, w5), (L + 1 + 1 + 1 + 1 + 1, w4), (L + 1 + 1 + 1 + 1, w3), (L + 1 + 1 + 1, w2), (L + 1 + 1, w1), (L + 1, w0), (150, W.tabObj #[]), (131, W.tabObj #[])])
    (d1 : w1.data = .cell c1) (d0 : w0.data = .cell c0) (d2 : w2.data = .cell c2) (d3 : w3.data = .cell c3) (hL : @LT.lt Nat _ 150 L) (hlo : @LT.lt Nat _ (L + 6) lo) (hld : @LT.lt Nat _ lo ld) (hlu : @LT.lt Nat _ ld lu)
    (hov : IntsAre ov oc) (hdv : IntsAre dv due) (huv : StrsAre uv un)
    (hM : h₀.MapOf (intKind PySem.Challenge.pw_wf0071_01 w) 70 f) (hS : h₀.SetOf (intKind PySem.Challenge.pw_wf0071_01 w) 59 S nS) (hT : TabsOk f S)
    (htx : ∀ c ∈ tx, (c = 173 ∨ c = 8205 ∨ c = 8288 ∨ c = 65279) ∨ c ∈ codesT) (htl : tx.length ≤ 100) (hword : Txt.join (Str.ofString "") (wordsOf tx) = strC sp) (hread : vrs fu oc = some due) (hoc : ∀ b ∈ oc, 0 ≤ b ∧ b < 128) (hdl : due.length ≤ 100) (hdn : ∀ n ∈ due, n < 10000) (hsl : sp.length ≤ 100) (hul : un.length ≤ 100) (hwu : sp.length ≤ un.length) (hx3 : ∀ x ∈ un, x.length ≤ 3)
    (k : ∀ u' h' tk' ps lk lr lD kvs rvs dv7 kk kr w3' w2' w1' w0' tw, IntsAre kvs (nestAt (strC (sp.take 7)) un (strC (sp.take 7)).length).1 → StrsAre rvs (nestAt (strC (sp.take 7)) un (strC (sp.take 7)).length).2.reverse.flatten → IntsAre dv7 (due.take 7) →
      w3'.data = .cell (some (.ref lr)) → w2'.data = .cell (some (.ref lk)) → w1'.data = .cell (some (.ref lD)) → w0'.data = .cell (some (.str (strC (sp.take 7)) tw)) → Fr h₀ L h' (kstB u' [(Str.ofString "text", .str (strC tx) tt)]) →
      News h₀ L h' [(lr, W.listOf rvs.toArray kr), (lk, W.listOf kvs.toArray kk), (lD, W.listOf dv7.toArray 0), (L + 1 + 1 + 1 + 1 + 1 + 1, w5), (L + 1 + 1 + 1 + 1 + 1, w4), (L + 1 + 1 + 1 + 1, w3'), (L + 1 + 1 + 1, w2'), (L + 1 + 1, w1'), (L + 1, w0'), (150, W.tabObj #[]), (131, W.tabObj ps)] →
      wpAny (model PySem.Challenge.pw_wf0071_01 w) (callerA.deeper (envOfC (Str.ofString "law") (fnS (st 20)) L fa cd)) (execs (lawK 16) (envOfC (Str.ofString "law") (fnS (st 20)) L fa cd)) Q (fun e s' => wpAny (model PySem.Challenge.pw_wf0071_01 w) (callerA.deeper (envOfC (Str.ofString "law") (fnS (st 20)) L fa cd)) (leaving (envOfC (Str.ofString "law") (fnS (st 20)) L fa cd) e) (fun x s'' => E1 e s'') (fun e' s'' => E1 e' s'') s') { s with heap := h', toks := tk' }) :
    wpAny (model PySem.Challenge.pw_wf0071_01 w) (callerA.deeper (envOfC (Str.ofString "law") (fnS (st 20)) L fa cd)) (execs (lawK 11) (envOfC (Str.ofString "law") (fnS (st 20)) L fa cd)) Q (fun e s' => wpAny (model PySem.Challenge.pw_wf0071_01 w) (callerA.deeper (envOfC (Str.ofString "law") (fnS (st 20)) L fa cd)) (leaving (envOfC (Str.ofString "law") (fnS (st 20)) L fa cd) e) (fun x s'' => E1 e s'') (fun e' s'' => E1 e' s'') s') s := by
  conv in (lawK _) => whnf
  conv in (occs := *) (fnS _) => all_goals whnf
  walk_at "STEPS"
  refine compE (by with_unfolding_all rfl) (by rfl) (by decide) ?_
  walk_at "STEPS"
  rename Fr _ _ _ _ => F1
  rename News _ _ _ _ => N1
  refine' srcStr (by rfl) F1 N1 fun I St1 h1 Wk1 hIo1 hst1 F2 N2 hIL hI0 hIlt => ?_
  refine' blockG (σ := List Value) (fun _ => [(lu, W.listOf uv.toArray uk), (ld, W.listOf dv.toArray dk), (lo, W.listOf ov.toArray ok), (L + 1 + 1 + 1 + 1 + 1 + 1, w5), (L + 1 + 1 + 1 + 1 + 1, w4), (L + 1 + 1 + 1 + 1, w3), (L + 1 + 1 + 1, w2), (L + 1 + 1, w1), (L + 1, w0), (150, W.tabObj #[]), (131, W.tabObj #[])]) (fun c => c) (fun _ => s.gens) (fun i c => StrsAre c (wordsOf (tx.take i))) [] Wk1 ?zsz hIo1 (fun b hb => .inl (List.mem_singleton.mp hb)) (by decide) (by rfl) (by rfl) hst1 F2 N2 ?zsub ?zne hIL hI0 rfl rfl ?zlen .nil ?zturn ?zdone
  case zsz => rw [sizeLine_eq]; show tx.length ≤ _; omega
  case zsub => walk_at "SUB"
  case zne => exact fun p hp => Nat.ne_of_lt (hIlt p hp)
  case zlen => exact fun t c hc => by rw [strs_len hc]; exact wordsOf_len _ _
  case zturn =>
    intro i ys v oI2 C oC D m₂ h5 tk5 E' hi hv hc hC hx F5 N5 ne5 off5
    obtain ⟨tc, c, hcz, hvc⟩ := sign_at hv
    subst hvc
    have hcm : c ∈ tx := List.mem_of_getElem? hcz
    dsimp only at *
    refine wpAny_tests_one ?_
    walk_at "STEPS"
    have hstep : wordsOf (tx.take (i + 1)) = wordsOf (tx.take i) ++ (signT c).toList := by
      unfold wordsOf
      rw [List.take_add_one, hcz, Option.toList_some, List.filterMap_append]
      cases h : signT c <;> simp [h]
    refine' b1_ _ _ _ _ _ _ _ _ _ _ _ _ _ _ _ _ _ _ c tc S nS ?B ?F ?X ?N ?T ?hk ?hd ?hu hS fun h6 tk6 F6 N6 => ?_
    case B => k_asm
    case F => k_asm
    case X => k_asm
    case N => k_asm
    case T => k_asm
    case hk => rfl
    case hd => decide
    case hu => decide
    rcases htx c hcm with hbe | hcd
    · rw [hT.1 c hbe]
      rw [signT, if_pos hbe, Option.toList_none, List.append_nil] at hstep
      walk_at "STEPS"
      refine' cturn ys F6 N6 ?ysub (fun p hp => off5 p hp) ?yp (by simp) rfl
      case ysub => walk_at "SUB"
      case yp => rw [hstep]; exact hc
    · obtain ⟨hs0, hf⟩ := hT.2 c hcd
      rw [hs0]
      have hnb : ¬ (c = 173 ∨ c = 8205 ∨ c = 8288 ∨ c = 65279) := by
        intro h
        have := hT.1 c h
        rw [hs0] at this
        cases this
      rw [signT, if_neg hnb, Option.toList_some] at hstep
      walk_at "STEPS"
      rcases hf with ⟨hlow, hfn⟩ | ⟨tr, hfs⟩
      · refine' b3_low _ _ _ _ _ _ _ _ _ _ _ _ _ _ _ _ _ _ c tc f ?B ?F ?X ?N ?T ?hk ?hd ?hu hM hlow hfn fun t7 h7 tk7 F7 N7 => ?_
        case B => k_asm
        case F => k_asm
        case X => k_asm
        case N => k_asm
        case T => k_asm
        case hk => rfl
        case hd => decide
        case hu => decide
        refine' cturn (ys ++ [.str ⟨#[c + 32]⟩ t7]) F7 N7 ?zsub (fun p hp => off5 p hp) ?zp rfl rfl
        case zsub => walk_at "SUB"
        case zp => rw [hstep, low_means c hlow]; exact strs_snoc hc
      · refine' b3_hit _ _ _ _ _ _ _ _ _ _ _ _ _ _ _ _ _ _ c tc tr (strC (meansT.getD (codesT.idxOf c) [])) f ?B ?F ?X ?N ?T ?hk ?hd ?hu hM hfs fun t7 h7 tk7 F7 N7 => ?_
        case B => k_asm
        case F => k_asm
        case X => k_asm
        case N => k_asm
        case T => k_asm
        case hk => rfl
        case hd => decide
        case hu => decide
        refine' cturn (ys ++ [.str (strC (meansT.getD (codesT.idxOf c) [])) t7]) F7 N7 ?zsub (fun p hp => off5 p hp) ?zp rfl rfl
        case zsub => walk_at "SUB"
        case zp => rw [hstep]; exact strs_snoc hc
  case zdone =>
    intro ys C oC D m₂ h5 tk5 hc hC F5 N5 ne5 off5
    dsimp only at *
    rw [show (strC tx).cps.size = tx.length from rfl, List.take_length] at hc
    refine postE hC F5 N5 ne5 off5 fun h6 F6 N6 => ?_
    walk_at "STEPS"
    have N7 : News h₀ L h6 [(D, W.listOf ys.toArray ys.length), (lu, W.listOf uv.toArray uk), (ld, W.listOf dv.toArray dk), (lo, W.listOf ov.toArray ok), (L + 1 + 1 + 1 + 1 + 1 + 1, w5), (L + 1 + 1 + 1 + 1 + 1, w4), (L + 1 + 1 + 1 + 1, w3), (L + 1 + 1 + 1, w2), (L + 1 + 1, w1), (L + 1, w0), (150, W.tabObj #[]), (131, W.tabObj #[])] := N6
    have lD := off5
    refine joinAny N7 (.head _) hc ?jz fun t8 tk8 => ?_
    case jz =>
      have h1 := wordsOf_len tx tx.length
      rw [List.take_length] at h1
      have h2 := sum_le (k := 3) (words_le tx)
      simp only [show (Str.ofString "").length = 0 from rfl]
      omega
    rw [hword]
    have N8 := cb_drop N7 (fun p hp => List.Mem.tail _ hp)
    clear N7 N6 N5
    walk_at "STEPS"
    all_goals try (exfalso; (rename (strC sp != strC sp) = true => hx); simp at hx; done)
    refine' read_ _ _ _ _ _ _ _ _ _ _ _ _ _ _ _ _ _ lo ov oc ok ?B ?F ?X ?XB ?N ?T ?TB ?hk ?hm hov ?hd ?hu hoc due fu hread hdn hdl fun r rv rk h9 tk9 hrI F9 N9 lr => ?_
    case B => k_asm
    case F => k_asm
    case X => k_asm
    case XB => k_asm
    case N => k_asm
    case T => k_asm
    case TB => k_asm
    case hk => rfl
    case hm => k_mem
    case hd => decide
    case hu => decide
    have hspl : (strC sp).length ≤ 100 := hsl
    have hdvl : dv.length ≤ 100 := by rw [hdv.length]; exact hdl
    have lr' : @LT.lt Nat _ lu r := lr _ (.head _)
    have lrn : @Ne Nat (L + 1) r := by omega
    have lrm : @Ne Nat r (L + 1) := by omega
    walk_at "STEPS"
    rename News _ _ _ _ => N11
    have N12 := cb_drop N11 (fun p hp => List.Mem.tail _ hp)
    clear N11
    refine' sliceUpto ?F12 N12 ?m12 ?z12 (by decide) ?_ (by with_unfolding_all rfl) ?t12
    case F12 => k_asm
    case m12 => k_mem
    case z12 => omega
    case t12 => walk_at "PURE"
    intro D7 h12 F12 N13 l12
    have l12' : @LT.lt Nat _ lu D7 := l12 _ (.head _)
    have l12n : @Ne Nat D7 (L + 1 + 1) := by omega
    have l12m : @Ne Nat (L + 1 + 1) D7 := by omega
    dsimp only
    walk_at "STEPS"
    rw [show ((7 : Int)) = ((7 : Nat) : Int) from rfl, slice_upto]
    rename News _ _ _ _ => N15
    rename_i e0 e1 tw e2 e3 e4 w0' d0' e5 w1' F15 d1'
    rw [show ((7 : Int)) = ((7 : Nat) : Int) from rfl, slice_upto] at d0'
    have hl131 : @Ne Nat (L + 1) 131 ∧ @Ne Nat (L + 1 + 1) 131 ∧ @Ne Nat (L + 1 + 1 + 1) 131 ∧ @Ne Nat (L + 1 + 1 + 1 + 1) 131 ∧ @Ne Nat (L + 1 + 1 + 1 + 1 + 1) 131 ∧ @Ne Nat (L + 1 + 1 + 1 + 1 + 1 + 1) 131 ∧ @Ne Nat D7 131 ∧ @Ne Nat lu 131 := by
      have h131 : 131 < L := Nat.lt_trans (by decide) hL
      have hlu0 : @LT.lt Nat _ L lu := by omega
      exact ⟨Nat.ne_of_gt (Nat.lt_add_right 1 h131), Nat.ne_of_gt (Nat.lt_add_right 2 h131), Nat.ne_of_gt (Nat.lt_add_right 3 h131), Nat.ne_of_gt (Nat.lt_add_right 4 h131), Nat.ne_of_gt (Nat.lt_add_right 5 h131), Nat.ne_of_gt (Nat.lt_add_right 6 h131), Nat.ne_of_gt (by omega), Nat.ne_of_gt (Nat.lt_trans h131 hlu0)⟩
    obtain ⟨q1, q2, q3, q4, q5, q6, q7, q8⟩ := hl131
    refine' nest_ _ _ _ _ _ _ _ _ _ _ _ _ _ _ [(D7, W.listOf (List.take (Int.toNat 7) dv).toArray 0), (lu, W.listOf uv.toArray uk), (L + 1 + 1 + 1 + 1 + 1 + 1, w5), (L + 1 + 1 + 1 + 1 + 1, w4), (L + 1 + 1 + 1 + 1, w3), (L + 1 + 1 + 1, w2), (L + 1 + 1, _), (L + 1, _), (150, W.tabObj #[])] _ _ _ _ _ lu uv un uk ?B ?F ?X ?N ?T ?hk ?hmu huv ?hul ?hwl ?hwu hx3 ?h131 ?hd ?hu fun r lk lr kvs rvs kk kr ps h16 tk16 hkv hrv F16 N16 => ?_
    case B => k_asm
    case F => k_asm
    case X => k_asm
    case N =>
      refine cb_drop N15 ?_
      simp only [List.forall_mem_cons, List.not_mem_nil, false_implies, implies_true, and_true]
      refine ⟨?_, ?_, ?_, ?_, ?_, ?_, ?_, ?_, ?_, ?_⟩
      all_goals k_mem
    case T => k_asm
    case hk => rfl
    case hmu => k_mem
    case hul => rw [strs_len huv]; exact hul
    case hwl => rw [strC_len, List.length_take]; omega
    case hwu => rw [strC_len, List.length_take]; omega
    case h131 =>
      simp only [List.forall_mem_cons, List.not_mem_nil, false_implies, implies_true, and_true]
      exact ⟨q7, q8, q6, q5, q4, q3, q2, q1, by decide⟩
    case hd => decide
    case hu => decide
    obtain ⟨n1, n2⟩ := news_ne (a := r) (b := L + 1 + 1 + 1) N16 (by k_mem) (by k_mem) d2 (fun c h => by cases h)
    obtain ⟨n3, n4⟩ := news_ne (a := lk) (b := L + 1 + 1 + 1) N16 (by k_mem) (by k_mem) d2 (fun c h => by cases h)
    obtain ⟨n5, n6⟩ := news_ne (a := lr) (b := L + 1 + 1 + 1) N16 (by k_mem) (by k_mem) d2 (fun c h => by cases h)
    obtain ⟨n7, n8⟩ := news_ne (a := r) (b := L + 1 + 1 + 1 + 1) N16 (by k_mem) (by k_mem) d3 (fun c h => by cases h)
    obtain ⟨n9, n10⟩ := news_ne (a := lk) (b := L + 1 + 1 + 1 + 1) N16 (by k_mem) (by k_mem) d3 (fun c h => by cases h)
    obtain ⟨n11, n12⟩ := news_ne (a := lr) (b := L + 1 + 1 + 1 + 1) N16 (by k_mem) (by k_mem) d3 (fun c h => by cases h)
    obtain ⟨n13, n14⟩ := news_ne (a := D7) (b := L + 1 + 1 + 1) N16 (by k_mem) (by k_mem) d2 (fun c h => by cases h)
    obtain ⟨n15, n16⟩ := news_ne (a := D7) (b := L + 1 + 1 + 1 + 1) N16 (by k_mem) (by k_mem) d3 (fun c h => by cases h)
    obtain ⟨tl, htl⟩ : ∃ tl, tl = lawK 16 := ⟨_, rfl⟩
    refine wpAny_mono (Q := fun _ s' => wpAny (model PySem.Challenge.pw_wf0071_01 w) (callerA.deeper (envOfC (Str.ofString "law") (fnS (st 20)) L fa cd)) (execs tl (envOfC (Str.ofString "law") (fnS (st 20)) L fa cd)) Q (fun e s' => wpAny (model PySem.Challenge.pw_wf0071_01 w) (callerA.deeper (envOfC (Str.ofString "law") (fnS (st 20)) L fa cd)) (leaving (envOfC (Str.ofString "law") (fnS (st 20)) L fa cd) e) (fun x s'' => E1 e s'') (fun e' s'' => E1 e' s'') s') s') ?_ (fun _ _ h => by rw [htl] at h; exact h) (fun _ _ h => h)
    walk_at "STEPS"
    rename News _ _ _ _ => N20
    rename Fr _ _ _ _ => F20
    rename_i f0 f1 w2' d2' f3 w3' d3'
    rw [htl]
    refine k (kstB u [(Str.ofString "spelled", .str (strC sp) ts), (Str.ofString "octets", .ref lo), (Str.ofString "due", .ref ld), (Str.ofString "unseen", .ref lu)]) _ _ ps lk lr D7 kvs rvs _ kk kr w3' w2' w1' w0' tw hkv hrv (hdv.take 7) d3' d2' d1' d0' F20 (cb_drop N20 ?_)
    simp only [List.forall_mem_cons, List.not_mem_nil, false_implies, implies_true, and_true]
    refine ⟨?_, ?_, ?_, ?_, ?_, ?_, ?_, ?_, ?_, ?_, ?_⟩
    all_goals k_mem
end
section
noncomputable def longsT (ns : List Int) : List Int := (List.range ns.length).map fun i => longT ns i
set_option maxRecDepth 100000 in
set_option maxHeartbeats 8000000 in
theorem lawE {w : World} {p : Program} {loose : List Str} {mean : ExcName → Option Value} {mg mb : Str → Option Value} (h₀ : Heap) (L fa : Addr) (cd : Value) (u : Str → Option Value) (s : Shared) (Q : Flow → Shared → Prop) (E1 : Value → Shared → Prop)
    (pq : Array Value) (tv : Str × Value) (ns : List Int) (lr lk lD : Addr) (kvs rvs dv : List Value) (kk kr : Nat) (w5 w4 w3 w2 w1 w0 : Obj) (c4 : Option Value)
    (F : Fr h₀ L s.heap (kstB u [tv])) (X : (heapK w.params).In h₀) (B : Below callerA h₀ [] h₀) (T : Top p loose mean mg mb h₀)
    (N : News h₀ L s.heap [(lr, W.listOf rvs.toArray kr), (lk, W.listOf kvs.toArray kk), (lD, W.listOf dv.toArray 0), (L + 1 + 1 + 1 + 1 + 1 + 1, w5), (L + 1 + 1 + 1 + 1 + 1, w4), (L + 1 + 1 + 1 + 1, w3), (L + 1 + 1 + 1, w2), (L + 1 + 1, w1), (L + 1, w0), (150, W.tabObj #[]), (131, W.tabObj pq)])
    (d4 : w4.data = .cell c4) (d1 : w1.data = .cell (some (.ref lD))) (hL : @LT.lt Nat _ 150 L) (hI : IntsAre dv ns) (hn : ns.length ≤ 7)
    (k : ∀ h' tk' lg gvs kg w4', IntsAre gvs (longsT ns) → w4'.data = .cell (some (.ref lg)) → Fr h₀ L h' (kstB u [tv]) →
      News h₀ L h' [(lg, W.listOf gvs.toArray kg), (lr, W.listOf rvs.toArray kr), (lk, W.listOf kvs.toArray kk), (lD, W.listOf dv.toArray 0), (L + 1 + 1 + 1 + 1 + 1 + 1, w5), (L + 1 + 1 + 1 + 1 + 1, w4'), (L + 1 + 1 + 1 + 1, w3), (L + 1 + 1 + 1, w2), (L + 1 + 1, w1), (L + 1, w0), (150, W.tabObj #[]), (131, W.tabObj pq)] →
      wpAny (model PySem.Challenge.pw_wf0071_01 w) (callerA.deeper (envOfC (Str.ofString "law") (fnS (st 20)) L fa cd)) (execs (lawK 17) (envOfC (Str.ofString "law") (fnS (st 20)) L fa cd)) Q (fun e s' => wpAny (model PySem.Challenge.pw_wf0071_01 w) (callerA.deeper (envOfC (Str.ofString "law") (fnS (st 20)) L fa cd)) (leaving (envOfC (Str.ofString "law") (fnS (st 20)) L fa cd) e) (fun x s'' => E1 e s'') (fun e' s'' => E1 e' s'') s') { s with heap := h', toks := tk' }) :
    wpAny (model PySem.Challenge.pw_wf0071_01 w) (callerA.deeper (envOfC (Str.ofString "law") (fnS (st 20)) L fa cd)) (execs (lawK 16) (envOfC (Str.ofString "law") (fnS (st 20)) L fa cd)) Q (fun e s' => wpAny (model PySem.Challenge.pw_wf0071_01 w) (callerA.deeper (envOfC (Str.ofString "law") (fnS (st 20)) L fa cd)) (leaving (envOfC (Str.ofString "law") (fnS (st 20)) L fa cd) e) (fun x s'' => E1 e s'') (fun e' s'' => E1 e' s'') s') s := by
  obtain ⟨tl, htl⟩ : ∃ tl, tl = lawK 17 := ⟨_, rfl⟩
  conv in (lawK 16) => whnf
  conv in (occs := *) (fnS _) => all_goals whnf
  have hdn : dv.length = ns.length := hI.length
  walk_at "STEPS"
  refine compE (by with_unfolding_all rfl) (by rfl) (by decide) ?_
  walk_at "STEPS"
  rename IsRange _ _ _ _ _ _ _ _ => hr
  refine' srcRange (n := ns.length) (by rfl) ?F ?N hr ?sz ?b1 ?b2 ?b3 ?b4 fun I h1 Wk hIo hst F2 N2 hIL hI0 hIlt => ?_
  case F => k_asm
  case N => k_asm
  case sz => omega
  case b1 => omega
  case b2 => omega
  case b3 => omega
  case b4 => omega
  refine' blockG (σ := List Value) (fun _ => [(lr, W.listOf rvs.toArray kr), (lk, W.listOf kvs.toArray kk), (lD, W.listOf dv.toArray 0), (L + 1 + 1 + 1 + 1 + 1 + 1, w5), (L + 1 + 1 + 1 + 1 + 1, w4), (L + 1 + 1 + 1 + 1, w3), (L + 1 + 1 + 1, w2), (L + 1 + 1, w1), (L + 1, w0), (150, W.tabObj #[]), (131, W.tabObj pq)]) (fun c => c) (fun _ => s.gens) (fun i c => IntsAre c ((List.range i).map fun i => longT ns i)) [] Wk ?zsz hIo (fun b hb => .inl (List.mem_singleton.mp hb)) (by decide) (by rfl) (by rfl) hst F2 N2 ?zsub ?zne hIL hI0 rfl rfl ?zlen .nil ?zturn ?zdone
  case zsz => rw [sizeLine_eq]; omega
  case zsub => walk_at "SUB"
  case zne => exact fun p hp => Nat.ne_of_lt (hIlt p hp)
  case zlen => exact fun t c hc => by rw [hc.length]; simp
  case zturn =>
    intro i ys v oI2 C oC D m₂ h5 tk5 E' hi hv hc hC hx F5 N5 ne5 off5
    obtain ⟨tv', rfl⟩ := hv
    have ei : (0 : Int) + (i : Int) * 1 = (i : Int) := by omega
    rw [ei] at hx
    dsimp only at *
    refine wpAny_tests_nil ?_
    walk_at "STEPS"
    refine' longest_ _ _ _ _ _ _ _ _ _ _ _ _ _ _ _ _ _ _ lD dv ns 0 i tv' ?B ?F ?X ?N ?T ?hk ?hm hI ?hvl ?hi ?hd ?hu fun t7 h7 tk7 F7 N7 => ?_
    case B => k_asm
    case F => k_asm
    case X => k_asm
    case N => k_asm
    case T => k_asm
    case hk => rfl
    case hm => k_mem
    case hvl => omega
    case hi => omega
    case hd => decide
    case hu => decide
    dsimp only at *
    walk_at "STEPS"
    refine' cturn (ys ++ [.int (longT ns i) t7]) F7 N7 ?ysub (fun p hp => off5 p hp) ?yp rfl rfl
    case ysub => walk_at "SUB"
    case yp =>
      rw [List.range_succ, List.map_append]
      exact hc.append (.cons _ _ .nil)
  case zdone =>
    intro ys C oC D m₂ h5 tk5 hc hC F5 N5 ne5 off5
    dsimp only at *
    refine postE hC F5 N5 ne5 off5 fun h6 F6 N6 => ?_
    refine wpAny_mono (Q := fun _ s' => wpAny (model PySem.Challenge.pw_wf0071_01 w) (callerA.deeper (envOfC (Str.ofString "law") (fnS (st 20)) L fa cd)) (execs tl (envOfC (Str.ofString "law") (fnS (st 20)) L fa cd)) Q (fun e s' => wpAny (model PySem.Challenge.pw_wf0071_01 w) (callerA.deeper (envOfC (Str.ofString "law") (fnS (st 20)) L fa cd)) (leaving (envOfC (Str.ofString "law") (fnS (st 20)) L fa cd) e) (fun x s'' => E1 e s'') (fun e' s'' => E1 e' s'') s') s') ?_ (fun _ _ h => by rw [htl] at h; exact h) (fun _ _ h => h)
    obtain ⟨n1, n2⟩ := news_ne (a := D) (b := L + 1 + 1 + 1 + 1 + 1) N6 (by k_mem) (by k_mem) d4 (fun c h => by cases h)
    obtain ⟨n3, n4⟩ := news_ne (a := lr) (b := L + 1 + 1 + 1 + 1 + 1) N6 (by k_mem) (by k_mem) d4 (fun c h => by cases h)
    obtain ⟨n5, n6⟩ := news_ne (a := lk) (b := L + 1 + 1 + 1 + 1 + 1) N6 (by k_mem) (by k_mem) d4 (fun c h => by cases h)
    obtain ⟨n7, n8⟩ := news_ne (a := lD) (b := L + 1 + 1 + 1 + 1 + 1) N6 (by k_mem) (by k_mem) d4 (fun c h => by cases h)
    walk_at "STEPS"
    rename News _ _ _ _ => N9
    rename Fr _ _ _ _ => F9
    rename_i h9 w4' d4'
    rw [htl]
    exact k h9 tk5 D ys ys.length w4' hc d4' F9 N9
end
section
noncomputable def isOp (x : Str) : Bool := x != Str.ofString ")"
noncomputable def takesTo (xs : List Str) (n : Nat) : List Int := ((List.range n).filter fun p => isOp (xs.getD p Str.empty)).map fun p => takenT xs p
noncomputable def takesT (xs : List Str) : List Int := takesTo xs xs.length
theorem takesTo_succ (xs : List Str) (n : Nat) : takesTo xs (n + 1) = takesTo xs n ++ (if isOp (xs.getD n Str.empty) = true then [takenT xs n] else []) := by
  unfold takesTo
  rw [List.range_succ, List.filter_append, List.map_append]
  congr 1
  cases h : isOp (xs.getD n Str.empty) <;> simp only [List.filter_cons, List.filter_nil, h] <;> rfl
theorem takesTo_len (xs : List Str) (n : Nat) : (takesTo xs n).length ≤ n := by
  unfold takesTo
  rw [List.length_map]
  exact Nat.le_trans (List.length_filter_le _ _) (by simp)
set_option maxRecDepth 100000 in
set_option maxHeartbeats 8000000 in
theorem lawF {w : World} {p : Program} {loose : List Str} {mean : ExcName → Option Value} {mg mb : Str → Option Value} (h₀ : Heap) (L fa : Addr) (cd : Value) (u : Str → Option Value) (s : Shared) (Q : Flow → Shared → Prop) (E1 : Value → Shared → Prop)
    (pq : Array Value) (tv : Str × Value) (ns : List Int) (xs : List Str) (lg lr lk lD : Addr) (gvs kvs rvs dv : List Value) (kg kk kr : Nat) (w5 w4 w3 w2 w1 w0 : Obj)
    (F : Fr h₀ L s.heap (kstB u [tv])) (X : (heapK w.params).In h₀) (B : Below callerA h₀ [] h₀) (T : Top p loose mean mg mb h₀)
    (N : News h₀ L s.heap [(lg, W.listOf gvs.toArray kg), (lr, W.listOf rvs.toArray kr), (lk, W.listOf kvs.toArray kk), (lD, W.listOf dv.toArray 0), (L + 1 + 1 + 1 + 1 + 1 + 1, w5), (L + 1 + 1 + 1 + 1 + 1, w4), (L + 1 + 1 + 1 + 1, w3), (L + 1 + 1 + 1, w2), (L + 1 + 1, w1), (L + 1, w0), (150, W.tabObj #[]), (131, W.tabObj pq)])
    (d4 : w4.data = .cell (some (.ref lg))) (d3 : w3.data = .cell (some (.ref lr))) (hL : @LT.lt Nat _ 150 L) (hI : IntsAre gvs (longsT ns)) (hn : ns.length ≤ 7) (hG : AllBare s.gens)
    (hS : StrsAre rvs xs) (hxl : xs.length ≤ 100) (hxs : ∀ x ∈ xs, x.length ≤ 4) (hgood : ∀ p q, p + 2 ≤ q → q ≤ xs.length → GoodT (wholeT xs p q) ∧ GoodT (turnedT xs p q)) (htake : takesT xs = longsT ns)
    (k : ∀ h' tk' g', AllBare g' → Fr h₀ L h' (kstB u [tv]) →
      News h₀ L h' [(lg, W.listOf gvs.toArray kg), (lr, W.listOf rvs.toArray kr), (lk, W.listOf kvs.toArray kk), (lD, W.listOf dv.toArray 0), (L + 1 + 1 + 1 + 1 + 1 + 1, w5), (L + 1 + 1 + 1 + 1 + 1, w4), (L + 1 + 1 + 1 + 1, w3), (L + 1 + 1 + 1, w2), (L + 1 + 1, w1), (L + 1, w0), (150, W.tabObj #[]), (131, W.tabObj pq)] →
      wpAny (model PySem.Challenge.pw_wf0071_01 w) (callerA.deeper (envOfC (Str.ofString "law") (fnS (st 20)) L fa cd)) (execs (lawK 18) (envOfC (Str.ofString "law") (fnS (st 20)) L fa cd)) Q (fun e s' => wpAny (model PySem.Challenge.pw_wf0071_01 w) (callerA.deeper (envOfC (Str.ofString "law") (fnS (st 20)) L fa cd)) (leaving (envOfC (Str.ofString "law") (fnS (st 20)) L fa cd) e) (fun x s'' => E1 e s'') (fun e' s'' => E1 e' s'') s') { s with heap := h', toks := tk', gens := g' }) :
    wpAny (model PySem.Challenge.pw_wf0071_01 w) (callerA.deeper (envOfC (Str.ofString "law") (fnS (st 20)) L fa cd)) (execs (lawK 17) (envOfC (Str.ofString "law") (fnS (st 20)) L fa cd)) Q (fun e s' => wpAny (model PySem.Challenge.pw_wf0071_01 w) (callerA.deeper (envOfC (Str.ofString "law") (fnS (st 20)) L fa cd)) (leaving (envOfC (Str.ofString "law") (fnS (st 20)) L fa cd) e) (fun x s'' => E1 e s'') (fun e' s'' => E1 e' s'') s') s := by
  obtain ⟨tl, htl⟩ : ∃ tl, tl = lawK 18 := ⟨_, rfl⟩
  conv in (lawK 17) => whnf
  conv in (execs (_ :: _) _) =>
    arg 1
    arg 2
    change lawK 18
    rw [← htl]
  conv in (occs := *) (fnS _) => all_goals whnf
  have hrl : rvs.length = xs.length := strs_len hS
  have hgl : gvs.length = ns.length := by rw [hI.length]; simp [longsT]
  walk_at "STEPS"
  refine compE (by with_unfolding_all rfl) (by rfl) (by decide) ?_
  walk_at "STEPS"
  rename IsRange _ _ _ _ _ _ _ _ => hr
  refine' srcRange (n := xs.length) (by rfl) ?F ?N hr ?sz ?b1 ?b2 ?b3 ?b4 fun I h1 Wk hIo hst F2 N2 hIL hI0 hIlt => ?_
  case F => k_asm
  case N => k_asm
  case sz => omega
  case b1 => omega
  case b2 => omega
  case b3 => omega
  case b4 => omega
  refine' blockG (σ := List Value × Array GenState) (fun _ => [(lg, W.listOf gvs.toArray kg), (lr, W.listOf rvs.toArray kr), (lk, W.listOf kvs.toArray kk), (lD, W.listOf dv.toArray 0), (L + 1 + 1 + 1 + 1 + 1 + 1, w5), (L + 1 + 1 + 1 + 1 + 1, w4), (L + 1 + 1 + 1 + 1, w3), (L + 1 + 1 + 1, w2), (L + 1 + 1, w1), (L + 1, w0), (150, W.tabObj #[]), (131, W.tabObj pq)]) (fun c => c.1) (fun c => c.2) (fun i c => AllBare c.2 ∧ IntsAre c.1 (takesTo xs i)) ([], s.gens) Wk ?zsz hIo (fun b hb => .inl (List.mem_singleton.mp hb)) (by decide) (by rfl) (by rfl) hst F2 N2 ?zsub ?zne hIL hI0 rfl rfl ?zlen ⟨hG, .nil⟩ ?zturn ?zdone
  case zsz => rw [sizeLine_eq]; omega
  case zsub => walk_at "SUB"
  case zne => exact fun p hp => Nat.ne_of_lt (hIlt p hp)
  case zlen => exact fun t c hc => by rw [hc.2.length]; exact takesTo_len _ _
  case zturn =>
    rintro i ⟨ys, g5⟩ v oI2 C oC D m₂ h5 tk5 E' hi hv ⟨hb, hc⟩ hC hx F5 N5 ne5 off5
    obtain ⟨tv', rfl⟩ := hv
    have ei : (0 : Int) + (i : Int) * 1 = (i : Int) := by omega
    rw [ei] at hx
    dsimp only at *
    refine wpAny_tests_one ?_
    walk_at "STEPS"
    · rename_i _ hop cE
      have hop' : isOp (xs.getD i Str.empty) = true := by rw [Int.toNat_natCast] at hop; exact hop
      have hsucc := takesTo_succ xs i
      rw [if_pos hop'] at hsucc
      refine' taken_ _ _ _ _ _ _ _ _ _ _ _ _ _ _ _ _ _ _ lr rvs xs kr i tv' ?B ?F ?X ?XB ?N ?T ?TB ?hk ?hm hS hxl ?hi hxs (hgood i) ?hd ?hu ?hbs ?hG fun t7 h7 tk7 g7 hb7 F7 N7 => ?_
      case B => k_asm
      case F => k_asm
      case X => k_asm
      case XB => k_asm
      case N => k_asm
      case T => k_asm
      case TB => k_asm
      case hk => rfl
      case hm => k_mem
      case hi => omega
      case hd => decide
      case hu => decide
      case hbs => exact Nat.le_refl _
      case hG => exact hb
      dsimp only at *
      walk_at "STEPS"
      refine' cturn (ys ++ [.int (takenT xs i) t7], g7) F7 N7 ?ysub (fun p hp => off5 p hp) ?yp rfl rfl
      case ysub => walk_at "SUB"
      case yp =>
        refine ⟨hb7, ?_⟩
        rw [hsucc]
        exact hc.append (.cons _ _ .nil)
    · rename_i _ hop
      have hop' : ¬ isOp (xs.getD i Str.empty) = true := by
        intro h
        have h' : isOp (xs.getD i Str.empty) = false := by rw [Int.toNat_natCast] at hop; exact hop
        rw [h] at h'
        cases h'
      have hsucc := takesTo_succ xs i
      rw [if_neg hop', List.append_nil] at hsucc
      refine' cturn (ys, g5) F5 N5 ?ysub (fun p hp => off5 p hp) ?yp (by simp) rfl
      case ysub => walk_at "SUB"
      case yp => exact ⟨hb, by rw [hsucc]; exact hc⟩
  case zdone =>
    rintro ⟨ys, g5⟩ C oC D m₂ h5 tk5 ⟨hb, hc⟩ hC F5 N5 ne5 off5
    dsimp only at *
    refine postE hC F5 N5 ne5 off5 fun h6 F6 N6 => ?_
    have hc' : IntsAre ys (longsT ns) := by rw [← htake]; exact hc
    have hyl : ys.length ≤ 7 := by rw [hc'.length]; simpa [longsT] using hn
    have hgl7 : gvs.length ≤ 7 := by omega
    have N7 : News h₀ L h6 [(D, W.listOf ys.toArray ys.length), (lg, W.listOf gvs.toArray kg), (lr, W.listOf rvs.toArray kr), (lk, W.listOf kvs.toArray kk), (lD, W.listOf dv.toArray 0), (L + 1 + 1 + 1 + 1 + 1 + 1, w5), (L + 1 + 1 + 1 + 1 + 1, w4), (L + 1 + 1 + 1 + 1, w3), (L + 1 + 1 + 1, w2), (L + 1 + 1, w1), (L + 1, w0), (150, W.tabObj #[]), (131, W.tabObj pq)] := N6
    clear N6
    walk_at "STEPS"
    show wpAny (model PySem.Challenge.pw_wf0071_01 w) (callerA.deeper (envOfC (Str.ofString "law") (fnS (st 20)) L fa cd)) (execs tl (envOfC (Str.ofString "law") (fnS (st 20)) L fa cd)) Q (fun e s' => wpAny (model PySem.Challenge.pw_wf0071_01 w) (callerA.deeper (envOfC (Str.ofString "law") (fnS (st 20)) L fa cd)) (leaving (envOfC (Str.ofString "law") (fnS (st 20)) L fa cd) e) (fun x s'' => E1 e s'') (fun e' s'' => E1 e' s'') s') _
    rw [htl]
    exact k h6 _ g5 hb F6 (cb_drop N7 (fun p hp => List.Mem.tail _ hp))
end
section
section
variable {prog : Program} {w : World} {A : Around} {E : Value → Shared → Prop} {s : Shared} {h₀ : Heap} {m : Str → Option Value} {env : Env}
/-- behind a comprehension whose list goes to a name -/
theorem postA {Q : Value → Shared → Prop} {C D : Addr} {oC : Obj} {m₂ : Str → Option Value} {ys : List Value} {led : List (Addr × Obj)} {h : Heap} {tk : Nat} {g : Array GenState} {y : Str} {py : Pos} (hy : env.kindOf y = some .local) (hpl : (env.scope.kind == .class || (env.scope.kind == .module && env.locals != env.globals)) = false)
    (hC : LCg.NsObj oC m₂) (F : Fr h₀ env.locals h m) (N : News h₀ env.locals h ((C, oC) :: (D, LCg.lst ys) :: led)) (ne : @Ne Nat C D) (off : ∀ p ∈ led, p.1 ≠ C ∧ p.1 ≠ D)
    (fin : ∀ h' tk', Fr h₀ env.locals h' (fun z => if z = y then some (.ref D) else m z) → News h₀ env.locals h' ((D, LCg.lst ys) :: led) → Q .none { s with heap := h', toks := tk', gens := g }) :
    compPost (model prog w) A E (some (assign (.Name y py) env)) Q (.ref D) C (.ok .next) { s with heap := h, toks := tk, gens := g } := by
  show wpAny (model prog w) A (assign (.Name y py) env (.ref D)) _ E _
  refine wpAny_assign_Name (wpAny_storeName_local hy F.ns (fun h₂ hn₂ hs₂ => ?_) hpl)
  have F₂ := F.set hn₂ hs₂
  have N₂ := N.set hs₂
  have z := N₂ _ (.head _)
  refine ⟨m₂, hC.ns z.1, fun h' hs => fin h' _ (F₂.change hs z.2.1 z.2.2) fun p hp => ?_⟩
  refine ⟨hs.extBut _ _ ?_ (N₂ p (.tail _ hp)).1, (N₂ p (.tail _ hp)).2⟩
  rcases List.mem_cons.mp hp with rfl | hp
  · exact Ne.symm ne
  · exact (off p hp).1
end
theorem longAt_le (ns : List Int) (i : Nat) : ∀ t : Nat, 0 ≤ longAt ns i t ∧ longAt ns i t ≤ t
  | 0 => by simp [longAt]
  | t + 1 => by
    have := longAt_le ns i t
    unfold longAt
    split <;> omega
theorem longT_le (ns : List Int) (i : Nat) : 0 ≤ longT ns i ∧ longT ns i ≤ ((ns.length - i : Nat) : Int) := longAt_le ns i _
theorem toNat_sub {z : Int} (i : Nat) (h : 0 ≤ z) : ((i : Int) + z).toNat - i = z.toNat := by
  obtain ⟨m, rfl⟩ := Int.eq_ofNat_of_zero_le h
  show (i + m) - i = m
  exact Nat.add_sub_cancel_left i m
theorem cast_sum {z : Int} (i : Nat) (h : 0 ≤ z) : (i : Int) + z = ((i + z.toNat : Nat) : Int) := by
  obtain ⟨m, rfl⟩ := Int.eq_ofNat_of_zero_le h
  rfl
noncomputable def wordsTo (wl : List Nat) (ns : List Int) (n : Nat) : List Str := (List.range n).map fun i => strC ((wl.drop i).take (longT ns i).toNat)
theorem wordsTo_succ (wl : List Nat) (ns : List Int) (n : Nat) : wordsTo wl ns (n + 1) = wordsTo wl ns n ++ [strC ((wl.drop n).take (longT ns n).toNat)] := by
  unfold wordsTo
  rw [List.range_succ, List.map_append]
  rfl
theorem longs_get {gvs : List Value} {ns : List Int} (h : IntsAre gvs (longsT ns)) {i : Nat} (hi : i < ns.length) : ∃ t, gvs[i]? = some (.int (longT ns i) t) :=
  ints_get h i _ (by simp [longsT, hi])
theorem longs_getD {ns : List Int} {i : Nat} (hi : i < ns.length) : (longsT ns).getD i 0 = longT ns i := by simp [longsT, hi, List.getD_eq_getElem?_getD]
set_option maxRecDepth 100000 in
set_option maxHeartbeats 2000000 in
theorem lawG {w : World} {p : Program} {loose : List Str} {mean : ExcName → Option Value} {mg mb : Str → Option Value} (h₀ : Heap) (L fa : Addr) (cd : Value) (u : Str → Option Value) (s : Shared) (Q : Flow → Shared → Prop) (E1 : Value → Shared → Prop)
    (pq : Array Value) (tv : Str × Value) (ns : List Int) (wl : List Nat) (tw : Tok) (lg lr lk lD : Addr) (gvs kvs rvs dv : List Value) (kg kk kr : Nat) (w5 w4 w3 w2 w1 w0 : Obj)
    (F : Fr h₀ L s.heap (kstB u [tv])) (X : (heapK w.params).In h₀) (B : Below callerA h₀ [] h₀) (T : Top p loose mean mg mb h₀)
    (N : News h₀ L s.heap [(lg, W.listOf gvs.toArray kg), (lr, W.listOf rvs.toArray kr), (lk, W.listOf kvs.toArray kk), (lD, W.listOf dv.toArray 0), (L + 1 + 1 + 1 + 1 + 1 + 1, w5), (L + 1 + 1 + 1 + 1 + 1, w4), (L + 1 + 1 + 1 + 1, w3), (L + 1 + 1 + 1, w2), (L + 1 + 1, w1), (L + 1, w0), (150, W.tabObj #[]), (131, W.tabObj pq)])
    (d4 : w4.data = .cell (some (.ref lg))) (d0 : w0.data = .cell (some (.str (strC wl) tw))) (hL : @LT.lt Nat _ 150 L) (hI : IntsAre gvs (longsT ns)) (hn : ns.length ≤ 7) (hw : wl.length = ns.length)
    (k : ∀ h' tk' lw wvs kw, StrsAre wvs (wordsTo wl ns ns.length) → Fr h₀ L h' (kstB u [(Str.ofString "words", .ref lw), tv]) →
      News h₀ L h' [(lw, W.listOf wvs.toArray kw), (lg, W.listOf gvs.toArray kg), (lr, W.listOf rvs.toArray kr), (lk, W.listOf kvs.toArray kk), (lD, W.listOf dv.toArray 0), (L + 1 + 1 + 1 + 1 + 1 + 1, w5), (L + 1 + 1 + 1 + 1 + 1, w4), (L + 1 + 1 + 1 + 1, w3), (L + 1 + 1 + 1, w2), (L + 1 + 1, w1), (L + 1, w0), (150, W.tabObj #[]), (131, W.tabObj pq)] →
      wpAny (model PySem.Challenge.pw_wf0071_01 w) (callerA.deeper (envOfC (Str.ofString "law") (fnS (st 20)) L fa cd)) (execs (lawK 19) (envOfC (Str.ofString "law") (fnS (st 20)) L fa cd)) Q (fun e s' => wpAny (model PySem.Challenge.pw_wf0071_01 w) (callerA.deeper (envOfC (Str.ofString "law") (fnS (st 20)) L fa cd)) (leaving (envOfC (Str.ofString "law") (fnS (st 20)) L fa cd) e) (fun x s'' => E1 e s'') (fun e' s'' => E1 e' s'') s') { s with heap := h', toks := tk' }) :
    wpAny (model PySem.Challenge.pw_wf0071_01 w) (callerA.deeper (envOfC (Str.ofString "law") (fnS (st 20)) L fa cd)) (execs (lawK 18) (envOfC (Str.ofString "law") (fnS (st 20)) L fa cd)) Q (fun e s' => wpAny (model PySem.Challenge.pw_wf0071_01 w) (callerA.deeper (envOfC (Str.ofString "law") (fnS (st 20)) L fa cd)) (leaving (envOfC (Str.ofString "law") (fnS (st 20)) L fa cd) e) (fun x s'' => E1 e s'') (fun e' s'' => E1 e' s'') s') s := by
  obtain ⟨tl, htl⟩ : ∃ tl, tl = lawK 19 := ⟨_, rfl⟩
  conv in (lawK 18) => whnf
  conv in (execs (_ :: _) _) =>
    arg 1
    arg 2
    change lawK 19
    rw [← htl]
  conv in (occs := *) (fnS _) => all_goals whnf
  have hgl : gvs.length = ns.length := by rw [hI.length]; simp [longsT]
  have hwl : (strC wl).length = ns.length := by rw [strC_len, hw]
  walk1
  refine compA (by with_unfolding_all rfl) (by with_unfolding_all rfl) (by rfl) (by decide) ?_
  walk_at "STEPS"
  rename IsRange _ _ _ _ _ _ _ _ => hr
  refine' srcRange (n := ns.length) (by rfl) ?F ?N hr ?sz ?b1 ?b2 ?b3 ?b4 fun I h1 Wk hIo hst F2 N2 hIL hI0 hIlt => ?_
  case F => k_asm
  case N => k_asm
  case sz => omega
  case b1 => omega
  case b2 => omega
  case b3 => omega
  case b4 => omega
  refine' blockG (σ := List Value) (fun _ => [(lg, W.listOf gvs.toArray kg), (lr, W.listOf rvs.toArray kr), (lk, W.listOf kvs.toArray kk), (lD, W.listOf dv.toArray 0), (L + 1 + 1 + 1 + 1 + 1 + 1, w5), (L + 1 + 1 + 1 + 1 + 1, w4), (L + 1 + 1 + 1 + 1, w3), (L + 1 + 1 + 1, w2), (L + 1 + 1, w1), (L + 1, w0), (150, W.tabObj #[]), (131, W.tabObj pq)]) (fun c => c) (fun c => s.gens) (fun i c => StrsAre c (wordsTo wl ns i)) [] Wk ?zsz hIo (fun b hb => .inl (List.mem_singleton.mp hb)) (by decide) (by rfl) (by rfl) hst F2 N2 ?zsub ?zne hIL hI0 rfl rfl ?zlen .nil ?zturn ?zdone
  case zsz => rw [sizeLine_eq]; omega
  case zsub => walk_at "SUB"
  case zne => exact fun p hp => Nat.ne_of_lt (hIlt p hp)
  case zlen => exact fun t c hc => by rw [strs_len hc]; simp [wordsTo]
  case zturn =>
    rintro i ys v oI2 C oC D m₂ h5 tk5 E' hi hv hc hC hx F5 N5 ne5 off5
    obtain ⟨tv', rfl⟩ := hv
    have ei : (0 : Int) + (i : Int) * 1 = (i : Int) := by omega
    rw [ei] at hx
    dsimp only at *
    refine wpAny_tests_nil ?_
    obtain ⟨tx, htx⟩ := longs_get hI hi
    have hlt := longT_le ns i
    have hsl : Txt.slice (strC wl) (some (i : Int)) (some ((i : Int) + (longsT ns).getD (i : Int).toNat 0)) = strC ((wl.drop i).take (longT ns i).toNat) := by
      rw [Int.toNat_natCast, longs_getD hi, show (i : Int) + longT ns i = ((i + (longT ns i).toNat : Nat) : Int) from cast_sum i (longT_le ns i).1, slice_run _ _ _ (by omega) (by omega), show i + (longT ns i).toNat - i = (longT ns i).toNat by omega]
    walk_at "STEPS"
    rw [hsl]
    rename News _ _ _ _ => N7
    rename Fr _ _ _ _ => F7
    rename_i e1 h7 t7 e2 e3
    refine' cturn (ys ++ [.str (strC ((wl.drop i).take (longT ns i).toNat)) t7]) F7 N7 ?ysub (fun p hp => off5 p hp) ?yp rfl rfl
    case ysub => walk_at "SUB"
    case yp => rw [wordsTo_succ]; exact strs_snoc hc
  case zdone =>
    rintro ys C oC D m₂ h5 tk5 hc hC F5 N5 ne5 off5
    refine postA (by rfl) (by rfl) hC F5 N5 ne5 off5 fun h6 tk6 F6 N6 => ?_
    show wpAny (model PySem.Challenge.pw_wf0071_01 w) (callerA.deeper (envOfC (Str.ofString "law") (fnS (st 20)) L fa cd)) (execs tl (envOfC (Str.ofString "law") (fnS (st 20)) L fa cd)) Q (fun e s' => wpAny (model PySem.Challenge.pw_wf0071_01 w) (callerA.deeper (envOfC (Str.ofString "law") (fnS (st 20)) L fa cd)) (leaving (envOfC (Str.ofString "law") (fnS (st 20)) L fa cd) e) (fun x s'' => E1 e s'') (fun e' s'' => E1 e' s'') s') _
    rw [htl]
    exact k h6 _ D ys ys.length hc F6 N6
end
section
structure SQ where
  ad : Addr
  vs : List Value
noncomputable def rowsQ (c : List SQ) : List (Addr × Obj) := c.map fun q => (q.ad, W.listOf q.vs.toArray 0)
noncomputable def refsQ (c : List SQ) : List Value := c.map fun q => .ref q.ad
noncomputable def strAt (ns : List Int) (i : Nat) : List Int := (ns.drop i).take (longT ns i).toNat
noncomputable def QOk (ns : List Int) (c : List SQ) (i : Nat) : Prop := c.length = i ∧ ∀ j q, c[j]? = some q → IntsAre q.vs (strAt ns j)
theorem qok_snoc {ns : List Int} {c : List SQ} {i : Nat} {q : SQ} (h : QOk ns c i) (hq : IntsAre q.vs (strAt ns i)) : QOk ns (c ++ [q]) (i + 1) := by
  refine ⟨by simp [h.1], fun j q' hj => ?_⟩
  by_cases hlt : j < c.length
  · rw [List.getElem?_append_left hlt] at hj
    exact h.2 j q' hj
  · rw [List.getElem?_append_right (by omega)] at hj
    have hj0 : j - c.length = 0 := by
      rcases Nat.eq_zero_or_pos (j - c.length) with e | e
      · exact e
      · rw [List.getElem?_eq_none (by simp; omega)] at hj
        cases hj
    rw [hj0] at hj
    have : j = i := by have := h.1; omega
    subst this
    simp at hj
    subst hj
    exact hq
set_option maxRecDepth 100000 in
set_option maxHeartbeats 2000000 in
theorem lawH {w : World} {p : Program} {loose : List Str} {mean : ExcName → Option Value} {mg mb : Str → Option Value} (h₀ : Heap) (L fa : Addr) (cd : Value) (u : Str → Option Value) (s : Shared) (Q : Flow → Shared → Prop) (E1 : Value → Shared → Prop)
    (pq : Array Value) (tv wv : Str × Value) (ns : List Int) (lw lg lr lk lD : Addr) (wvs gvs kvs rvs dv : List Value) (kw kg kk kr : Nat) (w5 w4 w3 w2 w1 w0 : Obj) (c5 : Option Value)
    (F : Fr h₀ L s.heap (kstB u [wv, tv])) (X : (heapK w.params).In h₀) (B : Below callerA h₀ [] h₀) (T : Top p loose mean mg mb h₀)
    (N : News h₀ L s.heap [(lw, W.listOf wvs.toArray kw), (lg, W.listOf gvs.toArray kg), (lr, W.listOf rvs.toArray kr), (lk, W.listOf kvs.toArray kk), (lD, W.listOf dv.toArray 0), (L + 1 + 1 + 1 + 1 + 1 + 1, w5), (L + 1 + 1 + 1 + 1 + 1, w4), (L + 1 + 1 + 1 + 1, w3), (L + 1 + 1 + 1, w2), (L + 1 + 1, w1), (L + 1, w0), (150, W.tabObj #[]), (131, W.tabObj pq)])
    (d5 : w5.data = .cell c5) (d4 : w4.data = .cell (some (.ref lg))) (d1 : w1.data = .cell (some (.ref lD))) (hL : @LT.lt Nat _ 150 L) (hI : IntsAre gvs (longsT ns)) (hD : IntsAre dv ns) (hn : ns.length ≤ 7)
    (k : ∀ h' tk' ls c ks w5', QOk ns c ns.length → w5'.data = .cell (some (.ref ls)) → Fr h₀ L h' (kstB u [wv, tv]) →
      News h₀ L h' ((ls, W.listOf (refsQ c).toArray ks) :: (lw, W.listOf wvs.toArray kw) :: (lk, W.listOf kvs.toArray kk) :: (L + 1 + 1 + 1 + 1 + 1 + 1, w5') :: (L + 1 + 1 + 1, w2) :: (150, W.tabObj #[]) :: (131, W.tabObj pq) :: rowsQ c) →
      wpAny (model PySem.Challenge.pw_wf0071_01 w) (callerA.deeper (envOfC (Str.ofString "law") (fnS (st 20)) L fa cd)) (execs (lawK 20) (envOfC (Str.ofString "law") (fnS (st 20)) L fa cd)) Q (fun e s' => wpAny (model PySem.Challenge.pw_wf0071_01 w) (callerA.deeper (envOfC (Str.ofString "law") (fnS (st 20)) L fa cd)) (leaving (envOfC (Str.ofString "law") (fnS (st 20)) L fa cd) e) (fun x s'' => E1 e s'') (fun e' s'' => E1 e' s'') s') { s with heap := h', toks := tk' }) :
    wpAny (model PySem.Challenge.pw_wf0071_01 w) (callerA.deeper (envOfC (Str.ofString "law") (fnS (st 20)) L fa cd)) (execs (lawK 19) (envOfC (Str.ofString "law") (fnS (st 20)) L fa cd)) Q (fun e s' => wpAny (model PySem.Challenge.pw_wf0071_01 w) (callerA.deeper (envOfC (Str.ofString "law") (fnS (st 20)) L fa cd)) (leaving (envOfC (Str.ofString "law") (fnS (st 20)) L fa cd) e) (fun x s'' => E1 e s'') (fun e' s'' => E1 e' s'') s') s := by
  obtain ⟨tl, htl⟩ : ∃ tl, tl = lawK 20 := ⟨_, rfl⟩
  conv in (lawK 19) => whnf
  conv in (execs (_ :: _) _) =>
    arg 1
    arg 2
    change lawK 20
    rw [← htl]
  conv in (occs := *) (fnS _) => all_goals whnf
  have hgl : gvs.length = ns.length := by rw [hI.length]; simp [longsT]
  have hdl : dv.length = ns.length := hD.length
  walk_at "STEPS"
  refine compE (by with_unfolding_all rfl) (by rfl) (by decide) ?_
  walk_at "STEPS"
  rename IsRange _ _ _ _ _ _ _ _ => hr
  refine' srcRange (n := ns.length) (by rfl) ?F ?N hr ?sz ?b1 ?b2 ?b3 ?b4 fun I h1 Wk hIo hst F2 N2 hIL hI0 hIlt => ?_
  case F => k_asm
  case N => k_asm
  case sz => omega
  case b1 => omega
  case b2 => omega
  case b3 => omega
  case b4 => omega
  refine' blockG (σ := List SQ) (fun c => (lw, W.listOf wvs.toArray kw) :: (lg, W.listOf gvs.toArray kg) :: (lr, W.listOf rvs.toArray kr) :: (lk, W.listOf kvs.toArray kk) :: (lD, W.listOf dv.toArray 0) :: (L + 1 + 1 + 1 + 1 + 1 + 1, w5) :: (L + 1 + 1 + 1 + 1 + 1, w4) :: (L + 1 + 1 + 1 + 1, w3) :: (L + 1 + 1 + 1, w2) :: (L + 1 + 1, w1) :: (L + 1, w0) :: (150, W.tabObj #[]) :: (131, W.tabObj pq) :: rowsQ c) refsQ (fun c => s.gens) (fun i c => QOk ns c i) [] Wk ?zsz hIo (fun b hb => .inl (List.mem_singleton.mp hb)) (by decide) (by rfl) (by rfl) hst F2 N2 ?zsub ?zne hIL hI0 rfl rfl ?zlen ⟨rfl, fun j q hq => by simp at hq⟩ ?zturn ?zdone
  case zsz => rw [sizeLine_eq]; omega
  case zsub => exact fun p hp => hp
  case zne => exact fun p hp => Nat.ne_of_lt (hIlt p hp)
  case zlen => exact fun t c hc => by simp [refsQ, hc.1]
  case zturn =>
    rintro i c v oI2 C oC D m₂ h5 tk5 E' hi hv hc hC hx F5 N5 ne5 off5
    obtain ⟨tv', rfl⟩ := hv
    have ei : (0 : Int) + (i : Int) * 1 = (i : Int) := by omega
    rw [ei] at hx
    dsimp only at *
    refine wpAny_tests_nil ?_
    obtain ⟨tx, htx⟩ := longs_get hI hi
    have hlt := longT_le ns i
    have hgd : (longsT ns).getD (i : Int).toNat 0 = longT ns i := by rw [Int.toNat_natCast, longs_getD hi]
    have hgd2 : 0 ≤ (longsT ns).getD (i : Int).toNat 0 := by omega
    walk_at "GO"
    refine' itemL (x := (i : Int)) (vs := gvs) ?iN ?im ?i0 ?i1 (by rw [Int.toNat_natCast]; exact htx) ?_ ?is ?it
    case iN => k_asm
    case im => k_mem
    case i0 => omega
    case i1 => omega
    case is => with_unfolding_all rfl
    case it => intro _; with_unfolding_all rfl
    walk_at "GO"
    rename_i D9 h9 F9 N9 l9
    have e1 : ((dv.drop (i : Int).toNat).take (((i : Int) + longT ns i).toNat - (i : Int).toNat)) = (dv.drop i).take (longT ns i).toNat := by
      rw [Int.toNat_natCast, show ((i : Int) + longT ns i).toNat - i = (longT ns i).toNat from toNat_sub i (longT_le ns i).1]
    rw [e1] at N9
    have lDD := l9 (D, LCg.lst (refsQ c)) (by k_mem)
    have lC := l9 (C, oC) (by k_mem)
    have lI := l9 (I, oI2) (by k_mem)
    refine' cturn (c ++ [⟨D9, (dv.drop i).take (longT ns i).toNat⟩]) F9 N9 ?ysub ?yoff ?yq (by simp [refsQ]) rfl
    case yq => exact qok_snoc hc ((hD.drop i).take _)
    case ysub =>
      intro q hq
      rw [rowsQ, List.map_append, ← rowsQ] at hq
      have hq' : q ∈ ((I, oI2) :: (C, oC) :: (D, LCg.lst (refsQ c)) :: (lw, W.listOf wvs.toArray kw) :: (lg, W.listOf gvs.toArray kg) :: (lr, W.listOf rvs.toArray kr) :: (lk, W.listOf kvs.toArray kk) :: (lD, W.listOf dv.toArray 0) :: (L + 1 + 1 + 1 + 1 + 1 + 1, w5) :: (L + 1 + 1 + 1 + 1 + 1, w4) :: (L + 1 + 1 + 1 + 1, w3) :: (L + 1 + 1 + 1, w2) :: (L + 1 + 1, w1) :: (L + 1, w0) :: (150, W.tabObj #[]) :: (131, W.tabObj pq) :: rowsQ c) ∨ q = (D9, W.listOf ((dv.drop i).take (longT ns i).toNat).toArray 0) := by
        rw [← List.mem_singleton, ← List.mem_append]
        exact hq
      rcases hq' with hq' | rfl
      · exact .tail _ hq'
      · exact .head _
    case yoff =>
      intro q hq
      rw [rowsQ, List.map_append, ← rowsQ] at hq
      have hq' : q ∈ ((lw, W.listOf wvs.toArray kw) :: (lg, W.listOf gvs.toArray kg) :: (lr, W.listOf rvs.toArray kr) :: (lk, W.listOf kvs.toArray kk) :: (lD, W.listOf dv.toArray 0) :: (L + 1 + 1 + 1 + 1 + 1 + 1, w5) :: (L + 1 + 1 + 1 + 1 + 1, w4) :: (L + 1 + 1 + 1 + 1, w3) :: (L + 1 + 1 + 1, w2) :: (L + 1 + 1, w1) :: (L + 1, w0) :: (150, W.tabObj #[]) :: (131, W.tabObj pq) :: rowsQ c) ∨ q = (D9, W.listOf ((dv.drop i).take (longT ns i).toNat).toArray 0) := by
        rw [← List.mem_singleton, ← List.mem_append]
        exact hq
      rcases hq' with hq' | rfl
      · exact off5 q hq'
      · exact ⟨Nat.ne_of_gt lI, Nat.ne_of_gt lC, Nat.ne_of_gt lDD⟩
  case zdone =>
    rintro c C oC D m₂ h5 tk5 hc hC F5 N5 ne5 off5
    dsimp only at *
    refine postE hC F5 N5 ne5 off5 fun h6 F6 N6 => ?_
    obtain ⟨n1, n2⟩ := news_ne (a := D) (b := L + 1 + 1 + 1 + 1 + 1 + 1) N6 (by k_mem) (by k_mem) d5 (fun c h => by cases h)
    obtain ⟨n3, n4⟩ := news_ne (a := lw) (b := L + 1 + 1 + 1 + 1 + 1 + 1) N6 (by k_mem) (by k_mem) d5 (fun c h => by cases h)
    obtain ⟨n5, n6⟩ := news_ne (a := lk) (b := L + 1 + 1 + 1 + 1 + 1 + 1) N6 (by k_mem) (by k_mem) d5 (fun c h => by cases h)
    have N7 : News h₀ L h6 ([(D, W.listOf (refsQ c).toArray (refsQ c).length), (lw, W.listOf wvs.toArray kw), (lk, W.listOf kvs.toArray kk)] ++ (L + 1 + 1 + 1 + 1 + 1 + 1, w5) :: ((L + 1 + 1 + 1, w2) :: (150, W.tabObj #[]) :: (131, W.tabObj pq) :: rowsQ c)) := by
      refine cb_drop N6 fun q hq => ?_
      rcases List.mem_cons.mp hq with rfl | hq
      · exact .head _
      rcases List.mem_cons.mp hq with rfl | hq
      · exact .tail _ (.head _)
      rcases List.mem_cons.mp hq with rfl | hq
      · k_mem
      rcases List.mem_cons.mp hq with rfl | hq
      · k_mem
      rcases List.mem_cons.mp hq with rfl | hq
      · k_mem
      rcases List.mem_cons.mp hq with rfl | hq
      · k_mem
      rcases List.mem_cons.mp hq with rfl | hq
      · k_mem
      · iterate 14 refine List.Mem.tail _ ?_
        exact hq
    have hpost : ∀ q ∈ (L + 1 + 1 + 1, w2) :: (150, W.tabObj #[]) :: (131, W.tabObj pq) :: rowsQ c, q.1 ≠ L + 1 + 1 + 1 + 1 + 1 + 1 := by
      intro q hq
      rcases List.mem_cons.mp hq with rfl | hq
      · show @Ne Nat (L + 1 + 1 + 1) (L + 1 + 1 + 1 + 1 + 1 + 1)
        omega
      rcases List.mem_cons.mp hq with rfl | hq
      · show @Ne Nat 150 (L + 1 + 1 + 1 + 1 + 1 + 1)
        omega
      rcases List.mem_cons.mp hq with rfl | hq
      · show @Ne Nat 131 (L + 1 + 1 + 1 + 1 + 1 + 1)
        omega
      · obtain ⟨z, _, rfl⟩ := List.mem_map.mp hq
        exact (news_ne (a := z.ad) (b := L + 1 + 1 + 1 + 1 + 1 + 1) N7 (List.mem_append_right _ (.tail _ (.tail _ (.tail _ (.tail _ hq))))) (List.mem_append_right _ (.head _)) d5 (fun c h => by cases h)).1
    have hpre : ∀ q ∈ [(D, W.listOf (refsQ c).toArray (refsQ c).length), (lw, W.listOf wvs.toArray kw), (lk, W.listOf kvs.toArray kk)], q.1 ≠ L + 1 + 1 + 1 + 1 + 1 + 1 := by
      simp only [List.forall_mem_cons, List.not_mem_nil, false_implies, implies_true, and_true]
      exact ⟨n1, n3, n5⟩
    refine storeX_C F6 N7 (by rfl) (upd_mid hpre hpost) d5 ?_ (by rfl) (by rfl)
    intro h7 w5' F7 N8 d5'
    show wpAny (model PySem.Challenge.pw_wf0071_01 w) (callerA.deeper (envOfC (Str.ofString "law") (fnS (st 20)) L fa cd)) (execs tl (envOfC (Str.ofString "law") (fnS (st 20)) L fa cd)) Q (fun e s' => wpAny (model PySem.Challenge.pw_wf0071_01 w) (callerA.deeper (envOfC (Str.ofString "law") (fnS (st 20)) L fa cd)) (leaving (envOfC (Str.ofString "law") (fnS (st 20)) L fa cd) e) (fun x s'' => E1 e s'') (fun e' s'' => E1 e' s'') s') _
    rw [htl]
    exact k h7 _ D c _ w5' hc d5' F7 N8
end
section
noncomputable def keptBefore (ns ks : List Int) (i : Nat) : List Int := ks.filter fun j => ltL (strAt ns j.toNat) (strAt ns i)
theorem keptBefore_succ (ns ks : List Int) (i t : Nat) (z : Int) (h : ks[t]? = some z) : keptBefore ns (ks.take (t + 1)) i = keptBefore ns (ks.take t) i ++ (if ltL (strAt ns z.toNat) (strAt ns i) = true then [z] else []) := by
  unfold keptBefore
  rw [List.take_add_one, h, Option.toList_some, List.filter_append]
  congr 1
  cases e : ltL (strAt ns z.toNat) (strAt ns i) <;> simp [e]
theorem ints_at : ∀ {vs : List Value} {xs : List Int}, IntsAre vs xs → ∀ (i : Nat) (v : Value), vs[i]? = some v → ∃ z t, xs[i]? = some z ∧ v = .int z t
  | _, _, .nil, _, _, h => by simp at h
  | _, _, .cons y t _, 0, v, h => by simp at h; subst h; exact ⟨y, t, rfl, rfl⟩
  | _, _, .cons _ _ r, i + 1, v, h => by
    obtain ⟨z, t, h1, h2⟩ := ints_at r i v (by simpa using h)
    exact ⟨z, t, by simpa using h1, h2⟩
theorem refs_at {c : List SQ} {i : Nat} {v : Value} (h : (refsQ c)[i]? = some v) : ∃ q, c[i]? = some q ∧ v = .ref q.ad := by
  unfold refsQ at h
  rw [List.getElem?_map] at h
  cases e : c[i]? with
  | none => rw [e] at h; cases h
  | some q => rw [e] at h; exact ⟨q, rfl, (Option.some.inj h).symm⟩
theorem refs_get {c : List SQ} {i : Nat} {q : SQ} (h : c[i]? = some q) : (refsQ c)[i]? = some (.ref q.ad) := by
  unfold refsQ
  rw [List.getElem?_map, h]
  rfl
theorem rows_mem {c : List SQ} {i : Nat} {q : SQ} (h : c[i]? = some q) : (q.ad, W.listOf q.vs.toArray 0) ∈ rowsQ c :=
  List.mem_map_of_mem (f := fun q : SQ => (q.ad, W.listOf q.vs.toArray 0)) (List.mem_of_getElem? h)
noncomputable def countsTo (ns ks : List Int) (n : Nat) : List Int := (List.range n).map fun i => ((keptBefore ns ks i).length : Int)
theorem news_ne2 {h₀ h : Heap} {L a b : Addr} {news : List (Addr × Obj)} {o1 o2 : Obj} (N : News h₀ L h news) (ha : (a, o1) ∈ news) (hb : (b, o2) ∈ news) (hd : o1 ≠ o2) : @Ne Nat a b := by
  intro e
  have e' : a = b := e
  subst e'
  exact hd (Option.some.inj ((N _ ha).1.symm.trans (N _ hb).1))
theorem list_ne_tab (vs : Array Value) (k : Nat) (ps : Array Value) : W.listOf vs k ≠ W.tabObj ps := fun h => by
  have := congrArg Obj.cls h
  cases this
set_option maxRecDepth 100000 in
set_option maxHeartbeats 2000000 in
theorem lawI {w : World} {p : Program} {loose : List Str} {mean : ExcName → Option Value} {mg mb : Str → Option Value} (h₀ : Heap) (L fa : Addr) (cd : Value) (u : Str → Option Value) (s : Shared) (Q : Flow → Shared → Prop) (E1 : Value → Shared → Prop)
    (pq : Array Value) (tv : Str × Value) (ns ks : List Int) (xs : List Str) (ls lw lk : Addr) (c : List SQ) (wvs kvs : List Value) (kl kw kk : Nat) (w5 w2 : Obj)
    (F : Fr h₀ L s.heap (kstB u [(Str.ofString "words", .ref lw), tv])) (X : (heapK w.params).In h₀) (B : Below callerA h₀ [] h₀) (T : Top p loose mean mg mb h₀)
    (N : News h₀ L s.heap ((ls, W.listOf (refsQ c).toArray kl) :: (lw, W.listOf wvs.toArray kw) :: (lk, W.listOf kvs.toArray kk) :: (L + 1 + 1 + 1 + 1 + 1 + 1, w5) :: (L + 1 + 1 + 1, w2) :: (150, W.tabObj #[]) :: (131, W.tabObj pq) :: rowsQ c))
    (d5 : w5.data = .cell (some (.ref ls))) (d2 : w2.data = .cell (some (.ref lk))) (hL : @LT.lt Nat _ 150 L) (hc : QOk ns c ns.length) (hk : IntsAre kvs ks) (hkl : ks.length ≤ 7) (hw : StrsAre wvs xs) (hn : ns.length ≤ 7) (hxn : xs.length = ns.length)
    (hdom : ∀ n ∈ ks, 0 ≤ n ∧ n < ns.length) (hfin : xs.map (bisT (fun j => xs.getD j.toNat Str.empty) ks) = countsTo ns ks ns.length)
    (k : ∀ u' h' tk' ps news, Fr h₀ L h' u' → News h₀ L h' ((150, W.tabObj ps) :: (131, W.tabObj pq) :: news) → Q (.ret (.bool true)) { s with heap := h', toks := tk' }) :
    wpAny (model PySem.Challenge.pw_wf0071_01 w) (callerA.deeper (envOfC (Str.ofString "law") (fnS (st 20)) L fa cd)) (execs (lawK 20) (envOfC (Str.ofString "law") (fnS (st 20)) L fa cd)) Q (fun e s' => wpAny (model PySem.Challenge.pw_wf0071_01 w) (callerA.deeper (envOfC (Str.ofString "law") (fnS (st 20)) L fa cd)) (leaving (envOfC (Str.ofString "law") (fnS (st 20)) L fa cd) e) (fun x s'' => E1 e s'') (fun e' s'' => E1 e' s'') s') s := by
  conv in (lawK 20) => whnf
  conv in (occs := *) (fnS _) => all_goals whnf
  have hcl : c.length = ns.length := hc.1
  have hkv : kvs.length = ks.length := hk.length
  have hwv : wvs.length = xs.length := strs_len hw
  walk_at "STEPS"
  have h150 : ∀ q ∈ (ls, W.listOf (refsQ c).toArray kl) :: (lw, W.listOf wvs.toArray kw) :: (lk, W.listOf kvs.toArray kk) :: (L + 1 + 1 + 1 + 1 + 1 + 1, w5) :: (L + 1 + 1 + 1, w2) :: (131, W.tabObj pq) :: rowsQ c, q.1 ≠ 150 := by
    refine List.forall_mem_cons.mpr ⟨by exact news_ne2 N (.head _) (b := 150) (by k_mem) (list_ne_tab _ _ _), ?_⟩
    refine List.forall_mem_cons.mpr ⟨by exact news_ne2 N (.tail _ (.head _)) (b := 150) (by k_mem) (list_ne_tab _ _ _), ?_⟩
    refine List.forall_mem_cons.mpr ⟨by exact news_ne2 N (.tail _ (.tail _ (.head _))) (b := 150) (by k_mem) (list_ne_tab _ _ _), ?_⟩
    intro q hq
    rcases List.mem_cons.mp hq with rfl | hq
    · show @Ne Nat (L + 1 + 1 + 1 + 1 + 1 + 1) 150
      omega
    rcases List.mem_cons.mp hq with rfl | hq
    · show @Ne Nat (L + 1 + 1 + 1) 150
      omega
    rcases List.mem_cons.mp hq with rfl | hq
    · show @Ne Nat 131 150
      decide
    · obtain ⟨z, hz, rfl⟩ := List.mem_map.mp hq
      refine news_ne2 (a := z.ad) N ?_ (b := 150) (by k_mem) (list_ne_tab z.vs.toArray 0 _)
      iterate 7 refine List.Mem.tail _ ?_
      exact hq
  have N1 : News h₀ L s.heap ((150, W.tabObj #[]) :: (ls, W.listOf (refsQ c).toArray kl) :: (lw, W.listOf wvs.toArray kw) :: (lk, W.listOf kvs.toArray kk) :: (L + 1 + 1 + 1 + 1 + 1 + 1, w5) :: (L + 1 + 1 + 1, w2) :: (131, W.tabObj pq) :: rowsQ c) := by
    refine cb_drop N fun q hq => ?_
    simp only [List.mem_cons] at hq ⊢
    rcases hq with h | h | h | h | h | h | h | h <;> simp only [h, true_or, or_true]
  refine' before_ _ _ _ _ _ _ _ _ _ _ _ _ _ _ _ _ _ _ lk lw kvs wvs ks xs kk kw ?B ?F ?X N1 ?T ?hk ?hm hk ?hvl ?hmw hw ?hwl h150 ?hdom ?hd ?hu fun r bvs ps h7 tk7 hbI F7 N7 l7 => ?_
  case B => k_asm
  case F => k_asm
  case X => k_asm
  case T => k_asm
  case hk => rfl
  case hm => k_mem
  case hvl => omega
  case hmw => k_mem
  case hwl => omega
  case hdom => rw [hxn]; exact hdom
  case hd => decide
  case hu => decide
  rw [hfin] at hbI
  clear N1
  walk_at "STEPS"
  refine compE (by with_unfolding_all rfl) (by rfl) (by decide) ?_
  walk_at "STEPS"
  refine' srcList (by rfl) ?F N7 ?hm2 fun I h8 Wk hIo hst F8 N8 hIL hI0 hIlt => ?_
  case F => k_asm
  case hm2 => k_mem
  have hrz : (refsQ c).toArray.size = ns.length := by simp [refsQ, hcl]
  refine' blockC (σ := List Value) (fun _ => (r, W.listOf bvs.toArray bvs.length) :: (150, W.tabObj ps) :: (ls, W.listOf (refsQ c).toArray kl) :: (lw, W.listOf wvs.toArray kw) :: (lk, W.listOf kvs.toArray kk) :: (L + 1 + 1 + 1 + 1 + 1 + 1, w5) :: (L + 1 + 1 + 1, w2) :: (131, W.tabObj pq) :: rowsQ c) (fun c => c) (fun c => s.gens) (fun i cc => IntsAre cc (countsTo ns ks i)) [] Wk ?zsz hIo ?zfp (fun _ => rfl) (fun _ => rfl) (by rfl) (by rfl) hst F8 N8 (fun p hp => hp) ?zne hIL hI0 rfl rfl ?zlen .nil ?zturn ?zdone
  case zsz => rw [sizeLine_eq, hrz]; omega
  case zfp =>
    refine List.forall_mem_cons.mpr ⟨by exact .inl rfl, ?_⟩
    intro b hb
    · rw [List.mem_singleton.mp hb]
      exact .inr (.inr ⟨_, fun _ _ _ => .tail _ (.tail _ (.head _))⟩)
  case zne => exact fun p hp => Nat.ne_of_lt (hIlt p hp)
  case zlen => exact fun t c hc => by rw [hc.length]; simp [countsTo]
  case zturn =>
    rintro i ys v oI C oC D K oK m₂ h9 tk9 E' hi hv hys hC hoK F9 N9 ne9 off9
    obtain ⟨q, hq, rfl⟩ := refs_at (by simpa using hv)
    have hqm := rows_mem hq
    have hqI := hc.2 i q hq
    dsimp only at *
    refine wpAny_tests_nil ?_
    walk_at "STEPS"
    refine compE (by with_unfolding_all rfl) (by rfl) (by decide) ?_
    walk_at "STEPS"
    refine' srcList (by rfl) ?F N9 ?hm2 fun I2 h11 Wk2 hIo2 hst2 F11 N11 hIL2 hI02 hIlt2 => ?_
    case F => k_asm
    case hm2 => k_mem
    have hkz : kvs.toArray.size = ks.length := by simp [hkv]
    refine' blockG (σ := List Value) (fun _ => (I, oI) :: (C, oC) :: (D, LCg.lst ys) :: (K, oK) :: (r, W.listOf bvs.toArray bvs.length) :: (150, W.tabObj ps) :: (ls, W.listOf (refsQ c).toArray kl) :: (lw, W.listOf wvs.toArray kw) :: (lk, W.listOf kvs.toArray kk) :: (L + 1 + 1 + 1 + 1 + 1 + 1, w5) :: (L + 1 + 1 + 1, w2) :: (131, W.tabObj pq) :: rowsQ c) (fun c => c) (fun c => s.gens) (fun t cc => IntsAre cc (keptBefore ns (ks.take t) i)) [] Wk2 ?zsz hIo2 ?zfp (by decide) (by rfl) (by rfl) hst2 F11 N11 (fun p hp => hp) ?zne hIL2 hI02 rfl rfl ?zlen .nil ?zturn2 ?zdone2
    case zsz => rw [sizeLine_eq, hkz]; omega
    case zfp =>
      refine List.forall_mem_cons.mpr ⟨by exact .inl rfl, ?_⟩
      intro b hb
      · rw [List.mem_singleton.mp hb]
        exact .inr (.inr ⟨_, fun _ _ _ => .tail _ (.tail _ (.tail _ (.tail _ (.tail _ (.tail _ (.tail _ (.tail _ (.head _))))))))⟩)
    case zne => exact fun p hp => Nat.ne_of_lt (hIlt2 p hp)
    case zlen =>
      intro t cc hcc
      rw [hcc.length]
      exact Nat.le_trans (List.length_filter_le _ _) (List.length_take_le _ _)
    case zturn2 =>
      rintro t zs v oI2 C2 oC2 D2 m₃ h12 tk12 E2 ht hv2 hzs hC2 hx2 F12 N12 ne12 off12
      obtain ⟨z, tz, hz, rfl⟩ := ints_at hk t v (by simpa using hv2)
      have hzk : z ∈ ks := List.mem_of_getElem? hz
      obtain ⟨hz0, hzn⟩ := hdom z hzk
      obtain ⟨q2, hq2⟩ : ∃ q2, c[z.toNat]? = some q2 := ⟨_, List.getElem?_eq_getElem (by omega)⟩
      have hqm2 := rows_mem hq2
      have hqI2 := hc.2 _ q2 hq2
      have hqg := refs_get hq2
      dsimp only at *
      refine wpAny_tests_one ?_
      walk_at "STEPS"
      refine' itemL (x := z) (vs := refsQ c) ?iN ?im hz0 ?i1 hqg ?_ ?is ?it
      case iN => k_asm
      case im => k_mem
      case i1 => omega
      case is => with_unfolding_all rfl
      case it => intro _; with_unfolding_all rfl
      walk_at "STEPS"
      have hm15 : ∀ e ∈ rowsQ c, e ∈ (I2, oI2) :: (C2, oC2) :: (D2, LCg.lst zs) :: (I, oI) :: (C, oC) :: (D, LCg.lst ys) :: (K, oK) :: (r, W.listOf bvs.toArray bvs.length) :: (150, W.tabObj ps) :: (ls, W.listOf (refsQ c).toArray kl) :: (lw, W.listOf wvs.toArray kw) :: (lk, W.listOf kvs.toArray kk) :: (L + 1 + 1 + 1 + 1 + 1 + 1, w5) :: (L + 1 + 1 + 1, w2) :: (131, W.tabObj pq) :: rowsQ c := by
        intro e he
        iterate 15 refine List.Mem.tail _ ?_
        exact he
      refine ltRefs N12 (hm15 _ hqm2) (hm15 _ hqm) hqI2 hqI (by ktr_units) ?_
      have hsucc := keptBefore_succ ns ks i t z hz
      cases hle : ltL (strAt ns z.toNat) (strAt ns i) with
      | true =>
        rw [hle, if_pos rfl] at hsucc
        walk_at "STEPS"
        refine' cturn (zs ++ [.int z tz]) F12 N12 (fun e he => he) (fun p hp => off12 p hp) ?yp rfl rfl
        case yp => rw [hsucc]; exact hzs.append (.cons _ _ .nil)
      | false =>
        rw [hle, if_neg Bool.false_ne_true, List.append_nil] at hsucc
        walk_at "STEPS"
        refine' cturn zs F12 N12 (fun e he => he) (fun p hp => off12 p hp) ?yp (by simp) rfl
        case yp => rw [hsucc]; exact hzs
    case zdone2 =>
      rintro zs C2 oC2 D2 m₃ h12 tk12 hzs hC2 F12 N12 ne12 off12
      dsimp only at *
      refine postE hC2 F12 N12 ne12 off12 fun h13 F13 N13 => ?_
      rw [hkz, List.take_length] at hzs
      have hzl : zs.length ≤ 7 := by
        rw [hzs.length]
        exact Nat.le_trans (List.length_filter_le _ _) hkl
      have N14 : News h₀ L h13 ((D2, W.listOf zs.toArray zs.length) :: (I, oI) :: (C, oC) :: (D, LCg.lst ys) :: (K, oK) :: (r, W.listOf bvs.toArray bvs.length) :: (150, W.tabObj ps) :: (ls, W.listOf (refsQ c).toArray kl) :: (lw, W.listOf wvs.toArray kw) :: (lk, W.listOf kvs.toArray kk) :: (L + 1 + 1 + 1 + 1 + 1 + 1, w5) :: (L + 1 + 1 + 1, w2) :: (131, W.tabObj pq) :: rowsQ c) := N13
      clear N13
      walk_at "STEPS"
      refine' cturn (ys ++ [.int (zs.length : Int) (tk12 + 1)]) F13 N14 (fun e he => ?_) (fun p hp => ?_) ⟨?yp, ?yk⟩ rfl rfl
      · exact .tail _ he
      · rcases List.mem_cons.mp hp with rfl | hp
        · exact ⟨ne9.2.2.2.1, ne9.2.2.2.2.1, ne9.2.2.2.2.2⟩
        · exact ⟨(off9 p hp).1, (off9 p hp).2.1, (off9 p hp).2.2.1⟩
      case yk => exact fun p hp => (off9 p hp).2.2.2
      case yp =>
        unfold countsTo
        rw [List.range_succ, List.map_append]
        refine hys.append ?_
        rw [hzs.length]
        exact .cons _ _ .nil
  case zdone =>
    rintro ys C oC D m₂ h9 tk9 hys hC F9 N9 ne9 off9
    dsimp only at *
    refine postE hC F9 N9 ne9 off9 fun h10 F10 N10 => ?_
    rw [hrz] at hys
    have hyl : ys.length ≤ 7 := by rw [hys.length]; simpa [countsTo] using hn
    have hbl : bvs.length ≤ 7 := by rw [hbI.length]; simpa [countsTo] using hn
    have N11 : News h₀ L h10 ((D, W.listOf ys.toArray ys.length) :: (r, W.listOf bvs.toArray bvs.length) :: (150, W.tabObj ps) :: (ls, W.listOf (refsQ c).toArray kl) :: (lw, W.listOf wvs.toArray kw) :: (lk, W.listOf kvs.toArray kk) :: (L + 1 + 1 + 1 + 1 + 1 + 1, w5) :: (L + 1 + 1 + 1, w2) :: (131, W.tabObj pq) :: rowsQ c) := N10
    clear N10
    walk_at "STEPS"
    exact k _ h10 tk9 ps _ F10 (cb_drop N11 (news := (150, W.tabObj ps) :: (131, W.tabObj pq) :: []) (fun q hq => by
      rcases List.mem_cons.mp hq with rfl | hq
      · k_mem
      rcases List.mem_cons.mp hq with rfl | hq
      · k_mem
      · cases hq))
end
section
/-- what the plain law has to say of the script: nothing of the program is in sight -/
structure PlainOk (ns : List Int) (fu : Nat) : Prop where
  htx : ∀ c ∈ (aT ns).text, (c = 173 ∨ c = 8205 ∨ c = 8288 ∨ c = 65279) ∨ c ∈ codesT
  htl : (aT ns).text.length ≤ 100
  hword : Txt.join (Str.ofString "") (wordsOf (aT ns).text) = strC (aT ns).spel
  hread : vrs fu (aT ns).oc = some (aT ns).due
  hoc : ∀ b ∈ (aT ns).oc, 0 ≤ b ∧ b < 128
  hdl : (aT ns).due.length ≤ 100
  hdn : ∀ n ∈ (aT ns).due, n < 10000
  hsl : (aT ns).spel.length ≤ 100
  hul : (aT ns).un.length ≤ 100
  hwu : (aT ns).spel.length ≤ (aT ns).un.length
  hx3 : ∀ x ∈ (aT ns).un, x.length ≤ 3
  hwd : ((aT ns).spel.take 7).length = ((aT ns).due.take 7).length
  hrl : (nestAt (strC ((aT ns).spel.take 7)) (aT ns).un (strC ((aT ns).spel.take 7)).length).2.reverse.flatten.length ≤ 100
  hr4 : ∀ x ∈ (nestAt (strC ((aT ns).spel.take 7)) (aT ns).un (strC ((aT ns).spel.take 7)).length).2.reverse.flatten, x.length ≤ 4
  hgood : ∀ p q, p + 2 ≤ q → q ≤ (nestAt (strC ((aT ns).spel.take 7)) (aT ns).un (strC ((aT ns).spel.take 7)).length).2.reverse.flatten.length → GoodT (wholeT (nestAt (strC ((aT ns).spel.take 7)) (aT ns).un (strC ((aT ns).spel.take 7)).length).2.reverse.flatten p q) ∧ GoodT (turnedT (nestAt (strC ((aT ns).spel.take 7)) (aT ns).un (strC ((aT ns).spel.take 7)).length).2.reverse.flatten p q)
  htake : takesT (nestAt (strC ((aT ns).spel.take 7)) (aT ns).un (strC ((aT ns).spel.take 7)).length).2.reverse.flatten = longsT ((aT ns).due.take 7)
  hkl : (nestAt (strC ((aT ns).spel.take 7)) (aT ns).un (strC ((aT ns).spel.take 7)).length).1.length ≤ 7
  hdom : ∀ n ∈ (nestAt (strC ((aT ns).spel.take 7)) (aT ns).un (strC ((aT ns).spel.take 7)).length).1, 0 ≤ n ∧ n < ((aT ns).due.take 7).length
  hfin : (wordsTo ((aT ns).spel.take 7) ((aT ns).due.take 7) ((aT ns).due.take 7).length).map (bisT (fun j => (wordsTo ((aT ns).spel.take 7) ((aT ns).due.take 7) ((aT ns).due.take 7).length).getD j.toNat Str.empty) (nestAt (strC ((aT ns).spel.take 7)) (aT ns).un (strC ((aT ns).spel.take 7)).length).1) = countsTo ((aT ns).due.take 7) (nestAt (strC ((aT ns).spel.take 7)) (aT ns).un (strC ((aT ns).spel.take 7)).length).1 ((aT ns).due.take 7).length
end
section
set_option maxRecDepth 100000 in
set_option maxHeartbeats 2000000 in
theorem lawZ {w : World} {p : Program} {loose : List Str} {mean : ExcName → Option Value} {mg mb : Str → Option Value} (h₀ : Heap) (L fa : Addr) (cd : Value) (u : Str → Option Value) (s : Shared) (Q : Flow → Shared → Prop) (E1 : Value → Shared → Prop) (l : Addr) (vs : List Value) (ns : List Int)
    (w5 w4 w3 w2 w1 w0 : Obj) (c5 c4 c3 c2 c1 c0 : Option Value) (f : Int → Option Value) (S : Int → Bool) (nS fu : Nat)
    (F : Fr h₀ L s.heap (kstB u [(Str.ofString "script", .ref l)])) (X : (heapK w.params).In h₀) (B : Below callerA h₀ [] h₀) (T : Top p loose mean mg mb h₀)
    (N : News h₀ L s.heap [(L + 1 + 1 + 1 + 1 + 1 + 1, w5), (L + 1 + 1 + 1 + 1 + 1, w4), (L + 1 + 1 + 1 + 1, w3), (L + 1 + 1 + 1, w2), (L + 1 + 1, w1), (L + 1, w0), (150, W.tabObj #[]), (131, W.tabObj #[])])
    (d5 : w5.data = .cell c5) (d4 : w4.data = .cell c4) (d3 : w3.data = .cell c3) (d2 : w2.data = .cell c2) (d1 : w1.data = .cell c1) (d0 : w0.data = .cell c0) (hL : @LT.lt Nat _ 150 L)
    (hl : h₀.IsList l vs.toArray) (hI : IntsAre vs ns) (hn : ns.length ≤ 63) (hG : AllBare s.gens)
    (hM : h₀.MapOf (intKind PySem.Challenge.pw_wf0071_01 w) 70 f) (hS : h₀.SetOf (intKind PySem.Challenge.pw_wf0071_01 w) 59 S nS) (hT : TabsOk f S) (hP : PlainOk ns fu)
    (k : ∀ u' h' tk' g' ps pq news, AllBare g' → Fr h₀ L h' u' → News h₀ L h' ((150, W.tabObj ps) :: (131, W.tabObj pq) :: news) → Q (.ret (.bool true)) { s with heap := h', toks := tk', gens := g' }) :
    wpAny (model PySem.Challenge.pw_wf0071_01 w) (callerA.deeper (envOfC (Str.ofString "law") (fnS (st 20)) L fa cd)) (execs (lawK 0) (envOfC (Str.ofString "law") (fnS (st 20)) L fa cd)) Q (fun e s' => wpAny (model PySem.Challenge.pw_wf0071_01 w) (callerA.deeper (envOfC (Str.ofString "law") (fnS (st 20)) L fa cd)) (leaving (envOfC (Str.ofString "law") (fnS (st 20)) L fa cd) e) (fun x s'' => E1 e s'') (fun e' s'' => E1 e' s'') s') s := by
  refine lawA h₀ L fa cd u s Q E1 l vs ns _ F X B T N hl hI hn fun u1 h1 tk1 tt ts lo ld lu ov dv uv ok dk uk hov hdv huv F1 N1 low hlt => ?_
  have low6 := low (L + 1 + 1 + 1 + 1 + 1 + 1, w5) (.head _)
  have hlo : @LT.lt Nat _ (L + 6) lo := low6.1
  have hld : @LT.lt Nat _ lo ld := hlt.1
  have hlu : @LT.lt Nat _ ld lu := hlt.2
  refine lawC h₀ L fa cd u1 _ Q E1 (aT ns).text (aT ns).spel (aT ns).oc (aT ns).due (aT ns).un tt ts lo ld lu ov dv uv ok dk uk w5 w4 w3 w2 w1 w0 c3 c2 c1 c0 f S nS fu F1 X B T N1 d1 d0 d2 d3 hL hlo hld hlu hov hdv huv hM hS hT hP.htx hP.htl hP.hword hP.hread hP.hoc hP.hdl hP.hdn hP.hsl hP.hul hP.hwu hP.hx3 fun u2 h2 tk2 pq lk lr lD kvs rvs dv7 kk kr w3' w2' w1' w0' tw hkv hrv hdv7 d3' d2' d1' d0' F2 N2 => ?_
  generalize hn1 : nestAt (strC ((aT ns).spel.take 7)) (aT ns).un (strC ((aT ns).spel.take 7)).length = nest at hkv hrv
  have hP' := hP
  have hdl7 : ((aT ns).due.take 7).length ≤ 7 := by rw [List.length_take]; omega
  refine lawE h₀ L fa cd u2 _ Q E1 pq _ ((aT ns).due.take 7) lr lk lD kvs rvs dv7 kk kr w5 w4 w3' w2' w1' w0' c4 F2 X B T N2 d4 d1' hL hdv7 hdl7 fun h3 tk3 lg gvs kg w4' hgv d4' F3 N3 => ?_
  refine lawF h₀ L fa cd u2 _ Q E1 pq _ ((aT ns).due.take 7) nest.2.reverse.flatten lg lr lk lD gvs kvs rvs dv7 kg kk kr w5 w4' w3' w2' w1' w0' F3 X B T N3 d4' d3' hL hgv hdl7 hG hrv (hn1 ▸ hP.hrl) (hn1 ▸ hP.hr4) (hn1 ▸ hP.hgood) (hn1 ▸ hP.htake) fun h4 tk4 g4 hG4 F4 N4 => ?_
  refine lawG h₀ L fa cd u2 _ Q E1 pq _ ((aT ns).due.take 7) ((aT ns).spel.take 7) tw lg lr lk lD gvs kvs rvs dv7 kg kk kr w5 w4' w3' w2' w1' w0' F4 X B T N4 d4' d0' hL hgv hdl7 hP.hwd fun h5 tk5 lw wvs kw hwv F5 N5 => ?_
  refine lawH h₀ L fa cd u2 _ Q E1 pq _ _ ((aT ns).due.take 7) lw lg lr lk lD wvs gvs kvs rvs dv7 kw kg kk kr w5 w4' w3' w2' w1' w0' c5 F5 X B T N5 d5 d4' d1' hL hgv hdv7 hdl7 fun h6 tk6 ls c ks w5' hc d5' F6 N6 => ?_
  refine lawI h₀ L fa cd u2 _ Q E1 pq _ ((aT ns).due.take 7) nest.1 (wordsTo ((aT ns).spel.take 7) ((aT ns).due.take 7) ((aT ns).due.take 7).length) ls lw lk c wvs kvs ks kw kk w5' w2' F6 X B T N6 d5' d2' hL hc hkv (hn1 ▸ hP.hkl) hwv hdl7 (by simp [wordsTo]) (hn1 ▸ hP.hdom) (hn1 ▸ hP.hfin) fun u7 h7 tk7 ps news7 F7 N7 => ?_
  exact k u7 h7 tk7 g4 ps pq news7 hG4 F7 N7
end
section
/-! the tables as the top leaves them -/
noncomputable def keyOk (e : DictEntry) : Bool := match e.key with | .int k _ => e.hash == hashInt k | _ => false
theorem b3keys : b3all.all keyOk = true := by kernel_rfl
noncomputable def intAt (k : Int) (l : List DictEntry) : Option Value := (l.find? fun e => Value.isInt k e.key).map (·.val)
noncomputable def elOk (e : Int × Value) : Bool := (match e.2 with | .int k _ => e.1 == hashInt k | _ => false) && e.2.scannable
theorem b3data (P : Params) : o70v0 P = { cls := .type "dict", dict := none, data := .dict b3all.toArray 650, slots := #[] } := by kernel_rfl
theorem tabs70 (w : World) (h : Heap) (X : (heapK w.params).In h) : h.MapOf (intKind PySem.Challenge.pw_wf0071_01 w) 70 (fun k => intAt k b3all) := by
  refine ⟨_, b3all.toArray, 650, X 70 _ (show (heapK w.params).lookup 70 = some (o70v0 w.params) by kernel_rfl), ?_, ?_, ?_, fun k => ?_⟩
  · rw [b3data]; exact ⟨rfl, rfl, rfl⟩
  · rw [b3data]
  · intro e he
    have h2 := List.all_eq_true.mp b3keys e (by simpa using he)
    unfold keyOk at h2
    split at h2
    · rename_i k t hk
      exact ⟨k, by rw [hk]; simp [intKind, Value.isInt], beq_iff_eq.mp h2⟩
    · cases h2
  · simp [findBy, intAt, intKind]
noncomputable def b1l (P : Params) : List (Int × Value) := match (o59v0 P).data with | .set es _ _ => es.toList | _ => []
noncomputable def inB1 (l : List (Int × Value)) (k : Int) : Bool := l.any fun e => Value.isInt k e.2
theorem b1data (P : Params) : ∃ ep t, (o59v0 P).data = .set (b1l P).toArray ep t ∧ t.fits 27 = true := by
  unfold b1l o59v0
  exact ⟨_, _, rfl, by kernel_rfl⟩
theorem b1keys (P : Params) : (b1l P).all elOk = true := by kernel_rfl
theorem tabs59 (w : World) (h : Heap) (X : (heapK w.params).In h) : h.SetOf (intKind PySem.Challenge.pw_wf0071_01 w) 59 (inB1 (b1l w.params)) 27 := by
  obtain ⟨ep, t, hd, hf⟩ := b1data w.params
  have hs : (b1l w.params).toArray.size = 27 := by kernel_rfl
  refine ⟨_, (b1l w.params).toArray, ep, t, X 59 _ (show (heapK w.params).lookup 59 = some (o59v0 w.params) by kernel_rfl), ⟨rfl, rfl, rfl⟩, hd, ?_, fun k => ?_, by rw [hs]; decide, by rw [hs]; exact hf, hs⟩
  · intro e he
    have h2 := List.all_eq_true.mp (b1keys w.params) e (by simpa using he)
    unfold elOk at h2
    rw [Bool.and_eq_true] at h2
    refine ⟨?_, h2.2⟩
    have h3 := h2.1
    split at h3
    · rename_i k t hk
      exact ⟨k, by rw [hk]; simp [intKind, Value.isInt], beq_iff_eq.mp h3⟩
    · cases h3
  · simp [inB1, intKind]
end
section
noncomputable def strIs (v : Option Value) (x : Str) : Bool := match v with | some (.str y _) => y == x | _ => false
theorem strIs_ex {v : Option Value} {x : Str} (h : strIs v x = true) : ∃ t, v = some (.str x t) := by
  unfold strIs at h
  split at h
  · rename_i y t
    exact ⟨t, by rw [beq_iff_eq.mp h]⟩
  · cases h
theorem tabs_none : ([70, 73, 76, 83, 84] : List Nat).all (fun c => (intAt (c : Int) b3all).isNone) = true := by kernel_rfl
theorem tabs_some : ([383, 223, 64256, 64257, 64258, 64259, 64260, 64261, 64262] : List Nat).all (fun c => strIs (intAt (c : Int) b3all) (strC (meansT.getD (codesT.idxOf c) []))) = true := by kernel_rfl
theorem tabs_be (P : Params) : ([173, 8205, 8288, 65279] : List Nat).all (fun c => inB1 (b1l P) c) = true := by kernel_rfl
theorem tabs_no (P : Params) : codesT.all (fun c => !inB1 (b1l P) c) = true := by kernel_rfl
theorem codes_two : ∀ c ∈ codesT, c ∈ ([70, 73, 76, 83, 84] : List Nat) ∨ c ∈ ([383, 223, 64256, 64257, 64258, 64259, 64260, 64261, 64262] : List Nat) := by decide
theorem tabsOk (P : Params) : TabsOk (fun k => intAt k b3all) (inB1 (b1l P)) := by
  refine ⟨fun c hc => ?_, fun c hc => ⟨?_, ?_⟩⟩
  · exact List.all_eq_true.mp (tabs_be P) c (by rcases hc with rfl | rfl | rfl | rfl <;> decide)
  · have := List.all_eq_true.mp (tabs_no P) c hc
    simpa using this
  · by_cases h : c ∈ ([70, 73, 76, 83, 84] : List Nat)
    · refine .inl ⟨by simpa using h, ?_⟩
      have := List.all_eq_true.mp tabs_none c h
      simpa using this
    · refine .inr (strIs_ex (List.all_eq_true.mp tabs_some c ?_))
      exact (codes_two c hc).resolve_left h
end
section
/-! the order of int lists, and the next smaller ending -/
theorem ltL_irrefl : ∀ a : List Int, ltL a a = false
  | [] => rfl
  | x :: a => by simp [ltL, ltL_irrefl a]
theorem ltL_trans : ∀ {a b c : List Int}, ltL a b = true → ltL b c = true → ltL a c = true
  | _, [], _, h, _ => by simp [ltL] at h
  | _, _ :: _, [], _, h => by simp [ltL] at h
  | [], _ :: _, _ :: _, _, _ => by simp [ltL]
  | x :: a, y :: b, z :: c, h1, h2 => by
    simp only [ltL] at h1 h2 ⊢
    by_cases e1 : x = y
    · by_cases e2 : y = z
      · rw [if_pos e1] at h1
        rw [if_pos e2] at h2
        rw [if_pos (e1.trans e2)]
        exact ltL_trans h1 h2
      · rw [if_neg e2] at h2
        rw [if_neg (by omega)]
        have := of_decide_eq_true h2
        exact decide_eq_true (by omega)
    · rw [if_neg e1] at h1
      have h1' := of_decide_eq_true h1
      by_cases e2 : y = z
      · rw [if_neg (by omega)]
        exact decide_eq_true (by omega)
      · rw [if_neg e2] at h2
        have h2' := of_decide_eq_true h2
        rw [if_neg (by omega)]
        exact decide_eq_true (by omega)
theorem ltL_total : ∀ (a b : List Int), a ≠ b → ltL a b = true ∨ ltL b a = true
  | [], [], h => absurd rfl h
  | [], _ :: _, _ => .inl rfl
  | _ :: _, [], _ => .inr rfl
  | x :: a, y :: b, h => by
    simp only [ltL]
    by_cases e : x = y
    · subst e
      rw [if_pos rfl, if_pos rfl]
      exact ltL_total a b fun q => h (by rw [q])
    · rw [if_neg e, if_neg (Ne.symm e)]
      rcases Int.lt_or_gt_of_ne e with h | h
      · exact .inl (decide_eq_true h)
      · exact .inr (decide_eq_true h)
theorem leL_eq : ∀ (a b : List Int), leL a b = !(ltL b a)
  | [], b => by simp [leL, ltL]
  | _ :: _, [] => by simp [leL, ltL]
  | x :: a, y :: b => by
    simp only [leL, ltL]
    by_cases e : x = y
    · subst e
      rw [if_pos rfl, if_pos rfl]
      exact leL_eq a b
    · rw [if_neg e, if_neg (Ne.symm e)]
      by_cases h : x ≤ y
      · rw [decide_eq_true h, decide_eq_false (by omega)]; rfl
      · rw [decide_eq_false h, decide_eq_true (by omega)]; rfl
theorem ltL_app : ∀ (u a b : List Int), ltL (u ++ a) (u ++ b) = ltL a b
  | [], _, _ => rfl
  | x :: u, a, b => by simp [ltL, ltL_app u a b]
theorem ltL_asymm {a b : List Int} (h : ltL a b = true) : ltL b a = false := by
  cases e : ltL b a with
  | false => rfl
  | true => have := ltL_trans h e; rw [ltL_irrefl] at this; cases this
/-- a list below another: it is a front of it, or they part -/
theorem ltL_parts : ∀ {a b : List Int}, ltL a b = true → (∃ c, c ≠ [] ∧ b = a ++ c) ∨ (∀ z z', ltL (a ++ z) (b ++ z') = true)
  | _, [], h => by simp [ltL] at h
  | [], y :: b, _ => .inl ⟨y :: b, by simp, rfl⟩
  | x :: a, y :: b, h => by
    simp only [ltL] at h
    by_cases e : x = y
    · subst e
      rw [if_pos rfl] at h
      rcases ltL_parts h with ⟨c, hc, rfl⟩ | h
      · exact .inl ⟨c, hc, rfl⟩
      · exact .inr fun z z' => by simp [ltL, h z z']
    · rw [if_neg e] at h
      exact .inr fun z z' => by simp [ltL, e, of_decide_eq_true h]
theorem ltL_front {a c : List Int} (h : c ≠ []) : ltL a (a ++ c) = true := by
  have := ltL_app a [] c
  rw [List.append_nil] at this
  rw [this]
  cases c with
  | nil => exact absurd rfl h
  | cons _ _ => rfl
/-- a front of the lower list is not above a front at least as long of the upper one -/
theorem leL_take {a b : List Int} (h : ltL a b = true) {x y : Nat} (hxy : x ≤ y) : leL (a.take x) (b.take y) = true := by
  rw [leL_eq]
  cases e : ltL (b.take y) (a.take x) with
  | false => rfl
  | true =>
    exfalso
    rcases ltL_parts e with ⟨c, hc, hb⟩ | e
    · have h1 : (a.take x).length = (b.take y).length + c.length := by rw [hb, List.length_append]
      have h2 : 0 < c.length := List.length_pos_iff.mpr hc
      rw [List.length_take, List.length_take] at h1
      have h3 : b.take y = b := List.take_of_length_le (by omega)
      rw [h3] at hb
      have h4 : a = b ++ (c ++ a.drop x) := by
        rw [← List.append_assoc, ← hb, List.take_append_drop]
      have h5 : ltL b a = true := by
        rw [h4]
        exact ltL_front (by simp [hc])
      rw [ltL_asymm h] at h5
      cases h5
    · have := e (b.drop y) (a.drop x)
      rw [List.take_append_drop, List.take_append_drop, ltL_asymm h] at this
      cases this
noncomputable def IsNx (ns : List Int) (i N : Nat) : Prop := i < N ∧ N ≤ ns.length ∧ ltL (ns.drop N) (ns.drop i) = true ∧ ∀ m, i < m → m < N → ltL (ns.drop i) (ns.drop m) = true
theorem drop_ne {ns : List Int} {i m : Nat} (h : i < m) (hm : i < ns.length) : ns.drop i ≠ ns.drop m := fun e => by
  have := congrArg List.length e
  rw [List.length_drop, List.length_drop] at this
  omega
theorem nx_from (ns : List Int) (i : Nat) (hi : i < ns.length) : ∀ k, i + 1 + k ≤ ns.length → (∀ m, i < m → m < i + 1 + (ns.length - (i + 1 + k)) → ltL (ns.drop i) (ns.drop m) = true) → ∃ N, IsNx ns i N
  | 0, hk, h => by
    refine ⟨ns.length, hi, Nat.le_refl _, ?_, fun m h1 h2 => h m h1 (by omega)⟩
    rw [List.drop_length]
    cases e : ns.drop i with
    | nil => have := congrArg List.length e; rw [List.length_drop] at this; simp at this; omega
    | cons _ _ => rfl
  | k + 1, hk, h => by
    cases e : ltL (ns.drop (i + 1 + (ns.length - (i + 1 + (k + 1))))) (ns.drop i) with
    | true => exact ⟨_, by omega, by omega, e, h⟩
    | false =>
      refine nx_from ns i hi k (by omega) fun m h1 h2 => ?_
      by_cases hm : m < i + 1 + (ns.length - (i + 1 + (k + 1)))
      · exact h m h1 hm
      · have : m = i + 1 + (ns.length - (i + 1 + (k + 1))) := by omega
        subst this
        rcases ltL_total _ _ (drop_ne h1 hi) with q | q
        · exact q
        · rw [e] at q; cases q
theorem nx_ex (ns : List Int) (i : Nat) (hi : i < ns.length) : ∃ N, IsNx ns i N :=
  nx_from ns i hi (ns.length - (i + 1)) (by omega) fun m h1 h2 => by omega
theorem nx_one {ns : List Int} {i N N' : Nat} (h : IsNx ns i N) (h' : IsNx ns i N') : N = N' := by
  rcases Nat.lt_trichotomy N N' with q | q | q
  · have := ltL_asymm (h'.2.2.2 N h.1 q); rw [h.2.2.1] at this; cases this
  · exact q
  · have := ltL_asymm (h.2.2.2 N' h'.1 q); rw [h'.2.2.1] at this; cases this
end
section
/-! the longest Lyndon word at a place ends at the next smaller ending -/
theorem cut_at (ns : List Int) {m N : Nat} (h : m ≤ N) : ns.drop m = (ns.drop m).take (N - m) ++ ns.drop N := by
  conv => lhs; rw [← List.take_append_drop (N - m) (ns.drop m)]
  rw [List.drop_drop, show m + (N - m) = N by omega]
theorem len_cut {ns : List Int} {i N : Nat} (h : N ≤ ns.length) : ((ns.drop i).take (N - i)).length = N - i := by
  rw [List.length_take, List.length_drop]
  exact Nat.min_eq_left (Nat.sub_le_sub_right h i)
/-- the stretch up to the next smaller ending comes before its own endings -/
theorem nx_lyn {ns : List Int} {i N m : Nat} (h : IsNx ns i N) (h1 : i < m) (h2 : m < N) : ltL ((ns.drop i).take (N - i)) ((ns.drop m).take (N - m)) = true := by
  have hiN := h.1
  have hN := h.2.1
  have hm := h.2.2.2 m h1 h2
  have eu := cut_at ns (Nat.le_of_lt hiN)
  have ev := cut_at ns (Nat.le_of_lt h2)
  have lu : ((ns.drop i).take (N - i)).length = N - i := len_cut hN
  have lv : ((ns.drop m).take (N - m)).length = N - m := len_cut hN
  generalize hu : (ns.drop i).take (N - i) = u at *
  generalize hv : (ns.drop m).take (N - m) = v at *
  have hne : u ≠ v := fun e => by rw [e] at lu; omega
  rcases ltL_total u v hne with q | q
  · exact q
  exfalso
  rcases ltL_parts q with ⟨c, hc, rfl⟩ | q
  · rw [eu, ev, List.append_assoc, ltL_app] at hm
    have hi' : ns.drop (i + (N - m)) = c ++ ns.drop N := by
      rw [← List.drop_drop, eu, List.append_assoc, ← lv, List.drop_left]
    rw [← hi'] at hm
    have h3 := h.2.2.2 (i + (N - m)) (by omega) (by omega)
    have h4 := ltL_trans hm h.2.2.1
    rw [ltL_asymm h3] at h4
    cases h4
  · have := q (ns.drop N) (ns.drop N)
    rw [← eu, ← ev, ltL_asymm hm] at this
    cases this
theorem msL_nil {ns : List Int} {i N : Nat} (h : IsNx ns i N) : msL ns i N (N - (i + 1)) = [] := by
  unfold msL
  rw [List.map_eq_nil_iff, List.filter_eq_nil_iff]
  intro u hu
  have hu' := List.mem_range.mp hu
  rw [leL_eq, nx_lyn h (by omega) (by omega)]
  decide
theorem msL_some {ns : List Int} {i N J t : Nat} (h : IsNx ns i N) (hJ : N < J) (ht : N - (i + 1) < t) : msL ns i J t ≠ [] := by
  unfold msL
  intro e
  rw [List.map_eq_nil_iff, List.filter_eq_nil_iff] at e
  have hiN := h.1
  refine e (N - (i + 1)) (List.mem_range.mpr ht) ?_
  rw [show i + 1 + (N - (i + 1)) = N by omega]
  exact leL_take h.2.2.1 (by omega)
theorem longAt_nx {ns : List Int} {i N : Nat} (h : IsNx ns i N) : ∀ d : Nat, longAt ns i (N - i + d) = ((N - i : Nat) : Int)
  | 0 => by
    have hiN := h.1
    rw [Nat.add_zero, show N - i = (N - (i + 1)) + 1 by rw [Nat.sub_add_eq]; exact (Nat.sub_add_cancel (Nat.sub_pos_of_lt hiN)).symm, longAt, show i + 1 + (N - (i + 1)) = N from Nat.add_sub_cancel' hiN, if_pos (msL_nil h)]
  | d + 1 => by
    have hiN := h.1
    rw [← Nat.add_assoc, longAt, if_neg (msL_some h (by omega) (by omega))]
    exact longAt_nx h d
theorem long_nx {ns : List Int} {i N : Nat} (h : IsNx ns i N) : longT ns i = ((N - i : Nat) : Int) := by
  have hiN := h.1
  have hN := h.2.1
  unfold longT
  rw [show ns.length - i = N - i + (ns.length - N) by rw [Nat.add_comm]; exact (Nat.sub_add_sub_cancel hN (Nat.le_of_lt hiN)).symm]
  exact longAt_nx h _
/-- the Lyndon words of a chain never rise -/
theorem nx_fall {ns : List Int} {i N M : Nat} (h : IsNx ns i N) (h' : IsNx ns N M) : ltL ((ns.drop i).take (N - i)) ((ns.drop N).take (M - N)) = false := by
  cases q : ltL ((ns.drop i).take (N - i)) ((ns.drop N).take (M - N)) with
  | false => rfl
  | true =>
    exfalso
    have hiN := h.1
    have hNM := h'.1
    have hM := h'.2.1
    have eu := cut_at ns (Nat.le_of_lt hiN)
    have ev := cut_at ns (Nat.le_of_lt hNM)
    have hlt := h.2.2.1
    have lu : ((ns.drop i).take (N - i)).length = N - i := len_cut h.2.1
    have lv : ((ns.drop N).take (M - N)).length = M - N := len_cut hM
    generalize hu : (ns.drop i).take (N - i) = u at *
    generalize hv : (ns.drop N).take (M - N) = v at *
    rcases ltL_parts q with ⟨c, hc, rfl⟩ | q
    · have hcl : 0 < c.length := List.length_pos_iff.mpr hc
      rw [List.length_append] at lv
      rw [eu] at hlt
      conv at hlt => lhs; arg 1; rw [ev, List.append_assoc]
      rw [ltL_app] at hlt
      have hi' : ns.drop (N + (N - i)) = c ++ ns.drop M := by
        rw [← List.drop_drop, ev, List.append_assoc, ← lu, List.drop_left]
      rw [← hi'] at hlt
      have h3 := h'.2.2.2 (N + (N - i)) (by omega) (by omega)
      rw [ltL_asymm h3] at hlt
      cases hlt
    · have := q (ns.drop N) (ns.drop M)
      rw [← eu, ← ev, ltL_asymm hlt] at this
      cases this
end
section
/-! rows of brackets -/
noncomputable def balGo : List Bool → Int → Bool
  | [], o => decide (o = 0)
  | true :: r, o => balGo r (o + 1)
  | false :: r, o => if o - 1 < 0 then false else balGo r (o - 1)
noncomputable def exc : List Bool → Int
  | [] => 0
  | true :: r => 1 + exc r
  | false :: r => exc r - 1
theorem bal_exc : ∀ (l : List Bool) (o : Int), balGo l o = true → o + exc l = 0
  | [], o, h => by simpa [balGo, exc] using h
  | true :: r, o, h => by
    have := bal_exc r (o + 1) h
    simp only [exc]
    omega
  | false :: r, o, h => by
    simp only [balGo] at h
    split at h
    · cases h
    · have := bal_exc r (o - 1) h
      simp only [exc]
      omega
theorem exc_app : ∀ (a b : List Bool), exc (a ++ b) = exc a + exc b
  | [], b => by simp [exc]
  | true :: a, b => by simp only [List.cons_append, exc, exc_app a b]; omega
  | false :: a, b => by simp only [List.cons_append, exc, exc_app a b]; omega
/-- a row of nests, and how many brackets open in each -/
inductive Fst : List Bool → List Int → Prop
  | nil : Fst [] []
  | node {a b : List Bool} {s t : List Int} : Fst a s → Fst b t → Fst (true :: (a ++ false :: b)) (((s.length : Int) + 1) :: (s ++ t))
theorem Fst.app {a b : List Bool} {s t : List Int} (h : Fst a s) (h' : Fst b t) : Fst (a ++ b) (s ++ t) := by
  induction h with
  | nil => exact h'
  | @node a1 b1 s1 t1 h1 h2 ih1 ih2 =>
    have := Fst.node h1 ih2
    simpa [List.append_assoc] using this
theorem Fst.len {a : List Bool} {s : List Int} (h : Fst a s) : a.length = 2 * s.length := by
  induction h with
  | nil => rfl
  | node _ _ ih1 ih2 => simp only [List.length_cons, List.length_append]; omega
theorem Fst.exc0 {a : List Bool} {s : List Int} (h : Fst a s) : exc a = 0 := by
  induction h with
  | nil => rfl
  | node _ _ ih1 ih2 => simp only [exc, exc_app, ih1, ih2]; rfl
theorem Fst.up {a : List Bool} {s : List Int} (h : Fst a s) : ∀ k, 0 ≤ exc (a.take k) := by
  induction h with
  | nil => intro k; simp [exc]
  | @node a b s t h1 h2 ih1 ih2 =>
    intro k
    cases k with
    | zero => simp [exc]
    | succ k =>
      rw [List.take_succ_cons, List.take_append, exc, exc_app]
      have i1 := ih1 k
      cases hk : k - a.length with
      | zero => simp only [List.take_zero, exc]; omega
      | succ j =>
        have e0 : exc (a.take k) = 0 := by rw [List.take_of_length_le (by omega)]; exact h1.exc0
        rw [List.take_succ_cons, exc, e0]
        have := ih2 j
        omega
theorem Fst.bal {a : List Bool} {s : List Int} (h : Fst a s) : ∀ (r : List Bool) (o : Int), 0 ≤ o → balGo (a ++ r) o = balGo r o := by
  induction h with
  | nil => intro r o _; rfl
  | @node a b s t h1 h2 ih1 ih2 =>
    intro r o ho
    rw [List.cons_append, balGo, List.append_assoc, ih1 _ _ (by omega), List.cons_append, balGo, if_neg (by omega), show o + 1 - 1 = o by omega]
    exact ih2 r o ho
/-- the front up to the bracket's own closing one; before it none is whole -/
theorem front_no {a : List Bool} {s : List Int} (h : Fst a s) (b : List Bool) {k : Nat} (hk : k ≤ a.length) : balGo ((true :: (a ++ b)).take (k + 1)) 0 = false := by
  cases e : balGo ((true :: (a ++ b)).take (k + 1)) 0 with
  | false => rfl
  | true =>
    exfalso
    have := bal_exc _ _ e
    rw [List.take_succ_cons, exc, List.take_append_of_le_length hk] at this
    have := h.up k
    omega
theorem front_yes {a : List Bool} {s : List Int} (h : Fst a s) (b : List Bool) : balGo ((true :: (a ++ false :: b)).take (a.length + 1 + 1)) 0 = true := by
  rw [List.take_succ_cons, List.take_append, List.take_of_length_le (by omega), show a.length + 1 - a.length = 1 by omega, List.take_succ_cons, List.take_zero, balGo, h.bal _ _ (by omega), balGo]
  rfl
theorem turned_no {a : List Bool} {s : List Int} (h : Fst a s) : balGo (a ++ [false, true]) 0 = false := by
  rw [h.bal _ _ (Int.le_refl _), balGo]
  rfl
end
section
noncomputable def takenBGo (r : List Bool) (p : Nat) : Nat → Nat → Int
  | 0, _ => 0
  | n + 1, q => if balGo ((r.drop p).take (q - p)) 0 = true then (if balGo ((r.drop (p + 1)).take (q - (p + 1)) ++ (r.drop p).take (p + 1 - p)) 0 = false then ((q - p) / 2 : Nat) else 0) else takenBGo r p n (q + 2)
noncomputable def takenB (r : List Bool) (p : Nat) : Int := takenBGo r p ((r.length - p) / 2) (p + 2)
theorem takenB_go {a : List Bool} {s : List Int} (h : Fst a s) (pre b : List Bool) : ∀ (d j n : Nat), j + d = s.length → d + 1 ≤ n → takenBGo (pre ++ (true :: (a ++ false :: b))) pre.length n (pre.length + 2 + 2 * j) = (s.length : Int) + 1
  | d, j, 0, _, hn => by omega
  | 0, j, n + 1, hj, _ => by
    have hl := h.len
    have e1 : (pre ++ (true :: (a ++ false :: b))).drop pre.length = true :: (a ++ false :: b) := List.drop_left
    have e2 : (pre ++ (true :: (a ++ false :: b))).drop (pre.length + 1) = a ++ false :: b := by rw [← List.drop_drop, e1]; rfl
    have e3 : balGo ((true :: (a ++ false :: b)).take (a.length + 1 + 1)) 0 = true := front_yes h b
    rw [takenBGo, e1, e2, show pre.length + 2 + 2 * j - pre.length = a.length + 1 + 1 by omega, if_pos e3, show pre.length + 2 + 2 * j - (pre.length + 1) = a.length + 1 by omega, show pre.length + 1 - pre.length = 1 by omega]
    have e4 : (a ++ false :: b).take (a.length + 1) ++ (true :: (a ++ false :: b)).take 1 = a ++ [false, true] := by
      rw [List.take_append, List.take_of_length_le (by omega), show a.length + 1 - a.length = 1 by omega]
      simp
    rw [e4, if_pos (turned_no h), hl]
    omega
  | d + 1, j, n + 1, hj, hn => by
    have hl := h.len
    have e1 : (pre ++ (true :: (a ++ false :: b))).drop pre.length = true :: (a ++ false :: b) := List.drop_left
    have e3 := front_no h (false :: b) (k := 2 * j + 1) (by omega)
    rw [takenBGo, e1, show pre.length + 2 + 2 * j - pre.length = 2 * j + 1 + 1 by omega, e3, if_neg (by decide)]
    exact takenB_go h pre b d (j + 1) n (by omega) (by omega)
theorem takenB_at {a : List Bool} {s : List Int} (h : Fst a s) (pre b : List Bool) : takenB (pre ++ (true :: (a ++ false :: b))) pre.length = (s.length : Int) + 1 := by
  have hl := h.len
  unfold takenB
  refine takenB_go h pre b s.length 0 _ (by omega) ?_
  simp only [List.length_append, List.length_cons]
  omega
noncomputable def takesB (r : List Bool) (a k : Nat) : List Int := ((List.range' a k).filter fun p => r.getD p false).map (takenB r)
theorem takesB_cons (r : List Bool) (a k : Nat) : takesB r a (k + 1) = (if r.getD a false = true then [takenB r a] else []) ++ takesB r (a + 1) k := by
  unfold takesB
  rw [List.range'_succ]
  cases h : r.getD a false with
  | true => rw [List.filter_cons_of_pos (p := fun p => r.getD p false) h]; rfl
  | false => rw [List.filter_cons_of_neg (p := fun p => r.getD p false) (by rw [h]; decide)]; rfl
theorem takesB_add (r : List Bool) (a k j : Nat) : takesB r a (k + j) = takesB r a k ++ takesB r (a + k) j := by
  unfold takesB
  rw [← List.range'_append_1, List.filter_append, List.map_append]
theorem getD_mid {α : Type} (pre : List α) (x d : α) (r : List α) : (pre ++ x :: r).getD pre.length d = x := by
  rw [List.getD_eq_getElem?_getD, List.getElem?_append_right (Nat.le_refl _), Nat.sub_self]
  rfl
theorem takesB_all {l : List Bool} {s : List Int} (h : Fst l s) : ∀ (r pre post : List Bool), r = pre ++ l ++ post → takesB r pre.length l.length = s := by
  induction h with
  | nil => intro r pre post _; rfl
  | @node a b s t h1 h2 ih1 ih2 =>
    intro r pre post hr
    have hr0 : r = pre ++ (true :: (a ++ false :: (b ++ post))) := by rw [hr]; simp [List.append_assoc]
    have i1 := ih1 r (pre ++ [true]) (false :: (b ++ post)) (by rw [hr0]; simp [List.append_assoc])
    have i2 := ih2 r (pre ++ true :: (a ++ [false])) post (by rw [hr0]; simp [List.append_assoc])
    have g1 : r.getD pre.length false = true := by rw [hr0]; exact getD_mid _ _ _ _
    have g2 : r.getD (pre.length + 1 + a.length) false = false := by
      have : r = (pre ++ true :: a) ++ false :: (b ++ post) := by rw [hr0]; simp [List.append_assoc]
      have e : pre.length + 1 + a.length = (pre ++ true :: a).length := by simp; omega
      rw [this, e]
      exact getD_mid _ _ _ _
    have ht : takenB r pre.length = (s.length : Int) + 1 := by rw [hr0]; exact takenB_at h1 pre _
    rw [List.length_append, List.length_singleton] at i1
    have e2 : (pre ++ true :: (a ++ [false])).length = pre.length + 1 + a.length + 1 := by simp; omega
    rw [e2] at i2
    rw [List.length_cons, takesB_cons, if_pos g1, ht, List.length_append, takesB_add, i1, List.length_cons, takesB_cons, g2, if_neg (by decide), List.nil_append, i2]
    rfl
end
section
/-! the search finds the place -/
theorem bisGo_at (f : Nat → Bool) : ∀ (fu : Nat) (lo hi : Int) (c : Nat), 0 ≤ lo → lo ≤ c → (c : Int) ≤ hi → hi - lo ≤ fu → (∀ j : Nat, lo ≤ j → j < c → f j = true) → (∀ j : Nat, c ≤ j → (j : Int) < hi → f j = false) → bisGo f fu lo hi = c
  | 0, lo, hi, c, h0, h1, h2, h3, _, _ => by rw [bisGo]; omega
  | fu + 1, lo, hi, c, h0, h1, h2, h3, ht, hf => by
    rw [bisGo]
    split
    · rename_i hlt
      have b1 : lo ≤ (lo + hi) / 2 := by omega
      have b2 : (lo + hi) / 2 < hi := by omega
      generalize (lo + hi) / 2 = md at b1 b2 ⊢
      have hm : (md.toNat : Int) = md := Int.toNat_of_nonneg (by omega)
      split
      · rename_i hft
        have hc : md < c := by
          rcases Int.lt_or_le (md) c with q | q
          · exact q
          · have := hf md.toNat (by omega) (by omega)
            rw [this] at hft
            cases hft
        exact bisGo_at f fu _ hi c (by omega) (by omega) h2 (by omega) (fun j h4 h5 => ht j (by omega) h5) hf
      · rename_i hff
        have hc : (c : Int) ≤ md := by
          rcases Int.lt_or_le (md) c with q | q
          · exact absurd (ht md.toNat (by omega) (by omega)) hff
          · exact q
        exact bisGo_at f fu lo _ c h0 h1 hc (by omega) ht (fun j h4 h5 => hf j h4 (by omega))
    · omega
theorem bisT_at (keyOf : Int → Str) (ns : List Int) (x : Str) (c : Nat) (hc : c ≤ ns.length) (ht : ∀ j, j < c → bisF keyOf ns x j = true) (hf : ∀ j, c ≤ j → j < ns.length → bisF keyOf ns x j = false) : bisT keyOf ns x = c := by
  unfold bisT
  exact bisGo_at _ _ _ _ c (Int.le_refl 0) (by omega) (by omega) (by omega) (fun j _ h => ht j h) (fun j h1 h2 => hf j h1 (by omega))
end
section
/-! letters and numbers stand in the same order -/
noncomputable def IsL (c : Nat) : Prop := c = 102 ∨ c = 105 ∨ c = 108 ∨ c = 115 ∨ c = 116
theorem num_lt {g0 : Int} {a b : Nat} (ha : IsL a) (hb : IsL b) : (numT g0 a < numT g0 b) = (a < b) := by
  unfold numT
  rcases ha with rfl | rfl | rfl | rfl | rfl <;> rcases hb with rfl | rfl | rfl | rfl | rfl <;> simp [idxT] <;> omega
theorem num_eq {g0 : Int} {a b : Nat} (ha : IsL a) (hb : IsL b) : (numT g0 a = numT g0 b) = (a = b) := by
  unfold numT
  rcases ha with rfl | rfl | rfl | rfl | rfl <;> rcases hb with rfl | rfl | rfl | rfl | rfl <;> simp [idxT] <;> omega
theorem lets_lt (g0 : Int) : ∀ (a b : List Nat), (∀ c ∈ a, IsL c) → (∀ c ∈ b, IsL c) → decide (a < b) = ltL (a.map (numT g0)) (b.map (numT g0))
  | a, [], _, _ => by
    have : ¬ a < ([] : List Nat) := List.not_lt_nil a
    simp [ltL, this]
  | [], y :: b, _, _ => by
    have : ([] : List Nat) < y :: b := List.nil_lt_cons y b
    simp [ltL, this]
  | x :: a, y :: b, ha, hb => by
    have ih := lets_lt g0 a b (fun c hc => ha c (.tail _ hc)) (fun c hc => hb c (.tail _ hc))
    have hx := ha x (.head _)
    have hy := hb y (.head _)
    rw [List.map_cons, List.map_cons, ltL]
    by_cases e : x = y
    · subst e
      rw [if_pos rfl, ← ih]
      simp [List.cons_lt_cons_iff]
    · rw [if_neg (by rw [num_eq hx hy]; exact e)]
      simp [List.cons_lt_cons_iff, e, num_lt hx hy]
end
section
/-! the octets read back -/
theorem vr_zeros (r : List Int) : ∀ k : Nat, vr (List.replicate k (64 : Int) ++ r) 0 = vr r 0
  | 0 => rfl
  | k + 1 => by
    rw [List.replicate_succ, List.cons_append, vr, if_pos (by decide)]
    exact vr_zeros r k
theorem vr_octs (n k : Int) (rest : List Int) (h0 : 0 ≤ n) (h1 : n < 10000) : vr (octs n k ++ rest) 0 = some (n, rest) := by
  unfold octs
  rw [List.append_assoc, vr_zeros]
  by_cases h2 : 64 ≤ n
  · by_cases h3 : 64 ≤ n / 64
    · rw [octGo, if_pos h2, octGo, if_pos h3, octGo, if_neg (by omega)]
      simp only [List.cons_append, List.nil_append]
      rw [vr, if_pos (by omega), vr, if_pos (by omega), vr, if_neg (by omega)]
      congr 2
      omega
    · rw [octGo, if_pos h2, octGo, if_neg h3]
      simp only [List.cons_append, List.nil_append]
      rw [vr, if_pos (by omega), vr, if_neg (by omega)]
      congr 2
      omega
  · rw [octGo, if_neg h2]
    simp only [List.cons_append, List.nil_append]
    rw [vr, if_neg (by omega)]
    congr 2
    omega
noncomputable def RdOk (oc due : List Int) : Prop := ∀ (fu : Nat) (rest : List Int), 0 < fu → vrs (due.length + fu) (oc ++ rest) = (vrs fu rest).map (due ++ ·)
theorem rd_nil : RdOk [] [] := fun fu rest _ => by simp
theorem octs_ne (n k : Int) : octs n k ≠ [] := by
  intro e
  have h := octGo_len 3 n [n % 64]
  unfold octs at e
  have e2 := congrArg List.length (List.append_eq_nil_iff.mp e).2
  simp only [List.length_cons, List.length_nil] at e2 h
  omega
theorem rd_snoc {oc due : List Int} {n k : Int} (h : RdOk oc due) (h0 : 0 ≤ n) (h1 : n < 10000) : RdOk (oc ++ octs n k) (due ++ [n]) := by
  intro fu rest hfu
  have hv := vr_octs n k rest h0 h1
  rw [List.append_assoc, List.length_append, List.length_singleton, show due.length + 1 + fu = due.length + (fu + 1) by omega, h (fu + 1) _ (by omega)]
  cases e : octs n k ++ rest with
  | nil => exact absurd (List.append_eq_nil_iff.mp e).1 (octs_ne n k)
  | cons b r =>
    rw [e] at hv
    simp only [vrs, hv, Option.map_map]
    congr 1
    funext l
    simp
theorem octs_lt (n k : Int) (h0 : 0 ≤ n) (h1 : n < 4096 * 64) : ∀ b ∈ octs n k, 0 ≤ b ∧ b < 128 := by
  intro b hb
  unfold octs at hb
  rcases List.mem_append.mp hb with hb | hb
  · have := (List.mem_replicate.mp hb).2
    omega
  · rw [octGo] at hb
    split at hb
    · rw [octGo] at hb
      split at hb
      · rw [octGo] at hb
        split at hb
        · rw [octGo] at hb
          simp only [List.mem_cons, List.not_mem_nil, or_false] at hb
          omega
        · simp only [List.mem_cons, List.not_mem_nil, or_false] at hb
          omega
      · simp only [List.mem_cons, List.not_mem_nil, or_false] at hb
        omega
    · simp only [List.mem_cons, List.not_mem_nil, or_false] at hb
      omega
end
section
/-! joined texts -/
theorem sjoin_flat : ∀ xs : List (List Nat), Str.join (Str.ofString "") (xs.map strC) = strC xs.flatten
  | [] => rfl
  | [x] => by simp [Str.join]
  | x :: y :: r => by
    have ih := sjoin_flat (y :: r)
    have e0 : (Str.ofString "") = strC [] := rfl
    show strC x ++ Str.ofString "" ++ Str.join (Str.ofString "") ((y :: r).map strC) = _
    rw [ih, e0, strC_app, List.append_nil, strC_app]
    rfl
theorem join_flat (xs : List (List Nat)) : Txt.join (Str.ofString "") (xs.map strC) = strC xs.flatten := by
  show Builtin.Str.glued (Str.ofString "") _ = _
  rw [StrLaws.glued_eq_join]
  exact sjoin_flat xs
end
section
/-! the nest's state: a chain of next smaller endings, and the nests' rows -/
inductive NC (ns : List Int) : Nat → List Nat → List (List Str) → Prop
  | nil : NC ns ns.length [] []
  | cons {i N : Nat} {r : List Nat} {g : List Str} {gs : List (List Str)} : IsNx ns i N → NC ns N r gs → Fst (g.map isOp) ((List.range' i (N - i)).map (longT ns)) → NC ns i (i :: r) (g :: gs)
theorem NC.le {ns : List Int} {a : Nat} {r : List Nat} {gs : List (List Str)} (h : NC ns a r gs) : a ≤ ns.length := by
  cases h with
  | nil => exact Nat.le_refl _
  | cons h1 _ _ => exact Nat.le_trans (Nat.le_of_lt h1.1) h1.2.1
theorem NC.len {ns : List Int} {a : Nat} {r : List Nat} {gs : List (List Str)} (h : NC ns a r gs) : r.length = gs.length := by
  induction h with
  | nil => rfl
  | cons _ _ _ ih => simp [ih]
theorem NC.few {ns : List Int} {a : Nat} {r : List Nat} {gs : List (List Str)} (h : NC ns a r gs) : r.length + a ≤ ns.length := by
  induction h with
  | nil => simp
  | cons h1 _ _ ih => have := h1.1; rw [List.length_cons]; omega
theorem NC.mem {ns : List Int} {a : Nat} {r : List Nat} {gs : List (List Str)} (h : NC ns a r gs) : ∀ x ∈ r, a ≤ x ∧ x < ns.length := by
  induction h with
  | nil => intro x hx; cases hx
  | cons h1 h2 _ ih =>
    intro x hx
    have q1 := h1.1
    have q2 := h1.2.1
    rcases List.mem_cons.mp hx with rfl | hx
    · exact ⟨Nat.le_refl _, by omega⟩
    · have := ih x hx
      omega
/-- none kept stands above the first -/
theorem NC.low {ns : List Int} {a : Nat} {r : List Nat} {gs : List (List Str)} (h : NC ns a r gs) : ∀ x ∈ r, ltL (ns.drop a) (ns.drop x) = false := by
  induction h with
  | nil => intro x hx; cases hx
  | @cons i N r g gs h1 h2 _ ih =>
    intro x hx
    rcases List.mem_cons.mp hx with rfl | hx
    · exact ltL_irrefl _
    · cases e : ltL (ns.drop i) (ns.drop x) with
      | false => rfl
      | true =>
        have := ltL_trans h1.2.2.1 e
        rw [ih x hx] at this
        cases this
theorem range_cut {i N M : Nat} (h : i ≤ N) (h2 : N ≤ M) : List.range' i (M - i) = List.range' i (N - i) ++ List.range' N (M - N) := by
  have := List.range'_append_1 (s := i) (m := N - i) (n := M - N)
  rw [Nat.add_sub_cancel' h, show N - i + (M - N) = M - i by rw [Nat.add_comm]; exact Nat.sub_add_sub_cancel h2 h] at this
  exact this.symm
theorem NC.flat {ns : List Int} {a : Nat} {r : List Nat} {gs : List (List Str)} (h : NC ns a r gs) : Fst (gs.flatten.map isOp) ((List.range' a (ns.length - a)).map (longT ns)) := by
  induction h with
  | nil => rw [Nat.sub_self]; exact .nil
  | @cons i N r g gs h1 h2 h3 ih =>
    have q1 := h1.1
    have q2 := h1.2.1
    have e := range_cut (Nat.le_of_lt q1) q2
    rw [e, List.flatten_cons, List.map_append, List.map_append]
    exact h3.app ih
/-- those whose endings stand above the new one's go -/
theorem NC.pop {ns : List Int} {a : Nat} {r : List Nat} {gs : List (List Str)} (h : NC ns a r gs) : ∀ (i : Nat), i < a → (∀ m, i < m → m < a → ltL (ns.drop i) (ns.drop m) = true) →
    ∃ d N, d ≤ r.length ∧ IsNx ns i N ∧ a ≤ N ∧ NC ns N (r.drop d) (gs.drop d) ∧ (∀ x ∈ r.take d, ltL (ns.drop x) (ns.drop i) = false) ∧ (∀ x ∈ r.drop d, ltL (ns.drop x) (ns.drop i) = true) ∧ Fst ((gs.take d).flatten.map isOp) ((List.range' a (N - a)).map (longT ns)) := by
  induction h with
  | nil =>
    intro i hi hm
    refine ⟨0, ns.length, Nat.le_refl _, ⟨hi, Nat.le_refl _, ?_, hm⟩, Nat.le_refl _, .nil, fun x hx => by simp at hx, fun x hx => by simp at hx, by rw [Nat.sub_self]; exact .nil⟩
    rw [List.drop_length]
    cases e : ns.drop i with
    | nil => have := congrArg List.length e; rw [List.length_drop] at this; simp at this; omega
    | cons _ _ => rfl
  | @cons a N r g gs h1 h2 h3 ih =>
    intro i hi hm
    have q1 := h1.1
    have q2 := h1.2.1
    cases e : ltL (ns.drop a) (ns.drop i) with
    | true =>
      refine ⟨0, a, Nat.zero_le _, ⟨hi, by omega, e, hm⟩, Nat.le_refl _, .cons h1 h2 h3, fun x hx => by simp at hx, fun x hx => ?_, by rw [Nat.sub_self]; exact .nil⟩
      rw [List.drop_zero] at hx
      rcases List.mem_cons.mp hx with rfl | hx
      · exact e
      · have e2 := h2.low x hx
        rcases ltL_total (ns.drop x) (ns.drop i) (fun q => by
          have := (h2.mem x hx)
          have := congrArg List.length q
          rw [List.length_drop, List.length_drop] at this
          omega) with q | q
        · exact q
        · have := ltL_trans (ltL_trans h1.2.2.1 e) q
          rw [e2] at this
          cases this
    | false =>
      have ha : ltL (ns.drop i) (ns.drop a) = true := by
        rcases ltL_total _ _ (drop_ne (ns := ns) hi (by omega)) with q | q
        · exact q
        · rw [e] at q; cases q
      obtain ⟨d, M, p1, p2, p3, p4, p5, p6, p7⟩ := ih i (by omega) fun m m1 m2 => by
        rcases Nat.lt_trichotomy m a with q | q | q
        · exact hm m m1 q
        · subst q; exact ha
        · exact ltL_trans ha (h1.2.2.2 m q m2)
      refine ⟨d + 1, M, by rw [List.length_cons]; omega, p2, by omega, p4, fun x hx => ?_, p6, ?_⟩
      · rw [List.take_succ_cons] at hx
        rcases List.mem_cons.mp hx with rfl | hx
        · exact e
        · exact p5 x hx
      · have e2 := range_cut (Nat.le_of_lt q1) p3
        rw [e2, List.take_succ_cons, List.flatten_cons, List.map_append, List.map_append]
        exact h3.app p7
end
section
/-! the pieces of a row: what mail makes of them -/
noncomputable def P5 : List (List Nat) := [[41], [40], [40, 34, 40, 34], [40, 92, 41], [40, 92, 92]]
noncomputable def cutP (c : List Nat) : List Nat := if c = [40, 34, 40, 34] then [40] else c
noncomputable def opP (c : List Nat) : Bool := c != [41]
theorem in5 {c : List Nat} (h : c ∈ P5) : c = [41] ∨ c = [40] ∨ c = [40, 34, 40, 34] ∨ c = [40, 92, 41] ∨ c = [40, 92, 92] := by simpa [P5] using h
theorem op5 {c : List Nat} (h : c ∈ P5) : isOp (strC c) = opP c := by
  rcases in5 h with rfl | rfl | rfl | rfl | rfl <;> decide +kernel
theorem cut5 {c : List Nat} (h : c ∈ P5) : cutP c ∈ P5 := by
  rcases in5 h with rfl | rfl | rfl | rfl | rfl <;> decide
theorem opcut5 {c : List Nat} (h : c ∈ P5) : opP (cutP c) = opP c := by
  rcases in5 h with rfl | rfl | rfl | rfl | rfl <;> decide
theorem end_flat : ∀ g : List (List Nat), (∀ c ∈ g, c ∈ P5) → escEnd false g.flatten = false
  | [], _ => rfl
  | c :: g, h => by
    have ih := end_flat g fun c hc => h c (.tail _ hc)
    rw [List.flatten_cons]
    rcases in5 (h c (.head _)) with rfl | rfl | rfl | rfl | rfl <;> exact ih
theorem len_flat : ∀ g : List (List Nat), (∀ c ∈ g, c ∈ P5) → g.flatten.length ≤ 4 * g.length
  | [], _ => by simp
  | c :: g, h => by
    have ih := len_flat g fun c hc => h c (.tail _ hc)
    rw [List.flatten_cons, List.length_append, List.length_cons]
    have : c.length ≤ 4 := by rcases in5 (h c (.head _)) with rfl | rfl | rfl | rfl | rfl <;> decide
    omega
theorem slice_end (c : List Nat) (i : Nat) (h : i ≤ c.length) : Txt.slice (strC c) (some (i : Int)) none = strC (c.drop i) := by
  have := beq_iff_eq.mp (slice_closes_fromL (x := strC c) (i := (i : Int)) (b := ((strC c).length : Int)) (by omega) (by rw [strC_len]; omega) rfl)
  rw [this, strC_len]
  simp only [strC]
  rw [List.take_of_length_le (by simp)]
  simp
theorem q40 : ((⟨#[40]⟩ : Str) == Str.ofString "\"") = false := by decide +kernel
theorem q41 : ((⟨#[41]⟩ : Str) == Str.ofString "\"") = false := by decide +kernel
theorem q34 : ((⟨#[34]⟩ : Str) == Str.ofString "\"") = true := by decide +kernel
theorem qe1 : ((⟨#[92, 41]⟩ : Str) == Str.ofString "\"") = false := by decide +kernel
theorem qe2 : ((⟨#[92, 92]⟩ : Str) == Str.ofString "\"") = false := by decide +kernel
theorem stay {x : Str} {st : Int × Option Int × List Str} {i : Int} {c : Str} (h : (c == Str.ofString "\"") = false) : stripStep x st (i, c) = st := by
  unfold stripStep
  rw [if_neg (by rw [h]; decide)]
theorem strip_fold : ∀ (g : List (List Nat)) (pre whole : List Nat) (st : Nat) (ys : List (List Nat)), whole = pre ++ g.flatten → st ≤ pre.length → (∀ c ∈ g, c ∈ P5) →
    ∃ (e : Nat) (zs : List (List Nat)), (escs pre.length false g.flatten).foldl (stripStep (strC whole)) ((st : Int), none, ys.map strC) = ((e : Int), none, zs.map strC) ∧ e ≤ whole.length ∧ zs.flatten ++ whole.drop e = ys.flatten ++ pre.drop st ++ (g.map cutP).flatten
  | [], pre, whole, st, ys, hw, hs, _ => by
    rw [List.flatten_nil, List.append_nil] at hw
    subst hw
    exact ⟨st, ys, rfl, hs, by simp⟩
  | c :: g, pre, whole, st, ys, hw, hs, h => by
    have hg : ∀ c ∈ g, c ∈ P5 := fun c hc => h c (.tail _ hc)
    rw [List.flatten_cons] at hw ⊢
    have plain : c ≠ [40, 34, 40, 34] → (escs pre.length false (c ++ g.flatten)).foldl (stripStep (strC whole)) ((st : Int), none, ys.map strC) = (escs (pre ++ c).length false g.flatten).foldl (stripStep (strC whole)) ((st : Int), none, ys.map strC) := by
      intro hc
      rcases in5 (h c (.head _)) with rfl | rfl | rfl | rfl | rfl
      · simp [escs, stay q41]
      · simp [escs, stay q40]
      · exact absurd rfl hc
      · simp [escs, stay q40, stay qe1]
      · simp [escs, stay q40, stay qe2]
    by_cases hc : c = [40, 34, 40, 34]
    · subst hc
      obtain ⟨e, zs, p1, p2, p3⟩ := strip_fold g (pre ++ [40, 34, 40, 34]) whole (pre.length + 4) (ys ++ [pre.drop st ++ [40]]) (by rw [hw]; simp) (by simp) hg
      refine ⟨e, zs, ?_, p2, ?_⟩
      · rw [← p1]
        have hsl : Txt.slice (strC whole) (some (st : Int)) (some ((pre.length + 1 : Nat) : Int)) = strC (pre.drop st ++ [40]) := by
          rw [slice_run whole st (pre.length + 1) (by omega) (by rw [hw]; simp), hw, List.drop_append_of_le_length hs, List.take_append, List.take_of_length_le (by simp; omega), List.length_drop, show pre.length + 1 - st - (pre.length - st) = 1 by omega]
          rfl
        have hne : ¬ ((st : Int) = ((pre.length + 1 : Nat) : Int)) := by omega
        have e1 : escs pre.length false ([40, 34, 40, 34] ++ g.flatten) = (((pre.length : Nat) : Int), (⟨#[40]⟩ : Str)) :: (((pre.length + 1 : Nat) : Int), (⟨#[34]⟩ : Str)) :: (((pre.length + 1 + 1 : Nat) : Int), (⟨#[40]⟩ : Str)) :: (((pre.length + 1 + 1 + 1 : Nat) : Int), (⟨#[34]⟩ : Str)) :: escs (pre ++ [40, 34, 40, 34]).length false g.flatten := by
          simp [escs]
        rw [e1, List.foldl_cons, List.foldl_cons, List.foldl_cons, List.foldl_cons, stay q40, stay q40]
        have e2 : stripStep (strC whole) ((st : Int), none, ys.map strC) (((pre.length + 1 : Nat) : Int), ⟨#[34]⟩) = ((st : Int), some ((pre.length + 1 : Nat) : Int), ys.map strC) := by
          unfold stripStep
          rw [if_pos q34]
        rw [e2]
        have e3 : stripStep (strC whole) ((st : Int), some ((pre.length + 1 : Nat) : Int), ys.map strC) (((pre.length + 1 + 1 + 1 : Nat) : Int), ⟨#[34]⟩) = (((pre.length + 4 : Nat) : Int), none, (ys ++ [pre.drop st ++ [40]]).map strC) := by
          unfold stripStep
          rw [if_pos q34]
          show (_, none, if (st : Int) = ((pre.length + 1 : Nat) : Int) then _ else _) = _
          rw [if_neg hne]
          show (_, none, _ ++ [Txt.slice (strC whole) (some (st : Int)) (some ((pre.length + 1 : Nat) : Int))]) = _
          rw [hsl, List.map_append]
          rfl
        rw [e3]
      · have e0 : (pre ++ [40, 34, 40, 34]).drop (pre.length + 4) = [] := List.drop_of_length_le (by simp)
        rw [p3, List.map_cons, List.flatten_cons, e0]
        simp [cutP]
    · obtain ⟨e, zs, p1, p2, p3⟩ := strip_fold g (pre ++ c) whole st ys (by rw [hw]; simp) (by simp; omega) hg
      refine ⟨e, zs, by rw [plain hc, p1], p2, ?_⟩
      rw [p3, List.map_cons, List.flatten_cons, List.drop_append_of_le_length hs]
      simp [cutP, hc]
theorem strip_eq {g : List (List Nat)} (h : ∀ c ∈ g, c ∈ P5) : stripT (strC g.flatten) = strC (g.map cutP).flatten := by
  unfold stripT
  have hq : Str.ofString "\"" = ⟨#[34]⟩ := rfl
  split
  · rename_i he
    rw [hq, empty_one] at he
    have hn : ¬ (34 ∈ g.flatten) := by simpa [strC] using he
    congr 2
    have : ∀ c ∈ g, cutP c = c := fun c hc => by
      unfold cutP
      split
      · rename_i e
        subst e
        exact absurd (List.mem_flatten.mpr ⟨_, hc, by decide⟩) hn
      · rfl
    conv => lhs; rw [← List.map_id g]
    exact List.map_congr_left fun c hc => (this c hc).symm
  · obtain ⟨e, zs, p1, p2, p3⟩ := strip_fold g [] g.flatten 0 [] rfl (Nat.le_refl _) h
    have p1' : (escs 0 false (strC g.flatten).cps.toList).foldl (stripStep (strC g.flatten)) (0, none, []) = ((e : Int), none, zs.map strC) := p1
    simp only [p1']
    rw [List.drop_nil, List.flatten_nil, List.append_nil, List.nil_append] at p3
    split
    · rw [slice_end _ _ p2, ← p3]
      have : zs.map strC ++ [strC (g.flatten.drop e)] = (zs ++ [g.flatten.drop e]).map strC := by simp
      rw [this, join_flat]
      simp
    · rename_i hlt
      rw [strC_len] at hlt
      rw [List.drop_of_length_le (by omega), List.append_nil] at p3
      rw [join_flat, p3]
theorem o40 : ((⟨#[40]⟩ : Str) == Str.ofString "(") = true := by decide +kernel
theorem o41 : ((⟨#[41]⟩ : Str) == Str.ofString "(") = false := by decide +kernel
theorem oe1 : ((⟨#[92, 41]⟩ : Str) == Str.ofString "(") = false := by decide +kernel
theorem oe2 : ((⟨#[92, 92]⟩ : Str) == Str.ofString "(") = false := by decide +kernel
theorem c41 : ((⟨#[41]⟩ : Str) == Str.ofString ")") = true := by decide +kernel
theorem ce1 : ((⟨#[92, 41]⟩ : Str) == Str.ofString ")") = false := by decide +kernel
theorem ce2 : ((⟨#[92, 92]⟩ : Str) == Str.ofString ")") = false := by decide +kernel
theorem check_go : ∀ (g : List (List Nat)) (i : Nat) (o : Int), (∀ c ∈ g, c ∈ P5) → checkGo (escs i false (g.map cutP).flatten) o = balGo (g.map opP) o
  | [], _, _, _ => rfl
  | c :: g, i, o, h => by
    have ih := fun i o => check_go g i o fun c hc => h c (.tail _ hc)
    rw [List.map_cons, List.map_cons, List.flatten_cons]
    have p1 : opP [41] = false := by decide
    have p2 : opP [40] = true := by decide
    have p3 : opP [40, 34, 40, 34] = true := by decide
    have p4 : opP [40, 92, 41] = true := by decide
    have p5 : opP [40, 92, 92] = true := by decide
    rcases in5 (h c (.head _)) with rfl | rfl | rfl | rfl | rfl
    · simp [cutP, p1, escs, checkGo, balGo, o41, c41, ih]
    · simp [cutP, p2, p3, p4, p5, escs, checkGo, balGo, o40, ih]
    · simp [cutP, p2, p3, p4, p5, escs, checkGo, balGo, o40, ih]
    · simp [cutP, p2, p3, p4, p5, escs, checkGo, balGo, o40, oe1, ce1, ih]
    · simp [cutP, p2, p3, p4, p5, escs, checkGo, balGo, o40, oe2, ce2, ih]
theorem check_eq {g : List (List Nat)} (h : ∀ c ∈ g, c ∈ P5) : checkT (strC g.flatten) = balGo (g.map opP) 0 := by
  unfold checkT
  rw [strip_eq h]
  exact check_go g 0 0 h
theorem good_eq {g : List (List Nat)} (h : ∀ c ∈ g, c ∈ P5) (hl : g.length ≤ 100) : GoodT (strC g.flatten) := by
  have hc : ∀ c ∈ g.map cutP, c ∈ P5 := fun c hc => by
    obtain ⟨d, hd, rfl⟩ := List.mem_map.mp hc
    exact cut5 (h d hd)
  have l1 := len_flat g h
  have l2 := len_flat _ hc
  rw [List.length_map] at l2
  refine ⟨end_flat g h, by rw [strC_len]; omega, ?_, ?_⟩
  · rw [strip_eq h]; exact end_flat _ hc
  · rw [strip_eq h, strC_len]; omega
end
section
/-! the taken counts of a row of pieces -/
noncomputable def OkP (x : Str) : Prop := ∃ c ∈ P5, x = strC c
theorem okp_list : ∀ {xs : List Str}, (∀ x ∈ xs, OkP x) → ∃ g : List (List Nat), xs = g.map strC ∧ ∀ c ∈ g, c ∈ P5
  | [], _ => ⟨[], rfl, fun _ h => nomatch h⟩
  | x :: xs, h => by
    obtain ⟨c, hc, rfl⟩ := h x (.head _)
    obtain ⟨g, rfl, hg⟩ := okp_list (xs := xs) fun x hx => h x (.tail _ hx)
    exact ⟨c :: g, rfl, fun d hd => by
      rcases List.mem_cons.mp hd with rfl | hd
      · exact hc
      · exact hg d hd⟩
theorem whole_eq (g : List (List Nat)) (p q : Nat) : wholeT (g.map strC) p q = strC ((g.drop p).take (q - p)).flatten := by
  unfold wholeT
  rw [← List.map_drop, ← List.map_take, join_flat]
theorem turned_eq (g : List (List Nat)) (p q : Nat) : turnedT (g.map strC) p q = strC ((g.drop (p + 1)).take (q - (p + 1)) ++ (g.drop p).take (p + 1 - p)).flatten := by
  unfold turnedT
  rw [← List.map_drop, ← List.map_drop, ← List.map_take, ← List.map_take, ← List.map_append, join_flat]
theorem part5 {g : List (List Nat)} (h : ∀ c ∈ g, c ∈ P5) (p n : Nat) : ∀ c ∈ (g.drop p).take n, c ∈ P5 := fun c hc => h c (List.mem_of_mem_drop (List.mem_of_mem_take hc))
theorem turn5 {g : List (List Nat)} (h : ∀ c ∈ g, c ∈ P5) (p q : Nat) : ∀ c ∈ (g.drop (p + 1)).take (q - (p + 1)) ++ (g.drop p).take (p + 1 - p), c ∈ P5 := fun c hc => by
  rcases List.mem_append.mp hc with hc | hc
  · exact part5 h _ _ c hc
  · exact part5 h _ _ c hc
theorem taken_go {g : List (List Nat)} (h : ∀ c ∈ g, c ∈ P5) (p : Nat) : ∀ (n q : Nat), takenGo (g.map strC) p n q = takenBGo (g.map opP) p n q
  | 0, _ => rfl
  | n + 1, q => by
    rw [takenGo, takenBGo, whole_eq, turned_eq, check_eq (part5 h _ _), check_eq (turn5 h p q), taken_go h p n (q + 2)]
    rw [List.map_append, List.map_take, List.map_take, List.map_take, List.map_drop, List.map_drop]
theorem taken_eq {g : List (List Nat)} (h : ∀ c ∈ g, c ∈ P5) (p : Nat) : takenT (g.map strC) p = takenB (g.map opP) p := by
  unfold takenT takenB
  rw [taken_go h, List.length_map, List.length_map]
theorem ops_eq {g : List (List Nat)} (h : ∀ c ∈ g, c ∈ P5) : (g.map strC).map isOp = g.map opP := by
  rw [List.map_map]
  exact List.map_congr_left fun c hc => op5 (h c hc)
theorem op_at {g : List (List Nat)} (h : ∀ c ∈ g, c ∈ P5) (p : Nat) (hp : p < g.length) : isOp ((g.map strC).getD p Str.empty) = (g.map opP).getD p false := by
  rw [← ops_eq h, List.getD_eq_getElem?_getD, List.getD_eq_getElem?_getD, List.getElem?_map, List.getElem?_map, List.getElem?_map, List.getElem?_eq_getElem hp]
  rfl
theorem takes_eq {g : List (List Nat)} (h : ∀ c ∈ g, c ∈ P5) : takesT (g.map strC) = takesB (g.map opP) 0 g.length := by
  unfold takesT takesTo takesB
  rw [List.length_map, List.range_eq_range']
  have e : (List.range' 0 g.length).filter (fun p => isOp ((g.map strC).getD p Str.empty)) = (List.range' 0 g.length).filter fun p => (g.map opP).getD p false :=
    List.filter_congr fun p hp => op_at h p (by have := List.mem_range'_1.mp hp; omega)
  rw [e]
  exact List.map_congr_left fun p _ => taken_eq h p
theorem takes_fst {xs : List Str} {s : List Int} (h : ∀ x ∈ xs, OkP x) (hF : Fst (xs.map isOp) s) : takesT xs = s := by
  obtain ⟨g, rfl, hg⟩ := okp_list h
  rw [ops_eq hg] at hF
  rw [takes_eq hg]
  have := takesB_all hF (g.map opP) [] [] (by simp)
  simpa using this
theorem goods {xs : List Str} (h : ∀ x ∈ xs, OkP x) (hl : xs.length ≤ 50) (p q : Nat) : GoodT (wholeT xs p q) ∧ GoodT (turnedT xs p q) := by
  obtain ⟨g, rfl, hg⟩ := okp_list h
  rw [List.length_map] at hl
  rw [whole_eq, turned_eq]
  refine ⟨good_eq (part5 hg _ _) ?_, good_eq (turn5 hg p q) ?_⟩
  · exact Nat.le_trans (cut_le _ _ _) (by omega)
  · exact Nat.le_trans (cut2_le _ _ _ _ _) (by omega)
theorem okp_len {x : Str} (h : OkP x) : x.length ≤ 4 := by
  obtain ⟨c, hc, rfl⟩ := h
  rw [strC_len]
  rcases in5 hc with rfl | rfl | rfl | rfl | rfl <;> decide
end
section
/-! the nest's state follows the chain -/
theorem bisT_split (keyOf : Int → Str) (A B : List Int) (x : Str) (hA : ∀ a ∈ A, decide ((keyOf a).cps.toList < x.cps.toList) = true) (hB : ∀ a ∈ B, decide ((keyOf a).cps.toList < x.cps.toList) = false) : bisT keyOf (A ++ B) x = A.length := by
  refine bisT_at keyOf (A ++ B) x A.length (by simp) (fun j hj => ?_) fun j hj hj2 => ?_
  · have e : (A ++ B).getD j 0 = A[j] := by
      rw [List.getD_eq_getElem?_getD, List.getElem?_append_left hj, List.getElem?_eq_getElem hj]
      rfl
    unfold bisF
    rw [e]
    exact hA _ (List.getElem_mem hj)
  · rw [List.length_append] at hj2
    have hj3 : j - A.length < B.length := by omega
    have e : (A ++ B).getD j 0 = B[j - A.length] := by
      rw [List.getD_eq_getElem?_getD, List.getElem?_append_right hj, List.getElem?_eq_getElem hj3]
      rfl
    unfold bisF
    rw [e]
    exact hB _ (List.getElem_mem hj3)
theorem tail_eq (w : List Nat) (i : Nat) (h : i ≤ w.length) : tailT (strC w) (i : Int) = strC (w.drop i) := slice_end w i h
theorem key_lt (g0 : Int) {w : List Nat} (hw : ∀ c ∈ w, IsL c) {i j : Nat} (hi : i ≤ w.length) (hj : j ≤ w.length) : decide ((tailT (strC w) (i : Int)).cps.toList < (tailT (strC w) (j : Int)).cps.toList) = ltL ((w.map (numT g0)).drop i) ((w.map (numT g0)).drop j) := by
  rw [tail_eq w i hi, tail_eq w j hj, ← List.map_drop, ← List.map_drop]
  exact lets_lt g0 _ _ (fun c hc => hw c (List.mem_of_mem_drop hc)) fun c hc => hw c (List.mem_of_mem_drop hc)
theorem open5 {x : Str} (h : ∃ c ∈ piecesT, x = strC c) : ∃ c ∈ P5, Str.ofString "(" ++ x = strC c ∧ opP c = true := by
  obtain ⟨c, hc, rfl⟩ := h
  have e : Str.ofString "(" = strC [40] := rfl
  rw [e]
  have hc' : c = [] ∨ c = [34, 40, 34] ∨ c = [92, 41] ∨ c = [92, 92] := by simpa [piecesT] using hc
  refine ⟨[40] ++ c, ?_, strC_app _ _, ?_⟩
  · rcases hc' with rfl | rfl | rfl | rfl <;> decide
  · rcases hc' with rfl | rfl | rfl | rfl <;> decide
theorem nest_inv (g0 : Int) {w : List Nat} (hw : ∀ c ∈ w, IsL c) {un : List Str} (hun : ∀ x ∈ un, ∃ c ∈ piecesT, x = strC c) (hl : w.length ≤ un.length) : ∀ i p : Nat, p + i = w.length →
    ∃ (r : List Nat) (gs : List (List Str)), nestAt (strC w) un i = (r.reverse.map Int.ofNat, gs.reverse) ∧ NC (w.map (numT g0)) p r gs ∧ ∀ g ∈ gs, ∀ x ∈ g, OkP x
  | 0, p, hp => ⟨[], [], rfl, by have e : p = (w.map (numT g0)).length := by { rw [List.length_map]; exact hp }; rw [e]; exact .nil, fun _ h => nomatch h⟩
  | i + 1, p, hp => by
    obtain ⟨r, gs, e, hN, hP⟩ := nest_inv g0 hw hun hl i (p + 1) (by rw [← hp, Nat.add_assoc, Nat.add_comm 1 i])
    have hi0 : ((w.length : Int) - 1 - (i : Int)) = (p : Int) := by rw [← hp]; omega
    have hpl : p < w.length := by rw [← hp]; exact Nat.lt_add_of_pos_right (Nat.succ_pos i)
    rw [nestAt, e, strC_len, hi0]
    obtain ⟨d, N, p1, p2, p3, p4, p5, p6, p7⟩ := hN.pop p (Nat.lt_succ_self p) fun m h1 h2 => absurd h2 (Nat.not_lt.mpr h1)
    have hlen := hN.len
    have hmem := hN.mem
    rw [List.length_map] at hmem
    have er : r.reverse.map Int.ofNat = (r.drop d).reverse.map Int.ofNat ++ (r.take d).reverse.map Int.ofNat := by
      rw [← List.map_append, ← List.reverse_append, List.take_append_drop]
    have eg : gs.reverse = (gs.drop d).reverse ++ (gs.take d).reverse := by
      rw [← List.reverse_append, List.take_append_drop]
    have hb : bisT (tailT (strC w)) ((r.drop d).reverse.map Int.ofNat ++ (r.take d).reverse.map Int.ofNat) (tailT (strC w) ((p : Nat) : Int)) = (((r.drop d).reverse.map Int.ofNat).length : Int) := by
      refine bisT_split _ _ _ _ (fun a ha => ?_) fun a ha => ?_
      · obtain ⟨b, hb, rfl⟩ := List.mem_map.mp ha
        have hb := List.mem_reverse.mp hb
        have := hmem b (List.mem_of_mem_drop hb)
        rw [← p6 b hb]
        exact key_lt g0 hw (Nat.le_of_lt this.2) (Nat.le_of_lt hpl)
      · obtain ⟨b, hb, rfl⟩ := List.mem_map.mp ha
        have hb := List.mem_reverse.mp hb
        have := hmem b (List.mem_of_mem_take hb)
        rw [← p5 b hb]
        exact key_lt g0 hw (Nat.le_of_lt this.2) (Nat.le_of_lt hpl)
    obtain ⟨c5, hc5, ec5, hop⟩ := open5 (x := un.getD p Str.empty) (by
      have hpu : p < un.length := Nat.lt_of_lt_of_le hpl hl
      rw [List.getD_eq_getElem?_getD, List.getElem?_eq_getElem hpu]
      exact hun _ (List.getElem_mem hpu))
    have hlg : (gs.drop d).reverse.length = ((r.drop d).reverse.map Int.ofNat).length := by rw [List.length_map, List.length_reverse, List.length_reverse, List.length_drop, List.length_drop, hlen]
    have en0 : N - p = N - (p + 1) + 1 := by rw [Nat.sub_add_eq]; exact (Nat.sub_add_cancel (Nat.sub_pos_of_lt p2.1)).symm
    refine ⟨p :: r.drop d, (strC c5 :: ((gs.take d).flatten ++ [strC [41]])) :: gs.drop d, ?_, ?_, ?_⟩
    · unfold nestStep
      simp only [er, hb, Int.toNat_natCast]
      rw [List.take_left' rfl, eg, List.take_left' hlg, List.drop_left' hlg, List.reverse_reverse, ec5]
      simp
      rfl
    · refine .cons p2 p4 ?_
      have hn := Fst.node p7 Fst.nil
      have ei : List.range' p (N - p) = p :: List.range' (p + 1) (N - (p + 1)) := by
        rw [en0, List.range'_succ]
      rw [ei, List.map_cons, List.map_cons, List.map_append, op5 hc5, hop, long_nx p2]
      have e41 : List.map isOp [strC [41]] = [false] := by decide +kernel
      rw [e41]
      rw [List.append_nil, List.length_map, List.length_range'] at hn
      have en : ((N - (p + 1) : Nat) : Int) + 1 = ((N - p : Nat) : Int) := by rw [en0]; rfl
      rw [en] at hn
      exact hn
    · intro g hg x hx
      rcases List.mem_cons.mp hg with rfl | hg
      · rcases List.mem_cons.mp hx with rfl | hx
        · exact ⟨c5, hc5, rfl⟩
        · rcases List.mem_append.mp hx with hx | hx
          · obtain ⟨g2, hg2, hx2⟩ := List.mem_flatten.mp hx
            exact hP g2 (List.mem_of_mem_take hg2) x hx2
          · exact ⟨[41], by decide, List.mem_singleton.mp hx⟩
      · exact hP g (List.mem_of_mem_drop hg) x hx
end
section
/-! the last statement: the search among the Lyndon words kept counts those before -/
theorem ltL_co {a b c : List Int} (h : ltL a c = true) : ltL a b = true ∨ ltL b c = true := by
  by_cases e : a = b
  · subst e; exact .inr h
  · rcases ltL_total a b e with q | q
    · exact .inl q
    · exact .inr (ltL_trans q h)
theorem strAt_nx {ns : List Int} {i N : Nat} (h : IsNx ns i N) : strAt ns i = (ns.drop i).take (N - i) := by
  unfold strAt
  rw [long_nx h, Int.toNat_natCast]
theorem NC.fall {ns : List Int} {a : Nat} {r : List Nat} {gs : List (List Str)} (h : NC ns a r gs) : r.Pairwise fun a b => ltL (strAt ns a) (strAt ns b) = false := by
  induction h with
  | nil => exact .nil
  | @cons i N r g gs h1 h2 h3 ih =>
    refine .cons (fun b hb => ?_) ih
    cases h2 with
    | nil => cases hb
    | cons h4 h5 h6 =>
      have e : ltL (strAt ns i) (strAt ns N) = false := by
        rw [strAt_nx h1, strAt_nx h4]
        exact nx_fall h1 h4
      rcases List.mem_cons.mp hb with rfl | hb
      · exact e
      · cases q : ltL (strAt ns i) (strAt ns b) with
        | false => rfl
        | true =>
          have e2 := (List.pairwise_cons.mp ih).1 b hb
          rcases ltL_co (b := strAt ns N) q with q | q
          · rw [e] at q; cases q
          · rw [e2] at q; cases q
theorem split_at {α : Type} (P : α → Bool) : ∀ {ks : List α}, (ks.Pairwise fun a b => P b = true → P a = true) → ks = ks.filter P ++ ks.filter fun a => !P a
  | [], _ => rfl
  | a :: ks, h => by
    obtain ⟨h1, h2⟩ := List.pairwise_cons.mp h
    have ih := split_at P h2
    cases e : P a with
    | true => rw [List.filter_cons_of_pos e, List.filter_cons_of_neg (by rw [e]; decide), List.cons_append, ← ih]
    | false =>
      have hn : ∀ b ∈ ks, P b = false := fun b hb => by
        cases q : P b with
        | false => rfl
        | true => have := h1 b hb q; rw [e] at this; cases this
      have e1 : (a :: ks).filter P = [] := List.filter_eq_nil_iff.mpr fun b hb => by
        rcases List.mem_cons.mp hb with rfl | hb
        · rw [e]; decide
        · rw [hn b hb]; decide
      have e2 : (a :: ks).filter (fun a => !P a) = a :: ks := List.filter_eq_self.mpr fun b hb => by
        rcases List.mem_cons.mp hb with rfl | hb
        · rw [e]; rfl
        · rw [hn b hb]; rfl
      rw [e1, e2]
      rfl
theorem words_at (wl : List Nat) (ns : List Int) {n j : Nat} (h : j < n) : (wordsTo wl ns n).getD j Str.empty = strC ((wl.drop j).take (longT ns j).toNat) := by
  unfold wordsTo
  rw [List.getD_eq_getElem?_getD, List.getElem?_map, List.getElem?_range h]
  rfl
theorem fin_eq (g0 : Int) {w : List Nat} (hw : ∀ c ∈ w, IsL c) {r : List Nat} {gs : List (List Str)} (hN : NC (w.map (numT g0)) 0 r gs) {ns : List Int} (hns : ns = w.map (numT g0)) :
    (wordsTo w ns ns.length).map (bisT (fun j => (wordsTo w ns ns.length).getD j.toNat Str.empty) (r.reverse.map Int.ofNat)) = countsTo ns (r.reverse.map Int.ofNat) ns.length := by
  subst hns
  generalize hn : w.map (numT g0) = ns at *
  have hmem := hN.mem
  have key : ∀ a i : Nat, decide ((strC ((w.drop a).take (longT ns a).toNat)).cps.toList < (strC ((w.drop i).take (longT ns i).toNat)).cps.toList) = ltL (strAt ns a) (strAt ns i) := fun a i => by
    have e : ∀ j, strAt ns j = ((w.drop j).take (longT ns j).toNat).map (numT g0) := fun j => by
      unfold strAt
      rw [List.map_take, List.map_drop, hn]
    rw [e a, e i]
    exact lets_lt g0 _ _ (fun c hc => hw c (List.mem_of_mem_drop (List.mem_of_mem_take hc))) fun c hc => hw c (List.mem_of_mem_drop (List.mem_of_mem_take hc))
  unfold countsTo
  conv => lhs; arg 2; unfold wordsTo
  rw [List.map_map]
  refine List.map_congr_left fun i hi => ?_
  have hi := List.mem_range.mp hi
  show bisT _ _ (strC ((w.drop i).take (longT ns i).toNat)) = _
  have hp : (r.reverse.map Int.ofNat).Pairwise fun a b => (fun j : Int => ltL (strAt ns j.toNat) (strAt ns i)) b = true → (fun j : Int => ltL (strAt ns j.toNat) (strAt ns i)) a = true := by
    rw [List.pairwise_map, List.pairwise_reverse]
    refine hN.fall.imp fun {a b} h q => ?_
    have q' : ltL (strAt ns a) (strAt ns i) = true := q
    show ltL (strAt ns b) (strAt ns i) = true
    rcases ltL_co (b := strAt ns b) q' with q | q
    · rw [h] at q; cases q
    · exact q
  have hks := split_at _ hp
  have hin : ∀ a ∈ r.reverse.map Int.ofNat, decide (((wordsTo w ns ns.length).getD a.toNat Str.empty).cps.toList < (strC ((w.drop i).take (longT ns i).toNat)).cps.toList) = ltL (strAt ns a.toNat) (strAt ns i) := fun a ha => by
    obtain ⟨b, hb, rfl⟩ := List.mem_map.mp ha
    have := hmem b (List.mem_reverse.mp hb)
    show decide (((wordsTo w ns ns.length).getD b Str.empty).cps.toList < _) = ltL (strAt ns b) _
    rw [words_at w ns this.2]
    exact key b i
  unfold keptBefore
  conv => lhs; arg 2; rw [hks]
  refine bisT_split _ _ _ _ (fun a ha => ?_) fun a ha => ?_
  · have := List.mem_filter.mp ha
    rw [hin a this.1]
    exact this.2
  · have := List.mem_filter.mp ha
    rw [hin a this.1]
    simpa using this.2
end
section
/-! what the script's items give -/
structure AOk (g0 : Int) (st : ASp) : Prop where
  htx : ∀ c ∈ st.text, (c = 173 ∨ c = 8205 ∨ c = 8288 ∨ c = 65279) ∨ c ∈ codesT
  hword : ∃ xs : List (List Nat), wordsOf st.text = xs.map strC ∧ xs.flatten = st.spel
  hread : RdOk st.oc st.due
  hoc : ∀ b ∈ st.oc, 0 ≤ b ∧ b < 128
  hdue : st.due = st.spel.map (numT g0)
  hsp : ∀ c ∈ st.spel, IsL c
  hul : st.un.length = st.spel.length
  hun : ∀ x ∈ st.un, ∃ c ∈ piecesT, x = strC c
theorem num_in (g0 : Int) (c : Nat) : 0 ≤ numT g0 c ∧ numT g0 c < 10000 := by
  have h0 : 0 ≤ g0 % 4096 := Int.emod_nonneg _ (by decide)
  have h1 : g0 % 4096 < 4096 := Int.emod_lt_of_pos _ (by decide)
  have h2 : 0 ≤ idxT c ∧ idxT c ≤ 4 := by
    unfold idxT
    repeat' split
    all_goals omega
  unfold numT
  omega
theorem pc_in (k : Nat) : piecesT.getD k [] ∈ piecesT := by
  rw [List.getD_eq_getElem?_getD]
  cases e : piecesT[k]? with
  | none => decide
  | some x => exact List.mem_of_getElem? e
theorem bFold_ok (g0 x : Int) : ∀ (cs : List Nat) (st : List Int × List Int × List Str), RdOk st.1 st.2.1 → (∀ b ∈ st.1, 0 ≤ b ∧ b < 128) → (∀ y ∈ st.2.2, ∃ c ∈ piecesT, y = strC c) →
    RdOk (cs.foldl (bStep g0 x) st).1 (cs.foldl (bStep g0 x) st).2.1 ∧ (∀ b ∈ (cs.foldl (bStep g0 x) st).1, 0 ≤ b ∧ b < 128) ∧ (∀ y ∈ (cs.foldl (bStep g0 x) st).2.2, ∃ c ∈ piecesT, y = strC c) ∧ (cs.foldl (bStep g0 x) st).2.1 = st.2.1 ++ cs.map (numT g0)
  | [], st, h1, h2, h3 => ⟨h1, h2, h3, by simp⟩
  | c :: cs, st, h1, h2, h3 => by
    have hn := num_in g0 c
    have ih := bFold_ok g0 x cs (bStep g0 x st c) (rd_snoc h1 hn.1 hn.2) (fun b hb => by
      rcases List.mem_append.mp hb with hb | hb
      · exact h2 b hb
      · exact octs_lt _ _ hn.1 (by omega) b hb) fun y hy => by
      rcases List.mem_append.mp hy with hy | hy
      · exact h3 y hy
      · exact ⟨_, pc_in _, List.mem_singleton.mp hy⟩
    rw [List.foldl_cons]
    refine ⟨ih.1, ih.2.1, ih.2.2.1, ?_⟩
    rw [ih.2.2.2]
    simp [bStep]
theorem sign_codes : ∀ k : Nat, k < 14 → signT (codesT.getD k 0) = some (strC (meansT.getD k [])) := by decide +kernel
theorem code_in : ∀ k : Nat, k < 14 → codesT.getD k 0 ∈ codesT := by decide
theorem mean_in : ∀ k : Nat, k < 14 → ∀ c ∈ meansT.getD k [], c = 102 ∨ c = 105 ∨ c = 108 ∨ c = 115 ∨ c = 116 := by decide
theorem hind_no : ∀ k : Nat, k < 4 → (wordsOf (behindT.getD k [])).isEmpty = true := by decide +kernel
theorem hind_in : ∀ k : Nat, k < 4 → ∀ c ∈ behindT.getD k [], c = 173 ∨ c = 8205 ∨ c = 8288 ∨ c = 65279 := by decide
theorem aStep_ok {g0 : Int} {st : ASp} (h : AOk g0 st) (x : Int) : AOk g0 (aStep g0 st x) := by
  have k0 : (x % 14).toNat < 14 := by omega
  have k1 : (x / 14 % 4).toNat < 4 := by omega
  have hb := bFold_ok g0 x (meansT.getD (x % 14).toNat []) (st.oc, st.due, st.un) h.hread h.hoc h.hun
  have hl := (bFold_len g0 x (meansT.getD (x % 14).toNat []) (st.oc, st.due, st.un)).2.2
  obtain ⟨xs, w1, w2⟩ := h.hword
  constructor
  · intro c hc
    rcases List.mem_append.mp hc with hc | hc
    · rcases List.mem_append.mp hc with hc | hc
      · exact h.htx c hc
      · rw [List.mem_singleton.mp hc]
        exact .inr (code_in _ k0)
    · exact .inl (hind_in _ k1 c hc)
  · refine ⟨xs ++ [meansT.getD (x % 14).toNat []], ?_, ?_⟩
    · show wordsOf (st.text ++ [codesT.getD (x % 14).toNat 0] ++ behindT.getD (x / 14 % 4).toNat []) = _
      have e1 : ∀ a b, wordsOf (a ++ b) = wordsOf a ++ wordsOf b := fun a b => List.filterMap_append
      have e2 : wordsOf (behindT.getD (x / 14 % 4).toNat []) = [] := List.isEmpty_iff.mp (hind_no _ k1)
      have e3 : wordsOf [codesT.getD (x % 14).toNat 0] = [strC (meansT.getD (x % 14).toNat [])] := by
        unfold wordsOf
        rw [List.filterMap_cons_some (sign_codes _ k0)]
        rfl
      rw [e1, e1, e2, e3, w1, List.append_nil, List.map_append]
      rfl
    · show _ = st.spel ++ _
      rw [List.flatten_append, w2]
      simp
  · exact hb.1
  · exact hb.2.1
  · show _ = (st.spel ++ _).map _
    rw [List.map_append, ← h.hdue]
    exact hb.2.2.2
  · intro c hc
    rcases List.mem_append.mp hc with hc | hc
    · exact h.hsp c hc
    · exact mean_in _ k0 c hc
  · show _ = (st.spel ++ _).length
    rw [List.length_append, ← h.hul]
    exact hl
  · exact hb.2.2.1
theorem aFold_ok {g0 : Int} : ∀ (l : List Int) {st : ASp}, AOk g0 st → AOk g0 (l.foldl (aStep g0) st)
  | [], _, h => h
  | x :: l, _, h => aFold_ok l (aStep_ok h x)
theorem aT_ok (ns : List Int) : AOk ((givenT ns).getD 0 0) (aT ns) :=
  aFold_ok _ ⟨(fun _ h => nomatch h), ⟨[], rfl, rfl⟩, rd_nil, (fun _ h => nomatch h), rfl, (fun _ h => nomatch h), rfl, (fun _ h => nomatch h)⟩
theorem aT_len (ns : List Int) : (aT ns).text.length ≤ 12 ∧ (aT ns).spel.length ≤ 12 := by
  have h := aFold_len ((givenT ns).getD 0 0) (givenT ns) ⟨[], [], [], [], []⟩
  have hg : (givenT ns).length ≤ 4 := by unfold givenT; rw [List.length_take]; omega
  simp only [List.length_nil] at h
  unfold aT
  omega
end
section
/-! all the plain facts -/
theorem plain_ok (ns : List Int) : PlainOk ns 200 := by
  have hA := aT_ok ns
  have hL := aT_len ns
  generalize hg : (givenT ns).getD 0 0 = g0 at hA
  have hdl : (aT ns).due.length = (aT ns).spel.length := by rw [hA.hdue, List.length_map]
  have hw7 : ∀ c ∈ (aT ns).spel.take 7, IsL c := fun c hc => hA.hsp c (List.mem_of_mem_take hc)
  have hd7 : (aT ns).due.take 7 = ((aT ns).spel.take 7).map (numT g0) := by rw [hA.hdue, List.map_take]
  have hl7 : ((aT ns).spel.take 7).length ≤ (aT ns).un.length := by rw [hA.hul]; exact List.length_take_le' 7 _
  have h7 : ((aT ns).spel.take 7).length ≤ 7 := List.length_take_le 7 _
  obtain ⟨r, gs, e, hN, hP⟩ := nest_inv g0 hw7 hA.hun hl7 ((aT ns).spel.take 7).length 0 (Nat.zero_add _)
  rw [← strC_len ((aT ns).spel.take 7)] at e
  have hrow : (nestAt (strC ((aT ns).spel.take 7)) (aT ns).un (strC ((aT ns).spel.take 7)).length).2.reverse.flatten = gs.flatten := by rw [e, List.reverse_reverse]
  have hkept : (nestAt (strC ((aT ns).spel.take 7)) (aT ns).un (strC ((aT ns).spel.take 7)).length).1 = r.reverse.map Int.ofNat := by rw [e]
  have hPf : ∀ x ∈ gs.flatten, OkP x := fun x hx => by
    obtain ⟨g, hg, hx⟩ := List.mem_flatten.mp hx
    exact hP g hg x hx
  have hF := hN.flat
  have hlen := hF.len
  rw [List.length_map, List.length_map, List.length_range', List.length_map] at hlen
  have hfew := hN.few
  rw [List.length_map] at hfew
  have hmem := hN.mem
  rw [List.length_map] at hmem
  obtain ⟨xs, w1, w2⟩ := hA.hword
  constructor
  · exact hA.htx
  · omega
  · rw [w1, join_flat, w2]
  · have := hA.hread (200 - (aT ns).due.length) [] (by omega)
    rw [show (aT ns).due.length + (200 - (aT ns).due.length) = 200 by omega, List.append_nil] at this
    rw [this]
    obtain ⟨m, hm⟩ : ∃ m, 200 - (aT ns).due.length = m + 1 := ⟨199 - (aT ns).due.length, by omega⟩
    rw [hm]
    simp [vrs]
  · exact hA.hoc
  · omega
  · intro n hn
    rw [hA.hdue] at hn
    obtain ⟨c, _, rfl⟩ := List.mem_map.mp hn
    exact (num_in g0 c).2
  · omega
  · rw [hA.hul]; omega
  · rw [hA.hul]; exact Nat.le_refl _
  · intro x hx
    obtain ⟨c, hc, rfl⟩ := hA.hun x hx
    rw [strC_len]
    have : ∀ c ∈ piecesT, c.length ≤ 3 := by decide
    exact this c hc
  · rw [hd7, List.length_map]
  · rw [hrow]; omega
  · rw [hrow]
    exact fun x hx => okp_len (hPf x hx)
  · rw [hrow]
    exact fun p q _ _ => goods hPf (by omega) p q
  · rw [hrow, takes_fst hPf hF, ← hd7]
    unfold longsT
    rw [List.range_eq_range', Nat.sub_zero]
  · rw [hkept, List.length_map, List.length_reverse]; omega
  · rw [hkept, hd7, List.length_map]
    intro n hn
    obtain ⟨b, hb, rfl⟩ := List.mem_map.mp hn
    have := hmem b (List.mem_reverse.mp hb)
    show (0 : Int) ≤ (b : Int) ∧ (b : Int) < _
    omega
  · rw [hkept]
    exact fin_eq g0 hw7 hN hd7
end
section
noncomputable def GoodB (c : ClaimW) (cl : Str → Option Addr) (args : List WData) (s₁ : Shared) (res : Result) (s' : Shared) : Prop :=
  (∃ v d as, res = .ok (.ret v) ∧ (∀ cls, c.raises args cls = false) ∧ ReadsW c.records cl s'.heap v d as ∧ c.post args d args = true ∧ (c.unshared = true → as.Nodup ∧ ∀ a ∈ as, s₁.heap.get? a = none)) ∧
  (∀ b o, s₁.heap.get? b = some o → s'.heap.get? b = some o) ∧ s'.os = s₁.os ∧ AllBare s'.gens
theorem kn_postB {M : Model} {A : Around} {cd : Code} {s s₁ : Shared} {cw : ClaimW} {cl : Str → Option Addr} {mean : ExcName → Option Value} {args : List WData} {tabs : List (Addr × Addr)} (hT : TabsAt tabs s₁.heap)
    (h : codeAny M A cd (fun r s' => GoodB cw cl args { s₁ with heap := ghostOf s₁.heap tabs } r s' ∧ GrownAll tabs s'.heap) s) : codeAny M A cd (GoodWG cw cl mean args s₁) s :=
  codeAny_mono h fun r s' ⟨⟨hc, hk, hos, hg⟩, hgr⟩ => by
    have keep : ∀ b o, b ∉ tabs.map (·.2) → s₁.heap.get? b = some o → s'.heap.get? b = some o := fun b o hb e => hk b o (ghost_ne e hb)
    have grown : ∀ b o, b ∈ tabs.map (·.2) → s₁.heap.get? b = some o → isCodeTable s₁.heap b ∧ o = tabObj #[] ∧ ∃ ps, s'.heap.get? b = some (tabObj ps) := fun b o hb e => by
      obtain ⟨q, hq, rfl⟩ := List.mem_map.mp hb
      have e2 := (hT q hq).2
      rw [e] at e2
      exact ⟨((hT q hq).1.tab (hT q hq).2).isCodeTable, Option.some.inj e2, hgr.get q hq⟩
    obtain ⟨v, d, as, r1, r2, r3, r4, r5⟩ := hc
    refine ⟨.inl ⟨v, d, as, r1, r2, r3, r4, fun q => ⟨(r5 q).1, fun a ha => ?_⟩⟩, ⟨fun b o e => ?_, fun b o e => ?_⟩, hos, hg⟩
    · cases q1 : s₁.heap.get? a with
      | none => rfl
      | some o =>
        by_cases hb : a ∈ tabs.map (·.2)
        · obtain ⟨_, _, ps, hP⟩ := grown a o hb q1
          exact absurd ha (readsW_apart hP rfl r3)
        · have e3 := (r5 q).2 a ha
          rw [show (ghostOf s₁.heap tabs).get? a = some o from ghost_ne q1 hb] at e3
          cases e3
    · by_cases hb : b ∈ tabs.map (·.2)
      · obtain ⟨ht, rfl, ps, hP⟩ := grown b o hb e
        exact .inr (.inl ⟨ht, rfl, #[], ps, rfl, by rw [Array.empty_append]; exact hP⟩)
      · exact .inl (keep b o hb e)
    · by_cases hb : b ∈ tabs.map (·.2)
      · obtain ⟨_, _, ps, hP⟩ := grown b o hb e
        exact ⟨_, hP⟩
      · exact ⟨o, keep b o hb e⟩
set_option maxRecDepth 100000 in
set_option maxHeartbeats 8000000 in
theorem tryFin (hPl : ∀ ns : List Int, ns.length ≤ 63 → PlainOk ns 200) (hTab : ∀ (w : World) (h : Heap), (heapK w.params).In h → ∃ (f : Int → Option Value) (S : Int → Bool) (nS : Nat), h.MapOf (intKind PySem.Challenge.pw_wf0071_01 w) 70 f ∧ h.SetOf (intKind PySem.Challenge.pw_wf0071_01 w) 59 S nS ∧ TabsOk f S) : PySem.Challenge.rw_wf0071_01.Holds := by
  w_on
  refine holds_law said_ok fun said => ?_
  refine holds_open (q := qv) (loose := looseT) (Xt := XtT) (XP := XL qv []) (Yf := (kmHook heapK adrK adr_ok [150, 131]).obs) (Ya := (kmHook heapK adrK adr_ok [150, 131]).val) (YP := (kmHook heapK adrK adr_ok [150, 131]).says) (N := 20000) left_ (kmHook heapK adrK adr_ok [150, 131]).of (kmHook heapK adrK adr_ok [150, 131]).keeps (fun s e => xl_of s (Bool.and_eq_true_iff.mp e).1) XL.keeps (by rfl) (by rfl) (by rfl) (fun s e => recFacts_of (Bool.and_eq_true_iff.mp e).2) (by rfl) (by assumption) (by decide +kernel) ⟨rfl, rfl, rfl, rfl, rfl, by decide +kernel⟩ ?hw ?hc
  case hw => w_witness2
  case hc =>
    k_fill
    intro w s₀ s₁ mg mb G Y fa o pm cd doc dV kV ho hd hcd hD hmg hg args vals as hpre hlay hrd hwl hlo
    have KX := km_in_of Y
    km_tabs Y
    have X := (Ground.X G).1
    have V := (Ground.X G).2
    refine Ground.open G ?_
    intro T B D TE TW
    try (refine guard_noD D (by decide +kernel) ?_; clear D)
    km_lay T hmg ho hd cd
    clear hmg
    wrow_args hpre hlay hrd hwl hlo
    first | refine callC_kw (enter_call ?_) | refine enter_call ?_
    w_top on
    refine kn_postB hT9 ?_
    w_call any ho hd hcd hD T F
    clear hd
    kn_ghosts F T
    k_drop
    rename Fr _ _ _ _ => FZ
    rename News _ _ _ _ => NZ
    rename Below _ _ _ _ => BZ
    rename Top topProg _ _ _ _ _ => TZ
    rename (heapK _).In _ => XZ
    rename IntsAre _ _ => IZ
    rename ¬ _ < _ => hlen
    rename (_ = #[]) => hgens
    rename 150 < _ ∧ _ => l0
    obtain ⟨f, S, nS, hM, hS, hT⟩ := hTab _ _ XZ
    refine' lawZ _ _ _ _ (fun _ => none) _ _ _ _ _ _ _ _ _ _ _ _ _ _ _ _ _ _ f S nS 200 ?zF XZ BZ TZ NZ ?z5 ?z4 ?z3 ?z2 ?z1 ?z0 l0.1 lifted IZ ?zn ?zG hM hS hT (hPl _ ?zm) ?zk
    case z5 => assumption
    case z4 => assumption
    case z3 => assumption
    case z2 => assumption
    case z1 => assumption
    case z0 => assumption
    case zn => omega
    case zm => omega
    case zG => intro x hx; rw [hgens] at hx; simp at hx
    case zF => exact FZ
    case zk =>
      intro u' h' tk' g' ps pq news hG' FE NE
      refine ⟨?_, GrownAt.of NE (.head _), GrownAt.of NE (.tail _ (.head _)), trivial⟩
      refine ⟨⟨.bool true, ofPy (.bool true), [], rfl, fun _ => rfl, ?g1, ?g2, ?g3⟩, ?g4, rfl, hG'⟩
      case g1 => constructor
      case g3 => intro _; exact ⟨.nil, fun a ha => nomatch ha⟩
      case g4 => exact FE.keep
      case g2 => first | kernel_rfl | with_unfolding_all rfl
end
end Mine
open PySem PySem.W PyProof.Rows
set_option maxRecDepth 100000 in
set_option maxHeartbeats 8000000 in
theorem PySem.Challenge.cw_wf0071_01_holds : PySem.Challenge.rw_wf0071_01.Holds :=
  Mine.tryFin (fun ns _ => Mine.plain_ok ns) fun w h X => ⟨_, _, _, Mine.tabs70 w h X, Mine.tabs59 w h X, Mine.tabsOk w.params⟩
