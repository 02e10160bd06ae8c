import PyProof.Rows.All
import Wide.All
import OpenK.AllK
import Wide.FinOn
import PySem.Challenge.RW_wr0031_01
open PySem PySem.W PyProof.Rows
set_option Elab.async false
section
local macro_rules | `(tactic| walk_at $s:str) => `(tactic| k_extra $s)
local macro_rules | `(tactic| k_ne) => `(tactic| first | k_extra "k_ne" | (refine neN ?_; (try dsimp only); first | walk_at "lt9" | lia | omega))
local macro_rules | `(tactic| k_inst) => `(tactic| k_extra "k_inst")
local macro_rules | `(tactic| k_all) => `(tactic| k_extra "k_all")
local macro_rules | `(tactic| k_lt $h:ident) => `(tactic| (replace $h := allLt_of $h; dsimp only [AllLt] at $h:ident))
local macro_rules | `(tactic| x_close) => `(tactic| k_extra "x_close")
section
open PySem PySem.W PyProof.Rows
set_option maxRecDepth 100000
set_option maxHeartbeats 8000000
namespace Mine
/- the text's statements that the head reads -/
noncomputable def pick : List Stmt → List Stmt
  | [a0, a1, _, a3, a4, _, a6, _, a8, a9, a10, a11, _, a13, a14, a15, a16] => [a0, a1, a3, a4, a6, a8, a9, a10, a11, a13, a14, a15, a16]
  | _ => []
noncomputable def view : Program := { PySem.Challenge.pw_wr0031_01 with main := { PySem.Challenge.pw_wr0031_01.main with body := pick PySem.Challenge.pw_wr0031_01.main.body } }
noncomputable def top (n : Nat) : Stmt := PySem.Challenge.pw_wr0031_01.main.body.getD n (.Pass default)
noncomputable def inner (s : Stmt) (n : Nat) : Stmt := match s with
  | .ClassDef _ _ _ b _ _ _ _ _ _ _ => b.getD n s
  | _ => s
noncomputable def sel {α : Type} (a b : α) (_ : a = b) : α := b
noncomputable def fpOf : Stmt → Arguments
  | .FunctionDef _ a _ _ _ _ _ _ _ _ => a
  | _ => default
noncomputable def fbOf : Stmt → FuncBody
  | .FunctionDef _ _ b _ _ _ _ _ _ _ => .stmts b
  | _ => default
noncomputable def fsOf : Stmt → Scope
  | .FunctionDef _ _ _ _ _ _ s _ _ _ => s
  | _ => default
noncomputable def fp1 : Arguments := by
  refine' sel (fpOf (top 4)) ?b ?h
  case h =>
    conv => lhs; whnf
noncomputable def fb1 : FuncBody := by
  refine' sel (fbOf (top 4)) ?b ?h
  case h =>
    conv => lhs; whnf
noncomputable def fs1 : Scope := by
  refine' sel (fsOf (top 4)) ?b ?h
  case h =>
    conv => lhs; whnf
noncomputable def fp2 : Arguments := by
  refine' sel (fpOf (top 6)) ?b ?h
  case h =>
    conv => lhs; whnf
noncomputable def fb2 : FuncBody := by
  refine' sel (fbOf (top 6)) ?b ?h
  case h =>
    conv => lhs; whnf
noncomputable def fs2 : Scope := by
  refine' sel (fsOf (top 6)) ?b ?h
  case h =>
    conv => lhs; whnf
noncomputable def fp3 : Arguments := by
  refine' sel (fpOf (inner (top 10) 0)) ?b ?h
  case h =>
    conv => lhs; whnf
noncomputable def fb3 : FuncBody := by
  refine' sel (fbOf (inner (top 10) 0)) ?b ?h
  case h =>
    conv => lhs; whnf
noncomputable def fs3 : Scope := by
  refine' sel (fsOf (inner (top 10) 0)) ?b ?h
  case h =>
    conv => lhs; whnf
noncomputable def fp4 : Arguments := by
  refine' sel (fpOf (inner (top 10) 1)) ?b ?h
  case h =>
    conv => lhs; whnf
noncomputable def fb4 : FuncBody := by
  refine' sel (fbOf (inner (top 10) 1)) ?b ?h
  case h =>
    conv => lhs; whnf
noncomputable def fs4 : Scope := by
  refine' sel (fsOf (inner (top 10) 1)) ?b ?h
  case h =>
    conv => lhs; whnf
noncomputable def fp6 : Arguments := by
  refine' sel (fpOf (inner (top 10) 3)) ?b ?h
  case h =>
    conv => lhs; whnf
noncomputable def fb6 : FuncBody := by
  refine' sel (fbOf (inner (top 10) 3)) ?b ?h
  case h =>
    conv => lhs; whnf
noncomputable def fs6 : Scope := by
  refine' sel (fsOf (inner (top 10) 3)) ?b ?h
  case h =>
    conv => lhs; whnf
noncomputable def fp11 : Arguments := by
  refine' sel (fpOf (inner (top 10) 8)) ?b ?h
  case h =>
    conv => lhs; whnf
noncomputable def fb11 : FuncBody := by
  refine' sel (fbOf (inner (top 10) 8)) ?b ?h
  case h =>
    conv => lhs; whnf
noncomputable def fs11 : Scope := by
  refine' sel (fsOf (inner (top 10) 8)) ?b ?h
  case h =>
    conv => lhs; whnf
noncomputable def fp12 : Arguments := by
  refine' sel (fpOf (inner (top 11) 0)) ?b ?h
  case h =>
    conv => lhs; whnf
noncomputable def fb12 : FuncBody := by
  refine' sel (fbOf (inner (top 11) 0)) ?b ?h
  case h =>
    conv => lhs; whnf
noncomputable def fs12 : Scope := by
  refine' sel (fsOf (inner (top 11) 0)) ?b ?h
  case h =>
    conv => lhs; whnf
noncomputable def fp13 : Arguments := by
  refine' sel (fpOf (inner (top 11) 1)) ?b ?h
  case h =>
    conv => lhs; whnf
noncomputable def fb13 : FuncBody := by
  refine' sel (fbOf (inner (top 11) 1)) ?b ?h
  case h =>
    conv => lhs; whnf
noncomputable def fs13 : Scope := by
  refine' sel (fsOf (inner (top 11) 1)) ?b ?h
  case h =>
    conv => lhs; whnf
noncomputable def fp14 : Arguments := by
  refine' sel (fpOf (inner (top 11) 2)) ?b ?h
  case h =>
    conv => lhs; whnf
noncomputable def fb14 : FuncBody := by
  refine' sel (fbOf (inner (top 11) 2)) ?b ?h
  case h =>
    conv => lhs; whnf
noncomputable def fs14 : Scope := by
  refine' sel (fsOf (inner (top 11) 2)) ?b ?h
  case h =>
    conv => lhs; whnf
noncomputable def fp15 : Arguments := by
  refine' sel (fpOf (inner (top 11) 3)) ?b ?h
  case h =>
    conv => lhs; whnf
noncomputable def fb15 : FuncBody := by
  refine' sel (fbOf (inner (top 11) 3)) ?b ?h
  case h =>
    conv => lhs; whnf
noncomputable def fs15 : Scope := by
  refine' sel (fsOf (inner (top 11) 3)) ?b ?h
  case h =>
    conv => lhs; whnf
noncomputable def fp16 : Arguments := by
  refine' sel (fpOf (inner (top 11) 4)) ?b ?h
  case h =>
    conv => lhs; whnf
noncomputable def fb16 : FuncBody := by
  refine' sel (fbOf (inner (top 11) 4)) ?b ?h
  case h =>
    conv => lhs; whnf
noncomputable def fs16 : Scope := by
  refine' sel (fsOf (inner (top 11) 4)) ?b ?h
  case h =>
    conv => lhs; whnf
noncomputable def fp17 : Arguments := by
  refine' sel (fpOf (inner (top 11) 5)) ?b ?h
  case h =>
    conv => lhs; whnf
noncomputable def fb17 : FuncBody := by
  refine' sel (fbOf (inner (top 11) 5)) ?b ?h
  case h =>
    conv => lhs; whnf
noncomputable def fs17 : Scope := by
  refine' sel (fsOf (inner (top 11) 5)) ?b ?h
  case h =>
    conv => lhs; whnf
noncomputable def fp18 : Arguments := by
  refine' sel (fpOf (inner (top 11) 6)) ?b ?h
  case h =>
    conv => lhs; whnf
noncomputable def fb18 : FuncBody := by
  refine' sel (fbOf (inner (top 11) 6)) ?b ?h
  case h =>
    conv => lhs; whnf
noncomputable def fs18 : Scope := by
  refine' sel (fsOf (inner (top 11) 6)) ?b ?h
  case h =>
    conv => lhs; whnf
noncomputable def fp19 : Arguments := by
  refine' sel (fpOf (inner (top 11) 7)) ?b ?h
  case h =>
    conv => lhs; whnf
noncomputable def fb19 : FuncBody := by
  refine' sel (fbOf (inner (top 11) 7)) ?b ?h
  case h =>
    conv => lhs; whnf
noncomputable def fs19 : Scope := by
  refine' sel (fsOf (inner (top 11) 7)) ?b ?h
  case h =>
    conv => lhs; whnf
noncomputable def fp20 : Arguments := by
  refine' sel (fpOf (inner (top 11) 8)) ?b ?h
  case h =>
    conv => lhs; whnf
noncomputable def fb20 : FuncBody := by
  refine' sel (fbOf (inner (top 11) 8)) ?b ?h
  case h =>
    conv => lhs; whnf
noncomputable def fs20 : Scope := by
  refine' sel (fsOf (inner (top 11) 8)) ?b ?h
  case h =>
    conv => lhs; whnf
noncomputable def fp21 : Arguments := by
  refine' sel (fpOf (top 13)) ?b ?h
  case h =>
    conv => lhs; whnf
noncomputable def fb21 : FuncBody := by
  refine' sel (fbOf (top 13)) ?b ?h
  case h =>
    conv => lhs; whnf
noncomputable def fs21 : Scope := by
  refine' sel (fsOf (top 13)) ?b ?h
  case h =>
    conv => lhs; whnf
noncomputable def fp22 : Arguments := by
  refine' sel (fpOf (top 14)) ?b ?h
  case h =>
    conv => lhs; whnf
noncomputable def fb22 : FuncBody := by
  refine' sel (fbOf (top 14)) ?b ?h
  case h =>
    conv => lhs; whnf
noncomputable def fs22 : Scope := by
  refine' sel (fsOf (top 14)) ?b ?h
  case h =>
    conv => lhs; whnf
noncomputable def fp23 : Arguments := by
  refine' sel (fpOf (top 15)) ?b ?h
  case h =>
    conv => lhs; whnf
noncomputable def fb23 : FuncBody := by
  refine' sel (fbOf (top 15)) ?b ?h
  case h =>
    conv => lhs; whnf
noncomputable def fs23 : Scope := by
  refine' sel (fsOf (top 15)) ?b ?h
  case h =>
    conv => lhs; whnf
noncomputable def fp24 : Arguments := by
  refine' sel (fpOf (top 16)) ?b ?h
  case h =>
    conv => lhs; whnf
noncomputable def fb24 : FuncBody := by
  refine' sel (fbOf (top 16)) ?b ?h
  case h =>
    conv => lhs; whnf
noncomputable def fs24 : Scope := by
  refine' sel (fsOf (top 16)) ?b ?h
  case h =>
    conv => lhs; whnf
noncomputable def KT : Params → Frag := fun P =>
  (nat_lit 1, { cls := Value.type "dict", data := Data.dict #[{ hash := PyData.keyHash P (Str.ofString "builtins"), key := Value.str (Str.ofString "builtins") 162, val := Value.ref 4 }, { hash := PyData.keyHash P (Str.ofString "__main__"), key := Value.str (Str.ofString "__main__") 163, val := Value.ref 5 }, { hash := PyData.keyHash P (Str.ofString "_sre"), key := Value.str (Str.ofString "_sre") 244, val := Value.ref 12 }] 3 }) ::
  (nat_lit 2, { cls := Value.none, data := Data.dict #[{ hash := PyData.keyHash P (Str.ofString "\x69mport.loaded._sre"), key := Value.str (Str.ofString "\x69mport.loaded._sre") 183, val := Value.bool true }, { hash := PyData.keyHash P (Str.ofString "class._frozen_importlib.BuiltinImporter"), key := Value.str (Str.ofString "class._frozen_importlib.BuiltinImporter") 185, val := Value.ref 14 }, { hash := PyData.keyHash P (Str.ofString "watched.\x69mport"), key := Value.str (Str.ofString "watched.\x69mport") 206, val := Value.ref 18 }, { hash := PyData.keyHash P (Str.ofString "class._frozen_importlib.ModuleSpec"), key := Value.str (Str.ofString "class._frozen_importlib.ModuleSpec") 216, val := Value.ref 22 }, { hash := PyData.keyHash P (Str.ofString "sys.modules.booked-epoch"), key := Value.str (Str.ofString "sys.modules.booked-epoch") 245, val := Value.int 3 0 }, { hash := PyData.keyHash P (Str.ofString "\x69mport.later-laid._sre"), key := Value.str (Str.ofString "\x69mport.later-laid._sre") 270, val := Value.bool true }, { hash := PyData.keyHash P (Str.ofString "watched.library"), key := Value.str (Str.ofString "watched.library") 272, val := Value.ref 27 }, { hash := PyData.keyHash P (Str.ofString "watched.library-objects"), key := Value.str (Str.ofString "watched.library-objects") 0, val := Value.str (Str.ofString "\x0c") 0 }, { hash := PyData.keyHash P (Str.ofString "watched.library-deep._sre"), key := Value.str (Str.ofString "watched.library-deep._sre") 273, val := Value.str (Str.ofString "\x04\x00\x00\x0b\x04\x00\x00\x0b\x04\x00\x00\x03\x04\x00\x00\x0b\x08\x04dict\x02") 0 }] 9 }) ::
  (nat_lit 3, { cls := Value.type "dict", data := Data.dict #[{ hash := PyData.keyHash P (Str.ofString "__name__"), key := Value.str (Str.ofString "__name__") 165, val := Value.str (Str.ofString "law_wr0031_01") 567 }, { hash := PyData.keyHash P (Str.ofString "__doc__"), key := Value.str (Str.ofString "__doc__") 166, val := Value.none }, { hash := PyData.keyHash P (Str.ofString "__package__"), key := Value.str (Str.ofString "__package__") 167, val := Value.none }, { hash := PyData.keyHash P (Str.ofString "__loader__"), key := Value.str (Str.ofString "__loader__") 168, val := Value.builtin "__main__.__loader__#opaque" }, { hash := PyData.keyHash P (Str.ofString "__spec__"), key := Value.str (Str.ofString "__spec__") 169, val := Value.none }, { hash := PyData.keyHash P (Str.ofString "__annotations__"), key := Value.str (Str.ofString "__annotations__") 170, val := Value.ref 6 }, { hash := PyData.keyHash P (Str.ofString "__builtins__"), key := Value.str (Str.ofString "__builtins__") 171, val := Value.ref 4 }, { hash := PyData.keyHash P (Str.ofString "__file__"), key := Value.str (Str.ofString "__file__") 173, val := Value.str (Str.ofString "/claim/cut.py") 172 }, { hash := PyData.keyHash P (Str.ofString "__cached__"), key := Value.str (Str.ofString "__cached__") 174, val := Value.none }, { hash := PyData.keyHash P (Str.ofString "_sre"), key := Value.str (Str.ofString "_sre") 275, val := Value.ref 12 }, { hash := PyData.keyHash P (Str.ofString "_wall"), key := Value.str (Str.ofString "_wall") 288, val := Value.ref 38 }, { hash := PyData.keyHash P (Str.ofString "Flags"), key := Value.str (Str.ofString "Flags") 339, val := Value.ref 43 }, { hash := PyData.keyHash P (Str.ofString "ParseFlags"), key := Value.str (Str.ofString "ParseFlags") 347, val := Value.ref 50 }, { hash := PyData.keyHash P (Str.ofString "_comment_line"), key := Value.str (Str.ofString "_comment_line") 356, val := Value.ref 57 }, { hash := PyData.keyHash P (Str.ofString "NL"), key := Value.str (Str.ofString "NL") 360, val := Value.str (Str.ofString "\n") 359 }, { hash := PyData.keyHash P (Str.ofString "EMPTYSTRING"), key := Value.str (Str.ofString "EMPTYSTRING") 362, val := Value.str (Str.ofString "") 361 }, { hash := PyData.keyHash P (Str.ofString "_ValueFormatter"), key := Value.str (Str.ofString "_ValueFormatter") 470, val := Value.ref 130 }, { hash := PyData.keyHash P (Str.ofString "_Accumulator"), key := Value.str (Str.ofString "_Accumulator") 566, val := Value.ref 214 }, { hash := PyData.keyHash P (Str.ofString "_law_flags"), key := Value.str (Str.ofString "_law_flags") 580, val := Value.ref 225 }, { hash := PyData.keyHash P (Str.ofString "_law_fold"), key := Value.str (Str.ofString "_law_fold") 586, val := Value.ref 230 }, { hash := PyData.keyHash P (Str.ofString "_law_widths"), key := Value.str (Str.ofString "_law_widths") 592, val := Value.ref 235 }, { hash := PyData.keyHash P (Str.ofString "law"), key := Value.str (Str.ofString "law") 598, val := Value.ref 240 }] 22 }) ::
  (nat_lit 4, { cls := Value.type "module", dict := some 0 }) ::
  (nat_lit 5, { cls := Value.type "module", dict := some 3 }) ::
  (nat_lit 6, { cls := Value.type "dict", data := Data.dict #[] }) ::
  (nat_lit 7, { cls := Value.type "tuple", data := Data.seq #[] }) ::
  (nat_lit 8, { cls := Value.none, data := Data.fields #[] }) ::
  (nat_lit 9, { cls := Value.type "code", data := Data.fields #[Value.str (Str.ofString "<module>") 176, Value.str (Str.ofString "<module>") 177, Value.str (Str.ofString "/claim/cut.py") 178, Value.int 1 0, Value.int 0 0, Value.int 0 0, Value.int 0 0, Value.int 0 0, Value.ref 7, Value.bool false, Value.int 175 0, Value.ref 8, Value.none, Value.none, Value.none, Value.none, Value.int 179 0, Value.int 1 0, Value.str (Str.ofString "/claim/cut.py") 180] }) ::
  (nat_lit 10, { cls := Value.type "frame", slots := #[some (Value.ref 9), some (Value.ref 3), some (Value.ref 3), none, some (Value.str (Str.ofString "__main__") 164), none, some (Value.ref 0)] }) ::
  (nat_lit 11, { cls := Value.type "dict", data := Data.dict #[{ hash := PyData.keyHash P (Str.ofString "__name__"), key := Value.str (Str.ofString "__name__") 247, val := Value.str (Str.ofString "_sre") 246 }, { hash := PyData.keyHash P (Str.ofString "__doc__"), key := Value.str (Str.ofString "__doc__") 248, val := Value.none }, { hash := PyData.keyHash P (Str.ofString "__package__"), key := Value.str (Str.ofString "__package__") 250, val := Value.str (Str.ofString "") 249 }, { hash := PyData.keyHash P (Str.ofString "__loader__"), key := Value.str (Str.ofString "__loader__") 251, val := Value.builtin "off-the-table:_sre.__loader__:shared#opaque" }, { hash := PyData.keyHash P (Str.ofString "__spec__"), key := Value.str (Str.ofString "__spec__") 252, val := Value.builtin "off-the-table:_sre.__spec__:shared#opaque" }, { hash := PyData.keyHash P (Str.ofString "compile"), key := Value.str (Str.ofString "compile") 253, val := Value.builtin "_sre.compile" }, { hash := PyData.keyHash P (Str.ofString "template"), key := Value.str (Str.ofString "template") 254, val := Value.builtin "off-the-table:_sre.template:shared#opaque" }, { hash := PyData.keyHash P (Str.ofString "getcodesize"), key := Value.str (Str.ofString "getcodesize") 255, val := Value.builtin "off-the-table:_sre.getcodesize:shared#opaque" }, { hash := PyData.keyHash P (Str.ofString "ascii_iscased"), key := Value.str (Str.ofString "ascii_iscased") 256, val := Value.builtin "off-the-table:_sre.ascii_iscased:shared#opaque" }, { hash := PyData.keyHash P (Str.ofString "unicode_iscased"), key := Value.str (Str.ofString "unicode_iscased") 257, val := Value.builtin "off-the-table:_sre.unicode_iscased:shared#opaque" }, { hash := PyData.keyHash P (Str.ofString "ascii_tolower"), key := Value.str (Str.ofString "ascii_tolower") 258, val := Value.builtin "off-the-table:_sre.ascii_tolower:shared#opaque" }, { hash := PyData.keyHash P (Str.ofString "unicode_tolower"), key := Value.str (Str.ofString "unicode_tolower") 259, val := Value.builtin "off-the-table:_sre.unicode_tolower:shared#opaque" }, { hash := PyData.keyHash P (Str.ofString "MAGIC"), key := Value.str (Str.ofString "MAGIC") 261, val := Value.int 20230612 260 }, { hash := PyData.keyHash P (Str.ofString "CODESIZE"), key := Value.str (Str.ofString "CODESIZE") 263, val := Value.int 4 262 }, { hash := PyData.keyHash P (Str.ofString "MAXREPEAT"), key := Value.str (Str.ofString "MAXREPEAT") 265, val := Value.int 4294967295 264 }, { hash := PyData.keyHash P (Str.ofString "MAXGROUPS"), key := Value.str (Str.ofString "MAXGROUPS") 267, val := Value.int 1073741823 266 }, { hash := PyData.keyHash P (Str.ofString "copyright"), key := Value.str (Str.ofString "copyright") 269, val := Value.str (Str.ofString " SRE 2.2.2 Copyright (c) 1997-2002 by Secret Labs AB ") 268 }] 17 }) ::
  (nat_lit 12, { cls := Value.type "module", dict := some 11 }) ::
  (nat_lit 13, { cls := Value.type "dict", data := Data.dict #[{ hash := PyData.keyHash P (Str.ofString "__module__"), key := Value.str (Str.ofString "__module__") 189, val := Value.str (Str.ofString "_frozen_importlib") 186 }, { hash := PyData.keyHash P (Str.ofString "__firstlineno__"), key := Value.str (Str.ofString "__firstlineno__") 190, val := Value.int 971 187 }, { hash := PyData.keyHash P (Str.ofString "__doc__"), key := Value.str (Str.ofString "__doc__") 191, val := Value.builtin "_frozen_importlib.BuiltinImporter.__doc__:str#opaque" }, { hash := PyData.keyHash P (Str.ofString "_ORIGIN"), key := Value.str (Str.ofString "_ORIGIN") 192, val := Value.str (Str.ofString "built-in") 188 }, { hash := PyData.keyHash P (Str.ofString "find_spec"), key := Value.str (Str.ofString "find_spec") 193, val := Value.builtin "_frozen_importlib.BuiltinImporter.find_spec#opaque" }, { hash := PyData.keyHash P (Str.ofString "create_module"), key := Value.str (Str.ofString "create_module") 194, val := Value.builtin "_frozen_importlib.BuiltinImporter.create_module#opaque" }, { hash := PyData.keyHash P (Str.ofString "exec_module"), key := Value.str (Str.ofString "exec_module") 195, val := Value.builtin "_frozen_importlib.BuiltinImporter.exec_module#opaque" }, { hash := PyData.keyHash P (Str.ofString "get_code"), key := Value.str (Str.ofString "get_code") 196, val := Value.builtin "_frozen_importlib.BuiltinImporter.get_code#opaque" }, { hash := PyData.keyHash P (Str.ofString "get_source"), key := Value.str (Str.ofString "get_source") 197, val := Value.builtin "_frozen_importlib.BuiltinImporter.get_source#opaque" }, { hash := PyData.keyHash P (Str.ofString "is_package"), key := Value.str (Str.ofString "is_package") 198, val := Value.builtin "_frozen_importlib.BuiltinImporter.is_package#opaque" }, { hash := PyData.keyHash P (Str.ofString "load_module"), key := Value.str (Str.ofString "load_module") 199, val := Value.builtin "_frozen_importlib.BuiltinImporter.load_module#opaque" }, { hash := PyData.keyHash P (Str.ofString "__static_attributes__"), key := Value.str (Str.ofString "__static_attributes__") 200, val := Value.ref 15 }, { hash := PyData.keyHash P (Str.ofString "__dict__"), key := Value.str (Str.ofString "__dict__") 202, val := Value.ref 16 }, { hash := PyData.keyHash P (Str.ofString "__weakref__"), key := Value.str (Str.ofString "__weakref__") 204, val := Value.ref 17 }] 14 }) ::
  (nat_lit 14, { cls := Value.type "type", data := Data.cls { name := Str.ofString "BuiltinImporter", bases := [Value.type "object"], mro := [Value.ref 14, Value.type "object"], ns := 13, qualname := Str.ofString "BuiltinImporter" } }) ::
  (nat_lit 15, { cls := Value.type "tuple", data := Data.seq #[] }) ::
  (nat_lit 32, { cls := Value.type "tuple", data := Data.seq #[] }) ::
  (nat_lit 33, { cls := Value.none, data := Data.fields #[] }) ::
  (nat_lit 34, { cls := Value.type "tuple", data := Data.seq #[Value.str (Str.ofString "k") 285] }) ::
  (nat_lit 35, { cls := Value.type "tuple", data := Data.seq #[] }) ::
  (nat_lit 37, { cls := Value.type "code", data := Data.fields #[Value.str (Str.ofString "_wall") 282, Value.str (Str.ofString "_wall") 283, Value.str (Str.ofString "/claim/cut.py") 284, Value.int 2 0, Value.int 1 0, Value.int 0 0, Value.int 0 0, Value.int 3 0, Value.ref 32, Value.bool true, Value.int 276 0, Value.ref 33, Value.none, Value.ref 34, Value.ref 35, Value.ref 36, Value.int 286 0, Value.int 2 0, Value.str (Str.ofString "/claim/cut.py") 287] }) ::
  (nat_lit 40, { cls := Value.type "dict", data := Data.dict #[{ hash := PyData.keyHash P (Str.ofString "flags"), key := Value.str (Str.ofString "flags") 334, val := Value.int 1 335 }] 1 }) ::
  (nat_lit 41, { cls := Value.type "tuple", data := Data.seq #[Value.none, Value.str (Str.ofString "flags") 337] }) ::
  (nat_lit 42, { cls := Value.type "tuple", data := Data.seq #[Value.int 14 0, Value.int 4 0, Value.int 0 0, Value.int 8 0, Value.int 4294967295 0, Value.int 24 0, Value.int 5 0, Value.int 0 0, Value.int 4294967295 0, Value.int 2 0, Value.int 1 0, Value.int 16 0, Value.int 70 0, Value.int 16 0, Value.int 76 0, Value.int 16 0, Value.int 65 0, Value.int 16 0, Value.int 71 0, Value.int 16 0, Value.int 83 0, Value.int 16 0, Value.int 32 0, Value.int 16 0, Value.int 40 0, Value.int 17 0, Value.int 0 0, Value.int 24 0, Value.int 6 0, Value.int 0 0, Value.int 4294967295 0, Value.int 20 0, Value.int 41 0, Value.int 1 0, Value.int 17 0, Value.int 1 0, Value.int 16 0, Value.int 41 0, Value.int 1 0] }) ::
  (nat_lit 43, { cls := Value.type "re.Pattern", data := Data.fields #[Value.bytes #[46, 42, 70, 76, 65, 71, 83, 32, 92, 40, 40, 63, 80, 60, 102, 108, 97, 103, 115, 62, 91, 94, 92, 41, 93, 42, 41, 92, 41] 292, Value.int 0 338, Value.int 1 0, Value.ref 40, Value.ref 41, Value.ref 42, Value.int 1 0] }) ::
  (nat_lit 44, { cls := Value.type "tuple", data := Data.seq #[] }) ::
  (nat_lit 45, { cls := Value.none, data := Data.fields #[] }) ::
  (nat_lit 46, { cls := Value.type "tuple", data := Data.seq #[Value.str (Str.ofString "resp") 343, Value.str (Str.ofString "mo") 344] }) ::
  (nat_lit 47, { cls := Value.type "tuple", data := Data.seq #[] }) ::
  (nat_lit 48, { cls := Value.none, data := Data.func { name := Str.ofString "ParseFlags", qualname := Str.ofString "ParseFlags", params := fp1, body := fb1, scope := fs1, globals := 0, closure := [], defaults := Value.none, kwdefaults := Value.none } }) ::
  (nat_lit 49, { cls := Value.type "code", data := Data.fields #[Value.str (Str.ofString "ParseFlags") 340, Value.str (Str.ofString "ParseFlags") 341, Value.str (Str.ofString "/claim/cut.py") 342, Value.int 7 0, Value.int 1 0, Value.int 0 0, Value.int 0 0, Value.int 3 0, Value.ref 44, Value.bool true, Value.int 276 0, Value.ref 45, Value.none, Value.ref 46, Value.ref 47, Value.ref 48, Value.int 345 0, Value.int 7 0, Value.str (Str.ofString "/claim/cut.py") 346] }) ::
  (nat_lit 50, { cls := Value.type "function", data := Data.func { name := Str.ofString "ParseFlags", qualname := Str.ofString "ParseFlags", params := fp1, body := fb1, scope := fs1, globals := 3, closure := [], defaults := Value.none, kwdefaults := Value.none, pyModule := Value.str (Str.ofString "cpy313.imaplib") 289, code := Value.ref 49 } }) ::
  (nat_lit 51, { cls := Value.type "tuple", data := Data.seq #[] }) ::
  (nat_lit 52, { cls := Value.none, data := Data.fields #[] }) ::
  (nat_lit 53, { cls := Value.type "tuple", data := Data.seq #[Value.str (Str.ofString "line") 353] }) ::
  (nat_lit 54, { cls := Value.type "tuple", data := Data.seq #[] }) ::
  (nat_lit 55, { cls := Value.none, data := Data.func { name := Str.ofString "_comment_line", qualname := Str.ofString "_comment_line", params := fp2, body := fb2, scope := fs2, globals := 0, closure := [], defaults := Value.none, kwdefaults := Value.none } }) ::
  (nat_lit 56, { cls := Value.type "code", data := Data.fields #[Value.str (Str.ofString "_comment_line") 350, Value.str (Str.ofString "_comment_line") 351, Value.str (Str.ofString "/claim/cut.py") 352, Value.int 13 0, Value.int 1 0, Value.int 0 0, Value.int 0 0, Value.int 3 0, Value.ref 51, Value.bool true, Value.int 276 0, Value.ref 52, Value.none, Value.ref 53, Value.ref 54, Value.ref 55, Value.int 354 0, Value.int 13 0, Value.str (Str.ofString "/claim/cut.py") 355] }) ::
  (nat_lit 57, { cls := Value.type "function", data := Data.func { name := Str.ofString "_comment_line", qualname := Str.ofString "_comment_line", params := fp2, body := fb2, scope := fs2, globals := 3, closure := [], defaults := Value.none, kwdefaults := Value.none, pyModule := Value.str (Str.ofString "cpy313.doctest") 348, code := Value.ref 56 } }) ::
  (nat_lit 65, { cls := Value.type "tuple", data := Data.seq #[] }) ::
  (nat_lit 66, { cls := Value.none, data := Data.fields #[] }) ::
  (nat_lit 67, { cls := Value.type "tuple", data := Data.seq #[Value.str (Str.ofString "self") 378, Value.str (Str.ofString "headerlen") 379, Value.str (Str.ofString "maxlen") 380, Value.str (Str.ofString "continuation_ws") 381, Value.str (Str.ofString "splitchars") 382] }) ::
  (nat_lit 68, { cls := Value.type "tuple", data := Data.seq #[] }) ::
  (nat_lit 69, { cls := Value.none, data := Data.func { name := Str.ofString "__init__", qualname := Str.ofString "_ValueFormatter.__init__", params := fp3, body := fb3, scope := fs3, globals := 0, closure := [], defaults := Value.none, kwdefaults := Value.none } }) ::
  (nat_lit 70, { cls := Value.type "code", data := Data.fields #[Value.str (Str.ofString "__init__") 375, Value.str (Str.ofString "_ValueFormatter.__init__") 376, Value.str (Str.ofString "/claim/cut.py") 377, Value.int 24 0, Value.int 5 0, Value.int 0 0, Value.int 0 0, Value.int 3 0, Value.ref 65, Value.bool true, Value.int 276 0, Value.ref 66, Value.none, Value.ref 67, Value.ref 68, Value.ref 69, Value.int 383 0, Value.int 24 0, Value.str (Str.ofString "/claim/cut.py") 384] }) ::
  (nat_lit 71, { cls := Value.type "function", data := Data.func { name := Str.ofString "__init__", qualname := Str.ofString "_ValueFormatter.__init__", params := fp3, body := fb3, scope := fs3, globals := 3, closure := [], defaults := Value.none, kwdefaults := Value.none, pyModule := Value.str (Str.ofString "cpy313.email.header") 357, code := Value.ref 70 } }) ::
  (nat_lit 72, { cls := Value.type "tuple", data := Data.seq #[] }) ::
  (nat_lit 73, { cls := Value.none, data := Data.fields #[] }) ::
  (nat_lit 74, { cls := Value.type "tuple", data := Data.seq #[Value.str (Str.ofString "self") 389, Value.str (Str.ofString "linesep") 390] }) ::
  (nat_lit 75, { cls := Value.type "tuple", data := Data.seq #[] }) ::
  (nat_lit 76, { cls := Value.none, data := Data.func { name := Str.ofString "_str", qualname := Str.ofString "_ValueFormatter._str", params := fp4, body := fb4, scope := fs4, globals := 0, closure := [], defaults := Value.none, kwdefaults := Value.none } }) ::
  (nat_lit 77, { cls := Value.type "code", data := Data.fields #[Value.str (Str.ofString "_str") 386, Value.str (Str.ofString "_ValueFormatter._str") 387, Value.str (Str.ofString "/claim/cut.py") 388, Value.int 32 0, Value.int 2 0, Value.int 0 0, Value.int 0 0, Value.int 3 0, Value.ref 72, Value.bool true, Value.int 276 0, Value.ref 73, Value.none, Value.ref 74, Value.ref 75, Value.ref 76, Value.int 391 0, Value.int 32 0, Value.str (Str.ofString "/claim/cut.py") 392] }) ::
  (nat_lit 78, { cls := Value.type "function", data := Data.func { name := Str.ofString "_str", qualname := Str.ofString "_ValueFormatter._str", params := fp4, body := fb4, scope := fs4, globals := 3, closure := [], defaults := Value.none, kwdefaults := Value.none, pyModule := Value.str (Str.ofString "cpy313.email.header") 357, code := Value.ref 77 } }) ::
  (nat_lit 79, { cls := Value.type "tuple", data := Data.seq #[] }) ::
  (nat_lit 80, { cls := Value.none, data := Data.fields #[] }) ::
  (nat_lit 81, { cls := Value.type "tuple", data := Data.seq #[Value.str (Str.ofString "self") 397] }) ::
  (nat_lit 82, { cls := Value.type "tuple", data := Data.seq #[] }) ::
  (nat_lit 84, { cls := Value.type "code", data := Data.fields #[Value.str (Str.ofString "__str__") 394, Value.str (Str.ofString "_ValueFormatter.__str__") 395, Value.str (Str.ofString "/claim/cut.py") 396, Value.int 36 0, Value.int 1 0, Value.int 0 0, Value.int 0 0, Value.int 3 0, Value.ref 79, Value.bool true, Value.int 276 0, Value.ref 80, Value.none, Value.ref 81, Value.ref 82, Value.ref 83, Value.int 398 0, Value.int 36 0, Value.str (Str.ofString "/claim/cut.py") 399] }) ::
  (nat_lit 86, { cls := Value.type "tuple", data := Data.seq #[] }) ::
  (nat_lit 87, { cls := Value.none, data := Data.fields #[] }) ::
  (nat_lit 88, { cls := Value.type "tuple", data := Data.seq #[Value.str (Str.ofString "self") 404, Value.str (Str.ofString "end_of_line") 405] }) ::
  (nat_lit 89, { cls := Value.type "tuple", data := Data.seq #[] }) ::
  (nat_lit 90, { cls := Value.none, data := Data.func { name := Str.ofString "newline", qualname := Str.ofString "_ValueFormatter.newline", params := fp6, body := fb6, scope := fs6, globals := 0, closure := [], defaults := Value.none, kwdefaults := Value.none } }) ::
  (nat_lit 91, { cls := Value.type "code", data := Data.fields #[Value.str (Str.ofString "newline") 401, Value.str (Str.ofString "_ValueFormatter.newline") 402, Value.str (Str.ofString "/claim/cut.py") 403, Value.int 39 0, Value.int 1 0, Value.int 0 0, Value.int 0 0, Value.int 3 0, Value.ref 86, Value.bool true, Value.int 276 0, Value.ref 87, Value.none, Value.ref 88, Value.ref 89, Value.ref 90, Value.int 406 0, Value.int 39 0, Value.str (Str.ofString "/claim/cut.py") 407] }) ::
  (nat_lit 92, { cls := Value.type "function", data := Data.func { name := Str.ofString "newline", qualname := Str.ofString "_ValueFormatter.newline", params := fp6, body := fb6, scope := fs6, globals := 3, closure := [], defaults := Value.none, kwdefaults := Value.none, pyModule := Value.str (Str.ofString "cpy313.email.header") 357, code := Value.ref 91 } }) ::
  (nat_lit 93, { cls := Value.type "tuple", data := Data.seq #[] }) ::
  (nat_lit 94, { cls := Value.none, data := Data.fields #[] }) ::
  (nat_lit 95, { cls := Value.type "tuple", data := Data.seq #[Value.str (Str.ofString "self") 412] }) ::
  (nat_lit 96, { cls := Value.type "tuple", data := Data.seq #[] }) ::
  (nat_lit 98, { cls := Value.type "code", data := Data.fields #[Value.str (Str.ofString "add_transition") 409, Value.str (Str.ofString "_ValueFormatter.add_transition") 410, Value.str (Str.ofString "/claim/cut.py") 411, Value.int 50 0, Value.int 1 0, Value.int 0 0, Value.int 0 0, Value.int 3 0, Value.ref 93, Value.bool true, Value.int 276 0, Value.ref 94, Value.none, Value.ref 95, Value.ref 96, Value.ref 97, Value.int 413 0, Value.int 50 0, Value.str (Str.ofString "/claim/cut.py") 414] }) ::
  (nat_lit 100, { cls := Value.type "tuple", data := Data.seq #[] }) ::
  (nat_lit 101, { cls := Value.none, data := Data.fields #[] }) ::
  (nat_lit 102, { cls := Value.type "tuple", data := Data.seq #[Value.str (Str.ofString "self") 419, Value.str (Str.ofString "fws") 420, Value.str (Str.ofString "string") 421, Value.str (Str.ofString "charset") 422] }) ::
  (nat_lit 103, { cls := Value.type "tuple", data := Data.seq #[] }) ::
  (nat_lit 105, { cls := Value.type "code", data := Data.fields #[Value.str (Str.ofString "feed") 416, Value.str (Str.ofString "_ValueFormatter.feed") 417, Value.str (Str.ofString "/claim/cut.py") 418, Value.int 53 0, Value.int 4 0, Value.int 0 0, Value.int 0 0, Value.int 3 0, Value.ref 100, Value.bool true, Value.int 276 0, Value.ref 101, Value.none, Value.ref 102, Value.ref 103, Value.ref 104, Value.int 423 0, Value.int 53 0, Value.str (Str.ofString "/claim/cut.py") 424] }) ::
  (nat_lit 107, { cls := Value.type "tuple", data := Data.seq #[] }) ::
  (nat_lit 108, { cls := Value.none, data := Data.fields #[] }) ::
  (nat_lit 109, { cls := Value.type "tuple", data := Data.seq #[Value.str (Str.ofString "self") 429] }) ::
  (nat_lit 110, { cls := Value.type "tuple", data := Data.seq #[] }) ::
  (nat_lit 112, { cls := Value.type "code", data := Data.fields #[Value.str (Str.ofString "_maxlengths") 426, Value.str (Str.ofString "_ValueFormatter._maxlengths") 427, Value.str (Str.ofString "/claim/cut.py") 428, Value.int 56 0, Value.int 1 0, Value.int 0 0, Value.int 0 0, Value.int 3 0, Value.ref 107, Value.bool true, Value.int 276 0, Value.ref 108, Value.none, Value.ref 109, Value.ref 110, Value.ref 111, Value.int 430 0, Value.int 56 0, Value.str (Str.ofString "/claim/cut.py") 431] }) ::
  (nat_lit 114, { cls := Value.type "tuple", data := Data.seq #[] }) ::
  (nat_lit 115, { cls := Value.none, data := Data.fields #[] }) ::
  (nat_lit 116, { cls := Value.type "tuple", data := Data.seq #[Value.str (Str.ofString "self") 436, Value.str (Str.ofString "fws") 437, Value.str (Str.ofString "string") 438, Value.str (Str.ofString "splitchars") 439] }) ::
  (nat_lit 117, { cls := Value.type "tuple", data := Data.seq #[] }) ::
  (nat_lit 119, { cls := Value.type "code", data := Data.fields #[Value.str (Str.ofString "_ascii_split") 433, Value.str (Str.ofString "_ValueFormatter._ascii_split") 434, Value.str (Str.ofString "/claim/cut.py") 435, Value.int 59 0, Value.int 4 0, Value.int 0 0, Value.int 0 0, Value.int 3 0, Value.ref 114, Value.bool true, Value.int 276 0, Value.ref 115, Value.none, Value.ref 116, Value.ref 117, Value.ref 118, Value.int 440 0, Value.int 59 0, Value.str (Str.ofString "/claim/cut.py") 441] }) ::
  (nat_lit 121, { cls := Value.type "tuple", data := Data.seq #[] }) ::
  (nat_lit 122, { cls := Value.none, data := Data.fields #[] }) ::
  (nat_lit 123, { cls := Value.type "tuple", data := Data.seq #[Value.str (Str.ofString "self") 446, Value.str (Str.ofString "fws") 447, Value.str (Str.ofString "string") 448, Value.str (Str.ofString "ch") 449, Value.str (Str.ofString "i") 450, Value.str (Str.ofString "prevpart") 451, Value.str (Str.ofString "part") 452, Value.str (Str.ofString "remainder") 453] }) ::
  (nat_lit 124, { cls := Value.type "tuple", data := Data.seq #[] }) ::
  (nat_lit 125, { cls := Value.none, data := Data.func { name := Str.ofString "_append_chunk", qualname := Str.ofString "_ValueFormatter._append_chunk", params := fp11, body := fb11, scope := fs11, globals := 0, closure := [], defaults := Value.none, kwdefaults := Value.none } }) ::
  (nat_lit 126, { cls := Value.type "code", data := Data.fields #[Value.str (Str.ofString "_append_chunk") 443, Value.str (Str.ofString "_ValueFormatter._append_chunk") 444, Value.str (Str.ofString "/claim/cut.py") 445, Value.int 62 0, Value.int 3 0, Value.int 0 0, Value.int 0 0, Value.int 3 0, Value.ref 121, Value.bool true, Value.int 276 0, Value.ref 122, Value.none, Value.ref 123, Value.ref 124, Value.ref 125, Value.int 454 0, Value.int 62 0, Value.str (Str.ofString "/claim/cut.py") 455] }) ::
  (nat_lit 127, { cls := Value.type "function", data := Data.func { name := Str.ofString "_append_chunk", qualname := Str.ofString "_ValueFormatter._append_chunk", params := fp11, body := fb11, scope := fs11, globals := 3, closure := [], defaults := Value.none, kwdefaults := Value.none, pyModule := Value.str (Str.ofString "cpy313.email.header") 357, code := Value.ref 126 } }) ::
  (nat_lit 128, { cls := Value.type "tuple", data := Data.seq #[Value.str (Str.ofString "_continuation_ws") 457, Value.str (Str.ofString "_continuation_ws_len") 458, Value.str (Str.ofString "_current_line") 459, Value.str (Str.ofString "_lines") 460, Value.str (Str.ofString "_maxlen") 461, Value.str (Str.ofString "_splitchars") 462] }) ::
  (nat_lit 129, { cls := Value.type "dict", data := Data.dict #[{ hash := PyData.keyHash P (Str.ofString "__module__"), key := Value.str (Str.ofString "__module__") 370, val := Value.str (Str.ofString "cpy313.email.header") 357 }, { hash := PyData.keyHash P (Str.ofString "__firstlineno__"), key := Value.str (Str.ofString "__firstlineno__") 374, val := Value.int 22 373 }, { hash := PyData.keyHash P (Str.ofString "__init__"), key := Value.str (Str.ofString "__init__") 385, val := Value.ref 71 }, { hash := PyData.keyHash P (Str.ofString "_str"), key := Value.str (Str.ofString "_str") 393, val := Value.ref 78 }, { hash := PyData.keyHash P (Str.ofString "__str__"), key := Value.str (Str.ofString "__str__") 400, val := Value.ref 85 }, { hash := PyData.keyHash P (Str.ofString "newline"), key := Value.str (Str.ofString "newline") 408, val := Value.ref 92 }, { hash := PyData.keyHash P (Str.ofString "add_transition"), key := Value.str (Str.ofString "add_transition") 415, val := Value.ref 99 }, { hash := PyData.keyHash P (Str.ofString "feed"), key := Value.str (Str.ofString "feed") 425, val := Value.ref 106 }, { hash := PyData.keyHash P (Str.ofString "_maxlengths"), key := Value.str (Str.ofString "_maxlengths") 432, val := Value.ref 113 }, { hash := PyData.keyHash P (Str.ofString "_ascii_split"), key := Value.str (Str.ofString "_ascii_split") 442, val := Value.ref 120 }, { hash := PyData.keyHash P (Str.ofString "_append_chunk"), key := Value.str (Str.ofString "_append_chunk") 456, val := Value.ref 127 }, { hash := PyData.keyHash P (Str.ofString "__static_attributes__"), key := Value.str (Str.ofString "__static_attributes__") 463, val := Value.ref 128 }, { hash := PyData.keyHash P (Str.ofString "__dict__"), key := Value.str (Str.ofString "__dict__") 465, val := Value.ref 131 }, { hash := PyData.keyHash P (Str.ofString "__weakref__"), key := Value.str (Str.ofString "__weakref__") 467, val := Value.ref 132 }, { hash := PyData.keyHash P (Str.ofString "__doc__"), key := Value.str (Str.ofString "__doc__") 468, val := Value.none }] 4 }) ::
  (nat_lit 130, { cls := Value.type "type", data := Data.cls { name := Str.ofString "_ValueFormatter", bases := [Value.type "object"], mro := [Value.ref 130, Value.type "object"], ns := 129, qualname := Str.ofString "_ValueFormatter" }, slots := #[none, none, some (Value.str (Str.ofString "_ValueFormatter") 363), some (Value.str (Str.ofString "_ValueFormatter") 371), some (Value.builtin "object.__new__"), some (Value.bool true)] }) ::
  (nat_lit 131, { cls := Value.type "getset_descriptor", data := Data.fields #[Value.str (Str.ofString "__dict__") 464, Value.ref 130, Value.builtin "function.__dict__", Value.builtin "function.__dict__#set"] }) ::
  (nat_lit 132, { cls := Value.type "getset_descriptor", data := Data.fields #[Value.str (Str.ofString "__weakref__") 466, Value.ref 130, Value.builtin "ExceptionGroup.__weakref__", Value.none] }) ::
  (nat_lit 135, { cls := Value.type "tuple", data := Data.seq #[Value.type "list"] }) ::
  (nat_lit 138, { cls := Value.type "cell", data := Data.cell (some (Value.ref 214)) }) ::
  (nat_lit 143, { cls := Value.type "tuple", data := Data.seq #[Value.int 0 483] }) ::
  (nat_lit 144, { cls := Value.type "tuple", data := Data.seq #[Value.ref 138] }) ::
  (nat_lit 145, { cls := Value.type "tuple", data := Data.seq #[Value.str (Str.ofString "__class__") 487] }) ::
  (nat_lit 146, { cls := Value.none, data := Data.fields #[] }) ::
  (nat_lit 147, { cls := Value.type "tuple", data := Data.seq #[Value.str (Str.ofString "self") 488, Value.str (Str.ofString "initial_size") 489] }) ::
  (nat_lit 148, { cls := Value.type "tuple", data := Data.seq #[] }) ::
  (nat_lit 149, { cls := Value.none, data := Data.func { name := Str.ofString "__init__", qualname := Str.ofString "_Accumulator.__init__", params := fp12, body := fb12, scope := fs12, globals := 0, closure := [], defaults := Value.none, kwdefaults := Value.none } }) ::
  (nat_lit 150, { cls := Value.type "code", data := Data.fields #[Value.str (Str.ofString "__init__") 484, Value.str (Str.ofString "_Accumulator.__init__") 485, Value.str (Str.ofString "/claim/cut.py") 486, Value.int 90 0, Value.int 2 0, Value.int 0 0, Value.int 0 0, Value.int 3 0, Value.ref 145, Value.bool true, Value.int 276 0, Value.ref 146, Value.none, Value.ref 147, Value.ref 148, Value.ref 149, Value.int 490 0, Value.int 90 0, Value.str (Str.ofString "/claim/cut.py") 491] }) ::
  (nat_lit 151, { cls := Value.type "function", data := Data.func { name := Str.ofString "__init__", qualname := Str.ofString "_Accumulator.__init__", params := fp12, body := fb12, scope := fs12, globals := 3, closure := [(Str.ofString "__class__", 138)], defaults := Value.ref 143, kwdefaults := Value.none, pyModule := Value.str (Str.ofString "cpy313.email.header") 357, code := Value.ref 150, closureTuple := Value.ref 144 } }) ::
  (nat_lit 152, { cls := Value.type "tuple", data := Data.seq #[] }) ::
  (nat_lit 153, { cls := Value.none, data := Data.fields #[] }) ::
  (nat_lit 154, { cls := Value.type "tuple", data := Data.seq #[Value.str (Str.ofString "self") 496, Value.str (Str.ofString "fws") 497, Value.str (Str.ofString "string") 498] }) ::
  (nat_lit 155, { cls := Value.type "tuple", data := Data.seq #[] }) ::
  (nat_lit 156, { cls := Value.none, data := Data.func { name := Str.ofString "push", qualname := Str.ofString "_Accumulator.push", params := fp13, body := fb13, scope := fs13, globals := 0, closure := [], defaults := Value.none, kwdefaults := Value.none } }) ::
  (nat_lit 157, { cls := Value.type "code", data := Data.fields #[Value.str (Str.ofString "push") 493, Value.str (Str.ofString "_Accumulator.push") 494, Value.str (Str.ofString "/claim/cut.py") 495, Value.int 94 0, Value.int 3 0, Value.int 0 0, Value.int 0 0, Value.int 3 0, Value.ref 152, Value.bool true, Value.int 276 0, Value.ref 153, Value.none, Value.ref 154, Value.ref 155, Value.ref 156, Value.int 499 0, Value.int 94 0, Value.str (Str.ofString "/claim/cut.py") 500] }) ::
  (nat_lit 158, { cls := Value.type "function", data := Data.func { name := Str.ofString "push", qualname := Str.ofString "_Accumulator.push", params := fp13, body := fb13, scope := fs13, globals := 3, closure := [], defaults := Value.none, kwdefaults := Value.none, pyModule := Value.str (Str.ofString "cpy313.email.header") 357, code := Value.ref 157 } }) ::
  (nat_lit 159, { cls := Value.type "tuple", data := Data.seq #[Value.int 0 502] }) ::
  (nat_lit 160, { cls := Value.type "tuple", data := Data.seq #[] }) ::
  (nat_lit 161, { cls := Value.none, data := Data.fields #[] }) ::
  (nat_lit 162, { cls := Value.type "tuple", data := Data.seq #[Value.str (Str.ofString "self") 506, Value.str (Str.ofString "i") 507, Value.str (Str.ofString "popped") 508] }) ::
  (nat_lit 163, { cls := Value.type "tuple", data := Data.seq #[] }) ::
  (nat_lit 164, { cls := Value.none, data := Data.func { name := Str.ofString "pop_from", qualname := Str.ofString "_Accumulator.pop_from", params := fp14, body := fb14, scope := fs14, globals := 0, closure := [], defaults := Value.none, kwdefaults := Value.none } }) ::
  (nat_lit 165, { cls := Value.type "code", data := Data.fields #[Value.str (Str.ofString "pop_from") 503, Value.str (Str.ofString "_Accumulator.pop_from") 504, Value.str (Str.ofString "/claim/cut.py") 505, Value.int 97 0, Value.int 2 0, Value.int 0 0, Value.int 0 0, Value.int 3 0, Value.ref 160, Value.bool true, Value.int 276 0, Value.ref 161, Value.none, Value.ref 162, Value.ref 163, Value.ref 164, Value.int 509 0, Value.int 97 0, Value.str (Str.ofString "/claim/cut.py") 510] }) ::
  (nat_lit 166, { cls := Value.type "function", data := Data.func { name := Str.ofString "pop_from", qualname := Str.ofString "_Accumulator.pop_from", params := fp14, body := fb14, scope := fs14, globals := 3, closure := [], defaults := Value.ref 159, kwdefaults := Value.none, pyModule := Value.str (Str.ofString "cpy313.email.header") 357, code := Value.ref 165 } }) ::
  (nat_lit 167, { cls := Value.type "tuple", data := Data.seq #[Value.ref 138] }) ::
  (nat_lit 168, { cls := Value.type "tuple", data := Data.seq #[Value.str (Str.ofString "__class__") 515] }) ::
  (nat_lit 169, { cls := Value.none, data := Data.fields #[] }) ::
  (nat_lit 170, { cls := Value.type "tuple", data := Data.seq #[Value.str (Str.ofString "self") 516] }) ::
  (nat_lit 171, { cls := Value.type "tuple", data := Data.seq #[] }) ::
  (nat_lit 172, { cls := Value.none, data := Data.func { name := Str.ofString "pop", qualname := Str.ofString "_Accumulator.pop", params := fp15, body := fb15, scope := fs15, globals := 0, closure := [], defaults := Value.none, kwdefaults := Value.none } }) ::
  (nat_lit 173, { cls := Value.type "code", data := Data.fields #[Value.str (Str.ofString "pop") 512, Value.str (Str.ofString "_Accumulator.pop") 513, Value.str (Str.ofString "/claim/cut.py") 514, Value.int 102 0, Value.int 1 0, Value.int 0 0, Value.int 0 0, Value.int 3 0, Value.ref 168, Value.bool true, Value.int 276 0, Value.ref 169, Value.none, Value.ref 170, Value.ref 171, Value.ref 172, Value.int 517 0, Value.int 102 0, Value.str (Str.ofString "/claim/cut.py") 518] }) ::
  (nat_lit 174, { cls := Value.type "function", data := Data.func { name := Str.ofString "pop", qualname := Str.ofString "_Accumulator.pop", params := fp15, body := fb15, scope := fs15, globals := 3, closure := [(Str.ofString "__class__", 138)], defaults := Value.none, kwdefaults := Value.none, pyModule := Value.str (Str.ofString "cpy313.email.header") 357, code := Value.ref 173, closureTuple := Value.ref 167 } }) ::
  (nat_lit 175, { cls := Value.type "tuple", data := Data.seq #[] }) ::
  (nat_lit 177, { cls := Value.type "tuple", data := Data.seq #[Value.str (Str.ofString "self") 523] }) ::
  (nat_lit 178, { cls := Value.type "tuple", data := Data.seq #[] }) ::
  (nat_lit 179, { cls := Value.none, data := Data.func { name := Str.ofString "__len__", qualname := Str.ofString "_Accumulator.__len__", params := fp16, body := fb16, scope := fs16, globals := 0, closure := [], defaults := Value.none, kwdefaults := Value.none } }) ::
  (nat_lit 180, { cls := Value.type "code", data := Data.fields #[Value.str (Str.ofString "__len__") 520, Value.str (Str.ofString "_Accumulator.__len__") 521, Value.str (Str.ofString "/claim/cut.py") 522, Value.int 107 0, Value.int 1 0, Value.int 0 0, Value.int 0 0, Value.int 3 0, Value.ref 175, Value.bool true, Value.int 276 0, Value.ref 176, Value.none, Value.ref 177, Value.ref 178, Value.ref 179, Value.int 524 0, Value.int 107 0, Value.str (Str.ofString "/claim/cut.py") 525] }) ::
  (nat_lit 181, { cls := Value.type "function", data := Data.func { name := Str.ofString "__len__", qualname := Str.ofString "_Accumulator.__len__", params := fp16, body := fb16, scope := fs16, globals := 3, closure := [], defaults := Value.none, kwdefaults := Value.none, pyModule := Value.str (Str.ofString "cpy313.email.header") 357, code := Value.ref 180 } }) ::
  (nat_lit 182, { cls := Value.type "tuple", data := Data.seq #[] }) ::
  (nat_lit 184, { cls := Value.type "tuple", data := Data.seq #[Value.str (Str.ofString "self") 530] }) ::
  (nat_lit 185, { cls := Value.type "tuple", data := Data.seq #[] }) ::
  (nat_lit 186, { cls := Value.none, data := Data.func { name := Str.ofString "__str__", qualname := Str.ofString "_Accumulator.__str__", params := fp17, body := fb17, scope := fs17, globals := 0, closure := [], defaults := Value.none, kwdefaults := Value.none } }) ::
  (nat_lit 187, { cls := Value.type "code", data := Data.fields #[Value.str (Str.ofString "__str__") 527, Value.str (Str.ofString "_Accumulator.__str__") 528, Value.str (Str.ofString "/claim/cut.py") 529, Value.int 110 0, Value.int 1 0, Value.int 0 0, Value.int 0 0, Value.int 3 0, Value.ref 182, Value.bool true, Value.int 276 0, Value.ref 183, Value.none, Value.ref 184, Value.ref 185, Value.ref 186, Value.int 531 0, Value.int 110 0, Value.str (Str.ofString "/claim/cut.py") 532] }) ::
  (nat_lit 188, { cls := Value.type "function", data := Data.func { name := Str.ofString "__str__", qualname := Str.ofString "_Accumulator.__str__", params := fp17, body := fb17, scope := fs17, globals := 3, closure := [], defaults := Value.none, kwdefaults := Value.none, pyModule := Value.str (Str.ofString "cpy313.email.header") 357, code := Value.ref 187 } }) ::
  (nat_lit 189, { cls := Value.type "tuple", data := Data.seq #[Value.none] }) ::
  (nat_lit 190, { cls := Value.type "tuple", data := Data.seq #[] }) ::
  (nat_lit 191, { cls := Value.none, data := Data.fields #[] }) ::
  (nat_lit 192, { cls := Value.type "tuple", data := Data.seq #[Value.str (Str.ofString "self") 537, Value.str (Str.ofString "startval") 538] }) ::
  (nat_lit 193, { cls := Value.type "tuple", data := Data.seq #[] }) ::
  (nat_lit 194, { cls := Value.none, data := Data.func { name := Str.ofString "reset", qualname := Str.ofString "_Accumulator.reset", params := fp18, body := fb18, scope := fs18, globals := 0, closure := [], defaults := Value.none, kwdefaults := Value.none } }) ::
  (nat_lit 195, { cls := Value.type "code", data := Data.fields #[Value.str (Str.ofString "reset") 534, Value.str (Str.ofString "_Accumulator.reset") 535, Value.str (Str.ofString "/claim/cut.py") 536, Value.int 113 0, Value.int 2 0, Value.int 0 0, Value.int 0 0, Value.int 3 0, Value.ref 190, Value.bool true, Value.int 276 0, Value.ref 191, Value.none, Value.ref 192, Value.ref 193, Value.ref 194, Value.int 539 0, Value.int 113 0, Value.str (Str.ofString "/claim/cut.py") 540] }) ::
  (nat_lit 196, { cls := Value.type "function", data := Data.func { name := Str.ofString "reset", qualname := Str.ofString "_Accumulator.reset", params := fp18, body := fb18, scope := fs18, globals := 3, closure := [], defaults := Value.ref 189, kwdefaults := Value.none, pyModule := Value.str (Str.ofString "cpy313.email.header") 357, code := Value.ref 195 } }) ::
  (nat_lit 197, { cls := Value.type "tuple", data := Data.seq #[] }) ::
  (nat_lit 198, { cls := Value.none, data := Data.fields #[] }) ::
  (nat_lit 199, { cls := Value.type "tuple", data := Data.seq #[Value.str (Str.ofString "self") 545] }) ::
  (nat_lit 200, { cls := Value.type "tuple", data := Data.seq #[] }) ::
  (nat_lit 201, { cls := Value.none, data := Data.func { name := Str.ofString "is_onlyws", qualname := Str.ofString "_Accumulator.is_onlyws", params := fp19, body := fb19, scope := fs19, globals := 0, closure := [], defaults := Value.none, kwdefaults := Value.none } }) ::
  (nat_lit 202, { cls := Value.type "code", data := Data.fields #[Value.str (Str.ofString "is_onlyws") 542, Value.str (Str.ofString "_Accumulator.is_onlyws") 543, Value.str (Str.ofString "/claim/cut.py") 544, Value.int 119 0, Value.int 1 0, Value.int 0 0, Value.int 0 0, Value.int 3 0, Value.ref 197, Value.bool true, Value.int 276 0, Value.ref 198, Value.none, Value.ref 199, Value.ref 200, Value.ref 201, Value.int 546 0, Value.int 119 0, Value.str (Str.ofString "/claim/cut.py") 547] }) ::
  (nat_lit 203, { cls := Value.type "function", data := Data.func { name := Str.ofString "is_onlyws", qualname := Str.ofString "_Accumulator.is_onlyws", params := fp19, body := fb19, scope := fs19, globals := 3, closure := [], defaults := Value.none, kwdefaults := Value.none, pyModule := Value.str (Str.ofString "cpy313.email.header") 357, code := Value.ref 202 } }) ::
  (nat_lit 204, { cls := Value.type "tuple", data := Data.seq #[Value.ref 138] }) ::
  (nat_lit 205, { cls := Value.type "tuple", data := Data.seq #[Value.str (Str.ofString "__class__") 552] }) ::
  (nat_lit 206, { cls := Value.none, data := Data.fields #[] }) ::
  (nat_lit 207, { cls := Value.type "tuple", data := Data.seq #[Value.str (Str.ofString "self") 553] }) ::
  (nat_lit 208, { cls := Value.type "tuple", data := Data.seq #[] }) ::
  (nat_lit 209, { cls := Value.none, data := Data.func { name := Str.ofString "part_count", qualname := Str.ofString "_Accumulator.part_count", params := fp20, body := fb20, scope := fs20, globals := 0, closure := [], defaults := Value.none, kwdefaults := Value.none } }) ::
  (nat_lit 210, { cls := Value.type "code", data := Data.fields #[Value.str (Str.ofString "part_count") 549, Value.str (Str.ofString "_Accumulator.part_count") 550, Value.str (Str.ofString "/claim/cut.py") 551, Value.int 122 0, Value.int 1 0, Value.int 0 0, Value.int 0 0, Value.int 3 0, Value.ref 205, Value.bool true, Value.int 276 0, Value.ref 206, Value.none, Value.ref 207, Value.ref 208, Value.ref 209, Value.int 554 0, Value.int 122 0, Value.str (Str.ofString "/claim/cut.py") 555] }) ::
  (nat_lit 211, { cls := Value.type "function", data := Data.func { name := Str.ofString "part_count", qualname := Str.ofString "_Accumulator.part_count", params := fp20, body := fb20, scope := fs20, globals := 3, closure := [(Str.ofString "__class__", 138)], defaults := Value.none, kwdefaults := Value.none, pyModule := Value.str (Str.ofString "cpy313.email.header") 357, code := Value.ref 210, closureTuple := Value.ref 204 } }) ::
  (nat_lit 212, { cls := Value.type "tuple", data := Data.seq #[Value.str (Str.ofString "_initial_size") 557] }) ::
  (nat_lit 213, { cls := Value.type "dict", data := Data.dict #[{ hash := PyData.keyHash P (Str.ofString "__module__"), key := Value.str (Str.ofString "__module__") 478, val := Value.str (Str.ofString "cpy313.email.header") 357 }, { hash := PyData.keyHash P (Str.ofString "__firstlineno__"), key := Value.str (Str.ofString "__firstlineno__") 482, val := Value.int 88 481 }, { hash := PyData.keyHash P (Str.ofString "__init__"), key := Value.str (Str.ofString "__init__") 492, val := Value.ref 151 }, { hash := PyData.keyHash P (Str.ofString "push"), key := Value.str (Str.ofString "push") 501, val := Value.ref 158 }, { hash := PyData.keyHash P (Str.ofString "pop_from"), key := Value.str (Str.ofString "pop_from") 511, val := Value.ref 166 }, { hash := PyData.keyHash P (Str.ofString "pop"), key := Value.str (Str.ofString "pop") 519, val := Value.ref 174 }, { hash := PyData.keyHash P (Str.ofString "__len__"), key := Value.str (Str.ofString "__len__") 526, val := Value.ref 181 }, { hash := PyData.keyHash P (Str.ofString "__str__"), key := Value.str (Str.ofString "__str__") 533, val := Value.ref 188 }, { hash := PyData.keyHash P (Str.ofString "reset"), key := Value.str (Str.ofString "reset") 541, val := Value.ref 196 }, { hash := PyData.keyHash P (Str.ofString "is_onlyws"), key := Value.str (Str.ofString "is_onlyws") 548, val := Value.ref 203 }, { hash := PyData.keyHash P (Str.ofString "part_count"), key := Value.str (Str.ofString "part_count") 556, val := Value.ref 211 }, { hash := PyData.keyHash P (Str.ofString "__static_attributes__"), key := Value.str (Str.ofString "__static_attributes__") 558, val := Value.ref 212 }, { hash := PyData.keyHash P (Str.ofString "__dict__"), key := Value.str (Str.ofString "__dict__") 561, val := Value.ref 215 }, { hash := PyData.keyHash P (Str.ofString "__weakref__"), key := Value.str (Str.ofString "__weakref__") 563, val := Value.ref 216 }, { hash := PyData.keyHash P (Str.ofString "__doc__"), key := Value.str (Str.ofString "__doc__") 564, val := Value.none }] 5 }) ::
  (nat_lit 214, { cls := Value.type "type", data := Data.cls { name := Str.ofString "_Accumulator", bases := [Value.type "list"], mro := [Value.ref 214, Value.type "list", Value.type "object"], ns := 213, qualname := Str.ofString "_Accumulator" }, slots := #[some (Value.ref 135), none, some (Value.str (Str.ofString "_Accumulator") 471), some (Value.str (Str.ofString "_Accumulator") 479), some (Value.builtin "list.__new__"), some (Value.bool true)] }) ::
  (nat_lit 215, { cls := Value.type "getset_descriptor", data := Data.fields #[Value.str (Str.ofString "__dict__") 560, Value.ref 214, Value.builtin "function.__dict__", Value.builtin "function.__dict__#set"] }) ::
  (nat_lit 216, { cls := Value.type "getset_descriptor", data := Data.fields #[Value.str (Str.ofString "__weakref__") 562, Value.ref 214, Value.builtin "ExceptionGroup.__weakref__", Value.none] }) ::
  (nat_lit 219, { cls := Value.type "tuple", data := Data.seq #[] }) ::
  (nat_lit 220, { cls := Value.none, data := Data.fields #[] }) ::
  (nat_lit 221, { cls := Value.type "tuple", data := Data.seq #[Value.str (Str.ofString "script") 572, Value.str (Str.ofString "leads") 573, Value.str (Str.ofString "words") 574, Value.str (Str.ofString "place") 575, Value.str (Str.ofString "base") 576, Value.str (Str.ofString "x") 577] }) ::
  (nat_lit 222, { cls := Value.type "tuple", data := Data.seq #[] }) ::
  (nat_lit 223, { cls := Value.none, data := Data.func { name := Str.ofString "_law_flags", qualname := Str.ofString "_law_flags", params := fp21, body := fb21, scope := fs21, globals := 0, closure := [], defaults := Value.none, kwdefaults := Value.none } }) ::
  (nat_lit 224, { cls := Value.type "code", data := Data.fields #[Value.str (Str.ofString "_law_flags") 569, Value.str (Str.ofString "_law_flags") 570, Value.str (Str.ofString "/claim/cut.py") 571, Value.int 125 0, Value.int 1 0, Value.int 0 0, Value.int 0 0, Value.int 3 0, Value.ref 219, Value.bool true, Value.int 276 0, Value.ref 220, Value.none, Value.ref 221, Value.ref 222, Value.ref 223, Value.int 578 0, Value.int 125 0, Value.str (Str.ofString "/claim/cut.py") 579] }) ::
  (nat_lit 225, { cls := Value.type "function", data := Data.func { name := Str.ofString "_law_flags", qualname := Str.ofString "_law_flags", params := fp21, body := fb21, scope := fs21, globals := 3, closure := [], defaults := Value.none, kwdefaults := Value.none, pyModule := Value.str (Str.ofString "law_wr0031_01") 567, code := Value.ref 224 } }) ::
  (nat_lit 226, { cls := Value.type "tuple", data := Data.seq #[] }) ::
  (nat_lit 227, { cls := Value.none, data := Data.fields #[] }) ::
  (nat_lit 228, { cls := Value.none, data := Data.func { name := Str.ofString "_law_fold", qualname := Str.ofString "_law_fold", params := fp22, body := fb22, scope := fs22, globals := 0, closure := [], defaults := Value.none, kwdefaults := Value.none } }) ::
  (nat_lit 229, { cls := Value.type "code", data := Data.fields #[Value.str (Str.ofString "_law_fold") 581, Value.str (Str.ofString "_law_fold") 582, Value.str (Str.ofString "/claim/cut.py") 583, Value.int 133 0, Value.int 4 0, Value.int 0 0, Value.int 0 0, Value.int 3 0, Value.ref 226, Value.bool true, Value.int 276 0, Value.ref 227, Value.none, Value.none, Value.none, Value.ref 228, Value.int 584 0, Value.int 133 0, Value.str (Str.ofString "/claim/cut.py") 585] }) ::
  (nat_lit 230, { cls := Value.type "function", data := Data.func { name := Str.ofString "_law_fold", qualname := Str.ofString "_law_fold", params := fp22, body := fb22, scope := fs22, globals := 3, closure := [], defaults := Value.none, kwdefaults := Value.none, pyModule := Value.str (Str.ofString "law_wr0031_01") 567, code := Value.ref 229 } }) ::
  (nat_lit 231, { cls := Value.type "tuple", data := Data.seq #[] }) ::
  (nat_lit 232, { cls := Value.none, data := Data.fields #[] }) ::
  (nat_lit 233, { cls := Value.none, data := Data.func { name := Str.ofString "_law_widths", qualname := Str.ofString "_law_widths", params := fp23, body := fb23, scope := fs23, globals := 0, closure := [], defaults := Value.none, kwdefaults := Value.none } }) ::
  (nat_lit 234, { cls := Value.type "code", data := Data.fields #[Value.str (Str.ofString "_law_widths") 587, Value.str (Str.ofString "_law_widths") 588, Value.str (Str.ofString "/claim/cut.py") 589, Value.int 156 0, Value.int 2 0, Value.int 0 0, Value.int 0 0, Value.int 3 0, Value.ref 231, Value.bool true, Value.int 276 0, Value.ref 232, Value.none, Value.none, Value.none, Value.ref 233, Value.int 590 0, Value.int 156 0, Value.str (Str.ofString "/claim/cut.py") 591] }) ::
  (nat_lit 235, { cls := Value.type "function", data := Data.func { name := Str.ofString "_law_widths", qualname := Str.ofString "_law_widths", params := fp23, body := fb23, scope := fs23, globals := 3, closure := [], defaults := Value.none, kwdefaults := Value.none, pyModule := Value.str (Str.ofString "law_wr0031_01") 567, code := Value.ref 234 } }) ::
  (nat_lit 236, { cls := Value.type "tuple", data := Data.seq #[] }) ::
  (nat_lit 237, { cls := Value.none, data := Data.fields #[] }) ::
  (nat_lit 238, { cls := Value.none, data := Data.func { name := Str.ofString "law", qualname := Str.ofString "law", params := fp24, body := fb24, scope := fs24, globals := 0, closure := [], defaults := Value.none, kwdefaults := Value.none } }) ::
  (nat_lit 239, { cls := Value.type "code", data := Data.fields #[Value.str (Str.ofString "law") 593, Value.str (Str.ofString "law") 594, Value.str (Str.ofString "/claim/cut.py") 595, Value.int 161 0, Value.int 1 0, Value.int 0 0, Value.int 0 0, Value.int 3 0, Value.ref 236, Value.bool true, Value.int 276 0, Value.ref 237, Value.none, Value.none, Value.none, Value.ref 238, Value.int 596 0, Value.int 161 0, Value.str (Str.ofString "/claim/cut.py") 597] }) ::
  (nat_lit 240, { cls := Value.type "function", data := Data.func { name := Str.ofString "law", qualname := Str.ofString "law", params := fp24, body := fb24, scope := fs24, globals := 3, closure := [], defaults := Value.none, kwdefaults := Value.none, pyModule := Value.str (Str.ofString "law_wr0031_01") 567, code := Value.ref 239 } }) :: []
/- the objects that stand when the text has run, but the two code tables 176 and 183 -/
noncomputable def K9 : Params → Frag := fun P => by
  refine' (fun (K : Frag) (_ : KT P = K) => K) ?K ?h
  case h =>
    delta KT fp1 fb1 fs1 fp2 fb2 fs2 fp3 fb3 fs3 fp4 fb4 fs4 fp6 fb6 fs6 fp11 fb11 fs11 fp12 fb12 fs12 fp13 fb13 fs13 fp14 fb14 fs14 fp15 fb15 fs15 fp16 fb16 fs16 fp17 fb17 fs17 fp18 fb18 fs18 fp19 fb19 fs19 fp20 fb20 fs20 fp21 fb21 fs21 fp22 fb22 fs22 fp23 fb23 fs23 fp24 fb24 fs24 sel
    rfl
noncomputable def KA : Params → Frag := fun P => (nat_lit 176, { cls := .none, data := .fields #[] }) :: (nat_lit 183, { cls := .none, data := .fields #[] }) :: K9 P
noncomputable def asA : List Addr := 176 :: 183 :: 1 :: 2 :: 3 :: 4 :: 5 :: 6 :: 7 :: 8 :: 9 :: 10 :: 11 :: 12 :: 13 :: 14 :: 15 :: 32 :: 33 :: 34 :: 35 :: 37 :: 40 :: 41 :: 42 :: 43 :: 44 :: 45 :: 46 :: 47 :: 48 :: 49 :: 50 :: 51 :: 52 :: 53 :: 54 :: 55 :: 56 :: 57 :: 65 :: 66 :: 67 :: 68 :: 69 :: 70 :: 71 :: 72 :: 73 :: 74 :: 75 :: 76 :: 77 :: 78 :: 79 :: 80 :: 81 :: 82 :: 84 :: 86 :: 87 :: 88 :: 89 :: 90 :: 91 :: 92 :: 93 :: 94 :: 95 :: 96 :: 98 :: 100 :: 101 :: 102 :: 103 :: 105 :: 107 :: 108 :: 109 :: 110 :: 112 :: 114 :: 115 :: 116 :: 117 :: 119 :: 121 :: 122 :: 123 :: 124 :: 125 :: 126 :: 127 :: 128 :: 129 :: 130 :: 131 :: 132 :: 135 :: 138 :: 143 :: 144 :: 145 :: 146 :: 147 :: 148 :: 149 :: 150 :: 151 :: 152 :: 153 :: 154 :: 155 :: 156 :: 157 :: 158 :: 159 :: 160 :: 161 :: 162 :: 163 :: 164 :: 165 :: 166 :: 167 :: 168 :: 169 :: 170 :: 171 :: 172 :: 173 :: 174 :: 175 :: 177 :: 178 :: 179 :: 180 :: 181 :: 182 :: 184 :: 185 :: 186 :: 187 :: 188 :: 189 :: 190 :: 191 :: 192 :: 193 :: 194 :: 195 :: 196 :: 197 :: 198 :: 199 :: 200 :: 201 :: 202 :: 203 :: 204 :: 205 :: 206 :: 207 :: 208 :: 209 :: 210 :: 211 :: 212 :: 213 :: 214 :: 215 :: 216 :: 219 :: 220 :: 221 :: 222 :: 223 :: 224 :: 225 :: 226 :: 227 :: 228 :: 229 :: 230 :: 231 :: 232 :: 233 :: 234 :: 235 :: 236 :: 237 :: 238 :: 239 :: 240 :: []
theorem asA_eq : ∀ P, asA = (KA P).map (·.1) := fun _ => by kernel_rfl
noncomputable abbrev loose : List Str := [Str.ofString "Flags", Str.ofString "_Accumulator"]
noncomputable abbrev Xt : Shared → Bool := fun s => xlAt view [] s && recOk (RowW.records PySem.Challenge.rw_wr0031_01.row.toRowW) s
noncomputable abbrev hookA : Hook := kHook KA asA asA_eq
noncomputable abbrev row : String := "special-get-raises"
noncomputable abbrev prg : Program := PySem.Challenge.rw_wr0031_01.row.toRowW.prog
noncomputable abbrev ends (w : World) : Option Shared := (fencedOpening Fast.tw14364793385576792824 prg w 2836).bind fun s₀ => topFrom Fast.tw14364793385576792824 prg w 2836 s₀
noncomputable abbrev seenA (s : Shared) := Fast.tw4187177175401517315 view loose (Fast.tw5923862056798008813 prg.main.body) Xt true s
theorem left1 : ∀ w : World, (ends (w.withFollow row false)).map seenA = some (openGood view loose) := fun w => by kernel_rfl
theorem left2 : ∀ w : World, (ends (w.withFollow row true)).map seenA = some (openGood view loose) := fun w => by kernel_rfl
theorem left3 : ∀ w : World, (ends (w.withFollow row false)).map hookA.obs = some (hookA.val (w.withFollow row false)) := fun w => by kernel_rfl
theorem left4 : ∀ w : World, (ends (w.withFollow row true)).map hookA.obs = some (hookA.val (w.withFollow row true)) := fun w => by kernel_rfl
theorem map_both {α β γ : Type} {f : α → β} {g : α → γ} {a : β} {b : γ} : ∀ {x : Option α}, x.map f = some a → x.map g = some b → x.map (fun s => (f s, g s)) = some (a, b)
  | none, h, _ => nomatch h
  | some _, h1, h2 => by
    injection h1 with h1
    injection h2 with h2
    subst h1 h2
    rfl
theorem left : LeftO prg view loose Xt hookA.obs hookA.val 2836 := by
  refine byRow2 row (fun w => ?_) (fun w => ?_)
  all_goals rw [Fast.te14364793385576792824, Fast.te4187177175401517315, Fast.te5923862056798008813]
  · exact map_both (left1 w) (left3 w)
  · exact map_both (left2 w) (left4 w)
end Mine
end
section
open PySem PySem.W PyProof.Rows PySem.Calls PySem.Spec
set_option maxRecDepth 100000
set_option maxHeartbeats 8000000
set_option pp.deepTerms false
set_option pp.maxSteps 20000
namespace Mine
noncomputable abbrev pw := PySem.Challenge.rw_wr0031_01.row.toRowW.prog
noncomputable abbrev lo : List Str := looseW view [Str.ofString "Flags", Str.ofString "_Accumulator"]
noncomputable abbrev accO (dx : Addr) (parts : List Value) (n : Nat) : Obj := { cls := .ref 214, dict := some dx, data := .seq parts.toArray n }
/- the dict of one of them -/
noncomputable abbrev accD (P : Params) (tk : Tok) (v : Value) (k : Nat) : Obj := dictOf [⟨PyData.keyHash P (Str.ofString "_initial_size"), .str (Str.ofString "_initial_size") tk, v⟩] k
theorem dummy : (fun (_ : OpenLaw) (_ : Params → Frag) => True) PySem.Challenge.rw_wr0031_01 K9 := by
  k_fill
  trivial

/- what stands through the whole run: the text's own objects -/
structure Base (w : World) (mg mb : Str → Option Value) (b : Heap) : Prop where
  K : (K9 w.params).In b
  T : TopRead view lo mg mb b
  M : ∃ bm ob, BMod b mainGlobals mg bm ob
  n1 : b.get? 176 = none
  n2 : b.get? 183 = none

noncomputable def Sub (h h' : Heap) : Prop := ∀ b o, h.get? b = some o → h'.get? b = some o
noncomputable def But (xs : List Addr) (h h' : Heap) : Prop := ∀ b o, b ∉ xs → h.get? b = some o → h'.get? b = some o

/- an around of known numbers -/
noncomputable abbrev Av (n : Nat) : Around := { handled := none, depth := 350 + 10 * n, frames := none, guards := none, units := 40 + 80 * n }
theorem lift {α : Type} {M : Model} {A A' : Around} {t : Sem α} {Q : α → Shared → Prop} {E : Value → Shared → Prop} {s : Shared} (h : wpAny M A' t Q E s)
    (h1 : A.handled = A'.handled) (h2 : A.depth ≤ A'.depth) (h3 : A.units ≤ A'.units) (h4 : A'.frames = none) (h5 : A'.guards = none) : wpAny M A t Q E s := fun Γ p hΓ =>
  h Γ p ⟨hΓ.1.trans h1, Nat.le_trans hΓ.2.1 h2, (fun l hl => by rw [h4] at hl; cases hl), (fun l hl => by rw [h5] at hl; cases hl), Nat.le_trans hΓ.2.2.2.2 h3⟩

section
variable {w : World} {A : Around} {s : Shared} {b : Heap} {mg mb : Str → Option Value} {news : List (Addr × Obj)}
  {R : Result → Shared → Prop} {name qual : Str} {params : Arguments} {body : List Stmt} {scope : Scope} {dV kV doc pm cdv ct oc : Value} {an od : Option Addr} {osl : Array (Option Value)} {f : Addr} {args : Args} {binds : List (Str × Value)}

/- a def of the text is entered: what it may turn is named, all else stays -/
theorem enter (B : Base w mg mb b) (kb : Sub b s.heap) (N : ∀ p ∈ news, s.heap.get? p.1 = some p.2 ∧ b.get? p.1 = none)
    (ho : (K9 w.params).lookup f = some ⟨oc, od, .func (fnOf name qual params body scope dV kV doc pm an cdv ct), osl⟩) (hcd : codeIn (K9 w.params) cdv qual = true) (hroom : A.depth < recursionLimit)
    (hbind : BindsTo s (fnOf name qual params body scope dV kV doc pm an cdv ct) args binds) (hloc : ∀ y ∈ binds, scope.names.lookup y.1 = some .local)
    (h : ∀ g L' h₁ tk, Fr g L' h₁ (fun y => binds.reverse.lookup y) → News g L' h₁ news → (K9 w.params).In g → TopRead view lo mg mb g → But (news.map (·.1)) s.heap g → Sub b g → s.heap.objs.size ≤ L' →
      wpAny (model pw w) (A.deeper (envOf qual scope L' f cdv)) (execs body (envOf qual scope L' f cdv))
        (fun fl s' => R (.ok (.ret (match fl with | .ret v => v | _ => .none))) s')
        (fun _ _ => False)
        { s with heap := h₁, toks := tk })
    (hcell : ∀ x ∈ scope.names, x.2 ≠ .cell := by decide) (hco : scope.isCoroutine = false := by rfl) (hgen : scope.isGenerator = false := by rfl) (hk : scope.kind = .function := by rfl) : codeAny (model pw w) A (.call (.ref f) args) R s := by
  have st : Sub b (hideAll s.heap (news.map (·.1))) := fun a o e => hideAll_get _ (kb a o e) fun hm => by
    obtain ⟨p, hp, rfl⟩ := List.mem_map.mp hm
    rw [(N p hp).2] at e; cases e
  have BK := B.K.keeps st
  have BT := B.T.keeps st
  have Bs := B.K.keeps kb
  refine codeAny_call_def (fd := fnOf name qual params body scope dV kV doc pm an cdv ct) (body := body) (binds := binds) hroom (Bs _ _ ho) rfl (B.T.nolimit.keeps kb) (codeRec_of Bs hcd) rfl hbind hcell hloc (fun h₁ hns hk₁ => ?_) hco hgen hk
  refine wpAny_mono (h _ s.heap.objs.size h₁ _ ⟨hns, fun b o e => hk₁ b o (of_hideAll _ e), Nat.le_of_eq (hideAll_size _ _)⟩
    (fun p hp => ⟨hk₁ _ _ (N p hp).1, Nat.ne_of_lt (Heap.lt_size (N p hp).1), hideAll_none _ (List.mem_map_of_mem hp)⟩) BK BT (fun a o n e => hideAll_get _ e n) st (Nat.le_refl _)) (fun _ _ z => z) fun _ _ z => z.elim
end

section
variable {prog : Program} {w : World} {A : Around} {E : Value → Shared → Prop} {s : Shared} {K : Frag} {x C dx L : Addr} {h₀ : Heap} {m : Str → Option Value} {news : List (Addr × Obj)} {ox od : Obj} {es : List DictEntry} {n : Nat} {name : Str} {pl : Sem Bool}

theorem acc_inst {h₀ h : Heap} {L x dx : Addr} {news : List (Addr × Obj)} {od : Obj} {parts : List Value} {n : Nat} (N : News h₀ L h news) (h1 : (x, accO dx parts n) ∈ news) (h2 : (dx, od) ∈ news) :
    InstAt h x (accO dx parts n) 214 (some od) := ⟨(N _ h1).1, rfl, rfl, (N _ h2).1⟩

theorem acc_method {r tr : Value} (X : K.In s.heap) (I : InstAt s.heap x ox C (some (dictOf es n))) (hga : findIn K (.ref C) "__getattribute__" = some (some (.builtin "list.__getattribute__"))) (hk : findIn K (.ref C) "__getattr__" = some none)
    (hf : findIn K (.ref C) name = some (some r)) (ht : typeIn K r = some tr) (hl : getL name es = some none) {Q : Value × List Value → Shared → Prop} (h : Q (r, [.ref x]) s)
    (e2 : (tr != Value.type "function" && tr != .type "method_descriptor" && tr != .type "wrapper_descriptor") = false := by decide +kernel) :
    wpAny (model prog w) A (getMethod (.ref x) name pl) Q E s := by
  have hcan := canon_list_getattribute
  unfold getMethod specialOf
  refine wpAny_bind (wpAny_bind (I.type.here ((looks_findIn X hga).here ?_)))
  dsimp only
  rw [hcan, if_neg (by decide)]
  refine wpAny_bind (wpAny_bind (I.type.here ((looks_findIn X hk).here ?_)))
  refine wpAny_bind (wpAny_bind (I.type.here ((looks_findIn X hf).here (wpAny_bind ((looks_typeIn X ht).here ?_)))))
  rw [e2, if_neg (by decide +kernel)]
  refine wpAny_bind (wpAny_loadPart I.at_ ?_)
  have hd := I.dict
  cases e : ox.dict with
  | none => exact wpAny_bind (wpAny_rule (wpAny_pure h))
  | some dx =>
    rw [e] at hd
    refine wpAny_bind (wpAny_bind (wpAny_loadPart hd ?_))
    rw [nsLook_of (r := none) (by rw [lookIn_dict]; exact hl)]
    refine wpAny_pure ?_
    exact wpAny_bind (wpAny_rule (wpAny_pure h))

/- a built-in's method called upon a thing of an own class below it -/
theorem sub_check {M : Model} {id owner nm : String} {self : Value} {rest : List Value} {Q : Unit → Shared → Prop} (hsplit : splitId id = some (owner, nm)) (hkind : builtinKind id = some .slot ∨ builtinKind id = some .method)
    (hinst : Looks M s.heap (isInstance self (.type owner)) true) (ha : argsOk id ⟨self :: rest, []⟩) (hQ : Q () s) : wpAny M A (checkBuiltinCall id ⟨self :: rest, []⟩) Q E s := by
  rcases hkind with h | h <;>
  · simp only [checkBuiltinCall, h, hsplit]
    refine wpAny_bind (hinst.here ?_)
    simp only [Bool.not_true, Bool.false_eq_true, if_false]
    cases hsig : Manifest.signature? id with
    | none => exact wpAny_pure hQ
    | some sig =>
      simp only [argsOk, hsig] at ha
      have h2 : Bind.checkArgs id sig ⟨self :: rest, []⟩ = pure () := ha
      show wpAny _ _ (Bind.checkArgs id sig ⟨self :: rest, []⟩) _ _ s
      rw [h2]; exact wpAny_pure hQ
theorem sub_call {id owner nm : String} {Bi : Builtin} {self : Value} {rest : List Value} {Q : Value → Shared → Prop} (hinst : Looks (model prog w) s.heap (isInstance self (.type owner)) true)
    (entry : entryFor table id = some Bi) (ha : argsOk id ⟨self :: rest, []⟩)
    (hc : wpAny (model prog w) A.in1 (Bi ⟨self :: rest, []⟩) (fun fin s' => ∃ v, fin = .done (.ret v) ∧ Q v s') E s)
    (hsplit : splitId id = some (owner, nm) := by decide +kernel) (hkind : builtinKind id = some .slot ∨ builtinKind id = some .method := by first | exact .inl (by decide +kernel) | exact .inr (by decide +kernel)) (hp : plainId id = true := by decide +kernel) :
    wpAny (model prog w) A (call (.builtin id) (self :: rest)) Q E s := by
  refine wpAny_call (codeAny_call_builtin hp entry (sub_check hsplit hkind hinst ha (wpAny_mono hc (fun fin s' h' => ?_) fun _ _ h' => h')))
  obtain ⟨v, rfl, hv⟩ := h'; exact hv
theorem looks_inst {M : Model} {h : Heap} {od : Option Obj} {U : Value} {b : Bool} (X : K.In h) (I : InstAt h x ox C od) (e : mroIn K C U = some b) : Looks M h (isInstance (.ref x) U) b :=
  I.type.andThen (looks_mroIn X e)

theorem acc_append_at {its : Array Value} {k : Nat} {dd : Option Addr} {D C : Addr} {v : Value} {Q : Value → Shared → Prop} (ho : s.heap.get? D = some { cls := .ref C, dict := dd, data := .seq its k })
    (hinst : Looks (model prog w) s.heap (isInstance (.ref D) (.type "list")) true)
    (h : ∀ h', Heap.SameBut D s.heap h' → h'.get? D = some { cls := .ref C, dict := dd, data := .seq (its.push v) (k + 1) } → Q .none { s with heap := h' }) (hsz : its.size ≤ sizeLine) :
    wpAny (model prog w) A (call (.builtin "list.append") [.ref D, v]) Q E s := by
  refine sub_call (nm := "append") hinst PySem.F.entry_list_append (PySem.F.args_list_append_2 _ _) ?_
  show wpAny _ _ (updateSeq D (·.push v) >>= fun _ => ret .none) _ _ s
  refine wpAny_bind ?_
  have e : Obj.mapSeq (·.push v) { cls := .ref C, dict := dd, data := .seq its k } = { cls := .ref C, dict := dd, data := .seq (its.push v) (k + 1) } := by simp [Obj.mapSeq]
  refine wpAny_updateSeq ho rfl (wpAny_pure ⟨.none, rfl, h _ (Heap.SameBut.update ..) ?_⟩) hsz (by simp; (first | lia | omega))
  rw [Heap.get?_update_self _ ho (by rw [e]; rfl), e]
end
end Mine
end
section
open PySem PySem.W PyProof.Rows PySem.Calls PySem.Spec
set_option maxRecDepth 100000
set_option maxHeartbeats 8000000
set_option pp.deepTerms false
set_option pp.maxSteps 20000
namespace Mine

theorem but_end {s g h : Heap} {news : List (Addr × Obj)} {xs : List Addr} (hk : But (news.map (·.1)) s g) (keep : ∀ b o, g.get? b = some o → h.get? b = some o) (old : ∀ p ∈ news, p.1 ∈ xs ∨ h.get? p.1 = s.get? p.1) : But xs s h := by
  intro b o hb e
  by_cases hm : b ∈ news.map (·.1)
  · obtain ⟨p, hp, rfl⟩ := List.mem_map.mp hm
    rcases old p hp with h1 | h1
    · exact absurd h1 hb
    · rw [h1]; exact e
  · exact keep _ _ (hk _ _ hm e)
theorem fresh_end {s g : Heap} {news : List (Addr × Obj)} {D : Addr} (hk : But (news.map (·.1)) s g) (hd : g.get? D = none) (hn : ∀ p ∈ news, p.1 ≠ D) : s.get? D = none := by
  cases e : s.get? D with
  | none => rfl
  | some o =>
    have := hk D o (fun hm => by obtain ⟨p, hp, rfl⟩ := List.mem_map.mp hm; exact hn p hp rfl) e
    rw [hd] at this; cases this
theorem But.refl {xs : List Addr} {h : Heap} : But xs h h := fun _ _ _ e => e
theorem But.trans {xs ys : List Addr} {h h' h'' : Heap} (a : But xs h h') (b : But ys h' h'') (hs : ∀ y ∈ ys, y ∈ xs ∨ h.get? y = none) : But xs h h'' := by
  intro c o hc e
  refine b c o (fun hm => ?_) (a c o hc e)
  rcases hs c hm with h1 | h1
  · exact hc h1
  · rw [h1] at e; cases e
theorem But.mono {xs ys : List Addr} {h h' : Heap} (a : But xs h h') (hs : ∀ x ∈ xs, x ∈ ys) : But ys h h' := fun b o hb e => a b o (fun hm => hb (hs _ hm)) e
theorem Sub.but {xs : List Addr} {b h h' : Heap} (a : Sub b h) (c : But xs h h') (hx : ∀ x ∈ xs, b.get? x = none) : Sub b h' := fun d o e => c d o (fun hm => by rw [hx d hm] at e; cases e) (a d o e)
theorem none_of_sub {b g : Heap} {x : Addr} (a : Sub b g) (h : g.get? x = none) : b.get? x = none := by
  cases e : b.get? x with
  | none => rfl
  | some o => rw [a x o e] at h; cases h
theorem ne_of_get {h : Heap} {x y : Addr} {o o' : Obj} (a : h.get? x = some o) (b : h.get? y = some o') (c : o ≠ o') : @Ne Nat x y := by
  rintro rfl
  rw [a] at b; cases b; exact c rfl
theorem ne_of_none {h : Heap} {x y : Addr} {o : Obj} (a : h.get? x = some o) (b : h.get? y = none) : @Ne Nat x y := by
  rintro rfl
  rw [a] at b; cases b

/- behind a call: the frame and what is ours stand as the call left them -/
theorem after {g h h' : Heap} {L : Addr} {m : Str → Option Value} {news news' : List (Addr × Obj)} {xs : List Addr} (F : Fr g L h m) (N : News g L h news) (b : But xs h h') (hx : ∀ x ∈ xs, x ∈ news.map (·.1))
    (hn : ∀ p ∈ news', h'.get? p.1 = some p.2 ∧ (p.1 ∈ news.map (·.1) ∨ h.get? p.1 = none)) : Fr g L h' m ∧ News g L h' news' := by
  have own : ∀ x ∈ news.map (·.1), x ≠ L ∧ g.get? x = none := fun x hx => by
    obtain ⟨p, hp, rfl⟩ := List.mem_map.mp hx
    exact (N p hp).2
  obtain ⟨oL, a1, a2, hoL, a3⟩ := F.ns
  refine ⟨⟨⟨oL, a1, a2, b L oL (fun hm => (own L (hx L hm)).1 rfl) hoL, a3⟩, fun c o e => b c o (fun hm => ?_) (F.keep c o e), F.above⟩, fun p hp => ⟨(hn p hp).1, ?_⟩⟩
  · rw [(own c (hx c hm)).2] at e; cases e
  · rcases (hn p hp).2 with h1 | h1
    · exact own _ h1
    · refine ⟨fun e => ?_, ?_⟩
      · rw [e, hoL] at h1; cases h1
      · cases e : g.get? p.1 with
        | none => rfl
        | some o => rw [F.keep _ _ e] at h1; cases h1
theorem but_same {s g h : Heap} {L : Addr} {news news' : List (Addr × Obj)} {xs : List Addr} {b : Heap} (hk : But (news.map (·.1)) s g) (keep : ∀ b o, g.get? b = some o → h.get? b = some o) (N' : News g L h news') (N0 : ∀ p ∈ news, s.get? p.1 = some p.2 ∧ b.get? p.1 = none)
    (old : ∀ p ∈ news, p.1 ∈ xs ∨ p ∈ news') : But xs s h :=
  but_end hk keep fun p hp => (old p hp).imp id fun hm => (N' p hm).1.trans (N0 p hp).1.symm
theorem fa_nil {α : Type} {P : α → Prop} : ∀ p ∈ ([] : List α), P p := fun _ h => nomatch h
theorem fa_cons {α : Type} {P : α → Prop} {a : α} {l : List α} (h : P a) (t : ∀ p ∈ l, P p) : ∀ p ∈ a :: l, P p := List.forall_mem_cons.mpr ⟨h, t⟩
theorem subF {b g h : Heap} {L : Addr} {m : Str → Option Value} (hs : Sub b g) (F : Fr g L h m) : Sub b h := fun a o e => F.keep a o (hs a o e)
theorem after0 {g h h' : Heap} {L : Addr} {m : Str → Option Value} {news : List (Addr × Obj)} (F : Fr g L h m) (N : News g L h news) (b : But [] h h') : Fr g L h' m ∧ News g L h' news :=
  ⟨F.keeps fun c o e => b c o (fun h => nomatch h) e, fun p hp => ⟨b _ _ (fun h => nomatch h) (N p hp).1, (N p hp).2⟩⟩
end Mine
end
section
open PySem PySem.W PyProof.Rows
set_option maxRecDepth 100000
set_option maxHeartbeats 8000000
namespace Mine
open PySem.Sre PySem.Sre.M
noncomputable def RC : Array Nat := #[14, 4, 0, 8, 4294967295, 24, 5, 0, 4294967295, 2, 1, 16, 70, 16, 76, 16, 65, 16, 71, 16, 83, 16, 32, 16, 40, 17, 0, 24, 6, 0, 4294967295, 20, 41, 1, 17, 1, 16, 41, 1]
noncomputable def rS (t : Array Nat) (pc pos hd : Nat) (mk : Array (Option Nat)) (lm li : Int) (fr : List Sre.Frame) (wt : Nat) (an : Option Bool) (se : Sre.Seen) : M :=
  { code := RC, text := t, lim := t.size, start := 0, pc := pc, pos := pos, handed := hd, marks := mk, lastmark := lm, lastindex := li, frames := fr, weight := wt, answer := an, seen := se }
noncomputable def stepN : Nat → M → M
  | 0, m => m
  | n + 1, m => stepN n m.step
theorem stepN_add (a b : Nat) (m : M) : stepN (a + b) m = stepN b (stepN a m) := by
  induction a generalizing m with
  | zero => simp [stepN]
  | succ a ih => rw [Nat.succ_add]; exact ih _
theorem step_done {m : M} (h : m.outcome.isSome = true) : m.step = m := by unfold M.step; rw [if_pos h]
theorem stepN_done {m : M} (h : m.outcome.isSome = true) (n : Nat) : stepN n m = m := by
  induction n with
  | zero => rfl
  | succ n ih => rw [stepN, step_done h, ih]
theorem runFor_eq (n : Nat) (m : M) : m.runFor n = stepN n m := by
  induction n generalizing m with
  | zero => rfl
  | succ n ih =>
    unfold M.runFor
    by_cases h : m.outcome.isSome = true
    · rw [if_pos h, stepN_done h]
    · rw [if_neg h, ih]; rfl
/- one is reached from another in so many steps at most -/
noncomputable def Go (k : Nat) (m m' : M) : Prop := ∃ j, j ≤ k ∧ stepN j m = m'
theorem Go.rf {k : Nat} {m : M} : Go k m m := ⟨0, Nat.zero_le _, rfl⟩
theorem Go.one {m m' : M} (h : m.step = m') : Go 1 m m' := ⟨1, Nat.le_refl _, h⟩
theorem Go.trans {a b : Nat} {m m' m'' : M} (h : Go a m m') (k : Go b m' m'') : Go (a + b) m m'' := by
  obtain ⟨i, hi, rfl⟩ := h
  obtain ⟨j, hj, rfl⟩ := k
  exact ⟨i + j, by (first | lia | omega), stepN_add _ _ _⟩
theorem Go.le {a b : Nat} {m m' : M} (h : Go a m m') (k : a ≤ b) : Go b m m' := let ⟨i, hi, e⟩ := h; ⟨i, by (first | lia | omega), e⟩

theorem lit_step {t : Array Nat} {pc pos hd wt c : Nat} {mk : Array (Option Nat)} {lm li : Int} {fr : List Sre.Frame} {se : Sre.Seen} (h1 : pc < 39) (h2 : RC.getD pc 0 = 16) (h3 : RC.getD (pc + 1) 0 = c) (h4 : t.getD pos 0 = c) (h5 : pos < t.size) :
    (rS t pc pos hd mk lm li fr wt none se).step = rS t (pc + 2) (pos + 1) hd mk lm li fr wt none (se.add 16) := by
  have e1 : RC.size = 39 := rfl
  have e2 : ops[16]? = some Op.LITERAL := rfl
  have e3 : itemWidth RC pc = 2 := by unfold itemWidth; rw [h2, e2]
  unfold M.step rS
  simp only [Option.isSome_none, Bool.false_eq_true, if_false, e1, if_pos h1]
  unfold M.exec
  simp only [M.word, Nat.add_zero, h2, e2, if_neg (Nat.not_le.mpr h5), ge_iff_le]
  unfold accepts
  simp only [h2, e2, h3, h4, beq_self_eq_true, e3]
theorem lit_fail {t : Array Nat} {pc pos hd wt c : Nat} {mk : Array (Option Nat)} {lm li : Int} {fr : List Sre.Frame} {se : Sre.Seen} (h1 : pc < 39) (h2 : RC.getD pc 0 = 16) (h3 : RC.getD (pc + 1) 0 = c) (h4 : pos < t.size → t.getD pos 0 ≠ c) :
    (rS t pc pos hd mk lm li fr wt none se).step = rS t pc pos hd mk lm li fr wt (some false) (se.add 16) := by
  have e1 : RC.size = 39 := rfl
  have e2 : ops[16]? = some Op.LITERAL := rfl
  unfold M.step rS
  simp only [Option.isSome_none, Bool.false_eq_true, if_false, e1, if_pos h1]
  unfold M.exec
  simp only [M.word, Nat.add_zero, h2, e2, ge_iff_le]
  by_cases h5 : t.size ≤ pos
  · simp only [if_pos h5, M.say]
  · simp only [if_neg h5]
    unfold accepts
    simp only [h2, e2, h3, M.say, beq_eq_false_iff_ne.mpr (h4 (Nat.not_le.mp h5))]
noncomputable def fO (pos : Nat) (count : Int) : Sre.Frame := { wait := .giveBack, pc := 5, pos := pos, outermost := true, count := count, kept := { lastmark := -1, lastindex := -1, whole := false, marks := #[] } }
noncomputable def fI (pos : Nat) (count : Int) : Sre.Frame := { wait := .giveBack, pc := 27, pos := pos, outermost := true, count := count, kept := { lastmark := 0, lastindex := -1, whole := false, marks := #[] } }
noncomputable def litsAt (t : Array Nat) (j : Nat) : Prop := j + 6 < t.size ∧ t.getD j 0 = 70 ∧ t.getD (j + 1) 0 = 76 ∧ t.getD (j + 2) 0 = 65 ∧ t.getD (j + 3) 0 = 71 ∧ t.getD (j + 4) 0 = 83 ∧ t.getD (j + 5) 0 = 32 ∧ t.getD (j + 6) 0 = 40
theorem lits_ok {t : Array Nat} {j hd wt : Nat} {mk : Array (Option Nat)} {lm li : Int} {fr : List Sre.Frame} {se : Sre.Seen} (h : litsAt t j) : ∃ se', Go 7 (rS t 11 j hd mk lm li fr wt none se) (rS t 25 (j + 7) hd mk lm li fr wt none se') := by
  obtain ⟨h0, h1, h2, h3, h4, h5, h6, h7⟩ := h
  refine ⟨((((((se.add 16).add 16).add 16).add 16).add 16).add 16).add 16, ?_⟩
  refine Go.trans (a := 1) (b := 6) (Go.one (lit_step (c := 70) (by decide) rfl rfl h1 (by (first | lia | omega)))) ?_
  refine Go.trans (a := 1) (b := 5) (Go.one (lit_step (c := 76) (by decide) rfl rfl h2 (by (first | lia | omega)))) ?_
  refine Go.trans (a := 1) (b := 4) (Go.one (lit_step (c := 65) (by decide) rfl rfl h3 (by (first | lia | omega)))) ?_
  refine Go.trans (a := 1) (b := 3) (Go.one (lit_step (c := 71) (by decide) rfl rfl h4 (by (first | lia | omega)))) ?_
  refine Go.trans (a := 1) (b := 2) (Go.one (lit_step (c := 83) (by decide) rfl rfl h5 (by (first | lia | omega)))) ?_
  refine Go.trans (a := 1) (b := 1) (Go.one (lit_step (c := 32) (by decide) rfl rfl h6 (by (first | lia | omega)))) ?_
  exact Go.one (lit_step (c := 40) (by decide) rfl rfl h7 (by (first | lia | omega)))
theorem then_no {a b : Nat} {m m' : M} {T : Nat → Nat → Sre.Seen → M} (h : m.step = m') (k : ∃ pc pos se', Go b m' (T pc pos se')) (e : 1 + b = a) : ∃ pc pos se', Go a m (T pc pos se') := by
  obtain ⟨pc, pos, se', z⟩ := k
  exact ⟨pc, pos, se', e ▸ Go.trans (Go.one h) z⟩
theorem lits_no {t : Array Nat} {j hd wt : Nat} {mk : Array (Option Nat)} {lm li : Int} {fr : List Sre.Frame} {se : Sre.Seen} (h : ¬ litsAt t j) : ∃ pc pos se', Go 7 (rS t 11 j hd mk lm li fr wt none se) (rS t pc pos hd mk lm li fr wt (some false) se') := by
  by_cases h1 : j < t.size ∧ t.getD j 0 = 70
  case neg => exact ⟨_, _, _, (Go.one (lit_fail (c := 70) (by decide) rfl rfl fun a b => h1 ⟨a, b⟩)).le (by decide)⟩
  refine then_no (b := 6) (lit_step (c := 70) (by decide) rfl rfl h1.2 h1.1) ?_ rfl
  by_cases h2 : j + 1 < t.size ∧ t.getD (j + 1) 0 = 76
  case neg => exact ⟨_, _, _, (Go.one (lit_fail (c := 76) (by decide) rfl rfl fun a b => h2 ⟨a, b⟩)).le (by decide)⟩
  refine then_no (b := 5) (lit_step (c := 76) (by decide) rfl rfl h2.2 h2.1) ?_ rfl
  by_cases h3 : j + 2 < t.size ∧ t.getD (j + 2) 0 = 65
  case neg => exact ⟨_, _, _, (Go.one (lit_fail (c := 65) (by decide) rfl rfl fun a b => h3 ⟨a, b⟩)).le (by decide)⟩
  refine then_no (b := 4) (lit_step (c := 65) (by decide) rfl rfl h3.2 h3.1) ?_ rfl
  by_cases h4 : j + 3 < t.size ∧ t.getD (j + 3) 0 = 71
  case neg => exact ⟨_, _, _, (Go.one (lit_fail (c := 71) (by decide) rfl rfl fun a b => h4 ⟨a, b⟩)).le (by decide)⟩
  refine then_no (b := 3) (lit_step (c := 71) (by decide) rfl rfl h4.2 h4.1) ?_ rfl
  by_cases h5 : j + 4 < t.size ∧ t.getD (j + 4) 0 = 83
  case neg => exact ⟨_, _, _, (Go.one (lit_fail (c := 83) (by decide) rfl rfl fun a b => h5 ⟨a, b⟩)).le (by decide)⟩
  refine then_no (b := 2) (lit_step (c := 83) (by decide) rfl rfl h5.2 h5.1) ?_ rfl
  by_cases h6 : j + 5 < t.size ∧ t.getD (j + 5) 0 = 32
  case neg => exact ⟨_, _, _, (Go.one (lit_fail (c := 32) (by decide) rfl rfl fun a b => h6 ⟨a, b⟩)).le (by decide)⟩
  refine then_no (b := 1) (lit_step (c := 32) (by decide) rfl rfl h6.2 h6.1) ?_ rfl
  by_cases h7 : j + 6 < t.size ∧ t.getD (j + 6) 0 = 40
  case neg => exact ⟨_, _, _, (Go.one (lit_fail (c := 40) (by decide) rfl rfl fun a b => h7 ⟨a, b⟩)).le (by decide)⟩
  exact absurd ⟨h7.1, h1.2, h2.2, h3.2, h4.2, h5.2, h6.2, h7.2⟩ h
/- a failed frame of the outer repeat gives one sign back -/
theorem back_O {t : Array Nat} {pc pos hd wt p c : Nat} {mk : Array (Option Nat)} {lm li : Int} {fr : List Sre.Frame} {se : Sre.Seen} (hw : wt < 100) :
    (rS t pc pos hd mk lm li (fO (p + 1) (c + 1 : Nat) :: fr) (wt + 1) (some false) se).step = rS t 11 p p mk (-1) (-1) (fO p c :: fr) (wt + 1) none se := by
  unfold M.step rS
  simp only [Option.isSome_none, Bool.false_eq_true, if_false]
  unfold M.resume fO
  have e0 : ¬ (((c + 1 : Nat) : Int) - 1 < 0) := by (first | lia | omega)
  have e1 : ((c + 1 : Nat) : Int) - 1 = c := by (first | lia | omega)
  have e2 : RC.getD 7 0 = 0 := rfl
  have e3 : RC.getD 6 0 = 5 := rfl
  simp only [M.putBack, M.word, Bool.false_eq_true, if_false, e2, e1, M.afterRun, M.attempt, M.frame, e3]
  have e5 : ¬ ((c : Int) < ((0 : Nat) : Int)) := by (first | lia | omega)
  simp only [if_neg e5, Array.size_empty, Nat.add_zero, Nat.add_sub_cancel]
  rw [if_neg (by (first | lia | omega))]
theorem back_I {t : Array Nat} {pc pos hd wt p c : Nat} {mk : Array (Option Nat)} {lm li : Int} {fr : List Sre.Frame} {se : Sre.Seen} (hw : wt < 100) :
    (rS t pc pos hd mk lm li (fI (p + 1) (c + 1 : Nat) :: fr) (wt + 1) (some false) se).step = rS t 34 p p mk 0 (-1) (fI p c :: fr) (wt + 1) none se := by
  unfold M.step rS
  simp only [Option.isSome_none, Bool.false_eq_true, if_false]
  unfold M.resume fI
  have e1 : ((c + 1 : Nat) : Int) - 1 = c := by (first | lia | omega)
  have e2 : RC.getD 29 0 = 0 := rfl
  have e3 : RC.getD 28 0 = 6 := rfl
  simp only [M.putBack, M.word, Bool.false_eq_true, if_false, e2, e1, M.afterRun, M.attempt, M.frame, e3]
  have e5 : ¬ ((c : Int) < ((0 : Nat) : Int)) := by (first | lia | omega)
  simp only [if_neg e5, Array.size_empty, Nat.add_zero, Nat.add_sub_cancel]
  rw [if_neg (by (first | lia | omega))]
/- .. and with none left fails -/
theorem fail_O {t : Array Nat} {pc pos hd wt p : Nat} {mk : Array (Option Nat)} {lm li : Int} {fr : List Sre.Frame} {se : Sre.Seen} :
    (rS t pc pos hd mk lm li (fO p 0 :: fr) (wt + 1) (some false) se).step = rS t 5 p hd mk (-1) (-1) fr wt (some false) se := by
  unfold M.step rS
  simp only [Option.isSome_none, Bool.false_eq_true, if_false]
  unfold M.resume fO
  have e2 : RC.getD 7 0 = 0 := rfl
  have e5 : ((0 : Int) - 1 < ((0 : Nat) : Int)) := by decide
  simp only [M.putBack, M.word, Bool.false_eq_true, if_false, e2, M.say, if_pos e5, Array.size_empty, Nat.add_zero, Nat.add_sub_cancel]
theorem fail_I {t : Array Nat} {pc pos hd wt p : Nat} {mk : Array (Option Nat)} {lm li : Int} {fr : List Sre.Frame} {se : Sre.Seen} :
    (rS t pc pos hd mk lm li (fI p 0 :: fr) (wt + 1) (some false) se).step = rS t 27 p hd mk 0 (-1) fr wt (some false) se := by
  unfold M.step rS
  simp only [Option.isSome_none, Bool.false_eq_true, if_false]
  unfold M.resume fI
  have e2 : RC.getD 29 0 = 0 := rfl
  have e5 : ((0 : Int) - 1 < ((0 : Nat) : Int)) := by decide
  simp only [M.putBack, M.word, Bool.false_eq_true, if_false, e2, M.say, if_pos e5, Array.size_empty, Nat.add_zero, Nat.add_sub_cancel]
/- yes goes up through a frame -/
theorem yes_O {t : Array Nat} {pc pos hd wt p : Nat} {c : Int} {mk : Array (Option Nat)} {lm li : Int} {fr : List Sre.Frame} {se : Sre.Seen} :
    (rS t pc pos hd mk lm li (fO p c :: fr) (wt + 1) (some true) se).step = rS t 5 p hd mk lm li fr wt (some true) se := by
  unfold M.step rS
  simp only [Option.isSome_none, Bool.false_eq_true, if_false]
  unfold M.resume fO
  simp only [M.say, if_true, Array.size_empty, Nat.add_zero, Nat.add_sub_cancel]
theorem yes_I {t : Array Nat} {pc pos hd wt p : Nat} {c : Int} {mk : Array (Option Nat)} {lm li : Int} {fr : List Sre.Frame} {se : Sre.Seen} :
    (rS t pc pos hd mk lm li (fI p c :: fr) (wt + 1) (some true) se).step = rS t 27 p hd mk lm li fr wt (some true) se := by
  unfold M.step rS
  simp only [Option.isSome_none, Bool.false_eq_true, if_false]
  unfold M.resume fI
  simp only [M.say, if_true, Array.size_empty, Nat.add_zero, Nat.add_sub_cancel]
theorem end_step {t : Array Nat} {pc pos hd wt : Nat} {mk : Array (Option Nat)} {lm li : Int} {se : Sre.Seen} {y : Bool} :
    (rS t pc pos hd mk lm li [] wt (some y) se).step = { rS t pc pos hd mk lm li [] wt (some y) se with outcome := some (if y then .matched else .failed) } := by
  unfold M.step rS
  simp only [Option.isSome_none, Bool.false_eq_true, if_false]
/- the marks -/
theorem mark0 {t : Array Nat} {pos hd wt : Nat} {a b : Option Nat} {fr : List Sre.Frame} {se : Sre.Seen} :
    (rS t 25 pos hd #[a, b] (-1) (-1) fr wt none se).step = rS t 27 pos hd #[some pos, b] 0 (-1) fr wt none (se.add 17) := by
  with_unfolding_all rfl
theorem mark1 {t : Array Nat} {pos hd wt : Nat} {a b : Option Nat} {fr : List Sre.Frame} {se : Sre.Seen} :
    (rS t 34 pos hd #[a, b] 0 (-1) fr wt none se).step = rS t 36 pos hd #[a, some pos] 1 1 fr wt none (se.add 17) := by
  with_unfolding_all rfl
theorem succ_step {t : Array Nat} {pos hd wt : Nat} {mk : Array (Option Nat)} {lm li : Int} {fr : List Sre.Frame} {se : Sre.Seen} :
    (rS t 38 pos hd mk lm li fr wt none se).step = rS t 38 pos pos mk lm li fr wt (some true) (se.add 1) := by
  with_unfolding_all rfl
end Mine
end
section
open PySem PySem.W PyProof.Rows
set_option maxRecDepth 100000
set_option maxHeartbeats 8000000
namespace Mine
open PySem.Sre PySem.Sre.M
theorem run_any {t : Array Nat} {se : Sre.Seen} : ∀ (k r p found : Nat), (∀ i, i < k → t.getD (p + i) 0 ≠ 10) → (r = 0 ∨ t.getD (p + k) 0 = 10) → Sre.run RC t 9 (k + r) p found se = .ok (found + k, se)
  | 0, 0, p, found, _, _ => rfl
  | 0, r + 1, p, found, _, h => by
    have h' : t.getD p 0 = 10 := h.resolve_left (by (first | lia | omega))
    rw [Nat.zero_add, Sre.run]
    have : accepts RC 9 (t.getD p 0) se = .ok (false, se) := by rw [h']; rfl
    rw [this]; rfl
  | k + 1, r, p, found, h, h2 => by
    have h' : t.getD p 0 ≠ 10 := h 0 (by (first | lia | omega))
    rw [show k + 1 + r = (k + r) + 1 by (first | lia | omega), Sre.run]
    have : accepts RC 9 (t.getD p 0) se = .ok (true, se) := by
      show Except.ok (t.getD p 0 != 10, se) = _
      rw [bne_iff_ne.mpr h']
    rw [this]
    show Sre.run RC t 9 (k + r) (p + 1) (found + 1) se = _
    rw [run_any k r (p + 1) (found + 1) (fun i hi => by have := h (i + 1) (by (first | lia | omega)); rwa [show p + 1 + i = p + (i + 1) by (first | lia | omega)]) (by rwa [show p + 1 + k = p + (k + 1) by (first | lia | omega)])]
    congr 2; (first | lia | omega)
theorem run_not {t : Array Nat} {se : Sre.Seen} : ∀ (k r p found : Nat), (∀ i, i < k → t.getD (p + i) 0 ≠ 41) → (r = 0 ∨ t.getD (p + k) 0 = 41) → Sre.run RC t 31 (k + r) p found se = .ok (found + k, se)
  | 0, 0, p, found, _, _ => rfl
  | 0, r + 1, p, found, _, h => by
    have h' : t.getD p 0 = 41 := h.resolve_left (by (first | lia | omega))
    rw [Nat.zero_add, Sre.run]
    have : accepts RC 31 (t.getD p 0) se = .ok (false, se) := by rw [h']; rfl
    rw [this]; rfl
  | k + 1, r, p, found, h, h2 => by
    have h' : t.getD p 0 ≠ 41 := h 0 (by (first | lia | omega))
    rw [show k + 1 + r = (k + r) + 1 by (first | lia | omega), Sre.run]
    have : accepts RC 31 (t.getD p 0) se = .ok (true, se) := by
      show Except.ok (t.getD p 0 != 41, se) = _
      rw [bne_iff_ne.mpr h']
    rw [this]
    show Sre.run RC t 31 (k + r) (p + 1) (found + 1) se = _
    rw [run_not k r (p + 1) (found + 1) (fun i hi => by have := h (i + 1) (by (first | lia | omega)); rwa [show p + 1 + i = p + (i + 1) by (first | lia | omega)]) (by rwa [show p + 1 + k = p + (k + 1) by (first | lia | omega)])]
    congr 2; (first | lia | omega)
theorem rep_O {t : Array Nat} {n hd : Nat} {mk : Array (Option Nat)} {se : Sre.Seen} (hn : n ≤ t.size) (hz : t.size < 1000000) (h1 : ∀ i, i < n → t.getD i 0 ≠ 10) (h2 : n = t.size ∨ t.getD n 0 = 10) :
    (rS t 5 0 hd mk (-1) (-1) [] 0 none se).step = rS t 11 n n mk (-1) (-1) [fO n n] 1 none ((se.add 24).add 2) := by
  have e1 : RC.size = 39 := rfl
  have e2 : ops[24]? = some Op.REPEAT_ONE := rfl
  have e3 : RC.getD 5 0 = 24 := rfl
  have e4 : RC.getD 6 0 = 5 := rfl
  have e5 : RC.getD 7 0 = 0 := rfl
  have e6 : RC.getD 8 0 = 4294967295 := rfl
  have e7 : RC.getD 9 0 = 2 := rfl
  have hr := run_any (se := (se.add 24).add 2) n (t.size - n) 0 0 (by simpa using h1) (h2.imp (fun h => by (first | lia | omega)) fun h => by simpa using h)
  rw [show n + (t.size - n) = t.size by (first | lia | omega)] at hr
  have hm : min 4294967295 ((t.size : Int) - ((0 : Nat) : Int)).toNat = t.size := by (first | lia | omega)
  have c1 : ¬ (((0 : Nat) : Int) > (t.size : Int) - ((0 : Nat) : Int)) := by (first | lia | omega)
  unfold M.step rS
  simp only [Option.isSome_none, Bool.false_eq_true, if_false, e1]
  rw [if_pos (by decide)]
  unfold M.exec
  simp only [M.word, Nat.add_zero, Nat.reduceAdd, e3, e2, e5, e6, e7, if_neg c1, Bool.false_eq_true, if_false, hm, hr]
  unfold M.afterRun M.attempt M.keep M.frame fO
  simp only [M.word, e4, Nat.reduceAdd, Option.isSome_none, Bool.false_eq_true, if_false, Array.size_empty, Nat.add_zero, Nat.zero_add, Nat.not_lt_zero]
  rw [if_neg (by decide)]
theorem rep_I {t : Array Nat} {p k hd wt : Nat} {mk : Array (Option Nat)} {fr : List Sre.Frame} {se : Sre.Seen} (hw : wt < 100) (hn : p + k ≤ t.size) (hz : t.size < 1000000) (h1 : ∀ i, i < k → t.getD (p + i) 0 ≠ 41) (h2 : p + k = t.size ∨ t.getD (p + k) 0 = 41) :
    (rS t 27 p hd mk 0 (-1) fr wt none se).step = rS t 34 (p + k) (p + k) mk 0 (-1) (fI (p + k) k :: fr) (wt + 1) none ((se.add 24).add 20) := by
  have e1 : RC.size = 39 := rfl
  have e2 : ops[24]? = some Op.REPEAT_ONE := rfl
  have e3 : RC.getD 27 0 = 24 := rfl
  have e4 : RC.getD 28 0 = 6 := rfl
  have e5 : RC.getD 29 0 = 0 := rfl
  have e6 : RC.getD 30 0 = 4294967295 := rfl
  have e7 : RC.getD 31 0 = 20 := rfl
  have hr := run_not (se := (se.add 24).add 20) k (t.size - p - k) p 0 h1 (h2.imp (fun h => by (first | lia | omega)) fun h => by simpa using h)
  rw [show k + (t.size - p - k) = t.size - p by (first | lia | omega)] at hr
  have hm : min 4294967295 ((t.size : Int) - (p : Int)).toNat = t.size - p := by (first | lia | omega)
  have c1 : ¬ (((0 : Nat) : Int) > (t.size : Int) - (p : Int)) := by (first | lia | omega)
  unfold M.step rS
  simp only [Option.isSome_none, Bool.false_eq_true, if_false, e1]
  rw [if_pos (by decide)]
  unfold M.exec
  simp only [M.word, Nat.add_zero, Nat.reduceAdd, e3, e2, e5, e6, e7, if_neg c1, Bool.false_eq_true, if_false, hm, hr]
  unfold M.afterRun M.attempt M.keep M.frame fI
  simp only [M.word, e4, Nat.reduceAdd, Option.isSome_none, Bool.false_eq_true, if_false, Array.size_empty, Nat.add_zero, Nat.zero_add, Nat.not_lt_zero]
  rw [if_neg (by (first | lia | omega))]
/- all the inner repeat's ways fail -/
theorem inner_fail {t : Array Nat} {p wt : Nat} {fr : List Sre.Frame} (hw : wt < 100) : ∀ (k hd : Nat) (a b : Option Nat) (se : Sre.Seen), (∀ i, i ≤ k → p + i < t.size → t.getD (p + i) 0 ≠ 41) →
    ∃ pc pos se', ∃ hd' b', Go (3 * k + 3) (rS t 34 (p + k) hd #[a, b] 0 (-1) (fI (p + k) k :: fr) (wt + 1) none se) (rS t pc pos hd' #[a, b'] 0 (-1) fr wt (some false) se')
  | 0, hd, a, b, se, h => by
    have h' := h 0 (Nat.le_refl _)
    exact ⟨_, _, _, _, _, Go.trans (a := 1) (b := 2) (Go.one mark1) (Go.trans (a := 1) (b := 1) (Go.one (lit_fail (c := 41) (by decide) rfl rfl h')) (Go.one fail_I))⟩
  | k + 1, hd, a, b, se, h => by
    have h' := h (k + 1) (Nat.le_refl _)
    obtain ⟨pc, pos, se', hd', b', g⟩ := inner_fail hw k (p + k) a (some (p + (k + 1))) ((se.add 17).add 16) fun i hi => h i (by (first | lia | omega))
    refine ⟨pc, pos, se', hd', b', (Go.trans (Go.one mark1) (Go.trans (Go.one (lit_fail (c := 41) (by decide) rfl rfl h')) (Go.trans (Go.one (back_I hw)) g))).le (by (first | lia | omega))⟩
noncomputable def FailAt (t : Array Nat) (j : Nat) : Prop := litsAt t j → ∀ i, j + 7 ≤ i → i < t.size → t.getD i 0 ≠ 41
/- a place at which no match begins -/
theorem fail_at {t : Array Nat} {j hd wt : Nat} {a b : Option Nat} {fr : List Sre.Frame} {se : Sre.Seen} (hz : t.size < 1000000) (hw : wt < 99) (h : FailAt t j) :
    ∃ pc pos se', ∃ hd' a' b' lm, Go (3 * t.size + 20) (rS t 11 j hd #[a, b] (-1) (-1) fr wt none se) (rS t pc pos hd' #[a', b'] lm (-1) fr wt (some false) se') := by
  by_cases hl : litsAt t j
  · have h' := h hl
    obtain ⟨se1, g1⟩ := lits_ok (hd := hd) (wt := wt) (mk := #[a, b]) (lm := -1) (li := -1) (fr := fr) (se := se) hl
    have hs := hl.1
    have h2 := rep_I (t := t) (p := j + 7) (k := t.size - (j + 7)) (hd := hd) (wt := wt) (mk := #[some (j + 7), b]) (fr := fr) (se := se1.add 17) (by (first | lia | omega)) (by (first | lia | omega)) hz (fun i hi => h' _ (by (first | lia | omega)) (by (first | lia | omega))) (.inl (by (first | lia | omega)))
    obtain ⟨pc, pos, se', hd', b', g⟩ := inner_fail (t := t) (p := j + 7) (wt := wt) (fr := fr) (by (first | lia | omega)) (t.size - (j + 7)) (j + 7 + (t.size - (j + 7))) (some (j + 7)) b (((se1.add 17).add 24).add 20) fun i hi h0 => h' _ (by (first | lia | omega)) h0
    exact ⟨pc, pos, se', hd', _, b', 0, (Go.trans g1 (Go.trans (Go.one mark0) (Go.trans (Go.one h2) g))).le (by (first | lia | omega))⟩
  · obtain ⟨pc, pos, se', g⟩ := lits_no (hd := hd) (wt := wt) (mk := #[a, b]) (lm := -1) (li := -1) (fr := fr) (se := se) hl
    exact ⟨pc, pos, se', _, _, _, _, g.le (by (first | lia | omega))⟩
/- down to where a match may begin -/
theorem down {t : Array Nat} {p : Nat} (hz : t.size < 1000000) : ∀ (d hd : Nat) (a b : Option Nat) (se : Sre.Seen), (∀ j, p < j → j ≤ p + d → FailAt t j) →
    ∃ hd' a' b' se', Go (d * (3 * t.size + 21)) (rS t 11 (p + d) hd #[a, b] (-1) (-1) [fO (p + d) (p + d : Nat)] 1 none se) (rS t 11 p hd' #[a', b'] (-1) (-1) [fO p p] 1 none se')
  | 0, hd, a, b, se, _ => ⟨hd, a, b, se, Go.rf⟩
  | d + 1, hd, a, b, se, h => by
    obtain ⟨pc, pos, se1, hd1, a1, b1, lm1, g1⟩ := fail_at (t := t) (j := p + (d + 1)) (hd := hd) (wt := 1) (a := a) (b := b) (fr := [fO (p + (d + 1)) (p + (d + 1) : Nat)]) (se := se) hz (by decide) (h _ (by (first | lia | omega)) (by (first | lia | omega)))
    obtain ⟨hd', a', b', se', g⟩ := down hz d (p + d) a1 b1 se1 fun j h1 h2 => h j h1 (by (first | lia | omega))
    refine ⟨hd', a', b', se', (Go.trans g1 (Go.trans (Go.one (back_O (wt := 0) (p := p + d) (c := p + d) (by decide))) g)).le ?_⟩
    rw [Nat.add_mul]; (first | lia | omega)
/- the one match -/
theorem go_match {t : Array Nat} {n p q : Nat} {hd : Nat} {se : Sre.Seen} (hz : t.size < 1000000) (hn : n ≤ t.size) (h1 : ∀ i, i < n → t.getD i 0 ≠ 10) (h2 : n = t.size ∨ t.getD n 0 = 10) (hp : p ≤ n) (hl : litsAt t p) (hf : ∀ j, p < j → j ≤ n → FailAt t j)
    (hq : p + 7 ≤ q) (hq2 : q < t.size) (h3 : ∀ i, p + 7 ≤ i → i < q → t.getD i 0 ≠ 41) (h4 : t.getD q 0 = 41) :
    ∃ pc pos se', Go (n * (3 * t.size + 21) + 20) (rS t 5 0 hd #[none, none] (-1) (-1) [] 0 none se) { rS t pc pos (q + 1) #[some (p + 7), some q] 1 1 [] 0 (some true) se' with outcome := some .matched } := by
  have r0 := rep_O (t := t) (n := n) (hd := hd) (mk := #[none, none]) (se := se) hn hz h1 h2
  obtain ⟨hd1, a1, b1, se1, g1⟩ := down (t := t) (p := p) hz (n - p) n none none ((se.add 24).add 2) fun j h1 h2 => hf j h1 (by (first | lia | omega))
  rw [show p + (n - p) = n by (first | lia | omega)] at g1
  obtain ⟨se2, g2⟩ := lits_ok (hd := hd1) (wt := 1) (mk := #[a1, b1]) (lm := -1) (li := -1) (fr := [fO p p]) (se := se1) hl
  have r1 := rep_I (t := t) (p := p + 7) (k := q - (p + 7)) (hd := hd1) (wt := 1) (mk := #[some (p + 7), b1]) (fr := [fO p p]) (se := se2.add 17) (by decide) (by (first | lia | omega)) hz (fun i hi => h3 _ (by (first | lia | omega)) (by (first | lia | omega))) (.inr (by rw [show p + 7 + (q - (p + 7)) = q by (first | lia | omega)]; exact h4))
  rw [show p + 7 + (q - (p + 7)) = q by (first | lia | omega)] at r1
  refine ⟨_, _, _, (Go.trans (Go.one r0) (Go.trans g1 (Go.trans g2 (Go.trans (Go.one mark0) (Go.trans (Go.one r1) (Go.trans (Go.one mark1) (Go.trans (Go.one (lit_step (c := 41) (by decide) rfl rfl h4 hq2)) (Go.trans (Go.one succ_step) (Go.trans (Go.one yes_I) (Go.trans (Go.one yes_O) (Go.one end_step))))))))))).le ?_⟩
  have : (n - p) * (3 * t.size + 21) ≤ n * (3 * t.size + 21) := Nat.mul_le_mul_right _ (by (first | lia | omega))
  (first | lia | omega)
/- none, where a line end stands ahead -/
theorem go_none {t : Array Nat} {hd : Nat} {se : Sre.Seen} (hz : t.size < 1000000) (h2 : t.getD 0 0 = 10) :
    ∃ pc pos se' hd' mk lm, Go 20 (rS t 5 0 hd #[none, none] (-1) (-1) [] 0 none se) { rS t pc pos hd' mk lm (-1) [] 0 (some false) se' with outcome := some .failed } := by
  have r0 := rep_O (t := t) (n := 0) (hd := hd) (mk := #[none, none]) (se := se) (Nat.zero_le _) hz (fun i hi => absurd hi (Nat.not_lt_zero _)) (.inr h2)
  obtain ⟨pc, pos, se1, g1⟩ := lits_no (t := t) (j := 0) (hd := 0) (wt := 1) (mk := #[none, none]) (lm := -1) (li := -1) (fr := [fO 0 0]) (se := (se.add 24).add 2) fun h => by rw [h.2.1] at h2; exact absurd h2 (by decide)
  exact ⟨_, _, _, _, _, _, (Go.trans (Go.one r0) (Go.trans g1 (Go.trans (Go.one fail_O) (Go.one end_step)))).le (by decide)⟩
end Mine
end
section
open PySem PySem.W PyProof.Rows
set_option maxRecDepth 100000
set_option maxHeartbeats 1000000
namespace Mine
/- a lead and its word -/
noncomputable abbrev Pr := Str × Str
noncomputable def prSz (i : Pr) : Int := i.1.length + i.2.length
noncomputable def rowSz (c : List Pr) : Int := (c.map prSz).sum
noncomputable def rowTx (c : List Pr) : Str := Txt.join (Str.ofString "") (c.map fun i => Txt.join (Str.ofString "") [i.1, i.2])
/- one more item: rows told, row under way -/
noncomputable def eat (W : Int) (st : List (List Pr) × List Pr) (i : Pr) : List (List Pr) × List Pr := if rowSz st.2 + prSz i ≤ W ∨ st.2 = [] then (st.1, st.2 ++ [i]) else (st.1 ++ [st.2], [i])
/- the rows of a width -/
noncomputable def rowsOf (W : Int) (l : List Pr) : List (List Pr) := (l.foldl (eat W) ([], [])).1 ++ [(l.foldl (eat W) ([], [])).2]
theorem eats_ok {W : Int} {S : List Pr} : ∀ (l : List Pr) (st : List (List Pr) × List Pr), (∀ x ∈ st.2, x ∈ S) → (∀ x ∈ l, x ∈ S) →
    (l.foldl (eat W) st).1.length ≤ st.1.length + l.length ∧ (l.foldl (eat W) st).2.length ≤ st.2.length + l.length ∧ ∀ x ∈ (l.foldl (eat W) st).2, x ∈ S
  | [], st, h1, _ => ⟨Nat.le_refl _, Nat.le_refl _, h1⟩
  | i :: r, st, h1, h2 => by
    have hi := h2 i (List.mem_cons_self ..)
    have key : (∀ x ∈ (eat W st i).2, x ∈ S) ∧ (eat W st i).1.length ≤ st.1.length + 1 ∧ (eat W st i).2.length ≤ st.2.length + 1 := by
      unfold eat
      split
      · refine ⟨fun x hx => ?_, Nat.le_succ _, by simp⟩
        rcases List.mem_append.mp hx with hx | hx
        · exact h1 x hx
        · rw [List.mem_singleton.mp hx]; exact hi
      · refine ⟨fun x hx => ?_, by simp, by simp⟩
        rw [List.mem_singleton.mp hx]; exact hi
    obtain ⟨a, b, c⟩ := key
    have := eats_ok (W := W) r (eat W st i) a fun x hx => h2 x (List.mem_cons_of_mem _ hx)
    simp only [List.foldl_cons, List.length_cons]
    exact ⟨by (first | lia | omega), by (first | lia | omega), this.2.2⟩
theorem eats_ne {W : Int} : ∀ (l : List Pr) (st : List (List Pr) × List Pr), (st.2 ≠ [] ∨ l ≠ []) → (l.foldl (eat W) st).2 ≠ []
  | [], st, h => h.resolve_right (fun h => h rfl)
  | i :: r, st, _ => by
    rw [List.foldl_cons]
    refine eats_ne r _ (.inl ?_)
    unfold eat
    split <;> simp
noncomputable def comment (x : Str) : Str := if (Txt.rstrip x).length = 0 then Str.ofString "#" else Str.ofString "# " ++ Txt.rstrip x
/- what the law reads off one token -/
noncomputable def readTok (st : List Int × List Str) (tk : List UInt8) : List Int × List Str := if tk = [35] then (st.1 ++ [(st.2.length : Int)], st.2) else (st.1, st.2 ++ [⟨tk.toArray.map (·.toNat)⟩])
/- the text asked of, as the matcher meets it: all that one match is -/
structure OneMatch (t : Array Nat) (n p q : Nat) : Prop where
  hn : n ≤ t.size
  h1 : ∀ i, i < n → t.getD i 0 ≠ 10
  h2 : n = t.size ∨ t.getD n 0 = 10
  hp : p ≤ n
  hl : litsAt t p
  hf : ∀ j, p < j → j ≤ n → FailAt t j
  hq : p + 7 ≤ q
  hq2 : q < t.size
  h3 : ∀ i, p + 7 ≤ i → i < q → t.getD i 0 ≠ 41
  h4 : t.getD q 0 = 41
noncomputable abbrev wordsOf (arr : Array UInt8) : List (List UInt8) := PySem.Builtin.Bytes.words (arr.size + 1) (arr.size + 1) arr.toList
theorem eat_flat {W : Int} : ∀ (l : List Pr) (st : List (List Pr) × List Pr), (l.foldl (eat W) st).1.flatten ++ (l.foldl (eat W) st).2 = st.1.flatten ++ st.2 ++ l
  | [], st => by simp
  | i :: r, st => by
    rw [List.foldl_cons, eat_flat r]
    unfold eat
    split <;> simp
theorem rowsOf_flat (W : Int) (l : List Pr) : (rowsOf W l).flatten = l := by
  have := eat_flat (W := W) l ([], [])
  simp only [List.flatten_nil, List.nil_append] at this
  unfold rowsOf
  rw [List.flatten_append]
  simpa using this
theorem eat_full {W : Int} : ∀ (l : List Pr) (st : List (List Pr) × List Pr), (∀ c ∈ st.1, c ≠ []) → ∀ c ∈ (l.foldl (eat W) st).1, c ≠ []
  | [], _, h => h
  | i :: r, st, h => by
    rw [List.foldl_cons]
    refine eat_full r _ ?_
    unfold eat
    split
    · exact h
    · rename_i hn
      intro c hc
      rcases List.mem_append.mp hc with hc | hc
      · exact h c hc
      · rw [List.mem_singleton.mp hc]
        exact fun e => hn (.inr e)
theorem rowsOf_full (W : Int) {l : List Pr} (hl : l ≠ []) : ∀ c ∈ rowsOf W l, c ≠ [] := by
  intro c hc
  rcases List.mem_append.mp hc with hc | hc
  · exact eat_full l ([], []) (fun _ h => nomatch h) c hc
  · rw [List.mem_singleton.mp hc]
    exact eats_ne l ([], []) (.inr hl)
end Mine
end
section
open PySem PySem.W PyProof.Rows PySem.Calls PySem.Spec
set_option maxRecDepth 100000
set_option maxHeartbeats 8000000
set_option pp.deepTerms false
set_option pp.maxSteps 20000
namespace Mine
theorem dummyC1 : (fun (_ : OpenLaw) (_ : Params → Frag) => True) PySem.Challenge.rw_wr0031_01 K9 := by
  k_fill
  k_with_none
  w_top off
  k_with "lt8" => with_reducible first | assumption | exact And.left (by assumption) | exact And.left (And.right (by assumption)) | exact And.left (And.right (And.right (by assumption))) | exact And.left (And.right (And.right (And.right (by assumption)))) | exact And.left (And.right (And.right (And.right (And.right (by assumption))))) | exact And.left (And.right (And.right (And.right (And.right (And.right (by assumption)))))) | exact And.left (And.right (And.right (And.right (And.right (And.right (And.right (by assumption))))))) | exact And.left (And.right (And.right (And.right (And.right (And.right (And.right (And.right (by assumption)))))))) | exact And.left (And.right (And.right (And.right (And.right (And.right (And.right (And.right (And.right (by assumption))))))))) | exact And.left (And.right (And.right (And.right (And.right (And.right (And.right (And.right (And.right (And.right (by assumption)))))))))) | exact And.left (And.right (And.right (And.right (And.right (And.right (And.right (And.right (And.right (And.right (And.right (by assumption))))))))))) | exact And.left (And.right (And.right (And.right (And.right (And.right (And.right (And.right (And.right (And.right (And.right (And.right (by assumption)))))))))))) | exact And.left (And.right (And.right (And.right (And.right (And.right (And.right (And.right (And.right (And.right (And.right (And.right (And.right (by assumption)))))))))))))
  k_with "lt9" => first | exact Nat.ne_of_lt (by walk_at "lt8") | exact Nat.ne_of_gt (by walk_at "lt8")
  trivial
theorem comment_c {w : World} {mg mb : Str → Option Value} {b : Heap} {s : Shared} {x : Str} {t : Tok} {Q E : Value → Shared → Prop}
    (B : Base w mg mb b) (kb : Sub b s.heap) (hz : x.length ≤ 10000)
    (hret : ∀ h' tk' t', But [] s.heap h' → Q (.str (comment x) t') { s with heap := h', toks := tk' }) :
    wpAny (model pw w) (Av 8) (call (.ref 57) [.str x t]) Q E s := by
  refine wpAny_call ?_
  have N0 : ∀ p ∈ ([] : List (Addr × Obj)), s.heap.get? p.1 = some p.2 ∧ b.get? p.1 = none := fun _ h => nomatch h
  k_dflt (refine' enter (binds := [(Str.ofString "line", .str x t)]) B kb N0 ?k4 ?k5 ?k6 ?k7 ?k8 ?_ ?k10 ?k11 ?k12 ?k13; (case k4 => k_is); (case k5 => k_is); (case k6 => decide); (case k7 => exact BindsTo.of_eq rfl); (case k8 => exact locs rfl); (case k10 => decide); (case k11 => exact rfl); (case k12 => exact rfl); (case k13 => exact rfl))
  intro g L' h₁ tk₀ F N X T hk hs hL
  (try dsimp only)
  (try k_fold)
  k_steps
  · rename Fr _ _ _ _ => F1
    have e : comment x = Str.ofString "# " ++ Txt.rstrip x := if_neg (by (first | lia | omega))
    rw [e] at hret
    exact hret _ _ _ (but_end hk F1.keep fa_nil)
  · rename Fr _ _ _ _ => F1
    have e : comment x = Str.ofString "#" := if_pos (by (first | lia | omega))
    rw [e] at hret
    exact hret _ _ _ (but_end hk F1.keep fa_nil)
end Mine
end
section
open PySem PySem.W PyProof.Rows PySem.Calls PySem.Spec
set_option maxRecDepth 100000
set_option maxHeartbeats 8000000
set_option pp.deepTerms false
set_option pp.maxSteps 20000
namespace Mine
section
variable {prog : Program} {w : World} {A : Around} {E : Value → Shared → Prop} {s : Shared} {K : Frag} {x C dx L : Addr} {ox : Obj} {od : Option Obj} {name : Str}
theorem acc_ga_entry : entryFor table "list.__getattribute__" = some Builtin.«object.__getattribute__» :=
  entryFor_alias (id' := "object.__getattribute__") (by kernel_rfl) (by decide +kernel) (by decide +kernel) (by kernel_rfl)
theorem acc_getattr {v : Value} {expr : Bool} {Q : Value → Shared → Prop} (X : K.In s.heap) (I : InstAt s.heap x ox C od) (hga : findIn K (.ref C) "__getattribute__" = some (some (.builtin "list.__getattribute__"))) (hk : findIn K (.ref C) "__getattr__" = some none)
    (hm : mroIn K C (.type "list") = some true) (hf : findObj K C od name = some (.value v)) (hh : handedIn v = true) (h : Q v { s with toks := s.toks + 1 }) : wpAny (model prog w) A (getAttr (.ref x) name expr) Q E s := by
  obtain ⟨hp, g, d, t, os⟩ := s
  have L0 := I.type (M := model prog w)
  have L1 := looks_findIn (M := model prog w) X hga
  have L2 := looks_findIn (M := model prog w) X hk
  have L3 := looks_find (M := model prog w) X I hf
  unfold getAttr getAttrBy
  refine wpAny_bind (wpAny_mkText (wpAny_holding (wpAny_bind (L0.at (wpAny_bind (L1.at ?_))))))
  dsimp only
  rw [if_neg (show ¬ ((onTheHeap (Value.ref C) && (Value.builtin "list.__getattribute__" == Value.builtin "object.__getattribute__")) = true) from by
    show ¬ ((true && (Value.builtin "list.__getattribute__" == Value.builtin "object.__getattribute__")) = true)
    decide)]
  unfold getAttrByItsOwn hookBefore
  refine wpAny_bind ?_
  rw [if_pos (show onTheHeap (Value.ref C) = true from rfl)]
  refine L2.at ?_
  refine wpAny_bind (wpAny_attempt (wpAny_holding ?_))
  unfold callGetattribute boundAndCalled
  rw [if_neg (by cases expr <;> decide)]
  refine wpAny_bind ?_
  rw [show bindSpecial (.builtin "list.__getattribute__") (.ref x) = pure (.builtin "list.__getattribute__", [.ref x]) from by
    simp only [bindSpecial, typeOf]
    rfl]
  refine wpAny_pure ?_
  refine sub_call (nm := "__getattribute__") (looks_inst X I hm) acc_ga_entry (F.args_list_getattribute_2 _ _) ?_
  unfold Builtin.«object.__getattribute__»
  refine wpAny_bind (wpAny_pure ?_)
  refine wpAny_bind (wpAny_pure ?_)
  refine wpAny_bind (L0.at (wpAny_bind (L3.at ?_)))
  refine wpAny_pure ⟨v, rfl, ?_⟩
  show wpAny _ _ (handedOut v) _ _ _
  rw [handedOut_of hh]; exact wpAny_pure h
end
end Mine
end
section
open PySem PySem.W PyProof.Rows PySem.Calls PySem.Spec
set_option maxRecDepth 100000
set_option maxHeartbeats 8000000
set_option pp.deepTerms false
set_option pp.maxSteps 20000
namespace Mine
theorem dummyL0 : True := by
  k_with_none
  w_top off
  trivial
noncomputable def TabO (op : Obj) : Prop := ∃ ps, op = { cls := .none, data := .fields ps } ∧ TriplesOk ps.toList
theorem TabO.data {op : Obj} (t : TabO op) : ∃ ps, op.data = .fields ps ∧ TriplesOk ps.toList := by
  obtain ⟨ps, rfl, ht⟩ := t
  exact ⟨ps, rfl, ht⟩
/- a code object, its table known in full -/
noncomputable def CodeT (h : Heap) (c P : Addr) (ps : Array Value) : Prop := h.IsCode c P ps ∧ h.TableAt c P ps
theorem isCode_len {w : World} {h : Heap} (X : (K9 w.params).In h) {op : Obj} (e : h.get? 176 = some op) (t : TabO op) : ∃ ps, CodeT h 180 176 ps := by
  obtain ⟨ps, rfl, ht⟩ := t
  exact ⟨ps, ⟨_, _, _, _, _, _, _, _, _, _, X 180 _ (by k_is), rfl, rfl, rfl, rfl, rfl, rfl, e, rfl, ht, by decide⟩, ⟨_, _, X 180 _ (by k_is), rfl, rfl, rfl⟩, e⟩
theorem isCode_str {w : World} {h : Heap} (X : (K9 w.params).In h) {op : Obj} (e : h.get? 183 = some op) (t : TabO op) : ∃ ps, CodeT h 187 183 ps := by
  obtain ⟨ps, rfl, ht⟩ := t
  exact ⟨ps, ⟨_, _, _, _, _, _, _, _, _, _, X 187 _ (by k_is), rfl, rfl, rfl, rfl, rfl, rfl, e, rfl, ht, by decide⟩, ⟨_, _, X 187 _ (by k_is), rfl, rfl, rfl⟩, e⟩
theorem tabO_of {h : Heap} {c P : Addr} {ps : Array Value} (x : CodeT h c P ps) : ∃ op, h.get? P = some op ∧ TabO op := by
  obtain ⟨⟨_, _, _, _, _, _, _, _, _, op, _, _, _, _, _, _, _, b, d, t, _⟩, _, e⟩ := x
  exact ⟨_, e, ps, rfl, t⟩

/- the things of a list, of whatever class below list -/
noncomputable def IsL (h : Heap) (a : Addr) (items : Array Value) : Prop := ∃ o, h.get? a = some o ∧ ∃ n, o.data = .seq items n
theorem IsL.to {h h' : Heap} {a : Addr} {items} (x : IsL h a items) (k : ∀ o, h.get? a = some o → h'.get? a = some o) : IsL h' a items := let ⟨o, e, r⟩ := x; ⟨o, k o e, r⟩

section
variable {prog : Program} {w : World} {A : Around} {E : Value → Shared → Prop} {s : Shared}
theorem next_item {it l : Addr} {i : Nat} {items : Array Value} {x : Value} {Q : Option Value → Shared → Prop} (hit : s.heap.IsListIter it l i) (hl : IsL s.heap l items) (hx : items[i]? = some x)
    (hQ : ∀ h', h'.IsListIter it l (i + 1) → Heap.SameBut it s.heap h' → Q (some x) { s with heap := h' }) : wpAny (model prog w) A (pyNext (.ref it)) Q E s := by
  obtain ⟨o, ho, hc, hd⟩ := id hit
  obtain ⟨ol, hol, nl, hdl⟩ := hl
  unfold pyNext
  refine wpAny_bind (wpAny_attempt (wpAny_callSpecial?_slot (name := Str.ofString "__next__") hit.typeIs slot_listiter_next
    (wpAny_call_entry slot_listiter_next hit.typeIs entry_listiter_next ?_ (args_listiter_next _))))
  show wpAny _ _ (field (.ref it) 0 >>= _) _ _ s
  refine wpAny_bind (wpAny_field ho hd (x := .ref l) rfl ?_)
  show wpAny _ _ (field (.ref it) 1 >>= _) _ _ s
  refine wpAny_bind (wpAny_field ho hd (x := .int i 0) rfl ?_)
  show wpAny _ _ (seqItems? (.ref l) >>= _) _ _ s
  refine wpAny_bind (wpAny_seqItems hol hdl ?_)
  simp only [Int.toNat_natCast, hx]
  refine wpAny_bind (wpAny_setField ho hd (by simp) (wpAny_pure ⟨x, rfl, wpAny_pure (hQ _ ?_ (Heap.SameBut.update ..))⟩))
  exact ⟨_, Heap.get?_update_self _ ho (Obj.isFreed_of_fields (Obj.data_mapFields hd _)), (Obj.cls_mapFields ..).trans hc, by
    rw [Obj.data_mapFields hd]; simp [rawInt]⟩

theorem next_end {it l : Addr} {i : Nat} {items : Array Value} {Q : Option Value → Shared → Prop} (hh : A.handled = none) (hit : s.heap.IsListIter it l i) (hl : IsL s.heap l items) (hx : items[i]? = none)
    (hQ : ∀ h', Heap.ExtBut it s.heap h' → Q none { s with heap := h' }) : wpAny (model prog w) A (pyNext (.ref it)) Q E s := by
  obtain ⟨o, ho, hc, hd⟩ := id hit
  obtain ⟨ol, hol, nl, hdl⟩ := hl
  unfold pyNext
  refine wpAny_bind (wpAny_attempt (wpAny_callSpecial?_slot (name := Str.ofString "__next__") hit.typeIs slot_listiter_next
    (wpAny_call_entry slot_listiter_next hit.typeIs entry_listiter_next ?_ (args_listiter_next _))))
  show wpAny _ _ (field (.ref it) 0 >>= _) _ _ s
  refine wpAny_bind (wpAny_field ho hd (x := .ref l) rfl ?_)
  show wpAny _ _ (field (.ref it) 1 >>= _) _ _ s
  refine wpAny_bind (wpAny_field ho hd (x := .int i 0) rfl ?_)
  show wpAny _ _ (seqItems? (.ref l) >>= _) _ _ s
  refine wpAny_bind (wpAny_seqItems hol hdl ?_)
  simp only [Int.toNat_natCast, hx]
  refine wpAny_bind (wpAny_rule (wpAny_bind (wpAny_setField ho hd (by simp) ?_)))
  show wpAny _ _ (newExc (.type "StopIteration") [] >>= _) _ _ _
  simp only [newExc, newTuple, raiseNew]
  refine wpAny_bind (wpAny_bind (wpAny_newObj_type ?_ (by size_fits)))
  refine wpAny_bind (m := firstArgMember _ _) (wpAny_of_eq (a := Value.none) (by first | rfl | (simp only [firstArgMember]; rfl)) ?_)
  refine wpAny_newObj_type (wpAny_bind (wpAny_handled ?_)) (by size_fits)
  rw [show A.in1.handled = none from hh]
  refine wpAny_bind (wpAny_pure (wpAny_throw ?_))
  refine wpAny_bind (wpAny_isInstance (T := "StopIteration") (b := true) ⟨_, Heap.get?_push_size _ rfl, rfl⟩ isSubtype_stop ?_)
  exact wpAny_pure (hQ _ (((Heap.SameBut.update ..).extBut.push _).push _))

theorem walks_acc {prog : Program} {w : World} {A : Around} (hh : A.handled = none) (I x : Addr) (hne : x ≠ I) (items : Array Value) (Ts : Nat → Addr) (vals : Nat → Array Value)
    (hit : ∀ j, j < items.size → items[j]? = some (.ref (Ts j))) (hTI : ∀ j, j < items.size → Ts j ≠ I) :
    WalksU prog w A I (I :: x :: (List.range items.size).map Ts) [I] items.size (fun j v => v = vals j)
      (fun j h => h.IsListIter I x j ∧ IsL h x items ∧ ∀ k, k < items.size → h.IsTuple (Ts k) (vals k))
      (fun j T h => (j < items.size ∧ T = Ts j) ∧ h.IsListIter I x (j + 1) ∧ IsL h x items ∧ ∀ k, k < items.size → h.IsTuple (Ts k) (vals k)) where
  sub := fun b hb => by simp at hb; simp [hb]
  frame := fun _ h h' st hk => ⟨st.1.at fun o e => hk I (by simp) o e, st.2.1.to fun o e => hk x (by simp) o e,
    fun k hk' => (st.2.2 k hk').at fun o e => hk (Ts k) (List.mem_cons_of_mem _ (List.mem_cons_of_mem _ (List.mem_map.mpr ⟨k, List.mem_range.mpr hk', rfl⟩))) o e⟩
  item := fun i s Q E hi st hQ => by
    refine next_item st.1 st.2.1 (hit i hi) fun h' hit' hs' => ?_
    have tup : ∀ k, k < items.size → h'.IsTuple (Ts k) (vals k) := fun k hk' => (st.2.2 k hk').extBut hs'.extBut (hTI k hk')
    exact hQ (Ts i) (vals i) h' s.toks rfl (tup i hi) ⟨⟨hi, rfl⟩, hit', st.2.1.to fun o e => hs'.extBut x o hne e, tup⟩ fun b o hb e => hs'.extBut b o (fun h => hb (by simp [h])) e
  go := fun _ _ _ _ _ s Q _ hm hQ => wpAny_letOwnedTupleGo_listiter hm.2.1 (hQ s.heap hm.2 fun _ _ _ e => e)
  apart := fun j T _ hm hmem => hTI j hm.1.1 (hm.1.2 ▸ List.mem_singleton.mp hmem)
  done := fun s Q E st hQ => next_end hh st.1 st.2.1 (by simp) fun h' he' => hQ h' s.toks fun b o hb e => he' b o (fun h => hb (by simp [h])) e
  self := fun _ _ _ _ st hQ => wpAny_pyIter_listiter st.1 hQ

/- iter() upon a thing of the own list class -/
theorem acc_iter {K : Frag} {x C : Addr} {ox : Obj} {od : Option Obj} {Q : Value → Shared → Prop} (X : K.In s.heap) (I : InstAt s.heap x ox C od) (hf : findIn K (.ref C) "__iter__" = some (some (.builtin "list.__iter__"))) (hm : mroIn K C (.type "list") = some true)
    (hQ : Q (.ref s.heap.objs.size) { s with heap := s.heap.push { cls := .type "list_iterator", data := .fields #[.ref x, .int 0 0] } }) : wpAny (model prog w) A (pyIter (.ref x)) Q E s := by
  have L0 := I.type (M := model prog w)
  have L1 := looks_findIn (M := model prog w) X hf
  unfold pyIter specialOf
  refine wpAny_bind (wpAny_bind (L0.here (L1.here ?_)))
  dsimp only
  unfold callSpecialIfBoundUnlessNone? bindSpecialIfBound? specialOf
  refine wpAny_bind (wpAny_holding (wpAny_bind (wpAny_bind (wpAny_bind (L0.here (L1.here ?_))))))
  have hb : bindSpecial (.builtin "list.__iter__") (.ref x) = pure (.builtin "list.__iter__", [.ref x]) := by
    simp only [bindSpecial, typeOf]
    rfl
  have fin : ∀ Q' : Value → Shared → Prop, Q' (.ref s.heap.objs.size) { s with heap := s.heap.push { cls := .type "list_iterator", data := .fields #[.ref x, .int 0 0] } } → wpAny (model prog w) A (call (.builtin "list.__iter__") [.ref x]) Q' E s := fun Q' h' => by
    refine sub_call (nm := "__iter__") (looks_inst X I hm) entry_list_iter (args_list_iter _) ?_
    show wpAny _ _ (do ret (← newFields "list_iterator" [.ref x, rawInt 0])) _ _ s
    exact wpAny_bind (wpAny_newObj_type (wpAny_pure ⟨_, rfl, h'⟩))
  have out : wpAny (model prog w) A (specialOf (.ref s.heap.objs.size) "__next__") (fun r s' => r = some (.builtin "list_iterator.__next__") ∧ s' = { s with heap := s.heap.push { cls := .type "list_iterator", data := .fields #[.ref x, .int 0 0] } }) E { s with heap := s.heap.push { cls := .type "list_iterator", data := .fields #[.ref x, .int 0 0] } } :=
    wpAny_specialOf (T := "list_iterator") ⟨_, Heap.get?_push_size _ rfl, rfl⟩ slot_listiter_next.lookup ⟨rfl, rfl⟩
  dsimp only
  rw [hb]
  refine wpAny_bind (wpAny_askSetting (wpAny_ite ?_))
  split
  · refine wpAny_bind (wpAny_pure (wpAny_pure (wpAny_bind (fin _ (wpAny_pure (wpAny_bind (wpAny_mono out (fun r s' h => ?_) fun _ _ e => e)))))))
    obtain ⟨rfl, rfl⟩ := h
    exact wpAny_pure hQ
  · refine wpAny_tryCatch (wpAny_bind (wpAny_pure (wpAny_pure (wpAny_bind (fin _ (wpAny_pure (wpAny_bind (wpAny_mono out (fun r s' h => ?_) fun _ _ e => e))))))))
    obtain ⟨rfl, rfl⟩ := h
    exact wpAny_pure hQ
end
theorem acc_get_own {prog : Program} {w : World} {A : Around} {E : Value → Shared → Prop} {s : Shared} {K : Frag} {x C : Addr} {ox : Obj} {es : List DictEntry} {n : Nat} {name : Str} {v : Value} {attr : Option Value} {expr : Bool} {Q : Value → Shared → Prop}
    (X : K.In s.heap) (I : InstAt s.heap x ox C (some (dictOf es n))) (hga : findIn K (.ref C) "__getattribute__" = some (some (.builtin "list.__getattribute__"))) (hk : findIn K (.ref C) "__getattr__" = some none)
    (hm : mroIn K C (.type "list") = some true) (hh : hasDictIn K C = true) (ha : findIn K (.ref C) name = some attr) (hn : noGet K attr = true) (hl : getL name es = some (some v)) (hv : handedIn v = true) (h : Q v { s with toks := s.toks + 1 }) :
    wpAny (model prog w) A (getAttr (.ref x) name expr) Q E s := acc_getattr X I hga hk hm (findObj_own hh ha hn hl) hv h
end Mine
end
section
open PySem PySem.W PyProof.Rows PySem.Calls PySem.Spec
set_option maxRecDepth 100000
set_option maxHeartbeats 8000000
set_option pp.deepTerms false
set_option pp.maxSteps 20000
namespace Mine
/- one thing of the own list: a pair of two texts -/
structure It where
  t : Addr
  f : Str
  tf : Tok
  p : Str
  tp : Tok
noncomputable abbrev It.ref (i : It) : Value := .ref i.t
noncomputable abbrev It.val (i : It) : Array Value := #[.str i.f i.tf, .str i.p i.tp]
noncomputable abbrev It.obj (i : It) : Obj := { cls := .type "tuple", data := .seq i.val }
noncomputable def ItemsAt (h : Heap) (l : List It) : Prop := ∀ i ∈ l, h.get? i.t = some i.obj
theorem ItemsAt.to {h h' : Heap} {l : List It} (x : ItemsAt h l) (k : ∀ i ∈ l, ∀ o, h.get? i.t = some o → h'.get? i.t = some o) : ItemsAt h' l := fun i hi => k i hi _ (x i hi)

theorem all_passing (n : Nat) : passing (fun _ => true) n 0 = List.range n := by
  unfold passing
  simp

theorem walksS_mono {prog : Program} {w : World} {A : Around} {I : Addr} {fp wr : List Addr} {G : Array GenState → Array GenState → Prop} {n : Nat} {P P' : Nat → Value → Prop} {St : Nat → Shared → Prop}
    (W : WalksS prog w A I fp wr G n P St) (h : ∀ i v, P i v → P' i v) : WalksS prog w A I fp wr G n P' St where
  sub := W.sub
  grefl := W.grefl
  gtrans := W.gtrans
  frame := W.frame
  item := fun i s Q E hi st hQ => W.item i s Q E hi st fun v s' hP => hQ v s' (h i v hP)
  done := W.done
  self := W.self
theorem genexpr_any {M : Model} {A : Around} {E : Value → Shared → Prop} {s : Shared} {env : Env} {c P : Addr} {ps : Array Value} {pos : Pos} {qualname : Str} {scope : Scope} {Q : Value → Shared → Prop} (hc : env.code = .ref c) (hok : CodeT s.heap c P ps)
    (hQ : ∀ code h' tk ps', Heap.ExtBut P s.heap h' → CodeT h' c P ps' → Q code { s with heap := h', toks := tk }) : wpAny M A (genexprCode env pos qualname scope) Q E s := by
  cases hf : codeAmong pos ps.toList with
  | none => exact wpAny_genexprCodeX hc hok.1 hok.2 hf fun c' h' tk hx _ _ hi _ ht _ => hQ _ h' tk _ hx ⟨hi, ht⟩
  | some c' => exact wpAny_genexprCode_hit hc hok.1 hf (hQ c' s.heap s.toks ps (fun _ _ _ e => e) hok)
/- what a generator over the own list is, once made -/
noncomputable def GenR (w : World) (A : Around) (c P : Addr) (F : Nat → Value → Prop) (n : Nat) (s : Shared) (a : Addr) (s' : Shared) : Prop :=
  ∃ fp wr g St, WalksS pw w A.in4 a fp wr (GenOnlyQ g) n F St ∧ St 0 s' ∧ (∀ i s', St i s' → s'.TypeIs (.ref a) "generator") ∧ a ∈ fp ∧ (∀ b ∈ fp, b < s'.heap.objs.size) ∧ (∀ b ∈ wr, s.heap.get? b = none) ∧
    But [P] s.heap s'.heap ∧ (∃ ps, CodeT s'.heap c P ps) ∧ AllBare s'.gens ∧ s'.drawn = s.drawn ∧ s'.os = s.os ∧ (∃ o, s.heap.get? P = some o) ∧ ∃ o, s.heap.get? c = some o
theorem GenR.toks {w : World} {A : Around} {c P : Addr} {F : Nat → Value → Prop} {n : Nat} {s : Shared} {a : Addr} {s' : Shared} (x : GenR w A c P F n s a s') {tk : Nat} (h : s'.toks ≤ tk) : GenR w A c P F n s a { s' with toks := tk } := by
  obtain ⟨fp, wr, g, St, W, st, r⟩ := x
  exact ⟨fp, wr, g, St, W, W.frame 0 s' s'.heap tk st h fun _ _ _ e => e, r⟩
/- behind its last turn -/
theorem gen_moved {c P : Addr} {s : Shared} {s' : Shared} {Q : Shared → Prop} {wr : List Addr} {g : Nat} {s'' : Shared}
    (hw : ∀ b ∈ wr, s.heap.get? b = none) (b1 : But [P] s.heap s'.heap) (c1 : ∃ ps, CodeT s'.heap c P ps) (gb : AllBare s'.gens) (d : s'.drawn = s.drawn) (o : s'.os = s.os) (p1 : ∃ o, s.heap.get? P = some o) (p2 : ∃ o, s.heap.get? c = some o)
    (hm : Moved wr (GenOnlyQ g) s' s'') (h : ∀ h' gn tk, But [P] s.heap h' → (∃ ps, CodeT h' c P ps) → AllBare gn → Q { s with heap := h', gens := gn, toks := tk }) : Q s'' := by
  obtain ⟨h2, g2, d2, t2, o2⟩ := s''
  have e1 : d2 = s.drawn := hm.drawn.trans d
  have e2 : o2 = s.os := hm.os.trans o
  subst e1 e2
  have nw : ∀ b o, s.heap.get? b = some o → b ∉ wr := fun b o e hb => by rw [hw b hb] at e; cases e
  refine h _ _ _ (fun b ob hb e => hm.heap b ob (nw b ob e) (b1 b ob hb e)) ?_ (gb.moved hm.gens)
  obtain ⟨ps, hc⟩ := c1
  obtain ⟨oP, p1⟩ := p1
  obtain ⟨oc, p2⟩ := p2
  refine ⟨ps, ?_⟩
  obtain ⟨⟨o, vs, file, tf, flags, tg, inF, text, tt, op, a, r1, r2, r3, r4, r5, r6, b, r⟩, ⟨⟨ov, vv, ev, rv⟩, et⟩⟩ := hc
  exact ⟨⟨o, vs, file, tf, flags, tg, inF, text, tt, op, hm.heap _ _ (nw _ _ p2) a, r1, r2, r3, r4, r5, r6, hm.heap _ _ (nw _ _ p1) b, r⟩, ⟨⟨ov, vv, hm.heap _ _ (nw _ _ p2) ev, rv⟩, hm.heap _ _ (nw _ _ p1) et⟩⟩

section
variable {w : World} {A : Around} {E : Value → Shared → Prop} {s : Shared}
theorem gen_acc {g : Heap} {L x dx c P : Addr} {m mg mb : Str → Option Value} {l : List It} {n : Nat} {od : Obj} {env : Env} {elt : Expr} {self xa xb : Str} {sp pa pb pt : Pos} {kt : Nat} {scope : Scope} {pos : Pos} {Q : Value → Shared → Prop} {ps : Array Value} (F : Nat → Value → Prop)
    (Fg : Fr g L s.heap m) (X : (K9 w.params).In g) (T : TopRead view lo mg mb g) (M : ∃ bm ob, BMod g mainGlobals mg bm ob) (hP : g.get? P = none) (hcg : ∃ o, g.get? c = some o)
    (hx : s.heap.get? x = some (accO dx (l.map It.ref) n)) (hdx : s.heap.get? dx = some od) (hit : ItemsAt s.heap l) (hfi : findIn (K9 w.params) (.ref 214) "__iter__" = some (some (.builtin "list.__iter__"))) (hfm : mroIn (K9 w.params) 214 (.type "list") = some true)
    (hev : ∀ Q : Value → Shared → Prop, Q (.ref x) s → wpAny (model pw w) A (eval (.Name self sp) env) Q E s) (hgl : env.globals = mainGlobals) (hcode : env.code = .ref c) (hok : CodeT s.heap c P ps) (hgb : AllBare s.gens)
    (hh : A.handled = none) (hco : scope.isCoroutine = false) (hclos : closureFor scope env = pure []) (hcell : ∀ y ∈ scope.names, y.2 ≠ .cell) (h0 : scope.names.lookup (".0" : Str) = some NameKind.local)
    (hxa : scope.names.lookup xa = some .local) (hxb : scope.names.lookup xb = some .local) (hab : xa ≠ xb) (hkind : scope.kind = .function) (hroom : A.depth < recursionLimit)
    (helt : ∀ (A' : Around) E' i (s₂ : Shared) m₂ code C (hi : i < l.length), A'.handled = none → s₂.heap.Ns C m₂ → m₂ xa = some (.str l[i].f l[i].tf) → m₂ xb = some (.str l[i].p l[i].tp) → TopRead view lo mg mb s₂.heap →
      wpAny (model pw w) A' (eval elt (genEnv scope [] C code builtinsNs env)) (fun y s₃ => F i y ∧ Keeps s₂ s₃) E' s₂)
    (hQ : ∀ a s', GenR w A c P F l.length s a s' → Q (.ref a) s') :
    wpAny (model pw w) A (eval (.GeneratorExp elt [⟨.Tuple [.Name xa pa, .Name xb pb] kt pt, .Name self sp, [], 0⟩] scope pos) env) Q E s := by
  obtain ⟨bm, ob, M⟩ := M
  have X' := X.keeps Fg.keep
  have hPs : P < s.heap.objs.size := hok.1.lt.2
  have hcs : c < s.heap.objs.size := hok.1.lt.1
  have hxs : x < s.heap.objs.size := Heap.lt_size hx
  have hts : ∀ i ∈ l, i.t < s.heap.objs.size := fun i hi => Heap.lt_size (hit i hi)
  have hop : ∃ op, s.heap.get? P = some op ∧ ∃ ps, op.data = .fields ps := ⟨_, hok.2.2, ps, rfl⟩
  have hxP : x ≠ P := by
    rintro rfl
    obtain ⟨op, h1, ps', h2⟩ := hop
    rw [hx] at h1; cases h1; cases h2
  have htP : ∀ i ∈ l, i.t ≠ P := fun i hi e => by
    obtain ⟨op, h1, ps', h2⟩ := hop
    have := hit i hi
    rw [e, h1] at this; cases this; cases h2
  refine wpAny_GeneratorExp_walksQT (cl := []) hh hco hclos hcell h0 hxa hxb hab hkind hroom (hev _ ?_) (fun x => by rfl)
  have I₀ : InstAt s.heap x (accO dx (l.map It.ref) n) 214 (some od) := ⟨hx, rfl, rfl, hdx⟩
  refine acc_iter X' I₀ hfi hfm ?_
  generalize hs₂ : s.heap.push { cls := .type "list_iterator", data := .fields #[.ref x, .int 0 0] } = h₂
  have k₂ : ∀ b o, s.heap.get? b = some o → h₂.get? b = some o := fun b o e => hs₂ ▸ Heap.get?_push_of_some _ e
  have sz₂ : h₂.objs.size = s.heap.objs.size + 1 := by rw [← hs₂]; exact Heap.size_push ..
  have it₂ : h₂.get? s.heap.objs.size = some { cls := .type "list_iterator", data := .fields #[.ref x, .int 0 0] } := hs₂ ▸ Heap.get?_push_size _ rfl
  refine ⟨(T.nolimit.keeps Fg.keep).keeps k₂, genexpr_any hcode ⟨hok.1.keeps k₂, hok.2.keeps k₂⟩ fun code h₃ tk₃ ps₃ hx₃ hc₃ => ?_⟩
  have k₃ : ∀ b o, g.get? b = some o → h₃.get? b = some o := fun b o e => hx₃ b o (fun hb => by rw [hb, hP] at e; cases e) (k₂ b o (Fg.keep b o e))
  have M₃ := M.keeps k₃
  refine wpAny_builtinsFor (hgl ▸ M₃.ns) M₃.name M₃.ne M₃.obj M₃.cls M₃.dict M₃.data ?_
  have hsI : s.heap.objs.size ≠ P := fun e => Nat.lt_irrefl _ (e ▸ hPs)
  have gI : g.get? s.heap.objs.size = none := by
    cases e : g.get? s.heap.objs.size with
    | none => rfl
    | some o => exact absurd (Heap.lt_size (Fg.keep _ _ e)) (Nat.lt_irrefl _)
  have it₃ : h₃.get? s.heap.objs.size = some { cls := .type "list_iterator", data := .fields #[.ref x, .int 0 0] } := hx₃ _ _ hsI it₂
  have sx₃ : h₃.get? x = some (accO dx (l.map It.ref) n) := hx₃ _ _ hxP (k₂ _ _ hx)
  have hit₃ : ItemsAt h₃ l := hit.to fun i hi o e => hx₃ _ _ (htP i hi) (k₂ _ _ e)
  have nol : h₃.NoLimit := T.nolimit.keeps k₃
  have hTs : ∀ j, j < (l.map It.ref).toArray.size → ∃ hj : j < l.length, (l[j]?.map (·.t)).getD 0 = l[j].t ∧ (l[j]?.map It.val).getD #[] = l[j].val := fun j hj => by
    have hj' : j < l.length := by simpa using hj
    exact ⟨hj', by simp [hj'], by simp [hj']⟩
  have lsz : (l.map It.ref).toArray.size = l.length := by simp
  have W₀ := fun (A' : Around) (hA' : A'.handled = none) => (walks_acc (prog := pw) (w := w) hA' s.heap.objs.size x (Nat.ne_of_lt hxs) (l.map It.ref).toArray (fun j => (l[j]?.map (·.t)).getD 0) (fun j => (l[j]?.map It.val).getD #[]) (by
      intro j hj
      obtain ⟨hj', e1, _⟩ := hTs j hj
      rw [e1]; simp [hj']) (by
      intro j hj
      obtain ⟨hj', e1, _⟩ := hTs j hj
      show (l[j]?.map (·.t)).getD 0 ≠ _
      rw [e1]
      exact Nat.ne_of_lt (hts _ (List.getElem_mem hj')))).bound
  refine ⟨s.heap.objs.size, _, _, _, _, _, _, fun _ => true, F, rfl, W₀, ?_, ⟨⟨_, it₃, rfl, rfl⟩, ⟨_, sx₃, _, rfl⟩, ?_⟩, ?_, nol, ?_, ?_, ?_⟩
  · intro i vals hv
    obtain ⟨hi, rfl⟩ := hv
    obtain ⟨hj', _, e2⟩ := hTs i hi
    exact ⟨_, _, e2⟩
  · intro k hk
    obtain ⟨hj', e1, e2⟩ := hTs k hk
    dsimp only
    rw [e1, e2]
    exact ⟨_, hit₃ _ (List.getElem_mem hj'), rfl, _, rfl⟩
  · intro b hb
    simp only [List.mem_cons, List.mem_map, List.mem_range] at hb
    rcases hb with rfl | rfl | ⟨j, hj, rfl⟩
    · exact Heap.lt_size it₃
    · exact Heap.lt_size sx₃
    · obtain ⟨hj', e1, _⟩ := hTs j hj
      dsimp only
      rw [e1]
      exact Heap.lt_size (hit₃ _ (List.getElem_mem hj'))
  · intro hm
    have hm := List.mem_singleton.mp hm
    obtain ⟨mc, ⟨o, _, _, ho, _⟩, _⟩ := T.nolimit
    rw [hm, gI] at ho; cases ho
  · intro href hhref
    refine ⟨fun A' E' i va vb s₂ m₂ hA' hP' hns h1 h2 hkp => ?_, fun A' E' i va vb s₂ m₂ hA' hP' _ hns h1 h2 hkp => ?_⟩
    · simp only [List.forIn_nil]
      exact wpAny_pure ⟨rfl, s₂.heap, s₂.toks, rfl, fun _ _ e => e⟩
    · obtain ⟨hi, hv⟩ := hP'
      obtain ⟨hj', _, e2⟩ := hTs i hi
      rw [e2] at hv
      obtain ⟨rfl, rfl⟩ : va = _ ∧ vb = _ := by
        have := congrArg Array.toList hv
        simpa using this
      refine helt A' E' i s₂ m₂ code _ hj' hA' hns h1 h2 (T.keeps fun b o e => ?_)
      have e3 := k₃ b o e
      refine hkp b (List.mem_range.mpr (Heap.lt_size e3)) (fun hm => ?_) o (hhref b o e3)
      rw [List.mem_singleton.mp hm, gI] at e; cases e
  · intro a h₅ tk gs hgs hlt hsz hk₅ W hat
    rw [all_passing, List.length_range, lsz] at W
    rw [lsz] at hat
    have W' := walksS_mono (P' := F) W (fun j y hj => by
      obtain ⟨i, hi, hF⟩ := hj
      rw [List.getElem?_range] at hi
      · cases hi; exact hF
      · by_cases hj : j < l.length
        · exact hj
        · rw [List.getElem?_eq_none (by simpa using hj)] at hi; cases hi)
    have kb : ∀ b o, b ≠ P → s.heap.get? b = some o → h₅.get? b = some o := fun b o hb e => hk₅ b o (hx₃ b o hb (k₂ b o e))
    obtain ⟨op, hop, _, _⟩ := hop
    have hPc : h₃.get? P ≠ none := by
      rw [hc₃.2.2]; exact fun e => nomatch e
    refine hQ a _ ⟨_, _, _, _, W', hat, (fun i s' st => st.1.typeIs), List.mem_cons_self, ?_, ?_, fun b o hb e => kb b o (fun e' => hb (e' ▸ List.mem_singleton.mpr rfl)) e, ⟨_, hc₃.1.keeps hk₅, hc₃.2.keeps hk₅⟩, hgb.push hgs, rfl, rfl, ⟨_, hop⟩, ?_⟩
    · intro b hb
      show b < h₅.objs.size
      rw [hsz]
      rcases List.mem_cons.mp hb with rfl | hb
      · exact Nat.lt_succ_self _
      · rcases List.mem_cons.mp hb with rfl | hb
        · exact Nat.lt_succ_of_lt hlt
        · exact Nat.lt_succ_of_lt (Nat.lt_trans (List.mem_range.mp hb) hlt)
    · intro b hb
      rcases List.mem_cons.mp hb with rfl | hb
      · cases e : s.heap.get? h₃.objs.size with
        | none => rfl
        | some o =>
          by_cases he : h₃.objs.size = P
          · cases e' : h₃.get? P with
            | none => exact absurd e' hPc
            | some o' => exact absurd (Heap.lt_size e') (by rw [he]; exact Nat.lt_irrefl _)
          · exact absurd (Heap.lt_size (hx₃ _ _ he (k₂ _ _ e))) (Nat.lt_irrefl _)
      · rw [List.mem_singleton.mp hb]
        cases e : s.heap.get? s.heap.objs.size with
        | none => rfl
        | some o => exact absurd (Heap.lt_size e) (Nat.lt_irrefl _)
    · obtain ⟨⟨o, _, a', _⟩, _⟩ := hok.2
      exact ⟨o, a'⟩
end
end Mine
end
section
open PySem PySem.W PyProof.Rows PySem.Calls PySem.Spec
set_option maxRecDepth 100000
set_option maxHeartbeats 8000000
set_option pp.deepTerms false
set_option pp.maxSteps 20000
namespace Mine
theorem args_sum2 (a b : Value) : argsOk "sum" ⟨[a, b], []⟩ := by unfold argsOk; kernel_rfl
section
variable {w : World} {A : Around} {E : Value → Shared → Prop} {s s' : Shared}
theorem sum_gen {a c P : Addr} {n : Nat} {val : Nat → Int} {t0 : Tok} {Q : Value → Shared → Prop} (G : GenR w A c P (fun i y => ∃ t, y = .int (val i) t) n s a s') (hfit : ∀ j, j < n → InLong (val j) ∧ InLong (preSum val (j + 1)))
    (h : ∀ h' gn tk t', But [P] s.heap h' → (∃ ps, CodeT h' c P ps) → AllBare gn → Q (.int (preSum val n) t') { s with heap := h', gens := gn, toks := tk }) :
    wpAny (model pw w) A (call (.builtin "sum") [.ref a, .int 0 t0]) Q E s' := by
  obtain ⟨fp, wr, g, St, W, st, _, _, hfp, hwr, b1, c1, gb, d, o, p1, p2⟩ := G
  have W1 := W.in4_1
  refine call_function_tree F.kind_sum F.plain_sum F.entry_sum (args_sum2 _ _) ?_
  unfold Builtin.«sum»
  simp only [List.length_cons, List.length_nil]
  rw [if_neg (by decide)]
  refine wpAny_bind (wpAny_of_eq (show Builtin.Builtins.bindParams "sum" ["start"] 0 ⟨[.int 0 t0], []⟩ = pure [some (.int 0 t0)] from rfl) ?_)
  refine wpAny_bind (W1.self 0 s' _ _ st ?_)
  refine wpAny_bind ?_
  refine wpAny_rule (wpAny_bind (wpAny_mkInt (wpAny_bind (wpAny_pure ?_))))
  simp only [List.forIn_cons, List.forIn_nil]
  refine wpAny_bind (wpAny_bind (wpAny_bind (wpAny_isInstance (T := "int") (b := false) (typeIs_int _ _ _) PySem.sub_int_str ?_)))
  simp only [Bool.false_eq_true, if_false]
  refine wpAny_pure (wpAny_bind (wpAny_bind (wpAny_isInstance (T := "int") (b := false) (typeIs_int _ _ _) PySem.sub_int_bytes ?_)))
  simp only [Bool.false_eq_true, if_false]
  refine wpAny_pure (wpAny_bind (wpAny_bind (wpAny_isInstance (T := "int") (b := false) (typeIs_int _ _ _) PySem.sub_int_bytearray ?_)))
  simp only [Bool.false_eq_true, if_false]
  refine wpAny_pure (wpAny_pure ?_)
  refine wpAny_bind (wpAny_newObj_type ?_)
  have hSf : s'.heap.objs.size ∉ fp := fun hm => Nat.lt_irrefl _ (hfp _ hm)
  refine wpAny_pure ⟨plainId_quiet F.plain_sum_loop _, codeAny_sum_loopS W1 val (fun _ _ e => e) hfit s'.heap.objs.size hSf n 0 _ s'.toks 0 rfl (Nat.zero_le _)
    (W1.frame 0 s' _ _ st (Nat.le_succ _) fun b _ o e => Heap.get?_push_of_some _ e) (Heap.get?_push_size _ rfl) fun s'' t' hm => ?_⟩
  exact gen_moved (Q := Q _) hwr b1 c1 gb d o p1 p2 (hm.drop_new (Nat.le_succ _)) fun h' gn tk x y z => h h' gn tk t' x y z

theorem join_gen {a c P : Addr} {n : Nat} {tx : Nat → Str} {sep : Str} {t0 : Tok} {Q : Value → Shared → Prop} (G : GenR w A c P (fun i y => ∃ t, y = .str (tx i) t) n s a s') (hok : JoinOk sep ((List.range n).map tx) = true)
    (h : ∀ h' gn tk t', But [P] s.heap h' → (∃ ps, CodeT h' c P ps) → AllBare gn → Q (.str (Txt.join sep ((List.range n).map tx)) t') { s with heap := h', gens := gn, toks := tk }) (hsz : n ≤ sizeLine) :
    wpAny (model pw w) A (call (.builtin "str.join") [.str sep t0, .ref a]) Q E s' := by
  obtain ⟨fp, wr, g, St, W, st, hT, ha, hfp, hwr, b1, c1, gb, d, o, p1, p2⟩ := G
  have W := W.in4_2
  refine SC.joinGen W hT st hfp ha (fun j v hv => let ⟨u, e⟩ := hv; ⟨_, u, e⟩) (fun s'' lt hm hacc => ?_) hsz
  have hl : lt.map (·.1) = (List.range n).map tx := by
    apply List.ext_getElem?
    intro j
    have hsz : lt.length = n := by simpa [strValues] using hacc.1
    by_cases hj : j < n
    · have hj' : j < lt.length := hsz ▸ hj
      obtain ⟨u, hv⟩ := hacc.2 j (.str lt[j].1 lt[j].2) (by simp [strValues, List.getElem?_eq_getElem hj'])
      injection hv with h1 _
      simp [List.getElem?_eq_getElem hj', hj, h1]
    · rw [List.getElem?_eq_none (by simpa [hsz] using Nat.le_of_not_lt hj), List.getElem?_eq_none (by simpa using Nat.le_of_not_lt hj)]
  rw [hl]
  refine ⟨hok, fun t' k => ?_⟩
  exact gen_moved (Q := fun z => Q (.str (Txt.join sep ((List.range n).map tx)) t') { z with toks := k }) hwr b1 c1 gb d o p1 p2 hm fun h' gn tk x y z => h h' gn k t' x y z
end
end Mine
end
section
open PySem PySem.W PyProof.Rows PySem.Calls PySem.Spec
set_option maxRecDepth 100000
set_option maxHeartbeats 8000000
set_option pp.deepTerms false
set_option pp.maxSteps 20000
namespace Mine
theorem dummyL4 : True := by
  k_with_none
  w_top off
  trivial
theorem Keeps.rf {s : Shared} {tk : Nat} : Keeps s { s with toks := tk } := ⟨s.heap, tk, rfl, fun _ _ e => e⟩
section
variable {w : World} {A' : Around} {E' : Value → Shared → Prop} {s₂ : Shared}
theorem elt_len {mg mb : Str → Option Value} {cenv : Env} {m₂ : Str → Option Value} {f p : Str} {tf tp : Tok} {p1 p2 p3 p4 p5 p6 p7 : Pos} {v : Int}
    (hns : s₂.heap.Ns cenv.locals m₂) (h1 : m₂ "fws" = some (.str f tf)) (h2 : m₂ "part" = some (.str p tp)) (T : TopRead view lo mg mb s₂.heap) (hmg : mg "len" = none)
    (hk : cenv.scope.kind = .function) (k1 : cenv.kindOf "fws" = some .local) (k2 : cenv.kindOf "part" = some .local) (k3 : cenv.kindOf "len" = some .globalImplicit) (hg : cenv.globals = mainGlobals) (hb : cenv.builtins = builtinsNs)
    (hf : f.length ≤ 100) (hp : p.length ≤ 100) (hv : v = f.length + p.length) :
    wpAny (model pw w) A' (eval (.BinOp (.Call (.Name "len" p1) [.Name "fws" p2] [] p3) .Add (.Call (.Name "len" p4) [.Name "part" p5] [] p6) p7) cenv) (fun y s₃ => (∃ t, y = .int v t) ∧ Keeps s₂ s₃) E' s₂ := by
  have hbl : mb "len" = some (.builtin "len") := (T.builtins "len" (by decide)).trans (by boot_fast)
  refine wpAny_BinOp (Call_Name1 ?_)
  refine Name_function_global hk k3 (loadGlobal_builtin (hg ▸ T.g) hmg (hb ▸ T.b) hbl ?_)
  refine callWith_builtin1 (wpAny_Name (wpAny_loadName_local hk k1 hns h1 ?_))
  refine len_str (by (first | lia | omega)) ?_
  refine Call_Name1 (Name_function_global hk k3 (loadGlobal_builtin (hg ▸ T.g) hmg (hb ▸ T.b) hbl ?_))
  refine callWith_builtin1 (wpAny_Name (wpAny_loadName_local hk k2 hns h2 ?_))
  refine len_str (by (first | lia | omega)) ?_
  exact wpAny_add_int ⟨⟨_, by rw [hv]⟩, Keeps.rf⟩
end
end Mine
end
section
open PySem PySem.W PyProof.Rows PySem.Calls PySem.Spec
set_option maxRecDepth 100000
set_option maxHeartbeats 8000000
set_option pp.deepTerms false
set_option pp.maxSteps 20000
namespace Mine
theorem dummyL5 : True := by
  k_with_none
  w_top off
  k_with "lt8" => with_reducible first | assumption | exact And.left (by assumption) | exact And.left (And.right (by assumption)) | exact And.left (And.right (And.right (by assumption))) | exact And.left (And.right (And.right (And.right (by assumption)))) | exact And.left (And.right (And.right (And.right (And.right (by assumption))))) | exact And.left (And.right (And.right (And.right (And.right (And.right (by assumption)))))) | exact And.left (And.right (And.right (And.right (And.right (And.right (And.right (by assumption))))))) | exact And.left (And.right (And.right (And.right (And.right (And.right (And.right (And.right (by assumption)))))))) | exact And.left (And.right (And.right (And.right (And.right (And.right (And.right (And.right (And.right (by assumption))))))))) | exact And.left (And.right (And.right (And.right (And.right (And.right (And.right (And.right (And.right (And.right (by assumption)))))))))) | exact And.left (And.right (And.right (And.right (And.right (And.right (And.right (And.right (And.right (And.right (And.right (by assumption))))))))))) | exact And.left (And.right (And.right (And.right (And.right (And.right (And.right (And.right (And.right (And.right (And.right (And.right (by assumption)))))))))))) | exact And.left (And.right (And.right (And.right (And.right (And.right (And.right (And.right (And.right (And.right (And.right (And.right (And.right (by assumption)))))))))))))
  k_with "lt9" => first | exact Nat.ne_of_lt (by walk_at "lt8") | exact Nat.ne_of_gt (by walk_at "lt8")
  trivial
theorem withL5x1 : True := by
  k_with_none
  w_top off
  k_with "lt8" => with_reducible first | assumption | exact And.left (by assumption) | exact And.left (And.right (by assumption)) | exact And.left (And.right (And.right (by assumption))) | exact And.left (And.right (And.right (And.right (by assumption)))) | exact And.left (And.right (And.right (And.right (And.right (by assumption))))) | exact And.left (And.right (And.right (And.right (And.right (And.right (by assumption)))))) | exact And.left (And.right (And.right (And.right (And.right (And.right (And.right (by assumption))))))) | exact And.left (And.right (And.right (And.right (And.right (And.right (And.right (And.right (by assumption)))))))) | exact And.left (And.right (And.right (And.right (And.right (And.right (And.right (And.right (And.right (by assumption))))))))) | exact And.left (And.right (And.right (And.right (And.right (And.right (And.right (And.right (And.right (And.right (by assumption)))))))))) | exact And.left (And.right (And.right (And.right (And.right (And.right (And.right (And.right (And.right (And.right (And.right (by assumption))))))))))) | exact And.left (And.right (And.right (And.right (And.right (And.right (And.right (And.right (And.right (And.right (And.right (And.right (by assumption)))))))))))) | exact And.left (And.right (And.right (And.right (And.right (And.right (And.right (And.right (And.right (And.right (And.right (And.right (And.right (by assumption)))))))))))))
  k_with "lt9" => first | exact Nat.ne_of_lt (by walk_at "lt8") | exact Nat.ne_of_gt (by walk_at "lt8")
  k_with "k_inst" => (refine' acc_inst ?kw9N ?kw9h1 ?kw9h2; (case kw9N => k_asm); (case kw9h1 => k_mem); (case kw9h2 => k_mem))
  k_with "getMethod ref" => (k_here; k_dflt (refine' acc_method ?kw9k2 ?kw9k3 ?kw9k4 ?kw9k5 ?kw9k6 ?kw9k7 ?kw9k8 ?_ ?kw9k9; (case kw9k2 => k_in); (case kw9k3 => k_inst); (case kw9k4 => k_is); (case kw9k5 => k_is); (case kw9k6 => k_is); (case kw9k7 => k_is); (case kw9k8 => k_get); (case kw9k9 => decide +kernel); k_whole))
  k_with "getAttr ref" => (k_here; k_dflt (refine' acc_get_own ?kw9k1 ?kw9k2 ?kw9k3 ?kw9k4 ?kw9k5 ?kw9k6 ?kw9k7 ?kw9k8 ?kw9k9 ?kw9k10 ?_; (case kw9k1 => k_in); (case kw9k2 => k_inst); (case kw9k3 => k_is); (case kw9k4 => k_is); (case kw9k5 => k_is); (case kw9k6 => k_is); (case kw9k7 => k_is); (case kw9k8 => k_is); (case kw9k9 => k_get); (case kw9k10 => k_handed); k_whole))
  trivial
noncomputable abbrev size (l : List It) : Int := (l.map fun i => (i.f.length + i.p.length : Int)).sum
noncomputable def Small (l : List It) : Prop := l.length ≤ 100 ∧ ∀ i ∈ l, i.f.length ≤ 100 ∧ i.p.length ≤ 100
theorem preSum_size (l : List It) (v : Nat → Int) (hv : ∀ j (h : j < l.length), v j = l[j].f.length + l[j].p.length) : ∀ k, k ≤ l.length → preSum v k = size (l.take k) := by
  intro k
  induction k with
  | zero => intro _; rfl
  | succ k ih =>
    intro hk
    have hk' : k < l.length := hk
    rw [preSum, ih (Nat.le_of_lt hk'), hv k hk', List.take_succ_eq_append_getElem hk']
    simp only [size, List.map_append, List.sum_append, List.map_cons, List.map_nil, List.sum_cons, List.sum_nil]
    (first | lia | omega)
theorem size_le {l : List It} (h : Small l) : 0 ≤ size l ∧ size l ≤ 200 * l.length := by
  have key : ∀ l : List It, (∀ i ∈ l, i.f.length ≤ 100 ∧ i.p.length ≤ 100) → 0 ≤ size l ∧ size l ≤ 200 * l.length := by
    intro l
    induction l with
    | nil => intro _; simp [size]
    | cons a r ih =>
      intro h
      have h1 := ih fun i hi => h i (List.mem_cons_of_mem _ hi)
      have h2 := h a (List.mem_cons_self ..)
      simp only [size, List.map_cons, List.sum_cons, List.length_cons] at h1 ⊢
      (first | lia | omega)
  exact key l h.2

theorem items_off {h : Heap} {l : List It} {x : Addr} {o : Obj} (hl : ItemsAt h l) (hx : h.get? x = some o) (ho : ∀ v, o ≠ { cls := .type "tuple", data := .seq v }) : ∀ i ∈ l, i.t ≠ x := fun i hi e => by
  have := hl i hi
  rw [e, hx] at this
  exact ho _ (Option.some.inj this)
theorem acc_not_tup {dx : Addr} {ps : List Value} {n : Nat} : ∀ v, accO dx ps n ≠ { cls := .type "tuple", data := .seq v } := fun v e => nomatch (congrArg Obj.cls e)
theorem accD_not_tup {P : Params} {tk : Tok} {v : Value} {k : Nat} : ∀ u, accD P tk v k ≠ { cls := .type "tuple", data := .seq u } := fun v e => nomatch (congrArg Obj.data e)
theorem tabO_not_tup {op : Obj} (h : TabO op) : ∀ u, op ≠ { cls := .type "tuple", data := .seq u } := fun v e => by
  obtain ⟨_, hd, _⟩ := h
  rw [e] at hd; cases hd
theorem len_c {w : World} {mg mb : Str → Option Value} {b : Heap} {s : Shared} {x dx : Addr} {l : List It} {n : Nat} {zt zt' : Tok} {k : Nat} {op : Obj} {Q E : Value → Shared → Prop}
    (B : Base w mg mb b) (kb : Sub b s.heap) (hx : s.heap.get? x = some (accO dx (l.map It.ref) n)) (hx0 : b.get? x = none) (hdx : s.heap.get? dx = some (accD w.params zt (.int 0 zt') k)) (hdx0 : b.get? dx = none)
    (hop : s.heap.get? 176 = some op) (hto : TabO op) (hb : AllBare s.gens) (hl : ItemsAt s.heap l) (hsm : Small l)
    (hret : ∀ h' gn tk' t', But [176] s.heap h' → AllBare gn → (∃ op', h'.get? 176 = some op' ∧ TabO op') → Q (.int (size l) t') { s with heap := h', toks := tk', gens := gn }) :
    wpAny (model pw w) (Av 13) (call (.ref 181) [.ref x]) Q E s := by
  refine wpAny_call ?_
  k_dflt (refine' enter (binds := [(Str.ofString "self", .ref x)]) (news := [(x, accO dx (l.map It.ref) n), (dx, accD w.params zt (.int 0 zt') k), (176, op)]) B kb ?k3 ?k4 ?k5 ?k6 ?k7 ?k8 ?_ ?k10 ?k11 ?k12 ?k13; (case k3 => (intro p hp; simp only [List.mem_cons, List.not_mem_nil, or_false] at hp; rcases hp with rfl | rfl | rfl; exact ⟨hx, hx0⟩; exact ⟨hdx, hdx0⟩; exact ⟨hop, B.n1⟩)); (case k4 => k_is); (case k5 => k_is); (case k6 => decide); (case k7 => exact BindsTo.of_eq rfl); (case k8 => exact locs rfl); (case k10 => decide); (case k11 => exact rfl); (case k12 => exact rfl); (case k13 => exact rfl))
  intro g L' h₁ tk₀ F N X T hk hs hL
  (try dsimp only)
  (try k_fold)
  k_steps
  rename Nat => tk
  have F' := F
  have hopg : g.get? 176 = none := N.fresh (.tail _ (.tail _ (.head _)))
  obtain ⟨ps, hc⟩ := isCode_len (X.keeps F.keep) (N.get (.tail _ (.tail _ (.head _)))) hto
  have hit : ItemsAt h₁ l := hl.to fun i hi o e => F.keep _ _ (hk _ _ (fun hm => by
    simp only [List.map_cons, List.map_nil, List.mem_cons, List.not_mem_nil, or_false] at hm
    rcases hm with h | h | h
    · exact items_off hl hx acc_not_tup i hi h
    · exact items_off hl hdx accD_not_tup i hi h
    · exact items_off hl hop (tabO_not_tup hto) i hi h) e)
  obtain ⟨bm, ob, M⟩ := B.M
  have hmg : mg "len" = none := mg_none_of X T.g (by k_is)
  refine gen_acc (fun i y => ∃ t, y = .int (if hi : i < l.length then l[i].f.length + l[i].p.length else 0) t) F X T ⟨bm, ob, M.keeps hs⟩ hopg ⟨_, X 180 _ (by k_is)⟩ (N.get (.head _)) (N.get (.tail _ (.head _))) hit (by k_is) (by k_is) (fun Q' hq => ?_) rfl rfl hc hb rfl rfl rfl (by decide) rfl rfl rfl (by decide) rfl (by with_unfolding_all exact (Nat.le_of_ble_eq_true rfl : 482 ≤ recursionLimit)) (fun A' E' i s₂ m₂ code C hi _ hns h1 h2 T₂ => ?_) fun a s' G => ?_
  · exact ld F rfl hq
  · refine elt_len hns h1 h2 T₂ hmg rfl rfl rfl rfl rfl rfl (hsm.2 _ (List.getElem_mem hi)).1 (hsm.2 _ (List.getElem_mem hi)).2 ?_
    rw [dif_pos hi]
  · obtain ⟨hp2, gn2, d2, tk2, os2⟩ := s'
    have hb2 : But [176] h₁ hp2 := by obtain ⟨_, _, _, _, _, _, _, _, _, _, b', _⟩ := G; exact b'
    clear hit
    obtain ⟨F2, N2⟩ := after (news' := [(x, accO dx (l.map It.ref) n), (dx, accD w.params zt (.int 0 zt') k)]) F N hb2 (by simp) (by
      have h1 := N.get (.head _)
      have h2 := N.get (.tail _ (.head _))
      have h3 := N.get (.tail _ (.tail _ (.head _)))
      have n1 : x ≠ 176 := ne_of_get h1 h3 fun e => by obtain ⟨_, hd, _⟩ := hto.data; rw [← e] at hd; cases hd
      have n2 : dx ≠ 176 := ne_of_get h2 h3 fun e => by obtain ⟨_, hd, _⟩ := hto.data; rw [← e] at hd; cases hd
      intro p hp
      simp only [List.mem_cons, List.not_mem_nil, or_false] at hp
      rcases hp with rfl | rfl
      · exact ⟨hb2 _ _ (fun hm => n1 (List.mem_singleton.mp hm)) h1, .inl (.head _)⟩
      · exact ⟨hb2 _ _ (fun hm => n2 (List.mem_singleton.mp hm)) h2, .inl (.tail _ (.head _))⟩)
    have fk := F.keep
    have g1 := N.get (.head _)
    have g2 := N.get (.tail _ (.head _))
    have g3 := N.get (.tail _ (.tail _ (.head _)))
    clear F N F'
    k_steps
    have hle := size_le hsm
    have hlen := hsm.1
    refine sum_gen (GenR.toks G (Nat.le_succ _)) (fun j hj => ?_) (fun h' gn tk' t' b' c' ab => ?_)
    · have hs1 := preSum_size l (fun i => if hi : i < l.length then (l[i].f.length + l[i].p.length : Int) else 0) (fun j hj => dif_pos hj) (j + 1) hj
      have hs2 := size_le (l := l.take (j + 1)) ⟨by simp; (first | lia | omega), fun i hi => hsm.2 i (List.mem_of_mem_take hi)⟩
      have hs3 : (l.take (j + 1)).length ≤ 100 := by simp; (first | lia | omega)
      have hs4 := hsm.2 _ (List.getElem_mem hj)
      unfold InLong
      rw [hs1, dif_pos hj]
      constructor <;> constructor <;> (first | lia | omega)
    · have hs1 := preSum_size l (fun i => if hi : i < l.length then (l[i].f.length + l[i].p.length : Int) else 0) (fun j hj => dif_pos hj) l.length (Nat.le_refl _)
      rw [List.take_length] at hs1
      rw [hs1]
      obtain ⟨ps', c'⟩ := c'
      refine hret _ _ _ _ (but_end hk (fun c o e => b' c o (fun hm => ?_) (fk c o e)) ?_) ab (tabO_of c')
      · rw [List.mem_singleton.mp hm, hopg] at e; cases e
      · have n1 : x ≠ 176 := ne_of_get g1 g3 fun e => by obtain ⟨_, hd, _⟩ := hto.data; rw [← e] at hd; cases hd
        have n2 : dx ≠ 176 := ne_of_get g2 g3 fun e => by obtain ⟨_, hd, _⟩ := hto.data; rw [← e] at hd; cases hd
        intro p hp
        simp only [List.mem_cons, List.not_mem_nil, or_false] at hp
        rcases hp with rfl | rfl | rfl
        · exact .inr ((b' _ _ (fun hm => n1 (List.mem_singleton.mp hm)) g1).trans hx.symm)
        · exact .inr ((b' _ _ (fun hm => n2 (List.mem_singleton.mp hm)) g2).trans hdx.symm)
        · exact .inl (.head _)
end Mine
end
section
open PySem PySem.W PyProof.Rows PySem.Calls PySem.Spec
set_option maxRecDepth 100000
set_option maxHeartbeats 8000000
set_option pp.deepTerms false
set_option pp.maxSteps 20000
namespace Mine
theorem dummyS1 : True := by
  k_with_none
  w_top off
  k_with "lt8" => with_reducible first | assumption | exact And.left (by assumption) | exact And.left (And.right (by assumption)) | exact And.left (And.right (And.right (by assumption))) | exact And.left (And.right (And.right (And.right (by assumption)))) | exact And.left (And.right (And.right (And.right (And.right (by assumption))))) | exact And.left (And.right (And.right (And.right (And.right (And.right (by assumption)))))) | exact And.left (And.right (And.right (And.right (And.right (And.right (And.right (by assumption))))))) | exact And.left (And.right (And.right (And.right (And.right (And.right (And.right (And.right (by assumption)))))))) | exact And.left (And.right (And.right (And.right (And.right (And.right (And.right (And.right (And.right (by assumption))))))))) | exact And.left (And.right (And.right (And.right (And.right (And.right (And.right (And.right (And.right (And.right (by assumption)))))))))) | exact And.left (And.right (And.right (And.right (And.right (And.right (And.right (And.right (And.right (And.right (And.right (by assumption))))))))))) | exact And.left (And.right (And.right (And.right (And.right (And.right (And.right (And.right (And.right (And.right (And.right (And.right (by assumption)))))))))))) | exact And.left (And.right (And.right (And.right (And.right (And.right (And.right (And.right (And.right (And.right (And.right (And.right (And.right (by assumption)))))))))))))
  k_with "lt9" => first | exact Nat.ne_of_lt (by walk_at "lt8") | exact Nat.ne_of_gt (by walk_at "lt8")
  trivial
section
variable {w : World} {A' : Around} {E' : Value → Shared → Prop} {s₂ : Shared}
theorem elt_str {mg mb : Str → Option Value} {cenv : Env} {m₂ : Str → Option Value} {f p : Str} {te tf tp : Tok} {p1 p2 p3 p4 p5 p6 : Pos} {k7 : Nat}
    (hns : s₂.heap.Ns cenv.locals m₂) (h1 : m₂ "fws" = some (.str f tf)) (h2 : m₂ "part" = some (.str p tp)) (T : TopRead view lo mg mb s₂.heap) (hmg : mg "EMPTYSTRING" = some (.str (Str.ofString "") te))
    (hk : cenv.scope.kind = .function) (k1 : cenv.kindOf "fws" = some .local) (k2 : cenv.kindOf "part" = some .local) (k3 : cenv.kindOf "EMPTYSTRING" = some .globalImplicit) (hg : cenv.globals = mainGlobals)
    (hf : f.length ≤ 100) (hp : p.length ≤ 100) {pl : Sem Bool}
    (he : eval (.Call (.Attribute (.Name "EMPTYSTRING" p1) "join" p2) [.Tuple [.Name "fws" p3, .Name "part" p4] k7 p5] [] p6) cenv = (do
      let ov ← eval (.Name "EMPTYSTRING" p1) cenv
      standAt p2.atName
      let (f, first) ← holding [ov] (getMethod ov "join" pl)
      callWith p6 f first (backTo p6 (starEach [.Tuple [.Name "fws" p3, .Name "part" p4] k7 p5] cenv)) [])) :
    wpAny (model pw w) A' (eval (.Call (.Attribute (.Name "EMPTYSTRING" p1) "join" p2) [.Tuple [.Name "fws" p3, .Name "part" p4] k7 p5] [] p6) cenv) (fun y s₃ => (∃ t, y = .str (Txt.join (Str.ofString "") [f, p]) t) ∧ Keeps s₂ s₃) E' s₂ := by
  refine MethodCall_ (Name_function_global hk k3 (loadGlobal_global (hg ▸ T.g) hmg ?_)) he
  refine GM.join ?_
  refine callWith_builtin rfl (evalArgs_plain (spliced_cons (Tuple_ (k := k7) ?_)))
  refine spliced_cons (wpAny_Name (wpAny_loadName_local hk k1 hns h1 ?_))
  refine spliced_cons (wpAny_Name (wpAny_loadName_local hk k2 hns h2 ?_))
  refine spliced_nil (wpAny_newObj_type (spliced_nil ?_) (by show 2 ≤ sizeLine; decide))
  refine join_tupleW (items := #[.str f tf, .str p tp]) (ys := [f, p]) ⟨_, Heap.get?_push_size _ rfl, rfl, _, rfl⟩ (.cons _ _ (.cons _ _ .nil)) (by decide) (by simp; (first | lia | omega)) fun t' k => ⟨⟨t', rfl⟩, _, k, rfl, fun b o e => Heap.get?_push_of_some _ e⟩
end
theorem withS1x2 : True := by
  k_with_none
  w_top off
  k_with "lt8" => with_reducible first | assumption | exact And.left (by assumption) | exact And.left (And.right (by assumption)) | exact And.left (And.right (And.right (by assumption))) | exact And.left (And.right (And.right (And.right (by assumption)))) | exact And.left (And.right (And.right (And.right (And.right (by assumption))))) | exact And.left (And.right (And.right (And.right (And.right (And.right (by assumption)))))) | exact And.left (And.right (And.right (And.right (And.right (And.right (And.right (by assumption))))))) | exact And.left (And.right (And.right (And.right (And.right (And.right (And.right (And.right (by assumption)))))))) | exact And.left (And.right (And.right (And.right (And.right (And.right (And.right (And.right (And.right (by assumption))))))))) | exact And.left (And.right (And.right (And.right (And.right (And.right (And.right (And.right (And.right (And.right (by assumption)))))))))) | exact And.left (And.right (And.right (And.right (And.right (And.right (And.right (And.right (And.right (And.right (And.right (by assumption))))))))))) | exact And.left (And.right (And.right (And.right (And.right (And.right (And.right (And.right (And.right (And.right (And.right (And.right (by assumption)))))))))))) | exact And.left (And.right (And.right (And.right (And.right (And.right (And.right (And.right (And.right (And.right (And.right (And.right (And.right (by assumption)))))))))))))
  k_with "lt9" => first | exact Nat.ne_of_lt (by walk_at "lt8") | exact Nat.ne_of_gt (by walk_at "lt8")
  k_with "k_inst" => (refine' acc_inst ?kw9N ?kw9h1 ?kw9h2; (case kw9N => k_asm); (case kw9h1 => k_mem); (case kw9h2 => k_mem))
  k_with "getMethod ref" => (k_here; k_dflt (refine' acc_method ?kw9k2 ?kw9k3 ?kw9k4 ?kw9k5 ?kw9k6 ?kw9k7 ?kw9k8 ?_ ?kw9k9; (case kw9k2 => k_in); (case kw9k3 => k_inst); (case kw9k4 => k_is); (case kw9k5 => k_is); (case kw9k6 => k_is); (case kw9k7 => k_is); (case kw9k8 => k_get); (case kw9k9 => decide +kernel); k_whole))
  k_with "getAttr ref" => (k_here; k_dflt (refine' acc_get_own ?kw9k1 ?kw9k2 ?kw9k3 ?kw9k4 ?kw9k5 ?kw9k6 ?kw9k7 ?kw9k8 ?kw9k9 ?kw9k10 ?_; (case kw9k1 => k_in); (case kw9k2 => k_inst); (case kw9k3 => k_is); (case kw9k4 => k_is); (case kw9k5 => k_is); (case kw9k6 => k_is); (case kw9k7 => k_is); (case kw9k8 => k_is); (case kw9k9 => k_get); (case kw9k10 => k_handed); k_whole))
  trivial
theorem join2_length (a b : Str) : (Txt.join (Str.ofString "") [a, b]).length = a.length + b.length := by
  have e : (Str.ofString "").cps = #[] := by decide
  simp [Txt.join, Builtin.Str.glued, Str.length, e]
theorem rows_weight : ∀ l : List It, (∀ i ∈ l, i.f.length ≤ 100 ∧ i.p.length ≤ 100) → ((l.map fun i => Txt.join (Str.ofString "") [i.f, i.p]).map (·.length)).sum ≤ 200 * l.length
  | [], _ => by simp
  | a :: r, h => by
    have h3 := h a (List.mem_cons_self ..)
    have h4 := rows_weight r fun i hi => h i (List.mem_cons_of_mem _ hi)
    have h5 : (Txt.join (Str.ofString "") [a.f, a.p]).length = a.f.length + a.p.length := join2_length a.f a.p
    simp only [List.map_cons, List.sum_cons, List.length_cons, h5]
    (first | lia | omega)
/- the text of a row -/
noncomputable abbrev rowOf (l : List It) : Str := Txt.join (Str.ofString "") (l.map fun i => Txt.join (Str.ofString "") [i.f, i.p])
theorem str_c {w : World} {mg mb : Str → Option Value} {b : Heap} {s : Shared} {x dx : Addr} {l : List It} {n : Nat} {zt zt' : Tok} {k : Nat} {op : Obj} {Q E : Value → Shared → Prop}
    (B : Base w mg mb b) (kb : Sub b s.heap) (hx : s.heap.get? x = some (accO dx (l.map It.ref) n)) (hx0 : b.get? x = none) (hdx : s.heap.get? dx = some (accD w.params zt (.int 0 zt') k)) (hdx0 : b.get? dx = none)
    (hop : s.heap.get? 183 = some op) (hto : TabO op) (hb : AllBare s.gens) (hl : ItemsAt s.heap l) (hsm : Small l)
    (hret : ∀ h' gn tk' t', But [183] s.heap h' → AllBare gn → (∃ op', h'.get? 183 = some op' ∧ TabO op') → Q (.str (rowOf l) t') { s with heap := h', toks := tk', gens := gn }) :
    wpAny (model pw w) (Av 13) (call (.ref 188) [.ref x]) Q E s := by
  refine wpAny_call ?_
  k_dflt (refine' enter (binds := [(Str.ofString "self", .ref x)]) (news := [(x, accO dx (l.map It.ref) n), (dx, accD w.params zt (.int 0 zt') k), (183, op)]) B kb ?k3 ?k4 ?k5 ?k6 ?k7 ?k8 ?_ ?k10 ?k11 ?k12 ?k13; (case k3 => (intro p hp; simp only [List.mem_cons, List.not_mem_nil, or_false] at hp; rcases hp with rfl | rfl | rfl; exact ⟨hx, hx0⟩; exact ⟨hdx, hdx0⟩; exact ⟨hop, B.n2⟩)); (case k4 => k_is); (case k5 => k_is); (case k6 => decide); (case k7 => exact BindsTo.of_eq rfl); (case k8 => exact locs rfl); (case k10 => decide); (case k11 => exact rfl); (case k12 => exact rfl); (case k13 => exact rfl))
  intro g L' h₁ tk₀ F N X T hk hs hL
  (try dsimp only)
  (try k_fold)
  k_steps
  rename Nat => tk
  have F' := F
  have hopg : g.get? 183 = none := N.fresh (.tail _ (.tail _ (.head _)))
  obtain ⟨ps, hc⟩ := isCode_str (X.keeps F.keep) (N.get (.tail _ (.tail _ (.head _)))) hto
  have hit : ItemsAt h₁ l := hl.to fun i hi o e => F.keep _ _ (hk _ _ (fun hm => by
    simp only [List.map_cons, List.map_nil, List.mem_cons, List.not_mem_nil, or_false] at hm
    rcases hm with h | h | h
    · exact items_off hl hx acc_not_tup i hi h
    · exact items_off hl hdx accD_not_tup i hi h
    · exact items_off hl hop (tabO_not_tup hto) i hi h) e)
  obtain ⟨bm, ob, M⟩ := B.M
  have hmg := mg_of X T.g (n := Str.ofString "EMPTYSTRING") (by k_is)
  refine gen_acc (fun i y => ∃ t, y = .str (if hi : i < l.length then Txt.join (Str.ofString "") [l[i].f, l[i].p] else Str.ofString "") t) F X T ⟨bm, ob, M.keeps hs⟩ hopg ⟨_, X 187 _ (by k_is)⟩ (N.get (.head _)) (N.get (.tail _ (.head _))) hit (by k_is) (by k_is) (fun Q' hq => ?_) rfl rfl hc hb rfl rfl rfl (by decide) rfl rfl rfl (by decide) rfl (by with_unfolding_all exact (Nat.le_of_ble_eq_true rfl : 482 ≤ recursionLimit)) (fun A' E' i s₂ m₂ code C hi _ hns h1 h2 T₂ => ?_) fun a s' G => ?_
  · exact ld F rfl hq
  · rw [dif_pos hi]
    refine elt_str hns h1 h2 T₂ hmg rfl rfl rfl rfl rfl (hsm.2 _ (List.getElem_mem hi)).1 (hsm.2 _ (List.getElem_mem hi)).2 rfl
  · obtain ⟨hp2, gn2, d2, tk2, os2⟩ := s'
    have hb2 : But [183] h₁ hp2 := by obtain ⟨_, _, _, _, _, _, _, _, _, _, b', _⟩ := G; exact b'
    clear hit
    obtain ⟨F2, N2⟩ := after (news' := [(x, accO dx (l.map It.ref) n), (dx, accD w.params zt (.int 0 zt') k)]) F N hb2 (by simp) (by
      have h1 := N.get (.head _)
      have h2 := N.get (.tail _ (.head _))
      have h3 := N.get (.tail _ (.tail _ (.head _)))
      have n1 : x ≠ 183 := ne_of_get h1 h3 fun e => by obtain ⟨_, hd, _⟩ := hto.data; rw [← e] at hd; cases hd
      have n2 : dx ≠ 183 := ne_of_get h2 h3 fun e => by obtain ⟨_, hd, _⟩ := hto.data; rw [← e] at hd; cases hd
      intro p hp
      simp only [List.mem_cons, List.not_mem_nil, or_false] at hp
      rcases hp with rfl | rfl
      · exact ⟨hb2 _ _ (fun hm => n1 (List.mem_singleton.mp hm)) h1, .inl (.head _)⟩
      · exact ⟨hb2 _ _ (fun hm => n2 (List.mem_singleton.mp hm)) h2, .inl (.tail _ (.head _))⟩)
    have fk := F.keep
    have g1 := N.get (.head _)
    have g2 := N.get (.tail _ (.head _))
    have g3 := N.get (.tail _ (.tail _ (.head _)))
    clear F N F'
    k_steps
    have hlen := hsm.1
    have htx : (List.range l.length).map (fun i => if hi : i < l.length then Txt.join (Str.ofString "") [l[i].f, l[i].p] else Str.ofString "") = l.map fun i => Txt.join (Str.ofString "") [i.f, i.p] := by
      apply List.ext_getElem
      · simp
      · intro j h1 h2
        simp at h1 h2
        simp [h1]
    have hws : (((l.map fun i => Txt.join (Str.ofString "") [i.f, i.p])).map (·.length)).sum ≤ 200 * l.length := by
      exact rows_weight l hsm.2
    refine join_gen G ?_ (fun h' gn tk' t' b' c' ab => ?_) (Nat.le_trans hlen (by decide))
    · rw [htx]
      refine joinOk_of_weight ?_ (by decide)
      simp only [List.length_map] at hws ⊢
      (first | lia | omega)
    · rw [htx]
      obtain ⟨ps', c'⟩ := c'
      refine hret _ _ _ _ (but_end hk (fun c o e => b' c o (fun hm => ?_) (fk c o e)) ?_) ab (tabO_of c')
      · rw [List.mem_singleton.mp hm, hopg] at e; cases e
      · have n1 : x ≠ 183 := ne_of_get g1 g3 fun e => by obtain ⟨_, hd, _⟩ := hto.data; rw [← e] at hd; cases hd
        have n2 : dx ≠ 183 := ne_of_get g2 g3 fun e => by obtain ⟨_, hd, _⟩ := hto.data; rw [← e] at hd; cases hd
        intro p hp
        simp only [List.mem_cons, List.not_mem_nil, or_false] at hp
        rcases hp with rfl | rfl | rfl
        · exact .inr ((b' _ _ (fun hm => n1 (List.mem_singleton.mp hm)) g1).trans hx.symm)
        · exact .inr ((b' _ _ (fun hm => n2 (List.mem_singleton.mp hm)) g2).trans hdx.symm)
        · exact .inl (.head _)
end Mine
end
section
open PySem PySem.W PyProof.Rows PySem.Calls PySem.Spec
set_option maxRecDepth 100000
set_option maxHeartbeats 8000000
set_option pp.deepTerms false
set_option pp.maxSteps 20000
namespace Mine
section
variable {prog : Program} {w : World} {M : Model} {A : Around} {E : Value → Shared → Prop} {h : Heap} {g : Array GenState} {d : Drawn} {t : Nat} {os : OsState}
theorem sg_slot_wget : Slot "wrapper_descriptor" "__get__" "wrapper_descriptor.__get__" := .of (owner := "wrapper_descriptor") (n := "__get__") (by rw [typeLookup_type, builtinLookup_eq_fast]; kernel_rfl) (by decide +kernel) (by decide +kernel) (by decide +kernel)
  (by first | exact .inl (by decide +kernel) | exact .inr (by decide +kernel)) (by rw [isSubtype_type]; kernel_rfl)
theorem sg_entry_wget : entryFor table "wrapper_descriptor.__get__" = some Builtin.«wrapper_descriptor.__get__» := entryFor_of_tree (by kernel_rfl)
theorem sg_args_wget (a b c : Value) : argsOk "wrapper_descriptor.__get__" ⟨[a, b, c], []⟩ := by unfold argsOk; kernel_rfl
theorem sg_wget {x C : Addr} {Q : Fin → Shared → Prop} (hi : Looks (model prog w) h (isInstance (.ref x) (.type "list")) true)
    (hq : Q (.done (.ret (.ref h.objs.size))) ⟨h.push { cls := .type "method-wrapper", data := .fields #[.builtin "list.__len__", .ref x] }, g, d, t, os⟩) :
    wpAny (model prog w) A (Builtin.«wrapper_descriptor.__get__» ⟨[.builtin "list.__len__", .ref x, .ref C], []⟩) Q E ⟨h, g, d, t, os⟩ := by
  have e : (".".intercalate ("list.__len__".cutAt '.').dropLast) = "list" := by decide +kernel
  unfold Builtin.«wrapper_descriptor.__get__»
  repeat (first | (rw [e]; refine Looks.at hi ?_) | (with_reducible refine wpAny_newObj_type ?_ (by size_fits)) | wp_step | dsimp only)
  all_goals exact hq
theorem sg_slot_mget : Slot "method_descriptor" "__get__" "method_descriptor.__get__" := .of (owner := "method_descriptor") (n := "__get__") (by rw [typeLookup_type, builtinLookup_eq_fast]; kernel_rfl) (by decide +kernel) (by decide +kernel) (by decide +kernel)
  (by first | exact .inl (by decide +kernel) | exact .inr (by decide +kernel)) (by rw [isSubtype_type]; kernel_rfl)
theorem sg_entry_mget : entryFor table "method_descriptor.__get__" = some Builtin.«method_descriptor.__get__» := entryFor_of_tree (by kernel_rfl)
theorem sg_args_mget (a b c : Value) : argsOk "method_descriptor.__get__" ⟨[a, b, c], []⟩ := by unfold argsOk; kernel_rfl
theorem sg_mget {x C : Addr} {Q : Fin → Shared → Prop} (hi : Looks (model prog w) h (isInstance (.ref x) (.type "list")) true)
    (hq : Q (.done (.ret (.ref h.objs.size))) ⟨h.push { cls := .type "builtin_function_or_method", data := .fields #[.builtin "list.pop", .ref x] }, g, d, t, os⟩) :
    wpAny (model prog w) A (Builtin.«method_descriptor.__get__» ⟨[.builtin "list.pop", .ref x, .ref C], []⟩) Q E ⟨h, g, d, t, os⟩ := by
  have e : (".".intercalate ("list.pop".cutAt '.').dropLast) = "list" := by decide +kernel
  have e2 : Manifest.toldItsClass.contains "list.pop" = false := by decide +kernel
  unfold Builtin.«method_descriptor.__get__»
  repeat (first | (rw [e]; refine Looks.at hi ?_) | (with_reducible refine wpAny_newObj_type ?_ (by size_fits)) | (simp only [e2, Bool.false_eq_true, if_false]) | wp_step | dsimp only)
  all_goals exact hq

end
end Mine
end
section
open PySem PySem.W PyProof.Rows PySem.Calls PySem.Spec
set_option maxRecDepth 100000
set_option maxHeartbeats 8000000
set_option pp.deepTerms false
set_option pp.maxSteps 20000
namespace Mine
theorem dummyU2 : True := by
  k_with_none
  w_top off
  trivial
section
variable {prog : Program} {w : World} {M : Model} {A : Around} {E : Value → Shared → Prop} {h : Heap} {g : Array GenState} {d : Drawn} {t : Nat} {os : OsState}
noncomputable abbrev bndO (bound id : String) (x : Addr) : Obj := { cls := .type bound, data := .fields #[.builtin id, .ref x] }
theorem sg_super_ga {so D x C : Addr} {l₀ l : List Value} {K : Frag} {name : Str} {tk : Tok} {Q : PySem.Fin → Shared → Prop} {id T' gid bound : String}
    (hty : typeOf (.builtin id) = pure (.type T')) (hlk : typeLookup (.type T') "__get__" = pure (some (.builtin gid)))
    (hget : ∀ (A : Around) (Q : Value → Shared → Prop), Q (.ref h.objs.size) ⟨h.push (bndO bound id x), g, d, t, os⟩ → wpAny (model prog w) A (call (.builtin gid) [.builtin id, .ref x, .ref C]) Q E ⟨h, g, d, t, os⟩)
    (hso : h.get? so = some { cls := .type "super", dict := none, data := .fields #[.ref D, .ref x, .ref C], slots := #[] }) (hno : Looks (model prog w) h (opaqueClassAbove (.ref C)) none)
    (hC : Looks (model prog w) h (mroOf (.ref C)) l₀) (hl : (l₀.dropWhile (· != .ref D)).drop 1 = l) (X : K.In h)
    (hf : alongIn K name l = some (some (.builtin id))) (hxC : x ≠ C) (hn : (name == ("__class__" : Str)) = false)
    (hq : Q (.done (.ret (.ref h.objs.size))) ⟨h.push (bndO bound id x), g, d, t, os⟩) :
    wpAny (model prog w) A (Builtin.«super.__getattribute__» ⟨[.ref so, .str name tk], []⟩) Q E ⟨h, g, d, t, os⟩ := by
  have hne : (Value.ref x == Value.ref C) = false := by simp [hxC]
  have hdt : ({ cls := .type "super", dict := none, data := .fields #[.ref D, .ref x, .ref C], slots := #[] } : Obj).data = .fields #[.ref D, .ref x, .ref C] := rfl
  have f0 : (#[.ref D, .ref x, .ref C] : Array Value)[0]? = some (.ref D) := rfl
  have f1 : (#[.ref D, .ref x, .ref C] : Array Value)[1]? = some (.ref x) := rfl
  have f2 : (#[.ref D, .ref x, .ref C] : Array Value)[2]? = some (.ref C) := rfl
  unfold Builtin.«super.__getattribute__»
  repeat (first
    | (with_reducible refine wpAny_field hso hdt f0 ?_) | (with_reducible refine wpAny_field hso hdt f1 ?_) | (with_reducible refine wpAny_field hso hdt f2 ?_)
    | (with_reducible refine ks_wpAny_notOpaque hno ?_)
    | (with_reducible refine Looks.at hC ?_; rw [hl])
    | (refine ks_forIn_along X (fun _ _ => rfl) rfl ?_ hf)
    | (with_reducible refine wpAny_of_eq hty ?_)
    | (with_reducible refine wpAny_of_eq hlk ?_)
    | (with_reducible refine hget _ _ ?_)
    | (with_reducible refine ⟨_, rfl, ?_⟩)
    | (simp only [hn, hne, Bool.or_false, Bool.false_eq_true, if_false])
    | wp_step
    | dsimp only)
  all_goals exact hq

theorem sg_getMethod {so D x C : Addr} {l₀ l : List Value} {K : Frag} {name : Str} {pl : Sem Bool} {Q : Value × List Value → Shared → Prop} {id T' gid bound : String}
    (hty : typeOf (.builtin id) = pure (.type T')) (hlk : typeLookup (.type T') "__get__" = pure (some (.builtin gid)))
    (hget : ∀ (A : Around) (Q : Value → Shared → Prop), Q (.ref h.objs.size) ⟨h.push (bndO bound id x), g, d, t + 1, os⟩ → wpAny (model prog w) A (call (.builtin gid) [.builtin id, .ref x, .ref C]) Q (fun _ _ => False) ⟨h, g, d, t + 1, os⟩)
    (hso : h.get? so = some { cls := .type "super", dict := none, data := .fields #[.ref D, .ref x, .ref C], slots := #[] }) (hno : Looks (model prog w) h (opaqueClassAbove (.ref C)) none)
    (hC : Looks (model prog w) h (mroOf (.ref C)) l₀) (hl : (l₀.dropWhile (· != .ref D)).drop 1 = l) (X : K.In h)
    (hf : alongIn K name l = some (some (.builtin id))) (hxC : x ≠ C) (hn : (name == ("__class__" : Str)) = false)
    (hq : Q (.ref h.objs.size, []) ⟨h.push (bndO bound id x), g, d, t + 1, os⟩) :
    wpAny (model prog w) A (getMethod (.ref so) name pl) Q E ⟨h, g, d, t, os⟩ := by
  have hlk0 := PySem.F.ks_slot_super_ga.lookup
  have hcan := PySem.F.ks_canon_super_ga
  have hT : ∀ t', (⟨h, g, d, t', os⟩ : Shared).TypeIs (.ref so) "super" := fun _ => ⟨_, hso, rfl⟩
  unfold getMethod
  refine wpAny_bind (wpAny_specialOf (hT _) hlk0 ?_)
  show wpAny _ _ (if (Manifest.canonical "super.__getattribute__" != "object.__getattribute__") = true then _ else _) _ _ _
  rw [if_pos hcan]
  unfold getAttr getAttrBy
  refine wpAny_bind (wpAny_bind (wpAny_mkText (wpAny_holding (wpAny_bind (wpAny_typeOf (hT _) (wpAny_bind (wpAny_of_eq hlk0 ?_)))))))
  show wpAny _ _ (getAttrByItsOwn (.ref so) (.str name t) (.type "super") (.builtin "super.__getattribute__") true false) _ _ _
  unfold getAttrByItsOwn hookBefore callGetattribute boundAndCalled
  refine wpAny_bind (wpAny_of_eq (show (if onTheHeap (.type "super") then typeLookup (.type "super") "__getattr__" else pure none) = pure none from rfl) ?_)
  refine wpAny_bind (wpAny_attempt (wpAny_holding ?_))
  show wpAny _ _ (bindSpecial (.builtin "super.__getattribute__") (.ref so) >>= _) _ _ _
  refine wpAny_bind (wpAny_of_eq (PySem.F.ks_slot_super_ga.bind _) ?_)
  refine wpAny_mono (Q := fun v s' => v = .ref h.objs.size ∧ s' = ⟨h.push (bndO bound id x), g, d, t + 1, os⟩) (E := fun _ _ => False)
    (wpAny_call_entry PySem.F.ks_slot_super_ga (hT _) PySem.F.ks_entry_super_ga (sg_super_ga hty hlk hget hso hno hC hl X hf hxC hn ⟨_, rfl, rfl, rfl⟩) (PySem.F.ks_gaArgs_super _ _)) (fun v s' hv => ?_) fun _ _ z => z.elim
  obtain ⟨rfl, rfl⟩ := hv
  exact wpAny_pure (wpAny_pure hq)
end
end Mine
end
section
open PySem PySem.W PyProof.Rows PySem.Calls PySem.Spec
set_option maxRecDepth 100000
set_option maxHeartbeats 8000000
set_option pp.deepTerms false
set_option pp.maxSteps 20000
namespace Mine
theorem dummyU3 : True := by
  k_with_none
  w_top off
  trivial
section
variable {prog : Program} {w : World} {A : Around} {E : Value → Shared → Prop} {s : Shared} {x q : Addr} {K : Frag} {C : Addr} {ox : Obj} {od : Option Obj}
theorem bound_call {bound id : String} {Bi : Builtin} {rest : List Value} {Q : Value → Shared → Prop} (hq : s.heap.get? q = some (bndO bound id x)) (hb : bound = "method-wrapper" ∨ bound = "builtin_function_or_method") (entry : entryFor table id = some Bi) (hp : plainId id = true)
    (hc : ∀ Q' : Unit → Shared → Prop, Q' () s → wpAny (model prog w) A.in1 (checkBoundCall id ⟨.ref x :: rest, []⟩) Q' E s)
    (hbody : wpAny (model prog w) A.in1 (Bi ⟨.ref x :: rest, []⟩) (fun fin s' => ∃ v, fin = .done (.ret v) ∧ Q v s') E s) :
    wpAny (model prog w) A (call (.ref q) rest) Q E s := by
  refine wpAny_call (codeAny_of_tree ?_)
  show wpAny _ A.in1 (callAny (.ref q) ⟨rest, []⟩) _ _ _
  unfold callAny
  refine wpAny_bind (wpAny_load hq ?_)
  have fin : wpAny (model prog w) A.in1 (checkBoundCall id ⟨.ref x :: rest, []⟩ >>= fun _ => again (.builtin id ⟨.ref x :: rest, []⟩)) (fun fin s' => match fin with
      | .done f => (match (Except.ok f : Result) with | .ok (.ret v) => Q v s' | .ok _ => False | .error e => E e s')
      | .again c' => c'.quiet = true ∧ codeAny (model prog w) A c' (fun r s' => match r with | .ok (.ret v) => Q v s' | .ok _ => False | .error e => E e s') s') E s := by
    refine wpAny_bind (hc _ (wpAny_pure ⟨plainId_quiet hp _, codeAny_builtin entry ?_⟩))
    rw [Around.under_plainId hp _]
    refine wpAny_mono hbody (fun fin s' h' => ?_) fun _ _ e => e
    obtain ⟨v, rfl, hv⟩ := h'
    exact hv
  rcases hb with rfl | rfl <;> exact fin

theorem len_bound {its : Array Value} {n : Nat} {dd : Option Addr} {Q : Value → Shared → Prop} (hq : s.heap.get? q = some (bndO "method-wrapper" "list.__len__" x)) (hx : s.heap.get? x = some { cls := .ref C, dict := dd, data := .seq its n })
    (h : ∀ t tk, Q (.int its.size t) { s with toks := tk }) : wpAny (model prog w) A (call (.ref q) []) Q E s := by
  refine bound_call hq (.inl rfl) entry_list_len (by decide +kernel) (fun Q' h' => ?_) ?_
  · have : checkBoundCall "list.__len__" ⟨[.ref x], []⟩ = pure () := by kernel_rfl
    rw [this]; exact wpAny_pure h'
  · show wpAny _ _ (do retInt (← seqSize x)) _ _ s
    obtain ⟨hp, g, d, t, os⟩ := s
    unfold seqSize retInt
    repeat wp_step
    all_goals exact ⟨_, rfl, h _ _⟩

theorem pop_sig : Manifest.signature? "list.pop" = some { machinery := .positional, full := "list.pop", short := "pop", receiver := .self, params := [{ name := "index", kind := .posOnly, required := false }] } := by kernel_rfl
theorem pop_check {cd : ClassData} {Q : Unit → Shared → Prop} (X : K.In s.heap) (I : InstAt s.heap x ox C od) (hm : mroIn K C (.type "module") = some false) (hC : clsIn K C = some cd) (hT : typeIn K (.ref C) = some (.type "type")) (hname : cd.qualname = Str.ofString "_Accumulator")
    (h : Q () s) : wpAny (model prog w) A (checkBoundCall "list.pop" ⟨[.ref x], []⟩) Q E s := by
  have L0 := I.type (M := model prog w)
  have L1 := looks_inst (M := model prog w) X I hm
  have L2 := looks_clsIn (M := model prog w) X hC
  have L3 := looks_typeIn (M := model prog w) X hT
  have hk : builtinKind "list.pop" = some .method := by decide +kernel
  have hv : Manifest.varargsMethods.contains "list.pop" = false := by decide +kernel
  obtain ⟨hp, g, d, t, os⟩ := s
  have hnc : ∀ c, ox.data ≠ .cls c := fun c e => by
    have := I.no
    unfold notCls at this
    rw [e] at this
    exact Bool.noConfusion this
  unfold checkBoundCall
  rw [pop_sig]
  simp only [hk, hv]
  rw [if_neg (by decide)]
  refine wpAny_bind (Looks.at L1 ?_)
  rw [if_neg (by decide)]
  refine wpAny_bind (ks_wpAny_isType_inst I.at_ hnc ?_)
  rw [if_neg (by decide)]
  refine wpAny_bind (Looks.at L0 ?_)
  refine wpAny_bind (Looks.at L2 ?_)
  refine wpAny_bind (Looks.at L3 ?_)
  rw [if_pos (by rfl), hname]
  rw [show Bind.checkArgs "list.pop" { machinery := .positional, full := toString (Str.ofString "_Accumulator").toString ++ toString "." ++ toString (Bind.lastOf "list.pop"), short := "pop", receiver := .self, params := [{ name := "index", kind := .posOnly, required := false }] } ⟨[.ref x], []⟩ = pure () from by kernel_rfl]
  exact wpAny_pure h

theorem pop_body {vs : List Value} {k : Nat} {dd : Option Addr} {D C : Addr} {v : Value} {Q : Value → Shared → Prop} (ho : s.heap.get? D = some { cls := .ref C, dict := dd, data := .seq (vs ++ [v]).toArray k })
    (h : ∀ h', Heap.SameBut D s.heap h' → h'.get? D = some { cls := .ref C, dict := dd, data := .seq vs.toArray (k + 1) } → Q v { s with heap := h' }) (hsz : vs.length < sizeLine) :
    wpAny (model prog w) A (Builtin.«list.pop» ⟨[.ref D], []⟩) (fun fin s' => ∃ v, fin = .done (.ret v) ∧ Q v s') E s := by
  unfold Builtin.«list.pop»
  obtain ⟨hp, g, d, t, os⟩ := s
  have hsz1 : (vs ++ [v]).toArray.size = vs.length + 1 := by simp
  have hk : seqIndex? (-1) (vs ++ [v]).toArray.size = some vs.length := by
    rw [seqIndex_neg (by (first | lia | omega)) (by (first | lia | omega))]; congr 1; (first | lia | omega)
  have hy : (vs ++ [v]).toArray[vs.length]? = some v := by simp
  repeat wp_step
  simp only [hk, hy, Option.bind_some, Option.map_some]
  have e1 : (vs ++ [v]).toArray.eraseIdxIfInBounds vs.length = vs.toArray := by
    have := kl_erase vs [] v
    simpa using this
  have e : Obj.mapSeq (fun x => x.eraseIdxIfInBounds vs.length) { cls := .ref C, dict := dd, data := .seq (vs ++ [v]).toArray k } = { cls := .ref C, dict := dd, data := .seq vs.toArray (k + 1) } := by
    simp only [Obj.mapSeq, e1]
    congr 2
    simp
  refine wpAny_bind ?_
  refine wpAny_updateSeq ho rfl (wpAny_pure ⟨v, rfl, h _ (Heap.SameBut.update ..) ?_⟩) (by rw [hsz1]; (first | lia | omega)) (by rw [e1]; simp; (first | lia | omega))
  rw [Heap.get?_update_self _ ho (by rw [e]; rfl), e]
end
section
variable {w : World} {A : Around} {E : Value → Shared → Prop} {s : Shared} {h₀ : Heap} {L : Addr} {m mg mb : Str → Option Value} {news : List (Addr × Obj)} {x C D f cc cda so : Addr} {ox : Obj} {odx : Option Obj} {K : Frag}
theorem sg_node {body : List Stmt} {q : Str} {scope : Scope} {p0 p1 : Pos} {attr : Str} {whole : Sem Value} {fd : FuncData} {ar : Arg} {vs : Array Value} {file : Str} {tf : Tok} {oc ccl cl : Value} {od cdd cld : Option Addr} {osl ccs csl : Array (Option Value)} {cdD : ClassData} {Q : Value → Shared → Prop}
    (F : Fr h₀ L s.heap m) (X₀ : K.In h₀) (N : News h₀ L s.heap news) (T : TopRead view lo mg mb h₀)
    (hf : K.lookup f = some ⟨oc, od, .func fd, osl⟩) (hp : (fd.params.posonlyargs ++ fd.params.args).head? = some ar) (hv : m ar.arg = some (.ref x)) (I : InstAt s.heap x ox C odx)
    (hcode : K.lookup cda = some ⟨ccl, cdd, .fields vs, ccs⟩) (hvs : vs[2]? = some (.str file tf)) (hfile : ((pw.main.file : Str) == file) = true)
    (hcell : K.lookup cc = some ⟨cl, cld, .cell (some (.ref D)), csl⟩) (hD : clsIn K D = some cdD) (hsub : mroIn K C (.ref D) = some true) (hsuper : nsIn K mainGlobals "super" = some none)
    (hat : (attr == ("__class__" : Str)) = false) (hks : scope.names.lookup ("super" : Str) = some .globalImplicit) (hkc : scope.names.lookup ("__class__" : Str) = some .free) (hka : scope.names.lookup ar.arg = some .local) (hk : scope.kind = .function)
    (htop : (pw.main.scope.names.lookup ("super" : Str)).isSome = false) (hboot : bootBuiltins "super" = some (.type "super"))
    (h : ∀ so h', Fr h₀ L h' m → News h₀ L h' ((so, ks_superObj D x C) :: news) → (∀ p ∈ news, p.1 < so) → Q (.ref so) { s with heap := h' }) :
    _root_.PySem.wpAt (model pw w) A (.func body (ksEnv q scope L f (.ref cda) cc)) (attributeBase (.Call (.Name "super" p0) [] [] p1) attr (ksEnv q scope L f (.ref cda) cc) whole) Q E s := by
  have X : K.In s.heap := X₀.keeps F.keep
  obtain ⟨hh, g, d, t, os⟩ := s
  obtain ⟨oD, hD1, hD2⟩ : ∃ oD, hh.get? D = some oD ∧ oD.data = .cls cdD := by
    unfold clsIn at hD
    split at hD
    · rename_i c d cd' sl ho
      cases hD
      exact ⟨_, X _ _ ho, rfl⟩
    · cases hD
  refine ks_wpAt_super_base (env := ksEnv q scope L f (.ref cda) cc) hks hkc hat rfl (X _ _ hf) rfl hp rfl (X _ _ hcode) rfl hvs hfile htop ?_
  refine ks_loadName_global hk hks (loadGlobal_builtin (env := ksEnv q scope L f (.ref cda) cc) (T.g.keeps F.keep) (mg_none_of X₀ T.g hsuper) (T.b.keeps F.keep) ((T.builtins _ (by decide +kernel)).trans hboot) ⟨rfl, ?_⟩)
  refine wpAny_loadName_free hk hkc rfl ⟨_, X _ _ hcell, rfl⟩ ?_
  refine wpAny_loadName_local hk hka F.ns hv ?_
  refine ks_wpAny_isType_cls hD1 hD2 ⟨rfl, ?_⟩
  refine ks_wpAny_call_super hD1 hD2 I.at_ I.cls (fun c e => ?_) (looks_mroIn X hsub) (fun h' e k => ?_)
  · have := I.no
    unfold notCls at this
    rw [e] at this
    exact Bool.noConfusion this
  · obtain ⟨F', N', l'⟩ := ks_newsPush (s := ⟨hh, g, d, t, os⟩) F N rfl e k
    exact h _ _ F' N' l'

/- a built-in's method got through super() -/
theorem sg_method {name : Str} {pl : Sem Bool} {Q : Value × List Value → Shared → Prop} {id T' gid bound : String} (F : Fr h₀ L s.heap m) (X₀ : K.In h₀) (N : News h₀ L s.heap news) (hso : (so, ks_superObj D x C) ∈ news) (I : InstAt s.heap x ox C odx) (ho : nsIn K cStatics "thirdparty.any" = some none)
    (hm : ks_superIn K C D name = some (some (.builtin id))) (hty : typeOf (.builtin id) = pure (.type T')) (hlk : typeLookup (.type T') "__get__" = pure (some (.builtin gid))) (hl : mroIn K C (.type "list") = some true)
    (hget : ∀ {h : Heap} {g d t os} (A : Around) (Q : Value → Shared → Prop), Looks (model pw w) h (isInstance (.ref x) (.type "list")) true → Q (.ref h.objs.size) ⟨h.push (bndO bound id x), g, d, t, os⟩ → wpAny (model pw w) A (call (.builtin gid) [.builtin id, .ref x, .ref C]) Q (fun _ _ => False) ⟨h, g, d, t, os⟩)
    (hn : (name == ("__class__" : Str)) = false)
    (h : ∀ q h', Fr h₀ L h' m → News h₀ L h' ((q, bndO bound id x) :: news) → (∀ p ∈ news, p.1 < q) → Q (.ref q, []) { s with heap := h', toks := s.toks + 1 }) : wpAny (model pw w) A (getMethod (.ref so) name pl) Q E s := by
  have X : K.In s.heap := X₀.keeps F.keep
  have L1 := looks_inst (M := model pw w) X I hl
  obtain ⟨hh, g, d, t, os⟩ := s
  cases hc : clsIn K C with
  | none => unfold ks_superIn at hm; rw [hc] at hm; cases hm
  | some cd =>
    unfold ks_superIn at hm
    rw [hc] at hm
    refine sg_getMethod hty hlk (fun A Q => hget A Q L1) (N _ hso).1 (looks_opaque X ho) (l₀ := cd.mro) ?_ rfl X hm (ks_ne X I hc) hn ?_
    · exact fun A Q E s k q => wpAny_bind ((looks_clsIn X hc) A _ E s k (wpAny_pure q))
    · obtain ⟨F', N', l'⟩ := ks_newsPush (s := ⟨hh, g, d, t, os⟩) (o := bndO bound id x) F N rfl (Heap.get?_push_at rfl rfl) (fun b o e => Heap.get?_push_of_some _ e)
      exact h _ _ F' N' l'
theorem hget_len {h : Heap} {g : Array GenState} {d : Drawn} {t : Nat} {os : OsState} (A : Around) (Q : Value → Shared → Prop) (hi : Looks (model pw w) h (isInstance (.ref x) (.type "list")) true) (hq : Q (.ref h.objs.size) ⟨h.push (bndO "method-wrapper" "list.__len__" x), g, d, t, os⟩) :
    wpAny (model pw w) A (call (.builtin "wrapper_descriptor.__get__") [.builtin "list.__len__", .ref x, .ref C]) Q (fun _ _ => False) ⟨h, g, d, t, os⟩ :=
  wpAny_call_entry sg_slot_wget (T := "wrapper_descriptor") (by show builtinType _ = _; rw [builtinType_eq_fast]; kernel_rfl) sg_entry_wget (sg_wget hi ⟨_, rfl, hq⟩) (sg_args_wget _ _ _)
theorem hget_pop {h : Heap} {g : Array GenState} {d : Drawn} {t : Nat} {os : OsState} (A : Around) (Q : Value → Shared → Prop) (hi : Looks (model pw w) h (isInstance (.ref x) (.type "list")) true) (hq : Q (.ref h.objs.size) ⟨h.push (bndO "builtin_function_or_method" "list.pop" x), g, d, t, os⟩) :
    wpAny (model pw w) A (call (.builtin "method_descriptor.__get__") [.builtin "list.pop", .ref x, .ref C]) Q (fun _ _ => False) ⟨h, g, d, t, os⟩ :=
  wpAny_call_entry sg_slot_mget (T := "method_descriptor") (by show builtinType _ = _; rw [builtinType_eq_fast]; kernel_rfl) sg_entry_mget (sg_mget hi ⟨_, rfl, hq⟩) (sg_args_mget _ _ _)
theorem type_len : typeOf (.builtin "list.__len__") = pure (.type "wrapper_descriptor") := by show builtinType _ = _; rw [builtinType_eq_fast]; kernel_rfl
theorem type_pop : typeOf (.builtin "list.pop") = pure (.type "method_descriptor") := by show builtinType _ = _; rw [builtinType_eq_fast]; kernel_rfl
end
section
variable {M : Model} {A : Around} {E : Value → Shared → Prop} {s : Shared} {h₀ : Heap} {L q x : Addr} {news news' : List (Addr × Obj)} {bound id : String}
theorem bnd_keeps (hb : bound = "method-wrapper" ∨ bound = "builtin_function_or_method") (h : Heap) (e : h.get? q = some (bndO bound id x)) : ∃ k, (k = Keeper.frame ∨ k = Keeper.machine ∨ k = Keeper.boundFrame) ∧ Looks M h (keeperOf (.ref q)) k :=
  ⟨.machine, .inr (.inl rfl), by rcases hb with rfl | rfl <;> exact (Looks.ld (part := none) e).andThen .now⟩
theorem callWith_b0 {pos : Pos} {env : Env} {first : List Value} {Q : Value → Shared → Prop} (N : News h₀ L s.heap news) (hm : (q, bndO bound id x) ∈ news) (hb : bound = "method-wrapper" ∨ bound = "builtin_function_or_method") (h : wpAny M A (call (.ref q) (first ++ [])) Q E s) :
    wpAny M A (callWith pos (.ref q) first (backTo pos (starEach [] env)) []) Q E s :=
  callWith_of (P := fun h => h.get? q = some (bndO bound id x)) rfl (bnd_keeps hb) (evalArgs_nil3 ⟨N.get hm, h⟩)
end
section
variable {w : World} {A : Around} {s : Shared} {b : Heap} {mg mb : Str → Option Value} {news : List (Addr × Obj)}
  {R : Result → Shared → Prop} {name qual : Str} {params : Arguments} {body : List Stmt} {scope : Scope} {dV kV doc pm cdv ct oc : Value} {an od : Option Addr} {osl : Array (Option Value)} {f cc : Addr} {args : Args} {binds : List (Str × Value)}
/- a def that closes over __class__ is entered -/
theorem enterS (B : Base w mg mb b) (kb : Sub b s.heap) (N : ∀ p ∈ news, s.heap.get? p.1 = some p.2 ∧ b.get? p.1 = none)
    (ho : (K9 w.params).lookup f = some ⟨oc, od, .func (ksFn name qual params body scope dV kV doc pm an cdv ct cc), osl⟩) (hcd : codeIn (K9 w.params) cdv qual = true) (hroom : A.depth < recursionLimit)
    (hbind : BindsTo s (ksFn name qual params body scope dV kV doc pm an cdv ct cc) args binds) (hloc : ∀ y ∈ binds, scope.names.lookup y.1 = some .local)
    (h : ∀ g L' h₁ tk, Fr g L' h₁ (fun y => binds.reverse.lookup y) → News g L' h₁ news → (K9 w.params).In g → TopRead view lo mg mb g → But (news.map (·.1)) s.heap g → Sub b g → s.heap.objs.size ≤ L' →
      _root_.PySem.wpAt (model pw w) (A.deeper (ksEnv qual scope L' f cdv cc)) (.func body (ksEnv qual scope L' f cdv cc)) (execs body (ksEnv qual scope L' f cdv cc))
        (fun fl s' => R (.ok (.ret (match fl with | .ret v => v | _ => .none))) s')
        (fun _ _ => False)
        { s with heap := h₁, toks := tk })
    (hcell : ∀ x ∈ scope.names, x.2 ≠ .cell := by decide) (hco : scope.isCoroutine = false := by rfl) (hgen : scope.isGenerator = false := by rfl) (hk : scope.kind = .function := by rfl) : codeAny (model pw w) A (.call (.ref f) args) R s := by
  have st : Sub b (hideAll s.heap (news.map (·.1))) := fun a o e => hideAll_get _ (kb a o e) fun hm => by
    obtain ⟨p, hp, rfl⟩ := List.mem_map.mp hm
    rw [(N p hp).2] at e; cases e
  have BK := B.K.keeps st
  have BT := B.T.keeps st
  have Bs := B.K.keeps kb
  refine ks_codeAny_call_defAt (fd := ksFn name qual params body scope dV kV doc pm an cdv ct cc) (body := body) (binds := binds) hroom (Bs _ _ ho) rfl (B.T.nolimit.keeps kb) (codeRec_of Bs hcd) rfl hbind hcell hloc (fun h₁ hns hk₁ => ?_) hco hgen hk
  refine ks_wpAt_mono (h _ s.heap.objs.size h₁ _ ⟨hns, fun b o e => hk₁ b o (of_hideAll _ e), Nat.le_of_eq (hideAll_size _ _)⟩
    (fun p hp => ⟨hk₁ _ _ (N p hp).1, Nat.ne_of_lt (Heap.lt_size (N p hp).1), hideAll_none _ (List.mem_map_of_mem hp)⟩) BK BT (fun a o n e => hideAll_get _ e n) st (Nat.le_refl _)) (fun _ _ z => z) fun _ _ z => z.elim
end
end Mine
end
section
open PySem PySem.W PyProof.Rows PySem.Calls PySem.Spec
set_option maxRecDepth 100000
set_option maxHeartbeats 8000000
set_option pp.deepTerms false
set_option pp.maxSteps 20000
namespace Mine
theorem dummyV1 : True := by
  k_with_none
  w_top off
  k_with "lt8" => with_reducible first | assumption | exact And.left (by assumption) | exact And.left (And.right (by assumption)) | exact And.left (And.right (And.right (by assumption))) | exact And.left (And.right (And.right (And.right (by assumption)))) | exact And.left (And.right (And.right (And.right (And.right (by assumption))))) | exact And.left (And.right (And.right (And.right (And.right (And.right (by assumption)))))) | exact And.left (And.right (And.right (And.right (And.right (And.right (And.right (by assumption))))))) | exact And.left (And.right (And.right (And.right (And.right (And.right (And.right (And.right (by assumption)))))))) | exact And.left (And.right (And.right (And.right (And.right (And.right (And.right (And.right (And.right (by assumption))))))))) | exact And.left (And.right (And.right (And.right (And.right (And.right (And.right (And.right (And.right (And.right (by assumption)))))))))) | exact And.left (And.right (And.right (And.right (And.right (And.right (And.right (And.right (And.right (And.right (And.right (by assumption))))))))))) | exact And.left (And.right (And.right (And.right (And.right (And.right (And.right (And.right (And.right (And.right (And.right (And.right (by assumption)))))))))))) | exact And.left (And.right (And.right (And.right (And.right (And.right (And.right (And.right (And.right (And.right (And.right (And.right (And.right (by assumption)))))))))))))
  k_with "lt9" => first | exact Nat.ne_of_lt (by walk_at "lt8") | exact Nat.ne_of_gt (by walk_at "lt8")
  trivial
theorem withV1x3 : True := by
  k_with_none
  w_top off
  k_with "lt8" => with_reducible first | assumption | exact And.left (by assumption) | exact And.left (And.right (by assumption)) | exact And.left (And.right (And.right (by assumption))) | exact And.left (And.right (And.right (And.right (by assumption)))) | exact And.left (And.right (And.right (And.right (And.right (by assumption))))) | exact And.left (And.right (And.right (And.right (And.right (And.right (by assumption)))))) | exact And.left (And.right (And.right (And.right (And.right (And.right (And.right (by assumption))))))) | exact And.left (And.right (And.right (And.right (And.right (And.right (And.right (And.right (by assumption)))))))) | exact And.left (And.right (And.right (And.right (And.right (And.right (And.right (And.right (And.right (by assumption))))))))) | exact And.left (And.right (And.right (And.right (And.right (And.right (And.right (And.right (And.right (And.right (by assumption)))))))))) | exact And.left (And.right (And.right (And.right (And.right (And.right (And.right (And.right (And.right (And.right (And.right (by assumption))))))))))) | exact And.left (And.right (And.right (And.right (And.right (And.right (And.right (And.right (And.right (And.right (And.right (And.right (by assumption)))))))))))) | exact And.left (And.right (And.right (And.right (And.right (And.right (And.right (And.right (And.right (And.right (And.right (And.right (And.right (by assumption)))))))))))))
  k_with "lt9" => first | exact Nat.ne_of_lt (by walk_at "lt8") | exact Nat.ne_of_gt (by walk_at "lt8")
  k_with "k_inst" => (refine' acc_inst ?kw9N ?kw9h1 ?kw9h2; (case kw9N => k_asm); (case kw9h1 => k_mem); (case kw9h2 => k_mem))
  k_with "getMethod ref" => (k_here; k_dflt (refine' acc_method ?kw9k2 ?kw9k3 ?kw9k4 ?kw9k5 ?kw9k6 ?kw9k7 ?kw9k8 ?_ ?kw9k9; (case kw9k2 => k_in); (case kw9k3 => k_inst); (case kw9k4 => k_is); (case kw9k5 => k_is); (case kw9k6 => k_is); (case kw9k7 => k_is); (case kw9k8 => k_get); (case kw9k9 => decide +kernel); k_whole))
  k_with "getAttr ref" => (k_here; k_dflt (refine' acc_get_own ?kw9k1 ?kw9k2 ?kw9k3 ?kw9k4 ?kw9k5 ?kw9k6 ?kw9k7 ?kw9k8 ?kw9k9 ?kw9k10 ?_; (case kw9k1 => k_in); (case kw9k2 => k_inst); (case kw9k3 => k_is); (case kw9k4 => k_is); (case kw9k5 => k_is); (case kw9k6 => k_is); (case kw9k7 => k_is); (case kw9k8 => k_is); (case kw9k9 => k_get); (case kw9k10 => k_handed); k_whole))
  k_with "wpAt" => (ks_step "attributeBase Call"; k_here; k_dflt (refine sg_node (by k_asm) (by k_asm) (by k_asm) (by k_asm) (by k_is) (by rfl) (by rfl) (by k_inst) (by k_is) (by rfl) (by first | rfl | decide +kernel) (by k_is) (by k_is) (by k_is) (by k_is) (by decide) (by rfl) (by rfl) (by rfl) (by rfl) (by decide +kernel) (by first | boot_by_name | rfl | kernel_rfl) ?_; intro _ _ _ _ l1; (try k_lt l1); (try (revert l1; intro _))))
  k_with "getMethod ref" => (k_here; k_dflt (refine' sg_method (id := "list.__len__") ?kw9k1 ?kw9k2 ?kw9k3 ?kw9k4 ?kw9k5 ?kw9k6 ?kw9k7 type_len sg_slot_wget.lookup ?kw9k8 (fun A Q => hget_len A Q) ?kw9k9 ?_; (case kw9k1 => k_asm); (case kw9k2 => k_asm); (case kw9k3 => k_asm); (case kw9k4 => k_mem); (case kw9k5 => k_inst); (case kw9k6 => k_is); (case kw9k7 => ks_is); (case kw9k8 => k_is); (case kw9k9 => decide); intro _ _ _ _ l1; (try k_lt l1); (try (revert l1; intro _))))
  k_with "getMethod ref" => (k_here; k_dflt (refine' sg_method (id := "list.pop") ?kw9k1 ?kw9k2 ?kw9k3 ?kw9k4 ?kw9k5 ?kw9k6 ?kw9k7 type_pop sg_slot_mget.lookup ?kw9k8 (fun A Q => hget_pop A Q) ?kw9k9 ?_; (case kw9k1 => k_asm); (case kw9k2 => k_asm); (case kw9k3 => k_asm); (case kw9k4 => k_mem); (case kw9k5 => k_inst); (case kw9k6 => k_is); (case kw9k7 => ks_is); (case kw9k8 => k_is); (case kw9k9 => decide); intro _ _ _ _ l1; (try k_lt l1); (try (revert l1; intro _))))
  trivial

theorem withV1x4 : True := by
  k_with "callWith" => (k_here; k_dflt (refine' callWith_b0 ?kw9k1 ?kw9k2 ?kw9k3 ?_; (case kw9k1 => k_asm); (case kw9k2 => k_mem); (case kw9k3 => first | exact .inl rfl | exact .inr rfl); k_whole; try dsimp only [List.nil_append, List.cons_append]))
  k_with "OLD" => repeat (first | exact fa_nil | (refine fa_cons ?_ ?_; (first | exact .inl (by k_mem) | exact .inr (by k_mem))))
  k_with "N0" => repeat (first | exact fa_nil | (refine fa_cons ⟨by assumption, by first | assumption | exact Base.n1 (by assumption) | exact Base.n2 (by assumption)⟩ ?_))
  trivial
theorem len_call {w : World} {A : Around} {E : Value → Shared → Prop} {s : Shared} {h₀ : Heap} {L q x dx : Addr} {news : List (Addr × Obj)} {parts : List Value} {n : Nat} {Q : Value → Shared → Prop} (N : News h₀ L s.heap news) (hq : (q, bndO "method-wrapper" "list.__len__" x) ∈ news) (hx : (x, accO dx parts n) ∈ news)
    (h : ∀ t tk, Q (.int parts.length t) { s with toks := tk }) : wpAny (model pw w) A (call (.ref q) []) Q E s :=
  len_bound (N.get hq) (N.get hx) (by simpa using h)
theorem withV1x5 : True := by
  k_with "call ref" => (k_here; k_dflt (refine' len_call ?kw9k1 ?kw9k2 ?kw9k3 ?_; (case kw9k1 => k_asm); (case kw9k2 => k_mem); (case kw9k3 => k_mem); k_whole); intro _ _)
  trivial
theorem pcount_c {w : World} {mg mb : Str → Option Value} {b : Heap} {s : Shared} {x dx : Addr} {parts : List Value} {n : Nat} {zt : Tok} {z : Value} {k : Nat} {Q E : Value → Shared → Prop}
    (B : Base w mg mb b) (kb : Sub b s.heap) (hx : s.heap.get? x = some (accO dx parts n)) (hx0 : b.get? x = none) (hdx : s.heap.get? dx = some (accD w.params zt z k)) (hdx0 : b.get? dx = none)
    (hret : ∀ h' tk' t', But [] s.heap h' → Q (.int parts.length t') { s with heap := h', toks := tk' }) :
    wpAny (model pw w) (Av 13) (call (.ref 211) [.ref x]) Q E s := by
  refine wpAny_call ?_
  have N0 : ∀ p ∈ [(x, accO dx parts n), (dx, accD w.params zt z k)], s.heap.get? p.1 = some p.2 ∧ b.get? p.1 = none := by walk_at "N0"
  k_dflt (refine' enterS (binds := [(Str.ofString "self", .ref x)]) B kb N0 ?k4 ?k5 ?k6 ?k7 ?k8 ?_ ?k10 ?k11 ?k12 ?k13; (case k4 => k_is); (case k5 => k_is); (case k6 => decide); (case k7 => exact BindsTo.of_eq rfl); (case k8 => exact locs rfl); (case k10 => decide); (case k11 => exact rfl); (case k12 => exact rfl); (case k13 => exact rfl))
  intro g L' h₁ tk₀ F N X T hk hs hL
  (try dsimp only)
  (try k_fold)
  k_steps
  rename Fr _ _ _ _ => F9
  rename News _ _ _ _ => N9
  exact hret _ _ _ (but_same hk F9.keep N9 N0 (by walk_at "OLD"))
end Mine
end
section
open PySem PySem.W PyProof.Rows PySem.Calls PySem.Spec
set_option maxRecDepth 100000
set_option maxHeartbeats 8000000
set_option pp.deepTerms false
set_option pp.maxSteps 20000
namespace Mine
theorem dummyV2 : True := by
  k_with_none
  w_top off
  k_with "lt8" => with_reducible first | assumption | exact And.left (by assumption) | exact And.left (And.right (by assumption)) | exact And.left (And.right (And.right (by assumption))) | exact And.left (And.right (And.right (And.right (by assumption)))) | exact And.left (And.right (And.right (And.right (And.right (by assumption))))) | exact And.left (And.right (And.right (And.right (And.right (And.right (by assumption)))))) | exact And.left (And.right (And.right (And.right (And.right (And.right (And.right (by assumption))))))) | exact And.left (And.right (And.right (And.right (And.right (And.right (And.right (And.right (by assumption)))))))) | exact And.left (And.right (And.right (And.right (And.right (And.right (And.right (And.right (And.right (by assumption))))))))) | exact And.left (And.right (And.right (And.right (And.right (And.right (And.right (And.right (And.right (And.right (by assumption)))))))))) | exact And.left (And.right (And.right (And.right (And.right (And.right (And.right (And.right (And.right (And.right (And.right (by assumption))))))))))) | exact And.left (And.right (And.right (And.right (And.right (And.right (And.right (And.right (And.right (And.right (And.right (And.right (by assumption)))))))))))) | exact And.left (And.right (And.right (And.right (And.right (And.right (And.right (And.right (And.right (And.right (And.right (And.right (And.right (by assumption)))))))))))))
  k_with "lt9" => first | exact Nat.ne_of_lt (by walk_at "lt8") | exact Nat.ne_of_gt (by walk_at "lt8")
  trivial
theorem withV2x6 : True := by
  k_with_none
  w_top off
  k_with "lt8" => with_reducible first | assumption | exact And.left (by assumption) | exact And.left (And.right (by assumption)) | exact And.left (And.right (And.right (by assumption))) | exact And.left (And.right (And.right (And.right (by assumption)))) | exact And.left (And.right (And.right (And.right (And.right (by assumption))))) | exact And.left (And.right (And.right (And.right (And.right (And.right (by assumption)))))) | exact And.left (And.right (And.right (And.right (And.right (And.right (And.right (by assumption))))))) | exact And.left (And.right (And.right (And.right (And.right (And.right (And.right (And.right (by assumption)))))))) | exact And.left (And.right (And.right (And.right (And.right (And.right (And.right (And.right (And.right (by assumption))))))))) | exact And.left (And.right (And.right (And.right (And.right (And.right (And.right (And.right (And.right (And.right (by assumption)))))))))) | exact And.left (And.right (And.right (And.right (And.right (And.right (And.right (And.right (And.right (And.right (And.right (by assumption))))))))))) | exact And.left (And.right (And.right (And.right (And.right (And.right (And.right (And.right (And.right (And.right (And.right (And.right (by assumption)))))))))))) | exact And.left (And.right (And.right (And.right (And.right (And.right (And.right (And.right (And.right (And.right (And.right (And.right (And.right (by assumption)))))))))))))
  k_with "lt9" => first | exact Nat.ne_of_lt (by walk_at "lt8") | exact Nat.ne_of_gt (by walk_at "lt8")
  k_with "k_inst" => (refine' acc_inst ?kw9N ?kw9h1 ?kw9h2; (case kw9N => k_asm); (case kw9h1 => k_mem); (case kw9h2 => k_mem))
  k_with "getMethod ref" => (k_here; k_dflt (refine' acc_method ?kw9k2 ?kw9k3 ?kw9k4 ?kw9k5 ?kw9k6 ?kw9k7 ?kw9k8 ?_ ?kw9k9; (case kw9k2 => k_in); (case kw9k3 => k_inst); (case kw9k4 => k_is); (case kw9k5 => k_is); (case kw9k6 => k_is); (case kw9k7 => k_is); (case kw9k8 => k_get); (case kw9k9 => decide +kernel); k_whole))
  k_with "getAttr ref" => (k_here; k_dflt (refine' acc_get_own ?kw9k1 ?kw9k2 ?kw9k3 ?kw9k4 ?kw9k5 ?kw9k6 ?kw9k7 ?kw9k8 ?kw9k9 ?kw9k10 ?_; (case kw9k1 => k_in); (case kw9k2 => k_inst); (case kw9k3 => k_is); (case kw9k4 => k_is); (case kw9k5 => k_is); (case kw9k6 => k_is); (case kw9k7 => k_is); (case kw9k8 => k_is); (case kw9k9 => k_get); (case kw9k10 => k_handed); k_whole))
  k_with "wpAt" => (ks_step "attributeBase Call"; k_here; k_dflt (refine sg_node (by k_asm) (by k_asm) (by k_asm) (by k_asm) (by k_is) (by rfl) (by rfl) (by k_inst) (by k_is) (by rfl) (by first | rfl | decide +kernel) (by k_is) (by k_is) (by k_is) (by k_is) (by decide) (by rfl) (by rfl) (by rfl) (by rfl) (by decide +kernel) (by first | boot_by_name | rfl | kernel_rfl) ?_; intro _ _ _ _ l1; (try k_lt l1); (try (revert l1; intro _))))
  k_with "getMethod ref" => (k_here; k_dflt (refine' sg_method (id := "list.__len__") ?kw9k1 ?kw9k2 ?kw9k3 ?kw9k4 ?kw9k5 ?kw9k6 ?kw9k7 type_len sg_slot_wget.lookup ?kw9k8 (fun A Q => hget_len A Q) ?kw9k9 ?_; (case kw9k1 => k_asm); (case kw9k2 => k_asm); (case kw9k3 => k_asm); (case kw9k4 => k_mem); (case kw9k5 => k_inst); (case kw9k6 => k_is); (case kw9k7 => ks_is); (case kw9k8 => k_is); (case kw9k9 => decide); intro _ _ _ _ l1; (try k_lt l1); (try (revert l1; intro _))))
  k_with "getMethod ref" => (k_here; k_dflt (refine' sg_method (id := "list.pop") ?kw9k1 ?kw9k2 ?kw9k3 ?kw9k4 ?kw9k5 ?kw9k6 ?kw9k7 type_pop sg_slot_mget.lookup ?kw9k8 (fun A Q => hget_pop A Q) ?kw9k9 ?_; (case kw9k1 => k_asm); (case kw9k2 => k_asm); (case kw9k3 => k_asm); (case kw9k4 => k_mem); (case kw9k5 => k_inst); (case kw9k6 => k_is); (case kw9k7 => ks_is); (case kw9k8 => k_is); (case kw9k9 => decide); intro _ _ _ _ l1; (try k_lt l1); (try (revert l1; intro _))))
  trivial

theorem withV2x7 : True := by
  k_with "wpAt" => (dsimp only; ks_step "execs cons"; refine ks_wpAt_execs_cons ?_)
  k_with "wpAt" => (ks_step "eval Call"; refine' ks_wpAt_MethodCall ?kw9hh ?kw9he; (case kw9he => with_unfolding_all rfl))
  k_with "callWith" => (k_here; k_dflt (refine' callWith_b0 ?kw9k1 ?kw9k2 ?kw9k3 ?_; (case kw9k1 => k_asm); (case kw9k2 => k_mem); (case kw9k3 => first | exact .inl rfl | exact .inr rfl); k_whole; try dsimp only [List.nil_append, List.cons_append]))
  k_with "OLD" => repeat (first | exact fa_nil | (refine fa_cons ?_ ?_; (first | exact .inl (by k_mem) | exact .inr (by k_mem))))
  k_with "N0" => repeat (first | exact fa_nil | (refine fa_cons ⟨by assumption, by first | assumption | exact Base.n1 (by assumption) | exact Base.n2 (by assumption)⟩ ?_))
  k_with "call ref" => (k_here; k_dflt (refine' len_call ?kw9k1 ?kw9k2 ?kw9k3 ?_; (case kw9k1 => k_asm); (case kw9k2 => k_mem); (case kw9k3 => k_mem); k_whole); intro _ _)
  trivial

theorem pop_c {w : World} {mg mb : Str → Option Value} {b : Heap} {s : Shared} {x dx : Addr} {parts : List Value} {v : Value} {n : Nat} {zt : Tok} {z : Value} {k : Nat} {Q E : Value → Shared → Prop}
    (B : Base w mg mb b) (kb : Sub b s.heap) (hx : s.heap.get? x = some (accO dx (parts ++ [v]) n)) (hx0 : b.get? x = none) (hdx : s.heap.get? dx = some (accD w.params zt z k)) (hdx0 : b.get? dx = none) (hsz : parts.length < 100)
    (hret : ∀ h' tk', But [x] s.heap h' → h'.get? x = some (accO dx parts (n + 1)) → Q v { s with heap := h', toks := tk' }) :
    wpAny (model pw w) (Av 12) (call (.ref 174) [.ref x]) Q E s := by
  refine wpAny_call ?_
  have N0 : ∀ p ∈ [(x, accO dx (parts ++ [v]) n), (dx, accD w.params zt z k)], s.heap.get? p.1 = some p.2 ∧ b.get? p.1 = none := by walk_at "N0"
  k_dflt (refine' enterS (binds := [(Str.ofString "self", .ref x)]) B kb N0 ?k4 ?k5 ?k6 ?k7 ?k8 ?_ ?k10 ?k11 ?k12 ?k13; (case k4 => k_is); (case k5 => k_is); (case k6 => decide); (case k7 => exact BindsTo.of_eq rfl); (case k8 => exact locs rfl); (case k10 => decide); (case k11 => exact rfl); (case k12 => exact rfl); (case k13 => exact rfl))
  intro g L' h₁ tk₀ F N X T hk hs hL
  (try dsimp only)
  (try k_fold)
  k_steps
  dsimp only [List.append_nil, List.nil_append, List.cons_append]
  refine lift (pcount_c B (subF hs F) (N.get (.head _)) hx0 (N.get (.tail _ (.head _))) hdx0 (fun h' tk' t' b' => ?_)) rfl (by with_unfolding_all exact Nat.le_of_ble_eq_true rfl) (by with_unfolding_all exact Nat.le_of_ble_eq_true rfl) rfl rfl
  obtain ⟨F2, N2⟩ := after0 F N b'
  clear F N
  k_steps
  · rename _ = 0 => e0
    exfalso
    simp only [List.length_append, List.length_cons, List.length_nil] at e0
    (first | lia | omega)
  · rename Fr _ _ _ _ => F9
    rename News _ _ _ _ => N9
    refine bound_call (N9.get (.head _)) (.inr rfl) PySem.F.entry_list_pop (by decide +kernel) (fun Q' hq => pop_check (X.keeps F9.keep) (acc_inst N9 (.tail _ (.tail _ (.head _))) (.tail _ (.tail _ (.tail _ (.head _))))) (by k_is) (by k_is) (by k_is) rfl hq) (pop_body (N9.get (.tail _ (.tail _ (.head _)))) (fun h' hs ho => ?_) (Nat.lt_of_lt_of_le hsz (by decide)))
    have hN := N9 _ (.tail _ (.tail _ (.head _)))
    refine hret _ _ (but_end hk (F9.change hs hN.2.1 hN.2.2).keep ?_) ho
    refine fa_cons (.inl (.head _)) (fa_cons (.inr ?_) fa_nil)
    have n1 : dx ≠ x := ne_of_get hdx hx fun e => nomatch (congrArg Obj.data e)
    exact (hs.2 _ n1).trans ((N9.get (.tail _ (.tail _ (.tail _ (.head _))))).trans hdx.symm)
end Mine
end
section
open PySem PySem.W PyProof.Rows PySem.Calls PySem.Spec
set_option maxRecDepth 100000
set_option maxHeartbeats 8000000
set_option pp.deepTerms false
set_option pp.maxSteps 20000
namespace Mine
section
variable {prog : Program} {w : World} {A : Around} {E : Value → Shared → Prop} {s : Shared} {K : Frag} {x C dx L : Addr} {ox : Obj} {od : Option Obj} {name : Str}
theorem acc_special {id : String} {args : List Value} {Q : Option Value → Shared → Prop} (X : K.In s.heap) (I : InstAt s.heap x ox C od) (hf : findIn K (.ref C) name = some (some (.builtin id))) (hb : ∀ v, bindSpecial (.builtin id) v = pure (.builtin id, [v]))
    (h : wpAny (model prog w) A (call (.builtin id) (.ref x :: args)) (fun v => Q (some v)) E s) : wpAny (model prog w) A (callSpecial? (.ref x) name args) Q E s := by
  unfold callSpecial? specialOf
  refine wpAny_bind (wpAny_bind (I.type.here ((looks_findIn X hf).here ?_)))
  dsimp only
  rw [hb]
  exact wpAny_holding (wpAny_bind (wpAny_pure (wpAny_bind (wpAny_mono h (fun _ _ z => wpAny_pure z) fun _ _ z => z))))
theorem acc_getItem {v : Value} {Q : Value → Shared → Prop} (X : K.In s.heap) (I : InstAt s.heap x ox C od) (hq : noSeq K C = true) (hf : findIn K (.ref C) "__getitem__" = some (some (.builtin "list.__getitem__"))) (hm : mroIn K C (.type "list") = some true)
    (h : wpAny (model prog w) A.in1 (Builtin.«list.__getitem__» ⟨[.ref x, v], []⟩) (fun fin s' => ∃ v, fin = .done (.ret v) ∧ Q v s') E s) : wpAny (model prog w) A (getItem (.ref x) v) Q E s := by
  unfold getItem sequenceKey
  refine wpAny_holding (wpAny_bind (wpAny_bind (I.type.here ?_)))
  refine wpAny_bind ((anyM_none X hq).here ?_)
  rw [if_pos (show (!false) = true from rfl)]
  refine wpAny_pure (wpAny_bind (acc_special X I hf (fun v => by simp only [bindSpecial, typeOf]; rfl) ?_))
  exact sub_call (nm := "__getitem__") (looks_inst X I hm) entry_list_getitem (args_list_getitem _ _) (wpAny_mono h (fun fin s' ⟨v, e, q⟩ => ⟨v, e, wpAny_pure q⟩) fun _ _ e => e)
theorem acc_setItem {v u : Value} {Q : Unit → Shared → Prop} (X : K.In s.heap) (I : InstAt s.heap x ox C od) (hq : noSeq K C = true) (hf : findIn K (.ref C) "__setitem__" = some (some (.builtin "list.__setitem__"))) (hm : mroIn K C (.type "list") = some true)
    (h : wpAny (model prog w) A.in1 (Builtin.«list.__setitem__» ⟨[.ref x, v, u], []⟩) (fun fin s' => ∃ v, fin = .done (.ret v) ∧ Q () s') E s) : wpAny (model prog w) A (setItem (.ref x) v u) Q E s := by
  unfold setItem sequenceKey
  refine wpAny_holding (wpAny_bind (wpAny_bind (I.type.here ?_)))
  refine wpAny_bind ((anyM_none X hq).here ?_)
  rw [if_pos (show (!false) = true from rfl)]
  refine wpAny_pure (wpAny_bind (acc_special X I hf (fun v => by simp only [bindSpecial, typeOf]; rfl) ?_))
  exact sub_call (nm := "__setitem__") (looks_inst X I hm) PySem.F.entry_list_setitem (PySem.F.args_list_setitem_3 _ _ _) (wpAny_mono h (fun fin s' ⟨v, e, q⟩ => ⟨v, e, wpAny_pure q⟩) fun _ _ e => e)
noncomputable abbrev slcO (a b : Value) : Obj := { cls := .type "slice", data := .fields #[a, b, .none] }
theorem getitem_slice {its : Array Value} {n : Nat} {sl : Addr} {vl vu : Value} {lo hi : Option Int} {dd : Option Addr} {cl : Value} {Q : Value → Shared → Prop} (hx : s.heap.get? x = some { cls := cl, dict := dd, data := .seq its n }) (hs : s.heap.get? sl = some (slcO vl vu)) (pl : IsPart vl lo) (pu : IsPart vu hi)
    (h : Q (.ref s.heap.objs.size) { s with heap := s.heap.push { cls := .type "list", data := .seq (slicePick its lo hi none) } }) (hsz : its.size ≤ sizeLine) :
    wpAny (model prog w) A (Builtin.«list.__getitem__» ⟨[.ref x, .ref sl], []⟩) (fun fin s' => ∃ v, fin = .done (.ret v) ∧ Q v s') E s := by
  have hTs : s.TypeIs (.ref sl) "slice" := ⟨_, hs, rfl⟩
  show wpAny _ _ (Builtin.List.listSubscript? (.ref sl) >>= _) _ _ s
  refine wpAny_bind ?_
  unfold Builtin.List.listSubscript?
  refine wpAny_bind (wpAny_specialOf hTs slice_no_index ?_)
  simp only [Option.isNone_none, if_true]
  refine wpAny_pure ?_
  show wpAny _ _ (typeOf (.ref sl) >>= _) _ _ s
  refine wpAny_bind (wpAny_typeOf hTs ?_)
  rw [if_neg (by decide)]
  rw [listSliceParts_eq]
  refine wpAny_bind (wpAny_bind (wpAny_field hs rfl (x := .none) rfl (wpAny_bind (wpAny_listPart .none ?_))))
  rw [if_neg (by decide)]
  refine wpAny_bind (wpAny_field hs rfl (x := vl) rfl (wpAny_bind (wpAny_listPart pl ?_)))
  refine wpAny_bind (wpAny_field hs rfl (x := vu) rfl (wpAny_bind (wpAny_listPart pu (wpAny_pure ?_))))
  refine wpAny_bind (m := Builtin.List.listItems (.ref x)) ?_
  unfold Builtin.List.listItems
  refine wpAny_bind (wpAny_seqItems hx rfl (wpAny_pure ?_))
  refine wpAny_bind (wpAny_of_eq (sliceIndices_raw lo hi none its.size (by simp)) ?_)
  exact wpAny_bind (wpAny_newObj_type (wpAny_pure ⟨_, rfl, h⟩) (Nat.le_trans (slicePick_size_le its lo hi none) hsz))
theorem getitem_int {its : Array Value} {n : Nat} {k : Int} {t : Tok} {v : Value} {dd : Option Addr} {cl : Value} {Q : Value → Shared → Prop} (hx : s.heap.get? x = some { cls := cl, dict := dd, data := .seq its n }) (h0 : 0 ≤ k) (hf : Builtin.List.listFitsIndex k = true) (hk : its[k.toNat]? = some v)
    (h : Q v s) :
    wpAny (model prog w) A (Builtin.«list.__getitem__» ⟨[.ref x, .int k t], []⟩) (fun fin s' => ∃ v, fin = .done (.ret v) ∧ Q v s') E s := by
  show wpAny _ _ (Builtin.List.listSubscript? (.int k t) >>= _) _ _ s
  refine wpAny_bind (wpAny_listSubscript_int hf ?_)
  clear hf
  obtain ⟨j, rfl⟩ := Int.eq_ofNat_of_zero_le h0
  have hk' : its[j]? = some v := hk
  show wpAny _ _ ((seqItemAt x j >>= fun r => pure (r.map (j, ·))) >>= _) _ _ s
  refine wpAny_bind (wpAny_bind (wpAny_seqItemAt hx rfl (wpAny_pure ?_)))
  rw [hk']
  first
    | exact wpAny_bind (wpAny_pure (wpAny_pure ⟨v, rfl, h⟩))
    | exact wpAny_pure ⟨v, rfl, h⟩
theorem setitem_slice {its new : Array Value} {n n' : Nat} {sl y : Addr} {vl vu : Value} {lo hi : Option Int} {dd : Option Addr} {cl : Value} {a b : Nat} {Q : Unit → Shared → Prop} (hx : s.heap.get? x = some { cls := cl, dict := dd, data := .seq its n }) (hs : s.heap.get? sl = some (slcO vl vu)) (hy : s.heap.get? y = some { cls := .type "list", data := .seq new n' }) (hxy : x ≠ y)
    (pl : IsPart vl lo) (pu : IsPart vu hi) (hb : sliceBounds lo hi none its.size = ((a : Int), (b : Int), 1))
    (h : ∀ h' n2, Heap.SameBut x s.heap h' → h'.get? x = some { cls := cl, dict := dd, data := .seq (its.extract 0 a ++ new ++ its.extract (max a b) its.size) n2 } → Q () { s with heap := h' }) (hsz : its.size ≤ 1000) (hsz2 : new.size ≤ 1000) :
    wpAny (model prog w) A (Builtin.«list.__setitem__» ⟨[.ref x, .ref sl, .ref y], []⟩) (fun fin s' => ∃ v, fin = .done (.ret v) ∧ Q () s') E s := by
  obtain ⟨hp, g, d, tk, os⟩ := s
  have hTs : (⟨hp, g, d, tk, os⟩ : Shared).TypeIs (.ref sl) "slice" := ⟨_, hs, rfl⟩
  unfold Builtin.«list.__setitem__»
  repeat wp_step
  refine wpAny_of_eq slice_no_index ?_
  simp only [Option.isNone_none, if_true]
  refine wpAny_pure ?_
  refine wpAny_bind (wpAny_typeOf hTs ?_)
  rw [if_neg (by decide)]
  rw [listSliceParts_eq]
  refine wpAny_bind (wpAny_bind (wpAny_field hs rfl (x := .none) rfl (wpAny_bind (wpAny_listPart .none ?_))))
  rw [if_neg (by decide)]
  refine wpAny_bind (wpAny_field hs rfl (x := vl) rfl (wpAny_bind (wpAny_listPart pl ?_)))
  refine wpAny_bind (wpAny_field hs rfl (x := vu) rfl (wpAny_bind (wpAny_listPart pu (wpAny_pure ?_))))
  dsimp only
  rw [if_neg (show ¬ (Builtin.List.listSameRef (.ref x) (.ref y) = true) from by simp [Builtin.List.listSameRef, hxy])]
  unfold Builtin.List.listAllItems Builtin.List.listItems
  refine wpAny_bind (wpAny_bind (wpAny_typeOf (T := "list") ⟨_, hy, rfl⟩ ?_))
  rw [if_pos (by decide)]
  refine wpAny_bind (wpAny_seqItems hy rfl (wpAny_pure ?_))
  refine wpAny_bind (wpAny_bind (wpAny_seqItems hx rfl (wpAny_pure ?_)))
  refine wpAny_bind (wpAny_of_eq (sliceIndices_raw lo hi none its.size (by simp)) ?_)
  rw [hb]
  dsimp only
  rw [if_pos (by decide)]
  refine wpAny_bind (wpAny_rule ?_)
  have e24 : 2000 ≤ sizeLine := Nat.le_of_ble_eq_true rfl
  rw [if_neg (show ¬ (Builtin.List.listTooLong (its.size + new.size) = true) from by simp [Builtin.List.listTooLong]; (first | lia | omega))]
  unfold Builtin.List.listUpdate
  simp only [Int.toNat_natCast]
  have em : (max (a : Int) (b : Int)).toNat = max a b := by (first | lia | omega)
  rw [em]
  have e : Obj.mapSeq (fun xs => xs.extract 0 a ++ new ++ xs.extract (max a b) xs.size) { cls := cl, dict := dd, data := .seq its n } = { cls := cl, dict := dd, data := .seq (its.extract 0 a ++ new ++ its.extract (max a b) its.size) (if ((its.extract 0 a ++ new ++ its.extract (max a b)).size == its.size) = true then n else n + 1) } := rfl
  refine wpAny_bind ?_
  refine wpAny_updateSeq hx rfl (wpAny_bind (wpAny_letGo (wpAny_pure ⟨_, rfl, h _ (if ((its.extract 0 a ++ new ++ its.extract (max a b)).size == its.size) = true then n else n + 1) (Heap.SameBut.update ..) ?_⟩))) (by (first | lia | omega)) ?_
  · rw [Heap.get?_update_self _ hx (by rw [e]; rfl), e]
  · simp; (first | lia | omega)
end
end Mine
end
section
open PySem PySem.W PyProof.Rows PySem.Calls PySem.Spec
set_option maxRecDepth 100000
set_option maxHeartbeats 8000000
set_option pp.deepTerms false
set_option pp.maxSteps 20000
namespace Mine
section
variable {prog : Program} {w : World} {A : Around} {E : Value → Shared → Prop} {s : Shared} {K : Frag} {x C dx L : Addr} {ox od : Obj} {h₀ : Heap} {m : Str → Option Value} {news news' : List (Addr × Obj)} {parts : List Value} {n : Nat}
theorem acc_sub {value slice : Expr} {v : Value} {ops : List Value} {od : Option Obj} {Q : Value → Shared → Prop} (X : K.In s.heap) (I : InstAt s.heap x ox C od) (hq : noSeq K C = true) (hf : findIn K (.ref C) "__getitem__" = some (some (.builtin "list.__getitem__"))) (hm : mroIn K C (.type "list") = some true)
    (h : wpAny (model prog w) A.in1 (Builtin.«list.__getitem__» ⟨[.ref x, v], []⟩) (fun fin s' => ∃ v, fin = .done (.ret v) ∧ Q v s') E s) (hs : subscripted slice false (.ref x) v = operate ops (getItem (.ref x) v)) (ht : ∀ r, letTemporaryGo value (.ref x) r = pure ()) :
    wpAny (model prog w) A (subscriptTail value slice (.ref x) v) Q E s := by
  unfold subscriptTail getitemInPython specialOf
  refine wpAny_bind (wpAny_bind (wpAny_bind (I.type.here ((looks_findIn X hf).here ?_))))
  refine wpAny_pure ?_
  rw [hs]
  exact wpAny_bind (wpAny_operating (acc_getItem X I hq hf hm (wpAny_mono h (fun fin s' ⟨v, e, q⟩ => ⟨v, e, wpAny_bind (wpAny_of_eq (ht v) (wpAny_pure q))⟩) fun _ _ e => e)))
theorem acc_slice_K {value slice : Expr} {vl vu : Value} {lo hi : Option Int} {ops : List Value} {Q : Value → Shared → Prop} (F : Fr h₀ L s.heap m) (X₀ : K.In h₀) (N : News h₀ L s.heap news) (hx : (x, accO dx parts n) ∈ news) (hd : (dx, od) ∈ news)
    (hq : noSeq K 214 = true) (hf : findIn K (.ref 214) "__getitem__" = some (some (.builtin "list.__getitem__"))) (hm : mroIn K 214 (.type "list") = some true) (pl : IsPart vl lo) (pu : IsPart vu hi)
    (hs : subscripted slice false (.ref x) (.ref s.heap.objs.size) = operate ops (getItem (.ref x) (.ref s.heap.objs.size))) (ht : ∀ r, letTemporaryGo value (.ref x) r = pure ()) (hz : parts.length ≤ sizeLine)
    (h : ∀ D h', Fr h₀ L h' m → News h₀ L h' ((D, { cls := .type "list", data := .seq (slicePick parts.toArray lo hi none) }) :: news) → (∀ p ∈ news, p.1 < D) → Q (.ref D) { s with heap := h' }) :
    wpAny (model prog w) A (subscriptTail value slice (.ref x) (.ref s.heap.objs.size)) Q E { s with heap := s.heap.push (slcO vl vu) } := by
  have F1 := F.push (slcO vl vu)
  have N1 := News.push F N (slcO vl vu)
  have I : InstAt (s.heap.push (slcO vl vu)) x (accO dx parts n) 214 (some od) := ⟨(N1 _ (.tail _ hx)).1, rfl, rfl, (N1 _ (.tail _ hd)).1⟩
  refine acc_sub (s := { s with heap := s.heap.push (slcO vl vu) }) ((X₀.keeps F.keep).keeps fun _ _ e => Heap.get?_push_of_some _ e) I hq hf hm ?_ hs ht
  refine getitem_slice (N1 _ (.tail _ hx)).1 (N1 _ (.head _)).1 pl pu ?_ (by simpa using hz)
  have N2 := News.push F1 N1 { cls := .type "list", data := .seq (slicePick parts.toArray lo hi none) }
  refine h _ _ (F1.push _) (fun p hp => ?_) (fun p hp => ?_)
  · rcases List.mem_cons.mp hp with rfl | hp
    · exact N2 _ (.head _)
    · exact N2 _ (.tail _ (.tail _ hp))
  · exact Heap.lt_size (N1 p (.tail _ hp)).1
theorem acc_setslice_K {newsF : Nat → List (Addr × Obj)} {y : Addr} {new : List Value} {n' : Nat} {vl vu : Value} {lo hi : Option Int} {a b : Nat} {ps' : List Value} {Q : Unit → Shared → Prop} (F : Fr h₀ L s.heap m) (X₀ : K.In h₀) (N : News h₀ L s.heap news) (hd : (dx, od) ∈ news)
    (hq : noSeq K 214 = true) (hf : findIn K (.ref 214) "__setitem__" = some (some (.builtin "list.__setitem__"))) (hm : mroIn K 214 (.type "list") = some true) (pl : IsPart vl lo) (pu : IsPart vu hi)
    (hy : (y, { cls := .type "list", data := .seq new.toArray n' }) ∈ news) (hb : sliceBounds lo hi none parts.length = ((a : Int), (b : Int), 1)) (hp : parts.take a ++ new ++ parts.drop (max a b) = ps') (hz : parts.length ≤ 1000) (hz2 : new.length ≤ 1000)
    (hx : (x, accO dx parts n) ∈ news)
    (U : ∀ n2, Upd x (accO dx parts n) (accO dx ps' n2) news (newsF n2)) (h : ∀ h' n2, Fr h₀ L h' m → News h₀ L h' (newsF n2) → Q () { s with heap := h' }) :
    wpAny (model prog w) A (setItem (.ref x) (.ref s.heap.objs.size) (.ref y)) Q E { s with heap := s.heap.push (slcO vl vu) } := by
  have F1 := F.push (slcO vl vu)
  have N1 := News.push F N (slcO vl vu)
  have hxy : x ≠ y := ne_of_get (N _ hx).1 (N _ hy).1 fun e => nomatch (congrArg Obj.cls e)
  have I : InstAt (s.heap.push (slcO vl vu)) x (accO dx parts n) 214 (some od) := ⟨(N1 _ (.tail _ hx)).1, rfl, rfl, (N1 _ (.tail _ hd)).1⟩
  refine acc_setItem (s := { s with heap := s.heap.push (slcO vl vu) }) ((X₀.keeps F.keep).keeps fun _ _ e => Heap.get?_push_of_some _ e) I hq hf hm ?_
  refine setitem_slice (a := a) (b := b) (N1 _ (.tail _ hx)).1 (N1 _ (.head _)).1 (N1 _ (.tail _ hy)).1 hxy pl pu (by simpa using hb) (fun h' n2 hs ho => ?_) (by simpa using hz) (by simpa using hz2)
  have ep : parts.toArray.extract 0 a ++ new.toArray ++ parts.toArray.extract (max a b) parts.toArray.size = ps'.toArray := by
    rw [← hp]
    simp
    exact List.take_of_length_le (by simp)
  rw [ep] at ho
  have hN := N1 _ (.tail _ hx)
  refine h h' n2 (F1.change hs hN.2.1 hN.2.2) ?_
  obtain ⟨pre, post, rfl, e3, e1, e2⟩ := (U n2).split
  rw [e3]
  exact news_set (fun p hp => N1 p (.tail _ hp)) e1 e2 hs ho
end
end Mine
end
section
open PySem PySem.W PyProof.Rows PySem.Calls PySem.Spec
set_option maxRecDepth 100000
set_option maxHeartbeats 8000000
set_option pp.deepTerms false
set_option pp.maxSteps 20000
namespace Mine
theorem dummyV3 : True := by
  k_with_none
  w_top off
  k_with "lt8" => with_reducible first | assumption | exact And.left (by assumption) | exact And.left (And.right (by assumption)) | exact And.left (And.right (And.right (by assumption))) | exact And.left (And.right (And.right (And.right (by assumption)))) | exact And.left (And.right (And.right (And.right (And.right (by assumption))))) | exact And.left (And.right (And.right (And.right (And.right (And.right (by assumption)))))) | exact And.left (And.right (And.right (And.right (And.right (And.right (And.right (by assumption))))))) | exact And.left (And.right (And.right (And.right (And.right (And.right (And.right (And.right (by assumption)))))))) | exact And.left (And.right (And.right (And.right (And.right (And.right (And.right (And.right (And.right (by assumption))))))))) | exact And.left (And.right (And.right (And.right (And.right (And.right (And.right (And.right (And.right (And.right (by assumption)))))))))) | exact And.left (And.right (And.right (And.right (And.right (And.right (And.right (And.right (And.right (And.right (And.right (by assumption))))))))))) | exact And.left (And.right (And.right (And.right (And.right (And.right (And.right (And.right (And.right (And.right (And.right (And.right (by assumption)))))))))))) | exact And.left (And.right (And.right (And.right (And.right (And.right (And.right (And.right (And.right (And.right (And.right (And.right (And.right (by assumption)))))))))))))
  k_with "lt9" => first | exact Nat.ne_of_lt (by walk_at "lt8") | exact Nat.ne_of_gt (by walk_at "lt8")
  trivial
theorem withV3x8 : True := by
  k_with_none
  w_top off
  k_with "lt8" => with_reducible first | assumption | exact And.left (by assumption) | exact And.left (And.right (by assumption)) | exact And.left (And.right (And.right (by assumption))) | exact And.left (And.right (And.right (And.right (by assumption)))) | exact And.left (And.right (And.right (And.right (And.right (by assumption))))) | exact And.left (And.right (And.right (And.right (And.right (And.right (by assumption)))))) | exact And.left (And.right (And.right (And.right (And.right (And.right (And.right (by assumption))))))) | exact And.left (And.right (And.right (And.right (And.right (And.right (And.right (And.right (by assumption)))))))) | exact And.left (And.right (And.right (And.right (And.right (And.right (And.right (And.right (And.right (by assumption))))))))) | exact And.left (And.right (And.right (And.right (And.right (And.right (And.right (And.right (And.right (And.right (by assumption)))))))))) | exact And.left (And.right (And.right (And.right (And.right (And.right (And.right (And.right (And.right (And.right (And.right (by assumption))))))))))) | exact And.left (And.right (And.right (And.right (And.right (And.right (And.right (And.right (And.right (And.right (And.right (And.right (by assumption)))))))))))) | exact And.left (And.right (And.right (And.right (And.right (And.right (And.right (And.right (And.right (And.right (And.right (And.right (And.right (by assumption)))))))))))))
  k_with "lt9" => first | exact Nat.ne_of_lt (by walk_at "lt8") | exact Nat.ne_of_gt (by walk_at "lt8")
  k_with "k_inst" => (refine' acc_inst ?kw9N ?kw9h1 ?kw9h2; (case kw9N => k_asm); (case kw9h1 => k_mem); (case kw9h2 => k_mem))
  k_with "getMethod ref" => (k_here; k_dflt (refine' acc_method ?kw9k2 ?kw9k3 ?kw9k4 ?kw9k5 ?kw9k6 ?kw9k7 ?kw9k8 ?_ ?kw9k9; (case kw9k2 => k_in); (case kw9k3 => k_inst); (case kw9k4 => k_is); (case kw9k5 => k_is); (case kw9k6 => k_is); (case kw9k7 => k_is); (case kw9k8 => k_get); (case kw9k9 => decide +kernel); k_whole))
  k_with "getAttr ref" => (k_here; k_dflt (refine' acc_get_own ?kw9k1 ?kw9k2 ?kw9k3 ?kw9k4 ?kw9k5 ?kw9k6 ?kw9k7 ?kw9k8 ?kw9k9 ?kw9k10 ?_; (case kw9k1 => k_in); (case kw9k2 => k_inst); (case kw9k3 => k_is); (case kw9k4 => k_is); (case kw9k5 => k_is); (case kw9k6 => k_is); (case kw9k7 => k_is); (case kw9k8 => k_is); (case kw9k9 => k_get); (case kw9k10 => k_handed); k_whole))
  k_with "wpAt" => (ks_step "attributeBase Call"; k_here; k_dflt (refine sg_node (by k_asm) (by k_asm) (by k_asm) (by k_asm) (by k_is) (by rfl) (by rfl) (by k_inst) (by k_is) (by rfl) (by first | rfl | decide +kernel) (by k_is) (by k_is) (by k_is) (by k_is) (by decide) (by rfl) (by rfl) (by rfl) (by rfl) (by decide +kernel) (by first | boot_by_name | rfl | kernel_rfl) ?_; intro _ _ _ _ l1; (try k_lt l1); (try (revert l1; intro _))))
  k_with "getMethod ref" => (k_here; k_dflt (refine' sg_method (id := "list.__len__") ?kw9k1 ?kw9k2 ?kw9k3 ?kw9k4 ?kw9k5 ?kw9k6 ?kw9k7 type_len sg_slot_wget.lookup ?kw9k8 (fun A Q => hget_len A Q) ?kw9k9 ?_; (case kw9k1 => k_asm); (case kw9k2 => k_asm); (case kw9k3 => k_asm); (case kw9k4 => k_mem); (case kw9k5 => k_inst); (case kw9k6 => k_is); (case kw9k7 => ks_is); (case kw9k8 => k_is); (case kw9k9 => decide); intro _ _ _ _ l1; (try k_lt l1); (try (revert l1; intro _))))
  k_with "getMethod ref" => (k_here; k_dflt (refine' sg_method (id := "list.pop") ?kw9k1 ?kw9k2 ?kw9k3 ?kw9k4 ?kw9k5 ?kw9k6 ?kw9k7 type_pop sg_slot_mget.lookup ?kw9k8 (fun A Q => hget_pop A Q) ?kw9k9 ?_; (case kw9k1 => k_asm); (case kw9k2 => k_asm); (case kw9k3 => k_asm); (case kw9k4 => k_mem); (case kw9k5 => k_inst); (case kw9k6 => k_is); (case kw9k7 => ks_is); (case kw9k8 => k_is); (case kw9k9 => decide); intro _ _ _ _ l1; (try k_lt l1); (try (revert l1; intro _))))
  trivial

theorem withV3x9 : True := by
  k_with "wpAt" => (dsimp only; ks_step "execs cons"; refine ks_wpAt_execs_cons ?_)
  k_with "wpAt" => (ks_step "eval Call"; refine' ks_wpAt_MethodCall ?kw9hh ?kw9he; (case kw9he => with_unfolding_all rfl))
  k_with "callWith" => (k_here; k_dflt (refine' callWith_b0 ?kw9k1 ?kw9k2 ?kw9k3 ?_; (case kw9k1 => k_asm); (case kw9k2 => k_mem); (case kw9k3 => first | exact .inl rfl | exact .inr rfl); k_whole; try dsimp only [List.nil_append, List.cons_append]))
  k_with "OLD" => repeat (first | exact fa_nil | (refine fa_cons ?_ ?_; (first | exact .inl (by k_mem) | exact .inr (by k_mem))))
  k_with "N0" => repeat (first | exact fa_nil | (refine fa_cons ⟨by assumption, by first | assumption | exact Base.n1 (by assumption) | exact Base.n2 (by assumption)⟩ ?_))
  k_with "call ref" => (k_here; k_dflt (refine' len_call ?kw9k1 ?kw9k2 ?kw9k3 ?_; (case kw9k1 => k_asm); (case kw9k2 => k_mem); (case kw9k3 => k_mem); k_whole); intro _ _)
  trivial

theorem bnd_last (ps : List Value) (k : Nat) (hk : k = ps.length + 1) : sliceBounds (some (ps.length : Int)) none none k = (((ps.length : Nat) : Int), ((ps.length + 1 : Nat) : Int), 1) := by
  have : ¬ ((ps.length : Int) < 0) := by (first | lia | omega)
  subst hk
  simp [sliceBounds, this]
  (first | lia | omega)
theorem pick_last (ps : List Value) (v : Value) : slicePick (ps ++ [v]).toArray (some (ps.length : Int)) none none = #[v] := by
  rw [kmk_pick_nat _ (bnd_last ps _ (by simp))]
  simp
theorem withV3x10 : True := by
  k_with "subscriptTail" => (k_here; k_dflt (refine' acc_slice_K (lo := some _) (hi := none) ?kw9F ?kw9X ?kw9N ?kw9hx ?kw9hd ?kw9hq ?kw9hf ?kw9hm (.int _ _) .none ?kw9hs ?kw9ht ?kw9hz ?_; (case kw9F => k_asm); (case kw9X => k_asm); (case kw9N => k_asm); (case kw9hx => k_mem); (case kw9hd => k_mem); (case kw9hq => k_is); (case kw9hf => k_is); (case kw9hm => k_is); (case kw9hs => with_unfolding_all rfl); (case kw9ht => (intro _; with_unfolding_all rfl)); (case kw9hz => assumption); k_whole); intro _ _ _ _ l1; (try k_lt l1); (try (revert l1; intro _)))
  trivial
theorem popfrom_c {w : World} {mg mb : Str → Option Value} {b : Heap} {s : Shared} {x dx : Addr} {parts : List Value} {v : Value} {n : Nat} {zt : Tok} {z : Value} {k : Nat} {ti : Tok} {Q E : Value → Shared → Prop}
    (B : Base w mg mb b) (kb : Sub b s.heap) (hx : s.heap.get? x = some (accO dx (parts ++ [v]) n)) (hx0 : b.get? x = none) (hdx : s.heap.get? dx = some (accD w.params zt z k)) (hdx0 : b.get? dx = none) (hsz : parts.length < 100)
    (hret : ∀ h' tk' r n' n2, But [x] s.heap h' → h'.get? x = some (accO dx parts n') → s.heap.get? r = none → h'.get? r = some { cls := .type "list", data := .seq #[v] n2 } → Q (.ref r) { s with heap := h', toks := tk' }) :
    wpAny (model pw w) (Av 12) (call (.ref 166) [.ref x, .int parts.length ti]) Q E s := by
  refine wpAny_call ?_
  have N0 : ∀ p ∈ [(x, accO dx (parts ++ [v]) n), (dx, accD w.params zt z k)], s.heap.get? p.1 = some p.2 ∧ b.get? p.1 = none := by walk_at "N0"
  k_dflt (refine' enter (binds := [(Str.ofString "self", .ref x), (Str.ofString "i", .int parts.length ti)]) B kb N0 ?k4 ?k5 ?k6 ?k7 ?k8 ?_ ?k10 ?k11 ?k12 ?k13; (case k4 => k_is); (case k5 => k_is); (case k6 => decide); (case k7 => exact BindsTo.of_defaults rfl (kb _ _ (B.K 159 _ (by k_is))) rfl rfl rfl); (case k8 => exact locs rfl); (case k10 => decide); (case k11 => exact rfl); (case k12 => exact rfl); (case k13 => exact rfl))
  intro g L' h₁ tk₀ F N X T hk hs hL
  (try dsimp only)
  (try k_fold)
  have hne : @Ne Nat x dx := ne_of_get hx hdx fun e => nomatch (congrArg Obj.cls e)
  have hz : (parts ++ [v]).length ≤ sizeLine := by
    have : 1000 ≤ sizeLine := Nat.le_of_ble_eq_true rfl
    simp
    (first | lia | omega)
  k_steps
  refine acc_setslice_K (parts := parts ++ [v]) (n := n) (dx := dx) (od := accD w.params zt z k) (n' := 0) (lo := some (parts.length : Int)) (hi := none) (a := parts.length) (b := parts.length + 1) (ps' := parts) (new := []) (by k_asm) (by k_asm) (by k_asm) (by k_mem) (by k_is) (by k_is) (by k_is) (.int _ _) .none (by k_mem) (bnd_last _ _ (by simp)) (by simp) (by simp; (first | lia | omega)) (by simp) (by k_mem) (by intro n2; k_upd) ?_
  intro h' n2 F' N'
  k_steps
  rename Fr _ _ _ _ => F9
  rename News _ _ _ _ => N9
  rename _ ∧ _ => l9
  have e9 := N9.get (.tail _ (.head _))
  rw [pick_last] at e9
  exact hret _ _ _ _ _ (but_same hk F9.keep N9 N0 (fa_cons (.inl (.head _)) (fa_cons (.inr (.tail _ (.tail _ (.tail _ (.head _))))) fa_nil))) (N9.get (.tail _ (.tail _ (.head _)))) (fresh_end hk (N9.fresh (.tail _ (.head _))) (fa_cons (by show @Ne Nat _ _; (first | lia | omega)) (fa_cons (by show @Ne Nat _ _; (first | lia | omega)) fa_nil))) e9
end Mine
end
section
open PySem PySem.W PyProof.Rows PySem.Calls PySem.Spec
set_option maxRecDepth 100000
set_option maxHeartbeats 8000000
set_option pp.deepTerms false
set_option pp.maxSteps 20000
open PySem.Builtin PySem.Builtin.ObjectAttr
namespace Mine
section
variable {prog : Program} {w : World} {A : Around} {E : Value → Shared → Prop} {R : Result → Shared → Prop} {s : Shared} {K : Frag} {x C dx L : Addr} {h₀ : Heap} {m : Str → Option Value} {news news' : List (Addr × Obj)}
theorem refuse_list (self : Value) (c : Addr) : refuseLoop self "__setattr__" [.ref c, .type "list", .type "object"] = pure () := by
  rw [refuseLoop_ref]
  kernel_rfl
theorem acc_osa {ox od od' : Obj} {name : Str} {tk : Tok} {v : Value} {pre post : List (Addr × Obj)} {es : List DictEntry} {n : Nat} {cd : ClassData} (F : Fr h₀ L s.heap m) (N : News h₀ L s.heap (pre ++ (dx, od) :: post)) (X : K.In s.heap)
    (I : InstAt s.heap x ox C (some od)) (hd : ox.dict = some dx) (hc : clsIn K C = some cd) (hmro : cd.mro = [.ref C, .type "list", .type "object"]) (ht : takerIn K C name = some none) (hh : cd.hasDict = true)
    (hl : (lookIn name od).isSome = true) (h1 : ∀ p ∈ pre, p.1 ≠ dx) (h2 : ∀ p ∈ post, p.1 ≠ dx)
    (e : Obj.putName name (PyData.keyHash w.params name) (.str name s.toks) v od = od') (e' : od'.data = .dict es.toArray n) (hz : es.length ≤ 1000)
    (h : ∀ h', Fr h₀ L h' m → News h₀ L h' (pre ++ (dx, od') :: post) → R (.ok (.ret .none)) { s with heap := h', toks := s.toks + 1 }) :
    codeAny (model prog w) A (.call (.builtin "object.__setattr__") ⟨[.ref x, .str name tk, v], []⟩) R s := by
  have SF := PySem.F.store_object
  have sub : Looks (model prog w) s.heap (isInstance (.ref x) (.type "object")) true := I.type.andThen (looks_mroIn X (by unfold mroIn; rw [hc, Option.bind_some, hmro]; simp))
  refine codeAny_call_builtin SF.slot.plain SF.entry (@check_slot (model prog w) _ _ s "object.__setattr__" "object" "__setattr__" (.ref x) [.str name tk, v] [] _ SF.kind SF.split sub (SF.args (.ref x) (.str name tk) v) ?_)
  obtain ⟨attr, ha, hr⟩ := Option.bind_eq_some_iff.mp ht
  have hm : Looks (model prog w) s.heap (mroOf (.ref C)) cd.mro := (looks_clsIn X hc).andThen .now
  have L3 : Looks (model prog w) s.heap (storeTaker? attr) none := by
    cases attr with
    | none => exact .now
    | some a =>
      obtain ⟨b, hb, hbb⟩ := Option.map_eq_some_iff.mp hr
      refine (looks_takesIn X hb).andThen ?_
      cases b with
      | true => cases hbb
      | false => exact .now
  rw [osa_eq, refuse_eq]
  refine wpAny_bind (wpAny_bind (I.type.here (wpAny_bind (hm.here ?_))))
  rw [hmro, refuse_list]
  refine wpAny_pure (wpAny_bind (I.type.here (wpAny_bind ((looks_findIn X ha).here (wpAny_bind (L3.here ?_))))))
  obtain ⟨U1, U2⟩ := news_upd (f := Obj.putName name (PyData.keyHash w.params name) (.str name s.toks) v) F N h1 h2 e (by obtain ⟨_, _, dd, _⟩ := od'; cases e'; rfl)
  have D := (N (dx, od) (by simp)).1
  have D' := (U2 (dx, od') (by simp)).1
  obtain ⟨hx, hcl, hn, -⟩ := I
  obtain ⟨oc, odi, oda, osl⟩ := ox
  dsimp only at hcl hd
  subst hcl hd
  refine wpAny_bind (wpAny_pure (wpAny_bind (wpAny_bind (wpAny_loadPart hx (wpAny_bind ((looks_clsIn X hc).here ?_))))))
  rw [hh]
  refine wpAny_pure (a := some dx) (wpAny_bind (wpAny_pure (wpAny_bind ?_)))
  unfold nsSet
  refine wpAny_bind (wpAny_bind (wpAny_askSetting (wpAny_pure (wpAny_bind (wpAny_mkText (wpAny_bind (wpAny_loadPart D ?_)))))))
  unfold lookIn at hl
  split at hl
  · rename_i es₀ n₀ q
    rw [q]
    dsimp only
    have c : (!es₀.any (·.key.isStr name) && es₀.any (·.refKey)) = false := by
      rw [← Array.any_toList, ← Array.any_toList]
      split at hl
      · rename_i en he
        rw [List.any_eq_true.mpr ⟨en, List.mem_of_find?_eq_some he, List.find?_some he⟩]; rfl
      · split at hl
        · cases hl
        · rename_i z; rw [Bool.not_eq_true] at z; rw [z, Bool.and_false]
    rw [aRefKeyMayBeTheName_at, c]
    refine wpAny_updatePart D ?_
    refine wpAny_bind (wpAny_lookBehind D' (by rw [e']; exact pastItsLine_dict (by rw [List.size_toArray, sizeLine_eq]; (first | lia | omega))) ?_)
    exact wpAny_pure (h _ U1 U2)
  · cases hl
theorem acc_set_dict {ox : Obj} {es es' : List DictEntry} {n n' : Nat} {name : Str} {v : Value} {cd : ClassData} {Q : Unit → Shared → Prop} (F : Fr h₀ L s.heap m) (X₀ : K.In h₀) (N : News h₀ L s.heap news) (I : InstAt s.heap x ox C (some (dictOf es n))) (hd : ox.dict = some dx)
    (hs : findIn K (.ref C) "__setattr__" = some (some (.builtin "object.__setattr__"))) (hc : clsIn K C = some cd) (hmro : cd.mro = [.ref C, .type "list", .type "object"]) (ht : takerIn K C name = some none) (hh : cd.hasDict = true) (hl : (getL name es).isSome = true)
    (e : (putL name (PyData.keyHash w.params name) (.str name (s.toks + 1)) v es, putN name es n) = (es', n')) (U : Upd dx (dictOf es n) (dictOf es' n') news news') (hz : es'.length ≤ 1000)
    (h : ∀ h', Fr h₀ L h' m → News h₀ L h' news' → Q () { s with heap := h', toks := s.toks + 2 }) :
    wpAny (model prog w) A (setAttr (.ref x) name v) Q E s := by
  obtain ⟨pre, post, rfl, rfl, a, b⟩ := U.split
  obtain ⟨e1, e2⟩ := Prod.mk.inj e
  exact set_plain (X₀.keeps F.keep) I hs (acc_osa (s := { s with toks := s.toks + 1 }) F N (X₀.keeps F.keep) I hd hc hmro ht hh hl a b (by rw [putName_dict, e1, e2]) rfl hz fun h' F' N' => h h' F' N')
end
end Mine
end
section
open PySem PySem.W PyProof.Rows PySem.Calls PySem.Spec
set_option maxRecDepth 100000
set_option maxHeartbeats 8000000
set_option pp.deepTerms false
set_option pp.maxSteps 20000
namespace Mine
theorem dummyV4 : True := by
  k_with_none
  w_top off
  k_with "lt8" => with_reducible first | assumption | exact And.left (by assumption) | exact And.left (And.right (by assumption)) | exact And.left (And.right (And.right (by assumption))) | exact And.left (And.right (And.right (And.right (by assumption)))) | exact And.left (And.right (And.right (And.right (And.right (by assumption))))) | exact And.left (And.right (And.right (And.right (And.right (And.right (by assumption)))))) | exact And.left (And.right (And.right (And.right (And.right (And.right (And.right (by assumption))))))) | exact And.left (And.right (And.right (And.right (And.right (And.right (And.right (And.right (by assumption)))))))) | exact And.left (And.right (And.right (And.right (And.right (And.right (And.right (And.right (And.right (by assumption))))))))) | exact And.left (And.right (And.right (And.right (And.right (And.right (And.right (And.right (And.right (And.right (by assumption)))))))))) | exact And.left (And.right (And.right (And.right (And.right (And.right (And.right (And.right (And.right (And.right (And.right (by assumption))))))))))) | exact And.left (And.right (And.right (And.right (And.right (And.right (And.right (And.right (And.right (And.right (And.right (And.right (by assumption)))))))))))) | exact And.left (And.right (And.right (And.right (And.right (And.right (And.right (And.right (And.right (And.right (And.right (And.right (And.right (by assumption)))))))))))))
  k_with "lt9" => first | exact Nat.ne_of_lt (by walk_at "lt8") | exact Nat.ne_of_gt (by walk_at "lt8")
  trivial
theorem withV4x11 : True := by
  k_with_none
  w_top off
  k_with "lt8" => with_reducible first | assumption | exact And.left (by assumption) | exact And.left (And.right (by assumption)) | exact And.left (And.right (And.right (by assumption))) | exact And.left (And.right (And.right (And.right (by assumption)))) | exact And.left (And.right (And.right (And.right (And.right (by assumption))))) | exact And.left (And.right (And.right (And.right (And.right (And.right (by assumption)))))) | exact And.left (And.right (And.right (And.right (And.right (And.right (And.right (by assumption))))))) | exact And.left (And.right (And.right (And.right (And.right (And.right (And.right (And.right (by assumption)))))))) | exact And.left (And.right (And.right (And.right (And.right (And.right (And.right (And.right (And.right (by assumption))))))))) | exact And.left (And.right (And.right (And.right (And.right (And.right (And.right (And.right (And.right (And.right (by assumption)))))))))) | exact And.left (And.right (And.right (And.right (And.right (And.right (And.right (And.right (And.right (And.right (And.right (by assumption))))))))))) | exact And.left (And.right (And.right (And.right (And.right (And.right (And.right (And.right (And.right (And.right (And.right (And.right (by assumption)))))))))))) | exact And.left (And.right (And.right (And.right (And.right (And.right (And.right (And.right (And.right (And.right (And.right (And.right (And.right (by assumption)))))))))))))
  k_with "lt9" => first | exact Nat.ne_of_lt (by walk_at "lt8") | exact Nat.ne_of_gt (by walk_at "lt8")
  k_with "k_inst" => (refine' acc_inst ?kw9N ?kw9h1 ?kw9h2; (case kw9N => k_asm); (case kw9h1 => k_mem); (case kw9h2 => k_mem))
  k_with "getMethod ref" => (k_here; k_dflt (refine' acc_method ?kw9k2 ?kw9k3 ?kw9k4 ?kw9k5 ?kw9k6 ?kw9k7 ?kw9k8 ?_ ?kw9k9; (case kw9k2 => k_in); (case kw9k3 => k_inst); (case kw9k4 => k_is); (case kw9k5 => k_is); (case kw9k6 => k_is); (case kw9k7 => k_is); (case kw9k8 => k_get); (case kw9k9 => decide +kernel); k_whole))
  k_with "getAttr ref" => (k_here; k_dflt (refine' acc_get_own ?kw9k1 ?kw9k2 ?kw9k3 ?kw9k4 ?kw9k5 ?kw9k6 ?kw9k7 ?kw9k8 ?kw9k9 ?kw9k10 ?_; (case kw9k1 => k_in); (case kw9k2 => k_inst); (case kw9k3 => k_is); (case kw9k4 => k_is); (case kw9k5 => k_is); (case kw9k6 => k_is); (case kw9k7 => k_is); (case kw9k8 => k_is); (case kw9k9 => k_get); (case kw9k10 => k_handed); k_whole))
  k_with "wpAt" => (ks_step "attributeBase Call"; k_here; k_dflt (refine sg_node (by k_asm) (by k_asm) (by k_asm) (by k_asm) (by k_is) (by rfl) (by rfl) (by k_inst) (by k_is) (by rfl) (by first | rfl | decide +kernel) (by k_is) (by k_is) (by k_is) (by k_is) (by decide) (by rfl) (by rfl) (by rfl) (by rfl) (by decide +kernel) (by first | boot_by_name | rfl | kernel_rfl) ?_; intro _ _ _ _ l1; (try k_lt l1); (try (revert l1; intro _))))
  k_with "getMethod ref" => (k_here; k_dflt (refine' sg_method (id := "list.__len__") ?kw9k1 ?kw9k2 ?kw9k3 ?kw9k4 ?kw9k5 ?kw9k6 ?kw9k7 type_len sg_slot_wget.lookup ?kw9k8 (fun A Q => hget_len A Q) ?kw9k9 ?_; (case kw9k1 => k_asm); (case kw9k2 => k_asm); (case kw9k3 => k_asm); (case kw9k4 => k_mem); (case kw9k5 => k_inst); (case kw9k6 => k_is); (case kw9k7 => ks_is); (case kw9k8 => k_is); (case kw9k9 => decide); intro _ _ _ _ l1; (try k_lt l1); (try (revert l1; intro _))))
  k_with "getMethod ref" => (k_here; k_dflt (refine' sg_method (id := "list.pop") ?kw9k1 ?kw9k2 ?kw9k3 ?kw9k4 ?kw9k5 ?kw9k6 ?kw9k7 type_pop sg_slot_mget.lookup ?kw9k8 (fun A Q => hget_pop A Q) ?kw9k9 ?_; (case kw9k1 => k_asm); (case kw9k2 => k_asm); (case kw9k3 => k_asm); (case kw9k4 => k_mem); (case kw9k5 => k_inst); (case kw9k6 => k_is); (case kw9k7 => ks_is); (case kw9k8 => k_is); (case kw9k9 => decide); intro _ _ _ _ l1; (try k_lt l1); (try (revert l1; intro _))))
  trivial

theorem withV4x12 : True := by
  k_with "wpAt" => (dsimp only; ks_step "execs cons"; refine ks_wpAt_execs_cons ?_)
  k_with "wpAt" => (ks_step "eval Call"; refine' ks_wpAt_MethodCall ?kw9hh ?kw9he; (case kw9he => with_unfolding_all rfl))
  k_with "setAttr ref" => (k_here; k_dflt (refine' acc_set_dict ?kw9k1 ?kw9k2 ?kw9k3 ?kw9k4 ?kw9k5 ?kw9k6 ?kw9k7 ?kw9k8 ?kw9k9 ?kw9k10 ?kw9k11 ?kw9k12 ?kw9k13 ?kw9k14 ?_; (case kw9k1 => k_asm); (case kw9k2 => k_asm); (case kw9k3 => k_asm); (case kw9k4 => k_inst); (case kw9k5 => exact rfl); (case kw9k6 => k_is); (case kw9k7 => k_is); (case kw9k8 => exact rfl); (case kw9k9 => k_is); (case kw9k10 => exact rfl); (case kw9k11 => k_get); (case kw9k12 => exact rfl); (case kw9k13 => k_upd); (case kw9k14 => exact Nat.le_of_ble_eq_true rfl); k_whole; intro _ _ _; (try k_sweep)))
  k_with "callWith" => (k_here; k_dflt (refine' callWith_b0 ?kw9k1 ?kw9k2 ?kw9k3 ?_; (case kw9k1 => k_asm); (case kw9k2 => k_mem); (case kw9k3 => first | exact .inl rfl | exact .inr rfl); k_whole; try dsimp only [List.nil_append, List.cons_append]))
  k_with "OLD" => repeat (first | exact fa_nil | (refine fa_cons ?_ ?_; (first | exact .inl (by k_mem) | exact .inr (by k_mem))))
  k_with "N0" => repeat (first | exact fa_nil | (refine fa_cons ⟨by assumption, by first | assumption | exact Base.n1 (by assumption) | exact Base.n2 (by assumption)⟩ ?_))
  k_with "call ref" => (k_here; k_dflt (refine' len_call ?kw9k1 ?kw9k2 ?kw9k3 ?_; (case kw9k1 => k_asm); (case kw9k2 => k_mem); (case kw9k3 => k_mem); k_whole); intro _ _)
  trivial
/- reset with nothing -/
theorem reset0_c {w : World} {mg mb : Str → Option Value} {b : Heap} {s : Shared} {x dx : Addr} {parts : List Value} {n : Nat} {zt : Tok} {z : Value} {k : Nat} {Q E : Value → Shared → Prop}
    (B : Base w mg mb b) (kb : Sub b s.heap) (hx : s.heap.get? x = some (accO dx parts n)) (hx0 : b.get? x = none) (hdx : s.heap.get? dx = some (accD w.params zt z k)) (hdx0 : b.get? dx = none) (hsz : parts.length < 100)
    (hret : ∀ h' tk' n' zt' z' k', But [x, dx] s.heap h' → h'.get? x = some (accO dx [] n') → h'.get? dx = some (accD w.params zt' (.int 0 z') k') → Q .none { s with heap := h', toks := tk' }) :
    wpAny (model pw w) (Av 12) (call (.ref 196) [.ref x]) Q E s := by
  refine wpAny_call ?_
  have N0 : ∀ p ∈ [(x, accO dx parts n), (dx, accD w.params zt z k)], s.heap.get? p.1 = some p.2 ∧ b.get? p.1 = none := by walk_at "N0"
  k_dflt (refine' enter B kb N0 ?k4 ?k5 ?k6 ?k7 ?k8 ?_ ?k10 ?k11 ?k12 ?k13; (case k4 => k_is); (case k5 => k_is); (case k6 => decide); (case k7 => exact BindsTo.of_defaults rfl (kb _ _ (B.K 189 _ (by k_is))) rfl rfl rfl); (case k8 => exact locs rfl); (case k10 => decide); (case k11 => exact rfl); (case k12 => exact rfl); (case k13 => exact rfl))
  intro g L' h₁ tk₀ F N X T hk hs hL
  have hne : @Ne Nat x dx := ne_of_get hx hdx fun e => nomatch (congrArg Obj.cls e)
  (try dsimp only)
  (try k_fold)
  k_steps
  refine acc_setslice_K (parts := parts) (n := n) (dx := dx) (od := accD w.params zt z k) (n' := 0) (lo := none) (hi := none) (a := 0) (b := parts.length) (ps' := []) (new := []) (by k_asm) (by k_asm) (by k_asm) (by k_mem) (by k_is) (by k_is) (by k_is) .none .none (by k_mem) (by simp [sliceBounds]) (by simp) (by (first | lia | omega)) (by simp) (by k_mem) (by intro n2; k_upd) ?_
  intro h' n2 F' N'
  k_steps
  rename Fr _ _ _ _ => F9
  rename News _ _ _ _ => N9
  exact hret _ _ _ _ _ _ (but_same hk F9.keep N9 N0 (fa_cons (.inl (.head _)) (fa_cons (.inl (.tail _ (.head _))) fa_nil))) (N9.get (.tail _ (.head _))) (N9.get (.tail _ (.tail _ (.head _))))
/- reset with a list -/
theorem reset1_c {w : World} {mg mb : Str → Option Value} {b : Heap} {s : Shared} {x dx y : Addr} {parts new : List Value} {n n' : Nat} {zt : Tok} {z : Value} {k : Nat} {Q E : Value → Shared → Prop}
    (B : Base w mg mb b) (kb : Sub b s.heap) (hx : s.heap.get? x = some (accO dx parts n)) (hx0 : b.get? x = none) (hdx : s.heap.get? dx = some (accD w.params zt z k)) (hdx0 : b.get? dx = none) (hsz : parts.length < 100)
    (hy : s.heap.get? y = some { cls := .type "list", data := .seq new.toArray n' }) (hy0 : b.get? y = none) (hsz2 : new.length < 100)
    (hret : ∀ h' tk' n' zt' z' k', But [x, dx] s.heap h' → h'.get? x = some (accO dx new n') → h'.get? dx = some (accD w.params zt' (.int 0 z') k') → Q .none { s with heap := h', toks := tk' }) :
    wpAny (model pw w) (Av 12) (call (.ref 196) [.ref x, .ref y]) Q E s := by
  refine wpAny_call ?_
  have N0 : ∀ p ∈ [(x, accO dx parts n), (dx, accD w.params zt z k), (y, { cls := .type "list", data := .seq new.toArray n' })], s.heap.get? p.1 = some p.2 ∧ b.get? p.1 = none := by walk_at "N0"
  k_dflt (refine' enter (binds := [(Str.ofString "self", .ref x), (Str.ofString "startval", .ref y)]) B kb N0 ?k4 ?k5 ?k6 ?k7 ?k8 ?_ ?k10 ?k11 ?k12 ?k13; (case k4 => k_is); (case k5 => k_is); (case k6 => decide); (case k7 => exact BindsTo.of_defaults rfl (kb _ _ (B.K 189 _ (by k_is))) rfl rfl rfl); (case k8 => exact locs rfl); (case k10 => decide); (case k11 => exact rfl); (case k12 => exact rfl); (case k13 => exact rfl))
  intro g L' h₁ tk₀ F N X T hk hs hL
  have hne : @Ne Nat x dx := ne_of_get hx hdx fun e => nomatch (congrArg Obj.cls e)
  have hne2 : @Ne Nat x y := ne_of_get hx hy fun e => nomatch (congrArg Obj.cls e)
  have hne3 : @Ne Nat dx y := ne_of_get hdx hy fun e => nomatch (congrArg Obj.data e)
  (try dsimp only)
  (try k_fold)
  k_steps
  refine acc_setslice_K (parts := parts) (n := n) (dx := dx) (od := accD w.params zt z k) (n' := n') (lo := none) (hi := none) (a := 0) (b := parts.length) (ps' := new) (new := new) (by k_asm) (by k_asm) (by k_asm) (by k_mem) (by k_is) (by k_is) (by k_is) .none .none (by k_mem) (by simp [sliceBounds]) (by simp) (by (first | lia | omega)) (by (first | lia | omega)) (by k_mem) (by intro n2; k_upd) ?_
  intro h' n2 F' N'
  k_steps
  rename Fr _ _ _ _ => F9
  rename News _ _ _ _ => N9
  exact hret _ _ _ _ _ _ (but_same hk F9.keep N9 N0 (fa_cons (.inl (.head _)) (fa_cons (.inl (.tail _ (.head _))) (fa_cons (.inr (.tail _ (.tail _ (.head _)))) fa_nil)))) (N9.get (.head _)) (N9.get (.tail _ (.head _)))
end Mine
end
section
open PySem PySem.W PyProof.Rows PySem.Calls PySem.Spec
set_option maxRecDepth 100000
set_option maxHeartbeats 8000000
set_option pp.deepTerms false
set_option pp.maxSteps 20000
namespace Mine
section
variable {prog : Program} {w : World} {A : Around} {E : Value → Shared → Prop} {s : Shared} {K : Frag} {x C L f : Addr} {h₀ : Heap} {m : Str → Option Value} {ox : Obj} {od : Option Obj}
theorem acc_truthy {Q : Bool → Shared → Prop} (F : Fr h₀ L s.heap m) (X₀ : K.In h₀) (I : InstAt s.heap x ox C od) (hb : findIn K (.ref C) "__bool__" = some none) (hs : findIn K (.ref C) "__len__" = some (some (.ref f))) (hf : isFn K (.ref f) = true)
    (h : wpAny (model prog w) A.in1 (call (.ref f) [.ref x]) (W.LenBack fun v s' => match v with | .int n _ => Q (n != 0) s' | _ => False) E s) : wpAny (model prog w) A (truthy (.ref x)) Q E s := by
  have X := X₀.keeps F.keep
  unfold truthy
  refine wpAny_bind (m := callSpecial? (.ref x) (Str.ofString "__bool__")) (wpAny_bind (wpAny_bind (I.type.here ((looks_findIn X hb).here (wpAny_pure ?_)))))
  refine wpAny_bind (wpAny_bind (I.type.here ((looks_findIn X hs).here ?_)))
  refine wpAny_bind (wpAny_runValue (codeAny_builtin entry_len ?_))
  rw [Around.under_plainId plain_len _]
  unfold Builtin.«len»
  refine wpAny_bind (m := oneArg "len" _) (wpAny_pure ?_)
  refine wpAny_bind (m := callSpecial? (.ref x) (Str.ofString "__len__")) (special_fn X I hs (beq_iff_eq.mp hf) (wpAny_mono h (fun r s' hr => ?_) fun _ _ y => y))
  cases r <;> first | exact hr.elim | skip
  rename_i n u
  obtain ⟨⟨h0, h1⟩, hq⟩ := hr
  refine wpAny_bind (wpAny_holding (wpAny_pure ?_))
  refine wpAny_bind (wpAny_letGo ?_)
  show wpAny _ _ (if n < 0 then _ else _) _ _ _
  rw [if_neg (by (first | lia | omega))]
  show wpAny _ _ (if n ≥ 2 ^ 63 then _ else _) _ _ _
  rw [if_neg (by (first | lia | omega))]
  exact wpAny_bind (wpAny_mkInt (wpAny_pure (wpAny_pure hq)))
end
theorem after_upd {g h h' : Heap} {L a : Addr} {m : Str → Option Value} {news news' : List (Addr × Obj)} {o o' : Obj} (F : Fr g L h m) (N : News g L h news) (b : But [a] h h') (U : Upd a o o' news news') (ho : h'.get? a = some o') : Fr g L h' m ∧ News g L h' news' := by
  obtain ⟨pre, post, rfl, rfl, e1, e2⟩ := U.split
  have ha : ∀ p ∈ pre ++ (a, o) :: post, p.1 = a ∨ h'.get? p.1 = some p.2 := fun p hp => by
    by_cases e : p.1 = a
    · exact .inl e
    · exact .inr (b _ _ (fun hm => e (List.mem_singleton.mp hm)) (N p hp).1)
  refine after F N b (fun x hx => ?_) fun p hp => ?_
  · rw [List.mem_singleton.mp hx]; simp
  · rcases List.mem_append.mp hp with hp | hp
    · refine ⟨(ha p (List.mem_append_left _ hp)).resolve_left (e1 p hp), .inl (List.mem_map_of_mem (List.mem_append_left _ hp))⟩
    · rcases List.mem_cons.mp hp with rfl | hp
      · exact ⟨ho, .inl (by simp)⟩
      · exact ⟨(ha p (List.mem_append_right _ (List.mem_cons_of_mem _ hp))).resolve_left (e2 p hp), .inl (List.mem_map_of_mem (List.mem_append_right _ (List.mem_cons_of_mem _ hp)))⟩
theorem ne_tab {h : Heap} {x a : Addr} {o op : Obj} (hx : h.get? x = some o) (hop : h.get? a = some op) (ht : TabO op) (hd : ∀ v, o.data ≠ .fields v) : @Ne Nat x a := ne_of_get hx hop fun e => by
  obtain ⟨_, hd', _⟩ := ht.data
  exact hd _ (e ▸ hd')
theorem accO_nf {dx : Addr} {ps : List Value} {n : Nat} : ∀ v, (accO dx ps n).data ≠ .fields v := fun v e => nomatch e
theorem accD_nf {P : Params} {tk : Tok} {v : Value} {k : Nat} : ∀ u, (accD P tk v k).data ≠ .fields u := fun v e => nomatch e
end Mine
end
section
open PySem PySem.W PyProof.Rows PySem.Calls PySem.Spec
set_option maxRecDepth 100000
set_option maxHeartbeats 8000000
set_option pp.deepTerms false
set_option pp.maxSteps 20000
namespace Mine
theorem dummyV5 : True := by
  k_with_none
  w_top off
  k_with "lt8" => with_reducible first | assumption | exact And.left (by assumption) | exact And.left (And.right (by assumption)) | exact And.left (And.right (And.right (by assumption))) | exact And.left (And.right (And.right (And.right (by assumption)))) | exact And.left (And.right (And.right (And.right (And.right (by assumption))))) | exact And.left (And.right (And.right (And.right (And.right (And.right (by assumption)))))) | exact And.left (And.right (And.right (And.right (And.right (And.right (And.right (by assumption))))))) | exact And.left (And.right (And.right (And.right (And.right (And.right (And.right (And.right (by assumption)))))))) | exact And.left (And.right (And.right (And.right (And.right (And.right (And.right (And.right (And.right (by assumption))))))))) | exact And.left (And.right (And.right (And.right (And.right (And.right (And.right (And.right (And.right (And.right (by assumption)))))))))) | exact And.left (And.right (And.right (And.right (And.right (And.right (And.right (And.right (And.right (And.right (And.right (by assumption))))))))))) | exact And.left (And.right (And.right (And.right (And.right (And.right (And.right (And.right (And.right (And.right (And.right (And.right (by assumption)))))))))))) | exact And.left (And.right (And.right (And.right (And.right (And.right (And.right (And.right (And.right (And.right (And.right (And.right (And.right (by assumption)))))))))))))
  k_with "lt9" => first | exact Nat.ne_of_lt (by walk_at "lt8") | exact Nat.ne_of_gt (by walk_at "lt8")
  trivial
theorem withV5x13 : True := by
  k_with_none
  w_top off
  k_with "lt8" => with_reducible first | assumption | exact And.left (by assumption) | exact And.left (And.right (by assumption)) | exact And.left (And.right (And.right (by assumption))) | exact And.left (And.right (And.right (And.right (by assumption)))) | exact And.left (And.right (And.right (And.right (And.right (by assumption))))) | exact And.left (And.right (And.right (And.right (And.right (And.right (by assumption)))))) | exact And.left (And.right (And.right (And.right (And.right (And.right (And.right (by assumption))))))) | exact And.left (And.right (And.right (And.right (And.right (And.right (And.right (And.right (by assumption)))))))) | exact And.left (And.right (And.right (And.right (And.right (And.right (And.right (And.right (And.right (by assumption))))))))) | exact And.left (And.right (And.right (And.right (And.right (And.right (And.right (And.right (And.right (And.right (by assumption)))))))))) | exact And.left (And.right (And.right (And.right (And.right (And.right (And.right (And.right (And.right (And.right (And.right (by assumption))))))))))) | exact And.left (And.right (And.right (And.right (And.right (And.right (And.right (And.right (And.right (And.right (And.right (And.right (by assumption)))))))))))) | exact And.left (And.right (And.right (And.right (And.right (And.right (And.right (And.right (And.right (And.right (And.right (And.right (And.right (by assumption)))))))))))))
  k_with "lt9" => first | exact Nat.ne_of_lt (by walk_at "lt8") | exact Nat.ne_of_gt (by walk_at "lt8")
  k_with "k_inst" => (refine' acc_inst ?kw9N ?kw9h1 ?kw9h2; (case kw9N => k_asm); (case kw9h1 => k_mem); (case kw9h2 => k_mem))
  k_with "getMethod ref" => (k_here; k_dflt (refine' acc_method ?kw9k2 ?kw9k3 ?kw9k4 ?kw9k5 ?kw9k6 ?kw9k7 ?kw9k8 ?_ ?kw9k9; (case kw9k2 => k_in); (case kw9k3 => k_inst); (case kw9k4 => k_is); (case kw9k5 => k_is); (case kw9k6 => k_is); (case kw9k7 => k_is); (case kw9k8 => k_get); (case kw9k9 => decide +kernel); k_whole))
  k_with "getAttr ref" => (k_here; k_dflt (refine' acc_get_own ?kw9k1 ?kw9k2 ?kw9k3 ?kw9k4 ?kw9k5 ?kw9k6 ?kw9k7 ?kw9k8 ?kw9k9 ?kw9k10 ?_; (case kw9k1 => k_in); (case kw9k2 => k_inst); (case kw9k3 => k_is); (case kw9k4 => k_is); (case kw9k5 => k_is); (case kw9k6 => k_is); (case kw9k7 => k_is); (case kw9k8 => k_is); (case kw9k9 => k_get); (case kw9k10 => k_handed); k_whole))
  k_with "wpAt" => (ks_step "attributeBase Call"; k_here; k_dflt (refine sg_node (by k_asm) (by k_asm) (by k_asm) (by k_asm) (by k_is) (by rfl) (by rfl) (by k_inst) (by k_is) (by rfl) (by first | rfl | decide +kernel) (by k_is) (by k_is) (by k_is) (by k_is) (by decide) (by rfl) (by rfl) (by rfl) (by rfl) (by decide +kernel) (by first | boot_by_name | rfl | kernel_rfl) ?_; intro _ _ _ _ l1; (try k_lt l1); (try (revert l1; intro _))))
  k_with "getMethod ref" => (k_here; k_dflt (refine' sg_method (id := "list.__len__") ?kw9k1 ?kw9k2 ?kw9k3 ?kw9k4 ?kw9k5 ?kw9k6 ?kw9k7 type_len sg_slot_wget.lookup ?kw9k8 (fun A Q => hget_len A Q) ?kw9k9 ?_; (case kw9k1 => k_asm); (case kw9k2 => k_asm); (case kw9k3 => k_asm); (case kw9k4 => k_mem); (case kw9k5 => k_inst); (case kw9k6 => k_is); (case kw9k7 => ks_is); (case kw9k8 => k_is); (case kw9k9 => decide); intro _ _ _ _ l1; (try k_lt l1); (try (revert l1; intro _))))
  k_with "getMethod ref" => (k_here; k_dflt (refine' sg_method (id := "list.pop") ?kw9k1 ?kw9k2 ?kw9k3 ?kw9k4 ?kw9k5 ?kw9k6 ?kw9k7 type_pop sg_slot_mget.lookup ?kw9k8 (fun A Q => hget_pop A Q) ?kw9k9 ?_; (case kw9k1 => k_asm); (case kw9k2 => k_asm); (case kw9k3 => k_asm); (case kw9k4 => k_mem); (case kw9k5 => k_inst); (case kw9k6 => k_is); (case kw9k7 => ks_is); (case kw9k8 => k_is); (case kw9k9 => decide); intro _ _ _ _ l1; (try k_lt l1); (try (revert l1; intro _))))
  trivial

theorem withV5x14 : True := by
  k_with "wpAt" => (dsimp only; ks_step "execs cons"; refine ks_wpAt_execs_cons ?_)
  k_with "wpAt" => (ks_step "eval Call"; refine' ks_wpAt_MethodCall ?kw9hh ?kw9he; (case kw9he => with_unfolding_all rfl))
  k_with "setAttr ref" => (k_here; k_dflt (refine' acc_set_dict ?kw9k1 ?kw9k2 ?kw9k3 ?kw9k4 ?kw9k5 ?kw9k6 ?kw9k7 ?kw9k8 ?kw9k9 ?kw9k10 ?kw9k11 ?kw9k12 ?kw9k13 ?kw9k14 ?_; (case kw9k1 => k_asm); (case kw9k2 => k_asm); (case kw9k3 => k_asm); (case kw9k4 => k_inst); (case kw9k5 => exact rfl); (case kw9k6 => k_is); (case kw9k7 => k_is); (case kw9k8 => exact rfl); (case kw9k9 => k_is); (case kw9k10 => exact rfl); (case kw9k11 => k_get); (case kw9k12 => exact rfl); (case kw9k13 => k_upd); (case kw9k14 => exact Nat.le_of_ble_eq_true rfl); k_whole; intro _ _ _; (try k_sweep)))
  k_with "truthy ref" => (k_here; k_dflt (refine' acc_truthy ?kw9k1 ?kw9k2 ?kw9k3 ?kw9k4 ?kw9k5 ?kw9k6 ?_; (case kw9k1 => k_asm); (case kw9k2 => k_asm); (case kw9k3 => k_inst); (case kw9k4 => k_is); (case kw9k5 => k_is); (case kw9k6 => k_is); k_whole))
  k_with "callWith" => (k_here; k_dflt (refine' callWith_b0 ?kw9k1 ?kw9k2 ?kw9k3 ?_; (case kw9k1 => k_asm); (case kw9k2 => k_mem); (case kw9k3 => first | exact .inl rfl | exact .inr rfl); k_whole; try dsimp only [List.nil_append, List.cons_append]))
  k_with "OLD" => repeat (first | exact fa_nil | (refine fa_cons ?_ ?_; (first | exact .inl (by k_mem) | exact .inr (by k_mem))))
  k_with "N0" => repeat (first | exact fa_nil | (refine fa_cons ⟨by assumption, by first | assumption | exact Base.n1 (by assumption) | exact Base.n2 (by assumption)⟩ ?_))
  k_with "call ref" => (k_here; k_dflt (refine' len_call ?kw9k1 ?kw9k2 ?kw9k3 ?_; (case kw9k1 => k_asm); (case kw9k2 => k_mem); (case kw9k3 => k_mem); k_whole); intro _ _)
  trivial
/- is it blanks alone: never, where a word stands in it -/
theorem onlyws_c {w : World} {mg mb : Str → Option Value} {b : Heap} {s : Shared} {x dx : Addr} {l : List It} {n : Nat} {zt zt' : Tok} {k : Nat} {o1 o2 : Obj} {Q E : Value → Shared → Prop}
    (B : Base w mg mb b) (kb : Sub b s.heap) (hx : s.heap.get? x = some (accO dx (l.map It.ref) n)) (hx0 : b.get? x = none) (hdx : s.heap.get? dx = some (accD w.params zt (.int 0 zt') k)) (hdx0 : b.get? dx = none)
    (ho1 : s.heap.get? 176 = some o1) (ht1 : TabO o1) (ho2 : s.heap.get? 183 = some o2) (ht2 : TabO o2) (hb : AllBare s.gens) (hl : ItemsAt s.heap l) (hsm : Small l) (hpos : 0 < size l) (hsp : Txt.isspace (rowOf l) = false)
    (hret : ∀ h' gn tk', But [176, 183] s.heap h' → AllBare gn → (∃ op', h'.get? 176 = some op' ∧ TabO op') → (∃ op', h'.get? 183 = some op' ∧ TabO op') → Q (.bool false) { s with heap := h', toks := tk', gens := gn }) :
    wpAny (model pw w) (Av 12) (call (.ref 203) [.ref x]) Q E s := by
  refine wpAny_call ?_
  have N0 : ∀ p ∈ [(x, accO dx (l.map It.ref) n), (dx, accD w.params zt (.int 0 zt') k), (176, o1), (183, o2)], s.heap.get? p.1 = some p.2 ∧ b.get? p.1 = none := by walk_at "N0"
  k_dflt (refine' enter (binds := [(Str.ofString "self", .ref x)]) B kb N0 ?k4 ?k5 ?k6 ?k7 ?k8 ?_ ?k10 ?k11 ?k12 ?k13; (case k4 => k_is); (case k5 => k_is); (case k6 => decide); (case k7 => exact BindsTo.of_eq rfl); (case k8 => exact locs rfl); (case k10 => decide); (case k11 => exact rfl); (case k12 => exact rfl); (case k13 => exact rfl))
  intro g L' h₁ tk₀ F N X T hk hs hL
  (try dsimp only)
  (try k_fold)
  k_steps
  have hitg : ItemsAt g l := hl.to fun i hi o e => hk _ _ (fun hm => by
    simp only [List.map_cons, List.map_nil, List.mem_cons, List.not_mem_nil, or_false] at hm
    rcases hm with h | h | h | h
    · exact items_off hl hx acc_not_tup i hi h
    · exact items_off hl hdx accD_not_tup i hi h
    · exact items_off hl ho1 (tabO_not_tup ht1) i hi h
    · exact items_off hl ho2 (tabO_not_tup ht2) i hi h) e
  refine lift (len_c B (subF hs F) (N.get (.head _)) hx0 (N.get (.tail _ (.head _))) hdx0 (N.get (.tail _ (.tail _ (.head _)))) ht1 hb (hitg.to fun i hi o e => F.keep _ _ e) hsm (fun h' gn tk' t' b' gb o' => ?_)) rfl (by with_unfolding_all exact Nat.le_of_ble_eq_true rfl) (by with_unfolding_all exact Nat.le_of_ble_eq_true rfl) rfl rfl
  have hle := size_le hsm
  have hlen := hsm.1
  refine ⟨⟨hle.1, by (first | lia | omega)⟩, ?_⟩
  obtain ⟨op', hop', hto'⟩ := o'
  have n1 : @Ne Nat x 176 := ne_tab hx ho1 ht1 accO_nf
  have n2 : @Ne Nat dx 176 := ne_tab hdx ho1 ht1 accD_nf
  have n3 : @Ne Nat x 183 := ne_tab hx ho2 ht2 accO_nf
  have n4 : @Ne Nat dx 183 := ne_tab hdx ho2 ht2 accD_nf
  obtain ⟨F2, N2⟩ := after_upd F N b' (o := o1) (by k_upd) hop'
  have e0 : (size l != 0) = true := by simp; (first | lia | omega)
  clear F N
  simp only [e0, Bool.not_true]
  k_steps
  refine lift (str_c B (subF hs F2) (N2.get (.head _)) hx0 (N2.get (.tail _ (.head _))) hdx0 (N2.get (.tail _ (.tail _ (.tail _ (.head _))))) ht2 gb (hitg.to fun i hi o e => F2.keep _ _ e) hsm (fun h'' gn2 tk2 t2 b2 gb2 o2' => ?_)) rfl (by with_unfolding_all exact Nat.le_of_ble_eq_true rfl) (by with_unfolding_all exact Nat.le_of_ble_eq_true rfl) rfl rfl
  obtain ⟨op2, hop2, hto2⟩ := o2'
  obtain ⟨F3, N3⟩ := after_upd F2 N2 b2 (o := o2) (by k_upd) hop2
  clear F2 N2
  dsimp only [W.StrBack]
  k_steps
  rw [hsp]
  exact hret _ _ _ (but_same hk F3.keep N3 N0 (fa_cons (.inr (.head _)) (fa_cons (.inr (.tail _ (.head _))) (fa_cons (.inl (.head _)) (fa_cons (.inl (.tail _ (.head _))) fa_nil))))) gb2 ⟨_, N3.get (.tail _ (.tail _ (.head _))), hto'⟩ ⟨_, hop2, hto2⟩
end Mine
end
section
open PySem PySem.W PyProof.Rows PySem.Calls PySem.Spec
set_option maxRecDepth 100000
set_option maxHeartbeats 8000000
set_option pp.deepTerms false
set_option pp.maxSteps 20000
namespace Mine
theorem dummyY1 : True := by
  k_with_none
  w_top off
  trivial
noncomputable def AccRet (Q : Value → Shared → Prop) (s : Shared) : Prop := ∀ x dx h', (∀ b o, s.heap.get? b = some o → h'.get? b = some o) → h'.get? x = some (accO dx [] 0) → h'.get? dx = some (dictOf [] 0) → s.heap.get? x = none → s.heap.get? dx = none → Q (.ref x) { s with heap := h' }
theorem withY1x15 : True := by
  k_with_none
  w_top off
  k_with "x_close" => (rename PySem.W.X.Mem _ _ _ [_, _] => D9; rename AccRet _ _ => hr9; exact hr9 _ _ _ (fun b o e => D9.keep b o e (Bool.or_true _)) (D9.nw _ (.head _)).1 (D9.nw _ (.tail _ (.head _))).1 (D9.nw _ (.head _)).2 (D9.nw _ (.tail _ (.head _))).2)
  trivial
theorem accnew_c {w : World} {s : Shared} {t : Tok} {A : Around} {Q E : Value → Shared → Prop} (hK : (K9 w.params).In s.heap) (hret : AccRet Q s) :
    wpAny (model pw w) A (call (.builtin "list.__new__") [.ref 214, .int 0 t]) Q E s := by
  x_run
theorem made_acc {w : World} {M : Model} {h : Heap} (X : (K9 w.params).In h) : Looks M h (Bind.madeBy (.ref 214)) (some "list.__new__") := by
  intro A Q E s k q
  have hm : Looks M h (mroOf (.ref 214)) [.ref 214, .type "list", .type "object"] := (looks_clsIn X (C := 214) (by k_is)).andThen .now
  unfold Bind.madeBy
  refine wpAny_bind (hm A _ E s k ?_)
  rw [List.forIn_cons]
  refine wpAny_bind (wpAny_bind (wpAny_bind (wpAny_bind (wpAny_loadPart (k _ _ (X 214 _ (by k_is))) (wpAny_pure ?_)))))
  exact wpAny_pure (wpAny_pure (wpAny_pure q))
theorem acc_make {w : World} {A : Around} {E : Value → Shared → Prop} {s : Shared} {t : Tok} {Q : Value → Shared → Prop} (X : (K9 w.params).In s.heap)
    (h : ∀ x dx h', (∀ b o, s.heap.get? b = some o → h'.get? b = some o) → h'.get? x = some (accO dx [] 0) → h'.get? dx = some (dictOf [] 0) → s.heap.get? x = none → s.heap.get? dx = none →
      codeAny (model pw w) (A.under (.builtin "type.__call__" ⟨[.ref 214, .int 0 t], []⟩)) (.call (.ref 151) ⟨[.ref x, .int 0 t], []⟩) (fun r s' => match r with | .ok (.ret v) => v = .none ∧ Q (.ref x) s' | .ok _ => False | .error e => E e s') { s with heap := h' }) :
    wpAny (model pw w) A (call (.ref 214) [.int 0 t]) Q E s := by
  have call214 : Looks (model pw w) s.heap (specialOf (.ref 214) "__call__") (some (.builtin "type.__call__")) := looks_specialIn X (by k_is)
  have typ : Looks (model pw w) s.heap (isInstance (.ref 214) (.type "type")) true := looks_instIn X (by k_is)
  have made := made_acc (M := model pw w) X
  have hi : Looks (model pw w) s.heap (typeLookup (.ref 214) "__init__") (some (.ref 151)) := looks_findIn X (by k_is)
  have self : Looks (model pw w) s.heap (isSubtype (.ref 214) (.ref 214)) true := looks_mroIn X (by k_is)
  have hb : ∀ self, Looks (model pw w) s.heap (bindSpecial (.ref 151) self) (.ref 151, [self]) := fun self => bind_fn X self (by k_is)
  have hC := X 214 _ (by k_is)
  obtain ⟨hp, g, d, tk, os⟩ := s
  refine wpAny_call (codeAny_of_tree ?_)
  show wpAny _ _ (callAny (.ref 214) _) _ _ _
  refine nd_load hC ?_
  show wpAny _ _ (callAny.viaDunder (.ref 214) _) _ _ _
  unfold callAny.viaDunder
  refine wpAny_bind (call214.at ?_)
  dsimp only
  rw [tc_bind]
  refine wpAny_bind (wpAny_pure (wpAny_bind (wpAny_pure ?_)))
  refine wpAny_pure (a := Fin.again (.call (.builtin "type.__call__") ⟨[.ref 214, .int 0 t], []⟩)) (And.intro rfl ?_)
  refine codeAny_call_builtin_at (Code.quiet_builtin _ (by decide +kernel)) entry_typeCall (check_slot tc_kind tc_split typ (tc_args _ _ _) ?_)
  unfold Builtin.«type.__call__»
  have hm : Looks (model pw w) hp (mroOf (.ref 214)) [.ref 214, .type "list", .type "object"] := (looks_clsIn X (C := 214) (by k_is)).andThen .now
  repeat (first | (with_reducible refine accnew_c X ?_) | lk)
  intro x dx h' k e1 e2 e3 e4
  have t1 : Looks (model pw w) h' (typeOf (.ref x)) (.ref 214) := (Looks.ld e1).andThen .now
  have s1 := self.keeps k
  have i1 := hi.keeps k
  have b1 := (hb (.ref x)).keeps k
  unfold isInstance callSpecial? specialOf
  have hh := h x dx h' k e1 e2 e3 e4
  repeat (first | with_reducible refine wpAny_call ?_ | lk)
  refine codeAny_mono hh fun r s' z => ?_
  rcases r with e | (v | _ | _ | _) <;> first | exact z | exact z.elim | skip
  obtain ⟨rfl, z⟩ := z
  exact wpAny_pure (wpAny_pure z)
end Mine
end
section
open PySem PySem.W PyProof.Rows PySem.Calls PySem.Spec
set_option maxRecDepth 100000
set_option maxHeartbeats 8000000
set_option pp.deepTerms false
set_option pp.maxSteps 20000
namespace Mine
section
variable {prog : Program} {w : World} {A : Around} {E : Value → Shared → Prop} {s : Shared} {x q C : Addr}
theorem sg_wget_init {h : Heap} {g : Array GenState} {d : Drawn} {t : Nat} {os : OsState} {x C : Addr} {Q : PySem.Fin → Shared → Prop} (hi : Looks (model prog w) h (isInstance (.ref x) (.type "list")) true)
    (hq : Q (.done (.ret (.ref h.objs.size))) ⟨h.push { cls := .type "method-wrapper", data := .fields #[.builtin "list.__init__", .ref x] }, g, d, t, os⟩) :
    wpAny (model prog w) A (Builtin.«wrapper_descriptor.__get__» ⟨[.builtin "list.__init__", .ref x, .ref C], []⟩) Q E ⟨h, g, d, t, os⟩ := by
  have e : (".".intercalate ("list.__init__".cutAt '.').dropLast) = "list" := by decide +kernel
  unfold Builtin.«wrapper_descriptor.__get__»
  repeat (first | (rw [e]; refine Looks.at hi ?_) | (with_reducible refine wpAny_newObj_type ?_ (by size_fits)) | wp_step | dsimp only)
  all_goals exact hq
theorem hget_init {h : Heap} {g : Array GenState} {d : Drawn} {t : Nat} {os : OsState} (A : Around) (Q : Value → Shared → Prop) (hi : Looks (model pw w) h (isInstance (.ref x) (.type "list")) true) (hq : Q (.ref h.objs.size) ⟨h.push (bndO "method-wrapper" "list.__init__" x), g, d, t, os⟩) :
    wpAny (model pw w) A (call (.builtin "wrapper_descriptor.__get__") [.builtin "list.__init__", .ref x, .ref C]) Q (fun _ _ => False) ⟨h, g, d, t, os⟩ :=
  wpAny_call_entry sg_slot_wget (T := "wrapper_descriptor") (by show builtinType _ = _; rw [builtinType_eq_fast]; kernel_rfl) sg_entry_wget (sg_wget_init hi ⟨_, rfl, hq⟩) (sg_args_wget _ _ _)
theorem type_init : typeOf (.builtin "list.__init__") = pure (.type "wrapper_descriptor") := by show builtinType _ = _; rw [builtinType_eq_fast]; kernel_rfl
theorem init_bound {n : Nat} {dd : Option Addr} {Q : Value → Shared → Prop} (hq : s.heap.get? q = some (bndO "method-wrapper" "list.__init__" x)) (hx : s.heap.get? x = some { cls := .ref C, dict := dd, data := .seq #[] n })
    (h : ∀ h', Heap.SameBut x s.heap h' → h'.get? x = some { cls := .ref C, dict := dd, data := .seq #[] n } → Q .none { s with heap := h' }) : wpAny (model prog w) A (call (.ref q) []) Q E s := by
  refine bound_call hq (.inl rfl) PySem.F.entry_list_init (by decide +kernel) (fun Q' h' => ?_) ?_
  · have : checkBoundCall "list.__init__" ⟨[.ref x], []⟩ = pure () := by kernel_rfl
    rw [this]; exact wpAny_pure h'
  · unfold Builtin.«list.__init__»
    obtain ⟨hp, g, d, t, os⟩ := s
    repeat wp_step
    all_goals exact ⟨_, rfl, h _ (Heap.SameBut.update ..) (by rw [Heap.get?_update_self _ hx rfl]; rfl)⟩
end
end Mine
end
section
open PySem PySem.W PyProof.Rows PySem.Calls PySem.Spec
set_option maxRecDepth 100000
set_option maxHeartbeats 8000000
set_option pp.deepTerms false
set_option pp.maxSteps 20000
namespace Mine
theorem dummyY2 : True := by
  k_with_none
  w_top off
  k_with "lt8" => with_reducible first | assumption | exact And.left (by assumption) | exact And.left (And.right (by assumption)) | exact And.left (And.right (And.right (by assumption))) | exact And.left (And.right (And.right (And.right (by assumption)))) | exact And.left (And.right (And.right (And.right (And.right (by assumption))))) | exact And.left (And.right (And.right (And.right (And.right (And.right (by assumption)))))) | exact And.left (And.right (And.right (And.right (And.right (And.right (And.right (by assumption))))))) | exact And.left (And.right (And.right (And.right (And.right (And.right (And.right (And.right (by assumption)))))))) | exact And.left (And.right (And.right (And.right (And.right (And.right (And.right (And.right (And.right (by assumption))))))))) | exact And.left (And.right (And.right (And.right (And.right (And.right (And.right (And.right (And.right (And.right (by assumption)))))))))) | exact And.left (And.right (And.right (And.right (And.right (And.right (And.right (And.right (And.right (And.right (And.right (by assumption))))))))))) | exact And.left (And.right (And.right (And.right (And.right (And.right (And.right (And.right (And.right (And.right (And.right (And.right (by assumption)))))))))))) | exact And.left (And.right (And.right (And.right (And.right (And.right (And.right (And.right (And.right (And.right (And.right (And.right (And.right (by assumption)))))))))))))
  k_with "lt9" => first | exact Nat.ne_of_lt (by walk_at "lt8") | exact Nat.ne_of_gt (by walk_at "lt8")
  trivial
theorem withY2x16 : True := by
  k_with_none
  w_top off
  k_with "lt8" => with_reducible first | assumption | exact And.left (by assumption) | exact And.left (And.right (by assumption)) | exact And.left (And.right (And.right (by assumption))) | exact And.left (And.right (And.right (And.right (by assumption)))) | exact And.left (And.right (And.right (And.right (And.right (by assumption))))) | exact And.left (And.right (And.right (And.right (And.right (And.right (by assumption)))))) | exact And.left (And.right (And.right (And.right (And.right (And.right (And.right (by assumption))))))) | exact And.left (And.right (And.right (And.right (And.right (And.right (And.right (And.right (by assumption)))))))) | exact And.left (And.right (And.right (And.right (And.right (And.right (And.right (And.right (And.right (by assumption))))))))) | exact And.left (And.right (And.right (And.right (And.right (And.right (And.right (And.right (And.right (And.right (by assumption)))))))))) | exact And.left (And.right (And.right (And.right (And.right (And.right (And.right (And.right (And.right (And.right (And.right (by assumption))))))))))) | exact And.left (And.right (And.right (And.right (And.right (And.right (And.right (And.right (And.right (And.right (And.right (And.right (by assumption)))))))))))) | exact And.left (And.right (And.right (And.right (And.right (And.right (And.right (And.right (And.right (And.right (And.right (And.right (And.right (by assumption)))))))))))))
  k_with "lt9" => first | exact Nat.ne_of_lt (by walk_at "lt8") | exact Nat.ne_of_gt (by walk_at "lt8")
  k_with "k_inst" => (refine' acc_inst ?kw9N ?kw9h1 ?kw9h2; (case kw9N => k_asm); (case kw9h1 => k_mem); (case kw9h2 => k_mem))
  k_with "getMethod ref" => (k_here; k_dflt (refine' acc_method ?kw9k2 ?kw9k3 ?kw9k4 ?kw9k5 ?kw9k6 ?kw9k7 ?kw9k8 ?_ ?kw9k9; (case kw9k2 => k_in); (case kw9k3 => k_inst); (case kw9k4 => k_is); (case kw9k5 => k_is); (case kw9k6 => k_is); (case kw9k7 => k_is); (case kw9k8 => k_get); (case kw9k9 => decide +kernel); k_whole))
  k_with "getAttr ref" => (k_here; k_dflt (refine' acc_get_own ?kw9k1 ?kw9k2 ?kw9k3 ?kw9k4 ?kw9k5 ?kw9k6 ?kw9k7 ?kw9k8 ?kw9k9 ?kw9k10 ?_; (case kw9k1 => k_in); (case kw9k2 => k_inst); (case kw9k3 => k_is); (case kw9k4 => k_is); (case kw9k5 => k_is); (case kw9k6 => k_is); (case kw9k7 => k_is); (case kw9k8 => k_is); (case kw9k9 => k_get); (case kw9k10 => k_handed); k_whole))
  k_with "wpAt" => (ks_step "attributeBase Call"; k_here; k_dflt (refine sg_node (by k_asm) (by k_asm) (by k_asm) (by k_asm) (by k_is) (by rfl) (by rfl) (by k_inst) (by k_is) (by rfl) (by first | rfl | decide +kernel) (by k_is) (by k_is) (by k_is) (by k_is) (by decide) (by rfl) (by rfl) (by rfl) (by rfl) (by decide +kernel) (by first | boot_by_name | rfl | kernel_rfl) ?_; intro _ _ _ _ l1; (try k_lt l1); (try (revert l1; intro _))))
  k_with "getMethod ref" => (k_here; k_dflt (refine' sg_method (id := "list.__len__") ?kw9k1 ?kw9k2 ?kw9k3 ?kw9k4 ?kw9k5 ?kw9k6 ?kw9k7 type_len sg_slot_wget.lookup ?kw9k8 (fun A Q => hget_len A Q) ?kw9k9 ?_; (case kw9k1 => k_asm); (case kw9k2 => k_asm); (case kw9k3 => k_asm); (case kw9k4 => k_mem); (case kw9k5 => k_inst); (case kw9k6 => k_is); (case kw9k7 => ks_is); (case kw9k8 => k_is); (case kw9k9 => decide); intro _ _ _ _ l1; (try k_lt l1); (try (revert l1; intro _))))
  k_with "getMethod ref" => (k_here; k_dflt (refine' sg_method (id := "list.pop") ?kw9k1 ?kw9k2 ?kw9k3 ?kw9k4 ?kw9k5 ?kw9k6 ?kw9k7 type_pop sg_slot_mget.lookup ?kw9k8 (fun A Q => hget_pop A Q) ?kw9k9 ?_; (case kw9k1 => k_asm); (case kw9k2 => k_asm); (case kw9k3 => k_asm); (case kw9k4 => k_mem); (case kw9k5 => k_inst); (case kw9k6 => k_is); (case kw9k7 => ks_is); (case kw9k8 => k_is); (case kw9k9 => decide); intro _ _ _ _ l1; (try k_lt l1); (try (revert l1; intro _))))
  trivial

theorem withY2x17 : True := by
  k_with "wpAt" => (dsimp only; ks_step "execs cons"; refine ks_wpAt_execs_cons ?_)
  k_with "wpAt" => (ks_step "eval Call"; refine' ks_wpAt_MethodCall ?kw9hh ?kw9he; (case kw9he => with_unfolding_all rfl))
  k_with "setAttr ref" => (k_here; k_dflt (refine' acc_set_dict ?kw9k1 ?kw9k2 ?kw9k3 ?kw9k4 ?kw9k5 ?kw9k6 ?kw9k7 ?kw9k8 ?kw9k9 ?kw9k10 ?kw9k11 ?kw9k12 ?kw9k13 ?kw9k14 ?_; (case kw9k1 => k_asm); (case kw9k2 => k_asm); (case kw9k3 => k_asm); (case kw9k4 => k_inst); (case kw9k5 => exact rfl); (case kw9k6 => k_is); (case kw9k7 => k_is); (case kw9k8 => exact rfl); (case kw9k9 => k_is); (case kw9k10 => exact rfl); (case kw9k11 => k_get); (case kw9k12 => exact rfl); (case kw9k13 => k_upd); (case kw9k14 => exact Nat.le_of_ble_eq_true rfl); k_whole; intro _ _ _; (try k_sweep)))
  k_with "truthy ref" => (k_here; k_dflt (refine' acc_truthy ?kw9k1 ?kw9k2 ?kw9k3 ?kw9k4 ?kw9k5 ?kw9k6 ?_; (case kw9k1 => k_asm); (case kw9k2 => k_asm); (case kw9k3 => k_inst); (case kw9k4 => k_is); (case kw9k5 => k_is); (case kw9k6 => k_is); k_whole))
  k_with "getMethod ref" => (k_here; k_dflt (refine' sg_method (id := "list.__init__") ?kw9k1 ?kw9k2 ?kw9k3 ?kw9k4 ?kw9k5 ?kw9k6 ?kw9k7 type_init sg_slot_wget.lookup ?kw9k8 (fun A Q => hget_init A Q) ?kw9k9 ?_; (case kw9k1 => k_asm); (case kw9k2 => k_asm); (case kw9k3 => k_asm); (case kw9k4 => k_mem); (case kw9k5 => k_inst); (case kw9k6 => k_is); (case kw9k7 => ks_is); (case kw9k8 => k_is); (case kw9k9 => decide); intro _ _ _ _ l1; (try k_lt l1); (try (revert l1; intro _))))
  k_with "wpAt" => (ks_step "exec Expr"; refine' ks_wpAt_Expr_any ?kw9hxA ?kw9hxB ?kw9hxC; (case kw9hxB => with_unfolding_all rfl); (case kw9hxC => with_unfolding_all rfl))
  k_with "callWith" => (k_here; k_dflt (refine' callWith_b0 ?kw9k1 ?kw9k2 ?kw9k3 ?_; (case kw9k1 => k_asm); (case kw9k2 => k_mem); (case kw9k3 => first | exact .inl rfl | exact .inr rfl); k_whole; try dsimp only [List.nil_append, List.cons_append]))
  k_with "OLD" => repeat (first | exact fa_nil | (refine fa_cons ?_ ?_; (first | exact .inl (by k_mem) | exact .inr (by k_mem))))
  k_with "N0" => repeat (first | exact fa_nil | (refine fa_cons ⟨by assumption, by first | assumption | exact Base.n1 (by assumption) | exact Base.n2 (by assumption)⟩ ?_))
  k_with "call ref" => (k_here; k_dflt (refine' len_call ?kw9k1 ?kw9k2 ?kw9k3 ?_; (case kw9k1 => k_asm); (case kw9k2 => k_mem); (case kw9k3 => k_mem); k_whole); intro _ _)
  trivial

noncomputable def InitRet (w : World) (Q : Value → Shared → Prop) (s : Shared) (x dx : Addr) : Prop := ∀ h' tk' zt z' k' n', But [x, dx] s.heap h' → h'.get? x = some (accO dx [] n') → h'.get? dx = some (accD w.params zt (.int 0 z') k') → Q .none { s with heap := h', toks := tk' }
theorem accinit_c {w : World} {A : Around} {mg mb : Str → Option Value} {b : Heap} {s : Shared} {x dx : Addr} {t : Tok} {R : Result → Shared → Prop}
    (B : Base w mg mb b) (kb : Sub b s.heap) (hx : s.heap.get? x = some (accO dx [] 0)) (hx0 : b.get? x = none) (hdx : s.heap.get? dx = some (dictOf [] 0)) (hdx0 : b.get? dx = none) (hroom : A.depth < recursionLimit)
    (hret : InitRet w (fun v s' => R (.ok (.ret v)) s') s x dx) :
    codeAny (model pw w) A (.call (.ref 151) ⟨[.ref x, .int 0 t], []⟩) R s := by
  have N0 : ∀ p ∈ [(x, accO dx [] 0), (dx, dictOf [] 0)], s.heap.get? p.1 = some p.2 ∧ b.get? p.1 = none := by walk_at "N0"
  k_dflt (refine' enterS B kb N0 ?k4 ?k5 ?k6 ?k7 ?k8 ?_ ?k10 ?k11 ?k12 ?k13; (case k4 => k_is); (case k5 => k_is); (case k6 => exact hroom); (case k7 => exact BindsTo.of_defaults rfl (kb _ _ (B.K _ _ (by k_is))) rfl rfl rfl); (case k8 => exact locs rfl); (case k10 => decide); (case k11 => exact rfl); (case k12 => exact rfl); (case k13 => exact rfl))
  intro g L' h₁ tk₀ F N X T hk hs hL
  have hne : @Ne Nat x dx := ne_of_get hx hdx fun e => nomatch (congrArg Obj.cls e)
  (try dsimp only)
  (try k_fold)
  k_steps
  rename Fr _ _ _ _ => F9
  rename News _ _ _ _ => N9
  have hN := N9 _ (.tail _ (.tail _ (.head _)))
  refine init_bound (N9.get (.head _)) hN.1 (fun h' hs9 ho9 => ?_)
  have F10 := F9.change hs9 hN.2.1 hN.2.2
  have n1 : dx ≠ x := Ne.symm hne
  have hdx' := (hs9.2 _ n1).trans (N9.get (.tail _ (.tail _ (.tail _ (.head _)))))
  have b9 : But [x, dx] s.heap h' := but_end hk F10.keep (fa_cons (.inl (.head _)) (fa_cons (.inl (.tail _ (.head _))) fa_nil))
  clear F9 N9 hs9
  k_steps
  all_goals exact hret _ _ _ _ _ _ b9 ho9 hdx'
end Mine
end
section
open PySem PySem.W PyProof.Rows PySem.Calls PySem.Spec
set_option maxRecDepth 100000
set_option maxHeartbeats 8000000
set_option pp.deepTerms false
set_option pp.maxSteps 20000
namespace Mine
theorem dummyY3 : True := by
  k_with_none
  w_top off
  k_with "lt8" => with_reducible first | assumption | exact And.left (by assumption) | exact And.left (And.right (by assumption)) | exact And.left (And.right (And.right (by assumption))) | exact And.left (And.right (And.right (And.right (by assumption)))) | exact And.left (And.right (And.right (And.right (And.right (by assumption))))) | exact And.left (And.right (And.right (And.right (And.right (And.right (by assumption)))))) | exact And.left (And.right (And.right (And.right (And.right (And.right (And.right (by assumption))))))) | exact And.left (And.right (And.right (And.right (And.right (And.right (And.right (And.right (by assumption)))))))) | exact And.left (And.right (And.right (And.right (And.right (And.right (And.right (And.right (And.right (by assumption))))))))) | exact And.left (And.right (And.right (And.right (And.right (And.right (And.right (And.right (And.right (And.right (by assumption)))))))))) | exact And.left (And.right (And.right (And.right (And.right (And.right (And.right (And.right (And.right (And.right (And.right (by assumption))))))))))) | exact And.left (And.right (And.right (And.right (And.right (And.right (And.right (And.right (And.right (And.right (And.right (And.right (by assumption)))))))))))) | exact And.left (And.right (And.right (And.right (And.right (And.right (And.right (And.right (And.right (And.right (And.right (And.right (And.right (by assumption)))))))))))))
  k_with "lt9" => first | exact Nat.ne_of_lt (by walk_at "lt8") | exact Nat.ne_of_gt (by walk_at "lt8")
  trivial
theorem withY3x18 : True := by
  k_with_none
  w_top off
  k_with "lt8" => with_reducible first | assumption | exact And.left (by assumption) | exact And.left (And.right (by assumption)) | exact And.left (And.right (And.right (by assumption))) | exact And.left (And.right (And.right (And.right (by assumption)))) | exact And.left (And.right (And.right (And.right (And.right (by assumption))))) | exact And.left (And.right (And.right (And.right (And.right (And.right (by assumption)))))) | exact And.left (And.right (And.right (And.right (And.right (And.right (And.right (by assumption))))))) | exact And.left (And.right (And.right (And.right (And.right (And.right (And.right (And.right (by assumption)))))))) | exact And.left (And.right (And.right (And.right (And.right (And.right (And.right (And.right (And.right (by assumption))))))))) | exact And.left (And.right (And.right (And.right (And.right (And.right (And.right (And.right (And.right (And.right (by assumption)))))))))) | exact And.left (And.right (And.right (And.right (And.right (And.right (And.right (And.right (And.right (And.right (And.right (by assumption))))))))))) | exact And.left (And.right (And.right (And.right (And.right (And.right (And.right (And.right (And.right (And.right (And.right (And.right (by assumption)))))))))))) | exact And.left (And.right (And.right (And.right (And.right (And.right (And.right (And.right (And.right (And.right (And.right (And.right (And.right (by assumption)))))))))))))
  k_with "lt9" => first | exact Nat.ne_of_lt (by walk_at "lt8") | exact Nat.ne_of_gt (by walk_at "lt8")
  k_with "OLD" => repeat (first | exact fa_nil | (refine fa_cons ?_ ?_; (first | exact .inl (by k_mem) | exact .inr (by k_mem))))
  k_with "N0" => repeat (first | exact fa_nil | (refine fa_cons ⟨by assumption, by first | assumption | exact Base.n1 (by assumption) | exact Base.n2 (by assumption)⟩ ?_))
  trivial
theorem accmake_c {w : World} {A : Around} {mg mb : Str → Option Value} {b : Heap} {s : Shared} {t : Tok} {Q E : Value → Shared → Prop} (B : Base w mg mb b) (kb : Sub b s.heap) (hroom : (A.under (.builtin "type.__call__" ⟨[.ref 214, .int 0 t], []⟩)).depth < recursionLimit)
    (hret : ∀ x dx h' tk' zt z' k' n', But [] s.heap h' → h'.get? x = some (accO dx [] n') → h'.get? dx = some (accD w.params zt (.int 0 z') k') → s.heap.get? x = none → s.heap.get? dx = none → Q (.ref x) { s with heap := h', toks := tk' }) :
    wpAny (model pw w) A (call (.ref 214) [.int 0 t]) Q E s := by
  refine acc_make (B.K.keeps kb) fun x dx h₁ k e1 e2 e3 e4 => ?_
  refine accinit_c B (fun a o e => k _ _ (kb a o e)) e1 (none_of_sub kb e3) e2 (none_of_sub kb e4) hroom ?_
  intro h' tk' zt z' k' n' b1 f1 f2
  exact ⟨rfl, hret x dx h' tk' zt z' k' n' (fun c o _ e => b1 c o (fun hm => by
    simp only [List.mem_cons, List.not_mem_nil, or_false] at hm
    rcases hm with rfl | rfl
    · rw [e3] at e; cases e
    · rw [e4] at e; cases e) (k c o e)) f1 f2 e3 e4⟩
theorem after_new {g h h' : Heap} {L : Addr} {m : Str → Option Value} {news add : List (Addr × Obj)} (F : Fr g L h m) (N : News g L h news) (b : But [] h h') (ha : ∀ p ∈ add, h'.get? p.1 = some p.2 ∧ h.get? p.1 = none) : Fr g L h' m ∧ News g L h' (add ++ news) :=
  after F N b (fun _ h => nomatch h) fun p hp => by
    rcases List.mem_append.mp hp with hp | hp
    · exact ⟨(ha p hp).1, .inr (ha p hp).2⟩
    · exact ⟨b _ _ (fun h => nomatch h) (N p hp).1, .inl (List.mem_map_of_mem hp)⟩
/- the maker's own numbers -/
structure Mk where
  m : Addr
  dm : Addr
  l : Addr
  x : Addr
  dx : Addr
  t1 : Tok
  t2 : Tok
  t3 : Tok
  t4 : Tok
  t5 : Tok
  t6 : Tok
  tw : Tok
  tc : Tok
  tn : Tok
  ts : Tok
  wd : Int
noncomputable abbrev Mk.dict (P : Params) (k : Mk) : Obj := dictOf [⟨PyData.keyHash P (Str.ofString "_maxlen"), .str (Str.ofString "_maxlen") k.t1, .int k.wd k.tw⟩, ⟨PyData.keyHash P (Str.ofString "_continuation_ws"), .str (Str.ofString "_continuation_ws") k.t2, .str (Str.ofString " ") k.tc⟩,
  ⟨PyData.keyHash P (Str.ofString "_continuation_ws_len"), .str (Str.ofString "_continuation_ws_len") k.t3, .int 1 k.tn⟩, ⟨PyData.keyHash P (Str.ofString "_splitchars"), .str (Str.ofString "_splitchars") k.t4, .str (Str.ofString " ") k.ts⟩,
  ⟨PyData.keyHash P (Str.ofString "_lines"), .str (Str.ofString "_lines") k.t5, .ref k.l⟩, ⟨PyData.keyHash P (Str.ofString "_current_line"), .str (Str.ofString "_current_line") k.t6, .ref k.x⟩] 6
noncomputable def VfRet (w : World) (Q : Value → Shared → Prop) (s : Shared) (m dm : Addr) (wd : Int) : Prop := ∀ (k : Mk) h' tk' n' nl zt z' k', k.m = m → k.dm = dm → k.wd = wd → But [m, dm] s.heap h' → h'.get? k.m = some (instObj 130 k.dm) → h'.get? k.dm = some (k.dict w.params) → h'.get? k.l = some { cls := .type "list", data := .seq #[] nl } → h'.get? k.x = some (accO k.dx [] n') → h'.get? k.dx = some (accD w.params zt (.int 0 z') k') →
  s.heap.get? k.l = none → s.heap.get? k.x = none → s.heap.get? k.dx = none → Q .none { s with heap := h', toks := tk' }
theorem vfinit_c {w : World} {mg mb : Str → Option Value} {b : Heap} {s : Shared} {m dm : Addr} {wd : Int} {t0 t1 t2 t3 : Tok} {A : Around} {R : Result → Shared → Prop} (hA : A = (Av 9).under (.builtin "type.__call__" ⟨[.ref 130, .int 0 t0, .int wd t1, .str (Str.ofString " ") t2, .str (Str.ofString " ") t3], []⟩))
    (B : Base w mg mb b) (kb : Sub b s.heap) (hm : s.heap.get? m = some (instObj 130 dm)) (hm0 : b.get? m = none) (hdm : s.heap.get? dm = some (dictOf [] 0)) (hdm0 : b.get? dm = none)
    (hret : VfRet w (fun v s' => R (.ok (.ret v)) s') s m dm wd) :
    codeAny (model pw w) A (.call (.ref 71) ⟨[.ref m, .int 0 t0, .int wd t1, .str (Str.ofString " ") t2, .str (Str.ofString " ") t3], []⟩) R s := by
  have N0 : ∀ p ∈ [(m, instObj 130 dm), (dm, dictOf [] 0)], s.heap.get? p.1 = some p.2 ∧ b.get? p.1 = none := by walk_at "N0"
  subst hA
  k_dflt (refine' enter B kb N0 ?k4 ?k5 ?k6 ?k7 ?k8 ?_ ?k10 ?k11 ?k12 ?k13; (case k4 => k_is); (case k5 => k_is); (case k6 => with_unfolding_all exact (Nat.le_of_ble_eq_true rfl : 442 ≤ 1000)); (case k7 => exact BindsTo.of_eq rfl); (case k8 => exact locs rfl); (case k10 => decide); (case k11 => exact rfl); (case k12 => exact rfl); (case k13 => exact rfl))
  intro g L' h₁ tk₀ F N X T hk hs hL
  have hne : @Ne Nat m dm := ne_of_get hm hdm fun e => nomatch (congrArg Obj.cls e)
  (try dsimp only)
  (try k_fold)
  k_steps
  rename Fr _ _ _ _ => F9
  rename News _ _ _ _ => N9
  refine accmake_c B (subF hs F9) (by with_unfolding_all exact Nat.le_of_ble_eq_true rfl) (fun x dx h2 tk2 zt z2 k2 n2 b2 e1 e2 e3 e4 => ?_)
  obtain ⟨F10, N10⟩ := after_new (add := [(x, accO dx [] n2), (dx, accD w.params zt (.int 0 z2) k2)]) F9 N9 b2 (fa_cons ⟨e1, e3⟩ (fa_cons ⟨e2, e4⟩ fa_nil))
  have q1 : @Ne Nat m x := ne_of_none (N9.get (.tail _ (.head _))) e3
  have q2 : @Ne Nat dm x := ne_of_none (N9.get (.tail _ (.tail _ (.head _)))) e3
  have q3 : @Ne Nat m dx := ne_of_none (N9.get (.tail _ (.head _))) e4
  have q4 : @Ne Nat dm dx := ne_of_none (N9.get (.tail _ (.tail _ (.head _)))) e4
  dsimp only [List.cons_append, List.nil_append] at N10
  have ql := N9.fresh (.head _)
  have qm := ne_of_get (N9.get (.tail _ (.head _))) (N9.get (.head _)) (fun e => nomatch (congrArg Obj.data e))
  have qd := ne_of_get (N9.get (.tail _ (.tail _ (.head _)))) (N9.get (.head _)) (fun e => nomatch (congrArg Obj.data e))
  clear F9 N9
  k_steps
  rename Fr _ _ _ _ => F11
  rename News _ _ _ _ => N11
  refine hret ⟨m, dm, _, x, dx, _, _, _, _, _, _, _, _, _, _, _⟩ _ _ _ _ _ _ _ rfl rfl rfl (but_end hk F11.keep (fa_cons (.inl (.head _)) (fa_cons (.inl (.tail _ (.head _))) fa_nil))) (N11.get (.tail _ (.tail _ (.tail _ (.head _))))) (N11.get (.tail _ (.tail _ (.tail _ (.tail _ (.head _)))))) (N11.get (.tail _ (.tail _ (.head _)))) (N11.get (.head _)) (N11.get (.tail _ (.head _)))
    (fresh_end hk ql (fa_cons qm (fa_cons qd fa_nil))) (fresh_end hk (N11.fresh (.head _)) (fa_cons q1 (fa_cons q2 fa_nil))) (fresh_end hk (N11.fresh (.tail _ (.head _))) (fa_cons q3 (fa_cons q4 fa_nil)))
end Mine
end
section
open PySem PySem.W PyProof.Rows PySem.Calls PySem.Spec
set_option maxRecDepth 100000
set_option maxHeartbeats 8000000
set_option pp.deepTerms false
set_option pp.maxSteps 20000
namespace Mine
theorem dummyY4 : True := by
  k_with_none
  w_top off
  trivial
theorem withY4x19 : True := by
  k_with_none
  w_top off
  k_with "OLD" => repeat (first | exact fa_nil | (refine fa_cons ?_ ?_; (first | exact .inl (by k_mem) | exact .inr (by k_mem))))
  k_with "N0" => repeat (first | exact fa_nil | (refine fa_cons ⟨by assumption, by first | assumption | exact Base.n1 (by assumption) | exact Base.n2 (by assumption)⟩ ?_))
  trivial
theorem upd_keys {a : Addr} {o o' : Obj} {news news' : List (Addr × Obj)} (U : Upd a o o' news news') : news'.map (·.1) = news.map (·.1) := by
  obtain ⟨pre, post, rfl, rfl, _, _⟩ := U.split
  simp
theorem after_upd_new {g h h' : Heap} {L a : Addr} {m : Str → Option Value} {news news' add : List (Addr × Obj)} {o o' : Obj} (F : Fr g L h m) (N : News g L h news) (b : But [a] h h') (U : Upd a o o' news news') (ho : h'.get? a = some o') (ha : ∀ p ∈ add, h'.get? p.1 = some p.2 ∧ h.get? p.1 = none) : Fr g L h' m ∧ News g L h' (add ++ news') := by
  have N' := (after_upd F N b U ho).2
  refine after F N b (fun x hx => ?_) fun p hp => ?_
  · rw [List.mem_singleton.mp hx, ← upd_keys U]
    obtain ⟨pre, post, rfl, rfl, e1, e2⟩ := U.split
    simp
  · rcases List.mem_append.mp hp with hp | hp
    · exact ⟨(ha p hp).1, .inr (ha p hp).2⟩
    · exact ⟨(N' p hp).1, .inl (by rw [← upd_keys U]; exact List.mem_map_of_mem hp)⟩
/- what stands of a maker: lines told, and the row under way -/
structure MkAt (P : Params) (h : Heap) (k : Mk) (ls : List (Str × Tok)) (l : List It) : Prop where
  m : h.get? k.m = some (instObj 130 k.dm)
  dm : h.get? k.dm = some (k.dict P)
  ln : ∃ n, h.get? k.l = some { cls := .type "list", data := .seq (strValues ls).toArray n }
  x : ∃ n, h.get? k.x = some (accO k.dx (l.map It.ref) n)
  dx : ∃ t z n, h.get? k.dx = some (accD P t (.int 0 z) n)
  its : ItemsAt h l
  nd : @Ne Nat k.dm k.dx
theorem vfmake_c {w : World} {mg mb : Str → Option Value} {b : Heap} {s : Shared} {wd : Int} {t0 t1 t2 t3 : Tok} {Q E : Value → Shared → Prop} (B : Base w mg mb b) (kb : Sub b s.heap)
    (hret : ∀ (k : Mk) h' tk', k.wd = wd → But [] s.heap h' → MkAt w.params h' k [] [] → (∀ a ∈ [k.m, k.dm, k.l, k.x, k.dx], s.heap.get? a = none) → Q (.ref k.m) { s with heap := h', toks := tk' }) :
    wpAny (model pw w) (Av 9) (call (.ref 130) [.int 0 t0, .int wd t1, .str (Str.ofString " ") t2, .str (Str.ofString " ") t3]) Q E s := by
  have X := B.K.keeps kb
  obtain ⟨hp, g, d, tk, os⟩ := s
  refine wpAny_call (make_core (makes_of X (by k_is)) (looks_findIn X (r := some (.ref 71)) (by k_is)) (fun self => bind_fn X self (by k_is)) (.inl rfl) ?_)
  have k1 : ∀ b o, hp.get? b = some o → ((hp.push emptyDict).push (instObj 130 hp.objs.size)).get? b = some o := fun b o e => Heap.get?_push_of_some _ (Heap.get?_push_of_some _ e)
  have f0 : ∀ a, hp.objs.size ≤ a → hp.get? a = none := fun a ha => by
    cases e : hp.get? a with
    | none => rfl
    | some o => exact absurd (Heap.lt_size e) (Nat.not_lt.mpr ha)
  have hm : ((hp.push emptyDict).push (instObj 130 hp.objs.size)).get? (hp.objs.size + 1) = some (instObj 130 hp.objs.size) := by
    have := Heap.get?_push_size (hp.push emptyDict) (o := instObj 130 hp.objs.size) rfl
    rwa [Heap.size_push] at this
  have hd0 : ((hp.push emptyDict).push (instObj 130 hp.objs.size)).get? hp.objs.size = some (dictOf [] 0) := Heap.get?_push_of_some _ (Heap.get?_push_size _ rfl)
  refine vfinit_c rfl B (fun a o e => k1 _ _ (kb a o e)) hm (none_of_sub kb (f0 _ (Nat.le_succ _))) hd0 (none_of_sub kb (f0 _ (Nat.le_refl _))) ?_
  intro k h' tk' n' nl zt z' k' e1 e2 e3 b1 g1 g2 g3 g4 g5 q1 q2 q3
  have low : ∀ a, ((hp.push emptyDict).push (instObj 130 hp.objs.size)).get? a = none → hp.get? a = none := fun a e => by
    cases e' : hp.get? a with
    | none => rfl
    | some o => rw [k1 _ _ e'] at e; cases e
  refine ⟨rfl, ?_⟩
  rw [← e1]
  refine hret k h' tk' e3 (fun c o _ e => b1 c o (fun hc => ?_) (k1 _ _ e)) ⟨g1, g2, ⟨_, g3⟩, ⟨_, g4⟩, ⟨_, _, _, g5⟩, (fun _ h => nomatch h), (by rw [e2]; exact ne_of_none hd0 q3)⟩ (fa_cons ?_ (fa_cons ?_ (fa_cons (low _ q1) (fa_cons (low _ q2) (fa_cons (low _ q3) fa_nil)))))
  · simp only [List.mem_cons, List.not_mem_nil, or_false] at hc
    rcases hc with rfl | rfl
    · exact absurd (Heap.lt_size e) (Nat.not_lt.mpr (Nat.le_succ _))
    · exact absurd (Heap.lt_size e) (Nat.lt_irrefl _)
  · rw [e1]; exact f0 _ (Nat.le_succ _)
  · rw [e2]; exact f0 _ (Nat.le_refl _)
/- a maker's dict, written out -/
noncomputable abbrev mkD (P : Params) (t1 t2 t3 t4 t5 t6 tw tc tn ts : Tok) (wd : Int) (al x : Addr) : Obj := dictOf [⟨PyData.keyHash P (Str.ofString "_maxlen"), .str (Str.ofString "_maxlen") t1, .int wd tw⟩, ⟨PyData.keyHash P (Str.ofString "_continuation_ws"), .str (Str.ofString "_continuation_ws") t2, .str (Str.ofString " ") tc⟩,
  ⟨PyData.keyHash P (Str.ofString "_continuation_ws_len"), .str (Str.ofString "_continuation_ws_len") t3, .int 1 tn⟩, ⟨PyData.keyHash P (Str.ofString "_splitchars"), .str (Str.ofString "_splitchars") t4, .str (Str.ofString " ") ts⟩,
  ⟨PyData.keyHash P (Str.ofString "_lines"), .str (Str.ofString "_lines") t5, .ref al⟩, ⟨PyData.keyHash P (Str.ofString "_current_line"), .str (Str.ofString "_current_line") t6, .ref x⟩] 6
end Mine
end
section
open PySem PySem.W PyProof.Rows PySem.Calls PySem.Spec
set_option maxRecDepth 100000
set_option maxHeartbeats 8000000
set_option pp.deepTerms false
set_option pp.maxSteps 20000
namespace Mine
theorem dummyP1 : True := by
  k_with_none
  w_top off
  k_with "lt8" => with_reducible first | assumption | exact And.left (by assumption) | exact And.left (And.right (by assumption)) | exact And.left (And.right (And.right (by assumption))) | exact And.left (And.right (And.right (And.right (by assumption)))) | exact And.left (And.right (And.right (And.right (And.right (by assumption))))) | exact And.left (And.right (And.right (And.right (And.right (And.right (by assumption)))))) | exact And.left (And.right (And.right (And.right (And.right (And.right (And.right (by assumption))))))) | exact And.left (And.right (And.right (And.right (And.right (And.right (And.right (And.right (by assumption)))))))) | exact And.left (And.right (And.right (And.right (And.right (And.right (And.right (And.right (And.right (by assumption))))))))) | exact And.left (And.right (And.right (And.right (And.right (And.right (And.right (And.right (And.right (And.right (by assumption)))))))))) | exact And.left (And.right (And.right (And.right (And.right (And.right (And.right (And.right (And.right (And.right (And.right (by assumption))))))))))) | exact And.left (And.right (And.right (And.right (And.right (And.right (And.right (And.right (And.right (And.right (And.right (And.right (by assumption)))))))))))) | exact And.left (And.right (And.right (And.right (And.right (And.right (And.right (And.right (And.right (And.right (And.right (And.right (And.right (by assumption)))))))))))))
  k_with "lt9" => first | exact Nat.ne_of_lt (by walk_at "lt8") | exact Nat.ne_of_gt (by walk_at "lt8")
  trivial
theorem withP1x20 : True := by
  k_with_none
  w_top off
  k_with "lt8" => with_reducible first | assumption | exact And.left (by assumption) | exact And.left (And.right (by assumption)) | exact And.left (And.right (And.right (by assumption))) | exact And.left (And.right (And.right (And.right (by assumption)))) | exact And.left (And.right (And.right (And.right (And.right (by assumption))))) | exact And.left (And.right (And.right (And.right (And.right (And.right (by assumption)))))) | exact And.left (And.right (And.right (And.right (And.right (And.right (And.right (by assumption))))))) | exact And.left (And.right (And.right (And.right (And.right (And.right (And.right (And.right (by assumption)))))))) | exact And.left (And.right (And.right (And.right (And.right (And.right (And.right (And.right (And.right (by assumption))))))))) | exact And.left (And.right (And.right (And.right (And.right (And.right (And.right (And.right (And.right (And.right (by assumption)))))))))) | exact And.left (And.right (And.right (And.right (And.right (And.right (And.right (And.right (And.right (And.right (And.right (by assumption))))))))))) | exact And.left (And.right (And.right (And.right (And.right (And.right (And.right (And.right (And.right (And.right (And.right (And.right (by assumption)))))))))))) | exact And.left (And.right (And.right (And.right (And.right (And.right (And.right (And.right (And.right (And.right (And.right (And.right (And.right (by assumption)))))))))))))
  k_with "lt9" => first | exact Nat.ne_of_lt (by walk_at "lt8") | exact Nat.ne_of_gt (by walk_at "lt8")
  k_with "k_inst" => (refine' acc_inst ?kw9N ?kw9h1 ?kw9h2; (case kw9N => k_asm); (case kw9h1 => k_mem); (case kw9h2 => k_mem))
  k_with "getMethod ref" => (k_here; k_dflt (refine' acc_method ?kw9k2 ?kw9k3 ?kw9k4 ?kw9k5 ?kw9k6 ?kw9k7 ?kw9k8 ?_ ?kw9k9; (case kw9k2 => k_in); (case kw9k3 => k_inst); (case kw9k4 => k_is); (case kw9k5 => k_is); (case kw9k6 => k_is); (case kw9k7 => k_is); (case kw9k8 => k_get); (case kw9k9 => decide +kernel); k_whole))
  trivial
theorem acc_append {prog : Program} {w : World} {A : Around} {E : Value → Shared → Prop} {s : Shared} {K : Frag} {h₀ : Heap} {L D dx : Addr} {m : Str → Option Value} {news news' : List (Addr × Obj)} {its : List Value} {n : Nat} {od : Obj} {v : Value} {Q : Value → Shared → Prop}
    (F : Fr h₀ L s.heap m) (X : K.In h₀) (N : News h₀ L s.heap news) (U : Upd D (accO dx its n) (accO dx (its ++ [v]) (n + 1)) news news') (hd : (dx, od) ∈ news) (hm : mroIn K 214 (.type "list") = some true) (hsz : its.length < sizeLine)
    (h : ∀ h', Fr h₀ L h' m → News h₀ L h' news' → Q .none { s with heap := h' }) : wpAny (model prog w) A (call (.builtin "list.append") [.ref D, v]) Q E s := by
  obtain ⟨pre, post, rfl, rfl, a, b⟩ := U.split
  have hm1 : (D, accO dx its n) ∈ pre ++ (D, accO dx its n) :: post := List.mem_append.mpr (.inr (.head _))
  have z := N _ hm1
  refine acc_append_at z.1 (looks_inst (X.keeps F.keep) (acc_inst N hm1 hd) hm) (fun h' hs ho' => h h' (F.change hs z.2.1 z.2.2) (news_set N a b hs (by simpa using ho'))) (by simpa using Nat.le_of_lt hsz)
theorem withP1x21 : True := by
  k_with "call builtin:list.append" => (k_here; k_dflt (refine' acc_append ?kw9k1 ?kw9k2 ?kw9k3 ?kw9k4 ?kw9k5 ?kw9k6 ?kw9k7 ?_; (case kw9k1 => k_asm); (case kw9k2 => k_asm); (case kw9k3 => k_asm); (case kw9k4 => k_upd); (case kw9k5 => k_mem); (case kw9k6 => k_is); (case kw9k7 => assumption); k_whole); intro _ _ _; (try k_sweep))
  trivial
structure NeA (a b : Nat) : Prop where
  h : a ≠ b
theorem push_code {w : World} {mg mb : Str → Option Value} {b : Heap} {s : Shared} {x dx : Addr} {parts : List Value} {n : Nat} {zt : Tok} {z : Value} {k : Nat} {f1 f2 : Str} {t1 t2 : Tok} {Q E : Value → Shared → Prop}
    (B : Base w mg mb b) (kb : Sub b s.heap) (hx : s.heap.get? x = some (accO dx parts n)) (hx0 : b.get? x = none) (hdx : s.heap.get? dx = some (accD w.params zt z k)) (hdx0 : b.get? dx = none) (hne : @Ne Nat x dx) (hsz : parts.length < sizeLine)
    (hret : ∀ h' t tk', h'.get? x = some (accO dx (parts ++ [.ref t]) (n + 1)) → h'.get? t = some { cls := .type "tuple", data := .seq #[.str f1 t1, .str f2 t2] } → s.heap.get? t = none → But [x] s.heap h' → Q .none { s with heap := h', toks := tk' }) :
    codeAny (model pw w) (Av 9) (.call (.ref 158) ⟨[.ref x, .str f1 t1, .str f2 t2], []⟩) (fun r s' => match r with | .ok (.ret v) => Q v s' | .ok _ => False | .error e => E e s') s := by
  k_dflt (refine' enter (binds := [(Str.ofString "self", .ref x), (Str.ofString "fws", .str f1 t1), (Str.ofString "string", .str f2 t2)]) (news := [(x, accO dx parts n), (dx, accD w.params zt z k)]) B kb ?k3 ?k4 ?k5 ?k6 ?k7 ?k8 ?_ ?k10 ?k11 ?k12 ?k13; (case k3 => (intro p hp; simp only [List.mem_cons, List.not_mem_nil, or_false] at hp; rcases hp with rfl | rfl; exact ⟨hx, hx0⟩; exact ⟨hdx, hdx0⟩)); (case k4 => k_is); (case k5 => k_is); (case k6 => decide); (case k7 => exact BindsTo.of_eq rfl); (case k8 => exact locs rfl); (case k10 => decide); (case k11 => exact rfl); (case k12 => exact rfl); (case k13 => exact rfl))
  intro g L' h₁ tk₀ F N X T hk hs hL
  (try dsimp only)
  (try k_fold)
  k_steps
  rename Fr _ _ _ _ => F9
  rename News _ _ _ _ => N9
  rename _ ∧ _ => l9
  refine hret _ _ _ (N9.get (.tail _ (.head _))) (N9.get (.head _)) (fresh_end hk (N9.fresh (.head _)) ?_) (but_end hk F9.keep ?_)
  · intro p hp
    simp only [List.mem_cons, List.not_mem_nil, or_false] at hp
    rcases hp with rfl | rfl
    · exact Nat.ne_of_lt l9.1
    · exact Nat.ne_of_lt l9.2.1
  · intro p hp
    simp only [List.mem_cons, List.not_mem_nil, or_false] at hp
    rcases hp with rfl | rfl
    · exact .inl (.head _)
    · exact .inr ((N9.get (.tail _ (.tail _ (.head _)))).trans hdx.symm)
theorem push_c {w : World} {mg mb : Str → Option Value} {b : Heap} {s : Shared} {x dx : Addr} {parts : List Value} {n : Nat} {zt : Tok} {z : Value} {k : Nat} {f1 f2 : Str} {t1 t2 : Tok} {Q E : Value → Shared → Prop}
    (B : Base w mg mb b) (kb : Sub b s.heap) (hx : s.heap.get? x = some (accO dx parts n)) (hx0 : b.get? x = none) (hdx : s.heap.get? dx = some (accD w.params zt z k)) (hdx0 : b.get? dx = none) (hne : @Ne Nat x dx) (hsz : parts.length < sizeLine)
    (hret : ∀ h' t tk', h'.get? x = some (accO dx (parts ++ [.ref t]) (n + 1)) → h'.get? t = some { cls := .type "tuple", data := .seq #[.str f1 t1, .str f2 t2] } → s.heap.get? t = none → But [x] s.heap h' → Q .none { s with heap := h', toks := tk' }) :
    wpAny (model pw w) (Av 9) (call (.ref 158) [.ref x, .str f1 t1, .str f2 t2]) Q E s := wpAny_call (push_code B kb hx hx0 hdx hdx0 hne hsz hret)
end Mine
end
section
open PySem PySem.W PyProof.Rows PySem.Calls PySem.Spec
set_option maxRecDepth 100000
set_option maxHeartbeats 8000000
set_option pp.deepTerms false
set_option pp.maxSteps 20000
namespace Mine
theorem dummyY5 : True := by
  k_with_none
  w_top off
  k_with "lt8" => with_reducible first | assumption | exact And.left (by assumption) | exact And.left (And.right (by assumption)) | exact And.left (And.right (And.right (by assumption))) | exact And.left (And.right (And.right (And.right (by assumption)))) | exact And.left (And.right (And.right (And.right (And.right (by assumption))))) | exact And.left (And.right (And.right (And.right (And.right (And.right (by assumption)))))) | exact And.left (And.right (And.right (And.right (And.right (And.right (And.right (by assumption))))))) | exact And.left (And.right (And.right (And.right (And.right (And.right (And.right (And.right (by assumption)))))))) | exact And.left (And.right (And.right (And.right (And.right (And.right (And.right (And.right (And.right (by assumption))))))))) | exact And.left (And.right (And.right (And.right (And.right (And.right (And.right (And.right (And.right (And.right (by assumption)))))))))) | exact And.left (And.right (And.right (And.right (And.right (And.right (And.right (And.right (And.right (And.right (And.right (by assumption))))))))))) | exact And.left (And.right (And.right (And.right (And.right (And.right (And.right (And.right (And.right (And.right (And.right (And.right (by assumption)))))))))))) | exact And.left (And.right (And.right (And.right (And.right (And.right (And.right (And.right (And.right (And.right (And.right (And.right (And.right (by assumption)))))))))))))
  k_with "lt9" => first | exact Nat.ne_of_lt (by walk_at "lt8") | exact Nat.ne_of_gt (by walk_at "lt8")
  trivial
theorem withY5x22 : True := by
  k_with_none
  w_top off
  k_with "lt8" => with_reducible first | assumption | exact And.left (by assumption) | exact And.left (And.right (by assumption)) | exact And.left (And.right (And.right (by assumption))) | exact And.left (And.right (And.right (And.right (by assumption)))) | exact And.left (And.right (And.right (And.right (And.right (by assumption))))) | exact And.left (And.right (And.right (And.right (And.right (And.right (by assumption)))))) | exact And.left (And.right (And.right (And.right (And.right (And.right (And.right (by assumption))))))) | exact And.left (And.right (And.right (And.right (And.right (And.right (And.right (And.right (by assumption)))))))) | exact And.left (And.right (And.right (And.right (And.right (And.right (And.right (And.right (And.right (by assumption))))))))) | exact And.left (And.right (And.right (And.right (And.right (And.right (And.right (And.right (And.right (And.right (by assumption)))))))))) | exact And.left (And.right (And.right (And.right (And.right (And.right (And.right (And.right (And.right (And.right (And.right (by assumption))))))))))) | exact And.left (And.right (And.right (And.right (And.right (And.right (And.right (And.right (And.right (And.right (And.right (And.right (by assumption)))))))))))) | exact And.left (And.right (And.right (And.right (And.right (And.right (And.right (And.right (And.right (And.right (And.right (And.right (And.right (by assumption)))))))))))))
  k_with "lt9" => first | exact Nat.ne_of_lt (by walk_at "lt8") | exact Nat.ne_of_gt (by walk_at "lt8")
  k_with "k_ne" => (refine neN ?_; (try dsimp only); first | exact NeA.h (by assumption) | exact Ne.symm (NeA.h (by assumption)) | walk_at "lt9" | lia | omega)
  k_with "OLD" => repeat (first | exact fa_nil | (refine fa_cons ?_ ?_; (first | exact .inl (by k_mem) | exact .inr (by k_mem))))
  k_with "N0" => repeat (first | exact fa_nil | (refine fa_cons ⟨by assumption, by first | assumption | exact Base.n1 (by assumption) | exact Base.n2 (by assumption)⟩ ?_))
  k_with "k_inst" => (refine' acc_inst ?kw9N ?kw9h1 ?kw9h2; (case kw9N => k_asm); (case kw9h1 => k_mem); (case kw9h2 => k_mem))
  k_with "getMethod ref" => (k_here; k_dflt (refine' acc_method ?kw9k2 ?kw9k3 ?kw9k4 ?kw9k5 ?kw9k6 ?kw9k7 ?kw9k8 ?_ ?kw9k9; (case kw9k2 => k_in); (case kw9k3 => k_inst); (case kw9k4 => k_is); (case kw9k5 => k_is); (case kw9k6 => k_is); (case kw9k7 => k_is); (case kw9k8 => k_get); (case kw9k9 => decide +kernel); k_whole))
  trivial
/- what stands of the whole at a call -/
structure St (b : Heap) (s : Shared) : Prop where
  kb : Sub b s.heap
  t1 : ∃ o, s.heap.get? 176 = some o ∧ TabO o
  t2 : ∃ o, s.heap.get? 183 = some o ∧ TabO o
  gb : AllBare s.gens
structure Own5 (b : Heap) (k : Mk) : Prop where
  m : b.get? k.m = none
  dm : b.get? k.dm = none
  l : b.get? k.l = none
  x : b.get? k.x = none
  dx : b.get? k.dx = none
theorem list_not_tup {its : Array Value} {n : Nat} : ∀ v, ({ cls := .type "list", data := .seq its n } : Obj) ≠ { cls := .type "tuple", data := .seq v } := fun v e => by
  have e' := congrArg Obj.cls e
  injection e' with e2
  exact absurd e2 (by decide)
theorem items_snoc {h : Heap} {l : List It} {i : It} (a : ItemsAt h l) (b : h.get? i.t = some i.obj) : ItemsAt h (l ++ [i]) := fun j hj => by
  rcases List.mem_append.mp hj with hj | hj
  · exact a j hj
  · rw [List.mem_singleton.mp hj]; exact b
theorem size_snoc (l : List It) (i : It) : size (l ++ [i]) = size l + (i.f.length + i.p.length) := by simp [size]
theorem small_snoc {l : List It} {i : It} (h1 : l.length < 50) (h2 : ∀ i ∈ l, i.f.length ≤ 100 ∧ i.p.length ≤ 100) (hf : i.f.length ≤ 100) (hp : i.p.length ≤ 100) : Small (l ++ [i]) := ⟨by simp; (first | lia | omega), fun j hj => by
  rcases List.mem_append.mp hj with hj | hj
  · exact h2 j hj
  · rw [List.mem_singleton.mp hj]; exact ⟨hf, hp⟩⟩
theorem chunkA_c {w : World} {mg mb : Str → Option Value} {b : Heap} {s : Shared} {k : Mk} {ls : List (Str × Tok)} {l : List It} {f p : Str} {tf tp : Tok} {Q E : Value → Shared → Prop}
    (B : Base w mg mb b) (S : St b s) (O : Own5 b k) (M : MkAt w.params s.heap k ls l) (hsm : l.length < 50) (hsm2 : ∀ i ∈ l, i.f.length ≤ 100 ∧ i.p.length ≤ 100) (hf : f.length ≤ 100) (hp : p.length ≤ 100)
    (hle : size l + f.length + p.length ≤ k.wd)
    (hret : ∀ h' gn tk' t, But [k.x, 176] s.heap h' → St b { s with heap := h', gens := gn, toks := tk' } → MkAt w.params h' k ls (l ++ [⟨t, f, tf, p, tp⟩]) → s.heap.get? t = none → Q .none { s with heap := h', toks := tk', gens := gn }) :
    wpAny (model pw w) (Av 8) (call (.ref 127) [.ref k.m, .str f tf, .str p tp]) Q E s := by
  obtain ⟨kb, ⟨o1, ho1, ht1⟩, ⟨o2, ho2, ht2⟩, gb⟩ := S
  obtain ⟨Om, Odm, Ol, Ox, Odx⟩ := O
  obtain ⟨hm, hdm, ⟨nl, hl⟩, ⟨n, hx⟩, ⟨zt, z, nz, hdx⟩, hit, nd⟩ := M
  obtain ⟨m, dm, al, x, dx, t1, t2, t3, t4, t5, t6, tw, tc, tn, ts, wd⟩ := k
  dsimp only [Mk.dict] at *
  have d1 : NeA m dm := ⟨ne_of_get hm hdm fun e => nomatch (congrArg Obj.data e)⟩
  have d2 : NeA m al := ⟨ne_of_get hm hl fun e => nomatch (congrArg Obj.data e)⟩
  have d3 : NeA m x := ⟨ne_of_get hm hx fun e => nomatch (congrArg Obj.data e)⟩
  have d4 : NeA m dx := ⟨ne_of_get hm hdx fun e => nomatch (congrArg Obj.data e)⟩
  have d5 : NeA m 176 := ⟨ne_tab hm ho1 ht1 fun v e => nomatch e⟩
  have d6 : NeA m 183 := ⟨ne_tab hm ho2 ht2 fun v e => nomatch e⟩
  have d7 : NeA dm al := ⟨ne_of_get hdm hl fun e => nomatch (congrArg Obj.data e)⟩
  have d8 : NeA dm x := ⟨ne_of_get hdm hx fun e => nomatch (congrArg Obj.data e)⟩
  have d9 : NeA dm 176 := ⟨ne_tab hdm ho1 ht1 fun v e => nomatch e⟩
  have d10 : NeA dm 183 := ⟨ne_tab hdm ho2 ht2 fun v e => nomatch e⟩
  have d11 : NeA al x := ⟨ne_of_get hl hx fun e => nomatch (congrArg Obj.cls e)⟩
  have d12 : NeA al dx := ⟨ne_of_get hl hdx fun e => nomatch (congrArg Obj.data e)⟩
  have d13 : NeA al 176 := ⟨ne_tab hl ho1 ht1 fun v e => nomatch e⟩
  have d14 : NeA al 183 := ⟨ne_tab hl ho2 ht2 fun v e => nomatch e⟩
  have d15 : NeA x dx := ⟨ne_of_get hx hdx fun e => nomatch (congrArg Obj.data e)⟩
  have d16 : NeA x 176 := ⟨ne_tab hx ho1 ht1 accO_nf⟩
  have d17 : NeA x 183 := ⟨ne_tab hx ho2 ht2 accO_nf⟩
  have d18 : NeA dx 176 := ⟨ne_tab hdx ho1 ht1 accD_nf⟩
  have d19 : NeA dx 183 := ⟨ne_tab hdx ho2 ht2 accD_nf⟩
  refine wpAny_call ?_
  have N0 : ∀ p ∈ [(m, instObj 130 dm), (dm, mkD w.params t1 t2 t3 t4 t5 t6 tw tc tn ts wd al x), (al, { cls := .type "list", data := .seq (strValues ls).toArray nl }), (x, accO dx (l.map It.ref) n), (dx, accD w.params zt (.int 0 z) nz), (176, o1)], s.heap.get? p.1 = some p.2 ∧ b.get? p.1 = none := by walk_at "N0"
  k_dflt (refine' enter (binds := [(Str.ofString "self", .ref m), (Str.ofString "fws", .str f tf), (Str.ofString "string", .str p tp)]) B kb N0 ?k4 ?k5 ?k6 ?k7 ?k8 ?_ ?k10 ?k11 ?k12 ?k13; (case k4 => k_is); (case k5 => k_is); (case k6 => decide); (case k7 => exact BindsTo.of_eq rfl); (case k8 => exact locs rfl); (case k10 => decide); (case k11 => exact rfl); (case k12 => exact rfl); (case k13 => exact rfl))
  intro g L' h₁ tk₀ F N X T hk hs hL
  (try dsimp only)
  (try k_fold)
  k_steps
  have hitg : ItemsAt g l := hit.to fun i hi o e => hk _ _ (fun hq => by
    simp only [List.map_cons, List.map_nil, List.mem_cons, List.not_mem_nil, or_false] at hq
    rcases hq with h | h | h | h | h | h
    · exact items_off hit hm (fun v e => nomatch (congrArg Obj.data e)) i hi h
    · exact items_off hit hdm (fun v e => nomatch (congrArg Obj.data e)) i hi h
    · exact items_off hit hl list_not_tup i hi h
    · exact items_off hit hx acc_not_tup i hi h
    · exact items_off hit hdx accD_not_tup i hi h
    · exact items_off hit ho1 (tabO_not_tup ht1) i hi h) e
  have hszl : sizeLine = 16777216 := rfl
  refine lift (push_c B (subF hs F) (N.get (.tail _ (.tail _ (.tail _ (.head _))))) Ox (N.get (.tail _ (.tail _ (.tail _ (.tail _ (.head _)))))) Odx d15.h (by rw [List.length_map, hszl]; (first | lia | omega)) (fun h2 t tk2 e1 e2 e3 e4 => ?_)) rfl (by with_unfolding_all exact Nat.le_of_ble_eq_true rfl) (by with_unfolding_all exact Nat.le_of_ble_eq_true rfl) rfl rfl
  obtain ⟨F2, N2⟩ := after_upd_new (o := accO dx (l.map It.ref) n) (add := [(t, It.obj ⟨t, f, tf, p, tp⟩)]) F N e4 (by k_upd) e1 (fa_cons ⟨e2, e3⟩ fa_nil)
  have el : l.map It.ref ++ [Value.ref t] = (l ++ [(⟨t, f, tf, p, tp⟩ : It)]).map It.ref := by simp
  rw [el] at N2
  have hfr : s.heap.get? t = none := fresh_end hk (none_of_sub F.keep e3) (fun p hp e => by have z := (N p hp).1; rw [e, e3] at z; cases z)
  clear F N
  dsimp only [List.cons_append, List.nil_append] at N2
  k_steps
  have hit2 : ItemsAt h2 (l ++ [(⟨t, f, tf, p, tp⟩ : It)]) := items_snoc (hitg.to fun i hi o e => F2.keep _ _ e) (N2.get (.head _))
  have hsm' : Small (l ++ [(⟨t, f, tf, p, tp⟩ : It)]) := small_snoc hsm hsm2 hf hp
  have hsz := size_le hsm'
  have hlen := hsm'.1
  refine lift (len_c B (subF hs F2) (N2.get (.tail _ (.tail _ (.tail _ (.tail _ (.head _)))))) Ox (N2.get (.tail _ (.tail _ (.tail _ (.tail _ (.tail _ (.head _))))))) Odx (N2.get (.tail _ (.tail _ (.tail _ (.tail _ (.tail _ (.tail _ (.head _)))))))) ht1 gb hit2 hsm' (fun h3 gn3 tk3 t3' b3 gb3 o3 => ?_)) rfl (by with_unfolding_all exact Nat.le_of_ble_eq_true rfl) (by with_unfolding_all exact Nat.le_of_ble_eq_true rfl) rfl rfl
  refine ⟨⟨hsz.1, by (first | lia | omega)⟩, ?_⟩
  obtain ⟨op3, hop3, hto3⟩ := o3
  have d20 : NeA t 176 := ⟨ne_tab (N2.get (.head _)) (N2.get (.tail _ (.tail _ (.tail _ (.tail _ (.tail _ (.tail _ (.head _)))))))) ht1 fun v e => nomatch e⟩
  obtain ⟨F3, N3⟩ := after_upd (o := o1) F2 N2 b3 (by k_upd) hop3
  rw [size_snoc] at *
  clear F2 N2
  k_steps
  have bt : But [x, 176] s.heap h3 := but_same hk F3.keep N3 N0 (fa_cons (.inr (.tail _ (.head _))) (fa_cons (.inr (.tail _ (.tail _ (.head _)))) (fa_cons (.inr (.tail _ (.tail _ (.tail _ (.head _))))) (fa_cons (.inl (.head _)) (fa_cons (.inr (.tail _ (.tail _ (.tail _ (.tail _ (.tail _ (.head _))))))) (fa_cons (.inl (.tail _ (.head _))) fa_nil))))))
  exact hret _ _ _ t bt ⟨kb.but bt (fa_cons Ox (fa_cons B.n1 fa_nil)), ⟨op3, hop3, hto3⟩, ⟨o2, bt _ _ (fun hq => by
      simp only [List.mem_cons, List.not_mem_nil, or_false] at hq
      rcases hq with h | h
      · exact d17.h h.symm
      · exact absurd h (by decide)) ho2, ht2⟩, gb3⟩
    ⟨N3.get (.tail _ (.head _)), N3.get (.tail _ (.tail _ (.head _))), ⟨_, N3.get (.tail _ (.tail _ (.tail _ (.head _))))⟩, ⟨_, N3.get (.tail _ (.tail _ (.tail _ (.tail _ (.head _)))))⟩, ⟨_, _, _, N3.get (.tail _ (.tail _ (.tail _ (.tail _ (.tail _ (.head _))))))⟩, items_snoc (hitg.to fun i hi o e => F3.keep _ _ e) (N3.get (.head _)), nd⟩ hfr
end Mine
end
section
open PySem PySem.W PyProof.Rows PySem.Calls PySem.Spec
set_option maxRecDepth 100000
set_option maxHeartbeats 8000000
set_option pp.deepTerms false
set_option pp.maxSteps 20000
namespace Mine
section
variable {prog : Program} {w : World} {A : Around} {E : Value → Shared → Prop} {R : Result → Shared → Prop} {s : Shared} {env : Env} {target iter : Expr} {body orelse : List Stmt} {it : Value} {pos : Pos}
/- what a for loop's body leaves -/
noncomputable def Turned (prog : Program) (w : World) (A : Around) (target : Expr) (it : Value) (body orelse : List Stmt) (env : Env) (R : Result → Shared → Prop) (f : Flow) (s₃ : Shared) : Prop := match f with
  | .next | .cont => codeAny (model prog w) A (.forLoop target it body orelse env) R s₃
  | .brk => R (.ok .next) s₃
  | .ret v => R (.ok (.ret v)) s₃
theorem for_turn (h : wpAny (model prog w) A (pyNext it) (fun r s₁ => match r with
      | none => wpAny (model prog w) A (execs orelse env) (fun f s₃ => R (.ok f) s₃) (fun _ _ => False) s₁
      | some v => wpAny (model prog w) A (letOwnedTupleGo target it v) (fun _ s₁' => wpAny (model prog w) A (assign target env v) (fun _ s₂ => wpAny (model prog w) A (execs body env) (Turned prog w A target it body orelse env R) (fun _ _ => False) s₂) (fun _ _ => False) s₁') (fun _ _ => False) s₁) (fun _ _ => False) s) :
    codeAny (model prog w) A (.forLoop target it body orelse env) R s := by
  refine codeAny_of_tree ?_
  show wpAny _ A ((forTurn target it body orelse env).onRaise (fun x => do noteFrame x env; theTreesLotGoes x)) _ _ s
  refine wpAny_noted ?_
  simp only [forTurn]
  refine wpAny_bind (wpAny_standAt (wpAny_bind (wpAny_onRaise (wpAny_mono h (fun r s₁ h₁ => ?_) fun _ _ h' => h'.elim))))
  cases r with
  | none => exact wpAny_pure ⟨rfl, codeAny_block (wpAny_mono h₁ (fun _ _ z => z) fun _ _ z => z.elim)⟩
  | some v =>
    refine wpAny_bind (wpAny_mono h₁ (fun _ s₁' h₁' => ?_) fun _ _ h' => h'.elim)
    refine wpAny_bind (wpAny_mono h₁' (fun _ s₂ h₂ => wpAny_bind (wpAny_mono h₂ (fun f s₃ h₃ => ?_) fun _ _ h' => h'.elim)) fun _ _ h' => h'.elim)
    cases f with
    | next => exact wpAny_pure ⟨rfl, h₃⟩
    | cont => exact wpAny_pure ⟨rfl, h₃⟩
    | brk => exact wpAny_pure h₃
    | ret v => exact wpAny_pure h₃
theorem for_exec {Q : Flow → Shared → Prop} (h : wpAny (model prog w) A (eval iter env) (fun x s₁ => wpAny (model prog w) A (pyIter x) (fun it s₂ => codeAny (model prog w) A (.forLoop target it body orelse env) (fun r s' => match r with | .ok f => Q f s' | .error _ => False) s₂) (fun _ _ => False) s₁) (fun _ _ => False) s)
    (hs : ∀ x, foldedSetIterable iter env x = pure x) : wpAny (model prog w) A (exec (.For target iter body orelse pos) env) Q E s :=
  wpAny_For (wpAny_mono h (fun x s₁ h₁ => wpAny_mono h₁ (fun it s₂ h₂ => codeAny_mono h₂ fun r s' z => by cases r with | ok f => exact z | error e => exact z.elim) fun _ _ z => z.elim) fun _ _ z => z.elim) hs
theorem wpAny_no {α : Type} {t : Sem α} {Q : α → Shared → Prop} (h : wpAny (model prog w) A t Q (fun _ _ => False) s) : wpAny (model prog w) A t Q E s := wpAny_mono h (fun _ _ z => z) fun _ _ z => z.elim
end
section
variable {prog : Program} {w : World} {A : Around} {E : Value → Shared → Prop} {s : Shared} {h₀ : Heap} {L I : Addr} {m : Str → Option Value} {news : List (Addr × Obj)} {newsF : Obj → List (Addr × Obj)} {x : Str} {t : Tok}
noncomputable abbrev strItO (x : Str) (t : Tok) : Obj := { cls := .type "str_ascii_iterator", data := .fields #[.str x t, .int 0 0] }
noncomputable abbrev rngItO (a b c : Int) : Obj := { cls := .type "range_iterator", dict := none, data := .fields #[rawInt a, rawInt b, rawInt c], slots := #[] }
theorem iter_str_K {Q : Value → Shared → Prop} (F : Fr h₀ L s.heap m) (N : News h₀ L s.heap news) (ha : x.cps.all (· < 128) = true)
    (h : ∀ I h', Fr h₀ L h' m → News h₀ L h' ((I, strItO x t) :: news) → (∀ p ∈ news, p.1 < I) → Q (.ref I) { s with heap := h' }) : wpAny (model prog w) A (pyIter (.str x t)) Q E s :=
  wpAny_pyIter_ascii ha (h _ _ (F.push _) (News.push F N _) fun p hp => Heap.lt_size (N p hp).1)
theorem next_str_K {o : Obj} {i c : Nat} {Q : Option Value → Shared → Prop} (F : Fr h₀ L s.heap m) (N : News h₀ L s.heap news) (hm : (I, o) ∈ news) (h1 : o.cls = .type "str_ascii_iterator") (h2 : o.data = .fields #[.str x t, .int i 0]) (hx : x.cps[i]? = some c) (U : ∀ o', Upd I o o' news (newsF o'))
    (h : ∀ h' o', o'.cls = .type "str_ascii_iterator" → o'.data = .fields #[.str x t, .int (i + 1 : Nat) 0] → Fr h₀ L h' m → News h₀ L h' (newsF o') → Q (some (.str ⟨#[c]⟩ s.toks)) { s with heap := h', toks := s.toks + 1 }) : wpAny (model prog w) A (pyNext (.ref I)) Q E s := by
  have hN := N _ hm
  refine wpAny_pyNext_ascii_item ⟨o, hN.1, h1, h2⟩ hx fun h' hit hs => ?_
  obtain ⟨o', a, b, c⟩ := hit
  obtain ⟨pre, post, e1, e2, e3, e4⟩ := (U o').split
  refine h h' o' b c (F.change hs hN.2.1 hN.2.2) ?_
  rw [e2]
  exact news_set (e1 ▸ N) e3 e4 hs a
theorem end_str_K {o : Obj} {i : Nat} {Q : Option Value → Shared → Prop} (hh : A.handled = none) (F : Fr h₀ L s.heap m) (N : News h₀ L s.heap ((I, o) :: news)) (hlt : ∀ p ∈ news, p.1 < I) (h1 : o.cls = .type "str_ascii_iterator") (h2 : o.data = .fields #[.str x t, .int i 0]) (hx : x.cps[i]? = none)
    (h : ∀ h', Fr h₀ L h' m → News h₀ L h' news → Q none { s with heap := h' }) : wpAny (model prog w) A (pyNext (.ref I)) Q E s := by
  have hN := N _ (.head _)
  refine wpAny_pyNext_ascii_end hh ⟨o, hN.1, h1, h2⟩ hx fun h' he => ?_
  obtain ⟨oL, a1, a2, hoL, a3⟩ := F.ns
  refine h h' ⟨⟨oL, a1, a2, he L oL hN.2.1.symm hoL, a3⟩, fun c o e => he c o (fun hc => by rw [hc, hN.2.2] at e; cases e) (F.keep c o e), F.above⟩ fun p hp => ?_
  exact ⟨he _ _ (Nat.ne_of_lt (hlt p hp)) (N p (.tail _ hp)).1, (N p (.tail _ hp)).2⟩
theorem iter_rng_K {r : Addr} {a b c : Int} {t u v : Tok} {Q : Value → Shared → Prop} (F : Fr h₀ L s.heap m) (N : News h₀ L s.heap news) (hr : IsRange s.heap r a b c t u v) (hsm : Builtin.Range.small a b c = true)
    (h : ∀ I h', Fr h₀ L h' m → News h₀ L h' ((I, rngItO a (Builtin.Range.rangeSize a b c) c) :: news) → (∀ p ∈ news, p.1 < I) → Q (.ref I) { s with heap := h' }) : wpAny (model prog w) A (pyIter (.ref r)) Q E s :=
  wpAny_pyIter_range hr hsm (h _ _ (F.push _) (News.push F N _) fun p hp => Heap.lt_size (N p hp).1)
theorem next_rng_K {a b c : Int} {news' : List (Addr × Obj)} {Q : Option Value → Shared → Prop} (F : Fr h₀ L s.heap m) (N : News h₀ L s.heap news) (hm : (I, rngItO a b c) ∈ news) (hb : 0 < b) (U : Upd I (rngItO a b c) (rngItO (a + c) (b - 1) c) news news')
    (h : ∀ h', Fr h₀ L h' m → News h₀ L h' news' → Q (some (.int a s.toks)) { s with heap := h', toks := s.toks + 1 }) : wpAny (model prog w) A (pyNext (.ref I)) Q E s := by
  have hN := N _ hm
  refine wpAny_pyNext_range_item hN.1 hb fun h' hit hs => ?_
  obtain ⟨pre, post, e1, e2, e3, e4⟩ := U.split
  refine h h' (F.change hs hN.2.1 hN.2.2) ?_
  rw [e2]
  exact news_set (e1 ▸ N) e3 e4 hs hit
theorem end_rng_K {a b c : Int} {Q : Option Value → Shared → Prop} (hh : A.handled = none) (F : Fr h₀ L s.heap m) (N : News h₀ L s.heap ((I, rngItO a b c) :: news)) (hlt : ∀ p ∈ news, p.1 < I) (hb : b ≤ 0)
    (h : ∀ h', Fr h₀ L h' m → News h₀ L h' news → Q none { s with heap := h' }) : wpAny (model prog w) A (pyNext (.ref I)) Q E s := by
  have hN := N _ (.head _)
  refine wpAny_pyNext_range_end hh hN.1 hb fun h' he => ?_
  obtain ⟨oL, a1, a2, hoL, a3⟩ := F.ns
  refine h h' ⟨⟨oL, a1, a2, he L oL hN.2.1.symm hoL, a3⟩, fun c o e => he c o (fun hc => by rw [hc, hN.2.2] at e; cases e) (F.keep c o e), F.above⟩ fun p hp => ?_
  exact ⟨he _ _ (Nat.ne_of_lt (hlt p hp)) (N p (.tail _ hp)).1, (N p (.tail _ hp)).2⟩
theorem News.sub {h : Heap} {ns : List (Addr × Obj)} (N : News h₀ L h news) (hs : ∀ p ∈ ns, p ∈ news) : News h₀ L h ns := fun p hp => N p (hs p hp)
end
theorem pcount_n {w : World} {mg mb : Str → Option Value} {b : Heap} {s : Shared} {x dx : Addr} {parts : List Value} {n : Nat} {zt : Tok} {z : Value} {k : Nat} {c : Int} {Q E : Value → Shared → Prop}
    (B : Base w mg mb b) (kb : Sub b s.heap) (hx : s.heap.get? x = some (accO dx parts n)) (hx0 : b.get? x = none) (hdx : s.heap.get? dx = some (accD w.params zt z k)) (hdx0 : b.get? dx = none) (hc : (parts.length : Int) = c)
    (hret : ∀ h' tk' t', But [] s.heap h' → Q (.int c t') { s with heap := h', toks := tk' }) :
    wpAny (model pw w) (Av 13) (call (.ref 211) [.ref x]) Q E s := pcount_c B kb hx hx0 hdx hdx0 (hc ▸ hret)
end Mine
end
section
open PySem PySem.W PyProof.Rows PySem.Calls PySem.Spec
set_option maxRecDepth 100000
set_option maxHeartbeats 8000000
set_option pp.deepTerms false
set_option pp.maxSteps 20000
namespace Mine
theorem dummyY6 : True := by
  k_with_none
  w_top off
  k_with "lt8" => with_reducible first | assumption | exact And.left (by assumption) | exact And.left (And.right (by assumption)) | exact And.left (And.right (And.right (by assumption))) | exact And.left (And.right (And.right (And.right (by assumption)))) | exact And.left (And.right (And.right (And.right (And.right (by assumption))))) | exact And.left (And.right (And.right (And.right (And.right (And.right (by assumption)))))) | exact And.left (And.right (And.right (And.right (And.right (And.right (And.right (by assumption))))))) | exact And.left (And.right (And.right (And.right (And.right (And.right (And.right (And.right (by assumption)))))))) | exact And.left (And.right (And.right (And.right (And.right (And.right (And.right (And.right (And.right (by assumption))))))))) | exact And.left (And.right (And.right (And.right (And.right (And.right (And.right (And.right (And.right (And.right (by assumption)))))))))) | exact And.left (And.right (And.right (And.right (And.right (And.right (And.right (And.right (And.right (And.right (And.right (by assumption))))))))))) | exact And.left (And.right (And.right (And.right (And.right (And.right (And.right (And.right (And.right (And.right (And.right (And.right (by assumption)))))))))))) | exact And.left (And.right (And.right (And.right (And.right (And.right (And.right (And.right (And.right (And.right (And.right (And.right (And.right (by assumption)))))))))))))
  k_with "lt9" => first | exact Nat.ne_of_lt (by walk_at "lt8") | exact Nat.ne_of_gt (by walk_at "lt8")
  trivial
theorem withY6x23 : True := by
  k_with_none
  w_top off
  k_with "lt8" => with_reducible first | assumption | exact And.left (by assumption) | exact And.left (And.right (by assumption)) | exact And.left (And.right (And.right (by assumption))) | exact And.left (And.right (And.right (And.right (by assumption)))) | exact And.left (And.right (And.right (And.right (And.right (by assumption))))) | exact And.left (And.right (And.right (And.right (And.right (And.right (by assumption)))))) | exact And.left (And.right (And.right (And.right (And.right (And.right (And.right (by assumption))))))) | exact And.left (And.right (And.right (And.right (And.right (And.right (And.right (And.right (by assumption)))))))) | exact And.left (And.right (And.right (And.right (And.right (And.right (And.right (And.right (And.right (by assumption))))))))) | exact And.left (And.right (And.right (And.right (And.right (And.right (And.right (And.right (And.right (And.right (by assumption)))))))))) | exact And.left (And.right (And.right (And.right (And.right (And.right (And.right (And.right (And.right (And.right (And.right (by assumption))))))))))) | exact And.left (And.right (And.right (And.right (And.right (And.right (And.right (And.right (And.right (And.right (And.right (And.right (by assumption)))))))))))) | exact And.left (And.right (And.right (And.right (And.right (And.right (And.right (And.right (And.right (And.right (And.right (And.right (And.right (by assumption)))))))))))))
  k_with "lt9" => first | exact Nat.ne_of_lt (by walk_at "lt8") | exact Nat.ne_of_gt (by walk_at "lt8")
  k_with "k_ne" => (refine neN ?_; (try dsimp only); first | exact NeA.h (by assumption) | exact Ne.symm (NeA.h (by assumption)) | walk_at "lt9" | lia | omega)
  k_with "OLD" => repeat (first | exact fa_nil | (refine fa_cons ?_ ?_; (first | exact .inl (by k_mem) | exact .inr (by k_mem))))
  k_with "N0" => repeat (first | exact fa_nil | (refine fa_cons ⟨by assumption, by first | assumption | exact Base.n1 (by assumption) | exact Base.n2 (by assumption)⟩ ?_))
  k_with "k_inst" => (refine' acc_inst ?kw9N ?kw9h1 ?kw9h2; (case kw9N => k_asm); (case kw9h1 => k_mem); (case kw9h2 => k_mem))
  k_with "getMethod ref" => (k_here; k_dflt (refine' acc_method ?kw9k2 ?kw9k3 ?kw9k4 ?kw9k5 ?kw9k6 ?kw9k7 ?kw9k8 ?_ ?kw9k9; (case kw9k2 => k_in); (case kw9k3 => k_inst); (case kw9k4 => k_is); (case kw9k5 => k_is); (case kw9k6 => k_is); (case kw9k7 => k_is); (case kw9k8 => k_get); (case kw9k9 => decide +kernel); k_whole))
  k_with "getAttr ref" => (k_here; k_dflt (refine' acc_get_own ?kw9k1 ?kw9k2 ?kw9k3 ?kw9k4 ?kw9k5 ?kw9k6 ?kw9k7 ?kw9k8 ?kw9k9 ?kw9k10 ?_; (case kw9k1 => k_in); (case kw9k2 => k_inst); (case kw9k3 => k_is); (case kw9k4 => k_is); (case kw9k5 => k_is); (case kw9k6 => k_is); (case kw9k7 => k_is); (case kw9k8 => k_is); (case kw9k9 => k_get); (case kw9k10 => k_handed); k_whole))
  trivial
theorem chunkB_c {w : World} {mg mb : Str → Option Value} {b : Heap} {s : Shared} {k : Mk} {ls : List (Str × Tok)} {f p : Str} {tf tp : Tok} {Q E : Value → Shared → Prop}
    (B : Base w mg mb b) (S : St b s) (O : Own5 b k) (M : MkAt w.params s.heap k ls []) (hf : f.length ≤ 100) (hp : p.length ≤ 100)
    (hle : k.wd < f.length + p.length)
    (hret : ∀ h' gn tk' t, But [k.x, 176] s.heap h' → St b { s with heap := h', gens := gn, toks := tk' } → MkAt w.params h' k ls [⟨t, f, tf, p, tp⟩] → s.heap.get? t = none → Q .none { s with heap := h', toks := tk', gens := gn }) :
    wpAny (model pw w) (Av 8) (call (.ref 127) [.ref k.m, .str f tf, .str p tp]) Q E s := by
  obtain ⟨kb, ⟨o1, ho1, ht1⟩, ⟨o2, ho2, ht2⟩, gb⟩ := S
  have hsm : ([] : List It).length < 50 := by decide
  have hsm2 : ∀ i ∈ ([] : List It), i.f.length ≤ 100 ∧ i.p.length ≤ 100 := fun _ h => nomatch h
  generalize hl0 : ([] : List It) = l at M hsm hsm2
  obtain ⟨Om, Odm, Ol, Ox, Odx⟩ := O
  obtain ⟨hm, hdm, ⟨nl, hl⟩, ⟨n, hx⟩, ⟨zt, z, nz, hdx⟩, hit, nd⟩ := M
  obtain ⟨m, dm, al, x, dx, t1, t2, t3, t4, t5, t6, tw, tc, tn, ts, wd⟩ := k
  dsimp only [Mk.dict] at *
  have d1 : NeA m dm := ⟨ne_of_get hm hdm fun e => nomatch (congrArg Obj.data e)⟩
  have d2 : NeA m al := ⟨ne_of_get hm hl fun e => nomatch (congrArg Obj.data e)⟩
  have d3 : NeA m x := ⟨ne_of_get hm hx fun e => nomatch (congrArg Obj.data e)⟩
  have d4 : NeA m dx := ⟨ne_of_get hm hdx fun e => nomatch (congrArg Obj.data e)⟩
  have d5 : NeA m 176 := ⟨ne_tab hm ho1 ht1 fun v e => nomatch e⟩
  have d6 : NeA m 183 := ⟨ne_tab hm ho2 ht2 fun v e => nomatch e⟩
  have d7 : NeA dm al := ⟨ne_of_get hdm hl fun e => nomatch (congrArg Obj.data e)⟩
  have d8 : NeA dm x := ⟨ne_of_get hdm hx fun e => nomatch (congrArg Obj.data e)⟩
  have d9 : NeA dm 176 := ⟨ne_tab hdm ho1 ht1 fun v e => nomatch e⟩
  have d10 : NeA dm 183 := ⟨ne_tab hdm ho2 ht2 fun v e => nomatch e⟩
  have d11 : NeA al x := ⟨ne_of_get hl hx fun e => nomatch (congrArg Obj.cls e)⟩
  have d12 : NeA al dx := ⟨ne_of_get hl hdx fun e => nomatch (congrArg Obj.data e)⟩
  have d13 : NeA al 176 := ⟨ne_tab hl ho1 ht1 fun v e => nomatch e⟩
  have d14 : NeA al 183 := ⟨ne_tab hl ho2 ht2 fun v e => nomatch e⟩
  have d15 : NeA x dx := ⟨ne_of_get hx hdx fun e => nomatch (congrArg Obj.data e)⟩
  have d16 : NeA x 176 := ⟨ne_tab hx ho1 ht1 accO_nf⟩
  have d17 : NeA x 183 := ⟨ne_tab hx ho2 ht2 accO_nf⟩
  have d18 : NeA dx 176 := ⟨ne_tab hdx ho1 ht1 accD_nf⟩
  have d19 : NeA dx 183 := ⟨ne_tab hdx ho2 ht2 accD_nf⟩
  refine wpAny_call ?_
  have N0 : ∀ p ∈ [(m, instObj 130 dm), (dm, mkD w.params t1 t2 t3 t4 t5 t6 tw tc tn ts wd al x), (al, { cls := .type "list", data := .seq (strValues ls).toArray nl }), (x, accO dx (l.map It.ref) n), (dx, accD w.params zt (.int 0 z) nz), (176, o1)], s.heap.get? p.1 = some p.2 ∧ b.get? p.1 = none := by walk_at "N0"
  k_dflt (refine' enter (binds := [(Str.ofString "self", .ref m), (Str.ofString "fws", .str f tf), (Str.ofString "string", .str p tp)]) B kb N0 ?k4 ?k5 ?k6 ?k7 ?k8 ?_ ?k10 ?k11 ?k12 ?k13; (case k4 => k_is); (case k5 => k_is); (case k6 => decide); (case k7 => exact BindsTo.of_eq rfl); (case k8 => exact locs rfl); (case k10 => decide); (case k11 => exact rfl); (case k12 => exact rfl); (case k13 => exact rfl))
  intro g L' h₁ tk₀ F N X T hk hs hL
  (try dsimp only)
  (try k_fold)
  k_steps
  have hitg : ItemsAt g l := hit.to fun i hi o e => hk _ _ (fun hq => by
    simp only [List.map_cons, List.map_nil, List.mem_cons, List.not_mem_nil, or_false] at hq
    rcases hq with h | h | h | h | h | h
    · exact items_off hit hm (fun v e => nomatch (congrArg Obj.data e)) i hi h
    · exact items_off hit hdm (fun v e => nomatch (congrArg Obj.data e)) i hi h
    · exact items_off hit hl list_not_tup i hi h
    · exact items_off hit hx acc_not_tup i hi h
    · exact items_off hit hdx accD_not_tup i hi h
    · exact items_off hit ho1 (tabO_not_tup ht1) i hi h) e
  have hszl : sizeLine = 16777216 := rfl
  refine lift (push_c B (subF hs F) (N.get (.tail _ (.tail _ (.tail _ (.head _))))) Ox (N.get (.tail _ (.tail _ (.tail _ (.tail _ (.head _)))))) Odx d15.h (by rw [List.length_map, hszl]; (first | lia | omega)) (fun h2 t tk2 e1 e2 e3 e4 => ?_)) rfl (by with_unfolding_all exact Nat.le_of_ble_eq_true rfl) (by with_unfolding_all exact Nat.le_of_ble_eq_true rfl) rfl rfl
  obtain ⟨F2, N2⟩ := after_upd_new (o := accO dx (l.map It.ref) n) (add := [(t, It.obj ⟨t, f, tf, p, tp⟩)]) F N e4 (by k_upd) e1 (fa_cons ⟨e2, e3⟩ fa_nil)
  have el : l.map It.ref ++ [Value.ref t] = (l ++ [(⟨t, f, tf, p, tp⟩ : It)]).map It.ref := by simp
  rw [el] at N2
  clear F N
  dsimp only [List.cons_append, List.nil_append] at N2
  k_steps
  have hit2 : ItemsAt h2 (l ++ [(⟨t, f, tf, p, tp⟩ : It)]) := items_snoc (hitg.to fun i hi o e => F2.keep _ _ e) (N2.get (.head _))
  have hsm' : Small (l ++ [(⟨t, f, tf, p, tp⟩ : It)]) := small_snoc hsm hsm2 hf hp
  have hsz := size_le hsm'
  have hlen := hsm'.1
  refine lift (len_c B (subF hs F2) (N2.get (.tail _ (.tail _ (.tail _ (.tail _ (.head _)))))) Ox (N2.get (.tail _ (.tail _ (.tail _ (.tail _ (.tail _ (.head _))))))) Odx (N2.get (.tail _ (.tail _ (.tail _ (.tail _ (.tail _ (.tail _ (.head _)))))))) ht1 gb hit2 hsm' (fun h3 gn3 tk3 t3' b3 gb3 o3 => ?_)) rfl (by with_unfolding_all exact Nat.le_of_ble_eq_true rfl) (by with_unfolding_all exact Nat.le_of_ble_eq_true rfl) rfl rfl
  refine ⟨⟨hsz.1, by (first | lia | omega)⟩, ?_⟩
  obtain ⟨op3, hop3, hto3⟩ := o3
  have d20 : NeA t 176 := ⟨ne_tab (N2.get (.head _)) (N2.get (.tail _ (.tail _ (.tail _ (.tail _ (.tail _ (.tail _ (.head _)))))))) ht1 fun v e => nomatch e⟩
  obtain ⟨F3, N3⟩ := after_upd (o := o1) F2 N2 b3 (by k_upd) hop3
  subst hl0
  rw [size_snoc] at *
  simp only [size, List.map_nil, List.sum_nil, List.nil_append] at *
  clear F2 N2
  k_steps
  refine for_exec ?_ (by intro _; with_unfolding_all rfl)
  k_steps
  rename Fr _ _ _ _ => F4
  rename News _ _ _ _ => N4
  refine iter_str_K F4 N4 (by decide +kernel) (fun I h4 F5 N5 lI => ?_)
  have lI2 := lI
  k_lt lI2
  refine for_turn ?_
  refine next_str_K (i := 0) (c := 32) F5 N5 (.head _) rfl rfl (by decide +kernel) (fun o' => by k_upd) (fun h5 o5 c1 c2 F6 N6 => ?_)
  clear F4 N4 F5 N5
  dsimp only
  refine wpAny_of_eq (a := ()) rfl ?_
  k_steps
  refine for_exec ?_ (by intro _; with_unfolding_all rfl)
  k_steps
  rename Fr _ _ _ _ => F7
  rename News _ _ _ _ => N7
  dsimp only [List.append_nil, List.nil_append, List.cons_append]
  refine lift (pcount_n (c := 1) B (subF hs F7) (N7.get (by k_mem)) Ox (N7.get (by k_mem)) Odx rfl (fun h7 tk7 t7 b7 => ?_)) rfl (by with_unfolding_all exact Nat.le_of_ble_eq_true rfl) (by with_unfolding_all exact Nat.le_of_ble_eq_true rfl) rfl rfl
  obtain ⟨F8, N8⟩ := after0 F7 N7 b7
  clear F7 N7
  k_steps
  rename Fr _ _ _ _ => F9
  rename News _ _ _ _ => N9
  refine iter_rng_K (a := 1 - 1) (b := 0) (c := -1) F9 N9 (by assumption) (by decide +kernel) (fun I2 h8 F10 N10 lJ => ?_)
  refine for_turn ?_
  refine end_rng_K rfl F10 N10 lJ (by decide +kernel) (fun h9 F11 N11 => ?_)
  clear F9 N9 F10 N10
  dsimp only
  k_steps
  dsimp only [Turned]
  refine for_turn ?_
  rename Fr _ _ _ _ => F12
  rename News _ _ _ _ => N12
  refine end_str_K (i := 1) rfl F12 N12 lI c1 c2 (by decide +kernel) (fun h10 F13 N13 => ?_)
  clear F12 N12
  dsimp only
  k_steps
  rename Fr _ _ _ _ => F14
  rename News _ _ _ _ => N14
  rw [← el] at N14
  dsimp only [List.append_nil, List.nil_append, List.cons_append]
  refine lift (pop_c (parts := []) (v := .ref t) B (subF hs F14) (N14.get (by k_mem)) Ox (N14.get (by k_mem)) Odx (by decide) (fun h14 tk14 b14 e14 => ?_)) rfl (by with_unfolding_all exact Nat.le_of_ble_eq_true rfl) (by with_unfolding_all exact Nat.le_of_ble_eq_true rfl) rfl rfl
  have d21 : NeA t x := ⟨ne_of_get (N14.get (.head _)) (N14.get (.tail _ (.tail _ (.tail _ (.tail _ (.head _)))))) fun e => nomatch (congrArg Obj.cls e)⟩
  obtain ⟨F15, N15⟩ := after_upd (o := accO dx [.ref t] (n + 1)) F14 N14 b14 (by k_upd) e14
  clear F14 N14
  k_steps
  rename Fr _ _ _ _ => F16
  rename News _ _ _ _ => N16
  refine lift (push_c (parts := []) B (subF hs F16) (N16.get (by k_mem)) Ox (N16.get (by k_mem)) Odx d15.h (by decide) (fun h16 t' tk16 q1 q2 q3 q4 => ?_)) rfl (by with_unfolding_all exact Nat.le_of_ble_eq_true rfl) (by with_unfolding_all exact Nat.le_of_ble_eq_true rfl) rfl rfl
  obtain ⟨F17, N17⟩ := after_upd_new (o := accO dx [] (n + 1 + 1)) (add := [(t', It.obj ⟨t', f, tf, p, tp⟩)]) F16 N16 q4 (by k_upd) q1 (fa_cons ⟨q2, q3⟩ fa_nil)
  have hfr : s.heap.get? t' = none := fresh_end hk (none_of_sub F16.keep q3) (fa_cons (ne_of_none (N16.get (.tail _ (.head _))) q3) (fa_cons (ne_of_none (N16.get (.tail _ (.tail _ (.head _)))) q3) (fa_cons (ne_of_none (N16.get (.tail _ (.tail _ (.tail _ (.head _))))) q3) (fa_cons (ne_of_none (N16.get (.tail _ (.tail _ (.tail _ (.tail _ (.head _)))))) q3) (fa_cons (ne_of_none (N16.get (.tail _ (.tail _ (.tail _ (.tail _ (.tail _ (.head _))))))) q3) (fa_cons (ne_of_none (N16.get (.tail _ (.tail _ (.tail _ (.tail _ (.tail _ (.tail _ (.head _)))))))) q3) fa_nil))))))
  clear F16 N16
  dsimp only [List.cons_append, List.nil_append] at N17
  k_steps
  have bt := but_same (xs := [x, 176]) hk F17.keep N17 N0 (fa_cons (.inr (by k_mem)) (fa_cons (.inr (by k_mem)) (fa_cons (.inr (by k_mem)) (fa_cons (.inl (.head _)) (fa_cons (.inr (by k_mem)) (fa_cons (.inl (.tail _ (.head _))) fa_nil))))))
  exact hret _ _ _ t' bt ⟨kb.but bt (fa_cons Ox (fa_cons B.n1 fa_nil)), ⟨op3, N17.get (by k_mem), hto3⟩, ⟨o2, bt _ _ (fun hq => by
      simp only [List.mem_cons, List.not_mem_nil, or_false] at hq
      rcases hq with h | h
      · exact d17.h h.symm
      · exact absurd h (by decide)) ho2, ht2⟩, gb3⟩
    ⟨N17.get (by k_mem), N17.get (by k_mem), ⟨_, N17.get (by k_mem)⟩, ⟨_, N17.get (by k_mem)⟩, ⟨_, _, _, N17.get (by k_mem)⟩, (fun i hi => by rw [List.mem_singleton.mp hi]; exact N17.get (.head _)), nd⟩ hfr
end Mine
end
section
open PySem PySem.W PyProof.Rows PySem.Calls PySem.Spec
set_option maxRecDepth 100000
set_option maxHeartbeats 8000000
set_option pp.deepTerms false
set_option pp.maxSteps 20000
namespace Mine
theorem dummyY7 : True := by
  k_with_none
  w_top off
  k_with "lt8" => with_reducible first | assumption | exact And.left (by assumption) | exact And.left (And.right (by assumption)) | exact And.left (And.right (And.right (by assumption))) | exact And.left (And.right (And.right (And.right (by assumption)))) | exact And.left (And.right (And.right (And.right (And.right (by assumption))))) | exact And.left (And.right (And.right (And.right (And.right (And.right (by assumption)))))) | exact And.left (And.right (And.right (And.right (And.right (And.right (And.right (by assumption))))))) | exact And.left (And.right (And.right (And.right (And.right (And.right (And.right (And.right (by assumption)))))))) | exact And.left (And.right (And.right (And.right (And.right (And.right (And.right (And.right (And.right (by assumption))))))))) | exact And.left (And.right (And.right (And.right (And.right (And.right (And.right (And.right (And.right (And.right (by assumption)))))))))) | exact And.left (And.right (And.right (And.right (And.right (And.right (And.right (And.right (And.right (And.right (And.right (by assumption))))))))))) | exact And.left (And.right (And.right (And.right (And.right (And.right (And.right (And.right (And.right (And.right (And.right (And.right (by assumption)))))))))))) | exact And.left (And.right (And.right (And.right (And.right (And.right (And.right (And.right (And.right (And.right (And.right (And.right (And.right (by assumption)))))))))))))
  k_with "lt9" => first | exact Nat.ne_of_lt (by walk_at "lt8") | exact Nat.ne_of_gt (by walk_at "lt8")
  trivial
theorem after_upd2 {g h h' : Heap} {L a c : Addr} {m : Str → Option Value} {news news' news'' : List (Addr × Obj)} {o o' p p' : Obj} (F : Fr g L h m) (N : News g L h news) (b : But [a, c] h h') (U : Upd a o o' news news') (V : Upd c p p' news' news'') (ho : h'.get? a = some o') (hp : h'.get? c = some p') : Fr g L h' m ∧ News g L h' news'' := by
  have k1 := upd_keys U
  have k2 := upd_keys V
  obtain ⟨pre, post, rfl, e1, u1, u2⟩ := U.split
  obtain ⟨pre2, post2, e2, rfl, v1, v2⟩ := V.split
  have own : ∀ q ∈ pre2 ++ (c, p') :: post2, q.1 ∈ (pre ++ (a, o) :: post).map (·.1) := fun q hq => by
    rw [← k1, ← k2]; exact List.mem_map_of_mem hq
  refine after F N b (fun x hx => ?_) fun q hq => ⟨?_, .inl (own q hq)⟩
  · rcases List.mem_cons.mp hx with rfl | hx
    · simp
    · rw [List.mem_singleton.mp hx]
      exact own (c, p') (by simp)
  · by_cases hc : q.1 = c
    · have : q = (c, p') := by
        rcases List.mem_append.mp hq with h | h
        · exact absurd hc (v1 q h)
        · rcases List.mem_cons.mp h with h | h
          · exact h
          · exact absurd hc (v2 q h)
      rw [this]; exact hp
    · have hq1 : q ∈ news' := by
        rw [e2]
        rcases List.mem_append.mp hq with h | h
        · exact List.mem_append_left _ h
        · rcases List.mem_cons.mp h with h | h
          · rw [h] at hc; exact absurd rfl hc
          · exact List.mem_append_right _ (List.mem_cons_of_mem _ h)
      by_cases ha : q.1 = a
      · have : q = (a, o') := by
          rw [e1] at hq1
          rcases List.mem_append.mp hq1 with h | h
          · exact absurd ha (u1 q h)
          · rcases List.mem_cons.mp h with h | h
            · exact h
            · exact absurd ha (u2 q h)
        rw [this]; exact ho
      · refine b _ _ (fun hm => ?_) (N q ?_).1
        · rcases List.mem_cons.mp hm with h | h
          · exact ha h
          · exact hc (List.mem_singleton.mp h)
        · rw [e1] at hq1
          rcases List.mem_append.mp hq1 with h | h
          · exact List.mem_append_left _ h
          · rcases List.mem_cons.mp h with h | h
            · rw [h] at ha; exact absurd rfl ha
            · exact List.mem_append_right _ (List.mem_cons_of_mem _ h)
theorem popfrom_n {w : World} {mg mb : Str → Option Value} {b : Heap} {s : Shared} {x dx : Addr} {parts : List Value} {v : Value} {n : Nat} {zt : Tok} {z : Value} {k : Nat} {ti : Tok} {c : Int} {Q E : Value → Shared → Prop}
    (B : Base w mg mb b) (kb : Sub b s.heap) (hx : s.heap.get? x = some (accO dx (parts ++ [v]) n)) (hx0 : b.get? x = none) (hdx : s.heap.get? dx = some (accD w.params zt z k)) (hdx0 : b.get? dx = none) (hsz : parts.length < 100) (hc : (parts.length : Int) = c)
    (hret : ∀ h' tk' r n' n2, But [x] s.heap h' → h'.get? x = some (accO dx parts n') → s.heap.get? r = none → h'.get? r = some { cls := .type "list", data := .seq #[v] n2 } → Q (.ref r) { s with heap := h', toks := tk' }) :
    wpAny (model pw w) (Av 12) (call (.ref 166) [.ref x, .int c ti]) Q E s := hc ▸ popfrom_c B kb hx hx0 hdx hdx0 hsz hret
theorem item_is {f : Str} (h : f.cps[0]? = some 32) : (Txt.item f 0 == Str.ofString " ") = true := by
  have hl : 0 < f.cps.size := by
    by_cases h0 : 0 < f.cps.size
    · exact h0
    · rw [Array.getElem?_eq_none (by (first | lia | omega))] at h; cases h
  have e : Txt.charAt f 0 = some 32 := by
    unfold Txt.charAt
    have : seqIndex? 0 f.length = some 0 := by
      have h1 : ¬ ((0 : Int) < 0) := by decide
      have h2 : (0 : Int) < (f.length : Int) := by show (0 : Int) < (f.cps.size : Int); (first | lia | omega)
      unfold seqIndex?
      rw [if_neg h1]
      simp only [h2, decide_true, Bool.and_true]
      rfl
    rw [this]; exact h
  unfold Txt.item
  rw [e]
  decide
section
variable {prog : Program} {w : World} {A : Around} {E : Value → Shared → Prop} {s : Shared} {K : Frag} {x C dx L : Addr} {ox od : Obj} {h₀ : Heap} {m : Str → Option Value} {news news' : List (Addr × Obj)} {parts : List Value} {n : Nat}
theorem acc_item_K {value slice : Expr} {k : Int} {tk : Tok} {v : Value} {ops : List Value} {Q : Value → Shared → Prop} (F : Fr h₀ L s.heap m) (X₀ : K.In h₀) (N : News h₀ L s.heap news) (hx : (x, accO dx parts n) ∈ news) (hd : (dx, od) ∈ news)
    (hq : noSeq K 214 = true) (hf : findIn K (.ref 214) "__getitem__" = some (some (.builtin "list.__getitem__"))) (hm : mroIn K 214 (.type "list") = some true) (h0 : 0 ≤ k) (h1 : k < 100) (hk : parts[k.toNat]? = some v)
    (hs : subscripted slice false (.ref x) (.int k tk) = operate ops (getItem (.ref x) (.int k tk))) (ht : ∀ r, letTemporaryGo value (.ref x) r = pure ())
    (h : Q v s) : wpAny (model prog w) A (subscriptTail value slice (.ref x) (.int k tk)) Q E s := by
  have I : InstAt s.heap x (accO dx parts n) 214 (some od) := ⟨(N _ hx).1, rfl, rfl, (N _ hd).1⟩
  have hfit : Builtin.List.listFitsIndex k = true := by
    unfold Builtin.List.listFitsIndex
    rw [Bool.and_eq_true, decide_eq_true_eq, decide_eq_true_eq]
    (first | lia | omega)
  refine acc_sub (X₀.keeps F.keep) I hq hf hm ?_ hs ht
  exact getitem_int (N _ hx).1 h0 hfit (by simpa using hk) h
end
theorem withY7x24 : True := by
  k_with_none
  w_top off
  k_with "lt8" => with_reducible first | assumption | exact And.left (by assumption) | exact And.left (And.right (by assumption)) | exact And.left (And.right (And.right (by assumption))) | exact And.left (And.right (And.right (And.right (by assumption)))) | exact And.left (And.right (And.right (And.right (And.right (by assumption))))) | exact And.left (And.right (And.right (And.right (And.right (And.right (by assumption)))))) | exact And.left (And.right (And.right (And.right (And.right (And.right (And.right (by assumption))))))) | exact And.left (And.right (And.right (And.right (And.right (And.right (And.right (And.right (by assumption)))))))) | exact And.left (And.right (And.right (And.right (And.right (And.right (And.right (And.right (And.right (by assumption))))))))) | exact And.left (And.right (And.right (And.right (And.right (And.right (And.right (And.right (And.right (And.right (by assumption)))))))))) | exact And.left (And.right (And.right (And.right (And.right (And.right (And.right (And.right (And.right (And.right (And.right (by assumption))))))))))) | exact And.left (And.right (And.right (And.right (And.right (And.right (And.right (And.right (And.right (And.right (And.right (And.right (by assumption)))))))))))) | exact And.left (And.right (And.right (And.right (And.right (And.right (And.right (And.right (And.right (And.right (And.right (And.right (And.right (by assumption)))))))))))))
  k_with "lt9" => first | exact Nat.ne_of_lt (by walk_at "lt8") | exact Nat.ne_of_gt (by walk_at "lt8")
  k_with "k_ne" => (refine neN ?_; (try dsimp only); first | exact NeA.h (by assumption) | exact Ne.symm (NeA.h (by assumption)) | walk_at "lt9" | lia | omega)
  k_with "OLD" => repeat (first | exact fa_nil | (refine fa_cons ?_ ?_; (first | exact .inl (by k_mem) | exact .inr (by k_mem))))
  k_with "N0" => repeat (first | exact fa_nil | (refine fa_cons ⟨by assumption, by first | assumption | exact Base.n1 (by assumption) | exact Base.n2 (by assumption)⟩ ?_))
  k_with "k_inst" => (refine' acc_inst ?kw9N ?kw9h1 ?kw9h2; (case kw9N => k_asm); (case kw9h1 => k_mem); (case kw9h2 => k_mem))
  k_with "getMethod ref" => (k_here; k_dflt (refine' acc_method ?kw9k2 ?kw9k3 ?kw9k4 ?kw9k5 ?kw9k6 ?kw9k7 ?kw9k8 ?_ ?kw9k9; (case kw9k2 => k_in); (case kw9k3 => k_inst); (case kw9k4 => k_is); (case kw9k5 => k_is); (case kw9k6 => k_is); (case kw9k7 => k_is); (case kw9k8 => k_get); (case kw9k9 => decide +kernel); k_whole))
  k_with "getAttr ref" => (k_here; k_dflt (refine' acc_get_own ?kw9k1 ?kw9k2 ?kw9k3 ?kw9k4 ?kw9k5 ?kw9k6 ?kw9k7 ?kw9k8 ?kw9k9 ?kw9k10 ?_; (case kw9k1 => k_in); (case kw9k2 => k_inst); (case kw9k3 => k_is); (case kw9k4 => k_is); (case kw9k5 => k_is); (case kw9k6 => k_is); (case kw9k7 => k_is); (case kw9k8 => k_is); (case kw9k9 => k_get); (case kw9k10 => k_handed); k_whole))
  trivial
theorem chunkC_c {w : World} {mg mb : Str → Option Value} {b : Heap} {s : Shared} {k : Mk} {ls : List (Str × Tok)} {l : List It} {f p : Str} {tf tp : Tok} {Q E : Value → Shared → Prop}
    (B : Base w mg mb b) (S : St b s) (O : Own5 b k) (M : MkAt w.params s.heap k ls l) (hsm : l.length < 50) (hsm0 : 0 < l.length) (hsm2 : ∀ i ∈ l, i.f.length ≤ 100 ∧ i.p.length ≤ 100) (hf : f.length ≤ 100) (hp : p.length ≤ 100)
    (hle : k.wd < size l + f.length + p.length) (hf0 : f.cps[0]? = some 32) (hls : ls.length < 50)
    (hret : ∀ h' gn tk' t tr, But [k.x, k.dx, k.l, 176, 183] s.heap h' → St b { s with heap := h', gens := gn, toks := tk' } → MkAt w.params h' k (ls ++ [(rowOf l, tr)]) [⟨t, f, tf, p, tp⟩] → s.heap.get? t = none → Q .none { s with heap := h', toks := tk', gens := gn }) :
    wpAny (model pw w) (Av 8) (call (.ref 127) [.ref k.m, .str f tf, .str p tp]) Q E s := by
  obtain ⟨kb, ⟨o1, ho1, ht1⟩, ⟨o2, ho2, ht2⟩, gb⟩ := S
  obtain ⟨Om, Odm, Ol, Ox, Odx⟩ := O
  obtain ⟨hm, hdm, ⟨nl, hl⟩, ⟨n, hx⟩, ⟨zt, z, nz, hdx⟩, hit, nd⟩ := M
  obtain ⟨m, dm, al, x, dx, t1, t2, t3, t4, t5, t6, tw, tc, tn, ts, wd⟩ := k
  dsimp only [Mk.dict] at *
  have d1 : NeA m dm := ⟨ne_of_get hm hdm fun e => nomatch (congrArg Obj.data e)⟩
  have d2 : NeA m al := ⟨ne_of_get hm hl fun e => nomatch (congrArg Obj.data e)⟩
  have d3 : NeA m x := ⟨ne_of_get hm hx fun e => nomatch (congrArg Obj.data e)⟩
  have d4 : NeA m dx := ⟨ne_of_get hm hdx fun e => nomatch (congrArg Obj.data e)⟩
  have d5 : NeA m 176 := ⟨ne_tab hm ho1 ht1 fun v e => nomatch e⟩
  have d6 : NeA m 183 := ⟨ne_tab hm ho2 ht2 fun v e => nomatch e⟩
  have d7 : NeA dm al := ⟨ne_of_get hdm hl fun e => nomatch (congrArg Obj.data e)⟩
  have d8 : NeA dm x := ⟨ne_of_get hdm hx fun e => nomatch (congrArg Obj.data e)⟩
  have d9 : NeA dm 176 := ⟨ne_tab hdm ho1 ht1 fun v e => nomatch e⟩
  have d10 : NeA dm 183 := ⟨ne_tab hdm ho2 ht2 fun v e => nomatch e⟩
  have d11 : NeA al x := ⟨ne_of_get hl hx fun e => nomatch (congrArg Obj.cls e)⟩
  have d12 : NeA al dx := ⟨ne_of_get hl hdx fun e => nomatch (congrArg Obj.data e)⟩
  have d13 : NeA al 176 := ⟨ne_tab hl ho1 ht1 fun v e => nomatch e⟩
  have d14 : NeA al 183 := ⟨ne_tab hl ho2 ht2 fun v e => nomatch e⟩
  have d15 : NeA x dx := ⟨ne_of_get hx hdx fun e => nomatch (congrArg Obj.data e)⟩
  have d16 : NeA x 176 := ⟨ne_tab hx ho1 ht1 accO_nf⟩
  have d17 : NeA x 183 := ⟨ne_tab hx ho2 ht2 accO_nf⟩
  have d18 : NeA dx 176 := ⟨ne_tab hdx ho1 ht1 accD_nf⟩
  have d19 : NeA dx 183 := ⟨ne_tab hdx ho2 ht2 accD_nf⟩
  refine wpAny_call ?_
  have N0 : ∀ p ∈ [(m, instObj 130 dm), (dm, mkD w.params t1 t2 t3 t4 t5 t6 tw tc tn ts wd al x), (al, { cls := .type "list", data := .seq (strValues ls).toArray nl }), (x, accO dx (l.map It.ref) n), (dx, accD w.params zt (.int 0 z) nz), (176, o1), (183, o2)], s.heap.get? p.1 = some p.2 ∧ b.get? p.1 = none := by walk_at "N0"
  k_dflt (refine' enter (binds := [(Str.ofString "self", .ref m), (Str.ofString "fws", .str f tf), (Str.ofString "string", .str p tp)]) B kb N0 ?k4 ?k5 ?k6 ?k7 ?k8 ?_ ?k10 ?k11 ?k12 ?k13; (case k4 => k_is); (case k5 => k_is); (case k6 => decide); (case k7 => exact BindsTo.of_eq rfl); (case k8 => exact locs rfl); (case k10 => decide); (case k11 => exact rfl); (case k12 => exact rfl); (case k13 => exact rfl))
  intro g L' h₁ tk₀ F N X T hk hs hL
  (try dsimp only)
  (try k_fold)
  k_steps
  have hitg : ItemsAt g l := hit.to fun i hi o e => hk _ _ (fun hq => by
    simp only [List.map_cons, List.map_nil, List.mem_cons, List.not_mem_nil, or_false] at hq
    rcases hq with h | h | h | h | h | h | h
    · exact items_off hit hm (fun v e => nomatch (congrArg Obj.data e)) i hi h
    · exact items_off hit hdm (fun v e => nomatch (congrArg Obj.data e)) i hi h
    · exact items_off hit hl list_not_tup i hi h
    · exact items_off hit hx acc_not_tup i hi h
    · exact items_off hit hdx accD_not_tup i hi h
    · exact items_off hit ho1 (tabO_not_tup ht1) i hi h
    · exact items_off hit ho2 (tabO_not_tup ht2) i hi h) e
  have hszl : sizeLine = 16777216 := rfl
  refine lift (push_c B (subF hs F) (N.get (.tail _ (.tail _ (.tail _ (.head _))))) Ox (N.get (.tail _ (.tail _ (.tail _ (.tail _ (.head _)))))) Odx d15.h (by rw [List.length_map, hszl]; (first | lia | omega)) (fun h2 t tk2 e1 e2 e3 e4 => ?_)) rfl (by with_unfolding_all exact Nat.le_of_ble_eq_true rfl) (by with_unfolding_all exact Nat.le_of_ble_eq_true rfl) rfl rfl
  obtain ⟨F2, N2⟩ := after_upd_new (o := accO dx (l.map It.ref) n) (add := [(t, It.obj ⟨t, f, tf, p, tp⟩)]) F N e4 (by k_upd) e1 (fa_cons ⟨e2, e3⟩ fa_nil)
  have el : l.map It.ref ++ [Value.ref t] = (l ++ [(⟨t, f, tf, p, tp⟩ : It)]).map It.ref := by simp
  rw [el] at N2
  have hfr : s.heap.get? t = none := fresh_end hk (none_of_sub F.keep e3) (fun p hp e => by have z := (N p hp).1; rw [e, e3] at z; cases z)
  clear F N
  dsimp only [List.cons_append, List.nil_append] at N2
  k_steps
  have hit2 : ItemsAt h2 (l ++ [(⟨t, f, tf, p, tp⟩ : It)]) := items_snoc (hitg.to fun i hi o e => F2.keep _ _ e) (N2.get (.head _))
  have hsm' : Small (l ++ [(⟨t, f, tf, p, tp⟩ : It)]) := small_snoc hsm hsm2 hf hp
  have hsz := size_le hsm'
  have hlen := hsm'.1
  refine lift (len_c B (subF hs F2) (N2.get (.tail _ (.tail _ (.tail _ (.tail _ (.head _)))))) Ox (N2.get (.tail _ (.tail _ (.tail _ (.tail _ (.tail _ (.head _))))))) Odx (N2.get (.tail _ (.tail _ (.tail _ (.tail _ (.tail _ (.tail _ (.head _)))))))) ht1 gb hit2 hsm' (fun h3 gn3 tk3 t3' b3 gb3 o3 => ?_)) rfl (by with_unfolding_all exact Nat.le_of_ble_eq_true rfl) (by with_unfolding_all exact Nat.le_of_ble_eq_true rfl) rfl rfl
  refine ⟨⟨hsz.1, by (first | lia | omega)⟩, ?_⟩
  obtain ⟨op3, hop3, hto3⟩ := o3
  have d20 : NeA t 176 := ⟨ne_tab (N2.get (.head _)) (N2.get (.tail _ (.tail _ (.tail _ (.tail _ (.tail _ (.tail _ (.head _)))))))) ht1 fun v e => nomatch e⟩
  have d22 : NeA t 183 := ⟨ne_tab (N2.get (.head _)) (N2.get (.tail _ (.tail _ (.tail _ (.tail _ (.tail _ (.tail _ (.tail _ (.head _))))))))) ht2 fun v e => nomatch e⟩
  have d21 : NeA t x := ⟨ne_of_get (N2.get (.head _)) (N2.get (.tail _ (.tail _ (.tail _ (.tail _ (.head _)))))) fun e => nomatch (congrArg Obj.cls e)⟩
  have d27 : NeA t al := ⟨fun e => list_not_tup _ (Option.some.inj ((N2.get (.tail _ (.tail _ (.tail _ (.head _))))).symm.trans (e ▸ N2.get (.head _))))⟩
  have d28 : NeA t dx := ⟨fun e => accD_not_tup _ (Option.some.inj ((N2.get (.tail _ (.tail _ (.tail _ (.tail _ (.tail _ (.head _))))))).symm.trans (e ▸ N2.get (.head _))))⟩
  obtain ⟨F3, N3⟩ := after_upd (o := o1) F2 N2 b3 (by k_upd) hop3
  rw [size_snoc] at *
  clear F2 N2
  k_steps
  refine for_exec ?_ (by intro _; with_unfolding_all rfl)
  k_steps
  rename Fr _ _ _ _ => F4
  rename News _ _ _ _ => N4
  refine iter_str_K F4 N4 (by decide +kernel) (fun I h4 F5 N5 lI => ?_)
  have lI2 := lI
  k_lt lI2
  refine for_turn ?_
  refine next_str_K (i := 0) (c := 32) F5 N5 (.head _) rfl rfl (by decide +kernel) (fun o' => by k_upd) (fun h5 o5 c1 c2 F6 N6 => ?_)
  clear F4 N4 F5 N5
  dsimp only
  refine wpAny_of_eq (a := ()) rfl ?_
  k_steps
  refine for_exec ?_ (by intro _; with_unfolding_all rfl)
  k_steps
  rename Fr _ _ _ _ => F7
  rename News _ _ _ _ => N7
  dsimp only [List.append_nil, List.nil_append, List.cons_append]
  refine lift (pcount_n (c := l.length + 1) B (subF hs F7) (N7.get (by k_mem)) Ox (N7.get (by k_mem)) Odx (by simp) (fun h7 tk7 t7 b7 => ?_)) rfl (by with_unfolding_all exact Nat.le_of_ble_eq_true rfl) (by with_unfolding_all exact Nat.le_of_ble_eq_true rfl) rfl rfl
  obtain ⟨F8, N8⟩ := after0 F7 N7 b7
  clear F7 N7
  k_steps
  rename Fr _ _ _ _ => F9
  rename News _ _ _ _ => N9
  have er : Builtin.Range.rangeSize ((l.length : Int) + 1 - 1) 0 (-1) = l.length := by rw [rangeSize_down]; split <;> (first | lia | omega)
  refine iter_rng_K (a := (l.length : Int) + 1 - 1) (b := 0) (c := -1) F9 N9 (by assumption) (small_down (by (first | lia | omega)) (by (first | lia | omega)) (by decide) (by decide)) (fun I2 h8 F10 N10 lJ => ?_)
  have lJ2 := lJ
  k_lt lJ2
  rw [er] at N10
  refine for_turn ?_
  refine next_rng_K (a := (l.length : Int) + 1 - 1) (b := l.length) F10 N10 (.head _) (by (first | lia | omega)) (by k_upd) (fun h9 F11 N11 => ?_)
  clear F9 N9 F10 N10
  dsimp only
  refine wpAny_of_eq (a := ()) rfl ?_
  have ei : (l.length : Int) + 1 - 1 = (l.length : Int) := by (first | lia | omega)
  rw [ei] at *
  k_steps
  rename Fr _ _ _ _ => F12
  rename News _ _ _ _ => N12
  have hfl : (f.length : Int) ≠ 0 := by
    intro e
    have e2 : f.cps.size = 0 := by have : f.length = 0 := by (first | lia | omega)
                                   exact this
    rw [Array.getElem?_eq_none (by (first | lia | omega))] at hf0
    cases hf0
  have hfi : (Txt.item f 0 == Str.ofString " ") = true := item_is hf0
  refine acc_item_K (ops := [.ref x, .int l.length _]) (v := .ref t) F12 X N12 (by k_mem) (by k_mem) (by k_is) (by k_is) (by k_is) (by (first | lia | omega)) (by (first | lia | omega)) (by simp) (by with_unfolding_all rfl) (by intro _; with_unfolding_all rfl) ?_
  k_steps
  all_goals (try (first | (rename _ = false => e9; exact Bool.noConfusion (hfi.symm.trans e9)) | (rename ((_ : Nat) : Int) = 0 => e9; exact absurd e9 hfl)))
  dsimp only [Turned]
  k_steps
  dsimp only [Turned]
  rename Fr _ _ _ _ => F20
  rename News _ _ _ _ => N20
  k_steps
  rename Fr _ _ _ _ => F21
  rename News _ _ _ _ => N21
  rw [← el] at N21
  refine lift (popfrom_n (parts := l.map It.ref) (v := .ref t) (c := l.length) B (subF hs F21) (N21.get (by k_mem)) Ox (N21.get (by k_mem)) Odx (by rw [List.length_map]; (first | lia | omega)) (by simp) (fun h12 tk12 r n12 n13 b12 e12 r12 e13 => ?_)) rfl (by with_unfolding_all exact Nat.le_of_ble_eq_true rfl) (by with_unfolding_all exact Nat.le_of_ble_eq_true rfl) rfl rfl
  obtain ⟨F22, N22⟩ := after_upd_new (o := accO dx (l.map It.ref ++ [.ref t]) (n + 1)) (add := [(r, { cls := .type "list", data := .seq #[.ref t] n13 })]) F21 N21 b12 (by k_upd) e12 (fa_cons ⟨e13, r12⟩ fa_nil)
  have d23 : NeA r x := ⟨ne_of_get e13 e12 fun e => nomatch (congrArg Obj.cls e)⟩
  have d24 : NeA r 183 := ⟨ne_tab e13 (show h12.get? 183 = some o2 from N22.get (by k_mem)) ht2 fun v e => nomatch e⟩
  have hr0 := N22.fresh (.head _)
  have d25 : NeA al r := ⟨ne_of_none (N21.get (show (al, ({ cls := .type "list", data := .seq (strValues ls).toArray nl } : Obj)) ∈ _ by k_mem)) r12⟩
  have d26 : NeA dx r := ⟨ne_of_none (N21.get (show (dx, accD w.params zt (.int 0 z) nz) ∈ _ by k_mem)) r12⟩
  clear F21 N21
  dsimp only [List.cons_append, List.nil_append] at N22
  k_steps
  have hsml : Small l := ⟨by (first | lia | omega), hsm2⟩
  rename Fr _ _ _ _ => F23
  rename News _ _ _ _ => N23
  refine lift (str_c B (subF hs F23) (N23.get (by k_mem)) Ox (N23.get (by k_mem)) Odx (N23.get (by k_mem)) ht2 gb3 (hitg.to fun i hi o e => F23.keep _ _ e) hsml (fun h24 gn24 tk24 t24 b24 gb24 o24 => ?_)) rfl (by with_unfolding_all exact Nat.le_of_ble_eq_true rfl) (by with_unfolding_all exact Nat.le_of_ble_eq_true rfl) rfl rfl
  obtain ⟨op24, hop24, hto24⟩ := o24
  obtain ⟨F24, N24⟩ := after_upd F23 N23 b24 (o := o2) (by k_upd) hop24
  clear F23 N23
  dsimp only [W.StrBack]
  k_steps
  rename Fr _ _ _ _ => F25
  rename News _ _ _ _ => N25
  have hszs : (strValues ls).toArray.size ≤ sizeLine := by
    rw [hszl, List.size_toArray]
    unfold strValues
    rw [List.length_map]
    (first | lia | omega)
  refine append_K (its := (strValues ls).toArray) (n := nl) F25 N25 (by k_upd) (fun h25 F26 N26 => ?_) hszs
  have els : (strValues ls).toArray.push (Value.str (rowOf l) t24) = (strValues (ls ++ [(rowOf l, t24)])).toArray := by simp [strValues]
  rw [els] at N26
  clear F25 N25
  k_steps
  rename Fr _ _ _ _ => F27
  rename News _ _ _ _ => N27
  refine lift (reset1_c (parts := l.map It.ref) (new := [.ref t]) B (subF hs F27) (N27.get (by k_mem)) Ox (N27.get (by k_mem)) Odx (by rw [List.length_map]; (first | lia | omega)) (N27.get (by k_mem)) (none_of_sub hs hr0) (Nat.lt_of_sub_eq_succ rfl : 1 < 100) (fun h28 tk28 n28 z28 zz28 k28 b28 e28 e29 => ?_)) rfl (by with_unfolding_all exact Nat.le_of_ble_eq_true rfl) (by with_unfolding_all exact Nat.le_of_ble_eq_true rfl) rfl rfl
  obtain ⟨F28, N28⟩ := after_upd2 (o := accO dx (l.map It.ref) n12) (o' := accO dx [.ref t] n28) (p := accD w.params zt (.int 0 z) nz) (p' := accD w.params z28 (.int 0 zz28) k28) F27 N27 b28 (by k_upd) (by k_upd) e28 e29
  clear F27 N27
  k_steps
  have bt := but_same (xs := [x, dx, al, 176, 183]) hk F28.keep N28 N0 (fa_cons (.inr (by k_mem)) (fa_cons (.inr (by k_mem)) (fa_cons (.inl (by simp)) (fa_cons (.inl (.head _)) (fa_cons (.inl (by simp)) (fa_cons (.inl (by simp)) (fa_cons (.inl (by simp)) fa_nil)))))))
  exact hret _ _ _ t t24 bt ⟨kb.but bt (fa_cons Ox (fa_cons Odx (fa_cons Ol (fa_cons B.n1 (fa_cons B.n2 fa_nil))))), ⟨op3, N28.get (by k_mem), hto3⟩, ⟨op24, N28.get (by k_mem), hto24⟩, gb24⟩
    ⟨N28.get (by k_mem), N28.get (by k_mem), ⟨_, N28.get (by k_mem)⟩, ⟨_, N28.get (by k_mem)⟩, ⟨_, _, _, N28.get (by k_mem)⟩, (fun i hi => by rw [List.mem_singleton.mp hi]; exact N28.get (by k_mem)), nd⟩ hfr
end Mine
end
section
open PySem PySem.W PyProof.Rows PySem.Calls PySem.Spec
set_option maxRecDepth 100000
set_option maxHeartbeats 8000000
set_option pp.deepTerms false
set_option pp.maxSteps 20000
namespace Mine
theorem liftC {M : Model} {A A' : Around} {c : Code} {R : Result → Shared → Prop} {s : Shared} (h : codeAny M A' c R s)
    (h1 : A.handled = A'.handled) (h2 : A.depth ≤ A'.depth) (h3 : A.units ≤ A'.units) (h4 : A'.frames = none) (h5 : A'.guards = none) : codeAny M A c R s := fun Γ p hc hΓ =>
  h Γ p hc ⟨hΓ.1.trans h1, Nat.le_trans hΓ.2.1 h2, (fun l hl => by rw [h4] at hl; cases hl), (fun l hl => by rw [h5] at hl; cases hl), Nat.le_trans hΓ.2.2.2.2 h3⟩
section
variable {prog : Program} {w : World} {A : Around} {E : Value → Shared → Prop} {s : Shared} {K : Frag} {x C L f : Addr} {ox : Obj} {od : Obj} {name : Str} {h₀ : Heap} {m : Str → Option Value} {news : List (Addr × Obj)} {es : List DictEntry} {n : Nat}
theorem acc_bind {g a : Value} {expr : Bool} {Q : Value → Shared → Prop} (X : K.In s.heap) (I : InstAt s.heap x ox C (some od)) (hga : findIn K (.ref C) "__getattribute__" = some (some (.builtin "list.__getattribute__"))) (hk : findIn K (.ref C) "__getattr__" = some none)
    (hm : mroIn K C (.type "list") = some true) (hf : findObj K C (some od) name = some (.bind g a))
    (h : wpAny (model prog w) A.in1 (call g [a, .ref x, .ref C]) (fun v s' => wpAny (model prog w) A (handedOut v) Q E s') (fun _ _ => False) { s with toks := s.toks + 1 }) : wpAny (model prog w) A (getAttr (.ref x) name expr) Q E s := by
  obtain ⟨hp, gg, d, t, os⟩ := s
  have L0 := I.type (M := model prog w)
  have L1 := looks_findIn (M := model prog w) X hga
  have L2 := looks_findIn (M := model prog w) X hk
  have L3 := looks_find (M := model prog w) X I hf
  unfold getAttr getAttrBy
  refine wpAny_bind (wpAny_mkText (wpAny_holding (wpAny_bind (L0.at (wpAny_bind (L1.at ?_))))))
  dsimp only
  rw [if_neg (show ¬ ((onTheHeap (Value.ref C) && (Value.builtin "list.__getattribute__" == Value.builtin "object.__getattribute__")) = true) from by
    show ¬ ((true && (Value.builtin "list.__getattribute__" == Value.builtin "object.__getattribute__")) = true)
    decide)]
  unfold getAttrByItsOwn hookBefore
  refine wpAny_bind ?_
  rw [if_pos (show onTheHeap (Value.ref C) = true from rfl)]
  refine L2.at ?_
  refine wpAny_bind (wpAny_attempt (wpAny_holding ?_))
  unfold callGetattribute boundAndCalled
  rw [if_neg (by cases expr <;> decide)]
  refine wpAny_bind ?_
  rw [show bindSpecial (.builtin "list.__getattribute__") (.ref x) = pure (.builtin "list.__getattribute__", [.ref x]) from by
    simp only [bindSpecial, typeOf]
    rfl]
  refine wpAny_pure ?_
  refine sub_call (nm := "__getattribute__") (looks_inst X I hm) acc_ga_entry (F.args_list_getattribute_2 _ _) ?_
  unfold Builtin.«object.__getattribute__»
  refine wpAny_bind (wpAny_pure ?_)
  refine wpAny_bind (wpAny_pure ?_)
  refine wpAny_bind (L0.at (wpAny_bind (L3.at ?_)))
  show wpAny _ _ (holding [a] (call g [a, .ref x, .ref C]) >>= ret) _ _ _
  refine wpAny_bind (wpAny_holding (wpAny_mono h (fun v s' z => wpAny_pure ⟨v, rfl, ?_⟩) fun _ _ z => z.elim))
  exact z
theorem acc_bound {expr : Bool} {Q : Value → Shared → Prop} (F : Fr h₀ L s.heap m) (X₀ : K.In h₀) (N : News h₀ L s.heap news) (I : InstAt s.heap x ox C (some (dictOf es n))) (hga : findIn K (.ref C) "__getattribute__" = some (some (.builtin "list.__getattribute__"))) (hk : findIn K (.ref C) "__getattr__" = some none)
    (hm : mroIn K C (.type "list") = some true) (hh : hasDictIn K C = true) (ha : findIn K (.ref C) name = some (some (.ref f))) (hf : isFn K (.ref f) = true)
    (hgf : specialIn K (.ref f) "__get__" = some (some (.builtin "function.__get__"))) (ht : takesIn K (.ref f) = some false) (hc : copiedNames.contains name = false) (hl : getL name es = some none)
    (h : ∀ q h', Fr h₀ L h' m → News h₀ L h' ((q, methodObj (.ref f) (.ref x)) :: news) → (∀ p ∈ news, p.1 < q) → Q (.ref q) { s with heap := h', toks := s.toks + 1 }) : wpAny (model prog w) A (getAttr (.ref x) name expr) Q E s :=
  acc_bind (X₀.keeps F.keep) I hga hk hm (findObj_fn hh ha hgf ht hc (by show lookIn name (dictOf es n) = _; rw [lookIn_dict, hl]))
    (wpAny_call (fn_get (s := { s with toks := s.toks + 1 }) (X₀.keeps F.keep) (beq_iff_eq.mp hf) (handed_on rfl (h s.heap.objs.size _ (F.push _) (N.push F _) fun p hp => Heap.lt_size (N p hp).1))))
theorem StarMethod_ {M : Model} {env : Env} {o : Expr} {apos pos : Pos} {args : List Expr} {Q : Value → Shared → Prop}
    (h : wpAny M A (eval o env) (fun ov s₁ => wpAny M A (getAttr ov name true) (fun f s₂ => wpAny M A (callWith pos f [] (backTo pos (starEach args env)) []) Q E s₂) E s₁) E s)
    (he : eval (.Call (.Attribute o name apos) args [] pos) env = (do
      let ov ← eval o env
      standAt apos.atName
      let (f, first) ← holding [ov] (do pure (← getAttr ov name true, []))
      callWith pos f first (backTo pos (starEach args env)) [])) :
    wpAny M A (eval (.Call (.Attribute o name apos) args [] pos) env) Q E s := by
  rw [he]
  refine wpAny_bind (wpAny_mono h (fun ov s₁ h₁ => wpAny_bind (wpAny_standAt (wpAny_bind (wpAny_holding (wpAny_bind (wpAny_mono h₁ (fun fx s₂ h₂ => wpAny_pure h₂) fun _ _ x => x)))))) fun _ _ x => x)
theorem callWith_SM {M : Model} {env : Env} {pos p : Pos} {e : Expr} {q g : Addr} {self : Value} {first : List Value} {Q : Value → Shared → Prop} (hf : fnIn K g = true)
    (h : wpAny M A (eval e env) (fun v s₁ => StarOf M A E v (fun vs s₂ => MethP K q g self s₂.heap ∧ wpAny M A (call (.ref q) (first ++ vs)) Q E s₂) s₁) E s)
    (he : starEach [.Starred e p] env = [(true, eval e env)] := by rfl) :
    wpAny M A (callWith pos (.ref q) first (backTo pos (starEach [.Starred e p] env)) []) Q E s := by
  rw [he]
  exact ks_call rfl (keeps_M hf) (ks_lone h)
theorem star_tup {a : Addr} {its : Array Value} {k : Nat} {Q : List Value → Shared → Prop} (F : Fr h₀ L s.heap m) (N : News h₀ L s.heap news) (D : s.heap.get? a = some { cls := .type "tuple", data := .seq its k })
    (hz : its.size ≤ sizeLine) (h : ∀ h', Fr h₀ L h' m → News h₀ L h' news → Q its.toList { s with heap := h' }) : StarOf (model prog w) A E (.ref a) Q s := by
  have hT' : s.TypeIs (.ref a) "tuple" := ⟨_, D, rfl⟩
  have z : wpAny (model prog w) A (collect (.ref a)) Q E s := by
    refine wpAny_collect_seq a (.inr rfl) D rfl rfl (fun h' hk => h h' ?_ fun p hp => ⟨hk _ _ (N p hp).1, (N p hp).2⟩) hz
    obtain ⟨oL, es, ep, hL, r⟩ := F.ns
    exact ⟨⟨oL, es, ep, hk _ _ hL, r⟩, fun b x q => hk _ _ (F.keep b x q), F.above⟩
  unfold StarOf notIterableAtAll
  exact wpAny_bind (wpAny_specialOf hT' PySem.F.slot_tuple_iter.lookup (wpAny_pure ⟨rfl, z⟩))
end
end Mine
end
section
open PySem PySem.W PyProof.Rows PySem.Calls PySem.Spec
set_option maxRecDepth 100000
set_option maxHeartbeats 8000000
set_option pp.deepTerms false
set_option pp.maxSteps 20000
namespace Mine
theorem dummyY8 : True := by
  k_with_none
  w_top off
  k_with "lt8" => with_reducible first | assumption | exact And.left (by assumption) | exact And.left (And.right (by assumption)) | exact And.left (And.right (And.right (by assumption))) | exact And.left (And.right (And.right (And.right (by assumption)))) | exact And.left (And.right (And.right (And.right (And.right (by assumption))))) | exact And.left (And.right (And.right (And.right (And.right (And.right (by assumption)))))) | exact And.left (And.right (And.right (And.right (And.right (And.right (And.right (by assumption))))))) | exact And.left (And.right (And.right (And.right (And.right (And.right (And.right (And.right (by assumption)))))))) | exact And.left (And.right (And.right (And.right (And.right (And.right (And.right (And.right (And.right (by assumption))))))))) | exact And.left (And.right (And.right (And.right (And.right (And.right (And.right (And.right (And.right (And.right (by assumption)))))))))) | exact And.left (And.right (And.right (And.right (And.right (And.right (And.right (And.right (And.right (And.right (And.right (by assumption))))))))))) | exact And.left (And.right (And.right (And.right (And.right (And.right (And.right (And.right (And.right (And.right (And.right (And.right (by assumption)))))))))))) | exact And.left (And.right (And.right (And.right (And.right (And.right (And.right (And.right (And.right (And.right (And.right (And.right (And.right (by assumption)))))))))))))
  k_with "lt9" => first | exact Nat.ne_of_lt (by walk_at "lt8") | exact Nat.ne_of_gt (by walk_at "lt8")
  trivial
theorem shaped_pair {f p : Str} (hf : PyData.strOk f = true) (hp : PyData.strOk p = true) : SeqAt.shaped (.tuple [.str f, .str p]) = true := by
  simp [SeqAt.shaped, PyData.canLay0, PyData.canLayAll0, PyData.depth, PyData.depthAll, hf, hp]
theorem pair_ne {f p : Str} (hp : 0 < p.length) : PyData.eqv (.tuple [.str f, .str p]) (.tuple [.str (Str.ofString " "), .str (Str.ofString "")]) = false := by
  have h : (p == Str.ofString "") = false := by
    rw [beq_eq_false_iff_ne]
    rintro rfl
    exact absurd hp (by decide)
  simp [PyData.eqv, PyData.eqvAll, h]
theorem withY8x25 : True := by
  k_with_none
  w_top off
  k_with "lt8" => with_reducible first | assumption | exact And.left (by assumption) | exact And.left (And.right (by assumption)) | exact And.left (And.right (And.right (by assumption))) | exact And.left (And.right (And.right (And.right (by assumption)))) | exact And.left (And.right (And.right (And.right (And.right (by assumption))))) | exact And.left (And.right (And.right (And.right (And.right (And.right (by assumption)))))) | exact And.left (And.right (And.right (And.right (And.right (And.right (And.right (by assumption))))))) | exact And.left (And.right (And.right (And.right (And.right (And.right (And.right (And.right (by assumption)))))))) | exact And.left (And.right (And.right (And.right (And.right (And.right (And.right (And.right (And.right (by assumption))))))))) | exact And.left (And.right (And.right (And.right (And.right (And.right (And.right (And.right (And.right (And.right (by assumption)))))))))) | exact And.left (And.right (And.right (And.right (And.right (And.right (And.right (And.right (And.right (And.right (And.right (by assumption))))))))))) | exact And.left (And.right (And.right (And.right (And.right (And.right (And.right (And.right (And.right (And.right (And.right (And.right (by assumption)))))))))))) | exact And.left (And.right (And.right (And.right (And.right (And.right (And.right (And.right (And.right (And.right (And.right (And.right (And.right (by assumption)))))))))))))
  k_with "lt9" => first | exact Nat.ne_of_lt (by walk_at "lt8") | exact Nat.ne_of_gt (by walk_at "lt8")
  k_with "k_ne" => (refine neN ?_; (try dsimp only); first | exact NeA.h (by assumption) | exact Ne.symm (NeA.h (by assumption)) | walk_at "lt9" | lia | omega)
  k_with "OLD" => repeat (first | exact fa_nil | (refine fa_cons ?_ ?_; (first | exact .inl (by k_mem) | exact .inr (by k_mem))))
  k_with "N0" => repeat (first | exact fa_nil | (refine fa_cons ⟨by assumption, by first | assumption | exact Base.n1 (by assumption) | exact Base.n2 (by assumption)⟩ ?_))
  k_with "k_inst" => (refine' acc_inst ?kw9N ?kw9h1 ?kw9h2; (case kw9N => k_asm); (case kw9h1 => k_mem); (case kw9h2 => k_mem))
  k_with "getMethod ref" => (k_here; k_dflt (refine' acc_method ?kw9k2 ?kw9k3 ?kw9k4 ?kw9k5 ?kw9k6 ?kw9k7 ?kw9k8 ?_ ?kw9k9; (case kw9k2 => k_in); (case kw9k3 => k_inst); (case kw9k4 => k_is); (case kw9k5 => k_is); (case kw9k6 => k_is); (case kw9k7 => k_is); (case kw9k8 => k_get); (case kw9k9 => decide +kernel); k_whole))
  k_with "getAttr ref" => (k_here; k_dflt (refine' acc_get_own ?kw9k1 ?kw9k2 ?kw9k3 ?kw9k4 ?kw9k5 ?kw9k6 ?kw9k7 ?kw9k8 ?kw9k9 ?kw9k10 ?_; (case kw9k1 => k_in); (case kw9k2 => k_inst); (case kw9k3 => k_is); (case kw9k4 => k_is); (case kw9k5 => k_is); (case kw9k6 => k_is); (case kw9k7 => k_is); (case kw9k8 => k_is); (case kw9k9 => k_get); (case kw9k10 => k_handed); k_whole))
  trivial
theorem newline_c {w : World} {mg mb : Str → Option Value} {b : Heap} {s : Shared} {k : Mk} {ls : List (Str × Tok)} {l : List It} {i : It} {Q E : Value → Shared → Prop}
    (B : Base w mg mb b) (S : St b s) (O : Own5 b k) (M : MkAt w.params s.heap k ls (l ++ [i])) (hsm : l.length < 50) (hsm2 : ∀ i ∈ l, i.f.length ≤ 100 ∧ i.p.length ≤ 100) (hf : i.f.length ≤ 100) (hp : i.p.length ≤ 100) (hp0 : 0 < i.p.length) (hfa : PyData.strOk i.f = true) (hpa : PyData.strOk i.p = true) (hsp : Txt.isspace (rowOf (l ++ [i])) = false) (hls : ls.length < 50)
    (hret : ∀ h' gn tk' tr, But [k.x, k.dx, k.l, 176, 183] s.heap h' → St b { s with heap := h', gens := gn, toks := tk' } → MkAt w.params h' k (ls ++ [(rowOf (l ++ [i]), tr)]) [] → Q .none { s with heap := h', toks := tk', gens := gn }) :
    wpAny (model pw w) (Av 8) (call (.ref 92) [.ref k.m]) Q E s := by
  obtain ⟨kb, ⟨o1, ho1, ht1⟩, ⟨o2, ho2, ht2⟩, gb⟩ := S
  obtain ⟨Om, Odm, Ol, Ox, Odx⟩ := O
  obtain ⟨hm, hdm, ⟨nl, hl⟩, ⟨n, hx⟩, ⟨zt, z, nz, hdx⟩, hit, nd⟩ := M
  obtain ⟨m, dm, al, x, dx, t1, t2, t3, t4, t5, t6, tw, tc, tn, ts, wd⟩ := k
  dsimp only [Mk.dict] at *
  have el : (l ++ [i]).map It.ref = l.map It.ref ++ [Value.ref i.t] := by simp
  rw [el] at hx
  have d1 : NeA m dm := ⟨ne_of_get hm hdm fun e => nomatch (congrArg Obj.data e)⟩
  have d2 : NeA m al := ⟨ne_of_get hm hl fun e => nomatch (congrArg Obj.data e)⟩
  have d3 : NeA m x := ⟨ne_of_get hm hx fun e => nomatch (congrArg Obj.data e)⟩
  have d4 : NeA m dx := ⟨ne_of_get hm hdx fun e => nomatch (congrArg Obj.data e)⟩
  have d5 : NeA m 176 := ⟨ne_tab hm ho1 ht1 fun v e => nomatch e⟩
  have d6 : NeA m 183 := ⟨ne_tab hm ho2 ht2 fun v e => nomatch e⟩
  have d7 : NeA dm al := ⟨ne_of_get hdm hl fun e => nomatch (congrArg Obj.data e)⟩
  have d8 : NeA dm x := ⟨ne_of_get hdm hx fun e => nomatch (congrArg Obj.data e)⟩
  have d9 : NeA dm 176 := ⟨ne_tab hdm ho1 ht1 fun v e => nomatch e⟩
  have d10 : NeA dm 183 := ⟨ne_tab hdm ho2 ht2 fun v e => nomatch e⟩
  have d11 : NeA al x := ⟨ne_of_get hl hx fun e => nomatch (congrArg Obj.cls e)⟩
  have d12 : NeA al dx := ⟨ne_of_get hl hdx fun e => nomatch (congrArg Obj.data e)⟩
  have d13 : NeA al 176 := ⟨ne_tab hl ho1 ht1 fun v e => nomatch e⟩
  have d14 : NeA al 183 := ⟨ne_tab hl ho2 ht2 fun v e => nomatch e⟩
  have d15 : NeA x dx := ⟨ne_of_get hx hdx fun e => nomatch (congrArg Obj.data e)⟩
  have d16 : NeA x 176 := ⟨ne_tab hx ho1 ht1 accO_nf⟩
  have d17 : NeA x 183 := ⟨ne_tab hx ho2 ht2 accO_nf⟩
  have d18 : NeA dx 176 := ⟨ne_tab hdx ho1 ht1 accD_nf⟩
  have d19 : NeA dx 183 := ⟨ne_tab hdx ho2 ht2 accD_nf⟩
  refine wpAny_call ?_
  have N0 : ∀ p ∈ [(m, instObj 130 dm), (dm, mkD w.params t1 t2 t3 t4 t5 t6 tw tc tn ts wd al x), (al, { cls := .type "list", data := .seq (strValues ls).toArray nl }), (x, accO dx (l.map It.ref ++ [.ref i.t]) n), (dx, accD w.params zt (.int 0 z) nz), (176, o1), (183, o2)], s.heap.get? p.1 = some p.2 ∧ b.get? p.1 = none := by walk_at "N0"
  k_dflt (refine' enter (binds := [(Str.ofString "self", .ref m)]) B kb N0 ?k4 ?k5 ?k6 ?k7 ?k8 ?_ ?k10 ?k11 ?k12 ?k13; (case k4 => k_is); (case k5 => k_is); (case k6 => decide); (case k7 => exact BindsTo.of_eq rfl); (case k8 => exact locs rfl); (case k10 => decide); (case k11 => exact rfl); (case k12 => exact rfl); (case k13 => exact rfl))
  intro g L' h₁ tk₀ F N X T hk hs hL
  (try dsimp only)
  (try k_fold)
  k_steps
  have hitg : ItemsAt g (l ++ [i]) := hit.to fun j hj o e => hk _ _ (fun hq => by
    simp only [List.map_cons, List.map_nil, List.mem_cons, List.not_mem_nil, or_false] at hq
    rcases hq with h | h | h | h | h | h | h
    · exact items_off hit hm (fun v e => nomatch (congrArg Obj.data e)) j hj h
    · exact items_off hit hdm (fun v e => nomatch (congrArg Obj.data e)) j hj h
    · exact items_off hit hl list_not_tup j hj h
    · exact items_off hit hx acc_not_tup j hj h
    · exact items_off hit hdx accD_not_tup j hj h
    · exact items_off hit ho1 (tabO_not_tup ht1) j hj h
    · exact items_off hit ho2 (tabO_not_tup ht2) j hj h) e
  have hszl : sizeLine = 16777216 := rfl
  refine lift (pop_c (parts := l.map It.ref) (v := .ref i.t) B (subF hs F) (N.get (by k_mem)) Ox (N.get (by k_mem)) Odx (by rw [List.length_map]; (first | lia | omega)) (fun h2 tk2 b2 e2 => ?_)) rfl (by with_unfolding_all exact Nat.le_of_ble_eq_true rfl) (by with_unfolding_all exact Nat.le_of_ble_eq_true rfl) rfl rfl
  have ht : h₁.get? i.t = some i.obj := F.keep _ _ (hitg i (by simp))
  have d21 : NeA i.t x := ⟨ne_of_get ht (N.get (show (x, accO dx (l.map It.ref ++ [.ref i.t]) n) ∈ _ by k_mem)) fun e => nomatch (congrArg Obj.cls e)⟩
  have d22 : NeA i.t dx := ⟨fun e => accD_not_tup _ (Option.some.inj ((N.get (show (dx, accD w.params zt (.int 0 z) nz) ∈ _ by k_mem)).symm.trans (e ▸ ht)))⟩
  have d23 : NeA i.t al := ⟨fun e => list_not_tup _ (Option.some.inj ((N.get (show (al, ({ cls := .type "list", data := .seq (strValues ls).toArray nl } : Obj)) ∈ _ by k_mem)).symm.trans (e ▸ ht)))⟩
  obtain ⟨F2, N2⟩ := after_upd (o := accO dx (l.map It.ref ++ [.ref i.t]) n) F N b2 (by k_upd) e2
  clear F N
  k_steps
  rename Fr _ _ _ _ => F3
  rename News _ _ _ _ => N3
  have hitt := hitg i (by simp)
  refine ne_dataH (da := .tuple [.str i.f, .str i.p]) (db := .tuple [.str (Str.ofString " "), .str (Str.ofString "")]) (reads_tuple_at (F3.keep _ _ hitt) rfl rfl (.cons (Reads.str _ _) (.cons (Reads.str _ _) .nil))) (by ke_read) (shaped_pair hfa hpa) (shaped_pair (by decide +kernel) (by decide +kernel)) (by ke_room) ?_
  rw [show PyData.eqv (.tuple [.str i.f, .str i.p]) (.tuple [.str (Str.ofString " "), .str (Str.ofString "")]) = false from pair_ne hp0]
  k_steps
  refine StarMethod_ ?_ (by with_unfolding_all rfl)
  k_steps
  rename Fr _ _ _ _ => F4
  rename News _ _ _ _ => N4
  refine acc_bound F4 X N4 (acc_inst N4 (by k_mem) (by k_mem)) (by k_is) (by k_is) (by k_is) (by k_is) (f := 158) (by k_is) (by k_is) (by k_is) (by k_is) (by decide +kernel) (by k_get) ?_
  intro q h5 F5 N5 l5
  have l5' := l5
  k_lt l5'
  refine callWith_SM (g := 158) (self := .ref x) (K := K9 w.params) (by k_is) ?_
  k_steps
  refine star_tup (its := i.val) F5 N5 (F5.keep _ _ hitt) (show 2 ≤ sizeLine by decide) (fun h6 F6 N6 => ?_)
  refine ⟨⟨N6.get (.head _), X.keeps F6.keep⟩, wpAny_call (method_call (N6.get (.head _)) ?_)⟩
  dsimp only [List.nil_append]
  refine liftC (push_code (parts := l.map It.ref) (f1 := i.f) (f2 := i.p) (t1 := i.tf) (t2 := i.tp) B (subF hs F6) (N6.get (by k_mem)) Ox (N6.get (by k_mem)) Odx d15.h (by rw [List.length_map, hszl]; (first | lia | omega)) (fun h7 t tk7 e1 e2' e3 e4 => ?_)) rfl (by with_unfolding_all exact Nat.le_of_ble_eq_true rfl) (by with_unfolding_all exact Nat.le_of_ble_eq_true rfl) rfl rfl
  obtain ⟨F7, N7⟩ := after_upd_new (o := accO dx (l.map It.ref) (n + 1)) (add := [(t, It.obj ⟨t, i.f, i.tf, i.p, i.tp⟩)]) F6 N6 e4 (by k_upd) e1 (fa_cons ⟨e2', e3⟩ fa_nil)
  have el7 : l.map It.ref ++ [Value.ref t] = (l ++ [(⟨t, i.f, i.tf, i.p, i.tp⟩ : It)]).map It.ref := by simp
  rw [el7] at N7
  dsimp only [List.cons_append, List.nil_append] at N7
  have d31 : NeA al t := ⟨ne_of_none (N6.get (show (al, ({ cls := .type "list", data := .seq (strValues ls).toArray nl } : Obj)) ∈ _ by k_mem)) e3⟩
  have d32 : NeA dx t := ⟨ne_of_none (N6.get (show (dx, accD w.params zt (.int 0 z) nz) ∈ _ by k_mem)) e3⟩
  have d33 : NeA 176 t := ⟨ne_of_none (N6.get (show ((176 : Nat), o1) ∈ _ by k_mem)) e3⟩
  have d34 : NeA 183 t := ⟨ne_of_none (N6.get (show ((183 : Nat), o2) ∈ _ by k_mem)) e3⟩
  have d35 : NeA x t := ⟨ne_of_none (N6.get (show (x, accO dx (l.map It.ref) (n + 1)) ∈ _ by k_mem)) e3⟩
  clear F6 N6 F5 N5
  k_steps
  have hit0 : ItemsAt g l := fun j hj => hitg j (List.mem_append_left _ hj)
  have hsml : Small (l ++ [(⟨t, i.f, i.tf, i.p, i.tp⟩ : It)]) := small_snoc hsm hsm2 hf hp
  have hrow : rowOf (l ++ [(⟨t, i.f, i.tf, i.p, i.tp⟩ : It)]) = rowOf (l ++ [i]) := by simp [rowOf]
  have hpos : 0 < size (l ++ [(⟨t, i.f, i.tf, i.p, i.tp⟩ : It)]) := by
    have h1 := (size_le (l := l) ⟨by (first | lia | omega), hsm2⟩).1
    rw [size_snoc]; dsimp only; (first | lia | omega)
  have hitX : ∀ {h' : Heap}, (∀ c o, g.get? c = some o → h'.get? c = some o) → h'.get? t = some (It.obj ⟨t, i.f, i.tf, i.p, i.tp⟩) → ItemsAt h' (l ++ [(⟨t, i.f, i.tf, i.p, i.tp⟩ : It)]) := fun k e => items_snoc (hit0.to fun i hi o e => k _ _ e) e
  have hsz7 := size_le hsml
  have hln7 : (l ++ [(⟨t, i.f, i.tf, i.p, i.tp⟩ : It)]).length < 100 := by rw [List.length_append]; simp only [List.length_cons, List.length_nil]; (first | lia | omega)
  have hln8 := hsml.1
  generalize (l ++ [(⟨t, i.f, i.tf, i.p, i.tp⟩ : It)]) = l7 at *
  rename Fr _ _ _ _ => F8
  rename News _ _ _ _ => N8
  refine lift (len_c (op := o1) B (subF hs F8) (N8.get (by k_mem)) Ox (N8.get (by k_mem)) Odx (N8.get (by k_mem)) ht1 gb (hitX F8.keep (N8.get (by k_mem))) hsml (fun h9 gn9 tk9 t9 b9 gb9 o9 => ?_)) rfl (by with_unfolding_all exact Nat.le_of_ble_eq_true rfl) (by with_unfolding_all exact Nat.le_of_ble_eq_true rfl) rfl rfl
  refine ⟨⟨by (first | lia | omega), by (first | lia | omega)⟩, ?_⟩
  obtain ⟨op9, hop9, hto9⟩ := o9
  obtain ⟨F9, N9⟩ := after_upd (o := o1) F8 N8 b9 (by k_upd) hop9
  clear F8 N8
  k_steps
  dsimp only [List.append_nil]
  rename Fr _ _ _ _ => F10
  rename News _ _ _ _ => N10
  refine lift (onlyws_c (o1 := op9) (o2 := o2) B (subF hs F10) (N10.get (by k_mem)) Ox (N10.get (by k_mem)) Odx (N10.get (by k_mem)) hto9 (N10.get (by k_mem)) ht2 gb9 (hitX F10.keep (N10.get (by k_mem))) hsml hpos (by rw [hrow]; exact hsp) (fun h11 gn11 tk11 b11 gb11 q11 q12 => ?_)) rfl (by with_unfolding_all exact Nat.le_of_ble_eq_true rfl) (by with_unfolding_all exact Nat.le_of_ble_eq_true rfl) rfl rfl
  obtain ⟨op11, hop11, hto11⟩ := q11
  obtain ⟨op12, hop12, hto12⟩ := q12
  obtain ⟨F11, N11⟩ := after_upd2 (o := op9) (o' := op11) (p := o2) (p' := op12) F10 N10 b11 (by k_upd) (by k_upd) hop11 hop12
  clear F10 N10
  k_steps
  rename Fr _ _ _ _ => F12
  rename News _ _ _ _ => N12
  refine lift (str_c B (subF hs F12) (N12.get (by k_mem)) Ox (N12.get (by k_mem)) Odx (N12.get (by k_mem)) hto12 gb11 (hitX F12.keep (N12.get (by k_mem))) hsml (fun h24 gn24 tk24 t24 b24 gb24 o24 => ?_)) rfl (by with_unfolding_all exact Nat.le_of_ble_eq_true rfl) (by with_unfolding_all exact Nat.le_of_ble_eq_true rfl) rfl rfl
  obtain ⟨op24, hop24, hto24⟩ := o24
  obtain ⟨F24, N24⟩ := after_upd F12 N12 b24 (o := op12) (by k_upd) hop24
  clear F12 N12
  dsimp only [W.StrBack]
  k_steps
  rename Fr _ _ _ _ => F25
  rename News _ _ _ _ => N25
  have hszs : (strValues ls).toArray.size ≤ sizeLine := by
    rw [hszl, List.size_toArray]
    unfold strValues
    rw [List.length_map]
    (first | lia | omega)
  refine append_K (its := (strValues ls).toArray) (n := nl) F25 N25 (by k_upd) (fun h25 F26 N26 => ?_) hszs
  rw [hrow] at N26
  have els : (strValues ls).toArray.push (Value.str (rowOf (l ++ [i])) t24) = (strValues (ls ++ [(rowOf (l ++ [i]), t24)])).toArray := by simp [strValues]
  rw [els] at N26
  clear F25 N25
  k_steps
  rename Fr _ _ _ _ => F27
  rename News _ _ _ _ => N27
  refine lift (reset0_c (parts := l7.map It.ref) B (subF hs F27) (N27.get (by k_mem)) Ox (N27.get (by k_mem)) Odx (by rw [List.length_map]; (first | lia | omega)) (fun h28 tk28 n28 z28 zz28 k28 b28 e28 e29 => ?_)) rfl (by with_unfolding_all exact Nat.le_of_ble_eq_true rfl) (by with_unfolding_all exact Nat.le_of_ble_eq_true rfl) rfl rfl
  obtain ⟨F28, N28⟩ := after_upd2 (o := accO dx (l7.map It.ref) (n + 2)) (o' := accO dx [] n28) (p := accD w.params zt (.int 0 z) nz) (p' := accD w.params z28 (.int 0 zz28) k28) F27 N27 b28 (by k_upd) (by k_upd) e28 e29
  clear F27 N27
  k_steps
  have bt := but_same (xs := [x, dx, al, 176, 183]) hk F28.keep N28 N0 (fa_cons (.inr (by k_mem)) (fa_cons (.inr (by k_mem)) (fa_cons (.inl (by simp)) (fa_cons (.inl (.head _)) (fa_cons (.inl (by simp)) (fa_cons (.inl (by simp)) (fa_cons (.inl (by simp)) fa_nil)))))))
  exact hret _ _ _ t24 bt ⟨kb.but bt (fa_cons Ox (fa_cons Odx (fa_cons Ol (fa_cons B.n1 (fa_cons B.n2 fa_nil))))), ⟨op11, N28.get (by k_mem), hto11⟩, ⟨op24, N28.get (by k_mem), hto24⟩, gb24⟩
    ⟨N28.get (by k_mem), N28.get (by k_mem), ⟨_, N28.get (by k_mem)⟩, ⟨_, N28.get (by k_mem)⟩, ⟨_, _, _, N28.get (by k_mem)⟩, (fun _ h => nomatch h), nd⟩
end Mine
end
section
open PySem PySem.W PyProof.Rows PySem.Calls PySem.Spec
set_option maxRecDepth 100000
set_option maxHeartbeats 8000000
set_option pp.deepTerms false
set_option pp.maxSteps 20000
namespace Mine
theorem dummyY9 : True := by
  k_with_none
  w_top off
  k_with "lt8" => with_reducible first | assumption | exact And.left (by assumption) | exact And.left (And.right (by assumption)) | exact And.left (And.right (And.right (by assumption))) | exact And.left (And.right (And.right (And.right (by assumption)))) | exact And.left (And.right (And.right (And.right (And.right (by assumption))))) | exact And.left (And.right (And.right (And.right (And.right (And.right (by assumption)))))) | exact And.left (And.right (And.right (And.right (And.right (And.right (And.right (by assumption))))))) | exact And.left (And.right (And.right (And.right (And.right (And.right (And.right (And.right (by assumption)))))))) | exact And.left (And.right (And.right (And.right (And.right (And.right (And.right (And.right (And.right (by assumption))))))))) | exact And.left (And.right (And.right (And.right (And.right (And.right (And.right (And.right (And.right (And.right (by assumption)))))))))) | exact And.left (And.right (And.right (And.right (And.right (And.right (And.right (And.right (And.right (And.right (And.right (by assumption))))))))))) | exact And.left (And.right (And.right (And.right (And.right (And.right (And.right (And.right (And.right (And.right (And.right (And.right (by assumption)))))))))))) | exact And.left (And.right (And.right (And.right (And.right (And.right (And.right (And.right (And.right (And.right (And.right (And.right (And.right (by assumption)))))))))))))
  k_with "lt9" => first | exact Nat.ne_of_lt (by walk_at "lt8") | exact Nat.ne_of_gt (by walk_at "lt8")
  trivial
theorem withY9x26 : True := by
  k_with_none
  w_top off
  k_with "lt8" => with_reducible first | assumption | exact And.left (by assumption) | exact And.left (And.right (by assumption)) | exact And.left (And.right (And.right (by assumption))) | exact And.left (And.right (And.right (And.right (by assumption)))) | exact And.left (And.right (And.right (And.right (And.right (by assumption))))) | exact And.left (And.right (And.right (And.right (And.right (And.right (by assumption)))))) | exact And.left (And.right (And.right (And.right (And.right (And.right (And.right (by assumption))))))) | exact And.left (And.right (And.right (And.right (And.right (And.right (And.right (And.right (by assumption)))))))) | exact And.left (And.right (And.right (And.right (And.right (And.right (And.right (And.right (And.right (by assumption))))))))) | exact And.left (And.right (And.right (And.right (And.right (And.right (And.right (And.right (And.right (And.right (by assumption)))))))))) | exact And.left (And.right (And.right (And.right (And.right (And.right (And.right (And.right (And.right (And.right (And.right (by assumption))))))))))) | exact And.left (And.right (And.right (And.right (And.right (And.right (And.right (And.right (And.right (And.right (And.right (And.right (by assumption)))))))))))) | exact And.left (And.right (And.right (And.right (And.right (And.right (And.right (And.right (And.right (And.right (And.right (And.right (And.right (by assumption)))))))))))))
  k_with "lt9" => first | exact Nat.ne_of_lt (by walk_at "lt8") | exact Nat.ne_of_gt (by walk_at "lt8")
  k_with "k_ne" => (refine neN ?_; (try dsimp only); first | exact NeA.h (by assumption) | exact Ne.symm (NeA.h (by assumption)) | walk_at "lt9" | lia | omega)
  k_with "OLD" => repeat (first | exact fa_nil | (refine fa_cons ?_ ?_; (first | exact .inl (by k_mem) | exact .inr (by k_mem))))
  k_with "N0" => repeat (first | exact fa_nil | (refine fa_cons ⟨by assumption, by first | assumption | exact Base.n1 (by assumption) | exact Base.n2 (by assumption)⟩ ?_))
  k_with "k_inst" => (refine' acc_inst ?kw9N ?kw9h1 ?kw9h2; (case kw9N => k_asm); (case kw9h1 => k_mem); (case kw9h2 => k_mem))
  k_with "getMethod ref" => (k_here; k_dflt (refine' acc_method ?kw9k2 ?kw9k3 ?kw9k4 ?kw9k5 ?kw9k6 ?kw9k7 ?kw9k8 ?_ ?kw9k9; (case kw9k2 => k_in); (case kw9k3 => k_inst); (case kw9k4 => k_is); (case kw9k5 => k_is); (case kw9k6 => k_is); (case kw9k7 => k_is); (case kw9k8 => k_get); (case kw9k9 => decide +kernel); k_whole))
  k_with "getAttr ref" => (k_here; k_dflt (refine' acc_get_own ?kw9k1 ?kw9k2 ?kw9k3 ?kw9k4 ?kw9k5 ?kw9k6 ?kw9k7 ?kw9k8 ?kw9k9 ?kw9k10 ?_; (case kw9k1 => k_in); (case kw9k2 => k_inst); (case kw9k3 => k_is); (case kw9k4 => k_is); (case kw9k5 => k_is); (case kw9k6 => k_is); (case kw9k7 => k_is); (case kw9k8 => k_is); (case kw9k9 => k_get); (case kw9k10 => k_handed); k_whole))
  trivial
theorem strm_c {w : World} {mg mb : Str → Option Value} {b : Heap} {s : Shared} {k : Mk} {ls : List (Str × Tok)} {l : List It} {i : It} {sep : Str} {tsep : Tok} {Q E : Value → Shared → Prop}
    (B : Base w mg mb b) (S : St b s) (O : Own5 b k) (M : MkAt w.params s.heap k ls (l ++ [i])) (hsm : l.length < 50) (hsm2 : ∀ i ∈ l, i.f.length ≤ 100 ∧ i.p.length ≤ 100) (hf : i.f.length ≤ 100) (hp : i.p.length ≤ 100) (hp0 : 0 < i.p.length) (hfa : PyData.strOk i.f = true) (hpa : PyData.strOk i.p = true) (hsp : Txt.isspace (rowOf (l ++ [i])) = false) (hls : ls.length < 50)
    (hsep : sep.length ≤ 16) (hw : ((ls.map (·.1) ++ [rowOf (l ++ [i])]).map (·.length)).sum ≤ 100000)
    (hret : ∀ h' gn tk' tr, But [k.x, k.dx, k.l, 176, 183] s.heap h' → St b { s with heap := h', gens := gn, toks := tk' } → Q (.str (Txt.join sep (ls.map (·.1) ++ [rowOf (l ++ [i])])) tr) { s with heap := h', toks := tk', gens := gn }) :
    wpAny (model pw w) (Av 7) (call (.ref 78) [.ref k.m, .str sep tsep]) Q E s := by
  obtain ⟨kb, ⟨o1, ho1, ht1⟩, ⟨o2, ho2, ht2⟩, gb⟩ := S
  have O' := O
  obtain ⟨Om, Odm, Ol, Ox, Odx⟩ := O
  obtain ⟨hm, hdm, ⟨nl, hl⟩, ⟨n, hx⟩, ⟨zt, z, nz, hdx⟩, hit, nd⟩ := M
  obtain ⟨m, dm, al, x, dx, t1, t2, t3, t4, t5, t6, tw, tc, tn, ts, wd⟩ := k
  dsimp only [Mk.dict] at *
  have d1 : NeA m dm := ⟨ne_of_get hm hdm fun e => nomatch (congrArg Obj.data e)⟩
  have d2 : NeA m al := ⟨ne_of_get hm hl fun e => nomatch (congrArg Obj.data e)⟩
  have d3 : NeA m x := ⟨ne_of_get hm hx fun e => nomatch (congrArg Obj.data e)⟩
  have d4 : NeA m dx := ⟨ne_of_get hm hdx fun e => nomatch (congrArg Obj.data e)⟩
  have d5 : NeA m 176 := ⟨ne_tab hm ho1 ht1 fun v e => nomatch e⟩
  have d6 : NeA m 183 := ⟨ne_tab hm ho2 ht2 fun v e => nomatch e⟩
  have d7 : NeA dm al := ⟨ne_of_get hdm hl fun e => nomatch (congrArg Obj.data e)⟩
  have d8 : NeA dm x := ⟨ne_of_get hdm hx fun e => nomatch (congrArg Obj.data e)⟩
  have d9 : NeA dm 176 := ⟨ne_tab hdm ho1 ht1 fun v e => nomatch e⟩
  have d10 : NeA dm 183 := ⟨ne_tab hdm ho2 ht2 fun v e => nomatch e⟩
  have d11 : NeA al x := ⟨ne_of_get hl hx fun e => nomatch (congrArg Obj.cls e)⟩
  have d12 : NeA al dx := ⟨ne_of_get hl hdx fun e => nomatch (congrArg Obj.data e)⟩
  have d13 : NeA al 176 := ⟨ne_tab hl ho1 ht1 fun v e => nomatch e⟩
  have d14 : NeA al 183 := ⟨ne_tab hl ho2 ht2 fun v e => nomatch e⟩
  have d15 : NeA x dx := ⟨ne_of_get hx hdx fun e => nomatch (congrArg Obj.data e)⟩
  have d16 : NeA x 176 := ⟨ne_tab hx ho1 ht1 accO_nf⟩
  have d17 : NeA x 183 := ⟨ne_tab hx ho2 ht2 accO_nf⟩
  have d18 : NeA dx 176 := ⟨ne_tab hdx ho1 ht1 accD_nf⟩
  have d19 : NeA dx 183 := ⟨ne_tab hdx ho2 ht2 accD_nf⟩
  refine wpAny_call ?_
  have N0 : ∀ p ∈ [(m, instObj 130 dm), (dm, mkD w.params t1 t2 t3 t4 t5 t6 tw tc tn ts wd al x), (al, { cls := .type "list", data := .seq (strValues ls).toArray nl }), (x, accO dx ((l ++ [i]).map It.ref) n), (dx, accD w.params zt (.int 0 z) nz), (176, o1), (183, o2)], s.heap.get? p.1 = some p.2 ∧ b.get? p.1 = none := by walk_at "N0"
  k_dflt (refine' enter (binds := [(Str.ofString "self", .ref m), (Str.ofString "linesep", .str sep tsep)]) B kb N0 ?k4 ?k5 ?k6 ?k7 ?k8 ?_ ?k10 ?k11 ?k12 ?k13; (case k4 => k_is); (case k5 => k_is); (case k6 => decide); (case k7 => exact BindsTo.of_eq rfl); (case k8 => exact locs rfl); (case k10 => decide); (case k11 => exact rfl); (case k12 => exact rfl); (case k13 => exact rfl))
  intro g L' h₁ tk₀ F N X T hk hs hL
  (try dsimp only)
  (try k_fold)
  k_steps
  have hitg : ItemsAt g (l ++ [i]) := hit.to fun j hj o e => hk _ _ (fun hq => by
    simp only [List.map_cons, List.map_nil, List.mem_cons, List.not_mem_nil, or_false] at hq
    rcases hq with h | h | h | h | h | h | h
    · exact items_off hit hm (fun v e => nomatch (congrArg Obj.data e)) j hj h
    · exact items_off hit hdm (fun v e => nomatch (congrArg Obj.data e)) j hj h
    · exact items_off hit hl list_not_tup j hj h
    · exact items_off hit hx acc_not_tup j hj h
    · exact items_off hit hdx accD_not_tup j hj h
    · exact items_off hit ho1 (tabO_not_tup ht1) j hj h
    · exact items_off hit ho2 (tabO_not_tup ht2) j hj h) e
  have hszl : sizeLine = 16777216 := rfl
  have hm1 : MkAt w.params h₁ ⟨m, dm, al, x, dx, t1, t2, t3, t4, t5, t6, tw, tc, tn, ts, wd⟩ ls (l ++ [i]) := ⟨N.get (by k_mem), N.get (by k_mem), ⟨_, N.get (by k_mem)⟩, ⟨_, N.get (by k_mem)⟩, ⟨_, _, _, N.get (by k_mem)⟩, hitg.to fun j hj o e => F.keep _ _ e, nd⟩
  refine lift (newline_c (k := ⟨m, dm, al, x, dx, t1, t2, t3, t4, t5, t6, tw, tc, tn, ts, wd⟩) B ⟨subF hs F, ⟨_, N.get (by k_mem), ht1⟩, ⟨_, N.get (by k_mem), ht2⟩, gb⟩ O' hm1 hsm hsm2 hf hp hp0 hfa hpa hsp hls (fun h2 gn2 tk2 tr2 b2 S2 M2 => ?_)) rfl (by with_unfolding_all exact Nat.le_of_ble_eq_true rfl) (by with_unfolding_all exact Nat.le_of_ble_eq_true rfl) rfl rfl
  obtain ⟨nl2, hl2⟩ := M2.ln
  dsimp only at hl2 b2
  obtain ⟨F2, N2⟩ := after (news' := [(m, instObj 130 dm), (dm, _), (al, { cls := .type "list", data := .seq (strValues (ls ++ [(rowOf (l ++ [i]), tr2)])).toArray nl2 })]) F N b2 (by simp) (fa_cons ⟨M2.m, .inl (by simp)⟩ (fa_cons ⟨M2.dm, .inl (by simp)⟩ (fa_cons ⟨hl2, .inl (by simp)⟩ fa_nil)))
  clear F N
  dsimp only [Mk.dict] at N2
  k_steps
  rename Fr _ _ _ _ => F3
  rename News _ _ _ _ => N3
  have hys : (ls ++ [(rowOf (l ++ [i]), tr2)]).map (·.1) = ls.map (·.1) ++ [rowOf (l ++ [i])] := by simp
  refine join_listW (items := (strValues (ls ++ [(rowOf (l ++ [i]), tr2)])).toArray) (ys := (ls ++ [(rowOf (l ++ [i]), tr2)]).map (·.1)) ⟨_, N3.get (by k_mem), rfl, _, rfl⟩ (strsAre_of_values _) hsep (by rw [hys]; simp only [List.length_append, List.length_map, List.length_cons, List.length_nil] at *; (first | lia | omega)) (fun t' k' => ?_)
  rw [hys]
  have bt : But [x, dx, al, 176, 183] s.heap h2 := but_end hk F3.keep (fa_cons (.inr (M2.m.trans hm.symm)) (fa_cons (.inr (M2.dm.trans hdm.symm)) (fa_cons (.inl (by simp)) (fa_cons (.inl (.head _)) (fa_cons (.inl (by simp)) (fa_cons (.inl (by simp)) (fa_cons (.inl (by simp)) fa_nil)))))))
  exact hret _ _ _ _ bt ⟨kb.but bt (fa_cons Ox (fa_cons Odx (fa_cons Ol (fa_cons B.n1 (fa_cons B.n2 fa_nil))))), S2.t1, S2.t2, S2.gb⟩
end Mine
end
section
open PySem PySem.W PyProof.Rows PySem.Calls PySem.Spec
set_option maxRecDepth 100000
set_option maxHeartbeats 8000000
set_option pp.deepTerms false
set_option pp.maxSteps 20000
namespace Mine
section
variable {w : World} {A : Around} {s : Shared} {b : Heap} {mg mb : Str → Option Value} {news : List (Addr × Obj)}
  {R : Result → Shared → Prop} {name qual : Str} {params : Arguments} {body : List Stmt} {scope : Scope} {dV kV doc pm cdv ct oc : Value} {an od : Option Addr} {osl : Array (Option Value)} {f : Addr} {args : Args} {binds : List (Str × Value)}
/- a def with captured locals is entered -/
theorem enterC (B : Base w mg mb b) (kb : Sub b s.heap) (N : ∀ p ∈ news, s.heap.get? p.1 = some p.2 ∧ b.get? p.1 = none)
    (ho : (K9 w.params).lookup f = some ⟨oc, od, .func (fnX name qual params body scope [] dV kV doc pm an cdv ct), osl⟩) (hcd : codeIn (K9 w.params) cdv qual = true) (hroom : A.depth < recursionLimit)
    (hbind : BindsTo s (fnX name qual params body scope [] dV kV doc pm an cdv ct) args binds)
    (hkind : ∀ n, ∀ x ∈ binds, scope.names.lookup x.1 = some .local ∨ (scope.names.lookup x.1 = some .cell ∧ ((cellsFrom n scope.names []).lookup x.1).isSome = true))
    (hnd : ((cellsFrom 0 scope.names []).map (·.1)).Nodup)
    (h : ∀ g L' h₁ tk cells, Fr g L' h₁ (bindL (envOfC qual scope L' f cdv).kindOf binds fun _ => none) → News g L' h₁ (cells ++ news) →
      CellsAre (bindC (envOfC qual scope L' f cdv).kindOf binds fun _ => none) (cellsFrom (L' + 1) scope.names []) cells → (K9 w.params).In g → TopRead view lo mg mb g → But (news.map (·.1)) s.heap g → Sub b g → (∀ p ∈ news, p.1 < L') →
      wpAny (model pw w) (A.deeper (envOfC qual scope L' f cdv)) (execs body (envOfC qual scope L' f cdv))
        (fun fl s' => R (.ok (.ret (match fl with | .ret v => v | _ => .none))) s')
        (fun _ _ => False)
        { s with heap := h₁, toks := tk })
    (hco : scope.isCoroutine = false := by rfl) (hgen : scope.isGenerator = false := by rfl) (hk : scope.kind = .function := by rfl) : codeAny (model pw w) A (.call (.ref f) args) R s := by
  have st : Sub b (hideAll s.heap (news.map (·.1))) := fun a o e => hideAll_get _ (kb a o e) fun hm => by
    obtain ⟨p, hp, rfl⟩ := List.mem_map.mp hm
    rw [(N p hp).2] at e; cases e
  have BK := B.K.keeps st
  have BT := B.T.keeps st
  have Bs := B.K.keeps kb
  refine codeAny_call_function (fd := fnX name qual params body scope [] dV kV doc pm an cdv ct) hroom (Bs _ _ ho) rfl hco hgen rfl (codeRec_of Bs hcd) (hbind _ _ _ _ ?_)
  refine wpAny_newFunctionEnv_cells hk (hkind _) fun env' he s' x => ?_
  subst he
  refine ⟨(B.T.nolimit.keeps kb).keeps x.toInCall.keep, codeAny_func ?_⟩
  obtain ⟨h₁, tk, rfl, _⟩ := x.done
  have hk₁ := x.toInCall.keep
  obtain ⟨cells, NC, Y⟩ := Cl.news (h₀ := s.heap) (Nat.le_refl _) fun n c hm => ⟨x.cell n c (lookup_of_mem_nodup (cellsFrom_names scope.names 0 (s.heap.objs.size + 1) [] [] rfl ▸ hnd) hm), x.above n c hm⟩
  refine wpAny_mono (h _ s.heap.objs.size h₁ tk cells ⟨x.toInCall.ns, fun b o e => hk₁ b o (of_hideAll _ e), Nat.le_of_eq (hideAll_size _ _)⟩ (fun p hp => ?_) Y BK BT (fun a o n e => hideAll_get _ e n) st (fun p hp => Heap.lt_size (N p hp).1)) (fun _ _ z => z) fun _ _ z => z.elim
  rcases List.mem_append.mp hp with hp | hp
  · refine ⟨(NC p hp).1, (NC p hp).2.1, ?_⟩
    cases q : (hideAll s.heap (news.map (·.1))).get? p.1 with
    | none => rfl
    | some o => have := of_hideAll _ q; rw [(NC p hp).2.2] at this; cases this
  · exact ⟨hk₁ _ _ (N p hp).1, Nat.ne_of_lt (Heap.lt_size (N p hp).1), hideAll_none _ (List.mem_map_of_mem hp)⟩
end
end Mine
end
section
open PySem PySem.W PyProof.Rows PySem.Calls PySem.Spec
set_option maxRecDepth 100000
set_option maxHeartbeats 8000000
set_option pp.deepTerms false
set_option pp.maxSteps 20000
namespace Mine
theorem dummyQ1 : True := by
  k_with_none
  w_top off
  trivial
open PySem.Builtin PySem.Builtin.Re
section
variable {M : Model} {A : Around} {E : Value → Shared → Prop} {s : Shared}
theorem drive_ends : ∀ (n : Nat) (k : Nat) (m m' : Sre.M) {Q : Sre.M → Shared → Prop}, stepN k m = m' → m'.outcome.isSome = true → k ≤ 4 * n → (k = 0 → 0 < n) → Q m' s → wpAny M A (reDrive n m) Q E s
  | 0, k, m, m', Q, _, _, h1, h2, _ => absurd (h2 (by (first | lia | omega))) (Nat.lt_irrefl _)
  | n + 1, k, m, m', Q, h, ho, h1, h2, hq => by
    unfold reDrive
    rw [show reTurnSteps = 4 from rfl, runFor_eq]
    by_cases hd : (stepN 4 m).outcome.isSome = true
    · dsimp only
      rw [if_pos hd]
      have e : stepN 4 m = m' := by
        rw [← h]
        by_cases hk : k ≤ 4
        · have := stepN_add k (4 - k) m
          rw [show k + (4 - k) = 4 by (first | lia | omega)] at this
          rw [this, h, stepN_done ho]
        · have := stepN_add 4 (k - 4) m
          rw [show 4 + (k - 4) = k by (first | lia | omega)] at this
          rw [this, stepN_done hd]
      rw [e]; exact wpAny_pure hq
    · dsimp only
      rw [if_neg hd]
      have hk : 4 < k := by
        rcases Nat.lt_or_ge 4 k with h4 | h4
        · exact h4
        · exfalso
          apply hd
          have := stepN_add k (4 - k) m
          rw [show k + (4 - k) = 4 by (first | lia | omega)] at this
          rw [this, h, stepN_done ho]; exact ho
      refine wpAny_bind (wpAny_rule ?_)
      have := stepN_add 4 (k - 4) m
      rw [show 4 + (k - 4) = k by (first | lia | omega), h] at this
      exact drive_ends n (k - 4) (stepN 4 m) m' this.symm ho (by (first | lia | omega)) (fun e => by (first | lia | omega)) hq
theorem rules_pass (sn : Sre.Seen) (f : Nat → String) : ∀ (l : List Nat) {Q : PUnit → Shared → Prop}, Q ⟨⟩ s → wpAny M A (forIn l PUnit.unit (fun i _ => do
      if sn.has i then rule (f i)
      pure (ForInStep.yield PUnit.unit))) Q E s
  | [], Q, h => by rw [List.forIn_nil]; exact wpAny_pure h
  | i :: r, Q, h => by
    rw [List.forIn_cons]
    refine wpAny_bind ?_
    split
    · exact wpAny_bind (wpAny_rule (wpAny_pure (rules_pass sn f r h)))
    · exact wpAny_pure (rules_pass sn f r h)
theorem run_end {k : Nat} {m m' : Sre.M} {Q : Option Sre.M → Shared → Prop} (g : Go k m m') (hk : k ≤ 2 ^ 60) (y : Bool) (ho : m'.outcome = some (if y then Sre.Outcome.matched else Sre.Outcome.failed)) (h : Q (if y then some m' else none) s) : wpAny M A (reRunToEnd m) Q E s := by
  obtain ⟨j, hj, e⟩ := g
  unfold reRunToEnd
  refine wpAny_bind (drive_ends (2 ^ 64) j m m' e (by rw [ho]; rfl) (by (first | lia | omega)) (fun _ => by (first | lia | omega)) ?_)
  refine wpAny_bind (rules_pass _ _ _ ?_)
  rw [ho]
  cases y
  · exact wpAny_pure h
  · exact wpAny_pure h
end
section
variable {prog : Program} {w : World} {A : Around} {E : Value → Shared → Prop} {s : Shared}
theorem bytes_sub : isSubtype (.type "bytes") (.type "bytes") = pure true := by rw [isSubtype_type]; kernel_rfl
theorem text_of {arr : Array UInt8} {t : Tok} {Q : Array Nat × Nat → Shared → Prop} (h : Q (arr.map (·.toNat), 1) s) : wpAny (model prog w) A (reTextOf (.bytes arr t)) Q E s := by
  unfold reTextOf Bytes.bufferQuiet?
  rw [KBy.buffer_eq]
  refine wpAny_bind (wpAny_of_eq (a := none) (by rfl) ?_)
  dsimp only
  refine wpAny_bind (wpAny_bind (wpAny_attempt (wpAny_pure (wpAny_pure ?_))))
  exact wpAny_pure h
theorem target_of {p c : Addr} {po co : Obj} {fs : Array Value} {cs : Array Value} {cn : Nat} {arr : Array UInt8} {t : Tok} {Q : ReTarget → Shared → Prop} (hp : s.heap.get? p = some po) (hpf : po.data = .fields fs) (h5 : fs.getD 5 .none = .ref c) (h6 : reRawNat (fs.getD 6 .none) = 1) (h2 : reRawNat (fs.getD 2 .none) = 1)
    (hc : s.heap.get? c = some co) (hcs : co.data = .seq cs cn) (hcode : (cs.map reRawOf).map (·.toNat) = RC) (hsz : arr.size < 1000000)
    (h : Q { pattern := .ref p, string := .bytes arr t, code := RC, text := arr.map (·.toNat), kind := 1, groups := 1, pos := 0, lim := arr.size } s) : wpAny (model prog w) A (reTarget "re.Pattern.match" "match" ⟨[.ref p, .bytes arr t], []⟩) Q E s := by
  unfold reTarget
  dsimp only
  refine wpAny_bind (wpAny_of_eq (a := [some (.bytes arr t), none, none]) (by with_unfolding_all rfl) ?_)
  dsimp only
  refine wpAny_bind (wpAny_pure (wpAny_bind (wpAny_pure ?_)))
  unfold fieldsOf
  refine wpAny_bind (wpAny_bind (wpAny_load hp ?_))
  rw [hpf]
  refine wpAny_pure ?_
  refine wpAny_bind (text_of ?_)
  dsimp only
  rw [h6]
  rw [if_neg (by decide), if_neg (by decide)]
  unfold reNoCollectionInside
  rw [if_pos (by decide)]
  refine wpAny_bind (wpAny_bind (wpAny_isInstance (T := "bytes") (b := true) (typeIs_bytes _ _ _) bytes_sub ?_))
  rw [if_neg (by decide)]
  refine wpAny_pure ?_
  unfold reRawItems seqItems?
  rw [h5]
  refine wpAny_bind (wpAny_bind (wpAny_bind (wpAny_load hc ?_)))
  rw [hcs]
  refine wpAny_pure (wpAny_pure (wpAny_pure ?_))
  rw [h2]
  have e1 : (Array.map (fun x => x.toNat) arr).size = arr.size := by simp
  have e2 : min (2 ^ 63 - 1 : Int).toNat (Array.map (fun x : UInt8 => x.toNat) arr).size = arr.size := by rw [e1]; (first | lia | omega)
  have e3 : Array.map (fun x => x.toNat) (Array.map reRawOf ((some cs).getD #[])) = RC := hcode
  rw [e2, e3]
  exact h
end
theorem forMatch_eq {t : Array Nat} (h : 8 ≤ t.size) : Sre.forMatch RC t 1 0 t.size false false = rS t 5 0 0 #[none, none] (-1) (-1) [] 0 none (({} : Sre.Seen).add 14) := by
  have e : Sre.forMatch RC t 1 0 t.size false false = if (8 != 0 && decide (0 ≤ t.size) && decide (t.size - 0 < 8)) = true then (rS t 5 0 0 #[none, none] (-1) (-1) [] 0 none (({} : Sre.Seen).add 14)).say false else rS t 5 0 0 #[none, none] (-1) (-1) [] 0 none (({} : Sre.Seen).add 14) := by
    rfl
  rw [e, if_neg]
  simp
  (first | lia | omega)
theorem looks_of_type {M : Model} {hp : Heap} {a : Addr} {o : Obj} {T U : String} {b : Bool} (ho : hp.get? a = some o) (hc : o.cls = .type T) (h : isSubtype (.type T) (.type U) = pure b) : Looks M hp (isInstance (.ref a) (.type U)) b := fun A Q E s' k q =>
  wpAny_isInstance (s := s') ⟨o, k _ _ ho, hc⟩ h q
noncomputable abbrev matchO (arr : Array UInt8) (t : Tok) (lim : Nat) (tu : Addr) : Obj := { cls := .type "re.Match", data := .fields #[.bytes arr t, .ref 43, rawInt (0 : Nat), rawInt lim, rawInt 1, .ref tu] }
noncomputable abbrev spanO (a b : Nat) : Obj := { cls := .type "tuple", data := .seq #[rawInt (0 : Nat), rawInt (b + 1 : Nat), rawInt a, rawInt b] }
section
variable {prog : Program} {w : World} {A : Around} {E : Value → Shared → Prop} {s : Shared} {h₀ : Heap} {L : Addr} {m : Str → Option Value} {news : List (Addr × Obj)}
theorem new_match {arr : Array UInt8} {t : Tok} {p q pc pos : Nat} {se : Sre.Seen} {Q : Value → Shared → Prop} (F : Fr h₀ L s.heap m) (N : News h₀ L s.heap news) (hpq : p + 7 ≤ q)
    (h : ∀ mo tu h', Fr h₀ L h' m → News h₀ L h' ((mo, matchO arr t arr.size tu) :: (tu, spanO (p + 7) q) :: news) → (∀ x ∈ news, x.1 < mo) → (∀ x ∈ news, x.1 < tu) → Q (.ref mo) { s with heap := h' }) :
    wpAny (model prog w) A (reNewMatch (.ref 43) (.bytes arr t) 1 0 arr.size { rS (arr.map (·.toNat)) pc pos (q + 1) #[some (p + 7), some q] 1 1 [] 0 (some true) se with outcome := some .matched }) Q E s := by
  have e2 : ¬ (q < p + 7) := by (first | lia | omega)
  unfold reNewMatch rS
  have e : (List.range 1) = [0] := rfl
  simp only [e, List.flatMap_cons, List.flatMap_nil, List.any_cons, List.any_nil, Bool.or_false, List.append_nil, Nat.mul_zero, Nat.zero_add]
  have e3 : ((1 : Nat) : Int) ≤ 1 := by decide
  simp only [if_pos e3]
  have e4 : (#[some (p + 7), some q] : Array (Option Nat)).getD 0 none = some (p + 7) := rfl
  have e5 : (#[some (p + 7), some q] : Array (Option Nat)).getD 1 none = some q := rfl
  simp only [e4, e5, decide_eq_false e2, Bool.and_false, Bool.false_eq_true, if_false]
  unfold newTuple newFields
  refine wpAny_bind (wpAny_newObj_type ?_ (by show 4 ≤ sizeLine; decide))
  have F1 := F.push (spanO (p + 7) q)
  have N1 := News.push F N (spanO (p + 7) q)
  have N2 := News.push F1 N1 (matchO arr t arr.size s.heap.objs.size)
  refine wpAny_newObj_type (h _ s.heap.objs.size _ (F1.push _) N2 (fun x hx => Heap.lt_size (N1 x (.tail _ hx)).1) (fun x hx => Heap.lt_size (N x hx).1))
theorem re_entry : entryFor table "re.Pattern.match" = some Builtin.«re.Pattern.match» := entryFor_of_tree (by kernel_rfl)
theorem re_args (a b : Value) : argsOk "re.Pattern.match" ⟨[a, b], []⟩ := by unfold argsOk; kernel_rfl
theorem re_sub : isSubtype (.type "re.Pattern") (.type "re.Pattern") = pure true := by rw [isSubtype_type]; kernel_rfl
theorem match_yes {w : World} {arr : Array UInt8} {t : Tok} {n p q : Nat} {Q : Value → Shared → Prop} (F : Fr h₀ L s.heap m) (X : (K9 w.params).In h₀) (N : News h₀ L s.heap news) (hz : arr.size < 1000000) (H : OneMatch (arr.map (·.toNat)) n p q)
    (h : ∀ mo tu h', Fr h₀ L h' m → News h₀ L h' ((mo, matchO arr t arr.size tu) :: (tu, spanO (p + 7) q) :: news) → (∀ x ∈ news, x.1 < mo) → (∀ x ∈ news, x.1 < tu) → Q (.ref mo) { s with heap := h' }) :
    wpAny (model prog w) A (call (.builtin "re.Pattern.match") [.ref 43, .bytes arr t]) Q E s := by
  have X' := X.keeps F.keep
  have hsz : (arr.map (·.toNat)).size = arr.size := by simp
  have h43 := X' 43 _ (by k_is)
  refine sub_call (owner := "re.Pattern") (nm := "match") ?_ re_entry (re_args _ _) ?_
  · exact looks_of_type h43 rfl re_sub
  unfold Builtin.«re.Pattern.match»
  refine wpAny_bind (target_of h43 rfl rfl rfl rfl (X' 42 _ (by k_is)) rfl (by decide +kernel) hz ?_)
  dsimp only
  rw [← hsz, forMatch_eq (by have := H.hq2; have := H.hq; (first | lia | omega))]
  unfold reAnswer
  obtain ⟨pc, pos, se', g⟩ := go_match (hd := 0) (se := ({} : Sre.Seen).add 14) (by rw [hsz]; exact hz) H.hn H.h1 H.h2 H.hp H.hl H.hf H.hq H.hq2 H.h3 H.h4
  have hb : n * (3 * (arr.map (·.toNat)).size + 21) + 20 ≤ 2 ^ 60 := by
    have h1 := H.hn
    rw [hsz] at h1 ⊢
    have h2 : n * (3 * arr.size + 21) ≤ 1000000 * (3 * 1000000 + 21) := Nat.mul_le_mul (by (first | lia | omega)) (by (first | lia | omega))
    (first | lia | omega)
  refine wpAny_bind (run_end g hb true rfl ?_)
  rw [if_pos rfl]
  dsimp only
  refine wpAny_bind ?_
  rw [hsz]
  exact new_match F N H.hq fun mo tu h' F' N' l1 l2 => wpAny_pure ⟨_, rfl, h mo tu h' F' N' l1 l2⟩
theorem match_no {w : World} {arr : Array UInt8} {t : Tok} {Q : Value → Shared → Prop} (X' : (K9 w.params).In s.heap) (hz : arr.size < 1000000) (h8 : 8 ≤ arr.size) (h10 : (arr.map (·.toNat)).getD 0 0 = 10)
    (h : Q .none s) : wpAny (model prog w) A (call (.builtin "re.Pattern.match") [.ref 43, .bytes arr t]) Q E s := by
  have hsz : (arr.map (·.toNat)).size = arr.size := by simp
  have h43 := X' 43 _ (by k_is)
  refine sub_call (owner := "re.Pattern") (nm := "match") ?_ re_entry (re_args _ _) ?_
  · exact looks_of_type h43 rfl re_sub
  unfold Builtin.«re.Pattern.match»
  refine wpAny_bind (target_of h43 rfl rfl rfl rfl (X' 42 _ (by k_is)) rfl (by decide +kernel) hz ?_)
  dsimp only
  rw [← hsz, forMatch_eq (by (first | lia | omega))]
  unfold reAnswer
  obtain ⟨pc, pos, se', hd', mk, lm, g⟩ := go_none (t := arr.map (·.toNat)) (hd := 0) (se := ({} : Sre.Seen).add 14) (by rw [hsz]; exact hz) h10
  refine wpAny_bind (run_end g (by decide) false rfl ?_)
  rw [if_neg (by decide)]
  exact wpAny_pure ⟨_, rfl, h⟩
end
end Mine
end
section
open PySem PySem.W PyProof.Rows PySem.Calls PySem.Spec
set_option maxRecDepth 100000
set_option maxHeartbeats 8000000
set_option pp.deepTerms false
set_option pp.maxSteps 20000
namespace Mine
theorem dummyQ2 : True := by
  k_with_none
  w_top off
  trivial
open PySem.Builtin PySem.Builtin.Re
theorem cut_back (arr : Array UInt8) (a b : Nat) : ((arr.map (·.toNat)).extract a b).map (·.toUInt8) = arr.extract a b := by
  apply Array.ext
  · simp
  · intro i h1 h2
    simp
theorem str_no_index {t : Tok} {x : Str} : specialOf (.str x t) "__index__" = pure none := by
  show typeLookup (.type "str") "__index__" = _
  rw [typeLookup_type, builtinLookup_eq_fast]; kernel_rfl
section
variable {prog : Program} {w : World} {A : Around} {E : Value → Shared → Prop} {s : Shared}
theorem found_of {mo tu : Addr} {arr : Array UInt8} {t : Tok} {lim a b : Nat} {Q : ReFound → Shared → Prop} (h1 : s.heap.get? mo = some (matchO arr t lim tu)) (h2 : s.heap.get? tu = some (spanO a b))
    (h : Q { fields := #[.bytes arr t, .ref 43, rawInt (0 : Nat), rawInt lim, rawInt 1, .ref tu], spans := #[0, ((b + 1 : Nat) : Int), a, b] } s) : wpAny (model prog w) A (reFound (.ref mo)) Q E s := by
  unfold reFound fieldsOf
  refine wpAny_bind (wpAny_bind (wpAny_load h1 (wpAny_pure ?_)))
  unfold reRawItems seqItems?
  refine wpAny_bind (wpAny_bind (wpAny_bind (wpAny_load h2 (wpAny_pure (wpAny_pure (wpAny_pure ?_))))))
  have e : Array.map reRawOf ((some #[rawInt (0 : Nat), rawInt (b + 1 : Nat), rawInt a, rawInt b]).getD #[]) = #[0, ((b + 1 : Nat) : Int), a, b] := by simp [reRawOf, rawInt]
  rw [e]
  exact h
theorem group_no {tu : Addr} {arr : Array UInt8} {t u : Tok} {lim a b : Nat} {Q : Nat → Shared → Prop} (X : (K9 w.params).In s.heap) (h : Q 1 { s with toks := s.toks + 1 }) :
    wpAny (model prog w) A (reGroupNumber { fields := #[.bytes arr t, .ref 43, rawInt (0 : Nat), rawInt lim, rawInt 1, .ref tu], spans := #[0, ((b + 1 : Nat) : Int), a, b] } (.str (Str.ofString "flags") u)) Q E s := by
  have h43 := X 43 _ (by k_is)
  have h40 := X 40 _ (by k_is)
  unfold reGroupNumber
  refine wpAny_bind (wpAny_bind (wpAny_of_eq (a := ()) (by rfl) (wpAny_pure ?_)))
  dsimp only
  rw [if_neg (by decide)]
  refine wpAny_bind (wpAny_of_eq (a := none) str_no_index ?_)
  rw [if_neg (by decide)]
  unfold fieldsOf
  refine wpAny_bind (wpAny_bind (wpAny_load h43 (wpAny_pure ?_)))
  show wpAny _ _ (dictGet 40 (.str (Str.ofString "flags") u) >>= _) _ _ _
  unfold dictGet
  refine wpAny_bind (wpAny_holding (wpAny_bind (wpAny_pyHash_str (wpAny_bind (KTD.kt_dictFind_strs (s := { s with toks := s.toks + 1 }) h40 rfl (by simp [isExactStrKey]) ?_)))))
  rw [show (Array.findIdx? (fun e : DictEntry => e.key.isStr (Str.ofString "flags")) #[(⟨PyData.keyHash w.params (Str.ofString "flags"), .str (Str.ofString "flags") 334, .int 1 335⟩ : DictEntry)]) = some 0 from by simp [Array.findIdx?, Array.findIdx?.loop, Value.isStr]]
  dsimp only
  refine wpAny_bind (wpAny_dictEntries (s := { s with toks := s.toks + 1 }) h40 rfl ?_)
  refine wpAny_pure ?_
  show wpAny _ _ (asInt? (.int 1 335) >>= _) _ _ _
  refine wpAny_bind (wpAny_of_eq (a := some 1) (by rfl) ?_)
  refine wpAny_bind (wpAny_pure ?_)
  dsimp only [Option.getD]
  rw [if_neg (by simp)]
  exact wpAny_pure h
theorem gr_entry : entryFor table "re.Match.group" = some Builtin.«re.Match.group» := entryFor_of_tree (by kernel_rfl)
theorem gr_args (a b : Value) : argsOk "re.Match.group" ⟨[a, b], []⟩ := by unfold argsOk; kernel_rfl
theorem gr_sub : isSubtype (.type "re.Match") (.type "re.Match") = pure true := by rw [isSubtype_type]; kernel_rfl
theorem group_yes {mo tu : Addr} {arr : Array UInt8} {t u : Tok} {lim a b : Nat} {Q : Value → Shared → Prop} (X : (K9 w.params).In s.heap) (h1 : s.heap.get? mo = some (matchO arr t lim tu)) (h2 : s.heap.get? tu = some (spanO a b)) (hz : arr.size < 1000000)
    (h : ∀ t' k, Q (.bytes (arr.extract a b) t') { s with toks := k }) : wpAny (model prog w) A (call (.builtin "re.Match.group") [.ref mo, .str (Str.ofString "flags") u]) Q E s := by
  refine sub_call (owner := "re.Match") (nm := "group") (looks_of_type h1 rfl gr_sub) gr_entry (gr_args _ _) ?_
  unfold Builtin.«re.Match.group»
  refine wpAny_bind (wpAny_of_eq (a := ()) (by rfl) ?_)
  dsimp only
  refine wpAny_bind (found_of h1 h2 ?_)
  refine wpAny_bind (group_no X ?_)
  unfold reGroupText
  refine wpAny_bind ?_
  dsimp only
  rw [show (#[0, ((b + 1 : Nat) : Int), a, b] : Array Int).getD (2 * 1) (-1) = a from rfl, show (#[0, ((b + 1 : Nat) : Int), a, b] : Array Int).getD (2 * 1 + 1) (-1) = b from rfl]
  rw [if_neg (by simp)]
  refine wpAny_bind (text_of ?_)
  unfold reSlice
  dsimp only
  rw [if_neg (by decide), Int.toNat_natCast, Int.toNat_natCast, cut_back]
  have hl : (arr.extract a b).size ≤ sizeLine := by
    rw [show sizeLine = 16777216 from rfl]
    simp
    (first | lia | omega)
  exact wpAny_mkBytes (wpAny_pure ⟨_, rfl, h _ _⟩) hl
/- values of bytes -/
noncomputable def bytesValues (l : List (List UInt8 × Tok)) : List Value := l.map fun p => .bytes p.1.toArray p.2
theorem news_map : ∀ (ws : List (List UInt8)) (s : Shared) {Q : List Value → Shared → Prop}, (∀ x ∈ ws, x.length ≤ sizeLine) → (∀ l k, l.map (·.1) = ws → Q (bytesValues l) { s with toks := k }) → wpAny (model prog w) A (ws.mapM fun x => Bytes.Kind.bytes.new x.toArray) Q E s
  | [], s, Q, _, h => by rw [List.mapM_nil]; exact wpAny_pure (h [] s.toks rfl)
  | x :: r, s, Q, hz, h => by
    rw [List.mapM_cons]
    refine wpAny_bind ?_
    show wpAny _ _ (mkBytes x.toArray) _ _ _
    refine wpAny_mkBytes ?_ (by simpa using hz x (List.mem_cons_self ..))
    refine wpAny_bind (news_map r { s with toks := s.toks + 1 } (fun y hy => hz y (List.mem_cons_of_mem _ hy)) fun l k hl => ?_)
    exact wpAny_pure (h ((x, s.toks) :: l) k (by rw [List.map_cons, hl]))
end
section
variable {prog : Program} {w : World} {A : Around} {E : Value → Shared → Prop} {s : Shared} {h₀ : Heap} {L : Addr} {m : Str → Option Value} {news : List (Addr × Obj)}
theorem words_len : ∀ (n k : Nat) (l : List UInt8), ∀ x ∈ Bytes.words n k l, x.length ≤ l.length
  | 0, _, _, x, h => by simp [Bytes.words] at h
  | n + 1, k, l, x, h => by
    unfold Bytes.words at h
    have hd : (l.dropWhile Bytes.isSpace).length ≤ l.length := (List.dropWhile_sublist _).length_le
    split at h
    · cases h
    · rename_i rest e
      split at h
      · rw [List.mem_singleton.mp h]; exact hd
      · rcases List.mem_cons.mp h with h | h
        · rw [h]
          exact Nat.le_trans (List.takeWhile_sublist _).length_le hd
        · have h1 := words_len n _ _ x h
          exact Nat.le_trans h1 (Nat.le_trans (List.dropWhile_sublist _).length_le hd)
theorem words_many : ∀ (n k : Nat) (l : List UInt8), (Bytes.words n k l).length ≤ n
  | 0, _, _ => by simp [Bytes.words]
  | n + 1, k, l => by
    unfold Bytes.words
    split
    · simp
    · split
      · simp
      · have := words_many n (k - 1) (List.dropWhile (fun x => !Bytes.isSpace x) (l.dropWhile Bytes.isSpace))
        simp only [List.length_cons]
        (first | lia | omega)
theorem split_slot : Slot "bytes" "split" "bytes.split" :=
  .of (owner := "bytes") (n := "split") (by rw [typeLookup_type, builtinLookup_eq_fast]; kernel_rfl) (by decide +kernel) (by decide +kernel) (by decide +kernel)
    (by first | exact .inl (by decide +kernel) | exact .inr (by decide +kernel)) (by rw [isSubtype_type]; kernel_rfl)
theorem split_type : typeOf (.builtin "bytes.split") = pure (.type "method_descriptor") := by show builtinType _ = _; rw [builtinType_eq_fast]; kernel_rfl
theorem split_entry : entryFor table "bytes.split" = some Builtin.«bytes.split» := entryFor_of_tree (by kernel_rfl)
theorem split_args (a : Value) : argsOk "bytes.split" ⟨[a], []⟩ := by unfold argsOk; kernel_rfl
theorem bsplit {arr : Array UInt8} {t : Tok} {Q : Value → Shared → Prop} (F : Fr h₀ L s.heap m) (N : News h₀ L s.heap news) (hz : arr.size < 1000000) (hsp : arr.any Bytes.isSpace = true)
    (h : ∀ D h' k l, l.map (·.1) = wordsOf arr → Fr h₀ L h' m → News h₀ L h' ((D, listOf (bytesValues l).toArray 0) :: news) → (∀ p ∈ news, p.1 < D) → Q (.ref D) { s with heap := h', toks := k }) :
    wpAny (model prog w) A (call (.builtin "bytes.split") [.bytes arr t]) Q E s := by
  refine wpAny_call_entry split_slot (typeIs_bytes _ _ _) split_entry ?_ (split_args _)
  unfold Builtin.«bytes.split» Bytes.splitM
  dsimp only
  refine wpAny_bind (wpAny_of_eq (a := [none, none]) (by with_unfolding_all rfl) ?_)
  dsimp only
  refine wpAny_bind (wpAny_pure (wpAny_bind (wpAny_of_eq (a := arr) (by rfl) ?_)))
  refine wpAny_bind (wpAny_rule ?_)
  rw [if_neg (by rw [hsp]; simp)]
  simp only [Bool.false_eq_true, if_false, show ((-1 : Int) < 0) = True from by simp, if_true]
  refine wpAny_bind (news_map _ s (fun x hx => ?_) fun l k hl => ?_)
  · have h1 := words_len _ _ _ x hx
    rw [show sizeLine = 16777216 from rfl]
    simp at h1
    (first | lia | omega)
  · have hln : (bytesValues l).length ≤ sizeLine := by
      have h1 := words_many (arr.size + 1) (arr.size + 1) arr.toList
      rw [← hl] at h1
      rw [show sizeLine = 16777216 from rfl]
      unfold bytesValues
      simp at h1 ⊢
      (first | lia | omega)
    refine wpAny_bind (newList_K (s := { s with toks := k }) F N (fun D h' F' N' l1 => wpAny_pure ⟨_, rfl, h D h' k l hl F' N' l1⟩) hln)
end
end Mine
end
section
open PySem PySem.W PyProof.Rows PySem.Calls PySem.Spec
set_option maxRecDepth 100000
set_option maxHeartbeats 8000000
set_option pp.deepTerms false
set_option pp.maxSteps 20000
namespace Mine
theorem dummyQ3 : True := by
  k_with_none
  w_top off
  k_with "lt8" => with_reducible first | assumption | exact And.left (by assumption) | exact And.left (And.right (by assumption)) | exact And.left (And.right (And.right (by assumption))) | exact And.left (And.right (And.right (And.right (by assumption)))) | exact And.left (And.right (And.right (And.right (And.right (by assumption))))) | exact And.left (And.right (And.right (And.right (And.right (And.right (by assumption)))))) | exact And.left (And.right (And.right (And.right (And.right (And.right (And.right (by assumption))))))) | exact And.left (And.right (And.right (And.right (And.right (And.right (And.right (And.right (by assumption)))))))) | exact And.left (And.right (And.right (And.right (And.right (And.right (And.right (And.right (And.right (by assumption))))))))) | exact And.left (And.right (And.right (And.right (And.right (And.right (And.right (And.right (And.right (And.right (by assumption)))))))))) | exact And.left (And.right (And.right (And.right (And.right (And.right (And.right (And.right (And.right (And.right (And.right (by assumption))))))))))) | exact And.left (And.right (And.right (And.right (And.right (And.right (And.right (And.right (And.right (And.right (And.right (And.right (by assumption)))))))))))) | exact And.left (And.right (And.right (And.right (And.right (And.right (And.right (And.right (And.right (And.right (And.right (And.right (And.right (by assumption)))))))))))))
  k_with "lt9" => first | exact Nat.ne_of_lt (by walk_at "lt8") | exact Nat.ne_of_gt (by walk_at "lt8")
  trivial
theorem plain_pattern : PlainAttrs "re.Pattern" :=
  ⟨⟨"object.__getattribute__", by rw [typeLookup_type, builtinLookup_eq_fast]; kernel_rfl, by decide +kernel⟩, by rw [typeLookup_type, builtinLookup_eq_fast]; kernel_rfl⟩
theorem plain_match : PlainAttrs "re.Match" :=
  ⟨⟨"object.__getattribute__", by rw [typeLookup_type, builtinLookup_eq_fast]; kernel_rfl, by decide +kernel⟩, by rw [typeLookup_type, builtinLookup_eq_fast]; kernel_rfl⟩
theorem re_slot : Slot "re.Pattern" "match" "re.Pattern.match" :=
  .of (owner := "re.Pattern") (n := "match") (by rw [typeLookup_type, builtinLookup_eq_fast]; kernel_rfl) (by decide +kernel) (by decide +kernel) (by decide +kernel)
    (by first | exact .inl (by decide +kernel) | exact .inr (by decide +kernel)) (by rw [isSubtype_type]; kernel_rfl)
theorem re_type : typeOf (.builtin "re.Pattern.match") = pure (.type "method_descriptor") := by show builtinType _ = _; rw [builtinType_eq_fast]; kernel_rfl
theorem gr_slot : Slot "re.Match" "group" "re.Match.group" :=
  .of (owner := "re.Match") (n := "group") (by rw [typeLookup_type, builtinLookup_eq_fast]; kernel_rfl) (by decide +kernel) (by decide +kernel) (by decide +kernel)
    (by first | exact .inl (by decide +kernel) | exact .inr (by decide +kernel)) (by rw [isSubtype_type]; kernel_rfl)
theorem gr_type : typeOf (.builtin "re.Match.group") = pure (.type "method_descriptor") := by show builtinType _ = _; rw [builtinType_eq_fast]; kernel_rfl
theorem match_noBool : typeLookup (.type "re.Match") "__bool__" = pure none := by rw [typeLookup_type, builtinLookup_eq_fast]; kernel_rfl
theorem match_noLen : typeLookup (.type "re.Match") "__len__" = pure none := by rw [typeLookup_type, builtinLookup_eq_fast]; kernel_rfl
section
variable {M : Model} {A : Around} {E : Value → Shared → Prop} {s : Shared} {pl : Sem Bool} {h₀ : Heap} {L : Addr} {m : Str → Option Value} {news : List (Addr × Obj)}
theorem re_method {K : Frag} {o : Obj} {Q : Value × List Value → Shared → Prop} (F : Fr h₀ L s.heap m) (X : K.In h₀) (hk : K.lookup 43 = some o) (hc : o.cls = .type "re.Pattern") (hd : o.dict = none) (h : Q (.builtin "re.Pattern.match", [.ref 43]) s) : wpAny M A (getMethod (.ref 43) (Str.ofString "match") pl) Q E s := by
  have e := F.keep _ _ (X 43 _ hk)
  exact getMethod_builtin (T := "re.Pattern") ⟨_, e, hc⟩ plain_pattern re_slot re_type (fun a ea => by injection ea with ea; subst ea; exact ⟨_, e, hd⟩) h
theorem gr_method {mo tu : Addr} {arr : Array UInt8} {t : Tok} {lim : Nat} {Q : Value × List Value → Shared → Prop} (N : News h₀ L s.heap news) (hm : (mo, matchO arr t lim tu) ∈ news) (h : Q (.builtin "re.Match.group", [.ref mo]) s) : wpAny M A (getMethod (.ref mo) (Str.ofString "group") pl) Q E s := by
  have e := N.get hm
  exact getMethod_builtin (T := "re.Match") ⟨_, e, rfl⟩ plain_match gr_slot gr_type (fun a ea => by injection ea with ea; subst ea; exact ⟨_, e, rfl⟩) h
theorem sp_method {b : Array UInt8} {t : Tok} {Q : Value × List Value → Shared → Prop} (h : Q (.builtin "bytes.split", [.bytes b t]) s) : wpAny M A (getMethod (.bytes b t) (Str.ofString "split") pl) Q E s :=
  getMethod_builtin (typeIs_bytes _ _ _) FB.plainAttrs_bytes split_slot split_type (fun _ e => nomatch e) h
theorem match_truthy {mo tu : Addr} {arr : Array UInt8} {t : Tok} {lim : Nat} {Q : Bool → Shared → Prop} (N : News h₀ L s.heap news) (hm : (mo, matchO arr t lim tu) ∈ news) (h : Q true s) : wpAny M A (truthy (.ref mo)) Q E s := by
  have e := N.get hm
  have hT : s.TypeIs (.ref mo) "re.Match" := ⟨_, e, rfl⟩
  unfold truthy callSpecial?
  refine wpAny_bind (wpAny_bind (wpAny_specialOf hT match_noBool (wpAny_pure ?_)))
  refine wpAny_bind (wpAny_specialOf hT match_noLen (wpAny_pure ?_))
  exact h
end
theorem withQ3x27 : True := by
  k_with_none
  w_top off
  k_with "lt8" => with_reducible first | assumption | exact And.left (by assumption) | exact And.left (And.right (by assumption)) | exact And.left (And.right (And.right (by assumption))) | exact And.left (And.right (And.right (And.right (by assumption)))) | exact And.left (And.right (And.right (And.right (And.right (by assumption))))) | exact And.left (And.right (And.right (And.right (And.right (And.right (by assumption)))))) | exact And.left (And.right (And.right (And.right (And.right (And.right (And.right (by assumption))))))) | exact And.left (And.right (And.right (And.right (And.right (And.right (And.right (And.right (by assumption)))))))) | exact And.left (And.right (And.right (And.right (And.right (And.right (And.right (And.right (And.right (by assumption))))))))) | exact And.left (And.right (And.right (And.right (And.right (And.right (And.right (And.right (And.right (And.right (by assumption)))))))))) | exact And.left (And.right (And.right (And.right (And.right (And.right (And.right (And.right (And.right (And.right (And.right (by assumption))))))))))) | exact And.left (And.right (And.right (And.right (And.right (And.right (And.right (And.right (And.right (And.right (And.right (And.right (by assumption)))))))))))) | exact And.left (And.right (And.right (And.right (And.right (And.right (And.right (And.right (And.right (And.right (And.right (And.right (And.right (by assumption)))))))))))))
  k_with "lt9" => first | exact Nat.ne_of_lt (by walk_at "lt8") | exact Nat.ne_of_gt (by walk_at "lt8")
  k_with "getMethod ref" => (k_here; k_dflt (refine' re_method ?kw9F ?kw9X ?kw9k ?kw9c ?kw9d ?_; (case kw9F => k_asm); (case kw9X => k_asm); (case kw9k => k_is); (case kw9c => rfl); (case kw9d => rfl); k_whole))
  k_with "getMethod ref" => (k_here; k_dflt (refine' gr_method ?kw9N ?kw9m ?_; (case kw9N => k_asm); (case kw9m => k_mem); k_whole))
  k_with "getMethod" => (k_here; k_dflt (refine' sp_method ?_; k_whole))
  k_with "truthy ref" => (k_here; k_dflt (refine' match_truthy ?kw9N ?kw9m ?_; (case kw9N => k_asm); (case kw9m => k_mem); k_whole))
  trivial
theorem parse_c {w : World} {mg mb : Str → Option Value} {b : Heap} {s : Shared} {arr : Array UInt8} {t : Tok} {n p q : Nat} {Q E : Value → Shared → Prop}
    (B : Base w mg mb b) (kb : Sub b s.heap) (hz2 : arr.size ≤ 10000) (H : OneMatch (arr.map (·.toNat)) n p q) (hsp : (arr.extract (p + 7) q).any Builtin.Bytes.isSpace = true)
    (hret : ∀ h' tk' T l, l.map (·.1) = wordsOf (arr.extract (p + 7) q) → But [] s.heap h' → s.heap.get? T = none → h'.get? T = some { cls := .type "tuple", data := .seq (bytesValues l).toArray } → Q (.ref T) { s with heap := h', toks := tk' }) :
    wpAny (model pw w) (Av 8) (call (.ref 50) [.bytes arr t]) Q E s := by
  have hz : arr.size < 1000000 := by (first | lia | omega)
  refine wpAny_call ?_
  have N0 : ∀ p ∈ ([] : List (Addr × Obj)), s.heap.get? p.1 = some p.2 ∧ b.get? p.1 = none := fun _ h => nomatch h
  k_dflt (refine' enter (binds := [(Str.ofString "resp", .bytes arr t)]) B kb N0 ?k4 ?k5 ?k6 ?k7 ?k8 ?_ ?k10 ?k11 ?k12 ?k13; (case k4 => k_is); (case k5 => k_is); (case k6 => decide); (case k7 => exact BindsTo.of_eq rfl); (case k8 => exact locs rfl); (case k10 => decide); (case k11 => exact rfl); (case k12 => exact rfl); (case k13 => exact rfl))
  intro g L' h₁ tk₀ F N X T hk hs hL
  (try dsimp only)
  (try k_fold)
  k_steps
  rename Fr _ _ _ _ => F1
  rename News _ _ _ _ => N1
  refine match_yes F1 X N1 hz H (fun mo tu h2 F2 N2 l1 l2 => ?_)
  clear F1 N1
  k_steps
  rename Fr _ _ _ _ => F3
  rename News _ _ _ _ => N3
  refine group_yes (X.keeps F3.keep) (N3.get (.head _)) (N3.get (.tail _ (.head _))) hz (fun t3 k3 => ?_)
  k_steps
  rename Fr _ _ _ _ => F4
  rename News _ _ _ _ => N4
  refine bsplit F4 N4 (by simp; (first | lia | omega)) hsp (fun D h5 k5 l hl F5 N5 lD => ?_)
  k_steps
  rename Fr _ _ _ _ => F6
  rename News _ _ _ _ => N6
  have hln : (bytesValues l).toArray.size ≤ 16384 := by
    have h1 : (wordsOf (arr.extract (p + 7) q)).length ≤ (arr.extract (p + 7) q).size + 1 := words_many _ _ _
    rw [← hl] at h1
    unfold bytesValues
    simp at h1 ⊢
    (first | lia | omega)
  refine kde_tupleOf F6 N6 (News.isList N6 (.head _)) hln rfl (fun T' h7 F7 N7 lT => ?_)
  exact hret _ _ T' l hl (but_end hk F7.keep fa_nil) (fresh_end hk (N7.fresh (.head _)) fa_nil) (N7.get (.head _))
theorem parse_no {w : World} {mg mb : Str → Option Value} {b : Heap} {s : Shared} {arr : Array UInt8} {t : Tok} {Q E : Value → Shared → Prop}
    (B : Base w mg mb b) (kb : Sub b s.heap) (hz2 : arr.size ≤ 10000) (h8 : 8 ≤ arr.size) (h10 : (arr.map (·.toNat)).getD 0 0 = 10)
    (hret : ∀ h' tk' T n, But [] s.heap h' → s.heap.get? T = none → h'.get? T = some { cls := .type "tuple", data := .seq #[] n } → Q (.ref T) { s with heap := h', toks := tk' }) :
    wpAny (model pw w) (Av 8) (call (.ref 50) [.bytes arr t]) Q E s := by
  have hz : arr.size < 1000000 := by (first | lia | omega)
  refine wpAny_call ?_
  have N0 : ∀ p ∈ ([] : List (Addr × Obj)), s.heap.get? p.1 = some p.2 ∧ b.get? p.1 = none := fun _ h => nomatch h
  k_dflt (refine' enter (binds := [(Str.ofString "resp", .bytes arr t)]) B kb N0 ?k4 ?k5 ?k6 ?k7 ?k8 ?_ ?k10 ?k11 ?k12 ?k13; (case k4 => k_is); (case k5 => k_is); (case k6 => decide); (case k7 => exact BindsTo.of_eq rfl); (case k8 => exact locs rfl); (case k10 => decide); (case k11 => exact rfl); (case k12 => exact rfl); (case k13 => exact rfl))
  intro g L' h₁ tk₀ F N X T hk hs hL
  (try dsimp only)
  (try k_fold)
  k_steps
  rename Fr _ _ _ _ => F1
  rename News _ _ _ _ => N1
  refine match_no (X.keeps F1.keep) hz h8 h10 ?_
  k_steps
  rename Fr _ _ _ _ => F7
  rename News _ _ _ _ => N7
  exact hret _ _ _ _ (but_end hk F7.keep fa_nil) (fresh_end hk (N7.fresh (.head _)) fa_nil) (N7.get (.head _))
end Mine
end
section
open PySem PySem.W PyProof.Rows PySem.Calls PySem.Spec
set_option maxRecDepth 100000
set_option maxHeartbeats 8000000
set_option pp.deepTerms false
set_option pp.maxSteps 20000
namespace Mine
noncomputable abbrev It.pr (i : It) : Pr := (i.f, i.p)
theorem rowOf_pr (l : List It) : rowOf l = rowTx (l.map It.pr) := by simp [rowOf, rowTx, Function.comp_def]
theorem size_pr (l : List It) : size l = rowSz (l.map It.pr) := by simp [size, rowSz, Function.comp_def, prSz]
/- what stands of a maker, plainly -/
noncomputable def MkS (P : Params) (wr : List Addr) (h : Heap) (k : Mk) (st : List (List Pr) × List Pr) : Prop := ∃ ls l, MkAt P h k ls l ∧ ls.map (·.1) = st.1.map rowTx ∧ l.map It.pr = st.2 ∧ ∀ i ∈ l, i.t ∉ wr
theorem But.to5 {h h' : Heap} {a b c : Addr} (x : But [a, 176] h h') : But [a, b, c, 176, 183] h h' := x.mono fun y hy => by
  rcases List.mem_cons.mp hy with rfl | hy
  · simp
  · rw [List.mem_singleton.mp hy]; simp
theorem chunk_c {w : World} {mg mb : Str → Option Value} {b : Heap} {s : Shared} {k : Mk} {st : List (List Pr) × List Pr} {f p : Str} {tf tp : Tok} {Q E : Value → Shared → Prop}
    (B : Base w mg mb b) (S : St b s) (O : Own5 b k) {wr : List Addr} (hwr : ∀ a ∈ wr, ∃ o, s.heap.get? a = some o) (M : MkS w.params wr s.heap k st) (hsm : st.2.length < 50) (hsm2 : ∀ i ∈ st.2, i.1.length ≤ 100 ∧ i.2.length ≤ 100) (hf : f.length ≤ 100) (hp : p.length ≤ 100) (hf0 : st.2 = [] ∨ f.cps[0]? = some 32) (hls : st.1.length < 50)
    (hret : ∀ h' gn tk', But [k.x, k.dx, k.l, 176, 183] s.heap h' → St b { s with heap := h', gens := gn, toks := tk' } → MkS w.params wr h' k (eat k.wd st (f, p)) → Q .none { s with heap := h', toks := tk', gens := gn }) :
    wpAny (model pw w) (Av 8) (call (.ref 127) [.ref k.m, .str f tf, .str p tp]) Q E s := by
  obtain ⟨ls, l, M, e1, e2, e3⟩ := M
  have off : ∀ t, s.heap.get? t = none → t ∉ wr := fun t ht hm => by obtain ⟨o, ho⟩ := hwr t hm; rw [ht] at ho; cases ho
  have hl : l.length = st.2.length := by rw [← e2, List.length_map]
  have hll : ls.length = st.1.length := by rw [← List.length_map (f := (·.1)), e1, List.length_map]
  have hb : ∀ i ∈ l, i.f.length ≤ 100 ∧ i.p.length ≤ 100 := fun i hi => hsm2 (i.f, i.p) (e2 ▸ List.mem_map_of_mem hi)
  have hs : size l = rowSz st.2 := by rw [size_pr, e2]
  by_cases hfit : size l + f.length + p.length ≤ k.wd
  · refine chunkA_c B S O M (by (first | lia | omega)) hb hf hp hfit fun h' gn tk' t b' S' M' ht => hret h' gn tk' b'.to5 S' ?_
    have e : eat k.wd st (f, p) = (st.1, st.2 ++ [(f, p)]) := if_pos (.inl (by simp only [prSz]; (first | lia | omega)))
    rw [e]
    exact ⟨ls, _, M', e1, by rw [List.map_append, e2]; rfl, fun j hj => by
      rcases List.mem_append.mp hj with hj | hj
      · exact e3 j hj
      · rw [List.mem_singleton.mp hj]; exact off t ht⟩
  · by_cases h0 : st.2 = []
    · have hl0 : l = [] := by rw [h0] at e2; exact List.map_eq_nil_iff.mp e2
      subst hl0
      have hz : size ([] : List It) = 0 := rfl
      refine chunkB_c B S O M hf hp (by (first | lia | omega)) fun h' gn tk' t b' S' M' ht => hret h' gn tk' b'.to5 S' ?_
      have e : eat k.wd st (f, p) = (st.1, st.2 ++ [(f, p)]) := if_pos (.inr h0)
      rw [e, h0]
      exact ⟨ls, _, M', e1, rfl, fun j hj => by rw [List.mem_singleton.mp hj]; exact off t ht⟩
    · have h1 : 0 < l.length := by
        rw [hl]; exact List.length_pos_iff.mpr h0
      refine chunkC_c B S O M (by (first | lia | omega)) h1 hb hf hp (by (first | lia | omega)) (hf0.resolve_left h0) (by (first | lia | omega)) fun h' gn tk' t tr b' S' M' ht => hret h' gn tk' b' S' ?_
      have e : eat k.wd st (f, p) = (st.1 ++ [st.2], [(f, p)]) := if_neg (by simp only [prSz, not_or]; exact ⟨by (first | lia | omega), h0⟩)
      rw [e]
      exact ⟨_, _, M', by rw [List.map_append, e1, List.map_append]; simp [rowOf_pr, e2], rfl, fun j hj => by rw [List.mem_singleton.mp hj]; exact off t ht⟩
end Mine
end
section
open PySem PySem.W PyProof.Rows PySem.Calls PySem.Spec
set_option maxRecDepth 100000
set_option maxHeartbeats 8000000
set_option pp.deepTerms false
set_option pp.maxSteps 20000
namespace Mine
section
variable {prog : Program} {w : World} {A : Around} {E : Value → Shared → Prop} {R : Result → Shared → Prop} {s : Shared} {env : Env} {target iter : Expr} {body orelse : List Stmt} {it : Value} {pos : Pos}
/- what a for loop's body leaves -/
noncomputable def Turned2 (prog : Program) (w : World) (A : Around) (target : Expr) (it : Value) (body orelse : List Stmt) (env : Env) (R : Result → Shared → Prop) (f : Flow) (s₃ : Shared) : Prop := match f with
  | .next | .cont => codeAny (model prog w) A (.forLoop target it body orelse env) R s₃
  | .brk => R (.ok .next) s₃
  | .ret v => R (.ok (.ret v)) s₃
theorem for_turn2 (h : wpAny (model prog w) A (pyNext it) (fun r s₁ => match r with
      | none => wpAny (model prog w) A (execs orelse env) (fun f s₃ => R (.ok f) s₃) (fun _ _ => False) s₁
      | some v => wpAny (model prog w) A (letOwnedTupleGo target it v) (fun _ s₁' => wpAny (model prog w) A (assign target env v) (fun _ s₂ => wpAny (model prog w) A (execs body env) (Turned2 prog w A target it body orelse env R) (fun _ _ => False) s₂) (fun _ _ => False) s₁') (fun _ _ => False) s₁) (fun _ _ => False) s) :
    codeAny (model prog w) A (.forLoop target it body orelse env) R s := by
  refine codeAny_of_tree ?_
  show wpAny _ A ((forTurn target it body orelse env).onRaise (fun x => do noteFrame x env; theTreesLotGoes x)) _ _ s
  refine wpAny_noted ?_
  simp only [forTurn]
  refine wpAny_bind (wpAny_standAt (wpAny_bind (wpAny_onRaise (wpAny_mono h (fun r s₁ h₁ => ?_) fun _ _ h' => h'.elim))))
  cases r with
  | none => exact wpAny_pure ⟨rfl, codeAny_block (wpAny_mono h₁ (fun _ _ z => z) fun _ _ z => z.elim)⟩
  | some v =>
    refine wpAny_bind (wpAny_mono h₁ (fun _ s₁' h₁' => ?_) fun _ _ h' => h'.elim)
    refine wpAny_bind (wpAny_mono h₁' (fun _ s₂ h₂ => wpAny_bind (wpAny_mono h₂ (fun f s₃ h₃ => ?_) fun _ _ h' => h'.elim)) fun _ _ h' => h'.elim)
    cases f with
    | next => exact wpAny_pure ⟨rfl, h₃⟩
    | cont => exact wpAny_pure ⟨rfl, h₃⟩
    | brk => exact wpAny_pure h₃
    | ret v => exact wpAny_pure h₃
/- a for loop over pairs, by what holds between its turns -/
theorem for_pairs {I : Addr} {fp wr : List Addr} {n : Nat} {Pt : Nat → Array Value → Prop} {St : Nat → Heap → Prop} {Mid : Nat → Addr → Heap → Prop} {a b : Str} {pa pb tp : Pos} {kk : Nat} {v1 v2 : Nat → Value} {m₀ : Str → Option Value} (J : Nat → Shared → Prop)
    (W : WalksU prog w A I fp wr n Pt St Mid) (hh : A.handled = none) (hP : ∀ i v, i < n → Pt i v → v = #[v1 i, v2 i])
    (ha : env.kindOf a = some .local) (hb : env.kindOf b = some .local) (hp : (env.scope.kind == .class || (env.scope.kind == .module && env.locals != env.globals)) = false)
    (hL : env.locals ∉ wr) (hLf : env.locals ∉ fp)
    (keep : ∀ i s h' tk, J i s → (∀ c o, c ∉ env.locals :: wr → s.heap.get? c = some o → h'.get? c = some o) → J i { s with heap := h', toks := tk })
    (turn : ∀ i s, i < n → J i s → St (i + 1) s.heap → s.heap.Ns env.locals (fun z => if z = b then some (v2 i) else if z = a then some (v1 i) else m₀ z) →
      wpAny (model prog w) A (execs body env) (fun f s' => (f = .next ∨ f = .cont) ∧ J (i + 1) s' ∧ St (i + 1) s'.heap ∧ ∃ m', s'.heap.Ns env.locals m' ∧ ∀ z, z ≠ a → z ≠ b → m' z = m₀ z) (fun _ _ => False) s)
    (done : ∀ s (u : Str → Option Value), J n s → s.heap.Ns env.locals (fun z => if z = b then u z else if z = a then u z else m₀ z) → R (.ok .next) s) :
    ∀ d i s m, i + d = n → J i s → St i s.heap → s.heap.Ns env.locals m → (∀ z, z ≠ a → z ≠ b → m z = m₀ z) →
      codeAny (model prog w) A (.forLoop (.Tuple [.Name a pa, .Name b pb] kk tp) (.ref I) body [] env) R s
  | 0, i, s, m, e, hJ, hS, hN, hm => by
    have e : i = n := by (first | lia | omega)
    subst e
    refine for_turn2 (W.done s _ _ hS fun h' tk hk => ?_)
    dsimp only
    refine wpAny_pure ?_
    have k2 : ∀ c o, c ∉ env.locals :: wr → s.heap.get? c = some o → h'.get? c = some o := fun c o hc => hk c o fun h => hc (List.mem_cons_of_mem _ h)
    have em : m = fun z => if z = b then m z else if z = a then m z else m₀ z := funext fun z => by
      by_cases h2 : z = b
      · rw [if_pos h2]
      · by_cases h1 : z = a
        · rw [if_neg h2, if_pos h1]
        · rw [if_neg h2, if_neg h1, hm z h1 h2]
    have hN' : h'.Ns env.locals m := hN.at' fun o x => hk _ o hL x
    rw [em] at hN'
    exact done _ m (keep i s h' tk hJ k2) hN'
  | d + 1, i, s, m, e, hJ, hS, hN, hm => by
    have hi : i < n := by (first | lia | omega)
    refine for_turn2 (W.item i s _ _ hi hS fun T vals h1 tk1 hPt hT hMid hk1 => ?_)
    dsimp only
    have hv := hP i vals hi hPt
    subst hv
    refine W.go _ _ _ i T _ _ _ hMid fun h2 hS2 hk2 => ?_
    have hTw := W.apart i T h1 hMid
    have hN1 : h1.Ns env.locals m := hN.at' fun o x => hk1 _ o hL x
    have hN2 : h2.Ns env.locals m := hN1.at' fun o x => hk2 _ o hL x
    have hT2 : h2.IsTuple T #[v1 i, v2 i] := hT.at fun o x => hk2 _ o hTw x
    refine kcp_assign hh hT2 ha hb hp hN2 fun h3 tk3 hN3 hk3 => ?_
    have hkJ : ∀ c o, c ∉ env.locals :: wr → s.heap.get? c = some o → h3.get? c = some o := fun c o hc x => hk3 c o (fun h => hc (h ▸ List.mem_cons_self ..)) (hk2 c o (fun h => hc (List.mem_cons_of_mem _ h)) (hk1 c o (fun h => hc (List.mem_cons_of_mem _ h)) x))
    have hS3 : St (i + 1) h3 := W.frame _ _ _ hS2 fun c hc o x => hk3 c o (fun h => hLf (h ▸ hc)) x
    have hab : (fun z => if z = b then some (v2 i) else if z = a then some (v1 i) else m z) = fun z => if z = b then some (v2 i) else if z = a then some (v1 i) else m₀ z := funext fun z => by
      by_cases h2 : z = b
      · rw [if_pos h2, if_pos h2]
      · by_cases h1 : z = a
        · rw [if_neg h2, if_pos h1, if_neg h2, if_pos h1]
        · rw [if_neg h2, if_neg h1, if_neg h2, if_neg h1, hm z h1 h2]
    rw [hab] at hN3
    refine wpAny_mono (turn i { s with heap := h3, toks := tk3 } hi (keep i s h3 tk3 hJ hkJ) hS3 hN3) (fun f s' z => ?_) fun _ _ z => z
    obtain ⟨hf, hJ', hS', m', hN', hm'⟩ := z
    rcases hf with rfl | rfl
    · exact for_pairs J W hh hP ha hb hp hL hLf keep turn done d (i + 1) s' m' (by (first | lia | omega)) hJ' hS' hN' hm'
    · exact for_pairs J W hh hP ha hb hp hL hLf keep turn done d (i + 1) s' m' (by (first | lia | omega)) hJ' hS' hN' hm'
end
end Mine
end
section
open PySem PySem.W PyProof.Rows PySem.Calls PySem.Spec
set_option maxRecDepth 100000
set_option maxHeartbeats 8000000
set_option pp.deepTerms false
set_option pp.maxSteps 20000
namespace Mine
/- behind a call that turns things which the ledger does not hold -/
theorem after' {g h h' : Heap} {L : Addr} {m : Str → Option Value} {news news' : List (Addr × Obj)} {xs : List Addr} (F : Fr g L h m) (N : News g L h news) (b : But xs h h') (hx : ∀ x ∈ xs, x ≠ L ∧ g.get? x = none)
    (hn : ∀ p ∈ news', h'.get? p.1 = some p.2 ∧ (p.1 ∈ news.map (·.1) ∨ h.get? p.1 = none)) : Fr g L h' m ∧ News g L h' news' := by
  have own : ∀ x ∈ news.map (·.1), x ≠ L ∧ g.get? x = none := fun x hx => by
    obtain ⟨p, hp, rfl⟩ := List.mem_map.mp hx
    exact (N p hp).2
  obtain ⟨oL, a1, a2, hoL, a3⟩ := F.ns
  refine ⟨⟨⟨oL, a1, a2, b L oL (fun hm => (hx L hm).1 rfl) hoL, a3⟩, fun c o e => b c o (fun hm => ?_) (F.keep c o e), F.above⟩, fun p hp => ⟨(hn p hp).1, ?_⟩⟩
  · rw [(hx c hm).2] at e; cases e
  · rcases (hn p hp).2 with h1 | h1
    · exact own _ h1
    · refine ⟨fun e => ?_, ?_⟩
      · rw [e, hoL] at h1; cases h1
      · cases e : g.get? p.1 with
        | none => rfl
        | some o => rw [F.keep _ _ e] at h1; cases h1
/- .. all that the ledger holds stands -/
theorem after_off {g h h' : Heap} {L : Addr} {m : Str → Option Value} {news : List (Addr × Obj)} {xs : List Addr} (F : Fr g L h m) (N : News g L h news) (b : But xs h h') (hx : ∀ x ∈ xs, x ≠ L ∧ g.get? x = none) (hn : ∀ p ∈ news, p.1 ∉ xs) : Fr g L h' m ∧ News g L h' news :=
  after' F N b hx fun p hp => ⟨b _ _ (hn p hp) (N p hp).1, .inl (List.mem_map_of_mem hp)⟩
theorem off_nil {x1 x2 x3 x4 x5 : Addr} : ∀ p ∈ ([] : List (Addr × Obj)), p.1 ∉ [x1, x2, x3, x4, x5] := fun _ h => nomatch h
theorem off_cons {x1 x2 x3 x4 x5 a : Addr} {o : Obj} {l : List (Addr × Obj)} (h1 : @Ne Nat a x1) (h2 : @Ne Nat a x2) (h3 : @Ne Nat a x3) (h4 : @Ne Nat a x4) (h5 : @Ne Nat a x5) (h : ∀ p ∈ l, p.1 ∉ [x1, x2, x3, x4, x5]) : ∀ p ∈ (a, o) :: l, p.1 ∉ [x1, x2, x3, x4, x5] :=
  fa_cons (fun hm => by
    simp only [List.mem_cons, List.not_mem_nil, or_false] at hm
    rcases hm with e | e | e | e | e
    · exact h1 e
    · exact h2 e
    · exact h3 e
    · exact h4 e
    · exact h5 e) h
theorem nwr_of {h : Heap} {a : Addr} {o : Obj} (e : h.get? a = some o) : a ∉ [h.objs.size + 4, h.objs.size + 3, h.objs.size, h.objs.size + 1] := fun hm => by
  have h1 := Heap.lt_size e
  have h2 : ∀ k, ¬ a = h.objs.size + k := fun k h3 => by
    rw [h3] at h1
    exact absurd h1 (Nat.not_lt.mpr (Nat.le_add_right _ _))
  simp only [List.mem_cons, List.not_mem_nil, or_false] at hm
  rcases hm with e | e | e | e
  · exact h2 4 e
  · exact h2 3 e
  · exact h2 0 e
  · exact h2 1 e
theorem off_of {g h : Heap} {L : Addr} {news : List (Addr × Obj)} {xs : List Addr} (_N : News g L h news) (h : ∀ p ∈ news, p.1 ∉ xs) : ∀ p ∈ news, p.1 ∉ xs := h
theorem pick5 {l0 l1 l2 l3 l4 w0 w1 w2 w3 w4 : Str} {a0 a1 a2 a3 a4 b0 b1 b2 b3 b4 : Tok} (hsp : ∀ x ∈ [l1, l2, l3, l4], x.cps[0]? = some 32) : ∀ i, i < 5 →
    ∃ f tf p tp, (#[.str l0 a0, .str l1 a1, .str l2 a2, .str l3 a3, .str l4 a4] : Array Value)[i]?.getD .none = .str f tf ∧ (#[.str w0 b0, .str w1 b1, .str w2 b2, .str w3 b3, .str w4 b4] : Array Value)[i]?.getD .none = .str p tp ∧ [(l0, w0), (l1, w1), (l2, w2), (l3, w3), (l4, w4)][i]? = some (f, p) ∧ (i = 0 ∨ f.cps[0]? = some 32)
  | 0, _ => ⟨_, _, _, _, rfl, rfl, rfl, .inl rfl⟩
  | 1, _ => ⟨_, _, _, _, rfl, rfl, rfl, .inr (hsp _ (by simp))⟩
  | 2, _ => ⟨_, _, _, _, rfl, rfl, rfl, .inr (hsp _ (by simp))⟩
  | 3, _ => ⟨_, _, _, _, rfl, rfl, rfl, .inr (hsp _ (by simp))⟩
  | 4, _ => ⟨_, _, _, _, rfl, rfl, rfl, .inr (hsp _ (by simp))⟩
  | n + 5, h => absurd h (by (first | lia | omega))
/- between the turns of the law's first loop -/
structure JF (P : Params) (b g : Heap) (L : Addr) (wr : List Addr) (led : List (Addr × Obj)) (k : Mk) (d : Drawn) (os : OsState) (st : List (List Pr) × List Pr) (s : Shared) : Prop where
  base : ∀ c o, g.get? c = some o → s.heap.get? c = some o
  led : ∀ p ∈ led, s.heap.get? p.1 = some p.2
  stt : St b s
  mks : MkS P (L :: wr) s.heap k st
  d : s.drawn = d
  os : s.os = os
theorem JF.keep {P : Params} {b g : Heap} {L : Addr} {wr : List Addr} {led : List (Addr × Obj)} {k : Mk} {d : Drawn} {os : OsState} {st : List (List Pr) × List Pr} {s : Shared} (hg : ∀ c ∈ L :: wr, g.get? c = none) (hled : ∀ p ∈ led, p.1 ∉ L :: wr) (hbg : Sub b g) (h1 : (176 : Nat) ∉ L :: wr) (h2 : (183 : Nat) ∉ L :: wr)
    (hk5 : ∀ a ∈ [k.m, k.dm, k.l, k.x, k.dx], a ∉ L :: wr) {h' : Heap} {tk : Nat} (J : JF P b g L wr led k d os st s) (hk : ∀ c o, c ∉ L :: wr → s.heap.get? c = some o → h'.get? c = some o) : JF P b g L wr led k d os st { s with heap := h', toks := tk } where
  base := fun c o e => hk c o (fun hm => by rw [hg c hm] at e; cases e) (J.base c o e)
  led := fun p hp => hk _ _ (hled p hp) (J.led p hp)
  stt := ⟨fun a o e => hk a o (fun hm => by rw [none_of_sub hbg (hg a hm)] at e; cases e) (J.stt.kb a o e), let ⟨o, e, t⟩ := J.stt.t1; ⟨o, hk _ _ h1 e, t⟩, let ⟨o, e, t⟩ := J.stt.t2; ⟨o, hk _ _ h2 e, t⟩, J.stt.gb⟩
  mks := by
    obtain ⟨ls, l, M, e1, e2, e3⟩ := J.mks
    obtain ⟨nl, m1⟩ := M.ln
    obtain ⟨nx, m2⟩ := M.x
    obtain ⟨t, z, n, m3⟩ := M.dx
    exact ⟨ls, l, ⟨hk _ _ (hk5 _ (by simp)) M.m, hk _ _ (hk5 _ (by simp)) M.dm, ⟨nl, hk _ _ (hk5 _ (by simp)) m1⟩, ⟨nx, hk _ _ (hk5 _ (by simp)) m2⟩, ⟨t, z, n, hk _ _ (hk5 _ (by simp)) m3⟩, fun i hi => hk _ _ (e3 i hi) (M.its i hi), M.nd⟩, e1, e2, e3⟩
  d := J.d
  os := J.os
end Mine
end
section
open PySem PySem.W PyProof.Rows PySem.Calls PySem.Spec
set_option maxRecDepth 100000
set_option maxHeartbeats 1000000
set_option pp.deepTerms false
set_option pp.maxSteps 20000
namespace Mine
theorem dummyE3 : True := by
  k_with_none
  w_top off
  trivial
theorem mg_comment {w : World} {mg mb : Str → Option Value} {b : Heap} (B : Base w mg mb b) : mg (Str.ofString "_comment_line") = some (.ref 57) := mg_of B.K B.T.g (n := Str.ofString "_comment_line") (by k_is)
theorem paired_notes : ∀ (sl : List (Str × Tok)) (ys : List Value), Paired (fun v y => ∃ x t t', v = .str x t ∧ y = .str (comment x) t') (strValues sl) ys → ∃ nl : List (Str × Tok), ys = strValues nl ∧ nl.map (·.1) = (sl.map (·.1)).map comment
  | [], _, h => by
    cases h
    exact ⟨[], rfl, rfl⟩
  | (x, t) :: r, _, h => by
    cases h with
    | cons hF hr =>
      obtain ⟨x', t', t'', e1, e2⟩ := hF
      injection e1 with e1 _
      subst e1
      obtain ⟨nl, rfl, e3⟩ := paired_notes r _ hr
      exact ⟨(comment x, t'') :: nl, by rw [e2]; rfl, by simp [e3]⟩
theorem strValues_at {sl : List (Str × Tok)} {i : Nat} {v : Value} (h : (strValues sl).toArray[i]? = some v) : ∃ x t, v = .str x t ∧ x ∈ sl.map (·.1) := by
  have h' : (strValues sl)[i]? = some v := by simpa using h
  have := List.mem_of_getElem? h'
  obtain ⟨p, hp, rfl⟩ := List.mem_map.mp this
  exact ⟨p.1, p.2, rfl, List.mem_map_of_mem hp⟩
theorem join_notes {prog : Program} {w : World} {A : Around} {E : Value → Shared → Prop} {s : Shared} {h₀ : Heap} {L D : Addr} {news : List (Addr × Obj)} {nl : List (Str × Tok)} {n : Nat} {x : Str} {t : Tok} {Q : Value → Shared → Prop} (N : News h₀ L s.heap news) (hm : (D, listOf (strValues nl).toArray n) ∈ news) (hsep : x.length ≤ 16)
    (hw : ((nl.map (·.1)).map (·.length)).sum + (nl.map (·.1)).length ≤ 1048576) (h : ∀ t' k, Q (.str (Txt.join x (nl.map (·.1))) t') { s with toks := k }) : wpAny (model prog w) A (call (.builtin "str.join") [.str x t, .ref D]) Q E s :=
  join_listW ⟨_, N.get hm, rfl, _, rfl⟩ (strsAre_of_values nl) hsep hw h
section
variable {w : World} {A' : Around} {E' : Value → Shared → Prop} {s₂ : Shared}
theorem elt_comment {mg mb : Str → Option Value} {b : Heap} {cenv : Env} {m₂ : Str → Option Value} {x : Str} {t : Tok} {p1 p2 p3 : Pos}
    (B : Base w mg mb b) (kb : Sub b s₂.heap) (hz : x.length ≤ 10000) (hA1 : A'.handled = none) (hA2 : A'.depth ≤ (Av 8).depth) (hA3 : A'.units ≤ (Av 8).units)
    (hns : s₂.heap.Ns cenv.locals m₂) (h1 : m₂ "row" = some (.str x t)) (hk : cenv.scope.kind = .function) (k1 : cenv.kindOf "row" = some .local) (k3 : cenv.kindOf "_comment_line" = some .globalImplicit) (hg : cenv.globals = mainGlobals) :
    wpAny (model pw w) A' (eval (.Call (.Name "_comment_line" p1) [.Name "row" p2] [] p3) cenv) (fun y s₃ => (∃ t', y = .str (comment x) t') ∧ Keeps s₂ s₃) E' s₂ := by
  have T := B.T.keeps kb
  have X := B.K.keeps kb
  refine Call_Name1 (Name_function_global hk k3 (loadGlobal_global (hg ▸ T.g) (mg_comment B) ?_))
  have hkp : keepIn (K9 w.params) (.ref 57) = true := by k_is
  refine callWith_of (f := .ref 57) rfl (keeps_K hkp) (evalArgs_plain (spliced_cons (wpAny_Name (wpAny_loadName_local hk k1 hns h1 ?_))))
  refine spliced_nil ⟨X, ?_⟩
  refine lift (comment_c B kb hz (fun h' tk' t' b' => ⟨⟨t', rfl⟩, h', tk', rfl, fun c o e => b' c o (fun h => nomatch h) e⟩)) hA1 hA2 hA3 rfl rfl
end
end Mine
end
section
open PySem PySem.W PyProof.Rows PySem.Calls PySem.Spec
set_option maxRecDepth 100000
set_option maxHeartbeats 1000000
set_option pp.deepTerms false
set_option pp.maxSteps 20000
namespace Mine
section
variable {prog : Program} {w : World} {A : Around} {E : Value → Shared → Prop} {R : Result → Shared → Prop} {s : Shared} {env : Env} {body : List Stmt}
/- a for loop over one name, by what holds between its turns -/
theorem for_ones {I : Addr} {fp wr : List Addr} {n : Nat} {P : Nat → Value → Prop} {St : Nat → Heap → Prop} {a : Str} {pa : Pos} {v1 : Nat → Value} {m₀ : Str → Option Value} (J : Nat → Shared → Prop)
    (W : Walks prog w A I fp wr n P St) (hP : ∀ i v, i < n → P i v → v = v1 i)
    (ha : env.kindOf a = some .local) (hp : (env.scope.kind == .class || (env.scope.kind == .module && env.locals != env.globals)) = false)
    (hL : env.locals ∉ wr) (hLf : env.locals ∉ fp)
    (keep : ∀ i s h' tk, J i s → (∀ c o, c ∉ env.locals :: wr → s.heap.get? c = some o → h'.get? c = some o) → J i { s with heap := h', toks := tk })
    (turn : ∀ i s, i < n → J i s → St (i + 1) s.heap → s.heap.Ns env.locals (fun z => if z = a then some (v1 i) else m₀ z) →
      wpAny (model prog w) A (execs body env) (fun f s' => (f = .next ∨ f = .cont) ∧ J (i + 1) s' ∧ St (i + 1) s'.heap ∧ ∃ m', s'.heap.Ns env.locals m' ∧ ∀ z, z ≠ a → m' z = m₀ z) (fun _ _ => False) s)
    (done : ∀ s (u : Str → Option Value), J n s → s.heap.Ns env.locals (fun z => if z = a then u z else m₀ z) → R (.ok .next) s) :
    ∀ d i s m, i + d = n → J i s → St i s.heap → s.heap.Ns env.locals m → (∀ z, z ≠ a → m z = m₀ z) →
      codeAny (model prog w) A (.forLoop (.Name a pa) (.ref I) body [] env) R s
  | 0, i, s, m, e, hJ, hS, hN, hm => by
    have e : i = n := by (first | lia | omega)
    subst e
    refine for_turn2 (W.done s _ _ hS fun h' tk hk => ?_)
    dsimp only
    refine wpAny_pure ?_
    have k2 : ∀ c o, c ∉ env.locals :: wr → s.heap.get? c = some o → h'.get? c = some o := fun c o hc => hk c o fun h => hc (List.mem_cons_of_mem _ h)
    have em : m = fun z => if z = a then m z else m₀ z := funext fun z => by
      by_cases h1 : z = a
      · rw [if_pos h1]
      · rw [if_neg h1, hm z h1]
    have hN' : h'.Ns env.locals m := hN.at' fun o x => hk _ o hL x
    rw [em] at hN'
    exact done _ m (keep i s h' tk hJ k2) hN'
  | d + 1, i, s, m, e, hJ, hS, hN, hm => by
    have hi : i < n := by (first | lia | omega)
    refine for_turn2 (W.item i s _ _ hi hS fun v h1 tk1 hPv hS1 hk1 => ?_)
    dsimp only
    have hv := hP i v hi hPv
    subst hv
    refine wpAny_of_eq (a := ()) (by rfl) ?_
    have hN1 : h1.Ns env.locals m := hN.at' fun o x => hk1 _ o hL x
    refine wpAny_assign_Name (wpAny_storeName_local ha hN1 (fun h3 hN3 hs3 => ?_) hp)
    have hk3 : ∀ c o, c ≠ env.locals → h1.get? c = some o → h3.get? c = some o := fun c o hc x => hs3.extBut c o hc x
    have hkJ : ∀ c o, c ∉ env.locals :: wr → s.heap.get? c = some o → h3.get? c = some o := fun c o hc x => hk3 c o (fun h => hc (h ▸ List.mem_cons_self ..)) (hk1 c o (fun h => hc (List.mem_cons_of_mem _ h)) x)
    have hS3 : St (i + 1) h3 := W.frame _ _ _ hS1 fun c hc o x => hk3 c o (fun h => hLf (h ▸ hc)) x
    have hab : (fun z => if z = a then some (v1 i) else m z) = fun z => if z = a then some (v1 i) else m₀ z := funext fun z => by
      by_cases h1 : z = a
      · rw [if_pos h1, if_pos h1]
      · rw [if_neg h1, if_neg h1, hm z h1]
    rw [hab] at hN3
    refine wpAny_mono (turn i { s with heap := h3, toks := tk1 + 1 } hi (keep i s h3 (tk1 + 1) hJ hkJ) hS3 hN3) (fun f s' z => ?_) fun _ _ z => z
    obtain ⟨hf, hJ', hS', m', hN', hm'⟩ := z
    rcases hf with rfl | rfl
    · exact for_ones J W hP ha hp hL hLf keep turn done d (i + 1) s' m' (by (first | lia | omega)) hJ' hS' hN' hm'
    · exact for_ones J W hP ha hp hL hLf keep turn done d (i + 1) s' m' (by (first | lia | omega)) hJ' hS' hN' hm'
end
end Mine
end
section
open PySem PySem.W PyProof.Rows PySem.Calls PySem.Spec
set_option maxRecDepth 100000
set_option maxHeartbeats 1000000
set_option pp.deepTerms false
set_option pp.maxSteps 20000
namespace Mine
open PySem.Builtin
section
variable {prog : Program} {w : World} {A : Around} {E : Value → Shared → Prop} {s : Shared}
theorem enc_list : ∀ (l : List Nat) (acc : Array UInt8), l.foldl (fun acc y => acc ++ (_codecs.asciiCodec.bytesOf y).toArray) acc = acc ++ (l.map (·.toUInt8)).toArray
  | [], acc => by simp
  | a :: r, acc => by
    rw [List.foldl_cons, enc_list r]
    simp [_codecs.asciiCodec]
theorem enc_bytes (a : Array Nat) : a.foldl (fun acc y => acc ++ (_codecs.asciiCodec.bytesOf y).toArray) (#[] : Array UInt8) = a.map (·.toUInt8) := by
  obtain ⟨l⟩ := a
  have := enc_list l #[]
  simp only [List.foldl_toArray', List.size_toArray] at this ⊢
  rw [this]; simp
theorem not_bad {a : Array Nat} (hx : ∀ c ∈ a.toList, c < 128) : Array.findIdx? _codecs.asciiCodec.bad a = none := by
  rw [Array.findIdx?_eq_none_iff]
  intro c hc
  have := hx c (by simpa using hc)
  simp [_codecs.asciiCodec]
  (first | lia | omega)
theorem two_turns {α β : Type} {f : Nat → β → Sem (ForInStep β)} {g : β → Sem α} {b0 b1 : β} {n : Nat} {Q : α → Shared → Prop} (h0 : f 0 b0 = pure (.yield b1)) (h1 : f 1 b1 = pure (.done b1)) (h : wpAny (model prog w) A (g b1) Q E s) :
    wpAny (model prog w) A (forIn (List.range' 0 (n + 1) 1) b0 f >>= g) Q E s := by
  rw [List.range'_succ, List.forIn_cons, h0]
  cases n with
  | zero => exact wpAny_bind (wpAny_bind (wpAny_pure (wpAny_pure h)))
  | succ m =>
    refine wpAny_bind (wpAny_bind (wpAny_pure ?_))
    show wpAny _ _ (forIn (List.range' (0 + 1) (m + 1) 1) b1 f) _ _ _
    rw [List.range'_succ, List.forIn_cons, show f (0 + 1) b1 = _ from h1]
    exact wpAny_bind (wpAny_pure (wpAny_pure h))
theorem encodeNarrow_ascii {x : Str} {self : Value} {Q : Array UInt8 → Shared → Prop} (hx : ∀ c ∈ x.cps.toList, c < 128) (hz : x.length ≤ 100000) (h : Q (x.cps.map (·.toUInt8)) s) :
    wpAny (model prog w) A (_codecs.encodeNarrow "str.encode" _codecs.asciiCodec none self x) Q E s := by
  unfold _codecs.encodeNarrow
  dsimp only
  rw [Std.Legacy.Range.forIn_eq_forIn_range', show [:x.length].size = x.length by simp [Std.Legacy.Range.size]]
  show wpAny _ _ (forIn (List.range' 0 x.length 1) _ _ >>= _) _ _ _
  have hlen : x.length = x.cps.size := rfl
  cases hc : x.length with
  | zero =>
    rw [List.range'_zero, List.forIn_nil]
    refine wpAny_bind (wpAny_pure (wpAny_pure ?_))
    have : x.cps = #[] := Array.eq_empty_of_size_eq_zero (by (first | lia | omega))
    rw [this] at h
    simpa using h
  | succ n =>
    have h0 : x.cps[0]? = some (x.cps[0]'(by (first | lia | omega))) := Array.getElem?_eq_getElem (by (first | lia | omega))
    have hb : _codecs.asciiCodec.bad (x.cps[0]'(by (first | lia | omega))) = false := by
      have := hx (x.cps[0]'(by (first | lia | omega))) (by simp)
      simp [_codecs.asciiCodec]; (first | lia | omega)
    have h1 : x.cps[x.cps.size]? = none := Array.getElem?_eq_none (Nat.le_refl _)
    refine two_turns (b1 := ?b) ?_ ?_ ?_
    rotate_left
    · dsimp only
      rw [if_neg (by simp), h0]
      simp only [hb, Bool.not_false, if_true, show x.cps.extract 0 = x.cps by simp, not_bad hx, Option.getD_none, Nat.zero_add, Array.extract_size, enc_bytes]
      rfl
    · dsimp only
      rw [if_neg (by rw [Array.size_map, show sizeLine = 16777216 from rfl]; (first | lia | omega)), h1]
    · exact wpAny_pure h
theorem encode_tree2 (x : Str) (t u : Tok) : Builtin.«str.encode» ⟨[.str x t, .str (Str.ofString "ascii") u], []⟩ = (do ret (← _codecs.encodeRoad "str.encode" (.str x t) x (Str.ofString "ascii") none)) := by
  first | rfl | kernel_rfl
theorem encodeRoad_ascii (id : String) (self : Value) (x : Str) : _codecs.encodeRoad id self x (Str.ofString "ascii") none = (do mkBytes (← _codecs.encodeNarrow id _codecs.asciiCodec none self x)) := by
  first | rfl | kernel_rfl
theorem encode_K {x : Str} {t u : Tok} {Q : Value → Shared → Prop} (hx : ∀ c ∈ x.cps.toList, c < 128) (hz : x.length ≤ 100000) (h : ∀ t' k, Q (.bytes (x.cps.map (·.toUInt8)) t') { s with toks := k }) :
    wpAny (model prog w) A (call (.builtin "str.encode") [.str x t, .str (Str.ofString "ascii") u]) Q E s := by
  refine wpAny_call_entry PySem.F.slot_str_encode (typeIs_str _ _ _) PySem.F.entry_str_encode ?_ (PySem.F.args_str_encode_2 _ _)
  rw [encode_tree2, encodeRoad_ascii]
  refine wpAny_bind (wpAny_bind (encodeNarrow_ascii hx hz ?_))
  refine wpAny_mkBytes (wpAny_pure ⟨_, rfl, h _ _⟩) ?_
  rw [Array.size_map, show sizeLine = 16777216 from rfl]
  have : x.length = x.cps.size := rfl
  (first | lia | omega)
theorem encode_method {M : Model} {x : Str} {t : Tok} {pl : Sem Bool} {Q : Value × List Value → Shared → Prop} (h : Q (.builtin "str.encode", [.str x t]) s) : wpAny M A (getMethod (.str x t) (Str.ofString "encode") pl) Q E s :=
  getMethod_builtin (typeIs_str _ _ _) PySem.F.plainAttrs_str PySem.F.slot_str_encode PySem.F.type_str_encode (fun _ e => nomatch e) h
end
end Mine
end
section
open PySem PySem.W PyProof.Rows PySem.Calls PySem.Spec
set_option maxRecDepth 100000
set_option maxHeartbeats 1000000
set_option pp.deepTerms false
set_option pp.maxSteps 20000
namespace Mine
open PySem.Builtin
theorem decode_tree (c : UInt8) (cs : List UInt8) (t u : Tok) : Builtin.«bytes.decode» ⟨[.bytes (c :: cs).toArray t, .str (Str.ofString "ascii") u], []⟩ = (mkStr (Str.ofString "utf-8") >>= fun _ => mkStr (Str.ofString "ascii") >>= fun e => mkStr (Str.ofString "bytes.decode") >>= fun d =>
    call (.builtin "_codecs.decode.text") [.bytes (c :: cs).toArray t, e, .none, d] >>= fun v => ret v) := by
  kernel_rfl
theorem droad_eq {id : String} {b : Array UInt8} : _codecs.decodeRoad id b (Str.ofString "ascii") none [] = (_codecs.runDecoder id _codecs.asciiDecoder none true b 0 [] >>= fun r => mkStr ⟨r.1⟩) := by kernel_rfl
theorem forIn_steps {β : Type} (f : Nat → β → Sem (ForInStep β)) (g : Nat → β) : ∀ m k, (∀ i x, k ≤ i → i < k + m → f x (g i) = pure (.yield (g (i + 1)))) → forIn (List.range' k m 1) (g k) f = pure (g (k + m))
  | 0, k, _ => by rw [List.range'_zero, List.forIn_nil]; rfl
  | m + 1, k, h => by
    rw [List.range'_succ, List.forIn_cons, h k k (Nat.le_refl _) (by (first | lia | omega))]
    show forIn (List.range' (k + 1) m 1) (g (k + 1)) f = _
    rw [forIn_steps f g m (k + 1) fun i x h1 h2 => h i x (by (first | lia | omega)) (by (first | lia | omega))]
    rw [show k + 1 + m = k + (m + 1) by (first | lia | omega)]
theorem forIn_from {β : Type} {f : Nat → β → Sem (ForInStep β)} {b0 : β} (g : Nat → β) {m : Nat} (h0 : b0 = g 0) (h : ∀ i x, 0 ≤ i → i < 0 + m → f x (g i) = pure (.yield (g (i + 1)))) : forIn (List.range' 0 m 1) b0 f = pure (g (0 + m)) := by
  subst h0; exact forIn_steps f g m 0 h
section
variable {prog : Program} {w : World} {A : Around} {E : Value → Shared → Prop} {s : Shared}
theorem run_ascii {id : String} {b : Array UInt8} {Q : Array Nat × Nat → Shared → Prop} (hb : ∀ c ∈ b.toList, c.toNat < 128) (hz : b.size ≤ 100000) (h : Q (b.map (·.toNat), b.size) s) :
    wpAny (model prog w) A (_codecs.runDecoder id _codecs.asciiDecoder none true b 0 []) Q E s := by
  unfold _codecs.runDecoder
  dsimp only
  rw [Std.Legacy.Range.forIn_eq_forIn_range']
  have hn : [:b.size].size = b.size := by simp [Std.Legacy.Range.size]
  rw [hn]
  have hsl : sizeLine = 16777216 := rfl
  refine wpAny_bind (wpAny_of_eq (forIn_from (fun i => (i, (b.extract 0 i).map (·.toNat), ({} : _codecs.Faults))) (by simp) fun i x _ hi => ?_) ?_)
  · have hi' : i < b.size := by (first | lia | omega)
    have hc : (b.getD i 0).toNat < 128 := by
      have e : b.getD i 0 = b[i] := by simp [Array.getD, hi']
      rw [e]
      exact hb _ (by simp)
    have hf : _codecs.asciiDecoder.find true b i = .text [(b.getD i 0).toNat] (i + 1) := by
      show (if (b.getD i 0).toNat < 128 then _ else _) = _
      rw [if_pos hc]; rfl
    dsimp only
    rw [if_neg (by simp; (first | lia | omega)), if_neg (by (first | lia | omega)), hf]
    dsimp only
    congr 4
    have e : b.getD i 0 = b[i] := by simp [Array.getD, hi']
    rw [e]
    apply Array.ext
    · simp; (first | lia | omega)
    · intro j h1 h2
      simp only [Array.size_append, Array.size_map, Array.size_extract, List.size_toArray, List.length_cons, List.length_nil] at h1
      by_cases hj : j < i
      · rw [Array.getElem_append_left (by simp; (first | lia | omega))]; simp
      · have : j = i := by (first | lia | omega)
        subst this
        rw [Array.getElem_append_right (by simp; (first | lia | omega))]; simp
  · dsimp only
    rw [Nat.zero_add, Array.extract_size]
    exact wpAny_pure h
end
section
variable {prog : Program} {w : World} {A : Around} {E : Value → Shared → Prop} {s : Shared}
theorem decode_text {b : Array UInt8} {t t1 t2 : Tok} {d : Str} {Q : Value → Shared → Prop} (hb : ∀ c ∈ b.toList, c.toNat < 128) (hz : b.size ≤ 100000) (h : ∀ t' k, Q (.str ⟨b.map (·.toNat)⟩ t') { s with toks := k }) :
    wpAny (model prog w) A (call (.builtin "_codecs.decode.text") [.bytes b t, .str (Str.ofString "ascii") t1, .none, .str d t2]) Q E s := by
  refine call_function_entry KBd.kind_text KBd.plain_text KBd.entry_text (KBd.args_text _ _ _ _) ?_
  show wpAny _ _ (Bytes.bytesLike _ (.bytes b t) >>= fun r => _) _ _ s
  refine wpAny_bind (wpAny_of_eq KBd.like_eq ?_)
  refine wpAny_bind (wpAny_of_eq KBd.held_eq ?_)
  show wpAny _ _ (_codecs.decodeRoad _ b (PySem.Str.ofString "ascii") none [] >>= fun v => _) _ _ s
  rw [droad_eq]
  refine wpAny_bind (wpAny_bind (run_ascii hb hz ?_))
  refine wpAny_mkStr (wpAny_pure ⟨_, rfl, h _ _⟩) ?_
  show (b.map (·.toNat)).size ≤ sizeLine
  rw [Array.size_map, show sizeLine = 16777216 from rfl]; (first | lia | omega)
theorem decode_K {c : UInt8} {cs : List UInt8} {t u : Tok} {Q : Value → Shared → Prop} (hb : ∀ x ∈ c :: cs, x.toNat < 128) (hz : (c :: cs).length ≤ 100000) (h : ∀ t' k, Q (.str ⟨((c :: cs).toArray).map (·.toNat)⟩ t') { s with toks := k }) :
    wpAny (model prog w) A (call (.builtin "bytes.decode") [.bytes (c :: cs).toArray t, .str (Str.ofString "ascii") u]) Q E s := by
  refine wpAny_call_entry FB.slot_bytes_decode (typeIs_bytes _ _ _) FB.entry_bytes_decode ?_ (by unfold argsOk; kernel_rfl)
  rw [decode_tree]
  refine wpAny_bind (wpAny_mkStr ?_ (by decide))
  refine wpAny_bind (wpAny_mkStr ?_ (by decide))
  refine wpAny_bind (wpAny_mkStr ?_ (by decide))
  refine wpAny_bind (decode_text (by simpa using hb) (by simpa using hz) fun t' k => wpAny_pure ⟨_, rfl, h t' k⟩)
end
end Mine
end
section
open PySem PySem.W PyProof.Rows PySem.Calls PySem.Spec
set_option maxRecDepth 100000
set_option maxHeartbeats 1000000
set_option pp.deepTerms false
set_option pp.maxSteps 20000
namespace Mine
noncomputable def intValues (l : List (Int × Tok)) : List Value := l.map fun p => .int p.1 p.2
/- between the turns of the law's loop over the tokens -/
structure JT (g : Heap) (led : List (Addr × Obj)) (lm ls : Addr) (gn : Array GenState) (d : Drawn) (os : OsState) (st : List Int × List Str) (s : Shared) : Prop where
  base : ∀ c o, g.get? c = some o → s.heap.get? c = some o
  led : ∀ p ∈ led, s.heap.get? p.1 = some p.2
  marks : ∃ mv n, s.heap.get? lm = some (listOf (intValues mv).toArray n) ∧ mv.map (·.1) = st.1
  seen : ∃ sv n, s.heap.get? ls = some (listOf (strValues sv).toArray n) ∧ sv.map (·.1) = st.2
  g : s.gens = gn
  d : s.drawn = d
  os : s.os = os
theorem JT.keep {g : Heap} {L : Addr} {wr : List Addr} {led : List (Addr × Obj)} {lm ls : Addr} {gn : Array GenState} {d : Drawn} {os : OsState} {st : List Int × List Str} {s : Shared} (hg : ∀ c ∈ L :: wr, g.get? c = none) (hled : ∀ p ∈ led, p.1 ∉ L :: wr) (h1 : lm ∉ L :: wr) (h2 : ls ∉ L :: wr)
    {h' : Heap} {tk : Nat} (J : JT g led lm ls gn d os st s) (hk : ∀ c o, c ∉ L :: wr → s.heap.get? c = some o → h'.get? c = some o) : JT g led lm ls gn d os st { s with heap := h', toks := tk } where
  base := fun c o e => hk c o (fun hm => by rw [hg c hm] at e; cases e) (J.base c o e)
  led := fun p hp => hk _ _ (hled p hp) (J.led p hp)
  marks := let ⟨mv, n, a, b⟩ := J.marks; ⟨mv, n, hk _ _ h1 a, b⟩
  seen := let ⟨mv, n, a, b⟩ := J.seen; ⟨mv, n, hk _ _ h2 a, b⟩
  g := J.g
  d := J.d
  os := J.os
theorem news3 {g h h' : Heap} {L : Addr} {news : List (Addr × Obj)} (N : News g L h news) (jl : ∀ p ∈ news, h'.get? p.1 = some p.2) {a b c : Addr × Obj} (ha : h'.get? a.1 = some a.2 ∧ a.1 ≠ L ∧ g.get? a.1 = none) (hb : h'.get? b.1 = some b.2 ∧ b.1 ≠ L ∧ g.get? b.1 = none) (hc : h'.get? c.1 = some c.2 ∧ c.1 ≠ L ∧ g.get? c.1 = none) : News g L h' (a :: b :: c :: news) :=
  fa_cons ha (fa_cons hb (fa_cons hc fun p hp => ⟨jl p hp, (N p hp).2⟩))
noncomputable abbrev JTof {g h : Heap} {L : Addr} {news : List (Addr × Obj)} (_N : News g L h news) (lm ls : Addr) (gn : Array GenState) (d : Drawn) (os : OsState) (toks : List (List UInt8)) : Nat → Shared → Prop := fun i s => JT g news lm ls gn d os ((toks.take i).foldl readTok ([], [])) s
end Mine
end
section
open PySem
set_option maxHeartbeats 1000000
namespace Mine
/- rows as a folding at a width leaves them -/
noncomputable def Val (W : Int) : List (List Pr) → Prop
  | [] => True
  | r :: rs => (r ≠ [] ∧ (1 < r.length → rowSz r ≤ W)) ∧ (∀ r' ∈ rs.head?, ∀ i ∈ r'.head?, W < rowSz r + prSz i) ∧ Val W rs
theorem rowSz_snoc (c : List Pr) (i : Pr) : rowSz (c ++ [i]) = rowSz c + prSz i := by simp [rowSz]
theorem rowSz_append (c d : List Pr) : rowSz (c ++ d) = rowSz c + rowSz d := by simp [rowSz]
theorem prSz_nonneg (i : Pr) : 0 ≤ prSz i := by unfold prSz; (first | lia | omega)
theorem rowSz_nonneg : ∀ c : List Pr, 0 ≤ rowSz c
  | [] => by simp [rowSz]
  | i :: r => by
    have := rowSz_nonneg r
    have := prSz_nonneg i
    simp only [rowSz, List.map_cons, List.sum_cons] at *
    (first | lia | omega)
theorem Val.grow {W : Int} {c : List Pr} {i : Pr} (hc : c ≠ []) (h : rowSz c + prSz i ≤ W) : ∀ a : List (List Pr), Val W (a ++ [c]) → Val W (a ++ [c ++ [i]])
  | [], _ => ⟨⟨by simp, fun _ => by rw [rowSz_snoc]; exact h⟩, fun _ e => (nomatch e), trivial⟩
  | x :: a, hv => by
    obtain ⟨h1, h2, h3⟩ := hv
    refine ⟨h1, fun r' hr' j hj => ?_, Val.grow hc h a h3⟩
    cases a with
    | nil =>
      obtain rfl := Option.some.inj hr'
      refine h2 c rfl j ?_
      cases c with
      | nil => exact absurd rfl hc
      | cons y c => exact hj
    | cons y a => exact h2 r' hr' j hj
theorem Val.new {W : Int} {c : List Pr} {i : Pr} (h : W < rowSz c + prSz i) : ∀ a : List (List Pr), Val W (a ++ [c]) → Val W (a ++ [c] ++ [[i]])
  | [], hv => ⟨hv.1, fun r' hr' j hj => by
      obtain rfl := Option.some.inj hr'
      obtain rfl := Option.some.inj hj
      exact h, ⟨⟨by simp, fun h => absurd h (by simp)⟩, fun _ e => (nomatch e), trivial⟩⟩
  | x :: a, hv => by
    obtain ⟨h1, h2, h3⟩ := hv
    refine ⟨h1, fun r' hr' j hj => ?_, Val.new h a h3⟩
    cases a with
    | nil => exact h2 r' hr' j hj
    | cons y a => exact h2 r' hr' j hj
theorem eats_val {W : Int} : ∀ (l : List Pr) (st : List (List Pr) × List Pr), st.2 ≠ [] → Val W (st.1 ++ [st.2]) → Val W ((l.foldl (eat W) st).1 ++ [(l.foldl (eat W) st).2])
  | [], _, _, h => h
  | i :: r, st, h0, h => by
    rw [List.foldl_cons]
    refine eats_val r _ ?_ ?_
    · unfold eat; split <;> simp
    · unfold eat
      split
      · rename_i hc
        exact Val.grow h0 (hc.resolve_right h0) _ h
      · rename_i hc
        exact Val.new (by have := not_or.mp hc; (first | lia | omega)) _ h
theorem rowsOf_val (W : Int) {l : List Pr} (hl : l ≠ []) : Val W (rowsOf W l) := by
  cases l with
  | nil => exact absurd rfl hl
  | cons i r =>
    have e : eat W ([], []) i = ([], [i]) := if_pos (.inr rfl)
    unfold rowsOf
    rw [List.foldl_cons, e]
    exact eats_val r _ (by simp) ⟨⟨by simp, fun h => absurd h (by simp)⟩, fun _ e => (nomatch e), trivial⟩
theorem eats_row {W : Int} : ∀ (r : List Pr) (dn : List (List Pr)) (c : List Pr), (r = [] ∨ rowSz (c ++ r) ≤ W) → r.foldl (eat W) (dn, c) = (dn, c ++ r)
  | [], dn, c, _ => by simp
  | i :: r, dn, c, h => by
    have h := h.resolve_left (by simp)
    have h1 := rowSz_nonneg r
    have e2 : rowSz (c ++ i :: r) = rowSz c + prSz i + rowSz r := by
      rw [rowSz_append]; simp only [rowSz, List.map_cons, List.sum_cons]; (first | lia | omega)
    have e : eat W (dn, c) i = (dn, c ++ [i]) := if_pos (.inl (by show rowSz c + prSz i ≤ W; (first | lia | omega)))
    rw [List.foldl_cons, e, eats_row r dn (c ++ [i]) (.inr (by simpa using h))]
    simp
theorem eats_rows {W : Int} : ∀ (rs : List (List Pr)) (dn : List (List Pr)) (c : List Pr), Val W (c :: rs) → (rs.flatten.foldl (eat W) (dn, c)).1 ++ [(rs.flatten.foldl (eat W) (dn, c)).2] = dn ++ c :: rs
  | [], dn, c, _ => rfl
  | r :: rs, dn, c, h => by
    obtain ⟨⟨h1, _⟩, h2, h3⟩ := h
    cases r with
    | nil => exact absurd rfl h3.1.1
    | cons i t =>
      have hi := h2 _ rfl i rfl
      have e : eat W (dn, c) i = (dn ++ [c], [i]) := if_neg (by simp only [not_or]; exact ⟨by show ¬ rowSz c + prSz i ≤ W; (first | lia | omega), h1⟩)
      rw [List.flatten_cons, List.cons_append, List.foldl_cons, List.foldl_append, e, eats_row t _ _ ?_, List.singleton_append, eats_rows rs _ _ h3]
      · simp
      · cases t with
        | nil => exact .inl rfl
        | cons j t => exact .inr (h3.1.2 (by simp))
theorem val_rowsOf {W : Int} {rows : List (List Pr)} (hr : rows ≠ []) (h : Val W rows) : rowsOf W rows.flatten = rows := by
  cases rows with
  | nil => exact absurd rfl hr
  | cons c rs =>
    cases c with
    | nil => exact absurd rfl h.1.1
    | cons i t =>
      have e : eat W ([], []) i = ([], [i]) := if_pos (.inr rfl)
      unfold rowsOf
      rw [List.flatten_cons, List.cons_append, List.foldl_cons, List.foldl_append, e, eats_row t _ _ ?_, List.singleton_append, eats_rows rs _ _ h]
      · rfl
      · cases t with
        | nil => exact .inl rfl
        | cons j t => exact .inr (h.1.2 (by simp))
/- the rows of two and more, their sizes; the rows with the next row's first -/
noncomputable def lows (rows : List (List Pr)) : List Int := rows.filterMap fun r => if 1 < r.length then some (rowSz r) else none
noncomputable def highs : List (List Pr) → List Int
  | [] => []
  | r :: rs => (match rs.head?.bind List.head? with | none => [] | some i => [rowSz r + prSz i]) ++ highs rs
theorem val_iff {W : Int} : ∀ rows : List (List Pr), (∀ r ∈ rows, r ≠ []) → (Val W rows ↔ (∀ x ∈ lows rows, x ≤ W) ∧ ∀ x ∈ highs rows, W < x)
  | [], _ => ⟨fun _ => ⟨fun _ h => (nomatch h), fun _ h => (nomatch h)⟩, fun _ => trivial⟩
  | r :: rs, h0 => by
    have ih := val_iff (W := W) rs fun r hr => h0 r (List.mem_cons_of_mem _ hr)
    have hr := h0 r (List.mem_cons_self ..)
    have e1 : lows (r :: rs) = (if 1 < r.length then [rowSz r] else []) ++ lows rs := by
      unfold lows; rw [List.filterMap_cons]; split <;> simp_all
    have e2 : highs (r :: rs) = (match rs.head?.bind List.head? with | none => [] | some i => [rowSz r + prSz i]) ++ highs rs := rfl
    unfold Val
    rw [ih, e1, e2]
    simp only [List.mem_append]
    constructor
    · rintro ⟨⟨_, a⟩, c, d, e⟩
      refine ⟨fun x hx => ?_, fun x hx => ?_⟩
      · rcases hx with hx | hx
        · split at hx
          · rw [List.mem_singleton.mp hx]; exact a (by assumption)
          · cases hx
        · exact d x hx
      · rcases hx with hx | hx
        · split at hx
          · cases hx
          · rename_i i hi
            rw [List.mem_singleton.mp hx]
            cases hh : rs.head? with
            | none => rw [hh] at hi; cases hi
            | some r' => rw [hh] at hi; exact c r' hh i hi
        · exact e x hx
    · rintro ⟨a, c⟩
      refine ⟨⟨hr, fun hl => a _ (.inl (by rw [if_pos hl]; exact List.mem_singleton.mpr rfl))⟩, fun r' hr' i hi => c _ (.inl ?_), fun x hx => a x (.inr hx), fun x hx => c x (.inr hx)⟩
      rw [show rs.head?.bind List.head? = some i by rw [Option.mem_def.mp hr']; exact hi]
      exact List.mem_singleton.mpr rfl
/- the least width and the one behind the greatest -/
noncomputable def lowR (rows : List (List Pr)) : Int := (lows rows).foldl max (-1000)
noncomputable def highR (rows : List (List Pr)) : Int := (highs rows).foldl min 1000
theorem foldl_max_le {l : List Int} : ∀ {a W : Int}, l.foldl max a ≤ W ↔ a ≤ W ∧ ∀ x ∈ l, x ≤ W := by
  induction l with
  | nil => intro a W; simp
  | cons y l ih =>
    intro a W
    rw [List.foldl_cons, ih, Int.max_le, and_assoc, List.forall_mem_cons]
theorem foldl_min_lt {l : List Int} : ∀ {a W : Int}, W < l.foldl min a ↔ W < a ∧ ∀ x ∈ l, W < x := by
  induction l with
  | nil => intro a W; simp
  | cons y l ih =>
    intro a W
    rw [List.foldl_cons, ih, Int.lt_min, and_assoc, List.forall_mem_cons]
theorem val_low_high {W : Int} {rows : List (List Pr)} (h : ∀ r ∈ rows, r ≠ []) (h1 : -1000 ≤ W) (h2 : W < 1000) : Val W rows ↔ lowR rows ≤ W ∧ W < highR rows := by
  rw [val_iff rows h]
  unfold lowR highR
  rw [foldl_max_le, foldl_min_lt]
  exact ⟨fun ⟨a, b⟩ => ⟨⟨h1, a⟩, h2, b⟩, fun ⟨⟨_, a⟩, _, b⟩ => ⟨a, b⟩⟩
section
variable {l : List Pr} {W V : Int}
theorem rowsOf_ne : rowsOf W l ≠ [] := by unfold rowsOf; simp
theorem rows_low_high (hl : l ≠ []) (h1 : -1000 ≤ W) (h2 : W < 1000) : lowR (rowsOf W l) ≤ W ∧ W < highR (rowsOf W l) := (val_low_high (rowsOf_full W hl) h1 h2).mp (rowsOf_val W hl)
/- the widths of one folding -/
theorem rows_same (hl : l ≠ []) (h1 : -1000 ≤ V) (h2 : V < 1000) (a : lowR (rowsOf W l) ≤ V) (b : V < highR (rowsOf W l)) : rowsOf V l = rowsOf W l := by
  have h := val_rowsOf rowsOf_ne ((val_low_high (rowsOf_full W hl) h1 h2).mpr ⟨a, b⟩)
  rwa [rowsOf_flat] at h
/- where one folding's widths begin the next one's end -/
theorem rows_next (hl : l ≠ []) (h1 : -1000 < lowR (rowsOf W l)) (h2 : W < 1000) (h3 : -1000 ≤ W) : highR (rowsOf (lowR (rowsOf W l) - 1) l) = lowR (rowsOf W l) := by
  have k1 := rows_low_high hl h3 h2
  have k2 := rows_low_high (W := lowR (rowsOf W l) - 1) hl (by (first | lia | omega)) (by (first | lia | omega))
  have e1 : rowsOf (lowR (rowsOf W l)) l = rowsOf W l := rows_same hl (by (first | lia | omega)) (by (first | lia | omega)) (Int.le_refl _) (by (first | lia | omega))
  by_cases h : highR (rowsOf (lowR (rowsOf W l) - 1) l) = lowR (rowsOf W l)
  · exact h
  · exfalso
    have e2 : rowsOf (lowR (rowsOf W l)) l = rowsOf (lowR (rowsOf W l) - 1) l := rows_same hl (by (first | lia | omega)) (by (first | lia | omega)) (by (first | lia | omega)) (by (first | lia | omega))
    rw [e1] at e2
    have := k2.1
    rw [← e2] at this
    (first | lia | omega)
theorem rows_first (hl : l ≠ []) (h : rowSz l ≤ 999) : highR (rowsOf 999 l) = 1000 := by
  have e : rowsOf 999 l = [l] := by
    have := val_rowsOf (W := 999) (rows := [l]) (by simp) ⟨⟨hl, fun _ => h⟩, fun _ e => (nomatch e), trivial⟩
    simpa using this
  rw [e]; rfl
end
/- what the law's ladder says of the widths above -/
structure Ladder (l : List Pr) (W : Int) (rungs : List (Int × List (List Pr))) : Prop where
  above : ∀ V, W < V → V ≤ 999 → ∃ lo, rungs.find? (fun p => decide (p.1 ≤ V)) = some (lo, rowsOf V l)
  below : ∀ p ∈ rungs, W < p.1
theorem Ladder.start (l : List Pr) : Ladder l 999 [] := ⟨fun V h1 h2 => by (first | lia | omega), fun _ h => (nomatch h)⟩
theorem Ladder.step {l : List Pr} {W : Int} {rungs : List (Int × List (List Pr))} (L : Ladder l W rungs) (hl : l ≠ []) (h0 : -1000 < W) (h1 : W < 1000) : Ladder l (lowR (rowsOf W l) - 1) (rungs ++ [(lowR (rowsOf W l), rowsOf W l)]) := by
  have k := rows_low_high hl (by (first | lia | omega)) h1
  have kl : -1000 ≤ lowR (rowsOf W l) := by
    have := (foldl_max_le (l := lows (rowsOf W l)) (a := -1000) (W := lowR (rowsOf W l))).mp (Int.le_refl _)
    exact this.1
  refine ⟨fun V h2 h3 => ?_, fun p hp => ?_⟩
  · rw [List.find?_append]
    by_cases hV : W < V
    · obtain ⟨lo, e⟩ := L.above V hV h3
      exact ⟨lo, by rw [e]; rfl⟩
    · have e : rungs.find? (fun p => decide (p.1 ≤ V)) = none := by
        rw [List.find?_eq_none]
        intro p hp
        have := L.below p hp
        simp; (first | lia | omega)
      have e2 : rowsOf V l = rowsOf W l := rows_same hl (by (first | lia | omega)) (by (first | lia | omega)) (by (first | lia | omega)) (by (first | lia | omega))
      refine ⟨lowR (rowsOf W l), ?_⟩
      rw [e, e2, Option.none_or, List.find?_cons_of_pos]
      simp; (first | lia | omega)
  · rcases List.mem_append.mp hp with hp | hp
    · have := L.below p hp; (first | lia | omega)
    · rw [List.mem_singleton.mp hp]; show lowR (rowsOf W l) - 1 < lowR (rowsOf W l); (first | lia | omega)
end Mine
end
section
open PySem PySem.W PyProof.Rows PySem.StrLaws
set_option maxHeartbeats 1000000
namespace Mine
open PySem.Builtin.Str
/- the signs of a text -/
noncomputable abbrev cs (x : Str) : List Nat := x.cps.toList
theorem cs_ext {a b : Str} (h : cs a = cs b) : a = b := Str.ext' (Array.toList_inj.mp h)
theorem cs_app (a b : Str) : cs (a ++ b) = cs a ++ cs b := by simp [cs, Str.cps_append]
theorem cs_len (a : Str) : (cs a).length = a.length := by simp [cs, Str.length]
/- several lists, one between two -/
noncomputable def glue (sep : List Nat) : List (List Nat) → List Nat
  | [] => []
  | [x] => x
  | x :: r => x ++ sep ++ glue sep r
theorem cs_join (sep : Str) : ∀ l : List Str, cs (Txt.join sep l) = glue (cs sep) (l.map cs) := by
  intro l
  show cs (glued sep l) = _
  rw [StrLaws.glued_eq_join]
  induction l with
  | nil => rfl
  | cons x r ih =>
    cases r with
    | nil => rfl
    | cons y r =>
      show cs (x ++ sep ++ Str.join sep (y :: r)) = cs x ++ cs sep ++ glue (cs sep) ((y :: r).map cs)
      rw [cs_app, cs_app, ih]
theorem glue_nil : ∀ l : List (List Nat), glue [] l = l.flatten
  | [] => rfl
  | [x] => by simp [glue]
  | x :: y :: r => by
    show x ++ [] ++ glue [] (y :: r) = _
    rw [glue_nil (y :: r)]; simp
theorem cs_rowTx (r : List Pr) : cs (rowTx r) = (r.map fun i => cs i.1 ++ cs i.2).flatten := by
  unfold rowTx
  have e0 : cs (Str.ofString "") = [] := by decide +kernel
  rw [cs_join, e0, glue_nil, List.map_map]
  congr 2
  funext i
  show cs (Txt.join (Str.ofString "") [i.1, i.2]) = _
  rw [cs_join, e0, glue_nil]; simp
/- cut at the line ends -/
noncomputable def cutNL : List Nat → List (List Nat)
  | [] => [[]]
  | c :: l => if c = 10 then [] :: cutNL l else match cutNL l with
    | h :: t => (c :: h) :: t
    | [] => [[c]]
theorem cutNL_one : ∀ {a : List Nat}, 10 ∉ a → cutNL a = [a]
  | [], _ => rfl
  | c :: a, h => by
    have h1 : c ≠ 10 := fun e => h (by simp [e])
    have h2 : 10 ∉ a := fun e => h (List.mem_cons_of_mem _ e)
    rw [cutNL, if_neg h1, cutNL_one h2]
theorem cutNL_more {b : List Nat} : ∀ {a : List Nat}, 10 ∉ a → cutNL (a ++ 10 :: b) = a :: cutNL b
  | [], _ => by rw [List.nil_append, cutNL, if_pos rfl]
  | c :: a, h => by
    have h1 : c ≠ 10 := fun e => h (by simp [e])
    have h2 : 10 ∉ a := fun e => h (List.mem_cons_of_mem _ e)
    rw [List.cons_append, cutNL, if_neg h1, cutNL_more h2]
theorem cutNL_glue : ∀ {l : List (List Nat)}, l ≠ [] → (∀ x ∈ l, 10 ∉ x) → cutNL (glue [10] l) = l
  | [], h, _ => absurd rfl h
  | [x], _, h => cutNL_one (h x (by simp))
  | x :: y :: r, _, h => by
    show cutNL (x ++ [10] ++ glue [10] (y :: r)) = _
    rw [List.append_assoc, List.singleton_append, cutNL_more (h x (by simp)), cutNL_glue (by simp) fun z hz => h z (List.mem_cons_of_mem _ hz)]
/- the places of the line ends up to a place -/
noncomputable def CutsTo (x : List Nat) (k : Nat) : Nat → List Nat → Prop
  | a, [] => ∀ i, a ≤ i → i < k → x[i]? ≠ some 10
  | a, c :: r => a ≤ c ∧ c < k ∧ x[c]? = some 10 ∧ (∀ i, a ≤ i → i < c → x[i]? ≠ some 10) ∧ CutsTo x k (c + 1) r
theorem CutsTo.more {x : List Nat} {k : Nat} (h : x[k]? ≠ some 10) : ∀ {a : Nat} {l : List Nat}, CutsTo x k a l → CutsTo x (k + 1) a l
  | a, [], H => fun i h1 h2 => by
    by_cases e : i = k
    · rw [e]; exact h
    · exact H i h1 (by (first | lia | omega))
  | a, c :: r, ⟨h1, h2, h3, h4, h5⟩ => ⟨h1, by (first | lia | omega), h3, h4, h5.more h⟩
theorem CutsTo.snoc {x : List Nat} {k : Nat} (h : x[k]? = some 10) : ∀ {a : Nat} {l : List Nat}, a ≤ k → CutsTo x k a l → CutsTo x (k + 1) a (l ++ [k])
  | a, [], ha, H => ⟨ha, by (first | lia | omega), h, H, fun i h1 h2 => by (first | lia | omega)⟩
  | a, c :: r, _, ⟨h1, h2, h3, h4, h5⟩ => ⟨h1, by (first | lia | omega), h3, h4, h5.snoc h (by (first | lia | omega))⟩
theorem CutsTo.len {x : List Nat} {k : Nat} : ∀ {a : Nat} {l : List Nat}, a ≤ k → CutsTo x k a l → l.length + a ≤ k
  | a, [], ha, _ => by simpa using ha
  | a, c :: r, _, ⟨h1, h2, _, _, h5⟩ => by
    have := h5.len (by (first | lia | omega))
    simp only [List.length_cons]; (first | lia | omega)
theorem sub_nl (x : Str) (i : Nat) (hi : i < x.length) : subAt x (Str.ofString "\n") i = true ↔ (cs x)[i]? = some 10 := by
  have e : cs (Str.ofString "\n") = [10] := by decide +kernel
  have e2 : (Str.ofString "\n").length = 1 := by decide +kernel
  rw [subAt_eq, e2]
  show ((List.drop i (cs x)).take 1 == cs (Str.ofString "\n")) = true ↔ _
  rw [e, beq_iff_eq]
  have hl : i < (cs x).length := by rw [cs_len]; exact hi
  rw [List.drop_eq_getElem_cons hl, List.take_succ_cons, List.take_zero, List.getElem?_eq_getElem hl]
  simp
theorem occ_cuts (x : Str) : ∀ (m k : Nat) (st : Array Nat × Nat), k + m = x.length → st.2 ≤ k → CutsTo (cs x) k 0 st.1.toList →
    CutsTo (cs x) x.length 0 (forIn (List.range' k (m + 1)) st (occBody x (Str.ofString "\n") x.length (x.length + 1))).run.fst.toList
  | 0, k, st, e, hf, h => by
    have e2 : (Str.ofString "\n").length = 1 := by decide +kernel
    rw [List.range'_succ, List.range'_zero, List.forIn_cons]
    unfold occBody
    rw [if_neg (by rw [e2]; (first | lia | omega))]
    show CutsTo (cs x) x.length 0 st.1.toList
    have : k = x.length := by (first | lia | omega)
    rwa [this] at h
  | m + 1, k, st, e, hf, h => by
    have e2 : (Str.ofString "\n").length = 1 := by decide +kernel
    have hl := h.len (Nat.zero_le _)
    rw [List.range'_succ, List.forIn_cons]
    by_cases hc : (cs x)[k]? = some 10
    · have hs := (sub_nl x k (by (first | lia | omega))).mpr hc
      have eb : occBody x (Str.ofString "\n") x.length (x.length + 1) k st = pure (ForInStep.yield (st.fst.push k, k + 1)) := by
        unfold occBody
        rw [if_pos ⟨⟨⟨by simp at hl; (first | lia | omega), hf⟩, by rw [e2]; (first | lia | omega)⟩, hs⟩, e2]
      rw [eb]
      refine occ_cuts x m (k + 1) (st.1.push k, k + 1) (by (first | lia | omega)) (Nat.le_refl _) ?_
      rw [Array.toList_push]
      exact h.snoc hc (Nat.zero_le _)
    · have eb : occBody x (Str.ofString "\n") x.length (x.length + 1) k st = pure (ForInStep.yield (st.fst, st.snd)) := by
        unfold occBody
        rw [if_neg fun hh => hc ((sub_nl x k (by (first | lia | omega))).mp hh.2)]
      rw [eb]
      exact occ_cuts x m (k + 1) (st.1, st.2) (by (first | lia | omega)) (by show st.2 ≤ k + 1; (first | lia | omega)) (h.more hc)
theorem cuts_parts (x : Str) : ∀ (l : List Nat) (a : Nat), a ≤ x.length → CutsTo (cs x) x.length a l → (partsFrom x 1 a l).map cs = cutNL ((cs x).drop a)
  | [], a, ha, h => by
    show [cs (strSub x a x.length)] = _
    have e : cs (strSub x a x.length) = (cs x).drop a := by
      rw [cs, strSub_toList]
      exact List.take_of_length_le (by rw [List.length_drop, cs_len]; (first | lia | omega))
    rw [e, cutNL_one]
    intro hm
    obtain ⟨i, hi, e⟩ := List.mem_iff_getElem.mp hm
    rw [List.length_drop, cs_len] at hi
    refine h (a + i) (by (first | lia | omega)) (by (first | lia | omega)) ?_
    rw [List.getElem_drop] at e
    rw [List.getElem?_eq_getElem (by rw [cs_len]; (first | lia | omega)), e]
  | c :: r, a, ha, ⟨h1, h2, h3, h4, h5⟩ => by
    show cs (strSub x a c) :: (partsFrom x 1 (c + 1) r).map cs = _
    rw [cuts_parts x r (c + 1) (by (first | lia | omega)) h5, cs, strSub_toList]
    have hl : c < (cs x).length := by rw [cs_len]; exact h2
    have e : (cs x).drop a = ((cs x).drop a).take (c - a) ++ 10 :: (cs x).drop (c + 1) := by
      have e1 : (cs x)[c] = 10 := by rw [List.getElem?_eq_getElem hl] at h3; exact Option.some.inj h3
      have e2 : ((cs x).drop a).drop (c - a) = 10 :: (cs x).drop (c + 1) := by
        rw [List.drop_drop, show a + (c - a) = c by (first | lia | omega), List.drop_eq_getElem_cons hl, e1]
      rw [← e2, List.take_append_drop]
    conv => rhs; rw [e]
    rw [cutNL_more]
    intro hm
    obtain ⟨i, hi, e⟩ := List.mem_iff_getElem.mp hm
    rw [List.length_take, List.length_drop, cs_len] at hi
    refine h4 (a + i) (by (first | lia | omega)) (by (first | lia | omega)) ?_
    rw [List.getElem_take, List.getElem_drop] at e
    rw [List.getElem?_eq_getElem (by rw [cs_len]; (first | lia | omega)), e]
theorem split_nl (x : Str) : (Txt.split x (Str.ofString "\n")).map cs = cutNL (cs x) := by
  have e2 : (Str.ofString "\n").length = 1 := by decide +kernel
  have k : CutsTo (cs x) x.length 0 (occurrences x (Str.ofString "\n") 0 x.length (x.length + 1)) := by
    rw [occ_eq]
    exact occ_cuts x x.length 0 (#[], 0) (by (first | lia | omega)) (Nat.le_refl _) (fun i _ h => absurd h (Nat.not_lt_zero _))
  have hp := cuts_parts x _ 0 (Nat.zero_le _) k
  rw [List.drop_zero] at hp
  unfold Txt.split
  split
  · rename_i h
    rw [Bool.or_eq_true, decide_eq_true_eq, decide_eq_true_eq] at h
    have hk : ¬ Builtin.Str.strKind x < Builtin.Str.strKind (Str.ofString "\n") := by
      rw [show Builtin.Str.strKind (Str.ofString "\n") = 1 by decide +kernel]
      unfold Builtin.Str.strKind
      split <;> (try split) <;> (first | lia | omega)
    have h := h.resolve_right hk
    have : x.cps.toList = [] := by
      have := cs_len x
      exact List.eq_nil_of_length_eq_zero (by show (cs x).length = 0; (first | lia | omega))
    show [cs x] = _
    rw [show cs x = [] from this]; rfl
  · split
    · rename_i h
      rw [List.isEmpty_iff.mp h] at hp
      have : strSub x 0 x.length = x := sub_whole x
      rw [show partsFrom x 1 0 [] = [strSub x 0 x.length] from rfl, this] at hp
      exact hp
    · rw [partsBetween_eq, e2]; exact hp
theorem cs_map_inj {a b : List Str} (h : a.map cs = b.map cs) : a = b := by
  induction a generalizing b with
  | nil => cases b with
    | nil => rfl
    | cons y b => cases h
  | cons x a ih => cases b with
    | nil => cases h
    | cons y b =>
      simp only [List.map_cons, List.cons.injEq] at h
      rw [cs_ext h.1, ih h.2]
/- without what stands behind -/
theorem cs_rstrip (x : Str) : cs (Txt.rstrip x) = ((cs x).reverse.dropWhile Unicode.isSpace).reverse := by
  show cs (Txt.stripBy Unicode.isSpace false true x) = _
  rw [PyProof.Rows.stripBy_eq, cs, strSub_toList]
  have e : stripLo Unicode.isSpace false x = 0 := rfl
  have e2 : stripHi Unicode.isSpace true x 0 = x.length - ((cs x).reverse.takeWhile Unicode.isSpace).length := by
    unfold stripHi; rw [if_pos rfl, List.drop_zero]
  rw [e, e2, List.drop_zero, Nat.sub_zero, ← cs_len x]
  generalize hx : cs x = l
  have h : l.reverse.dropWhile Unicode.isSpace = l.reverse.drop (l.reverse.takeWhile Unicode.isSpace).length := by
    have := List.takeWhile_append_dropWhile (p := Unicode.isSpace) (l := l.reverse)
    conv => rhs; rw [← this]
    rw [List.drop_append_of_le_length (by
      have h1 := congrArg List.length this
      have h2 : (List.takeWhile Unicode.isSpace l.reverse).length = (List.takeWhile Unicode.isSpace (List.takeWhile Unicode.isSpace l.reverse ++ List.dropWhile Unicode.isSpace l.reverse)).length := by rw [this]
      (first | lia | omega))]
    simp [this]
  rw [h, List.drop_reverse, List.reverse_reverse]
  show List.take _ (cs x) = _
  rw [hx]
end Mine
end
section
open PySem PySem.W PyProof.Rows PySem.StrLaws
set_option maxHeartbeats 1000000
namespace Mine
noncomputable def wordCh (c : Nat) : Prop := c = 92 ∨ c = 40 ∨ c = 35 ∨ c = 36 ∨ c = 97 ∨ c = 98 ∨ c = 99 ∨ c = 100 ∨ c = 101
theorem wordCh.noSpace {c : Nat} (h : wordCh c) : Unicode.isSpace c = false := by
  rcases h with h | h | h | h | h | h | h | h | h <;> subst h <;> decide +kernel
theorem wordCh.bd {c : Nat} (h : wordCh c) : 32 < c ∧ c < 128 ∧ c ≠ 41 ∧ c ≠ 70 := by
  rcases h with h | h | h | h | h | h | h | h | h <;> subst h <;> decide
/- a lead of blanks, a word of its signs -/
structure ItOk (i : Pr) : Prop where
  lead : ∀ c ∈ cs i.1, c = 32
  word : ∀ c ∈ cs i.2, wordCh c
  letter : ∃ c ∈ cs i.2, 97 ≤ c
theorem ItOk.ne {i : Pr} (h : ItOk i) : cs i.2 ≠ [] := let ⟨_, a, _⟩ := h.letter; List.ne_nil_of_mem a
noncomputable abbrev RowOk (r : List Pr) : Prop := r ≠ [] ∧ ∀ i ∈ r, ItOk i
theorem row_chars {r : List Pr} (h : ∀ i ∈ r, ItOk i) : ∀ c ∈ cs (rowTx r), c = 32 ∨ wordCh c := by
  intro c hc
  rw [cs_rowTx] at hc
  obtain ⟨l, hl, hc⟩ := List.mem_flatten.mp hc
  obtain ⟨i, hi, rfl⟩ := List.mem_map.mp hl
  exact (List.mem_append.mp hc).imp ((h i hi).lead c) ((h i hi).word c)
theorem row_last {r : List Pr} (h : RowOk r) : ∃ pre c, cs (rowTx r) = pre ++ [c] ∧ wordCh c := by
  obtain ⟨h0, h⟩ := h
  obtain ⟨r, i, rfl⟩ : ∃ r' i, r = r' ++ [i] := ⟨r.dropLast, r.getLast h0, (List.dropLast_concat_getLast h0).symm⟩
  have hi := h i (by simp)
  obtain ⟨p, c, e⟩ : ∃ p c, cs i.2 = p ++ [c] := ⟨_, _, (List.dropLast_concat_getLast hi.ne).symm⟩
  refine ⟨(r.map fun i => cs i.1 ++ cs i.2).flatten ++ (cs i.1 ++ p), c, ?_, hi.word c (by rw [e]; simp)⟩
  rw [cs_rowTx, List.map_append, List.flatten_append]
  simp only [List.map_cons, List.map_nil, List.flatten_cons, List.flatten_nil, List.append_nil, e, List.append_assoc]
theorem row_no_space {r : List Pr} (h : RowOk r) : Txt.isspace (rowTx r) = false := by
  obtain ⟨p, c, e, hc⟩ := row_last h
  unfold Txt.isspace
  rw [Bool.and_eq_false_iff]
  right
  rw [← Array.all_toList, show (rowTx r).cps.toList = p ++ [c] from e, List.all_append]
  simp [hc.noSpace]
/- a row's note -/
noncomputable def noteOf (r : List Pr) : Str := Str.ofString "# " ++ rowTx r
theorem cs_note (r : List Pr) : cs (noteOf r) = 35 :: 32 :: cs (rowTx r) := by
  unfold noteOf
  rw [cs_app, show cs (Str.ofString "# ") = [35, 32] by decide +kernel]; rfl
theorem comment_row {r : List Pr} (h : RowOk r) {x : Str} (k : Nat) (hx : cs x = cs (rowTx r) ++ List.replicate k 32) : comment x = noteOf r := by
  obtain ⟨p, c, e, hc⟩ := row_last h
  have e1 : Txt.rstrip x = rowTx r := by
    apply cs_ext
    rw [cs_rstrip, hx, e, List.reverse_append, List.reverse_append, List.reverse_replicate, List.reverse_singleton, List.singleton_append]
    have : ∀ k, List.dropWhile Unicode.isSpace (List.replicate k 32 ++ c :: p.reverse) = c :: p.reverse := by
      intro k
      induction k with
      | zero => rw [List.replicate_zero, List.nil_append, List.dropWhile_cons, hc.noSpace]; rfl
      | succ k ih => rw [List.replicate_succ, List.cons_append, List.dropWhile_cons, show Unicode.isSpace 32 = true by decide +kernel, if_pos rfl, ih]
    rw [this]
    simp
  have e2 : (Txt.rstrip x).length ≠ 0 := by rw [e1, ← cs_len, e]; simp
  unfold comment
  rw [if_neg e2, e1]; rfl
theorem comment_tab : comment ⟨#[9]⟩ = Str.ofString "#" := by
  have e1 : cs (Txt.rstrip ⟨#[9]⟩) = [] := by
    rw [cs_rstrip]
    show (List.dropWhile Unicode.isSpace [9]).reverse = []
    rw [List.dropWhile_cons, show Unicode.isSpace 9 = true by decide +kernel, if_pos rfl]; rfl
  unfold comment
  rw [if_pos (by rw [← cs_len, e1]; rfl)]
noncomputable def partsOf : List (List Pr) → List Str
  | [] => []
  | [r] => [rowTx r]
  | r :: rs => (rowTx r ++ ⟨#[32]⟩) :: ⟨#[9]⟩ :: partsOf rs
noncomputable def notesOf : List (List Pr) → List Str
  | [] => []
  | [r] => [noteOf r]
  | r :: rs => noteOf r :: Str.ofString "#" :: notesOf rs
theorem glue_parts : ∀ rows : List (List Pr), glue [32, 10, 9, 10] ((rows.map rowTx).map cs) = glue [10] ((partsOf rows).map cs)
  | [] => rfl
  | [r] => rfl
  | r :: r' :: rs => by
    have ih := glue_parts (r' :: rs)
    have : ∃ y ys, partsOf (r' :: rs) = y :: ys := by
      cases rs with
      | nil => exact ⟨_, _, rfl⟩
      | cons a as => exact ⟨_, _, rfl⟩
    obtain ⟨y, ys, e⟩ := this
    rw [e] at ih
    show cs (rowTx r) ++ [32, 10, 9, 10] ++ glue [32, 10, 9, 10] (((r' :: rs).map rowTx).map cs) = glue [10] (cs (rowTx r ++ ⟨#[32]⟩) :: cs ⟨#[9]⟩ :: (partsOf (r' :: rs)).map cs)
    rw [e, ih, cs_app]
    show _ = (cs (rowTx r) ++ cs ⟨#[32]⟩) ++ [10] ++ (cs ⟨#[9]⟩ ++ [10] ++ glue [10] ((y :: ys).map cs))
    simp only [List.append_assoc]
    rfl
theorem row_no_nl {r : List Pr} (h : ∀ i ∈ r, ItOk i) : 10 ∉ cs (rowTx r) := fun hm => by
  rcases row_chars h 10 hm with e | e
  · cases e
  · have := e.bd; (first | lia | omega)
theorem parts_no_nl : ∀ rows : List (List Pr), (∀ r ∈ rows, RowOk r) → ∀ x ∈ (partsOf rows).map cs, 10 ∉ x
  | [], _, _, h => (nomatch h)
  | [r], h0, x, h => by
    rw [show x = cs (rowTx r) from List.mem_singleton.mp h]
    exact row_no_nl (h0 r (by simp)).2
  | r :: r' :: rs, h0, x, h => by
    rcases List.mem_cons.mp (show x ∈ cs (rowTx r ++ ⟨#[32]⟩) :: cs ⟨#[9]⟩ :: (partsOf (r' :: rs)).map cs from h) with rfl | h
    · rw [cs_app]
      intro hm
      rcases List.mem_append.mp hm with hm | hm
      · exact row_no_nl (h0 r (by simp)).2 hm
      · cases List.mem_singleton.mp (show 10 ∈ [32] from hm)
    · rcases List.mem_cons.mp h with rfl | h
      · intro hm; cases List.mem_singleton.mp (show 10 ∈ [9] from hm)
      · exact parts_no_nl (r' :: rs) (fun r hr => h0 r (List.mem_cons_of_mem _ hr)) x h
theorem split_parts {rows : List (List Pr)} (hr : rows ≠ []) (h : ∀ r ∈ rows, RowOk r) : Txt.split (Txt.join (Str.ofString " \n\t\n") (rows.map rowTx)) (Str.ofString "\n") = partsOf rows := by
  apply cs_map_inj
  rw [split_nl, cs_join, show cs (Str.ofString " \n\t\n") = [32, 10, 9, 10] by decide +kernel, glue_parts, cutNL_glue _ (parts_no_nl rows h)]
  cases rows with
  | nil => exact absurd rfl hr
  | cons r rs => cases rs <;> simp [partsOf]
theorem map_comment : ∀ {rows : List (List Pr)}, (∀ r ∈ rows, RowOk r) → (partsOf rows).map comment = notesOf rows
  | [], _ => rfl
  | [r], h => by
    show [comment (rowTx r)] = [noteOf r]
    rw [comment_row (h r (by simp)) 0 (by simp)]
  | r :: r' :: rs, h => by
    show comment (rowTx r ++ ⟨#[32]⟩) :: comment ⟨#[9]⟩ :: (partsOf (r' :: rs)).map comment = noteOf r :: Str.ofString "#" :: notesOf (r' :: rs)
    rw [comment_row (h r (by simp)) 1 (by rw [cs_app]; rfl), comment_tab, map_comment fun r hr => h r (List.mem_cons_of_mem _ hr)]
/- the notes as the law's own loop tells them -/
noncomputable def toldOf (rows : List (List Pr)) : List Str := rows.flatMap fun r => [Str.ofString "#", noteOf r]
theorem told_notes : ∀ {rows : List (List Pr)}, rows ≠ [] → toldOf rows = Str.ofString "#" :: notesOf rows
  | [], h => absurd rfl h
  | [r], _ => rfl
  | r :: r' :: rs, _ => by
    show Str.ofString "#" :: noteOf r :: toldOf (r' :: rs) = _
    rw [told_notes (by simp)]; rfl
/- what the answer holds between its frames, in pairs: white signs and a token -/
noncomputable def rowPairs (sp : List Nat) (r : List Pr) : List (List Nat × List Nat) := (sp, [35]) :: (match r with
  | [] => []
  | i :: t => (32 :: cs i.1, cs i.2) :: t.map fun i => (cs i.1, cs i.2))
noncomputable def pairsFrom : List Nat → List (List Pr) → List (List Nat × List Nat)
  | _, [] => []
  | sp, [r] => rowPairs sp r
  | sp, r :: rs => rowPairs sp r ++ ([10], [35]) :: pairsFrom [10] rs
noncomputable def txt (ps : List (List Nat × List Nat)) : List Nat := (ps.map fun p => p.1 ++ p.2).flatten
theorem txt_app (a b : List (List Nat × List Nat)) : txt (a ++ b) = txt a ++ txt b := by simp [txt]
theorem txt_row (sp : List Nat) {r : List Pr} (hr : r ≠ []) : txt (rowPairs sp r) = sp ++ cs (noteOf r) := by
  rw [cs_note, cs_rowTx]
  cases r with
  | nil => exact absurd rfl hr
  | cons i t => simp [txt, rowPairs, Function.comp_def]
theorem txt_pairs : ∀ (sp : List Nat) {rows : List (List Pr)}, rows ≠ [] → (∀ r ∈ rows, r ≠ []) → txt (pairsFrom sp rows) = sp ++ cs (Txt.join (Str.ofString "\n") (notesOf rows))
  | _, [], h, _ => absurd rfl h
  | sp, [r], _, h => by
    rw [cs_join]
    exact txt_row sp (h r (by simp))
  | sp, r :: r' :: rs, _, h => by
    have ih := txt_pairs [10] (rows := r' :: rs) (by simp) fun r hr => h r (List.mem_cons_of_mem _ hr)
    have en : cs (Str.ofString "\n") = [10] := by decide +kernel
    have eh : cs (Str.ofString "#") = [35] := by decide +kernel
    show txt (rowPairs sp r ++ ([10], [35]) :: pairsFrom [10] (r' :: rs)) = _
    rw [txt_app, txt_row sp (h r (by simp)), show txt (([10], [35]) :: pairsFrom [10] (r' :: rs)) = [10, 35] ++ txt (pairsFrom [10] (r' :: rs)) from rfl, ih, cs_join, cs_join, en]
    have : ∃ y ys, notesOf (r' :: rs) = y :: ys := by
      cases rs with
      | nil => exact ⟨_, _, rfl⟩
      | cons a as => exact ⟨_, _, rfl⟩
    obtain ⟨y, ys, e⟩ := this
    rw [show notesOf (r :: r' :: rs) = noteOf r :: Str.ofString "#" :: notesOf (r' :: rs) from rfl, e]
    show _ = sp ++ (cs (noteOf r) ++ [10] ++ (cs (Str.ofString "#") ++ [10] ++ glue [10] ((y :: ys).map cs)))
    rw [eh]
    simp
end Mine
end
section
open PySem PySem.W PyProof.Rows PySem.StrLaws
set_option maxHeartbeats 1000000
namespace Mine
open PySem.Builtin.Bytes (isSpace words)
/- what stands between two tokens, and the token -/
structure PairOk (p : List Nat × List Nat) : Prop where
  sp : ∀ c ∈ p.1, c = 32 ∨ c = 10
  word : ∀ c ∈ p.2, wordCh c
  ne : p.2 ≠ []
theorem u8_space {c : Nat} (h : c = 32 ∨ c = 10) : isSpace c.toUInt8 = true := by rcases h with h | h <;> subst h <;> decide +kernel
theorem u8_word {c : Nat} (h : wordCh c) : isSpace c.toUInt8 = false := by
  rcases h with h | h | h | h | h | h | h | h | h <;> subst h <;> decide +kernel
theorem drop_all {α : Type} {f : α → Bool} {b : List α} : ∀ {a : List α}, (∀ x ∈ a, f x = true) → (a ++ b).dropWhile f = b.dropWhile f
  | [], _ => rfl
  | x :: a, h => by rw [List.cons_append, List.dropWhile_cons, if_pos (h x (by simp)), drop_all fun y hy => h y (List.mem_cons_of_mem _ hy)]
theorem take_all {α : Type} {f : α → Bool} {b : List α} : ∀ {a : List α}, (∀ x ∈ a, f x = true) → (a ++ b).takeWhile f = a ++ b.takeWhile f
  | [], _ => rfl
  | x :: a, h => by rw [List.cons_append, List.takeWhile_cons, if_pos (h x (by simp)), take_all fun y hy => h y (List.mem_cons_of_mem _ hy)]; rfl
noncomputable abbrev u8 (l : List Nat) : List UInt8 := l.map (·.toUInt8)
theorem words_pairs : ∀ (ps : List (List Nat × List Nat)) (f n : Nat), (∀ p ∈ ps, PairOk p) → (∀ p ∈ ps.tail, p.1 ≠ []) → ps.length < f → ps.length ≤ n → words f n (u8 (txt ps)) = ps.map fun p => u8 p.2
  | [], f + 1, n, _, _, _, _ => by
    show words (f + 1) n [] = []
    rw [words]; rfl
  | p :: ps, f + 1, n, h1, h2, h3, h4 => by
    have hp := h1 p (by simp)
    have ih := words_pairs ps f (n - 1) (fun q hq => h1 q (List.mem_cons_of_mem _ hq)) (fun q hq => h2 q (List.mem_of_mem_tail hq)) (by simp at h3; (first | lia | omega)) (by simp at h4; (first | lia | omega))
    have e : u8 (txt (p :: ps)) = u8 p.1 ++ (u8 p.2 ++ u8 (txt ps)) := by simp [txt, u8]
    have hsp : ∀ x ∈ u8 p.1, isSpace x = true := fun x hx => by
      obtain ⟨c, hc, rfl⟩ := List.mem_map.mp hx
      exact u8_space (hp.sp c hc)
    have hw : ∀ x ∈ u8 p.2, isSpace x = false := fun x hx => by
      obtain ⟨c, hc, rfl⟩ := List.mem_map.mp hx
      exact u8_word (hp.word c hc)
    obtain ⟨c, t, ec⟩ : ∃ c t, p.2 = c :: t := by
      cases hh : p.2 with
      | nil => exact absurd hh hp.ne
      | cons c t => exact ⟨c, t, rfl⟩
    have hc0 : isSpace c.toUInt8 = false := u8_word (hp.word c (by rw [ec]; simp))
    have e2 : (u8 (txt (p :: ps))).dropWhile isSpace = c.toUInt8 :: (u8 t ++ u8 (txt ps)) := by
      rw [e, drop_all hsp, ec]
      show List.dropWhile isSpace (c.toUInt8 :: (u8 t ++ u8 (txt ps))) = _
      rw [List.dropWhile_cons, hc0]; rfl
    have e3 : c.toUInt8 :: (u8 t ++ u8 (txt ps)) = u8 p.2 ++ u8 (txt ps) := by rw [ec]; rfl
    have hnext : u8 (txt ps) = [] ∨ ∃ d l, u8 (txt ps) = d :: l ∧ isSpace d = true := by
      cases ps with
      | nil => exact .inl rfl
      | cons q qs =>
        right
        have hq := h1 q (by simp)
        have hq2 := h2 q (by simp)
        cases hh : q.1 with
        | nil => exact absurd hh hq2
        | cons d l =>
          refine ⟨d.toUInt8, u8 (l ++ q.2 ++ txt qs), ?_, u8_space (hq.sp d (by rw [hh]; simp))⟩
          simp [txt, u8, hh]
    have e4 : (u8 (txt ps)).takeWhile (!isSpace ·) = [] := by
      rcases hnext with h | ⟨d, l, h, hd⟩
      · rw [h]; rfl
      · rw [h, List.takeWhile_cons, hd]; rfl
    have e5 : (u8 (txt ps)).dropWhile (!isSpace ·) = u8 (txt ps) := by
      rcases hnext with h | ⟨d, l, h, hd⟩
      · rw [h]; rfl
      · rw [h, List.dropWhile_cons, hd]; rfl
    have hw' : ∀ x ∈ u8 p.2, (!isSpace x) = true := fun x hx => by rw [hw x hx]; rfl
    rw [words, e2]
    dsimp only
    have hn : (n == 0) = false := by rw [beq_eq_false_iff_ne]; simp at h4; (first | lia | omega)
    rw [hn, e3, take_all hw', drop_all hw', e4, e5, ih]
    simp
theorem rowPairs_ok {sp : List Nat} {r : List Pr} (hs : ∀ c ∈ sp, c = 32 ∨ c = 10) (h : ∀ i ∈ r, ItOk i) : ∀ p ∈ rowPairs sp r, PairOk p := by
  intro p hp
  rcases List.mem_cons.mp hp with rfl | hp
  · exact ⟨hs, fun c hc => by rw [List.mem_singleton.mp hc]; exact .inr (.inr (.inl rfl)), by simp⟩
  · cases r with
    | nil => cases hp
    | cons i t =>
      rcases List.mem_cons.mp hp with rfl | hp
      · have hi := h i (by simp)
        exact ⟨fun c hc => .inl (by rcases List.mem_cons.mp hc with rfl | hc; rfl; exact hi.lead c hc), hi.word, hi.ne⟩
      · obtain ⟨j, hj, rfl⟩ := List.mem_map.mp hp
        have hj := h j (List.mem_cons_of_mem _ hj)
        exact ⟨fun c hc => .inl (hj.lead c hc), hj.word, hj.ne⟩
theorem pairs_ok : ∀ {sp : List Nat} {rows : List (List Pr)}, (∀ c ∈ sp, c = 32 ∨ c = 10) → (∀ r ∈ rows, ∀ i ∈ r, ItOk i) → ∀ p ∈ pairsFrom sp rows, PairOk p
  | _, [], _, _, _, hp => (nomatch hp)
  | _, [r], hs, h, p, hp => rowPairs_ok hs (h r (by simp)) p hp
  | _, r :: r' :: rs, hs, h, p, hp => by
    rcases List.mem_append.mp (show p ∈ rowPairs _ r ++ ([10], [35]) :: pairsFrom [10] (r' :: rs) from hp) with hp | hp
    · exact rowPairs_ok hs (h r (by simp)) p hp
    · have h10 : ∀ c ∈ [10], c = 32 ∨ c = 10 := fun c hc => .inr (List.mem_singleton.mp hc)
      rcases List.mem_cons.mp hp with rfl | hp
      · exact ⟨h10, fun c hc => by rw [List.mem_singleton.mp hc]; exact .inr (.inr (.inl rfl)), by simp⟩
      · exact pairs_ok h10 (fun r hr => h r (List.mem_cons_of_mem _ hr)) p hp
/- each lead but the very first is there -/
theorem rowPairs_tail {sp : List Nat} {r : List Pr} (h : ∀ i ∈ r.tail, cs i.1 ≠ []) : ∀ p ∈ (rowPairs sp r).tail, p.1 ≠ [] := by
  intro p hp
  cases r with
  | nil => cases hp
  | cons i t =>
    rcases List.mem_cons.mp (show p ∈ (32 :: cs i.1, cs i.2) :: t.map fun i => (cs i.1, cs i.2) from hp) with rfl | hp
    · simp
    · obtain ⟨j, hj, rfl⟩ := List.mem_map.mp hp
      exact h j hj
theorem pairs_tail : ∀ {sp : List Nat} {rows : List (List Pr)}, (∀ r ∈ rows, ∀ i ∈ r.tail, cs i.1 ≠ []) → ∀ p ∈ (pairsFrom sp rows).tail, p.1 ≠ []
  | _, [], _, _, hp => (nomatch hp)
  | _, [r], h, p, hp => rowPairs_tail (h r (by simp)) p hp
  | sp, r :: r' :: rs, h, p, hp => by
    have e : (pairsFrom sp (r :: r' :: rs)).tail = (rowPairs sp r).tail ++ ([10], [35]) :: pairsFrom [10] (r' :: rs) := rfl
    rw [e] at hp
    rcases List.mem_append.mp hp with hp | hp
    · exact rowPairs_tail (h r (by simp)) p hp
    · rcases List.mem_cons.mp hp with rfl | hp
      · simp
      · have : ∀ p ∈ pairsFrom [10] (r' :: rs), p = ([10], [35]) ∨ p ∈ (pairsFrom [10] (r' :: rs)).tail := by
          intro p hp
          cases rs with
          | nil =>
            rcases List.mem_cons.mp (show p ∈ rowPairs [10] r' from hp) with h | h
            · exact .inl h
            · exact .inr h
          | cons a as =>
            rcases List.mem_cons.mp (show p ∈ rowPairs [10] r' ++ ([10], [35]) :: pairsFrom [10] (a :: as) from hp) with h | h
            · exact .inl h
            · exact .inr h
        rcases this p hp with rfl | hp
        · simp
        · exact pairs_tail (sp := [10]) (fun r hr => h r (List.mem_cons_of_mem _ hr)) p hp
/- the firsts of the rows, and the law's marks -/
noncomputable def startsFrom : Nat → List (List Pr) → List Nat
  | _, [] => []
  | k, r :: rs => k :: startsFrom (k + r.length) rs
noncomputable def marksFrom : Nat → List (List Pr) → List Nat
  | _, [] => []
  | k, [_] => [k]
  | k, r :: rs => k :: (k + r.length) :: marksFrom (k + r.length) rs
noncomputable def toks (ps : List (List Nat × List Nat)) : List (List UInt8) := ps.map fun p => u8 p.2
theorem u8_back {l : List Nat} (h : ∀ c ∈ l, c < 128) : (u8 l).map (·.toNat) = l := by
  rw [u8, List.map_map]
  conv => rhs; rw [← List.map_id l]
  refine List.map_congr_left fun c hc => ?_
  have := h c hc
  show c.toUInt8.toNat = c
  simp; (first | lia | omega)
theorem read_hash (st : List Int × List Str) : readTok st (u8 [35]) = (st.1 ++ [(st.2.length : Int)], st.2) := by
  unfold readTok; rw [if_pos (by decide)]
theorem read_word {i : Pr} (h : ItOk i) (st : List Int × List Str) : readTok st (u8 (cs i.2)) = (st.1, st.2 ++ [i.2]) := by
  have hb : ∀ c ∈ cs i.2, c < 128 := fun c hc => (h.word c hc).bd.2.1
  have hk : u8 (cs i.2) ≠ [35] := fun e => by
    have e2 := u8_back hb
    rw [e] at e2
    obtain ⟨c, hc, h97⟩ := h.letter
    rw [← e2] at hc
    have : c = 35 := List.mem_singleton.mp hc
    (first | lia | omega)
  unfold readTok
  rw [if_neg hk]
  congr 3
  apply cs_ext
  show ((u8 (cs i.2)).toArray.map (·.toNat)).toList = cs i.2
  rw [Array.toList_map]
  exact u8_back hb
theorem read_words : ∀ {r : List Pr}, (∀ i ∈ r, ItOk i) → ∀ st : List Int × List Str, ((r.map fun i => u8 (cs i.2)).foldl readTok st) = (st.1, st.2 ++ r.map (·.2))
  | [], _, st => by simp
  | i :: r, h, st => by
    rw [List.map_cons, List.foldl_cons, read_word (h i (by simp)), read_words fun j hj => h j (List.mem_cons_of_mem _ hj)]
    simp
theorem read_row {sp : List Nat} {r : List Pr} (h : ∀ i ∈ r, ItOk i) (st : List Int × List Str) : (toks (rowPairs sp r)).foldl readTok st = (st.1 ++ [(st.2.length : Int)], st.2 ++ r.map (·.2)) := by
  have e : toks (rowPairs sp r) = u8 [35] :: r.map fun i => u8 (cs i.2) := by
    cases r <;> simp [toks, rowPairs, Function.comp_def]
  rw [e, List.foldl_cons, read_hash, read_words h]
theorem read_pairs : ∀ {sp : List Nat} {rows : List (List Pr)}, (∀ r ∈ rows, ∀ i ∈ r, ItOk i) → ∀ st : List Int × List Str, (toks (pairsFrom sp rows)).foldl readTok st = (st.1 ++ (marksFrom st.2.length rows).map Int.ofNat, st.2 ++ rows.flatten.map (·.2))
  | _, [], _, st => by simp [pairsFrom, toks, marksFrom]
  | sp, [r], h, st => by
    have := read_row (sp := sp) (h r (by simp)) st
    simpa [pairsFrom, marksFrom] using this
  | sp, r :: r' :: rs, h, st => by
    have e : toks (pairsFrom sp (r :: r' :: rs)) = toks (rowPairs sp r) ++ u8 [35] :: toks (pairsFrom [10] (r' :: rs)) := by simp [toks, pairsFrom]
    rw [e, List.foldl_append, read_row (h r (by simp)), List.foldl_cons, read_hash, read_pairs fun r hr => h r (List.mem_cons_of_mem _ hr)]
    simp [marksFrom]
end Mine
end
section
open PySem PySem.W PyProof.Rows PySem.StrLaws
set_option maxHeartbeats 1000000
namespace Mine
theorem gd_list (t : Array Nat) (i : Nat) : t.getD i 0 = t.toList[i]?.getD 0 := by
  simp [Array.getD]
  split <;> simp_all
theorem first_nl : ∀ l : List Nat, ∃ n, n ≤ l.length ∧ (∀ i, i < n → l[i]?.getD 0 ≠ 10) ∧ (n = l.length ∨ l[n]?.getD 0 = 10)
  | [] => ⟨0, Nat.le_refl _, fun i h => absurd h (Nat.not_lt_zero _), .inl rfl⟩
  | c :: l => by
    by_cases hc : c = 10
    · exact ⟨0, Nat.zero_le _, fun i h => absurd h (Nat.not_lt_zero _), .inr (by simp [hc])⟩
    · obtain ⟨n, h1, h2, h3⟩ := first_nl l
      refine ⟨n + 1, by simp; (first | lia | omega), fun i hi => ?_, h3.imp (fun h => by simp [h]) fun h => by simpa using h⟩
      cases i with
      | zero => simpa using hc
      | succ i => simpa using h2 i (by (first | lia | omega))
theorem one_match {t : Array Nat} {pre body rest : List Nat} (e : t.toList = pre ++ ([70, 76, 65, 71, 83, 32, 40] ++ (body ++ 41 :: rest))) (h1 : 10 ∉ pre) (h2 : ∀ c ∈ body, c ≠ 70 ∧ c ≠ 41)
    (h3 : ∀ k, k < rest.length → rest[k]?.getD 0 = 70 → ∀ i, i < rest.length → k ≤ i → rest[i]?.getD 0 ≠ 41) : ∃ n, OneMatch t n pre.length (pre.length + 7 + body.length) := by
  obtain ⟨n, n1, n2, n3⟩ := first_nl t.toList
  have sz : t.size = pre.length + 7 + body.length + 1 + rest.length := by
    have := congrArg List.length e
    simp at this; (first | lia | omega)
  have tl : t.toList.length = t.size := by simp
  have at0 : ∀ i, i < pre.length → t.getD i 0 = pre[i]?.getD 0 := fun i hi => by
    rw [gd_list, e, List.getElem?_append_left hi]
  have at1 : ∀ i, t.getD (pre.length + i) 0 = ([70, 76, 65, 71, 83, 32, 40] ++ (body ++ 41 :: rest))[i]?.getD 0 := fun i => by
    rw [gd_list, e, List.getElem?_append_right (by (first | lia | omega))]
    rw [show pre.length + i - pre.length = i by (first | lia | omega)]
  have at2 : ∀ i, t.getD (pre.length + 7 + i) 0 = (body ++ 41 :: rest)[i]?.getD 0 := fun i => by
    rw [show pre.length + 7 + i = pre.length + (7 + i) by (first | lia | omega), at1, List.getElem?_append_right (by simp)]
    simp
  have at3 : ∀ i, i < body.length → t.getD (pre.length + 7 + i) 0 ∈ body := fun i hi => by
    rw [at2, List.getElem?_append_left hi, List.getElem?_eq_getElem hi]
    exact List.getElem_mem _
  have at4 : t.getD (pre.length + 7 + body.length) 0 = 41 := by
    rw [at2, List.getElem?_append_right (Nat.le_refl _)]; simp
  have at5 : ∀ i, t.getD (pre.length + 7 + body.length + 1 + i) 0 = rest[i]?.getD 0 := fun i => by
    rw [show pre.length + 7 + body.length + 1 + i = pre.length + 7 + (body.length + (i + 1)) by (first | lia | omega), at2, List.getElem?_append_right (by (first | lia | omega))]
    simp
  have hn : pre.length ≤ n := by
    rcases n3 with h | h
    · rw [h, tl]; (first | lia | omega)
    · rcases Nat.lt_or_ge n pre.length with hh | hh
      · exfalso
        rw [← gd_list, at0 n hh, List.getElem?_eq_getElem hh] at h
        exact h1 (by rw [← show pre[n] = 10 from h]; exact List.getElem_mem _)
      · exact hh
  refine ⟨n, by rw [← tl]; exact n1, fun i hi => by rw [gd_list]; exact n2 i hi, n3.imp (fun h => by rw [h, tl]) fun h => by rw [gd_list]; exact h, hn, ?_, fun j j1 j2 hl i i1 i2 => ?_, by (first | lia | omega), by (first | lia | omega), fun i i1 i2 => ?_, at4⟩
  · exact ⟨by (first | lia | omega), at1 0, at1 1, at1 2, at1 3, at1 4, at1 5, at1 6⟩
  · have hj := hl.2.1
    by_cases c1 : j < pre.length + 7
    · exfalso
      obtain ⟨k, rfl⟩ : ∃ k, j = pre.length + k := ⟨j - pre.length, by (first | lia | omega)⟩
      rw [at1] at hj
      have : k = 1 ∨ k = 2 ∨ k = 3 ∨ k = 4 ∨ k = 5 ∨ k = 6 := by (first | lia | omega)
      rcases this with rfl | rfl | rfl | rfl | rfl | rfl <;> exact absurd hj (by simp)
    · by_cases c2 : j < pre.length + 7 + body.length
      · exfalso
        obtain ⟨k, rfl⟩ : ∃ k, j = pre.length + 7 + k := ⟨j - (pre.length + 7), by (first | lia | omega)⟩
        exact (h2 _ (at3 k (by (first | lia | omega)))).1 hj
      · by_cases c3 : j = pre.length + 7 + body.length
        · rw [c3, at4] at hj; exact absurd hj (by decide)
        · obtain ⟨k, rfl⟩ : ∃ k, j = pre.length + 7 + body.length + 1 + k := ⟨j - (pre.length + 7 + body.length + 1), by (first | lia | omega)⟩
          obtain ⟨m, rfl⟩ : ∃ m, i = pre.length + 7 + body.length + 1 + m := ⟨i - (pre.length + 7 + body.length + 1), by (first | lia | omega)⟩
          rw [at5] at hj ⊢
          exact h3 k (by have := hl.1; (first | lia | omega)) hj m (by (first | lia | omega)) (by (first | lia | omega))
  · obtain ⟨k, rfl⟩ : ∃ k, i = pre.length + 7 + k := ⟨i - (pre.length + 7), by (first | lia | omega)⟩
    exact (h2 _ (at3 k (by (first | lia | omega)))).2
/- the three frames -/
noncomputable def frames : List (Str × Str) := [(Str.ofString "* 2 FETCH (FLAGS (old) UID 7 FLAGS (", Str.ofString ") UID 8)"), (Str.ofString "* 1 FETCH (FLAGS (", Str.ofString "))"), (Str.ofString "* FLAGS (", Str.ofString ") FLAGS (new")]
theorem frame_match {f : Str × Str} (hf : f ∈ frames) {body : List Nat} (hb : ∀ c ∈ body, c ≠ 70 ∧ c ≠ 41) {t : Array Nat} (e : t.toList = cs f.1 ++ body ++ cs f.2) :
    ∃ n p q, OneMatch t n p q ∧ p + 7 = f.1.length ∧ q = f.1.length + body.length := by
  have key : ∀ (pre rest : List Nat), cs f.1 = pre ++ [70, 76, 65, 71, 83, 32, 40] → cs f.2 = 41 :: rest → 10 ∉ pre → (∀ k, k < rest.length → rest[k]?.getD 0 = 70 → ∀ i, i < rest.length → k ≤ i → rest[i]?.getD 0 ≠ 41) → ∃ n p q, OneMatch t n p q ∧ p + 7 = f.1.length ∧ q = f.1.length + body.length := by
    intro pre rest e1 e2 h1 h2
    have hl : f.1.length = pre.length + 7 := by rw [← cs_len, e1]; simp
    obtain ⟨n, h⟩ := one_match (t := t) (pre := pre) (body := body) (rest := rest) (by rw [e, e1, e2]; simp) h1 hb h2
    exact ⟨n, _, _, h, hl.symm, by rw [hl]⟩
  simp only [frames, List.mem_cons, List.not_mem_nil, or_false] at hf
  rcases hf with rfl | rfl | rfl
  · exact key [42, 32, 50, 32, 70, 69, 84, 67, 72, 32, 40, 70, 76, 65, 71, 83, 32, 40, 111, 108, 100, 41, 32, 85, 73, 68, 32, 55, 32] [32, 85, 73, 68, 32, 56, 41] (by decide +kernel) (by decide +kernel) (by decide) (by decide)
  · exact key [42, 32, 49, 32, 70, 69, 84, 67, 72, 32, 40] [41] (by decide +kernel) (by decide +kernel) (by decide) (by decide)
  · exact key [42, 32] [32, 70, 76, 65, 71, 83, 32, 40, 110, 101, 119] (by decide +kernel) (by decide +kernel) (by decide) (by decide)
theorem frame_chars : ∀ f ∈ frames, (∀ c ∈ cs f.1, c < 128) ∧ (∀ c ∈ cs f.2, c < 128) ∧ f.1.length ≤ 36 ∧ f.2.length ≤ 36 := by decide +kernel
end Mine
end
section
open PySem PySem.W PyProof.Rows PySem.StrLaws
set_option maxHeartbeats 1000000
namespace Mine
/- five flags as the law draws them -/
structure Items (its : List Pr) : Prop where
  ok : ∀ i ∈ its, ItOk i
  sz : ∀ i ∈ its, i.1.length ≤ 2 ∧ i.2.length ≤ 5
  five : its.length = 5
  tl : ∀ i ∈ its.tail, cs i.1 ≠ []
theorem rows_in {rows : List (List Pr)} {its : List Pr} (h : rows.flatten = its) : ∀ r ∈ rows, ∀ i ∈ r, i ∈ its := fun r hr i hi => by
  rw [← h]; exact List.mem_flatten.mpr ⟨r, hr, hi⟩
theorem rows_tail {rows : List (List Pr)} {its : List Pr} (h0 : ∀ r ∈ rows, r ≠ []) (h : rows.flatten = its) : ∀ r ∈ rows, ∀ i ∈ r.tail, i ∈ its.tail := fun r hr i hi => by
  subst h
  cases rows with
  | nil => cases hr
  | cons a rs =>
    cases a with
    | nil => exact absurd rfl (h0 [] (by simp))
    | cons j t =>
      show i ∈ t ++ rs.flatten
      rcases List.mem_cons.mp hr with rfl | hr
      · exact List.mem_append_left _ hi
      · exact List.mem_append_right _ (List.mem_flatten.mpr ⟨r, hr, List.mem_of_mem_tail hi⟩)
theorem rowTx_len (r : List Pr) : ((rowTx r).length : Int) = rowSz r := by
  rw [← cs_len, cs_rowTx]
  induction r with
  | nil => rfl
  | cons i r ih =>
    simp only [List.map_cons, List.flatten_cons, List.length_append, rowSz, List.sum_cons, prSz] at ih ⊢
    rw [← cs_len, ← cs_len]; (first | lia | omega)
theorem rowSz_flat : ∀ rows : List (List Pr), rowSz rows.flatten = (rows.map rowSz).sum
  | [] => rfl
  | r :: rs => by rw [List.flatten_cons, rowSz_append, rowSz_flat rs]; rfl
theorem sum_tx : ∀ rows : List (List Pr), ((((rows.map rowTx).map (·.length)).sum : Nat) : Int) = rowSz rows.flatten
  | [] => rfl
  | r :: rs => by
    have := sum_tx rs
    rw [List.flatten_cons, rowSz_append]
    simp only [List.map_cons, List.sum_cons]
    rw [← this, ← rowTx_len]; (first | lia | omega)
theorem rows_few : ∀ {rows : List (List Pr)}, (∀ r ∈ rows, r ≠ []) → rows.length ≤ rows.flatten.length
  | [], _ => Nat.le_refl _
  | r :: rs, h => by
    have := rows_few fun r hr => h r (List.mem_cons_of_mem _ hr)
    have h1 := List.length_pos_iff.mpr (h r (by simp))
    simp only [List.length_cons, List.flatten_cons, List.length_append]; (first | lia | omega)
theorem sum_parts : ∀ rows : List (List Pr), ((partsOf rows).map (·.length)).sum ≤ ((rows.map rowTx).map (·.length)).sum + 2 * rows.length
  | [] => Nat.le_refl _
  | [r] => by simp [partsOf]
  | r :: r' :: rs => by
    have := sum_parts (r' :: rs)
    simp only [partsOf, List.map_cons, List.sum_cons, List.length_cons, Str.length_append] at this ⊢
    have e1 : (⟨#[32]⟩ : Str).length = 1 := rfl
    have e2 : (⟨#[9]⟩ : Str).length = 1 := rfl
    rw [e1, e2]; (first | lia | omega)
theorem len_parts : ∀ rows : List (List Pr), (partsOf rows).length ≤ 2 * rows.length
  | [] => Nat.le_refl _
  | [r] => by simp [partsOf]
  | r :: r' :: rs => by
    have := len_parts (r' :: rs)
    simp only [partsOf, List.length_cons] at this ⊢; (first | lia | omega)
theorem len_notes : ∀ rows : List (List Pr), (notesOf rows).length ≤ 2 * rows.length
  | [] => Nat.le_refl _
  | [r] => by simp [notesOf]
  | r :: r' :: rs => by
    have := len_notes (r' :: rs)
    simp only [notesOf, List.length_cons] at this ⊢; (first | lia | omega)
theorem sum_notes : ∀ rows : List (List Pr), ((notesOf rows).map (·.length)).sum ≤ ((rows.map rowTx).map (·.length)).sum + 3 * rows.length
  | [] => Nat.le_refl _
  | [r] => by
    have e1 : (Str.ofString "# ").length = 2 := by decide +kernel
    simp [notesOf, noteOf, Str.length_append, e1]; (first | lia | omega)
  | r :: r' :: rs => by
    have := sum_notes (r' :: rs)
    have e1 : (Str.ofString "# ").length = 2 := by decide +kernel
    have e2 : (Str.ofString "#").length = 1 := by decide +kernel
    simp only [notesOf, noteOf, List.map_cons, List.sum_cons, List.length_cons, Str.length_append] at this ⊢
    rw [e1, e2]; (first | lia | omega)
theorem le_sum_of_mem : ∀ {l : List Nat} {x : Nat}, x ∈ l → x ≤ l.sum
  | y :: l, x, h => by
    rcases List.mem_cons.mp h with rfl | h
    · simp
    · have := le_sum_of_mem h
      simp only [List.sum_cons]; (first | lia | omega)
theorem rowSz_le : ∀ {l : List Pr}, (∀ i ∈ l, i.1.length ≤ 2 ∧ i.2.length ≤ 5) → rowSz l ≤ 7 * l.length
  | [], _ => by simp [rowSz]
  | i :: l, h => by
    have := rowSz_le fun j hj => h j (List.mem_cons_of_mem _ hj)
    have hi := h i (by simp)
    simp only [rowSz, List.map_cons, List.sum_cons, List.length_cons, prSz] at this ⊢
    (first | lia | omega)
theorem join_len (sep : Str) (l : List Str) : (Txt.join sep l).length ≤ (l.map (·.length)).sum + l.length * sep.length := by
  show (Builtin.Str.glued sep l).length ≤ _
  rw [StrLaws.glued_eq_join]
  exact StrLaws.join_length_le sep l
theorem pairs_len : ∀ {ps : List (List Nat × List Nat)}, (∀ p ∈ ps, PairOk p) → ps.length ≤ (txt ps).length
  | [], _ => Nat.le_refl _
  | p :: ps, h => by
    have := pairs_len fun q hq => h q (List.mem_cons_of_mem _ hq)
    have h1 := List.length_pos_iff.mpr (h p (by simp)).ne
    have e : txt (p :: ps) = p.1 ++ p.2 ++ txt ps := by simp [txt]
    rw [e]
    simp only [List.length_cons, List.length_append]; (first | lia | omega)
theorem txt_chars {ps : List (List Nat × List Nat)} (h : ∀ p ∈ ps, PairOk p) : ∀ c ∈ txt ps, c = 32 ∨ c = 10 ∨ wordCh c := fun c hc => by
  obtain ⟨l, hl, hc⟩ := List.mem_flatten.mp hc
  obtain ⟨p, hp, rfl⟩ := List.mem_map.mp hl
  rcases List.mem_append.mp hc with hc | hc
  · rcases (h p hp).sp c hc with h | h
    · exact .inl h
    · exact .inr (.inl h)
  · exact .inr (.inr ((h p hp).word c hc))
theorem pairs_space {sp : List Nat} {rows : List (List Pr)} (h : rows ≠ []) (h0 : ∀ r ∈ rows, r ≠ []) : 32 ∈ txt (pairsFrom sp rows) := by
  cases rows with
  | nil => exact absurd rfl h
  | cons r rs =>
    cases r with
    | nil => exact absurd rfl (h0 [] (by simp))
    | cons i t =>
      have : ∃ qs, pairsFrom sp ((i :: t) :: rs) = (sp, [35]) :: (32 :: cs i.1, cs i.2) :: qs := by
        cases rs with
        | nil => exact ⟨_, rfl⟩
        | cons a as => exact ⟨_, rfl⟩
      obtain ⟨qs, e⟩ := this
      rw [e]; simp [txt]
/- all that the walk of the folding asks of its flags and its frame -/
structure FoldFacts (its : List Pr) (f0 f1 : Str) (W : Int) (rows : List (List Pr)) : Prop where
  hit : ∀ i ∈ its, i.1.length ≤ 100 ∧ i.2.length ≤ 100
  hgd : ∀ i ∈ its, 0 < i.2.length ∧ PyData.strOk i.1 = true ∧ PyData.strOk i.2 = true
  hws : ∀ c, c ≠ [] → (∀ i ∈ c, i ∈ its) → Txt.isspace (rowTx c) = false
  hwt : ((rows.map rowTx).map (·.length)).sum ≤ 35
  hjl : (Txt.join (Str.ofString " \n\t\n") (rows.map rowTx)).length ≤ 1000
  hsplit : Txt.split (Txt.join (Str.ofString " \n\t\n") (rows.map rowTx)) (Str.ofString "\n") = partsOf rows
  hpt : ∀ x ∈ partsOf rows, x.length ≤ 100
  hpn : (partsOf rows).length ≤ 10
  hnt : (partsOf rows).map comment = notesOf rows
  hnw : ((notesOf rows).map (·.length)).sum + (notesOf rows).length ≤ 100
  hnj : (Txt.join (Str.ofString "\n") (notesOf rows)).length ≤ 100
  hf0 : f0.length ≤ 36
  hf1 : f1.length ≤ 36
  han : ∀ ans, f0 ++ Txt.join (Str.ofString "\n") (notesOf rows) ++ f1 = ans → (∀ c ∈ ans.cps.toList, c < 128) ∧ 8 ≤ ans.length ∧ ans.length ≤ 200 ∧
    ∃ n p q, OneMatch ((ans.cps.map (·.toUInt8)).map (·.toNat)) n p q ∧ ((ans.cps.map (·.toUInt8)).extract (p + 7) q).any Builtin.Bytes.isSpace = true ∧ wordsOf ((ans.cps.map (·.toUInt8)).extract (p + 7) q) = toks (pairsFrom [] rows)
  htok : ∀ t ∈ toks (pairsFrom [] rows), t ≠ [] ∧ (∀ c ∈ t, c.toNat < 128) ∧ t.length ≤ 100
  hntk : (toks (pairsFrom [] rows)).length ≤ 100
  hnok : ∀ x ∈ notesOf rows, PyData.strOk x = true
  hrd : (toks (pairsFrom [] rows)).foldl readTok ([], []) = ((marksFrom 0 rows).map Int.ofNat, its.map (·.2))
theorem fold_facts {its : List Pr} (I : Items its) {f : Str × Str} (hf : f ∈ frames) (W : Int) : FoldFacts its f.1 f.2 W (rowsOf W its) := by
  have hne : its ≠ [] := fun e => by have := I.five; rw [e] at this; cases this
  have hfl := rowsOf_flat W its
  have hfull := rowsOf_full W hne
  have hrn := rowsOf_ne (l := its) (W := W)
  generalize rowsOf W its = rows at *
  have hin := rows_in hfl
  have hok : ∀ r ∈ rows, ∀ i ∈ r, ItOk i := fun r hr i hi => I.ok i (hin r hr i hi)
  have hro : ∀ r ∈ rows, RowOk r := fun r hr => ⟨hfull r hr, hok r hr⟩
  have hsz : rowSz its ≤ 35 := by have := rowSz_le I.sz; rw [I.five] at this; (first | lia | omega)
  have hst : ((rows.map rowTx).map (·.length)).sum ≤ 35 := by have := sum_tx rows; rw [hfl] at this; (first | lia | omega)
  have hrl : rows.length ≤ 5 := by have := rows_few hfull; rw [hfl, I.five] at this; exact this
  have hsp := sum_parts rows
  have hlp := len_parts rows
  have hsn := sum_notes rows
  have hln := len_notes rows
  have hj1 := join_len (Str.ofString " \n\t\n") (rows.map rowTx)
  have hj2 := join_len (Str.ofString "\n") (notesOf rows)
  rw [List.length_map, show (Str.ofString " \n\t\n").length = 4 by decide +kernel] at hj1
  rw [show (Str.ofString "\n").length = 1 by decide +kernel] at hj2
  obtain ⟨fc1, fc2, fl1, fl2⟩ := frame_chars f hf
  have hpo := pairs_ok (sp := []) (rows := rows) (fun _ h => nomatch h) hok
  have hpt := pairs_tail (sp := []) (rows := rows) fun r hr i hi => I.tl i (rows_tail hfull hfl r hr i hi)
  have htx := txt_pairs [] hrn hfull
  rw [List.nil_append] at htx
  have hch := txt_chars hpo
  have strok : ∀ x : Str, (∀ c ∈ cs x, c < 128) → PyData.strOk x = true := fun x hx => by
    unfold PyData.strOk
    rw [← Array.all_toList, List.all_eq_true]
    intro c hc
    have := hx c hc
    simp; (first | lia | omega)
  refine ⟨fun i hi => by have := I.sz i hi; (first | lia | omega), fun i hi => ⟨?_, strok _ fun c hc => ?_, strok _ fun c hc => ((I.ok i hi).word c hc).bd.2.1⟩, fun c hc h => row_no_space ⟨hc, fun i hi => I.ok i (h i hi)⟩, hst, by (first | lia | omega), split_parts hrn hro, fun x hx => ?_, by (first | lia | omega), map_comment hro, by (first | lia | omega), by (first | lia | omega), by (first | lia | omega), by (first | lia | omega), fun ans ha => ?_, fun t ht => ?_, ?_, fun x hx => strok x ?_, ?_⟩
  · rw [← cs_len]; exact List.length_pos_iff.mpr (I.ok i hi).ne
  · rw [(I.ok i hi).lead c hc]; decide
  · have := le_sum_of_mem (List.mem_map_of_mem (f := (·.length)) hx); (first | lia | omega)
  · have hca : cs ans = cs f.1 ++ txt (pairsFrom [] rows) ++ cs f.2 := by rw [← ha, cs_app, cs_app, htx]
    have hb : ∀ c ∈ txt (pairsFrom [] rows), c < 128 ∧ c ≠ 70 ∧ c ≠ 41 := fun c hc => by
      rcases hch c hc with h | h | h
      · subst h; decide
      · subst h; decide
      · have := h.bd; exact ⟨this.2.1, this.2.2.2, this.2.2.1⟩
    have hasc : ∀ c ∈ cs ans, c < 128 := fun c hc => by
      rw [hca] at hc
      rcases List.mem_append.mp hc with hc | hc
      · rcases List.mem_append.mp hc with hc | hc
        · exact fc1 c hc
        · exact (hb c hc).1
      · exact fc2 c hc
    have hla : ans.length = f.1.length + (txt (pairsFrom [] rows)).length + f.2.length := by
      rw [← cs_len, hca, List.length_append, List.length_append, cs_len, cs_len]
    have hbl : (txt (pairsFrom [] rows)).length ≤ 100 := by rw [htx, cs_len]; (first | lia | omega)
    have hback : ((ans.cps.map (·.toUInt8)).map (·.toNat)).toList = cs ans := by
      rw [Array.toList_map, Array.toList_map]; exact u8_back hasc
    obtain ⟨n, p, q, hom, hp, hq⟩ := frame_match hf (fun c hc => (hb c hc).2) (hback.trans hca)
    have hex : ((ans.cps.map (·.toUInt8)).extract (p + 7) q).toList = u8 (txt (pairsFrom [] rows)) := by
      rw [Array.toList_extract, Array.toList_map, List.extract_eq_take_drop]
      show ((u8 (cs ans)).drop (p + 7)).take (q - (p + 7)) = _
      rw [hca, hp, hq, u8, List.map_append, List.map_append, List.append_assoc, List.drop_left' (by rw [List.length_map, cs_len])]
      rw [List.take_left' (by rw [List.length_map]; (first | lia | omega))]
    refine ⟨hasc, ?_, by (first | lia | omega), n, p, q, hom, ?_, ?_⟩
    · have := hom.hq; have := hom.hq2; rw [Array.size_map, Array.size_map] at this
      have : ans.cps.size = ans.length := rfl
      (first | lia | omega)
    · rw [← Array.any_toList, hex, List.any_eq_true]
      exact ⟨(32 : Nat).toUInt8, List.mem_map_of_mem (pairs_space hrn hfull), by decide +kernel⟩
    · have hsz2 : ((ans.cps.map (·.toUInt8)).extract (p + 7) q).size = (txt (pairsFrom [] rows)).length := by
        rw [← Array.length_toList, hex, List.length_map]
      have hpl := pairs_len hpo
      unfold wordsOf
      rw [hex, hsz2]
      exact words_pairs _ _ _ hpo hpt (by (first | lia | omega)) (by (first | lia | omega))
  · obtain ⟨p, hp, rfl⟩ := List.mem_map.mp ht
    have hpo' := hpo p hp
    refine ⟨fun e => hpo'.ne (List.map_eq_nil_iff.mp e), fun c hc => ?_, ?_⟩
    · obtain ⟨d, hd, rfl⟩ := List.mem_map.mp hc
      have := (hpo'.word d hd).bd.2.1
      simp; (first | lia | omega)
    · rw [List.length_map]
      have h1 := le_sum_of_mem (List.mem_map_of_mem (f := fun p : List Nat × List Nat => (p.1 ++ p.2).length) hp)
      have h2 : (txt (pairsFrom [] rows)).length = ((pairsFrom [] rows).map fun p => (p.1 ++ p.2).length).sum := by
        unfold txt; rw [List.length_flatten, List.map_map]; rfl
      have h3 : (txt (pairsFrom [] rows)).length ≤ 100 := by rw [htx, cs_len]; (first | lia | omega)
      rw [← h2] at h1
      simp only [List.length_append] at h1
      (first | lia | omega)
  · have h1 := pairs_len hpo
    have h3 : (txt (pairsFrom [] rows)).length ≤ 100 := by rw [htx, cs_len]; (first | lia | omega)
    unfold toks; rw [List.length_map]; (first | lia | omega)
  · intro c hc
    have hc' : c ∈ cs (Txt.join (Str.ofString "\n") (notesOf rows)) := by
      rw [cs_join]
      have key : ∀ (l : List (List Nat)) (y : List Nat), y ∈ l → c ∈ y → c ∈ glue (cs (Str.ofString "\n")) l := by
        intro l
        induction l with
        | nil => intro y hy; cases hy
        | cons a l ih =>
          intro y hy hcy
          cases l with
          | nil => rw [List.mem_singleton.mp hy] at hcy; exact hcy
          | cons b l =>
            show c ∈ a ++ cs (Str.ofString "\n") ++ glue (cs (Str.ofString "\n")) (b :: l)
            rcases List.mem_cons.mp hy with rfl | hy
            · exact List.mem_append_left _ (List.mem_append_left _ hcy)
            · exact List.mem_append_right _ (ih y hy hcy)
      exact key _ (cs x) (List.mem_map_of_mem hx) hc
    rw [← htx] at hc'
    rcases hch c hc' with h | h | h
    · subst h; decide
    · subst h; decide
    · exact h.bd.2.1
  · rw [read_pairs hok, hfl]; simp
end Mine
end
section
open PySem PySem.W PyProof.Rows PySem.Calls PySem.Spec
set_option maxRecDepth 100000
set_option maxHeartbeats 1000000
set_option pp.deepTerms false
set_option pp.maxSteps 20000
namespace Mine
theorem dummyI0 : True := by
  k_with_none
  w_top off
  trivial
theorem as_two {g h : Heap} {L : Addr} {M : Str → Option Value} {x y : Str} {u v : Option Value} (F : Fr g L h M) (hx : M x = u) (hy : M y = v) : Fr g L h (fun z => if z = x then u else if z = y then v else M z) := by
  have e : (fun z => if z = x then u else if z = y then v else M z) = M := funext fun z => by
    by_cases h1 : z = x
    · rw [if_pos h1, h1, hx]
    · by_cases h2 : z = y
      · rw [if_neg h1, if_pos h2, h2, hy]
      · rw [if_neg h1, if_neg h2]
  rw [e]; exact F
theorem as_three {g h : Heap} {L : Addr} {M : Str → Option Value} {x y z : Str} {u v r : Option Value} (F : Fr g L h M) (hx : M x = u) (hy : M y = v) (hz : M z = r) : Fr g L h (fun q => if q = x then u else if q = y then v else if q = z then r else M q) := by
  have e : (fun q => if q = x then u else if q = y then v else if q = z then r else M q) = M := funext fun q => by
    by_cases h1 : q = x
    · rw [if_pos h1, h1, hx]
    · by_cases h2 : q = y
      · rw [if_neg h1, if_pos h2, h2, hy]
      · by_cases h3 : q = z
        · rw [if_neg h1, if_neg h2, if_pos h3, h3, hz]
        · rw [if_neg h1, if_neg h2, if_neg h3]
  rw [e]; exact F
/- the object of a list of five texts -/
noncomputable abbrev five (l0 l1 l2 l3 l4 : Str) (a0 a1 a2 a3 a4 : Tok) (n : Nat) : Obj := listOf #[.str l0 a0, .str l1 a1, .str l2 a2, .str l3 a3, .str l4 a4] n
/- a walk is told to stop here -/
noncomputable def Halt (P : Prop) : Prop := P
theorem halt {P : Prop} (h : Halt P) : P := h
inductive Stop (P : Prop) : Prop
  | mk (h : P) : Stop P
theorem wp_halt {M : Model} {A : Around} {α : Type} {t : Sem α} {Q : α → Shared → Prop} {E : Value → Shared → Prop} {s : Shared} (h : wpAny M A t (fun a s' => Stop (Q a s')) E s) : wpAny M A t Q E s := wpAny_mono h (fun _ _ ⟨z⟩ => z) fun _ _ z => z
theorem keep_fp {g h h' : Heap} {L : Addr} {news news' : List (Addr × Obj)} {fp : List Addr} (N : News g L h news) (N' : News g L h' news') (sub : ∀ p ∈ news, p ∈ news') (hf : ∀ c ∈ fp, ∃ o, (c, o) ∈ news) : ∀ c ∈ fp, ∀ o, h.get? c = some o → h'.get? c = some o := fun c hc o e => by
  obtain ⟨o', hm⟩ := hf c hc
  rw [(N _ hm).1] at e
  rw [← e]
  exact (N' _ (sub _ hm)).1
theorem not_mem5 {D L a b c d : Addr} (h0 : D ≠ L) (h1 : a < D) (h2 : b < D) (h3 : c < D) (h4 : d < D) : D ∉ [L, a, b, c, d] := fun hm => by
  simp only [List.mem_cons, List.not_mem_nil, or_false] at hm
  rcases hm with e | e | e | e | e
  · exact h0 e
  · exact Nat.lt_irrefl _ (e ▸ h1)
  · exact Nat.lt_irrefl _ (e ▸ h2)
  · exact Nat.lt_irrefl _ (e ▸ h3)
  · exact Nat.lt_irrefl _ (e ▸ h4)
section
variable {w : World} {f : Addr} {body : List Stmt} {name qual : Str} {params : Arguments} {scope : Scope} {dV kV doc pm cdv ct oc : Value} {an od : Option Addr} {osl : Array (Option Value)}
noncomputable def bodyAt (w : World) (f : Addr) (_ : (K9 w.params).lookup f = some ⟨oc, od, .func (fnX name qual params body scope [] dV kV doc pm an cdv ct), osl⟩) : List Stmt := body
noncomputable def scopeAt (w : World) (f : Addr) (_ : (K9 w.params).lookup f = some ⟨oc, od, .func (fnX name qual params body scope [] dV kV doc pm an cdv ct), osl⟩) : Scope := scope
end
noncomputable def foldB (w : World) : List Stmt := by k_dflt (refine' bodyAt w 230 ?k; (case k => k_is))
noncomputable def foldS (w : World) : Scope := by k_dflt (refine' scopeAt w 230 ?k; (case k => k_is))
noncomputable abbrev foldE (w : World) (L : Addr) : Env := envOfC (Str.ofString "_law_fold") (foldS w) L 230 (.ref 229)
end Mine
end
section
open PySem PySem.W PyProof.Rows PySem.Calls PySem.Spec
set_option maxRecDepth 100000
set_option maxHeartbeats 2000000
set_option pp.deepTerms false
set_option pp.maxSteps 20000
namespace Mine
theorem dummyG2 : True := by
  k_with_none
  w_top off
  k_with "lt8" => with_reducible first | assumption | exact And.left (by assumption) | exact And.left (And.right (by assumption)) | exact And.left (And.right (And.right (by assumption))) | exact And.left (And.right (And.right (And.right (by assumption)))) | exact And.left (And.right (And.right (And.right (And.right (by assumption))))) | exact And.left (And.right (And.right (And.right (And.right (And.right (by assumption)))))) | exact And.left (And.right (And.right (And.right (And.right (And.right (And.right (by assumption))))))) | exact And.left (And.right (And.right (And.right (And.right (And.right (And.right (And.right (by assumption)))))))) | exact And.left (And.right (And.right (And.right (And.right (And.right (And.right (And.right (And.right (by assumption))))))))) | exact And.left (And.right (And.right (And.right (And.right (And.right (And.right (And.right (And.right (And.right (by assumption)))))))))) | exact And.left (And.right (And.right (And.right (And.right (And.right (And.right (And.right (And.right (And.right (And.right (by assumption))))))))))) | exact And.left (And.right (And.right (And.right (And.right (And.right (And.right (And.right (And.right (And.right (And.right (And.right (by assumption)))))))))))) | exact And.left (And.right (And.right (And.right (And.right (And.right (And.right (And.right (And.right (And.right (And.right (And.right (And.right (by assumption)))))))))))))
  k_with "lt9" => first | exact Nat.ne_of_lt (by walk_at "lt8") | exact Nat.ne_of_gt (by walk_at "lt8")
  trivial
section
variable {prog : Program} {w : World} {A : Around} {E : Value → Shared → Prop} {s : Shared} {value slice : PySem.Expr} {l : Addr} {t u t1 t2 t3 t4 t5 : Tok} {a r m : Int} {x y : Str} {Q : Value → Shared → Prop}
theorem mod_abs (hm : 0 < m) (h : ∀ r t' k, 0 ≤ r → r < m → Q (.int r t') { s with toks := k }) : wpAny (model prog w) A (binaryOp .Mod (.int a t) (.int m u)) Q E s :=
  mod_int' (by (first | lia | omega)) (h _ _ _ (fmod_lo a hm) (fmod_hi a hm))
theorem foldl_cps (c : Array Nat) : ∀ (n : Nat) (b : Array Nat), ((List.replicate n c).foldl (· ++ ·) b).toList = b.toList ++ (List.replicate n c.toList).flatten
  | 0, b => by simp
  | n + 1, b => by
    rw [List.replicate_succ, List.foldl_cons, foldl_cps c n]
    simp [List.replicate_succ]
theorem cs_mul {c : Nat} (hx : cs x = [c]) {n : Nat} (hn : 1 ≤ n) : cs (Txt.mul x (n : Int)) = List.replicate n c := by
  have hl : x.length = 1 := by rw [← cs_len, hx]; rfl
  unfold Txt.mul
  rw [if_neg (by (first | lia | omega))]
  split
  · rename_i h
    have : n = 1 := by
      rw [hl] at h
      simp at h; (first | lia | omega)
    rw [this, hx]; rfl
  · show ((List.replicate (n : Int).toNat x.cps).foldl (· ++ ·) #[]).toList = _
    rw [foldl_cps, Int.toNat_natCast, show x.cps.toList = [c] from hx]
    simp
/- one or two blanks; a run of one letter; a flag -/
noncomputable def LeadOk (z : Str) : Prop := ∃ q, 1 ≤ q ∧ q ≤ 2 ∧ cs z = List.replicate q 32
noncomputable def RunOk (z : Str) : Prop := ∃ q c, 1 ≤ q ∧ q ≤ 4 ∧ 97 ≤ c ∧ c ≤ 101 ∧ cs z = List.replicate q c
noncomputable def WdOk (x : Str) : Prop := (∀ c ∈ cs x, wordCh c) ∧ (∃ c ∈ cs x, 97 ≤ c) ∧ x.length ≤ 5
theorem mul_any {n c : Nat} (hx : cs x = [c]) (h0 : 0 ≤ r) (h1 : r < (n : Int)) (hn : n ≤ 16) (h : ∀ z t' k q, 1 ≤ q → q ≤ n → cs z = List.replicate q c → Q (.str z t') { s with toks := k }) :
    wpAny (model prog w) A (binaryOp .Mult (.str x t) (.int (r + 1) u)) Q E s := by
  refine SB.mul (mulOk_of 16 1048576 (by rw [← cs_len, hx]; simp) (by (first | lia | omega)) (by (first | lia | omega)) (by decide) (by decide)) fun t' k => ?_
  obtain ⟨q, hq⟩ : ∃ q : Nat, r + 1 = (q : Int) := ⟨(r + 1).toNat, by (first | lia | omega)⟩
  rw [hq]
  exact h _ t' k q (by (first | lia | omega)) (by (first | lia | omega)) (cs_mul hx (by (first | lia | omega)))
theorem lead_abs (h0 : 0 ≤ r) (h1 : r < 2) (h : ∀ z t' k, LeadOk z → Q (.str z t') { s with toks := k }) :
    wpAny (model prog w) A (binaryOp .Mult (.str (Str.ofString " ") t) (.int (r + 1) u)) Q E s :=
  mul_any (n := 2) (c := 32) (by decide +kernel) h0 h1 (by decide) fun z t' k q a b e => h z t' k ⟨q, a, b, e⟩
theorem run_abs (hx : (cs x).length = 1 ∧ 97 ≤ (cs x).headD 0 ∧ (cs x).headD 0 ≤ 101) (h0 : 0 ≤ r) (h1 : r < 4) (h : ∀ z t' k, RunOk z → Q (.str z t') { s with toks := k }) :
    wpAny (model prog w) A (binaryOp .Mult (.str x t) (.int (r + 1) u)) Q E s := by
  have hc : cs x = [(cs x).headD 0] := by
    cases hh : cs x with
    | nil => rw [hh] at hx; cases hx.1
    | cons a b =>
      cases b with
      | nil => rfl
      | cons d e => rw [hh] at hx; simp at hx
  exact mul_any (n := 4) hc h0 h1 (by decide) fun z t' k q a b e => h z t' k ⟨q, _, a, b, hx.2.1, hx.2.2, e⟩
noncomputable def menu : List Str := [Str.ofString "", Str.ofString "\\", Str.ofString "(", Str.ofString "#", Str.ofString "$"]
theorem menu_small : ∀ p ∈ menu, p.length ≤ 1 ∧ ∀ c ∈ cs p, c = 92 ∨ c = 40 ∨ c = 35 ∨ c = 36 := by decide +kernel
theorem menu_abs (hl : s.heap.IsList l #[.str (Str.ofString "") t1, .str (Str.ofString "\\") t2, .str (Str.ofString "(") t3, .str (Str.ofString "#") t4, .str (Str.ofString "$") t5]) (h0 : 0 ≤ r) (h1 : r < 5) (h : ∀ p t', p ∈ menu → Q (.str p t') s)
    (hs : subscripted slice false (.ref l) (.int r u) = operate [.ref l, .int r u] (getItem (.ref l) (.int r u)) := by with_unfolding_all rfl) :
    wpAny (model prog w) A (subscriptTail value slice (.ref l) (.int r u)) Q E s := by
  refine KTb.item_list (vs := [.str (Str.ofString "") t1, .str (Str.ofString "\\") t2, .str (Str.ofString "(") t3, .str (Str.ofString "#") t4, .str (Str.ofString "$") t5]) (ws := menu) hl (.cons _ _ (.cons _ _ (.cons _ _ (.cons _ _ (.cons _ _ .nil))))) h0 h1 (by (first | lia | omega)) (fun t' hlt => ?_) hs
  have hm : menu.getD r.toNat Str.empty ∈ menu := by
    rw [List.getD_eq_getElem?_getD, List.getElem?_eq_getElem hlt]; exact List.getElem_mem _
  exact h _ t' hm
theorem letters : ∀ p : Int, 0 ≤ p → p < 5 → (cs (Txt.item (Str.ofString "abcde") p)).length = 1 ∧ 97 ≤ (cs (Txt.item (Str.ofString "abcde") p)).headD 0 ∧ (cs (Txt.item (Str.ofString "abcde") p)).headD 0 ≤ 101 := fun p h0 h5 => by
  obtain rfl | rfl | rfl | rfl | rfl : p = 0 ∨ p = 1 ∨ p = 2 ∨ p = 3 ∨ p = 4 := by (first | lia | omega)
  all_goals decide +kernel
theorem letter_abs {p : Int} (h0 : 0 ≤ p) (h5 : p < 5) (h : ∀ y t' k, (cs y).length = 1 ∧ 97 ≤ (cs y).headD 0 ∧ (cs y).headD 0 ≤ 101 → Q (.str y t') { s with toks := k })
    (hs : subscripted slice false (.str (Str.ofString "abcde") t) (.int p u) = operate [.str (Str.ofString "abcde") t, .int p u] (getItem (.str (Str.ofString "abcde") t) (.int p u)) := by with_unfolding_all rfl)
    (ht : ∀ r, letTemporaryGo value (.str (Str.ofString "abcde") t) r = pure () := by intro _; with_unfolding_all rfl) :
    wpAny (model prog w) A (subscriptTail value slice (.str (Str.ofString "abcde") t) (.int p u)) Q E s :=
  KXi.item (n := 5) (by decide +kernel) (by (first | lia | omega)) (by (first | lia | omega)) (by decide) (fun _ => h _ _ _ (letters p h0 h5)) hs ht
theorem append_method {M : Model} {h₀ : Heap} {L : Addr} {news : List (Addr × Obj)} {its : Array Value} {n : Nat} {pl : Sem Bool} {Q : Value × List Value → Shared → Prop} (N : News h₀ L s.heap news) (hm : (l, listOf its n) ∈ news) (h : Q (.builtin "list.append", [.ref l]) s) : wpAny M A (getMethod (.ref l) (Str.ofString "append") pl) Q E s := by
  have e := N.get hm
  exact getMethod_builtin (T := "list") ⟨_, e, rfl⟩ PySem.F.plainAttrs_list PySem.F.slot_list_append PySem.F.type_list_append (fun a ea => by injection ea with ea; subst ea; exact ⟨_, e, rfl⟩) h
theorem callWith_m1 {M : Model} {id : String} {first : List Value} {e : PySem.Expr} {env : Env} {pos : Pos} {Q : Value → Shared → Prop} (h : wpAny M A (eval e env) (fun v s₁ => wpAny M A (call (.builtin id) (first ++ [v])) Q E s₁) E s) (he : starEach [e] env = [(false, eval e env)] := by rfl) :
    wpAny M A (callWith pos (.builtin id) first (backTo pos (starEach [e] env)) []) Q E s := by
  rw [he]
  exact Calls.callWith_builtin rfl (Calls.evalArgs_plain (Calls.spliced_cons (wpAny_mono h (fun _ _ h₁ => Calls.spliced_nil h₁) fun _ _ e => e)))
theorem word_abs (hx : x ∈ menu) (hy : RunOk y) (h : ∀ v t' k, WdOk v → Q (.str v t') { s with toks := k }) : wpAny (model prog w) A (binaryOp .Add (.str x t) (.str y u)) Q E s := by
  obtain ⟨m1, m2⟩ := menu_small x hx
  obtain ⟨q, c, q1, q2, c1, c2, e⟩ := hy
  have ly : y.length = q := by rw [← cs_len, e, List.length_replicate]
  refine PyProof.Rows.add_str (fun t' k => h _ t' k ⟨fun d hd => ?_, ?_, ?_⟩) (by rw [show sizeLine = 16777216 from rfl]; (first | lia | omega))
  · rw [cs_app] at hd
    rcases List.mem_append.mp hd with hd | hd
    · rcases m2 d hd with h | h | h | h
      · exact .inl h
      · exact .inr (.inl h)
      · exact .inr (.inr (.inl h))
      · exact .inr (.inr (.inr (.inl h)))
    · rw [e] at hd
      have := (List.mem_replicate.mp hd).2
      unfold wordCh
      (first | lia | omega)
  · refine ⟨c, ?_, c1⟩
    rw [cs_app, e]
    exact List.mem_append_right _ (List.mem_replicate.mpr ⟨by (first | lia | omega), rfl⟩)
  · rw [Str.length_append]; (first | lia | omega)
end
theorem withG2x28 : True := by
  k_with_none
  w_top off
  k_with "lt8" => with_reducible first | assumption | exact And.left (by assumption) | exact And.left (And.right (by assumption)) | exact And.left (And.right (And.right (by assumption))) | exact And.left (And.right (And.right (And.right (by assumption)))) | exact And.left (And.right (And.right (And.right (And.right (by assumption))))) | exact And.left (And.right (And.right (And.right (And.right (And.right (by assumption)))))) | exact And.left (And.right (And.right (And.right (And.right (And.right (And.right (by assumption))))))) | exact And.left (And.right (And.right (And.right (And.right (And.right (And.right (And.right (by assumption)))))))) | exact And.left (And.right (And.right (And.right (And.right (And.right (And.right (And.right (And.right (by assumption))))))))) | exact And.left (And.right (And.right (And.right (And.right (And.right (And.right (And.right (And.right (And.right (by assumption)))))))))) | exact And.left (And.right (And.right (And.right (And.right (And.right (And.right (And.right (And.right (And.right (And.right (by assumption))))))))))) | exact And.left (And.right (And.right (And.right (And.right (And.right (And.right (And.right (And.right (And.right (And.right (And.right (by assumption)))))))))))) | exact And.left (And.right (And.right (And.right (And.right (And.right (And.right (And.right (And.right (And.right (And.right (And.right (And.right (by assumption)))))))))))))
  k_with "lt9" => first | exact Nat.ne_of_lt (by walk_at "lt8") | exact Nat.ne_of_gt (by walk_at "lt8")
  k_with "call builtin:list.append" => (k_here; (with_reducible show wpAny _ _ (call (Value.builtin _) [Value.ref _, _]) _ _ _); k_dflt (refine' append_K ?kw9k1 ?kw9k2 ?kw9k3 ?_ ?kw9z; (case kw9k1 => k_asm); (case kw9k2 => k_asm); (case kw9k3 => k_upd); (case kw9z => assumption); k_whole); intro _ _ _)
  k_with "execs cons" => (k_here; (with_reducible refine wpAny_execs_cons ?_); (try dsimp only))
  k_with "execs nil" => (k_here; (with_reducible refine wpAny_execs_nil ?_); (try dsimp only))
  k_with "callWith" => (k_here; (with_reducible show wpAny _ _ (callWith _ (Value.builtin _) (_ :: _) (backTo _ (starEach [_] _)) []) _ _ _); (refine callWith_m1 ?_); (try dsimp only [List.cons_append, List.nil_append]))
  k_with "getMethod ref" => (k_here; (with_reducible show wpAny _ _ (getMethod (Value.ref _) (Str.ofString "append") _) _ _ _); k_dflt (refine append_method (by k_asm) (by k_mem) ?_))
  k_with "binaryOp Mod int int" => (k_here; (with_reducible show wpAny _ _ (binaryOp Operator.Mod (Value.int _ _) (Value.int _ _)) _ _ _); k_dflt (refine mod_abs (by decide) ?_); intro _ _ _ _ _)
  k_with "binaryOp Mult str int" => (k_here; (with_reducible show wpAny _ _ (binaryOp Operator.Mult (Value.str _ _) (Value.int _ _)) _ _ _); k_dflt (first | (with_reducible refine lead_abs (by assumption) (by assumption) ?_) | refine run_abs (by assumption) (by assumption) (by assumption) ?_); intro _ _ _ _)
  k_with "subscriptTail" => (k_here; (with_reducible show wpAny _ _ (subscriptTail _ _ (Value.ref _) (Value.int _ _)) _ _ _); k_dflt (refine menu_abs (News.isList (by k_asm) (by k_mem)) (by assumption) (by assumption) ?_); intro _ _ _)
  k_with "subscriptTail" => (k_here; (with_reducible show wpAny _ _ (subscriptTail _ _ (Value.str (Str.ofString "abcde") _) (Value.int _ _)) _ _ _); k_dflt (refine letter_abs (by assumption) (by assumption) ?_); intro _ _ _ _)
  k_with "binaryOp Add str str" => (k_here; (with_reducible show wpAny _ _ (binaryOp Operator.Add (Value.str _ _) (Value.str _ _)) _ _ _); k_dflt (refine word_abs (by assumption) (by assumption) ?_); intro _ _ _ _)
  trivial
noncomputable def flagB (w : World) : List Stmt := by k_dflt (refine' bodyAt w 225 ?k; (case k => k_is))
noncomputable def flagS (w : World) : Scope := by k_dflt (refine' scopeAt w 225 ?k; (case k => k_is))
noncomputable abbrev flagE (w : World) (L : Addr) : Env := envOf (Str.ofString "_law_flags") (flagS w) L 225 (.ref 224)
noncomputable def forB : List Stmt → List Stmt
  | .For _ _ b _ _ :: _ => b
  | _ => []
noncomputable def forT : List Stmt → Expr
  | .For t _ _ _ _ :: _ => t
  | _ => .Constant .none 0 default
theorem AllObj.mono : ∀ {ws : List (Addr × String)} {k k' : List (Addr × Obj) → Prop}, (∀ its, k its → k' its) → AllObj ws k → AllObj ws k'
  | [], _, _, h, x => h _ x
  | _ :: _, _, _, h, x => fun o ho => AllObj.mono (fun its => h _) (x o ho)
section
variable {prog : Program} {w : World} {A : Around} {E : Value → Shared → Prop} {s : Shared} {h₀ : Heap} {env : Env} {target : Expr} {body : List Stmt} {Q : Flow → Shared → Prop} {ws : List (Addr × String)} {keep : List (Addr × Obj)}
theorem items_less {xs : List Itm} {m m' : Str → Option Value} {n n' : List (Addr × Obj)} (e : m = m') (hs : ∀ p ∈ n', p ∈ n) (H : ItemsRest prog w A E h₀ env target body Q s ws keep xs m' n') : ItemsRest prog w A E h₀ env target body Q s ws keep xs m n := by
  subst e
  cases xs with
  | nil => exact fun h tk F N => H h tk F fun p hp => N p (hs p hp)
  | cons a r => exact fun v h tk hv F => AllObj.mono (fun its k N => k fun p hp => N p ((List.mem_append.mp hp).elim (List.mem_append_left _) fun h => List.mem_append_right _ (hs p h))) (H v h tk hv F)
end
theorem map_three {M : Str → Option Value} {M0 : Str → Option Value} {x y z : Str} (h : ∀ q, q ≠ x → q ≠ y → q ≠ z → M q = M0 q) : M = fun q => if q = x then M q else if q = y then M q else if q = z then M q else M0 q := funext fun q => by
  by_cases h1 : q = x
  · rw [if_pos h1]
  · by_cases h2 : q = y
    · rw [if_neg h1, if_pos h2]
    · by_cases h3 : q = z
      · rw [if_neg h1, if_neg h2, if_pos h3]
      · rw [if_neg h1, if_neg h2, if_neg h3, h q h1 h2 h3]
noncomputable def ifE : List Stmt → Expr
  | _ :: .Expr (.Call _ (a :: _) _ _) _ :: _ => a
  | _ => .Constant .none 0 default
theorem lead_if {w : World} {mg mb : Str → Option Value} {g : Heap} {L' : Addr} {s : Shared} {m : Str → Option Value} {E : Value → Shared → Prop} {Q : Value → Shared → Prop} {p x : Int} {tp tx : Tok} {vb : Option Value}
    (X : (K9 w.params).In g) (T : TopRead view lo mg mb g) (hp0 : 0 ≤ p)
    (F : Fr g L' s.heap (fun y => if y = Str.ofString "x" then some (.int x tx) else if y = Str.ofString "base" then vb else if y = Str.ofString "place" then some (.int p tp) else m y)) (N : News g L' s.heap [])
    (h : ∀ l t k, (p = 0 → l = Str.ofString "") → (p ≠ 0 → LeadOk l) → Q (.str l t) { s with toks := k }) :
    wpAny (model pw w) ((Av 5).deeper (flagE w L')) (eval (ifE (forB ((flagB w).drop 2))) (flagE w L')) Q E s := by
  unfold flagE flagB bodyAt flagS scopeAt
  dsimp only [List.drop_succ_cons, List.drop_zero, List.drop, forB, ifE]
  by_cases hp : p = 0
  · subst hp
    refine wp_halt ?_
    k_steps
    exact Stop.mk (h _ _ _ (fun _ => rfl) fun e => absurd rfl e)
  · have hp1 : 0 < p := by (first | lia | omega)
    refine wp_halt ?_
    k_steps
    exact Stop.mk (h _ _ _ (fun e => absurd e hp) fun _ => by assumption)
theorem withG2x29 : True := by
  k_with "ItemsRest" => (refine halt ?_)
  k_with "eval IfExp" => (refine halt ?_)
  trivial
noncomputable abbrev flagM (v0 : Str → Option Value) (lw la sc : Addr) (m1 : Str → Option Value) : Str → Option Value := fun z => if z = Str.ofString "x" then v0 z else if z = Str.ofString "base" then v0 z else if z = Str.ofString "place" then v0 z else if z = Str.ofString "words" then some (.ref lw) else if z = Str.ofString "leads" then some (.ref la) else if z = Str.ofString "script" then some (.ref sc) else m1 z
theorem flag_map {x b p : Option Value} {v0 m1 : Str → Option Value} {lw la sc : Addr} : (fun y => if y = Str.ofString "x" then x else if y = Str.ofString "base" then b else if y = Str.ofString "place" then p else flagM v0 lw la sc m1 y) = flagM (fun y => if y = Str.ofString "x" then x else if y = Str.ofString "base" then b else p) lw la sc m1 := funext fun y => by
  dsimp only [flagM]
  by_cases h1 : y = Str.ofString "x"
  · simp only [if_pos h1]
  · by_cases h2 : y = Str.ofString "base"
    · simp only [if_neg h1, if_pos h2]
    · by_cases h3 : y = Str.ofString "place"
      · simp only [if_neg h1, if_neg h2, if_pos h3]
      · simp only [if_neg h1, if_neg h2, if_neg h3]
theorem flag_start {m : Str → Option Value} {lw la sc : Addr} (hm : m (Str.ofString "script") = some (.ref sc)) : (fun y => if y = Str.ofString "words" then some (.ref lw) else if y = Str.ofString "leads" then some (.ref la) else m y) = flagM (fun y => if y = Str.ofString "words" then some (.ref lw) else if y = Str.ofString "leads" then some (.ref la) else m y) lw la sc m := funext fun y => by
  dsimp only [flagM]
  by_cases h1 : y = Str.ofString "x"
  · rw [if_pos h1]
  · by_cases h2 : y = Str.ofString "base"
    · rw [if_neg h1, if_pos h2]
    · by_cases h3 : y = Str.ofString "place"
      · rw [if_neg h1, if_neg h2, if_pos h3]
      · rw [if_neg h1, if_neg h2, if_neg h3]
        by_cases h4 : y = Str.ofString "words"
        · rw [if_pos h4, if_pos h4]
        · by_cases h5 : y = Str.ofString "leads"
          · rw [if_neg h4, if_neg h4, if_pos h5, if_pos h5]
          · rw [if_neg h4, if_neg h4, if_neg h5, if_neg h5]
            by_cases h6 : y = Str.ofString "script"
            · rw [if_pos h6, h6, hm]
            · rw [if_neg h6]
theorem flag_turn {w : World} {mg mb : Str → Option Value} {g : Heap} {L' I sc l la lw : Addr} {s : Shared} {vs : List Value} {ns : List Int} {E : Value → Shared → Prop} {Q : Flow → Shared → Prop} {m1 v0 : Str → Option Value} {ol : Obj} {ll wl : Array Value} {na nw : Nat} {p b0 : Int} {tb : Tok} {r : List Itm}
    (X : (K9 w.params).In g) (T : TopRead view lo mg mb g) (hsc : g.IsList sc vs.toArray) (hI : IntsAre vs ns) (hlen : ns.length ≤ 63) (hp0 : 0 ≤ p) (hp5 : p < 5) (z1 : ll.size ≤ sizeLine) (z2 : wl.size ≤ sizeLine)
    (l1 : @LT.lt Nat _ la lw) (l2 : @LT.lt Nat _ lw l ∧ @LT.lt Nat _ la l) (l3 : @LT.lt Nat _ l I ∧ @LT.lt Nat _ lw I ∧ @LT.lt Nat _ la I)
    (hr : ∀ v l' a wd b, (p = 0 → l' = Str.ofString "") → (p ≠ 0 → LeadOk l') → WdOk wd → ItemsRest pw w ((Av 5).deeper (flagE w L')) E g (flagE w L') (forT ((flagB w).drop 2)) (forB ((flagB w).drop 2)) Q s [(I + 1, "enumerate"), (I, "list_iterator")] [(l, ol)] r (flagM v lw la sc m1) [(l, ol), (lw, listOf (wl.push (.str wd b)) (nw + 1)), (la, listOf (ll.push (.str l' a)) (na + 1))]) :
    ItemsRest pw w ((Av 5).deeper (flagE w L')) E g (flagE w L') (forT ((flagB w).drop 2)) (forB ((flagB w).drop 2)) Q s [(I + 1, "enumerate"), (I, "list_iterator")] [(l, ol)] (.pair (fun t => Value.int p t) (.int b0 tb) :: r) (flagM v0 lw la sc m1) [(l, ol), (lw, listOf wl nw), (la, listOf ll na)] := by
  have hm : ∀ m n n', (∀ p ∈ n', p ∈ n) → ItemsRest pw w ((Av 5).deeper (flagE w L')) E g (flagE w L') (forT ((flagB w).drop 2)) (forB ((flagB w).drop 2)) Q s [(I + 1, "enumerate"), (I, "list_iterator")] [(l, ol)] r m n' → ItemsRest pw w ((Av 5).deeper (flagE w L')) E g (flagE w L') (forT ((flagB w).drop 2)) (forB ((flagB w).drop 2)) Q s [(I + 1, "enumerate"), (I, "list_iterator")] [(l, ol)] r m n := fun _ _ _ => items_less rfl
  generalize hR : (ItemsRest pw w ((Av 5).deeper (flagE w L')) E g (flagE w L') (forT ((flagB w).drop 2)) (forB ((flagB w).drop 2)) Q s [(I + 1, "enumerate"), (I, "list_iterator")] [(l, ol)] r) = R at hr hm
  refine ItemsRest.pair (fun T' t' h' tk' hT' F' => ?_)
  rw [hR]
  clear hR
  try dsimp only at hT'
  ktu_objs
  unfold flagE flagB bodyAt flagS scopeAt
  dsimp only [List.drop_succ_cons, List.drop_zero, List.drop, forB, forT, flagM] at F' ⊢
  k_steps
  rename Fr _ _ _ _ => F1
  rename News _ _ _ _ => N1
  unfold Halt
  refine lead_if X T hp0 F1 (fun _ h => nomatch h) (fun l' ta ka hl0 hl1 => ?_)
  k_steps
  rw [flag_map]
  exact hm _ _ _ (fa_cons (by k_mem) (fa_cons (by k_mem) (fa_cons (by k_mem) fa_nil))) (hr _ _ _ _ _ hl0 hl1 (by assumption))
theorem flags_c {w : World} {mg mb : Str → Option Value} {b : Heap} {s : Shared} {sc : Addr} {vs : List Value} {ns : List Int} {Q E : Value → Shared → Prop}
    (B : Base w mg mb b) (kb : Sub b s.heap) (hsc : b.IsList sc vs.toArray) (hI : IntsAre vs ns) (hlen : ns.length ≤ 63)
    (hret : ∀ h' tk' T la lw (l1 l2 l3 l4 w0 w1 w2 w3 w4 : Str) (a0 a1 a2 a3 a4 b0 b1 b2 b3 b4 : Tok) na nb, But [] s.heap h' → s.heap.get? T = none → s.heap.get? la = none → s.heap.get? lw = none → h'.get? T = some { cls := .type "tuple", data := .seq #[.ref la, .ref lw] } →
      h'.get? la = some (listOf #[.str (Str.ofString "") a0, .str l1 a1, .str l2 a2, .str l3 a3, .str l4 a4] na) → h'.get? lw = some (listOf #[.str w0 b0, .str w1 b1, .str w2 b2, .str w3 b3, .str w4 b4] nb) → @Ne Nat la lw →
      LeadOk l1 ∧ LeadOk l2 ∧ LeadOk l3 ∧ LeadOk l4 → WdOk w0 ∧ WdOk w1 ∧ WdOk w2 ∧ WdOk w3 ∧ WdOk w4 → Q (.ref T) { s with heap := h', toks := tk' }) :
    wpAny (model pw w) (Av 5) (call (.ref 225) [.ref sc]) Q E s := by
  refine wpAny_call ?_
  have N0 : ∀ p ∈ ([] : List (Addr × Obj)), s.heap.get? p.1 = some p.2 ∧ b.get? p.1 = none := fun _ h => nomatch h
  k_dflt (refine' enter (binds := [(Str.ofString "script", .ref sc)]) B kb N0 ?k4 ?k5 ?k6 ?k7 ?k8 ?_ ?k10 ?k11 ?k12 ?k13; (case k4 => k_is); (case k5 => k_is); (case k6 => decide); (case k7 => exact BindsTo.of_eq rfl); (case k8 => exact locs rfl); (case k10 => decide); (case k11 => exact rfl); (case k12 => exact rfl); (case k13 => exact rfl))
  intro g L' h₁ tk₀ F N X T hk hs hL
  (try dsimp only)
  (try k_fold)
  have hL0 : g.IsList sc vs.toArray := hsc.at fun o e => hs _ o e
  k_steps
  rename_i l1 i' l3
  rename (@LT.lt Nat _ _ _ ∧ True) => l0
  have l0 := l0.1
  have l1 : _ ∧ _ := ⟨l1.1, l1.2.1⟩
  have l3 : _ ∧ _ ∧ _ := ⟨l3.1, l3.2.1, l3.2.2.1⟩
  unfold Halt
  refine items_less (flag_start (sc := sc) (by with_unfolding_all rfl)) (fun p hp => hp) ?_
  refine flag_turn X T hL0 hI hlen (by decide) (by decide) (by with_unfolding_all exact Nat.le_of_ble_eq_true rfl) (by with_unfolding_all exact Nat.le_of_ble_eq_true rfl) l0 l1 l3 (fun v1 l0 a0 w0 b0 e0 _ k0 => ?_)
  obtain rfl := e0 rfl
  refine flag_turn X T hL0 hI hlen (by decide) (by decide) (by with_unfolding_all exact Nat.le_of_ble_eq_true rfl) (by with_unfolding_all exact Nat.le_of_ble_eq_true rfl) (by assumption) l1 l3 (fun v2 l1' a1 w1 b1 _ e1 k1 => ?_)
  refine flag_turn X T hL0 hI hlen (by decide) (by decide) (by with_unfolding_all exact Nat.le_of_ble_eq_true rfl) (by with_unfolding_all exact Nat.le_of_ble_eq_true rfl) (by assumption) l1 l3 (fun v3 l2' a2 w2 b2 _ e2 k2 => ?_)
  refine flag_turn X T hL0 hI hlen (by decide) (by decide) (by with_unfolding_all exact Nat.le_of_ble_eq_true rfl) (by with_unfolding_all exact Nat.le_of_ble_eq_true rfl) (by assumption) l1 l3 (fun v4 l3' a3 w3 b3 _ e3 k3 => ?_)
  refine flag_turn X T hL0 hI hlen (by decide) (by decide) (by with_unfolding_all exact Nat.le_of_ble_eq_true rfl) (by with_unfolding_all exact Nat.le_of_ble_eq_true rfl) (by assumption) l1 l3 (fun v5 l4' a4 w4 b4 _ e4 k4 => ?_)
  refine ItemsRest.zero (fun h' tk' F' N' => ?_)
  try dsimp only [flagM] at F'
  k_steps
  rename Fr _ _ _ _ => F1
  rename News _ _ _ _ => N1
  refine' hret _ _ _ _ _ _ _ _ _ _ _ _ _ _ _ _ _ _ _ _ _ _ _ _ _ _ (but_end hk F1.keep fa_nil) (fresh_end hk (N1 _ (.head _)).2.2 fa_nil) ?fl ?fw (N1 _ (.head _)).1 ?gl ?gw ?ne ?ol ?ow
  case gl => exact (N1 (_, listOf #[_, _, _, _, _] _) (by k_mem)).1
  case gw => exact (N1 (_, listOf (#[_, _, _, _].push _) _) (by k_mem)).1
  case fl => exact fresh_end hk (N1 (_, _) (by k_mem)).2.2 fa_nil
  case fw => exact fresh_end hk (N1 (_, _) (by k_mem)).2.2 fa_nil
  case ne => k_ne
  case ol => exact ⟨e1 (by decide), e2 (by decide), e3 (by decide), e4 (by decide)⟩
  case ow => exact ⟨k0, k1, k2, k3, k4⟩
end Mine
end
section
open PySem PySem.W PyProof.Rows PySem.Calls PySem.Spec
set_option maxRecDepth 100000
set_option maxHeartbeats 1000000
set_option pp.deepTerms false
set_option pp.maxSteps 20000
namespace Mine
section
variable {prog : Program} {w : World} {A : Around} {E : Value → Shared → Prop} {R : Result → Shared → Prop} {s : Shared} {env : Env} {body : List Stmt}
/- a for loop over pairs that binds one name anew at each turn -/
theorem for_pairs_upd {I : Addr} {fp wr : List Addr} {n : Nat} {Pt : Nat → Array Value → Prop} {St : Nat → Heap → Prop} {Mid : Nat → Addr → Heap → Prop} {a b x : Str} {pa pb tp : Pos} {kk : Nat} {v1 v2 : Nat → Value} {m₀ : Str → Option Value} (J : Nat → Value → Shared → Prop)
    (W : WalksU prog w A I fp wr n Pt St Mid) (hh : A.handled = none) (hP : ∀ i v, i < n → Pt i v → v = #[v1 i, v2 i])
    (ha : env.kindOf a = some .local) (hb : env.kindOf b = some .local) (hp : (env.scope.kind == .class || (env.scope.kind == .module && env.locals != env.globals)) = false)
    (hL : env.locals ∉ wr) (hLf : env.locals ∉ fp)
    (keep : ∀ i v s h' tk, J i v s → (∀ c o, c ∉ env.locals :: wr → s.heap.get? c = some o → h'.get? c = some o) → J i v { s with heap := h', toks := tk })
    (turn : ∀ i v s, i < n → J i v s → St (i + 1) s.heap → s.heap.Ns env.locals (fun z => if z = b then some (v2 i) else if z = a then some (v1 i) else if z = x then some v else m₀ z) →
      wpAny (model prog w) A (execs body env) (fun f s' => (f = .next ∨ f = .cont) ∧ ∃ v', J (i + 1) v' s' ∧ St (i + 1) s'.heap ∧ ∃ m', s'.heap.Ns env.locals m' ∧ ∀ z, z ≠ a → z ≠ b → m' z = if z = x then some v' else m₀ z) (fun _ _ => False) s)
    (done : ∀ s v (u : Str → Option Value), J n v s → s.heap.Ns env.locals (fun z => if z = b then u z else if z = a then u z else if z = x then some v else m₀ z) → R (.ok .next) s) :
    ∀ d i v s m, i + d = n → J i v s → St i s.heap → s.heap.Ns env.locals m → (∀ z, z ≠ a → z ≠ b → m z = if z = x then some v else m₀ z) →
      codeAny (model prog w) A (.forLoop (.Tuple [.Name a pa, .Name b pb] kk tp) (.ref I) body [] env) R s
  | 0, i, v, s, m, e, hJ, hS, hN, hm => by
    have e : i = n := by (first | lia | omega)
    subst e
    refine for_turn2 (W.done s _ _ hS fun h' tk hk => ?_)
    dsimp only
    refine wpAny_pure ?_
    have k2 : ∀ c o, c ∉ env.locals :: wr → s.heap.get? c = some o → h'.get? c = some o := fun c o hc => hk c o fun h => hc (List.mem_cons_of_mem _ h)
    have em : m = fun z => if z = b then m z else if z = a then m z else if z = x then some v else m₀ z := funext fun z => by
      by_cases h2 : z = b
      · rw [if_pos h2]
      · by_cases h1 : z = a
        · rw [if_neg h2, if_pos h1]
        · rw [if_neg h2, if_neg h1, hm z h1 h2]
    have hN' : h'.Ns env.locals m := hN.at' fun o x => hk _ o hL x
    rw [em] at hN'
    exact done _ v m (keep i v s h' tk hJ k2) hN'
  | d + 1, i, v, s, m, e, hJ, hS, hN, hm => by
    have hi : i < n := by (first | lia | omega)
    refine for_turn2 (W.item i s _ _ hi hS fun T vals h1 tk1 hPt hT hMid hk1 => ?_)
    dsimp only
    have hv := hP i vals hi hPt
    subst hv
    refine W.go _ _ _ i T _ _ _ hMid fun h2 hS2 hk2 => ?_
    have hTw := W.apart i T h1 hMid
    have hN1 : h1.Ns env.locals m := hN.at' fun o x => hk1 _ o hL x
    have hN2 : h2.Ns env.locals m := hN1.at' fun o x => hk2 _ o hL x
    have hT2 : h2.IsTuple T #[v1 i, v2 i] := hT.at fun o x => hk2 _ o hTw x
    refine kcp_assign hh hT2 ha hb hp hN2 fun h3 tk3 hN3 hk3 => ?_
    have hkJ : ∀ c o, c ∉ env.locals :: wr → s.heap.get? c = some o → h3.get? c = some o := fun c o hc x => hk3 c o (fun h => hc (h ▸ List.mem_cons_self ..)) (hk2 c o (fun h => hc (List.mem_cons_of_mem _ h)) (hk1 c o (fun h => hc (List.mem_cons_of_mem _ h)) x))
    have hS3 : St (i + 1) h3 := W.frame _ _ _ hS2 fun c hc o x => hk3 c o (fun h => hLf (h ▸ hc)) x
    have hab : (fun z => if z = b then some (v2 i) else if z = a then some (v1 i) else m z) = fun z => if z = b then some (v2 i) else if z = a then some (v1 i) else if z = x then some v else m₀ z := funext fun z => by
      by_cases h2 : z = b
      · rw [if_pos h2, if_pos h2]
      · by_cases h1 : z = a
        · rw [if_neg h2, if_pos h1, if_neg h2, if_pos h1]
        · rw [if_neg h2, if_neg h1, if_neg h2, if_neg h1, hm z h1 h2]
    rw [hab] at hN3
    refine wpAny_mono (turn i v { s with heap := h3, toks := tk3 } hi (keep i v s h3 tk3 hJ hkJ) hS3 hN3) (fun f s' z => ?_) fun _ _ z => z
    obtain ⟨hf, v', hJ', hS', m', hN', hm'⟩ := z
    rcases hf with rfl | rfl
    · exact for_pairs_upd J W hh hP ha hb hp hL hLf keep turn done d (i + 1) v' s' m' (by (first | lia | omega)) hJ' hS' hN' hm'
    · exact for_pairs_upd J W hh hP ha hb hp hL hLf keep turn done d (i + 1) v' s' m' (by (first | lia | omega)) hJ' hS' hN' hm'
end
end Mine
end
section
open PySem PySem.W PyProof.Rows PySem.Calls PySem.Spec
set_option maxRecDepth 100000
set_option maxHeartbeats 1000000
set_option pp.deepTerms false
set_option pp.maxSteps 20000
namespace Mine
section
variable {prog : Program} {w : World} {A : Around} {h₀ : Heap} {L : Addr} {m : Str → Option Value} {env : Env} {elt : Expr} {x : Str} {scope : Scope} {cl : List (Str × Addr)} {s : Shared} {Fin : List Value → List (Addr × Obj) → Prop} {news : List (Addr × Obj)} {a : Int}
/- a comprehension over a range whose element is a text -/
theorem str_range {n : Nat} (g : Nat → Str)
    (turn : ∀ i t C m₂ h tk (E' : Value → Shared → Prop), i < n → h.Ns C m₂ → m₂ x = some (.int (a + (i : Int)) t) → News h₀ L h news →
      wpAny (model prog w) A (eval elt (compEnvC scope cl C env)) (fun y s' => (∃ t', y = .str (g i) t') ∧ Keeps { s with heap := h, toks := tk } s') E' { s with heap := h, toks := tk })
    (fin : ∀ l : List (Str × Tok), l.map (·.1) = (List.range n).map g → Fin (strValues l) news) :
    LCg.CompRest prog w A h₀ L m env elt x scope cl s (fun _ => True) (fun i v => ∃ t, v = .int (a + (i : Int)) t) Fin n 0 [] news := by
  have key : ∀ (j i : Nat) (l : List (Str × Tok)), i + j = n → l.map (·.1) = (List.range i).map g → LCg.CompRest prog w A h₀ L m env elt x scope cl s (fun _ => True) (fun i v => ∃ t, v = .int (a + (i : Int)) t) Fin j i (strValues l) news := by
    intro j
    induction j with
    | zero =>
      intro i l hi hl
      have e : i = n := by (first | lia | omega)
      subst e
      exact LCg.CompRest.zero (fin l hl)
    | succ j ih =>
      intro i l hi hl
      refine LCg.CompRest.succ ?_
      intro v I oI C oC D m₂ h tk E' hv hC hx F N off ne
      obtain ⟨t, rfl⟩ := hv
      refine wpAny_mono (turn i t C m₂ h tk E' (by (first | lia | omega)) (hC.ns (N _ (.tail _ (.head _))).1) hx fun p hp => N p (.tail _ (.tail _ (.tail _ hp)))) (fun y s₂ hq => ?_) fun _ _ e => e
      obtain ⟨⟨t', rfl⟩, h', tk', e, hk⟩ := hq
      refine ⟨h', tk', news, e, F.keeps hk, fun p hp => ⟨hk _ _ (N p hp).1, (N p hp).2⟩, off, trivial, ?_⟩
      have e2 : strValues l ++ [.str (g i) t'] = strValues (l ++ [(g i, t')]) := by simp [strValues]
      dsimp only
      rw [e2]
      exact ih (i + 1) _ (by (first | lia | omega)) (by rw [List.map_append, hl, List.range_succ, List.map_append]; rfl)
  exact key n 0 [] (by (first | lia | omega)) rfl
/- two lists' items at one place, put together -/
theorem elt_pair {E : Value → Shared → Prop} {C c1 c2 l1 l2 : Addr} {o1 o2 : Obj} {xs ys : Array Value} {na nb : Nat} {x1 x2 : Str} {p1 p2 p3 p4 p5 p6 p7 : Pos} {m₂ : Str → Option Value} {k : Nat} {t t1 t2 : Tok} {u v : Str} {Q : Value → Shared → Prop}
    (N : News h₀ L s.heap news) (hns : s.heap.Ns C m₂) (hx : m₂ x = some (.int (k : Int) t)) (hc1 : cl.lookup x1 = some c1) (hc2 : cl.lookup x2 = some c2) (m1 : (c1, o1) ∈ news) (m2 : (c2, o2) ∈ news) (d1 : o1.data = .cell (some (.ref l1))) (d2 : o2.data = .cell (some (.ref l2)))
    (n1 : (l1, listOf xs na) ∈ news) (n2 : (l2, listOf ys nb) ∈ news) (e1 : xs[k]? = some (.str u t1)) (e2 : ys[k]? = some (.str v t2)) (hk : k < 1000) (hu : u.length ≤ 1000) (hv : v.length ≤ 1000)
    (h : ∀ t' tk, Q (.str (u ++ v) t') { s with toks := tk })
    (q1 : (compEnvC scope cl C env).scope.kind = .function := by rfl) (q2 : (compEnvC scope cl C env).kindOf x1 = some .cell := by rfl) (q3 : (compEnvC scope cl C env).kindOf x2 = some .cell := by rfl) (q4 : (compEnvC scope cl C env).kindOf x = some .local := by rfl)
    (r1 : (x1 == ("__debug__" : Str)) = false := by decide) (r2 : (x2 == ("__debug__" : Str)) = false := by decide) (r3 : (x == ("__debug__" : Str)) = false := by decide) :
    wpAny (model prog w) A (eval (.BinOp (.Subscript (.Name x1 p1) (.Name x p2) p3) .Add (.Subscript (.Name x2 p4) (.Name x p5) p6) p7) (compEnvC scope cl C env)) Q E s := by
  have hk0 : (0 : Int) ≤ (k : Int) := by (first | lia | omega)
  have hk1 : (k : Int) < 2 ^ 63 := by (first | lia | omega)
  refine wpAny_BinOp (Subscript_ (kcf_cell N hc1 m1 d1 (ldVarK hns hx (item_list ⟨_, N.get n1, rfl, _, rfl⟩ hk0 hk1 (by simpa using e1) ?_) q1 q4 r3) q1 q2 r1))
  refine Subscript_ (kcf_cell N hc2 m2 d2 (ldVarK hns hx (item_list ⟨_, N.get n2, rfl, _, rfl⟩ hk0 hk1 (by simpa using e2) ?_) q1 q4 r3) q1 q3 r2)
  exact PyProof.Rows.add_str h (by rw [show sizeLine = 16777216 from rfl]; (first | lia | omega))
end
end Mine
end
section
open PySem PySem.W PyProof.Rows PySem.Calls PySem.Spec PyProof.V
set_option maxRecDepth 100000
set_option maxHeartbeats 1000000
namespace Mine
theorem canLay_strs : ∀ l : List Str, (∀ x ∈ l, PyData.strOk x = true) → PyData.canLayAll0 (l.map PyData.str) = true
  | [], _ => by simp [PyData.canLayAll0]
  | x :: r, h => by simp [PyData.canLayAll0, PyData.canLay0, h x (by simp), canLay_strs r fun y hy => h y (List.mem_cons_of_mem _ hy)]
theorem depth_strs : ∀ l : List Str, PyData.depthAll (l.map PyData.str) ≤ 1
  | [] => by simp [PyData.depthAll]
  | x :: r => by
    have := depth_strs r
    simp only [List.map_cons, PyData.depthAll, PyData.depth]
    (first | lia | omega)
theorem shaped_strs {l : List Str} (h : ∀ x ∈ l, PyData.strOk x = true) : PySem.SeqAt.shaped (.list (l.map PyData.str)) = true := by
  have h1 := depth_strs l
  have h2 : PyData.depth (.list (l.map PyData.str)) ≤ 64 := by simp only [PyData.depth]; (first | lia | omega)
  show (PyData.canLay0 (.list (l.map PyData.str)) && decide (PyData.depth (.list (l.map PyData.str)) ≤ 64)) = true
  rw [Bool.and_eq_true]
  exact ⟨by simp only [PyData.canLay0]; exact canLay_strs l h, decide_eq_true h2⟩
theorem noMix_strs : ∀ l : List Str, PySem.SeqAt.noMixAll (l.map PyData.str) (l.map PyData.str) = true
  | [] => by simp [PySem.SeqAt.noMixAll]
  | _ :: r => by simp [PySem.SeqAt.noMixAll, PySem.SeqAt.noMix, noMix_strs r]
theorem same_strs : ∀ l : List Str, PySem.Spec.sameAll (l.map PyData.str) (l.map PyData.str) = true
  | [] => by simp [PySem.Spec.sameAll]
  | _ :: r => by simp [PySem.Spec.sameAll, PySem.Spec.same, same_strs r]
theorem carried_strs : ∀ l : List (Str × Tok), CarriedAll (strValues l) ((l.map (·.1)).map PyData.str)
  | [] => .nil
  | p :: r => .cons (.str p.1 p.2) (carried_strs r)
section
variable {prog : Program} {w : World} {A : Around} {E : Value → Shared → Prop} {s : Shared} {a b : Addr} {xs ys : List (Str × Tok)} {Q : Value → Shared → Prop}
/- two lists of the same texts -/
theorem ne_strs (ha : s.heap.IsList a (strValues xs).toArray) (hb : s.heap.IsList b (strValues ys).toArray) (e : xs.map (·.1) = ys.map (·.1)) (ok : ∀ x ∈ ys.map (·.1), PyData.strOk x = true) (hu : A.units + 64 < cLine) (h : Q (.bool false) s) :
    wpAny (model prog w) A (compareOp .NotEq (.ref a) (.ref b)) Q E s := by
  have c1 := carried_strs xs
  rw [e] at c1
  refine ne_dataH_same (reads_newData ha c1) (reads_newData hb (carried_strs ys)) (shaped_strs ok) (shaped_strs ok) hu (by simp only [PySem.SeqAt.noMix]; exact noMix_strs _) ?_
  simp only [PySem.Spec.same]
  rw [same_strs]; exact h
end
end Mine
end
section
open PySem PySem.W PyProof.Rows PySem.Calls PySem.Spec
set_option maxRecDepth 100000
set_option maxHeartbeats 2000000
set_option pp.deepTerms false
set_option pp.maxSteps 20000
namespace Mine
theorem dummyI1 : True := by
  k_with_none
  w_top off
  k_with "lt8" => with_reducible first | assumption | exact And.left (by assumption) | exact And.left (And.right (by assumption)) | exact And.left (And.right (And.right (by assumption))) | exact And.left (And.right (And.right (And.right (by assumption)))) | exact And.left (And.right (And.right (And.right (And.right (by assumption))))) | exact And.left (And.right (And.right (And.right (And.right (And.right (by assumption)))))) | exact And.left (And.right (And.right (And.right (And.right (And.right (And.right (by assumption))))))) | exact And.left (And.right (And.right (And.right (And.right (And.right (And.right (And.right (by assumption)))))))) | exact And.left (And.right (And.right (And.right (And.right (And.right (And.right (And.right (And.right (by assumption))))))))) | exact And.left (And.right (And.right (And.right (And.right (And.right (And.right (And.right (And.right (And.right (by assumption)))))))))) | exact And.left (And.right (And.right (And.right (And.right (And.right (And.right (And.right (And.right (And.right (And.right (by assumption))))))))))) | exact And.left (And.right (And.right (And.right (And.right (And.right (And.right (And.right (And.right (And.right (And.right (And.right (by assumption)))))))))))) | exact And.left (And.right (And.right (And.right (And.right (And.right (And.right (And.right (And.right (And.right (And.right (And.right (And.right (by assumption)))))))))))))
  k_with "lt9" => first | exact Nat.ne_of_lt (by walk_at "lt8") | exact Nat.ne_of_gt (by walk_at "lt8")
  trivial
/- each second one -/
noncomputable def evens {α : Type} : List α → List α
  | [] => []
  | [a] => [a]
  | a :: _ :: l => a :: evens l
theorem evens_map {α β : Type} (f : α → β) : ∀ l : List α, evens (l.map f) = (evens l).map f
  | [] => rfl
  | [a] => rfl
  | a :: b :: l => by
    show f a :: evens (l.map f) = f a :: (evens l).map f
    rw [evens_map f l]
theorem evens_marks : ∀ (k : Nat) (rows : List (List Pr)), evens (marksFrom k rows) = startsFrom k rows
  | _, [] => rfl
  | _, [r] => rfl
  | k, r :: r' :: rs => by
    show k :: evens (marksFrom (k + r.length) (r' :: rs)) = k :: startsFrom (k + r.length) (r' :: rs)
    rw [evens_marks]
theorem evens_range {α : Type} : ∀ l : List α, (List.range ((l.length + 1) / 2)).filterMap (fun k => l[2 * k]?) = evens l
  | [] => by simp [evens]
  | [a] => by
    have e : ([a].length + 1) / 2 = 1 := by simp
    rw [e, List.range_succ_eq_map]; rfl
  | a :: b :: l => by
    have ih := evens_range l
    have e : ((a :: b :: l).length + 1) / 2 = (l.length + 1) / 2 + 1 := by simp only [List.length_cons]; (first | lia | omega)
    rw [e, List.range_succ_eq_map, List.filterMap_cons, List.filterMap_map]
    show a :: List.filterMap (fun k => (a :: b :: l)[2 * (k + 1)]?) _ = a :: evens l
    rw [← ih]
    congr 1
theorem evens_pick (l : List Value) : (slicePick l.toArray none none (some 2)).toList = evens l := by
  have e : sliceBounds none none (some 2) l.toArray.size = (0, ((l.toArray.size : Nat) : Int), 2) := rfl
  unfold slicePick
  rw [e]
  show List.filterMap _ (sliceRange 0 ((l.toArray.size : Nat) : Int) 2) = _
  have e2 : sliceRange 0 ((l.toArray.size : Nat) : Int) 2 = (List.range ((l.length + 1) / 2)).map fun k => 2 * k := by
    unfold sliceRange
    have hc : (if (2 : Int) > 0 then (if (0 : Int) < ((l.toArray.size : Nat) : Int) then (((l.toArray.size : Nat) : Int) - 0 + 2 - 1) / 2 else 0) else (if (0 : Int) > ((l.toArray.size : Nat) : Int) then (0 - ((l.toArray.size : Nat) : Int) - 2 - 1) / (-2) else 0)).toNat = (l.length + 1) / 2 := by
      rw [if_pos (by decide), List.size_toArray]
      split <;> (first | lia | omega)
    show List.map _ (List.range (if (2 : Int) > 0 then (if (0 : Int) < ((l.toArray.size : Nat) : Int) then (((l.toArray.size : Nat) : Int) - 0 + 2 - 1) / 2 else 0) else (if (0 : Int) > ((l.toArray.size : Nat) : Int) then (0 - ((l.toArray.size : Nat) : Int) - 2 - 1) / (-2) else 0)).toNat) = _
    rw [hc]
    refine List.map_congr_left fun k _ => ?_
    (first | lia | omega)
  rw [e2, List.filterMap_map, ← evens_range]
  congr 1
  funext k
  simp
theorem evens_ints (mv : List (Int × Tok)) : (slicePick (intValues mv).toArray none none (some 2)).toList = intValues (evens mv) := by
  rw [evens_pick]; exact evens_map _ _
theorem tail_ints (mv : List (Int × Tok)) : (slicePick (intValues mv).toArray (some 1) none none).toList = intValues mv.tail := by
  have e : sliceBounds (some 1) none none (intValues mv).toArray.size = (((min 1 (intValues mv).toArray.size : Nat) : Int), (((intValues mv).toArray.size : Nat) : Int), 1) := by
    simp only [sliceBounds, Option.getD_none, show (1 : Int) > 0 by decide, if_true, if_neg (show ¬ ((1 : Int) < 0) by decide)]
    congr 1
    (first | lia | omega)
  rw [kmk_pick_nat _ e]
  cases mv with
  | nil => rfl
  | cons a l =>
    have : min 1 (intValues (a :: l)).toArray.size = 1 := by simp [intValues]
    rw [this]
    simp only [intValues, List.map_cons, List.drop_succ_cons, List.drop_zero, List.size_toArray, List.length_cons, List.length_map, List.tail_cons, Nat.add_sub_cancel]
    exact List.take_of_length_le (by simp)
theorem add_five (mv : List (Int × Tok)) (t : Tok) : (intValues mv).toArray.toList ++ (#[Value.int 5 t] : Array Value).toList = intValues (mv ++ [(5, t)]) := by simp [intValues]
theorem int_at {mv : List (Int × Tok)} {ks : List Nat} {i k : Nat} (h : mv.map (·.1) = ks.map Int.ofNat) (e : ks[i]? = some k) : ∃ t, (intValues mv).toArray[i]?.getD .none = .int (k : Int) t := by
  have h1 := congrArg (fun l => l[i]?) h
  simp only [List.getElem?_map, e, Option.map_some] at h1
  cases hh : mv[i]? with
  | none => rw [hh] at h1; cases h1
  | some p =>
    rw [hh] at h1
    simp only [Option.map_some, Option.some.injEq] at h1
    exact ⟨p.2, by simp [intValues, hh, h1]⟩
theorem sz_five {mv : List (Int × Tok)} {t : Tok} (h : mv.length ≤ 10) : (intValues mv.tail).toArray.toList.length + (#[Value.int 5 t] : Array Value).toList.length ≤ sizeLine := by
  simp only [intValues, List.length_map, List.length_tail, List.length_cons, List.length_nil, show sizeLine = 16777216 from rfl]; (first | lia | omega)
theorem len_marks : ∀ (k : Nat) (rows : List (List Pr)), (marksFrom k rows).length ≤ 2 * rows.length
  | _, [] => Nat.le_refl _
  | _, [r] => by simp [marksFrom]
  | k, r :: r' :: rs => by
    have := len_marks (k + r.length) (r' :: rs)
    simp only [marksFrom, List.length_cons] at this ⊢; (first | lia | omega)
theorem starts_at : ∀ (rows : List (List Pr)) (k i : Nat), i < rows.length → (startsFrom k rows)[i]? = some (k + (rows.take i).flatten.length)
  | [], _, _, h => absurd h (Nat.not_lt_zero _)
  | r :: rs, k, 0, _ => by simp [startsFrom]
  | r :: rs, k, i + 1, h => by
    have := starts_at rs (k + r.length) i (by simpa using h)
    simp only [startsFrom, List.getElem?_cons_succ, this, List.take_succ_cons, List.flatten_cons, List.length_append]
    congr 1; (first | lia | omega)
theorem starts_len : ∀ (rows : List (List Pr)) (k : Nat), (startsFrom k rows).length = rows.length
  | [], _ => rfl
  | r :: rs, k => by simp [startsFrom, starts_len rs]
theorem ends_at : ∀ (rows : List (List Pr)) (k i : Nat), i < rows.length → ((startsFrom k rows).tail ++ [k + rows.flatten.length])[i]? = some (k + (rows.take (i + 1)).flatten.length)
  | [], _, _, h => absurd h (Nat.not_lt_zero _)
  | [r], k, 0, _ => by simp [startsFrom]
  | [r], k, i + 1, h => absurd h (by simp)
  | r :: r' :: rs, k, 0, _ => by simp [startsFrom]
  | r :: r' :: rs, k, i + 1, h => by
    have := ends_at (r' :: rs) (k + r.length) i (by simpa using h)
    have e : (startsFrom k (r :: r' :: rs)).tail ++ [k + (r :: r' :: rs).flatten.length] = (k + r.length) :: ((startsFrom (k + r.length) (r' :: rs)).tail ++ [k + r.length + (r' :: rs).flatten.length]) := by
      simp [startsFrom]; (first | lia | omega)
    have e2 : (List.take (i + 1 + 1) (r :: r' :: rs)).flatten.length = r.length + (List.take (i + 1) (r' :: rs)).flatten.length := by rw [List.take_succ_cons, List.flatten_cons, List.length_append]
    rw [e, List.getElem?_cons_succ, this, e2]
    congr 1; (first | lia | omega)
theorem row_at (rows : List (List Pr)) (i : Nat) (h : i < rows.length) : (rows.flatten.drop (rows.take i).flatten.length).take rows[i].length = rows[i] := by
  have e : rows = rows.take i ++ rows[i] :: rows.drop (i + 1) := by rw [List.getElem_cons_drop, List.take_append_drop]
  have e2 : rows.flatten = (rows.take i).flatten ++ (rows[i] ++ (rows.drop (i + 1)).flatten) := by
    conv => lhs; rw [e]
    rw [List.flatten_append, List.flatten_cons]
  rw [e2, List.drop_left, List.take_left]
theorem take_flat (rows : List (List Pr)) (i : Nat) (h : i < rows.length) : (rows.take (i + 1)).flatten.length = (rows.take i).flatten.length + rows[i].length := by
  rw [List.take_add_one, List.getElem?_eq_getElem h, List.flatten_append]; simp
noncomputable def pairTx (its : List Pr) (k : Nat) : Str := ((its[k]?).map fun p => p.1 ++ p.2).getD Str.empty
theorem join_two (a b : Str) : Txt.join (Str.ofString "") [a, b] = a ++ b := by
  apply cs_ext
  rw [cs_join, show cs (Str.ofString "") = [] by decide +kernel, glue_nil, cs_app]; simp
theorem told_row {rows : List (List Pr)} {its : List Pr} (hfl : rows.flatten = its) {i : Nat} (h : i < rows.length) : (List.range rows[i].length).map (fun q => pairTx its ((rows.take i).flatten.length + q)) = rows[i].map fun p => Txt.join (Str.ofString "") [p.1, p.2] := by
  apply List.ext_getElem?
  intro q
  have hr := row_at rows i h
  rw [hfl] at hr
  by_cases hq : q < rows[i].length
  · have e : its[(rows.take i).flatten.length + q]? = some (rows[i][q]) := by
      have := congrArg (fun l => l[q]?) hr
      simp only [List.getElem?_take, List.getElem?_drop, if_pos hq] at this
      rw [this, List.getElem?_eq_getElem hq]
    rw [List.getElem?_map, List.getElem?_map, List.getElem?_range hq, List.getElem?_eq_getElem hq]
    simp only [Option.map_some, pairTx, e, Option.getD_some, join_two]
  · rw [List.getElem?_eq_none (by simpa using hq), List.getElem?_eq_none (by simpa using hq)]
theorem told_row_tx {rows : List (List Pr)} {its : List Pr} (hfl : rows.flatten = its) {i : Nat} (h : i < rows.length) {l : List (Str × Tok)} (hl : l.map (·.1) = (List.range rows[i].length).map (fun q => pairTx its ((rows.take i).flatten.length + q))) : Txt.join (Str.ofString "") (l.map (·.1)) = rowTx rows[i] := by
  rw [hl, told_row hfl h]; rfl
theorem told_next (rows : List (List Pr)) (i : Nat) (h : i < rows.length) : toldOf (rows.take (i + 1)) = toldOf (rows.take i) ++ [Str.ofString "#", noteOf rows[i]] := by
  unfold toldOf
  rw [List.take_add_one, List.getElem?_eq_getElem h, List.flatMap_append]; rfl
theorem told_len : ∀ rows : List (List Pr), (toldOf rows).length = 2 * rows.length
  | [] => rfl
  | r :: rs => by
    have := told_len rs
    unfold toldOf at this ⊢
    rw [List.flatMap_cons, List.length_append, this]
    simp only [List.length_cons, List.length_nil]; (first | lia | omega)
theorem told_small {rows : List (List Pr)} {tl : List (Str × Tok)} {i : Nat} (h : tl.map (·.1) = toldOf (rows.take i)) (h5 : rows.length ≤ 5) : tl.length ≤ 100 := by
  have h1 := congrArg List.length h
  rw [List.length_map, told_len, List.length_take] at h1
  (first | lia | omega)
theorem row_fits {rows : List (List Pr)} {n : Nat} (hn : rows.flatten.length = n) (i : Nat) (h : i < rows.length) : (rows.take i).flatten.length + rows[i].length ≤ n := by
  have e : rows = rows.take i ++ rows[i] :: rows.drop (i + 1) := by rw [List.getElem_cons_drop, List.take_append_drop]
  have e2 : rows.flatten = (rows.take i).flatten ++ (rows[i] ++ (rows.drop (i + 1)).flatten) := by
    conv => lhs; rw [e]
    rw [List.flatten_append, List.flatten_cons]
  rw [← hn, e2, List.length_append, List.length_append]; (first | lia | omega)
theorem small_nat {a b : Nat} (ha : a ≤ 5) (hb : b ≤ 5) : Builtin.Range.small (a : Int) (b : Int) 1 = true := small_one (by (first | lia | omega)) (by (first | lia | omega)) (by (first | lia | omega)) (by (first | lia | omega))
theorem range_n {a b n : Nat} (h : b = a + n) : Builtin.Range.rangeSize (a : Int) (b : Int) 1 = ((n : Nat) : Int) := by
  rw [rangeSize_nat]; (first | lia | omega)
theorem le_sizeLine {n : Nat} (h : n ≤ 100000) : n ≤ sizeLine := by rw [show sizeLine = 16777216 from rfl]; (first | lia | omega)
theorem add_told (tl : List (Str × Tok)) (x y : Str) (t u : Tok) : (strValues tl).toArray.toList ++ (#[Value.str x t, Value.str y u] : Array Value).toList = strValues (tl ++ [(x, t), (y, u)]) := by simp [strValues]
theorem sum_le_of : ∀ {l : List Nat} {n : Nat}, (∀ x ∈ l, x ≤ n) → l.sum ≤ n * l.length
  | [], _, _ => Nat.zero_le _
  | x :: l, n, h => by
    have h1 := sum_le_of fun y hy => h y (List.mem_cons_of_mem _ hy)
    have h2 := h x (by simp)
    simp only [List.sum_cons, List.length_cons, Nat.mul_succ]; (first | lia | omega)
theorem pairTx_len {its : List Pr} (hsz : ∀ i ∈ its, i.1.length ≤ 100 ∧ i.2.length ≤ 100) (k : Nat) : (pairTx its k).length ≤ 200 := by
  unfold pairTx
  cases h : its[k]? with
  | none => exact Nat.zero_le _
  | some p =>
    have := hsz p (List.mem_of_getElem? h)
    show (p.1 ++ p.2).length ≤ 200
    rw [Str.length_append]; (first | lia | omega)
theorem told_sizes {its : List Pr} (hsz : ∀ i ∈ its, i.1.length ≤ 100 ∧ i.2.length ≤ 100) {bi n : Nat} (hn : n ≤ 5) {l : List (Str × Tok)} (hl : l.map (·.1) = (List.range n).map (fun q => pairTx its (bi + q))) :
    ((l.map (·.1)).map (·.length)).sum + (l.map (·.1)).length ≤ 1048576 ∧ (Txt.join (Str.ofString "") (l.map (·.1))).length ≤ 2000 := by
  have h1 : ∀ x ∈ (l.map (·.1)).map (·.length), x ≤ 200 := fun x hx => by
    obtain ⟨y, hy, rfl⟩ := List.mem_map.mp hx
    rw [hl] at hy
    obtain ⟨q, _, rfl⟩ := List.mem_map.mp hy
    exact pairTx_len hsz _
  have h2 := sum_le_of h1
  have h3 : (l.map (·.1)).length = n := by rw [hl]; simp
  have h4 := join_len (Str.ofString "") (l.map (·.1))
  rw [List.length_map, h3] at h2
  rw [show (Str.ofString "").length = 0 by decide +kernel, Nat.mul_zero] at h4
  (first | lia | omega)
/- all that one turn of the loop over the rows wants to know -/
theorem row_pack {rows : List (List Pr)} {its : List Pr} (hfl : rows.flatten = its) (h5 : its.length = 5) {i : Nat} (h : i < rows.length) : ∃ (bi ei : Nat) (r : List Pr), (rows.take i).flatten.length = bi ∧ (rows.take (i + 1)).flatten.length = ei ∧ ei = bi + r.length ∧ ei ≤ 5 ∧ r ∈ rows ∧ r.length ≤ sizeLine ∧
    toldOf (rows.take (i + 1)) = toldOf (rows.take i) ++ [Str.ofString "#", noteOf r] ∧ ∀ l : List (Str × Tok), l.map (·.1) = (List.range r.length).map (fun q => pairTx its (bi + q)) → Txt.join (Str.ofString "") (l.map (·.1)) = rowTx r := by
  have h1 := take_flat rows i h
  have h2 := row_fits (n := 5) (by rw [hfl, h5]) i h
  refine ⟨_, _, rows[i], rfl, rfl, h1, by (first | lia | omega), List.getElem_mem h, le_sizeLine (by (first | lia | omega)), told_next rows i h, fun l hl => told_row_tx hfl h hl⟩
theorem add_hash (nl : List (Str × Tok)) (x : Str) (t : Tok) : (#[Value.str x t] : Array Value).toList ++ (strValues nl).toArray.toList = strValues ((x, t) :: nl) := by simp [strValues]
theorem sz_hash {nl : List (Str × Tok)} {x : Str} {t : Tok} (h : nl.length ≤ 100) : (#[Value.str x t] : Array Value).toList.length + (strValues nl).toArray.toList.length ≤ sizeLine := by
  simp only [strValues, List.length_map, List.length_cons, List.length_nil, show sizeLine = 16777216 from rfl]; (first | lia | omega)
theorem pick5t {l0 l1 l2 l3 l4 w0 w1 w2 w3 w4 : Str} {a0 a1 a2 a3 a4 b0 b1 b2 b3 b4 : Tok} : ∀ i, i < 5 →
    ∃ f tf p tp, (#[.str l0 a0, .str l1 a1, .str l2 a2, .str l3 a3, .str l4 a4] : Array Value)[i]? = some (.str f tf) ∧ (#[.str w0 b0, .str w1 b1, .str w2 b2, .str w3 b3, .str w4 b4] : Array Value)[i]? = some (.str p tp) ∧ [(l0, w0), (l1, w1), (l2, w2), (l3, w3), (l4, w4)][i]? = some (f, p)
  | 0, _ => ⟨_, _, _, _, rfl, rfl, rfl⟩
  | 1, _ => ⟨_, _, _, _, rfl, rfl, rfl⟩
  | 2, _ => ⟨_, _, _, _, rfl, rfl, rfl⟩
  | 3, _ => ⟨_, _, _, _, rfl, rfl, rfl⟩
  | 4, _ => ⟨_, _, _, _, rfl, rfl, rfl⟩
  | n + 5, h => absurd h (by (first | lia | omega))
theorem sz_told {tl : List (Str × Tok)} {x y : Str} {t u : Tok} (h : tl.length ≤ 100) : (strValues tl).toArray.toList.length + (#[Value.str x t, Value.str y u] : Array Value).toList.length ≤ sizeLine := by
  simp only [strValues, List.length_map, List.length_cons, List.length_nil, show sizeLine = 16777216 from rfl]; (first | lia | omega)
/- between the turns of the law's loop over the rows told -/
structure JZ (rows : List (List Pr)) (g : Heap) (led : List (Addr × Obj)) (wl : List Addr) (gn : Array GenState) (d : Drawn) (os : OsState) (i : Nat) (v : Value) (s : Shared) : Prop where
  base : ∀ c o, g.get? c = some o → s.heap.get? c = some o
  led : ∀ p ∈ led, s.heap.get? p.1 = some p.2
  told : ∃ D tl n, v = .ref D ∧ s.heap.get? D = some (listOf (strValues tl).toArray n) ∧ g.get? D = none ∧ D ∉ wl ∧ tl.map (·.1) = toldOf (rows.take i)
  g : s.gens = gn
  d : s.drawn = d
  os : s.os = os
theorem JZ.keep {rows : List (List Pr)} {g : Heap} {led : List (Addr × Obj)} {wl : List Addr} {gn : Array GenState} {d : Drawn} {os : OsState} {i : Nat} {v : Value} {s : Shared} (hg : ∀ c ∈ wl, g.get? c = none) (hled : ∀ p ∈ led, p.1 ∉ wl)
    {h' : Heap} {tk : Nat} (J : JZ rows g led wl gn d os i v s) (hk : ∀ c o, c ∉ wl → s.heap.get? c = some o → h'.get? c = some o) : JZ rows g led wl gn d os i v { s with heap := h', toks := tk } where
  base := fun c o e => hk c o (fun hm => by rw [hg c hm] at e; cases e) (J.base c o e)
  led := fun p hp => hk _ _ (hled p hp) (J.led p hp)
  told := let ⟨D, tl, n, a, b, c, e, f⟩ := J.told; ⟨D, tl, n, a, hk _ _ e b, c, e, f⟩
  g := J.g
  d := J.d
  os := J.os
theorem withI1x30 : True := by
  k_with_none
  w_top off
  k_with "lt8" => with_reducible first | assumption | exact And.left (by assumption) | exact And.left (And.right (by assumption)) | exact And.left (And.right (And.right (by assumption))) | exact And.left (And.right (And.right (And.right (by assumption)))) | exact And.left (And.right (And.right (And.right (And.right (by assumption))))) | exact And.left (And.right (And.right (And.right (And.right (And.right (by assumption)))))) | exact And.left (And.right (And.right (And.right (And.right (And.right (And.right (by assumption))))))) | exact And.left (And.right (And.right (And.right (And.right (And.right (And.right (And.right (by assumption)))))))) | exact And.left (And.right (And.right (And.right (And.right (And.right (And.right (And.right (And.right (by assumption))))))))) | exact And.left (And.right (And.right (And.right (And.right (And.right (And.right (And.right (And.right (And.right (by assumption)))))))))) | exact And.left (And.right (And.right (And.right (And.right (And.right (And.right (And.right (And.right (And.right (And.right (by assumption))))))))))) | exact And.left (And.right (And.right (And.right (And.right (And.right (And.right (And.right (And.right (And.right (And.right (And.right (by assumption)))))))))))) | exact And.left (And.right (And.right (And.right (And.right (And.right (And.right (And.right (And.right (And.right (And.right (And.right (And.right (by assumption)))))))))))))
  k_with "lt9" => first | exact Nat.ne_of_lt (by walk_at "lt8") | exact Nat.ne_of_gt (by walk_at "lt8")
  k_with "exec For Tuple Call cons nil" => (k_here; refine for_exec ?_ (by intro _; with_unfolding_all rfl))
  k_with "subscriptTail Name Slice ref ref" => (k_here; (with_reducible show wpAny _ _ (subscriptTail _ (PySem.Expr.Slice _ _ (some _) _) (Value.ref _) (Value.ref _)) _ _ _); k_dflt (refine' kmk_slice3_lit ?kw9F ?kw9N ?kw9l ?kw9p ?kw9q ?kw9k ?kw9o ?kw9e ?_ ?kw9s ?kw9t ?kw9z; (case kw9F => k_asm); (case kw9N => k_asm); (case kw9l => kmk_list); (case kw9p => kmk_part); (case kw9q => kmk_part); (case kw9k => kmk_part); (case kw9o => decide); (case kw9e => exact evens_ints _); (case kw9s => with_unfolding_all rfl); (case kw9t => kmk_pure); (case kw9z => exact (by assumption))); intro _ _ _ _ l1; (try k_lt l1); (try (revert l1; intro _)))
  k_with "subscriptTail Name Slice ref ref" => (k_here; (with_reducible show wpAny _ _ (subscriptTail _ (PySem.Expr.Slice _ _ none _) (Value.ref _) (Value.ref _)) _ _ _); k_dflt (refine' kmk_slice_lit ?kw9F ?kw9N ?kw9l ?kw9p ?kw9q ?kw9e ?_ ?kw9s ?kw9t ?kw9z; (case kw9F => k_asm); (case kw9N => k_asm); (case kw9l => kmk_list); (case kw9p => kmk_part); (case kw9q => kmk_part); (case kw9e => exact tail_ints _); (case kw9s => with_unfolding_all rfl); (case kw9t => kmk_pure); (case kw9z => exact (by assumption))); intro _ _ _ _ l1; (try k_lt l1); (try (revert l1; intro _)))
  k_with "binaryOp Add ref ref" => (k_here; (with_reducible show wpAny _ _ (binaryOp _ (Value.ref _) (Value.ref _)) _ _ _); k_dflt (refine' kmk_add_lit ?kw9F ?kw9N ?kw9a ?kw9b ?kw9e ?_ ?kw9z; (case kw9F => k_asm); (case kw9N => k_asm); (case kw9a => kmk_list); (case kw9b => kmk_list); (case kw9e => exact add_five _ _); (case kw9z => exact sz_five (by assumption))); intro _ _ _ _ l1; (try k_lt l1); (try (revert l1; intro _)))
  k_with "binaryOp Add ref ref" => (k_here; (with_reducible show wpAny _ _ (binaryOp _ (Value.ref _) (Value.ref _)) _ _ _); k_dflt (refine' kmk_add_lit ?kw9F ?kw9N ?kw9a ?kw9b ?kw9e ?_ ?kw9z; (case kw9F => k_asm); (case kw9N => k_asm); (case kw9a => kmk_list); (case kw9b => kmk_list); (case kw9e => exact add_told _ _ _ _ _); (case kw9z => exact sz_told (by assumption))); intro _ _ _ _ l1; (try k_lt l1); (try (revert l1; intro _)))
  k_with "call builtin:str.join" => (k_here; k_dflt (refine join_notes (by k_asm) (by k_mem) (by decide) (by assumption) ?_); intro _ _)
  k_with "CompSrc" => (refine halt ?_)
  k_with "binaryOp Add ref ref" => (k_here; (with_reducible show wpAny _ _ (binaryOp _ (Value.ref _) (Value.ref _)) _ _ _); k_dflt (refine' kmk_add_lit ?kw9F ?kw9N ?kw9a ?kw9b ?kw9e ?_ ?kw9z; (case kw9F => k_asm); (case kw9N => k_asm); (case kw9a => kmk_list); (case kw9b => kmk_list); (case kw9e => exact add_hash _ _ _); (case kw9z => exact sz_hash (by assumption))); intro _ _ _ _ l1; (try k_lt l1); (try (revert l1; intro _)))
  k_with "compareOp NotEq ref ref" => (refine halt ?_)
  trivial
theorem tail2 {w : World} {mg mb : Str → Option Value} {g : Heap} {L' : Addr} {s : Shared} {m : Str → Option Value} {lM D2 la lw fr : Addr} {mv : List (Int × Tok)} {nl : List (Str × Tok)} {mn n12 na nb : Nat} {c1 c2 q1 q2 ofr : Obj} {l0 l1 l2 l3 l4 w0 w1 w2 w3 w4 : Str} {a0 a1 a2 a3 a4 b0 b1 b2 b3 b4 : Tok} {Q : Flow → Shared → Prop} {rows : List (List Pr)}
    (X : (K9 w.params).In g) (T : TopRead view lo mg mb g)
    (F : Fr g L' s.heap (fun z => if z = Str.ofString "marks" then some (.ref lM) else if z = Str.ofString "notes" then some (.ref D2) else m z))
    (N : News g L' s.heap [(lM, listOf (intValues mv).toArray mn), (D2, listOf (strValues nl).toArray n12), (L' + 1 + 1, c1), (L' + 1, c2), (la, five l0 l1 l2 l3 l4 a0 a1 a2 a3 a4 na), (lw, five w0 w1 w2 w3 w4 b0 b1 b2 b3 b4 nb), (176, q1), (183, q2), (fr, ofr)])
    (k1 : c1.data = .cell (some (.ref lw))) (k2 : c2.data = .cell (some (.ref la)))
    (hmv : mv.map (·.1) = (marksFrom 0 rows).map Int.ofNat) (hnl : nl.map (·.1) = notesOf rows) (hok : ∀ x ∈ notesOf rows, PyData.strOk x = true) (hrows : rows ≠ []) (hfull : ∀ r ∈ rows, r ≠ []) (hfl : rows.flatten = [(l0, w0), (l1, w1), (l2, w2), (l3, w3), (l4, w4)]) (hsz : ∀ i ∈ [(l0, w0), (l1, w1), (l2, w2), (l3, w3), (l4, w4)], i.1.length ≤ 100 ∧ i.2.length ≤ 100)
    (hret : ∀ h' m' tk' D sl n, Fr g L' h' m' → News g L' h' [(D, listOf (intValues sl).toArray n), (la, five l0 l1 l2 l3 l4 a0 a1 a2 a3 a4 na), (lw, five w0 w1 w2 w3 w4 b0 b1 b2 b3 b4 nb), (176, q1), (183, q2), (fr, ofr)] → @LT.lt Nat _ la D ∧ @LT.lt Nat _ lw D ∧ @LT.lt Nat _ 176 D ∧ @LT.lt Nat _ 183 D ∧ @LT.lt Nat _ fr D → sl.map (·.1) = (startsFrom 0 rows).map Int.ofNat → Q (.ret (.ref D)) { s with heap := h', toks := tk' }) :
    wpAny (model pw w) ((Av 5).deeper (foldE w L')) (execs ((foldB w).drop 9) (foldE w L')) Q (fun _ _ => False) s := by
  have hl5 : rows.length ≤ 5 := by have := rows_few hfull; rw [hfl] at this; exact this
  have hsv : (evens mv).map (·.1) = (startsFrom 0 rows).map Int.ofNat := by
    rw [← evens_map, hmv, evens_map, evens_marks]
  have hln : (evens mv).length = rows.length := by
    have := congrArg List.length hsv
    rw [List.length_map, List.length_map, starts_len] at this; exact this
  have hlm : mv.length ≤ 10 := by
    have h1 := congrArg List.length hmv
    have h2 := len_marks 0 rows
    rw [List.length_map, List.length_map] at h1
    (first | lia | omega)
  have hzm : (intValues mv).toArray.size ≤ sizeLine := by
    rw [List.size_toArray, intValues, List.length_map, show sizeLine = 16777216 from rfl]; (first | lia | omega)
  have hzs : (intValues (evens mv)).toArray.size ≤ sizeLine := by
    rw [List.size_toArray, intValues, List.length_map, show sizeLine = 16777216 from rfl]; (first | lia | omega)
  have hz5 : (evens mv).length ≤ 10 := by (first | lia | omega)
  unfold foldB bodyAt foldE foldS scopeAt
  dsimp only [List.drop_succ_cons, List.drop_zero, List.drop]
  k_steps
  rename_i S1 hA lA hB TL hC lB hD DA hE lC LF hF FF NF lD DC hG F5 N5 lE
  have eS := N5.get (show (S1, listOf (intValues (evens mv)).toArray 0) ∈ _ by k_mem)
  have eC := N5.get (show (DC, listOf (intValues ((evens mv).tail ++ [(5, tk + 1)])).toArray 0) ∈ _ by k_mem)
  refine call_zip_2 (xs := (intValues (evens mv)).toArray) (ys := (intValues ((evens mv).tail ++ [(5, tk + 1)])).toArray) ⟨_, eS, rfl, _, rfl⟩ ⟨_, eC, rfl, _, rfl⟩ (fun h6 hz hTI hTO hit1 hit2 hsz6 hk6 => ?_)
  refine wpAny_pyIter_zip hz ?_
  have gL : g.get? L' = none := Heap.get?_none_of_le F5.above
  have hLa : ∃ o, hG.get? L' = some o := let ⟨o, _, _, e, _⟩ := F5.ns; ⟨o, e⟩
  have nwr : ∀ a o, hG.get? a = some o → a ∉ [hG.objs.size + 4, hG.objs.size + 3, hG.objs.size, hG.objs.size + 1] := fun a o e => nwr_of e
  have hgn : ∀ k, g.get? (hG.objs.size + k) = none := fun k => Heap.get?_none_of_le (Nat.le_trans F5.above (Nat.le_trans (Nat.le_of_lt F5.ns.lt) (Nat.le_add_right _ _)))
  have hLn : ∀ k, hG.objs.size + k ≠ L' := fun k e => absurd F5.ns.lt (Nat.not_lt.mpr (by rw [← e]; exact Nat.le_add_right _ _))
  have hgw : ∀ c ∈ L' :: [hG.objs.size + 4, hG.objs.size + 3, hG.objs.size, hG.objs.size + 1], g.get? c = none :=
    fa_cons gL (fa_cons (hgn 4) (fa_cons (hgn 3) (fa_cons (hgn 0) (fa_cons (hgn 1) fa_nil))))
  have N6 : News g L' hG [(DC, listOf (intValues ((evens mv).tail ++ [(5, tk + 1)])).toArray 0), (S1, listOf (intValues (evens mv)).toArray 0), (D2, listOf (strValues nl).toArray n12), (L' + 1 + 1, c1), (L' + 1, c2), (la, five l0 l1 l2 l3 l4 a0 a1 a2 a3 a4 na), (lw, five w0 w1 w2 w3 w4 b0 b1 b2 b3 b4 nb), (176, q1), (183, q2), (fr, ofr)] := by
    refine fa_cons (N5 _ ?_) (fa_cons (N5 _ ?_) (fa_cons (N5 _ ?_) (fa_cons (N5 _ ?_) (fa_cons (N5 _ ?_) (fa_cons (N5 _ ?_) (fa_cons (N5 _ ?_) (fa_cons (N5 _ ?_) (fa_cons (N5 _ ?_) (fa_cons (N5 _ ?_) fa_nil))))))))) <;> k_mem
  have eT := N5 _ (show (TL, listOf #[] 0) ∈ _ by k_mem)
  have hout := off_of (xs := L' :: [hG.objs.size + 4, hG.objs.size + 3, hG.objs.size, hG.objs.size + 1]) N6 (fun p hp hm => by
    rcases List.mem_cons.mp hm with e | hm
    · exact (N6 p hp).2.1 e
    · exact nwr _ _ (N6 p hp).1 hm)
  have hAp := zipApart_new (Heap.lt_size eS) (Heap.lt_size eC)
  have hW := fun (A : Around) (hh : A.handled = none) => (WalksT.zip2 (prog := pw) (w := w) (A := A) hh _ _ _ _ _ _ _ hAp (intValues (evens mv)).toArray (intValues ((evens mv).tail ++ [(5, tk + 1)])).toArray).toU
  have hLf : L' ∉ [hG.objs.size + 4, hG.objs.size + 2, hG.objs.size + 3, hG.objs.size, hG.objs.size + 1, S1, DC] := fun hm => by
    simp only [List.mem_cons, List.not_mem_nil, or_false] at hm
    rcases hm with e | e | e | e | e | e | e
    · exact hLn 4 e.symm
    · exact hLn 2 e.symm
    · exact hLn 3 e.symm
    · exact hLn 0 e.symm
    · exact hLn 1 e.symm
    · exact (N6 _ (show (S1, _) ∈ _ by k_mem)).2.1 e.symm
    · exact (N6 _ (show (DC, _) ∈ _ by k_mem)).2.1 e.symm
  have hLw : L' ∉ [hG.objs.size + 4, hG.objs.size + 3, hG.objs.size, hG.objs.size + 1] := let ⟨o, e⟩ := hLa; nwr _ _ e
  have hJ0 : JZ rows g _ (L' :: [hG.objs.size + 4, hG.objs.size + 3, hG.objs.size, hG.objs.size + 1]) s.gens s.drawn s.os 0 (.ref TL) { s with heap := h6, toks := tk + 1 + 1 } :=
    ⟨fun c o e => hk6 _ _ (F5.keep c o e), fun p hp => hk6 _ _ (N6 p hp).1, ⟨TL, [], 0, rfl, hk6 _ _ eT.1, eT.2.2, (fun hm => by
      rcases List.mem_cons.mp hm with e | hm
      · exact eT.2.1 e
      · exact nwr _ _ eT.1 hm), rfl⟩, rfl, rfl, rfl⟩
  refine for_pairs_upd (x := Str.ofString "told") (v1 := fun i => (intValues (evens mv)).toArray[i]?.getD .none) (v2 := fun i => (intValues ((evens mv).tail ++ [(5, tk + 1)])).toArray[i]?.getD .none) (JZ rows g _ (L' :: [hG.objs.size + 4, hG.objs.size + 3, hG.objs.size, hG.objs.size + 1]) s.gens s.drawn s.os)
    (hW _ rfl) rfl (fun i v _ hP => ?_) rfl rfl rfl hLw hLf (fun i v s' h' tk hJ hk => hJ.keep hgw hout hk) (fun i v s' hi hJ hSt hNs => ?_) (fun s' v u hJ hN => ?_) _ 0 _ _ _ (Nat.zero_add _) hJ0 ⟨hz, hTI, ⟨_, _, hTO⟩, hit1, hit2, ⟨_, hk6 _ _ eS, rfl, _, rfl⟩, ⟨_, hk6 _ _ eC, rfl, _, rfl⟩⟩ (F5.ns.keeps hk6) (fun _ _ _ => rfl)
  · obtain ⟨y1, y2, e1, e2, rfl⟩ := hP
    rw [e1, e2]; rfl
  · have hn : i < rows.length := by
      have := Nat.lt_of_lt_of_le hi (Nat.min_le_left ..)
      simpa [intValues, hln] using this
    have h0 : ((evens mv).tail ++ [(5, tk + 1)]).map (fun p : Int × Tok => p.1) = ((startsFrom 0 rows).tail ++ [0 + rows.flatten.length]).map Int.ofNat := by
      rw [List.map_append, List.map_append, List.map_tail, List.map_tail, hsv, hfl]; rfl
    obtain ⟨tb, ev1⟩ := int_at hsv (starts_at rows 0 i hn)
    obtain ⟨te, ev2⟩ := int_at h0 (ends_at rows 0 i hn)
    rw [Nat.zero_add] at ev1 ev2
    obtain ⟨bi, ei, r, ebi, eei, hei, he5, hrm, hrs, hnx, hjn⟩ := row_pack hfl rfl hn
    rw [ebi] at ev1
    rw [eei] at ev2
    rw [ev1, ev2] at hNs
    obtain ⟨hp', gn', dd, tk', oo⟩ := s'
    obtain ⟨jb, jl, ⟨TD, tl, nT, rfl, jt, jg0, jw, jtx⟩, rfl, rfl, rfl⟩ := hJ
    have F7 : Fr g L' hp' _ := ⟨hNs, jb, F5.above⟩
    obtain ⟨zz, zTI, ⟨za, zb, zTO⟩, ⟨zo1, zi1, zr1⟩, ⟨zo2, zi2, zr2⟩, zl1, zl2⟩ := id hSt
    have N7 : News g L' hp' ((hG.objs.size + 4, _) :: (hG.objs.size + 2, _) :: (hG.objs.size + 3, _) :: (hG.objs.size, _) :: (hG.objs.size + 1, _) :: (TD, listOf (strValues tl).toArray nT) :: _) :=
      fa_cons ⟨zz, hLn 4, hgn 4⟩ (fa_cons ⟨zTI, hLn 2, hgn 2⟩ (fa_cons ⟨zTO, hLn 3, hgn 3⟩ (fa_cons ⟨zi1, hLn 0, hgn 0⟩ (fa_cons ⟨zi2, hLn 1, hgn 1⟩ (fa_cons ⟨jt, fun e => jw (e ▸ List.mem_cons_self ..), jg0⟩ fun p hp => ⟨jl p hp, (N6 p hp).2⟩)))))
    have F5a := F5.above
    clear F5 N5 hJ0 hz hTI hTO hit1 hit2 hk6 hout hAp FF NF N6
    have hb5 : bi ≤ 5 := by (first | lia | omega)
    have htl : tl.length ≤ 100 := told_small jtx hl5
    have hsm := small_nat hb5 he5
    have hrn := range_n hei
    have K7 := Stop.mk N7
    refine wp_halt ?_
    k_steps
    unfold Halt
    rename Fr _ _ _ _ => F8
    rename News _ _ _ _ => N8
    rename IsRange _ _ _ _ _ _ _ _ => hR8
    have hr5 : r.length ≤ 5 := by (first | lia | omega)
    refine LCg.CompSrc.range rfl F8 N8 hR8 hsm hrn hrs (fun g' => str_range (fun q => pairTx [(l0, w0), (l1, w1), (l2, w2), (l3, w3), (l4, w4)] (bi + q)) (fun q t C m₂ h tk E' hq hns hx N => ?_) (fun l hl => ?_))
    · obtain ⟨u, t1, v, t2, e1, e2, e3⟩ := pick5t (l0 := l0) (l1 := l1) (l2 := l2) (l3 := l3) (l4 := l4) (w0 := w0) (w1 := w1) (w2 := w2) (w3 := w3) (w4 := w4) (a0 := a0) (a1 := a1) (a2 := a2) (a3 := a3) (a4 := a4) (b0 := b0) (b1 := b1) (b2 := b2) (b3 := b3) (b4 := b4) (bi + q) (Nat.lt_of_lt_of_le (Nat.add_lt_add_left hq bi) (hei ▸ he5))
      have eg : pairTx [(l0, w0), (l1, w1), (l2, w2), (l3, w3), (l4, w4)] (bi + q) = u ++ v := by unfold pairTx; rw [e3]; rfl
      have hsv' := hsz (u, v) (List.mem_of_getElem? e3)
      dsimp only
      rw [eg]
      exact elt_pair (k := bi + q) N hns (by rw [Int.natCast_add]; exact hx) rfl rfl (by k_mem) (by k_mem) k2 k1 (by k_mem) (by k_mem) e1 e2 (Nat.lt_of_lt_of_le (Nat.add_lt_add_left hq bi) (Nat.le_trans (hei ▸ he5) (by decide))) (Nat.le_trans hsv'.1 (by decide)) (Nat.le_trans hsv'.2 (by decide)) (fun t' tk' => ⟨⟨t', rfl⟩, h, tk', rfl, fun _ _ e => e⟩)
    · have hjx := hjn l hl
      obtain ⟨hwj, hjl⟩ := told_sizes hsz hr5 hl
      clear F8 N8 hR8
      k_steps
      rename Fr _ _ _ _ => F9
      rename News _ _ _ _ => N9
      rename_i l9 _
      refine Stop.mk ?_
      obtain ⟨N7⟩ := K7
      obtain ⟨-, -, g4, -, g3, g0, g1, -⟩ := l9
      refine ⟨.inl rfl, _, ⟨F9.keep, fun p hp => (N9 p (List.mem_of_mem_drop (i := 9) hp)).1, ⟨_, _, _, rfl, (N9 _ (.head _)).1, (N9 _ (.head _)).2.2, not_mem5 (N9 _ (.head _)).2.1 g4 g3 g0 g1, ?_⟩, rfl, rfl, rfl⟩, (hW ((Av 5).deeper default) rfl).frame _ _ _ hSt (keep_fp N7 N9 (fun p hp => .tail _ (.tail _ (.tail _ hp))) ?_), _, F9.ns, fun z h1 h2 => ?_⟩
      · rw [List.map_append, jtx, hnx]
        show _ ++ [_, Str.ofString "# " ++ Txt.join (Str.ofString "") (l.map (·.1))] = _
        rw [hjx]; rfl
      · exact fa_cons ⟨_, by k_mem⟩ (fa_cons ⟨_, by k_mem⟩ (fa_cons ⟨_, by k_mem⟩ (fa_cons ⟨_, by k_mem⟩ (fa_cons ⟨_, by k_mem⟩ (fa_cons ⟨_, by k_mem⟩ (fa_cons ⟨_, by k_mem⟩ fa_nil))))))
      · by_cases h3 : z = Str.ofString "told"
        · rw [if_pos h3, if_pos h3]
        · rw [if_neg h3, if_neg h2, if_neg h1, if_neg h3, if_neg h3]
  · obtain ⟨hp8, gn8, d8, tk8, os8⟩ := s'
    obtain ⟨jb, jl, ⟨TD, tl, nT, rfl, jt, jg0, jw, jtx⟩, rfl, rfl, rfl⟩ := hJ
    have F8 : Fr g L' hp8 _ := ⟨hN, jb, F5.above⟩
    have N8 : News g L' hp8 ((TD, listOf (strValues tl).toArray nT) :: _) := fa_cons ⟨jt, fun e => jw (e ▸ List.mem_cons_self ..), jg0⟩ fun p hp => ⟨jl p hp, (N6 p hp).2⟩
    have hall : tl.map (·.1) = Str.ofString "#" :: notesOf rows := by
      rw [jtx, List.take_of_length_le, told_notes hrows]
      simp [intValues, hln]; (first | lia | omega)
    have hn100 : nl.length ≤ 100 := by
      have h1 := congrArg List.length hnl
      have h2 := len_notes rows
      rw [List.length_map] at h1
      (first | lia | omega)
    clear F5 N5 hJ0 hz hTI hTO hit1 hit2 hk6 hout hAp FF NF N6 hW
    dsimp only
    k_steps
    rename_i hQ DQ hR FR NR lR
    unfold Halt
    refine ne_strs (xs := tl) (NR.isList (by k_mem)) (NR.isList (by k_mem)) (by rw [hall, List.map_cons, hnl]) (by rw [List.map_cons, hnl]; exact fa_cons (show PyData.strOk (Str.ofString "#") = true by decide +kernel) hok) (by with_unfolding_all exact Nat.le_of_ble_eq_true rfl) ?_
    k_steps
    rename Fr _ _ _ _ => F9
    rename News _ _ _ _ => N9
    refine hret _ _ _ S1 (evens mv) 0 F9 ?_ (by obtain ⟨_, _, _, _, a, b, c, d, e, _⟩ := lA; exact ⟨a, b, c, d, e⟩) hsv
    exact fa_cons (N9 _ (by k_mem)) (fa_cons (N9 _ (by k_mem)) (fa_cons (N9 _ (by k_mem)) (fa_cons (N9 _ (by k_mem)) (fa_cons (N9 _ (by k_mem)) (fa_cons (N9 _ (by k_mem)) fa_nil)))))
end Mine
end
section
open PySem PySem.W PyProof.Rows
set_option maxHeartbeats 1000000
namespace Mine
theorem split_at (rows : List (List Pr)) (i : Nat) (h : i < rows.length) : rows.flatten = (rows.take i).flatten ++ (rows[i] ++ (rows.drop (i + 1)).flatten) := by
  have e : rows = rows.take i ++ rows[i] :: rows.drop (i + 1) := by rw [List.getElem_cons_drop, List.take_append_drop]
  conv => lhs; rw [e]
  rw [List.flatten_append, List.flatten_cons]
noncomputable def hiAt (rows : List (List Pr)) (i : Nat) : Option Int := rows[i]?.bind fun r => (rows[i + 1]?.bind List.head?).map fun p => rowSz r + prSz p
theorem highs_range : ∀ rows : List (List Pr), highs rows = (List.range rows.length).filterMap (hiAt rows)
  | [] => rfl
  | r :: rs => by
    have ih := highs_range rs
    have e : hiAt (r :: rs) ∘ Nat.succ = hiAt rs := by funext i; simp [hiAt]
    rw [List.length_cons, List.range_succ_eq_map, List.filterMap_cons, List.filterMap_map, e, ← ih]
    have e0 : hiAt (r :: rs) 0 = (rs.head?.bind List.head?).map fun p => rowSz r + prSz p := by
      cases rs <;> simp [hiAt]
    rw [e0]
    show (match rs.head?.bind List.head? with | none => [] | some i => [rowSz r + prSz i]) ++ highs rs = _
    cases rs.head?.bind List.head? <;> rfl
theorem lows_next (rows : List (List Pr)) (i : Nat) (h : i < rows.length) : lows (rows.take (i + 1)) = lows (rows.take i) ++ if 1 < rows[i].length then [rowSz rows[i]] else [] := by
  unfold lows
  rw [List.take_add_one, List.getElem?_eq_getElem h, List.filterMap_append]
  congr 1
  simp only [Option.toList, List.filterMap_cons, List.filterMap_nil]
  split <;> simp_all
theorem range_next (F : Nat → Option Int) (i : Nat) : (List.range (i + 1)).filterMap F = (List.range i).filterMap F ++ (F i).toList := by
  rw [List.range_succ, List.filterMap_append]
  congr 1
theorem max_is {L : List Int} {a M : Int} (hm : M ∈ a :: L) (h : ∀ x ∈ a :: L, x ≤ M) : M = L.foldl max a := by
  have h1 := (foldl_max_le (l := L) (a := a) (W := L.foldl max a)).mp (Int.le_refl _)
  have h2 := (foldl_max_le (l := L) (a := a) (W := M)).mpr ⟨h a (by simp), fun x hx => h x (List.mem_cons_of_mem _ hx)⟩
  refine Int.le_antisymm ?_ h2
  rcases List.mem_cons.mp hm with rfl | hm
  · exact h1.1
  · exact h1.2 M hm
theorem min_is {L : List Int} {a M : Int} (hm : M ∈ a :: L) (h : ∀ x ∈ a :: L, M ≤ x) : M = L.foldl min a := by
  have h2 := (foldl_min_lt (l := L) (a := a) (W := M - 1)).mpr ⟨by have := h a (by simp); (first | lia | omega), fun x hx => by have := h x (List.mem_cons_of_mem _ hx); (first | lia | omega)⟩
  have h1 : ¬ M < L.foldl min a := fun hh => by
    have := (foldl_min_lt (l := L) (a := a) (W := M)).mp hh
    rcases List.mem_cons.mp hm with rfl | hm
    · exact absurd this.1 (Int.lt_irrefl _)
    · exact absurd (this.2 M hm) (Int.lt_irrefl _)
  (first | lia | omega)
theorem width_pack {rows : List (List Pr)} {its : List Pr} {zs : List (Int × Tok)} (hfl : rows.flatten = its) (hfull : ∀ r ∈ rows, r ≠ []) (h5 : its.length = 5) (hzs : zs.map (·.1) = its.map prSz) {i : Nat} (h : i < rows.length) :
    ∃ (bi ei : Nat) (r : List Pr), (rows.take i).flatten.length = bi ∧ (rows.take (i + 1)).flatten.length = ei ∧ ei = bi + r.length ∧ ei ≤ 5 ∧ r ∈ rows ∧
      lows (rows.take (i + 1)) = (lows (rows.take i) ++ if 1 < r.length then [rowSz r] else []) ∧ (((zs.drop bi).take r.length).map (·.1)).sum = rowSz r ∧
      (¬ ei < 5 → hiAt rows i = none) ∧ (ei < 5 → ∃ v, hiAt rows i = some v ∧ (((zs.drop bi).take (r.length + 1)).map (·.1)).sum = v) := by
  have h1 := take_flat rows i h
  have h2 := row_fits (n := 5) (by rw [hfl, h5]) i h
  have hs := split_at rows i h
  rw [hfl] at hs
  have hz : ∀ n, ((zs.drop (rows.take i).flatten.length).take n).map (·.1) = (((its.drop (rows.take i).flatten.length).take n).map prSz) := fun n => by
    rw [List.map_take, List.map_drop, hzs, ← List.map_drop, ← List.map_take]
  have hd : its.drop (rows.take i).flatten.length = rows[i] ++ (rows.drop (i + 1)).flatten := by
    conv => lhs; rw [hs]
    exact List.drop_left
  have hle : (rows.drop (i + 1)).flatten.length + (rows.take (i + 1)).flatten.length = 5 := by
    have := congrArg List.length hs
    rw [h5] at this
    simp only [List.length_append] at this
    (first | lia | omega)
  refine ⟨_, _, rows[i], rfl, rfl, h1, by (first | lia | omega), List.getElem_mem h, lows_next rows i h, ?_, fun hn => ?_, fun hn => ?_⟩
  · rw [hz, hd, List.take_left]; rfl
  · have e : (rows.drop (i + 1)).flatten = [] := List.eq_nil_of_length_eq_zero (by (first | lia | omega))
    have e2 : rows[i + 1]? = none := by
      cases hh : rows[i + 1]? with
      | none => rfl
      | some r' =>
        exfalso
        obtain ⟨hl, e3⟩ := List.getElem?_eq_some_iff.mp hh
        have : r' ∈ rows.drop (i + 1) := by rw [List.drop_eq_getElem_cons hl, e3]; simp
        have hr := hfull r' (List.mem_of_mem_drop this)
        cases r' with
        | nil => exact hr rfl
        | cons p q =>
          have : p ∈ (rows.drop (i + 1)).flatten := List.mem_flatten.mpr ⟨_, this, by simp⟩
          rw [e] at this; cases this
    unfold hiAt
    rw [e2]; simp
  · cases hh : rows[i + 1]? with
    | none =>
      exfalso
      have : rows.drop (i + 1) = [] := List.drop_eq_nil_of_le (List.getElem?_eq_none_iff.mp hh)
      rw [this, show ([] : List (List Pr)).flatten.length = 0 from rfl] at hle
      (first | lia | omega)
    | some r' =>
      obtain ⟨hl, e3⟩ := List.getElem?_eq_some_iff.mp hh
      have hm : r' ∈ rows := e3 ▸ List.getElem_mem hl
      cases r' with
      | nil => exact absurd rfl (hfull [] hm)
      | cons p q =>
        refine ⟨rowSz rows[i] + prSz p, by unfold hiAt; rw [hh, List.getElem?_eq_getElem h]; rfl, ?_⟩
        have e4 : (rows.drop (i + 1)).flatten = p :: (q ++ (rows.drop (i + 2)).flatten) := by
          rw [List.drop_eq_getElem_cons hl, e3]; rfl
        rw [hz, hd, e4, List.take_append]
        rw [List.take_of_length_le (by (first | lia | omega)), Nat.add_sub_cancel_left, List.take_succ_cons, List.take_zero, List.map_append, List.sum_append]
        simp [rowSz]
end Mine
end
section
open PySem PySem.W PyProof.Rows PySem.Calls PySem.Spec PyProof.Rows.LCg
set_option maxRecDepth 100000
set_option maxHeartbeats 2000000
set_option pp.deepTerms false
set_option pp.maxSteps 20000
namespace Mine
section
variable {prog : Program} {w : World} {A : Around} {E : Value → Shared → Prop} {s : Shared} {h₀ : Heap} {L : Addr} {m : Str → Option Value} {env : Env}
/- all that the ledger holds stands -/
noncomputable def Went (h₀ : Heap) (L : Addr) (m : Str → Option Value) (s : Shared) (all : List (Addr × Obj)) (s' : Shared) : Prop := ∃ h' tk', s' = { s with heap := h', toks := tk' } ∧ Fr h₀ L h' m ∧ News h₀ L h' all
/- what a comprehension over pairs with one test wants of its source, its turns, its end -/
structure PairSrc (prog : Program) (w : World) (A : Around) (h₀ : Heap) (L : Addr) (m : Str → Option Value) (env : Env) (c elt : Expr) (a b : Str) (scope : Scope) (cl : List (Str × Addr)) (Q : Value → Shared → Prop) (xv : Value) (s : Shared) : Prop where
  ex : ∃ (ax : Addr) (its : Array Value) (k : Nat) (news : List (Addr × Obj)) (x y : Nat → Value) (R : Nat → List Value → Prop), xv = .ref ax ∧ A.handled = none ∧ Fr h₀ L s.heap m ∧ News h₀ L s.heap news ∧ (ax, listOf its k) ∈ news ∧ its.size ≤ sizeLine ∧
    (∀ i, i < its.size → ∃ T n, its[i]? = some (.ref T) ∧ (T, ({ cls := .type "tuple", data := .seq #[x i, y i] n } : Obj)) ∈ news) ∧ R 0 [] ∧
    (∀ i ys I oI C oC D m₂ h tk (E' : Value → Shared → Prop), i < its.size → R i ys → NsObj oC m₂ → m₂ a = some (x i) → m₂ b = some (y i) → Fr h₀ L h m → News h₀ L h ((I, oI) :: (C, oC) :: (D, lst ys) :: news) → (∀ p ∈ news, @LT.lt Nat _ p.1 I) → (@LT.lt Nat _ I D ∧ @LT.lt Nat _ D C) →
      wpAny (model prog w) A (isTrue c (compEnvC scope cl C env) (eval c (compEnvC scope cl C env))) (fun ok s₃ => Went h₀ L m s ((I, oI) :: (C, oC) :: (D, lst ys) :: news) s₃ ∧
        if ok = true then wpAny (model prog w) A (eval elt (compEnvC scope cl C env)) (fun v s₄ => Went h₀ L m s ((I, oI) :: (C, oC) :: (D, lst ys) :: news) s₄ ∧ R (i + 1) (ys ++ [v])) E' s₃ else R (i + 1) ys) E' { s with heap := h, toks := tk }) ∧
    (∀ D h tk ys, Fr h₀ L h m → News h₀ L h ((D, lst ys) :: news) → (∀ p ∈ news, @LT.lt Nat _ p.1 D) → R its.size ys → Q (.ref D) { s with heap := h, toks := tk })
theorem comp_pt {elt iter c : Expr} {a b : Str} {pa pb tp : Pos} {kk : Nat} {scope : Scope} {cl : List (Str × Addr)} {pos : Pos} {Q : Value → Shared → Prop} (_F₀ : Fr h₀ L s.heap m)
    (hclos : closureFor scope env = pure cl) (hcell : ∀ y ∈ scope.names, y.2 ≠ .cell) (hkind : scope.kind = .function)
    (hnames : ∀ y ∈ scope.names, y.2 = .local → scope.names.lookup y.1 = some .local) (hxa : scope.names.lookup a = some .local) (hxb : scope.names.lookup b = some .local) (hab : ¬ a = b)
    (h : wpAny (model prog w) A (eval iter env) (PairSrc prog w A h₀ L m env c elt a b scope cl Q) E s)
    (hs : ∀ x, foldedSetIterable iter env x = pure x := by intro _; rfl) :
    wpAny (model prog w) A (eval (.ListComp elt [⟨.Tuple [.Name a pa, .Name b pb] kk tp, iter, [c], 0⟩] scope pos) env) Q E s := by
  rw [eval_ListComp]
  refine wpAny_comprehension_free (use := none) rfl hs hclos hkind hnames (wpAny_mono h (fun xv s₁ h₁ => ?_) fun _ _ e => e)
  obtain ⟨ax, its, k, news, x, y, R, rfl, hh, F, N, hax, hsz, htup, hR0, turn, fin⟩ := h₁.ex
  have hl : s₁.heap.IsList ax its := ⟨_, (N _ hax).1, rfl, _, rfl⟩
  have hlt : ax < s₁.heap.objs.size := Heap.lt_size (N _ hax).1
  refine wpAny_pyIter_list hl ?_
  refine wpAny_newObj_type (wpAny_newFunctionEnv hcell (by intro y hy; simp at hy) (fun h₂ hns₂ hsb₂ => ?_) hkind)
  dsimp only at hns₂ hsb₂ ⊢
  -- the places of the iterator, of the made list, of the block's names
  obtain ⟨I, hI⟩ : ∃ I, s₁.heap.objs.size = I := ⟨_, rfl⟩
  have hsI : (s₁.heap.push { cls := .type "list_iterator", data := .fields #[.ref ax, .int 0 0] }).objs.size = I + 1 := by rw [Heap.size_push, hI]
  have hsD : ((s₁.heap.push { cls := .type "list_iterator", data := .fields #[.ref ax, .int 0 0] }).push { cls := .type "list", dict := none, data := .seq ([] : List Value).toArray }).objs.size = I + 2 := by rw [Heap.size_push, hsI]
  have up : ∀ q o, s₁.heap.get? q = some o → h₂.get? q = some o := fun q o e => by
    have hq : q < I := hI ▸ Heap.lt_size e
    refine hsb₂.extBut q o (fun h => ?_) (Heap.get?_push_of_some _ (Heap.get?_push_of_some _ (Heap.get?_push_of_some _ e)))
    have h : q = _ := h
    rw [hsD] at h; rw [h] at hq
    exact absurd hq (Nat.not_lt.mpr (Nat.le_add_right _ _))
  have eI : h₂.get? I = some { cls := .type "list_iterator", data := .fields #[.ref ax, .int 0 0] } := by
    refine hsb₂.extBut I _ (fun h => ?_) (Heap.get?_push_of_some _ (Heap.get?_push_of_some _ (hI ▸ Heap.get?_push_size _ rfl)))
    have h : I = _ := h
    rw [hsD] at h
    exact absurd h (Nat.ne_of_lt (Nat.lt_add_of_pos_right (by decide)))
  have eD : h₂.get? (I + 1) = some (lst []) := by
    refine hsb₂.extBut (I + 1) _ (fun h => ?_) (Heap.get?_push_of_some _ (hsI ▸ Heap.get?_push_size _ rfl))
    have h : I + 1 = _ := h
    rw [hsD] at h
    exact absurd h (Nat.ne_of_lt (Nat.lt_succ_self _))
  rw [hsI, hsD, hI]
  rw [hsD] at hns₂
  have hLI : @LT.lt Nat _ L I := hI ▸ F.ns.lt
  have fresh : ∀ j, h₀.get? (I + j) = none := fun j => Heap.get?_none_of_le (Nat.le_trans F.above (Nat.le_trans (Nat.le_of_lt hLI) (Nat.le_add_right _ _)))
  have hnI : ∀ p ∈ news, p.1 < I := fun p hp => hI ▸ Heap.lt_size (N p hp).1
  have W := Walks.list (prog := prog) (w := w) (A := A) hh I ax (Nat.ne_of_lt (hI ▸ hlt)) its
  have neI : ∀ p ∈ news, ∀ j, p.1 ≠ I + j := fun p hp j => Nat.ne_of_lt (Nat.lt_of_lt_of_le (hnI p hp) (Nat.le_add_right _ _))
  have loop : ∀ s₃ : Shared, s₃ = { s₁ with heap := h₂, toks := s₁.toks + ([] : List (Str × Value)).length } →
      codeAny (model prog w) A (.compLoop (.ListComp elt [⟨.Tuple [.Name a pa, .Name b pb] kk tp, iter, [c], 0⟩] scope pos) 0 (.ref I) (.ref (I + 1)) (compEnvC scope cl (I + 2) env))
        (compPost (model prog w) A E none Q (.ref (I + 1)) (I + 2)) s₃ := by
    rintro s₃ rfl
    refine kct_loop
      (fun q s' => ∃ h' tk i ys m', s' = { s₁ with heap := h', toks := tk } ∧ i ≤ its.size ∧ q = its.size + 1 - i ∧ ys.length ≤ i ∧ (h'.IsListIter I ax i ∧ h'.IsList ax its) ∧ Fr h₀ L h' m ∧ h'.Ns (I + 2) m' ∧ News h₀ L h' ((I + 1, lst ys) :: news) ∧ R i ys) ?_ (its.size + 1)
      ⟨h₂, _, 0, [], _, rfl, Nat.zero_le _, rfl, Nat.le_refl _, ⟨⟨_, eI, rfl, rfl⟩, _, up _ _ (N _ hax).1, rfl, _, rfl⟩, F.keeps up, hns₂, fa_cons ⟨eD, Nat.ne_of_gt (Nat.lt_succ_of_lt hLI), fresh 1⟩ fun p hp => ⟨up _ _ (N p hp).1, (N p hp).2⟩, hR0⟩
    rintro q s' ⟨h', tk, i, ys, m', rfl, hi, rfl, hyl, hst', F', hn', N', hR⟩
    by_cases hlt' : i < its.size
    · refine W.item i _ _ _ hlt' hst' fun v h₃ tk₃ hPv hst₃ hk₃ => ?_
      obtain ⟨T, n, eT, mT⟩ := htup i hlt'
      obtain rfl : v = .ref T := by
        have : its[i]? = some v := hPv
        rw [eT] at this; exact (Option.some.inj this).symm
      have off : ∀ c o, c ≠ I → h'.get? c = some o → h₃.get? c = some o := fun c o hc e => hk₃ c o (by simpa using hc) e
      have zT := (N' _ (.tail _ mT)).1
      have hT : h₃.IsTuple T #[x i, y i] := ⟨_, off T _ (by have := neI _ mT 0; simpa using this) zT, rfl, _, rfl⟩
      have hn₃ : h₃.Ns (I + 2) m' := hn'.at' fun o e => off _ o (by (first | lia | omega)) e
      refine wpAny_letOwnedTupleGo_listiter hst₃.1 ?_
      refine kcp_assign (env := compEnvC scope cl (I + 2) env) hh hT (lookup_relabel_local hxa) (lookup_relabel_local hxb) (by simp [compEnvC, relabel, hkind]) hn₃ fun h₄ tk₄ hn₄ hs₄ => ?_
      have off4 : ∀ c o, c ≠ I → c ≠ I + 2 → h'.get? c = some o → h₄.get? c = some o := fun c o h1 h2 e => hs₄ c o h2 (off c o h1 e)
      have F₄ : Fr h₀ L h₄ m := ⟨F'.ns.at' fun o e => off4 _ o (by (first | lia | omega)) (by (first | lia | omega)) e, fun c o e => off4 c o (fun q => by rw [q] at e; have := fresh 0; rw [Nat.add_zero] at this; rw [this] at e; cases e) (fun q => by rw [q, fresh 2] at e; cases e) (F'.keep c o e), F'.above⟩
      have N₄ : News h₀ L h₄ ((I + 1, lst ys) :: news) := fa_cons ⟨off4 _ _ (by (first | lia | omega)) (by (first | lia | omega)) (N' _ (.head _)).1, (N' _ (.head _)).2⟩ fun p hp => ⟨off4 _ _ (by have := neI p hp 0; simpa using this) (neI p hp 2) (N' _ (.tail _ hp)).1, (N' _ (.tail _ hp)).2⟩
      have hst₄ : h₄.IsListIter I ax (i + 1) ∧ h₄.IsList ax its := W.frame _ _ _ hst₃ fun b hb o e => hs₄ b o (fun q => by
        rcases List.mem_cons.mp hb with e1 | e1
        · exact absurd (e1.symm.trans q) (by show I ≠ I + 2; (first | lia | omega))
        · have := neI _ hax 2
          rw [List.mem_singleton.mp e1] at q
          exact this q) e
      obtain ⟨oC, eC, hoC⟩ := ns_obj hn₄
      obtain ⟨oI, eI', hoI⟩ : ∃ oI : Obj, h₄.get? I = some oI ∧ ∀ h : Heap, h.get? I = some oI → h.IsListIter I ax (i + 1) := by
        obtain ⟨o, e, r⟩ := hst₄.1
        exact ⟨o, e, fun h e => ⟨o, e, r⟩⟩
      have fr0 : h₀.get? I = none := by have := fresh 0; rwa [Nat.add_zero] at this
      have N5 : News h₀ L h₄ ((I, oI) :: (I + 2, oC) :: (I + 1, lst ys) :: news) := fa_cons ⟨eI', Nat.ne_of_gt hLI, fr0⟩ (fa_cons ⟨eC, Nat.ne_of_gt (Nat.lt_add_right 2 hLI), fresh 2⟩ N₄)
      refine wpAny_mono (turn i ys I oI (I + 2) oC (I + 1) _ h₄ tk₄ _ hlt' hR hoC (by simp [hab]) (by simp) F₄ N5 hnI ⟨Nat.lt_succ_self _, Nat.lt_succ_self _⟩) (fun ok s₅ h₅ => ?_) fun _ _ e => e
      obtain ⟨⟨h₅', tk₅, rfl, F5, N5'⟩, h₅⟩ := h₅
      have done : ∀ (h₆ : Heap), Fr h₀ L h₆ m → News h₀ L h₆ ((I, oI) :: (I + 2, oC) :: (I + 1, lst ys) :: news) → (h₆.IsListIter I ax (i + 1) ∧ h₆.IsList ax its) := fun h₆ _ N6 => ⟨hoI _ (N6 _ (.head _)).1, ⟨_, (N6 _ (.tail _ (.tail _ (.tail _ hax)))).1, rfl, _, rfl⟩⟩
      cases ok with
      | false =>
        simp only [Bool.false_eq_true, if_false] at h₅ ⊢
        exact ⟨its.size + 1 - (i + 1), by (first | lia | omega), h₅', tk₅, i + 1, ys, _, rfl, hlt', rfl, Nat.le_succ_of_le hyl, done _ F5 N5', F5, hoC.ns (N5' _ (.tail _ (.head _))).1, fun p hp => N5' p (.tail _ (.tail _ hp)), h₅⟩
      | true =>
        simp only [if_true] at h₅ ⊢
        refine wpAny_mono h₅ (fun v s₆ h₆ => ?_) fun _ _ e => e
        obtain ⟨⟨h₆', tk₆, rfl, F6, N6⟩, hR'⟩ := h₆
        have zD := (N6 _ (.tail _ (.tail _ (.head _)))).1
        obtain ⟨st1, st2⟩ := done _ F6 N6
        refine append_at (hsz := by show ys.toArray.size ≤ sizeLine; rw [List.size_toArray]; exact Nat.le_trans hyl (Nat.le_trans hi hsz)) zD fun h₇ hs₇ hD₇ => ?_
        exact ⟨its.size + 1 - (i + 1), by (first | lia | omega), h₇, tk₆, i + 1, ys ++ [v], _, rfl, hlt', rfl, by rw [List.length_append, List.length_singleton]; exact Nat.succ_le_succ hyl,
          ⟨st1.at fun o e => hs₇.extBut _ _ (show I ≠ I + 1 by (first | lia | omega)) e, st2.at fun o e => hs₇.extBut _ _ (neI _ hax 1) e⟩, F6.change hs₇ (Nat.ne_of_gt (Nat.lt_succ_of_lt hLI)) (fresh 1), (hoC.ns (N6 _ (.tail _ (.head _))).1).at' fun o e => hs₇.extBut _ _ (show (I + 2 : Nat) ≠ I + 1 by (first | lia | omega)) e,
          fa_cons ⟨hD₇.trans (congrArg some (lst_snoc ys v)), (N₄ _ (.head _)).2⟩ fun p hp => ⟨hs₇.extBut _ _ (neI p hp 1) (N6 _ (.tail _ (.tail _ (.tail _ hp)))).1, (N₄ _ (.tail _ hp)).2⟩, hR'⟩
    · obtain rfl : i = its.size := Nat.le_antisymm hi (Nat.not_lt.mp hlt')
      refine W.done _ _ _ hst' fun h₃ tk₃ hk₃ => ?_
      have off : ∀ c o, c ≠ I → h'.get? c = some o → h₃.get? c = some o := fun c o hc e => hk₃ c o (by simpa using hc) e
      refine ⟨m', hn'.at' fun o e => off _ o (by (first | lia | omega)) e, fun h₄ hs₄ => ?_⟩
      have off4 : ∀ c o, c ≠ I → c ≠ I + 2 → h'.get? c = some o → h₄.get? c = some o := fun c o h1 h2 e => hs₄.extBut c o h2 (off c o h1 e)
      refine fin (I + 1) h₄ tk₃ ys ⟨F'.ns.at' fun o e => off4 _ o (by (first | lia | omega)) (by (first | lia | omega)) e, fun c o e => off4 c o (fun q => by rw [q] at e; have := fresh 0; rw [Nat.add_zero] at this; rw [this] at e; cases e) (fun q => by rw [q, fresh 2] at e; cases e) (F'.keep c o e), F'.above⟩
        (fa_cons ⟨off4 _ _ (by (first | lia | omega)) (by (first | lia | omega)) (N' _ (.head _)).1, (N' _ (.head _)).2⟩ fun p hp => ⟨off4 _ _ (by have := neI p hp 0; simpa using this) (neI p hp 2) (N' _ (.tail _ hp)).1, (N' _ (.tail _ hp)).2⟩) (fun p hp => Nat.lt_succ_of_lt (hnI p hp)) hR
  exact codeAny_compStart_list (loop _ rfl) (W.self 0 _ _ _ ⟨⟨_, eI, rfl, rfl⟩, _, up _ _ (N _ hax).1, rfl, _, rfl⟩ (loop _ rfl))
end
end Mine
end
section
open PySem PySem.W PyProof.Rows PySem.Calls PySem.Spec
set_option maxRecDepth 100000
set_option maxHeartbeats 2000000
set_option pp.deepTerms false
set_option pp.maxSteps 20000
namespace Mine
open PySem.Builtin
noncomputable abbrev zipO (f0 f1 : Value) (TI TO : Addr) : Obj := { cls := .type "zip", dict := none, data := .fields #[f0, f1, .bool false, .ref TI, .ref TO], slots := #[] }
section
variable {prog : Program} {w : World} {A : Around} {E : Value → Shared → Prop} {s : Shared} {z TI TO i1 i2 l1 l2 T : Addr} {k1 k2 : Nat} {xs ys : Array Value} {x y f1 : Value} {oT : Obj}
theorem wpAny_alive {M : Model} {a : Addr} {Q : Option Obj → Shared → Prop} (h : Q (s.heap.get? a) s) : wpAny M A (loadIfAlive a) Q E s := fun Γ p _ => by
  unfold loadIfAlive
  rw [Sem.wp_loadIfAlive]
  exact h
/- the last tuple is still held -/
theorem owned_kept {Q : Bool → Shared → Prop} (hz : s.heap.get? z = some (zipO (rawInt T) f1 TI TO)) (hf : f1 = .bool true ∨ f1 = .bool false) (hT : s.heap.get? T = some oT)
    (h : ∀ h', h'.get? z = some (zipO (rawInt T) (.bool true) TI TO) → Heap.SameBut z s.heap h' → Q false { s with heap := h' }) :
    wpAny (model prog w) A (SmallTypes.ownedTupleIsFree (.ref z)) Q E s := by
  unfold SmallTypes.ownedTupleIsFree
  refine wpAny_bind (wpAny_field hz rfl (x := rawInt T) rfl ?_)
  show wpAny _ _ (loadIfAlive (T : Int).toNat >>= _) _ _ _
  refine wpAny_bind (wpAny_alive ?_)
  rw [Int.toNat_natCast, hT]
  simp only [Option.isNone_some, Bool.false_eq_true, if_false]
  refine wpAny_bind (wpAny_field hz rfl (x := f1) rfl ?_)
  rcases hf with rfl | rfl
  · rw [if_neg (by decide)]
    exact wpAny_pure (h s.heap hz ⟨rfl, fun _ _ => rfl⟩)
  · rw [if_pos (by decide)]
    refine wpAny_bind (wpAny_setField_rec hz (by simp) fun h' hz' hs' => ?_)
    exact wpAny_pure (h h' hz' hs')
theorem zip_kept_item {Q : Value → Shared → Prop} (D : ZipApart z TI TO i1 i2 l1 l2) (hz : s.heap.get? z = some (zipO (rawInt T) f1 TI TO)) (hf : f1 = .bool true ∨ f1 = .bool false) (hT : s.heap.get? T = some oT) (hTI : IsPair s.heap TI (.ref i1) (.ref i2))
    (h1 : s.heap.IsListIter i1 l1 k1) (h2 : s.heap.IsListIter i2 l2 k2) (hl1 : s.heap.IsList l1 xs) (hl2 : s.heap.IsList l2 ys) (hx : xs[k1]? = some x) (hy : ys[k2]? = some y)
    (hQ : ∀ h', h'.get? z = some (zipO (rawInt T) (.bool true) TI TO) → h'.IsListIter i1 l1 (k1 + 1) → h'.IsListIter i2 l2 (k2 + 1) → IsPair h' s.heap.objs.size x y → h'.objs.size = s.heap.objs.size + 1 →
      (∀ c o, c ≠ z → c ≠ i1 → c ≠ i2 → s.heap.get? c = some o → h'.get? c = some o) → Q (.ref s.heap.objs.size) { s with heap := h' }) :
    wpAny (model prog w) A (Builtin.«zip.__next__» ⟨[.ref z], []⟩) (fun fin s' => ∃ v, fin = .done (.ret v) ∧ Q v s') E s := by
  show wpAny _ _ (field (.ref z) 2 >>= _) _ _ _
  refine wpAny_bind (wpAny_field hz rfl (x := .bool false) rfl ?_)
  show wpAny _ _ (field (.ref z) 3 >>= _) _ _ _
  refine wpAny_bind (wpAny_field hz rfl (x := .ref TI) rfl ?_)
  refine wpAny_bind (wpAny_seqItems hTI rfl ?_)
  show wpAny _ _ (SmallTypes.ownedTupleIsFree (.ref z) >>= _) _ _ _
  refine wpAny_bind (owned_kept hz hf hT fun h₁ hz₁ hs₁ => ?_)
  simp only [Bool.false_eq_true, if_false, List.forIn_toArray, List.forIn_cons, List.forIn_nil]
  have h1' := h1.extBut hs₁.extBut D.i1z
  have hl1' := hl1.extBut hs₁.extBut D.l1z
  refine wpAny_bind (wpAny_bind (wpAny_bind (wpAny_holding ?_)))
  show wpAny _ _ (SmallTypes.nextOf (.ref i1) >>= _) _ _ _
  refine wpAny_bind (wpAny_nextOf_list_item h1' hl1' hx fun h₂ h1₂ hs₂ => wpAny_pure ?_)
  refine wpAny_pure ?_
  refine wpAny_bind (wpAny_bind (wpAny_holding ?_))
  show wpAny _ _ (SmallTypes.nextOf (.ref i2) >>= _) _ _ _
  have h2' := (h2.extBut hs₁.extBut D.i2z).extBut hs₂.extBut D.i12.symm
  have hl2' := (hl2.extBut hs₁.extBut D.l2z).extBut hs₂.extBut D.l2i1
  refine wpAny_bind (wpAny_nextOf_list_item h2' hl2' hy fun h₃ h2₃ hs₃ => wpAny_pure ?_)
  refine wpAny_pure ?_
  refine wpAny_pure ?_
  dsimp only
  refine wpAny_bind (wpAny_newTuple ?_ (by rw [show sizeLine = 16777216 from rfl]; simp))
  refine wpAny_pure ⟨_, rfl, ?_⟩
  have hsz : h₃.objs.size = s.heap.objs.size := by rw [hs₃.1, hs₂.1, hs₁.1]
  have up : ∀ c o, c ≠ z → c ≠ i1 → c ≠ i2 → s.heap.get? c = some o → h₃.get? c = some o := fun c o c1 c2 c3 e => hs₃.extBut _ _ c3 (hs₂.extBut _ _ c2 (hs₁.extBut _ _ c1 e))
  show Q (.ref h₃.objs.size) { s with heap := h₃.push { cls := .type "tuple", data := .seq #[x, y] } }
  rw [hsz]
  have e3 : (h₃.push { cls := .type "tuple", data := .seq #[x, y] }).get? s.heap.objs.size = some { cls := .type "tuple", data := .seq #[x, y] } := hsz ▸ Heap.get?_push_size _ rfl
  refine hQ _ (Heap.get?_push_of_some _ (hs₃.extBut _ _ D.i2z.symm (hs₂.extBut _ _ D.i1z.symm hz₁))) ((h1₂.extBut hs₃.extBut D.i12).at fun o e => Heap.get?_push_of_some _ e) (h2₃.at fun o e => Heap.get?_push_of_some _ e) e3 (by rw [Heap.size_push, hsz]) fun c o c1 c2 c3 e => Heap.get?_push_of_some _ (up c o c1 c2 c3 e)
theorem zip_kept_end {Q : Fin → Shared → Prop} (hh : A.handled = none) (D : ZipApart z TI TO i1 i2 l1 l2) (hz : s.heap.get? z = some (zipO (rawInt T) f1 TI TO)) (hf : f1 = .bool true ∨ f1 = .bool false) (hT : s.heap.get? T = some oT) (hTI : IsPair s.heap TI (.ref i1) (.ref i2))
    (h1 : s.heap.IsListIter i1 l1 k1) (hl1 : s.heap.IsList l1 xs) (hend : xs[k1]? = none)
    (hE : ∀ h' e, (∀ c o, c ≠ z → c ≠ i1 → s.heap.get? c = some o → h'.get? c = some o) → (∃ o, h'.get? e = some o ∧ o.cls = .type "StopIteration") → E (.ref e) { s with heap := h' }) :
    wpAny (model prog w) A (Builtin.«zip.__next__» ⟨[.ref z], []⟩) Q E s := by
  show wpAny _ _ (field (.ref z) 2 >>= _) _ _ _
  refine wpAny_bind (wpAny_field hz rfl (x := .bool false) rfl ?_)
  show wpAny _ _ (field (.ref z) 3 >>= _) _ _ _
  refine wpAny_bind (wpAny_field hz rfl (x := .ref TI) rfl ?_)
  refine wpAny_bind (wpAny_seqItems hTI rfl ?_)
  show wpAny _ _ (SmallTypes.ownedTupleIsFree (.ref z) >>= _) _ _ _
  refine wpAny_bind (owned_kept hz hf hT fun h₁ hz₁ hs₁ => ?_)
  simp only [Bool.false_eq_true, if_false, List.forIn_toArray, List.forIn_cons, List.forIn_nil]
  have h1' := h1.extBut hs₁.extBut D.i1z
  have hl1' := hl1.extBut hs₁.extBut D.l1z
  refine wpAny_bind (wpAny_bind (wpAny_bind (wpAny_holding ?_)))
  show wpAny _ _ (SmallTypes.nextOf (.ref i1) >>= _) _ _ _
  refine wpAny_bind (wpAny_nextOf_list_end hh h1' hl1' hend fun h₂ e hs₂ he => ?_)
  exact hE h₂ e (fun c o c1 c2 x => hs₂ _ _ c2 (hs₁.extBut _ _ c1 x)) he
/- the next pair, the last one being held -/
theorem next_kept {Q : Option Value → Shared → Prop} (D : ZipApart z TI TO i1 i2 l1 l2) (hz : s.heap.get? z = some (zipO (rawInt T) f1 TI TO)) (hf : f1 = .bool true ∨ f1 = .bool false) (hT : s.heap.get? T = some oT) (hTI : IsPair s.heap TI (.ref i1) (.ref i2))
    (h1 : s.heap.IsListIter i1 l1 k1) (h2 : s.heap.IsListIter i2 l2 k2) (hl1 : s.heap.IsList l1 xs) (hl2 : s.heap.IsList l2 ys) (hx : xs[k1]? = some x) (hy : ys[k2]? = some y)
    (hQ : ∀ h', h'.get? z = some (zipO (rawInt T) (.bool true) TI TO) → h'.IsListIter i1 l1 (k1 + 1) → h'.IsListIter i2 l2 (k2 + 1) → IsPair h' s.heap.objs.size x y → h'.objs.size = s.heap.objs.size + 1 →
      (∀ c o, c ≠ z → c ≠ i1 → c ≠ i2 → s.heap.get? c = some o → h'.get? c = some o) → Q (some (.ref s.heap.objs.size)) { s with heap := h' }) :
    wpAny (model prog w) A (pyNext (.ref z)) Q E s := by
  have hTy : s.TypeIs (.ref z) "zip" := ⟨_, hz, rfl⟩
  unfold pyNext
  exact wpAny_bind (wpAny_attempt (wpAny_callSpecial?_slot (name := Str.ofString "__next__") hTy F.slot_zip_next
    (wpAny_call_entry F.slot_zip_next hTy F.entry_zip_next
      (zip_kept_item D hz hf hT hTI h1 h2 hl1 hl2 hx hy fun h' a1 a2 a3 a4 a5 a6 => wpAny_pure (hQ h' a1 a2 a3 a4 a5 a6)) (F.args_zip_next_1 _))))
theorem end_kept {Q : Option Value → Shared → Prop} (hh : A.handled = none) (D : ZipApart z TI TO i1 i2 l1 l2) (hz : s.heap.get? z = some (zipO (rawInt T) f1 TI TO)) (hf : f1 = .bool true ∨ f1 = .bool false) (hT : s.heap.get? T = some oT) (hTI : IsPair s.heap TI (.ref i1) (.ref i2))
    (h1 : s.heap.IsListIter i1 l1 k1) (hl1 : s.heap.IsList l1 xs) (hend : xs[k1]? = none)
    (hQ : ∀ h', (∀ c o, c ≠ z → c ≠ i1 → s.heap.get? c = some o → h'.get? c = some o) → Q none { s with heap := h' }) : wpAny (model prog w) A (pyNext (.ref z)) Q E s := by
  have hTy : s.TypeIs (.ref z) "zip" := ⟨_, hz, rfl⟩
  unfold pyNext
  refine wpAny_bind (wpAny_attempt (wpAny_callSpecial?_slot (name := Str.ofString "__next__") hTy F.slot_zip_next
    (wpAny_call_entry F.slot_zip_next hTy F.entry_zip_next (zip_kept_end hh D hz hf hT hTI h1 hl1 hend fun h' e hk he => ?_) (F.args_zip_next_1 _))))
  obtain ⟨o, ho, hc⟩ := he
  refine wpAny_bind (wpAny_isInstance (T := "StopIteration") (b := true) ⟨o, ho, hc⟩ isSubtype_stop ?_)
  exact wpAny_pure (hQ _ hk)
/- the pairs taken so far -/
noncomputable def Took (B : Nat) (xs ys : Array Value) (ts : List Addr) (h : Heap) : Prop := ∀ (i : Nat) (t : Addr), ts[i]? = some t → @LE.le Nat _ B t ∧ ∃ x y, xs[i]? = some x ∧ ys[i]? = some y ∧ IsPair h t x y
theorem Took.keep {B : Nat} {ts : List Addr} {h h' : Heap} (T : Took B xs ys ts h) (hk : ∀ c o, @LE.le Nat _ B c → h.get? c = some o → h'.get? c = some o) : Took B xs ys ts h' := fun i t e => by
  obtain ⟨a, x, y, b, c, d⟩ := T i t e
  exact ⟨a, x, y, b, c, hk _ _ a d⟩
theorem Took.snoc {B : Nat} {ts : List Addr} {h : Heap} {t : Addr} (T : Took B xs ys ts h) (hB : @LE.le Nat _ B t) (hx : xs[ts.length]? = some x) (hy : ys[ts.length]? = some y) (hp : IsPair h t x y) : Took B xs ys (ts ++ [t]) h := fun i t' e => by
  rw [List.getElem?_append] at e
  split at e
  · exact T i t' e
  · rename_i hi
    have : i - ts.length = 0 := by
      cases hh : i - ts.length with
      | zero => rfl
      | succ q => rw [hh] at e; simp at e
    rw [this] at e
    obtain rfl : t = t' := Option.some.inj e
    have hi : i = ts.length := by (first | lia | omega)
    rw [hi]
    exact ⟨hB, x, y, hx, hy, hp⟩
/- between the turns of list(zip(..)) -/
structure ZS (z TI TO i1 i2 l1 l2 S : Addr) (B : Nat) (xs ys : Array Value) (h0 : Heap) (ts : List Addr) (h : Heap) : Prop where
  zip : (ts = [] ∧ IsZip h z TI TO .none ∧ ∃ a b, IsPair h TO a b) ∨ ∃ t r f1, ts = t :: r ∧ h.get? z = some (zipO (rawInt t) f1 TI TO) ∧ (f1 = .bool true ∨ f1 = .bool false)
  ti : IsPair h TI (.ref i1) (.ref i2)
  it1 : h.IsListIter i1 l1 ts.length
  it2 : h.IsListIter i2 l2 ts.length
  a1 : h.IsList l1 xs
  a2 : h.IsList l2 ys
  acc : ∃ c, h.get? S = some { cls := .type "list", dict := none, data := .seq (ts.map Value.ref).toArray c, slots := #[] }
  tup : Took B xs ys ts h
  old : ∀ c o, c ∉ [S, z, TO, i1, i2] → h0.get? c = some o → h.get? c = some o
  le : @LE.le Nat _ B h.objs.size
theorem extend_zip {S : Addr} {n B : Nat} {res : Value} {R : Result → Shared → Prop} {h0 : Heap} (hh : A.handled = none) (D : ZipApart z TI TO i1 i2 l1 l2) (hn1 : xs.size = n) (hn2 : ys.size = n) (hn : n ≤ 1000) (hS : S ∉ [z, TI, TO, i1, i2, l1, l2])
    (hB : ∀ c ∈ [z, TI, TO, i1, i2, l1, l2, S], @LT.lt Nat _ c B) (h0n : 0 < n)
    (hR : ∀ h' tk ts c, ts.length = n → h'.get? S = some { cls := .type "list", dict := none, data := .seq (ts.map Value.ref).toArray c, slots := #[] } → Took B xs ys ts h' → (∀ c o, c ∉ [S, z, TO, i1, i2] → h0.get? c = some o → h'.get? c = some o) → R (.ok (.ret res)) { s with heap := h', toks := tk }) :
    ∀ k h tk ts, ts.length + k = n → ZS z TI TO i1 i2 l1 l2 S B xs ys h0 ts h → codeAny (model prog w) A (.builtin "list.extend.loop" ⟨[.ref S, .ref z, res], []⟩) R { s with heap := h, toks := tk } := by
  have hSz : S ≠ z := fun e => hS (by simp [e])
  have hST : S ≠ TI := fun e => hS (by simp [e])
  have hSi1 : S ≠ i1 := fun e => hS (by simp [e])
  have hSi2 : S ≠ i2 := fun e => hS (by simp [e])
  have hSl1 : S ≠ l1 := fun e => hS (by simp [e])
  have hSl2 : S ≠ l2 := fun e => hS (by simp [e])
  have hSTO : S ≠ TO := fun e => hS (by simp [e])
  have far : ∀ c ∈ [z, TI, TO, i1, i2, l1, l2, S], ∀ q : Addr, @LE.le Nat _ B q → q ≠ c := fun c hc q hq e => by
    have h1 := hB c hc
    rw [e] at hq
    exact absurd h1 (Nat.not_lt.mpr hq)
  intro k
  induction k with
  | zero =>
    intro h tk ts hl Z
    have hl : ts.length = n := by (first | lia | omega)
    refine codeAny_builtin F.entry_extend_loop ?_
    rw [Around.under_plainId F.plain_extend_loop _]
    show wpAny _ A.in1 (pyNext (.ref z) >>= _) _ _ _
    rcases Z.zip with ⟨e, _⟩ | ⟨t, r, f1, e, hz, hf⟩
    · rw [e] at hl; simp at hl; (first | lia | omega)
    · obtain ⟨_, x0, y0, _, _, hp⟩ := Z.tup 0 t (by rw [e]; rfl)
      refine wpAny_bind (end_kept hh D hz hf hp Z.ti Z.it1 Z.a1 (Array.getElem?_eq_none (by (first | lia | omega))) fun h' hk => ?_)
      obtain ⟨c, hacc⟩ := Z.acc
      exact wpAny_pure (hR h' tk ts c hl (hk _ _ hSz hSi1 hacc) (Z.tup.keep fun c o hc e => hk c o (far z (by simp) c hc) (far i1 (by simp) c hc) e) fun c o hc e => hk c o (fun e => hc (by simp [e])) (fun e => hc (by simp [e])) (Z.old c o hc e))
  | succ k ih =>
    intro h tk ts hl Z
    have hlt : ts.length < n := by (first | lia | omega)
    obtain ⟨x, hx⟩ : ∃ x, xs[ts.length]? = some x := ⟨_, Array.getElem?_eq_getElem (by (first | lia | omega))⟩
    obtain ⟨y, hy⟩ : ∃ y, ys[ts.length]? = some y := ⟨_, Array.getElem?_eq_getElem (by (first | lia | omega))⟩
    obtain ⟨c, hacc⟩ := Z.acc
    refine codeAny_builtin F.entry_extend_loop ?_
    rw [Around.under_plainId F.plain_extend_loop _]
    show wpAny _ A.in1 (pyNext (.ref z) >>= _) _ _ _
    have next : ∀ h', (∀ r', ts ++ [h.objs.size] = r' → (∃ t r f1, r' = t :: r ∧ h'.get? z = some (zipO (rawInt t) f1 TI TO) ∧ (f1 = .bool true ∨ f1 = .bool false))) → h'.IsListIter i1 l1 (ts.length + 1) → h'.IsListIter i2 l2 (ts.length + 1) → IsPair h' h.objs.size x y → h'.objs.size = h.objs.size + 1 → (∀ c o, c ≠ z → c ≠ TO → c ≠ i1 → c ≠ i2 → h.get? c = some o → h'.get? c = some o) →
        wpAny (model prog w) A.in1 (updateSeq S (·.push (.ref h.objs.size)) >>= fun _ => again (.builtin "list.extend.loop" ⟨[.ref S, .ref z, res], []⟩)) (fun fin s' => match fin with | .done f => R (.ok f) s' | .again c' => c'.quiet = true ∧ codeAny (model prog w) A c' R s') (fun e s' => R (.error e) s') { s with heap := h', toks := tk } := by
      intro h' hz' hi1 hi2 hp hsz hk
      have hS' := hk S _ hSz hSTO hSi1 hSi2 hacc
      refine wpAny_bind ?_
      refine wpAny_updateSeq hS' rfl (wpAny_pure ⟨plainId_quiet F.plain_extend_loop _, ih _ _ (ts ++ [h.objs.size]) (by rw [List.length_append, List.length_singleton]; (first | lia | omega)) ?_⟩) (by rw [List.size_toArray, List.length_map, show sizeLine = 16777216 from rfl]; (first | lia | omega)) (by show ((ts.map Value.ref).toArray.push _).size ≤ sizeLine + 1; rw [Array.size_push, List.size_toArray, List.length_map, show sizeLine = 16777216 from rfl]; (first | lia | omega))
      have oth : ∀ b o, b ≠ S → h'.get? b = some o → (h'.update S (Obj.mapSeq (·.push (.ref h.objs.size)))).get? b = some o := fun b o hb e => (Heap.get?_update_other _ _ (Ne.symm hb)).trans e
      have lim : ∀ q : Addr, @LE.le Nat _ B q → q ≠ S := fun q hq => far S (by simp) q hq
      have zS := Heap.get?_update_self (Obj.mapSeq (·.push (.ref h.objs.size))) hS' rfl
      refine ⟨.inr ?_, oth _ _ (Ne.symm hST) (hk _ _ D.TIz D.TITO D.TIi1 D.TIi2 Z.ti), ?_, ?_, ?_, ?_, ⟨c + 1, ?_⟩, ?_, fun q o hq e => oth q o (fun e => hq (by simp [e])) (hk q o (fun e => hq (by simp [e])) (fun e => hq (by simp [e])) (fun e => hq (by simp [e])) (fun e => hq (by simp [e])) (Z.old q o hq e)), ?_⟩
      · obtain ⟨t, r, f1, e1, e2, e3⟩ := hz' _ rfl
        exact ⟨t, r, f1, e1, oth _ _ (Ne.symm hSz) e2, e3⟩
      · rw [List.length_append, List.length_singleton]; exact hi1.at fun o e => oth _ _ (Ne.symm hSi1) e
      · rw [List.length_append, List.length_singleton]; exact hi2.at fun o e => oth _ _ (Ne.symm hSi2) e
      · exact Z.a1.at fun o e => oth _ _ (Ne.symm hSl1) (hk _ _ D.l1z D.l1TO D.l1i1 D.l1i2 e)
      · exact Z.a2.at fun o e => oth _ _ (Ne.symm hSl2) (hk _ _ D.l2z D.l2TO D.l2i1 D.l2i2 e)
      · rw [zS]; simp [Obj.mapSeq]
      · refine Took.snoc (Z.tup.keep fun q o hq e => oth q o (lim q hq) (hk q o (far z (by simp) q hq) (far TO (by simp) q hq) (far i1 (by simp) q hq) (far i2 (by simp) q hq) e)) Z.le hx hy (oth _ _ (lim _ Z.le) hp)
      · show B ≤ (h'.update S _).objs.size
        rw [(Heap.SameBut.update ..).1, hsz]
        exact Nat.le_succ_of_le Z.le
    rcases Z.zip with ⟨e, hz, a, b, hTO⟩ | ⟨t, r, f1, e, hz, hf⟩
    · subst e
      refine wpAny_bind (wpAny_pyNext_zip_item D hz Z.ti hTO Z.it1 Z.it2 Z.a1 Z.a2 hx hy fun h' a1 _ a3 a4 a5 a6 a7 => ?_)
      exact next h' (fun r' hr' => ⟨_, [], _, hr'.symm, a1, .inr rfl⟩) a3 a4 a5 a6 a7
    · obtain ⟨_, x0, y0, _, _, hp⟩ := Z.tup 0 t (by rw [e]; rfl)
      refine wpAny_bind (next_kept D hz hf hp Z.ti Z.it1 Z.it2 Z.a1 Z.a2 hx hy fun h' a1 a3 a4 a5 a6 a7 => ?_)
      exact next h' (fun r' hr' => ⟨t, r ++ [h.objs.size], _, by rw [← hr', e]; rfl, a1, .inl rfl⟩) a3 a4 a5 a6 fun c o c1 _ c3 c4 e => a7 c o c1 c3 c4 e
theorem zip_no_len : typeLookup (.type "zip") "__len__" = pure none := by rw [typeLookup_type, builtinLookup_eq_fast]; kernel_rfl
theorem zip_no_hint : typeLookup (.type "zip") "__length_hint__" = pure none := by rw [typeLookup_type, builtinLookup_eq_fast]; kernel_rfl
theorem call_list_zip {n : Nat} {Q : Value → Shared → Prop} (hh : A.handled = none) (D : ZipApart z TI TO i1 i2 l1 l2) (hz : IsZip s.heap z TI TO .none) (hTI : IsPair s.heap TI (.ref i1) (.ref i2)) (hTO : ∃ a b, IsPair s.heap TO a b)
    (h1 : s.heap.IsListIter i1 l1 0) (h2 : s.heap.IsListIter i2 l2 0) (hl1 : s.heap.IsList l1 xs) (hl2 : s.heap.IsList l2 ys) (hn1 : xs.size = n) (hn2 : ys.size = n) (hn : n ≤ 1000) (h0n : 0 < n)
    (hQ : ∀ h' tk ts c, ts.length = n → h'.get? s.heap.objs.size = some (listOf (ts.map Value.ref).toArray c) → Took (s.heap.objs.size + 1) xs ys ts h' → (∀ c o, c ∉ [z, TO, i1, i2] → s.heap.get? c = some o → h'.get? c = some o) → Q (.ref s.heap.objs.size) { s with heap := h', toks := tk }) :
    wpAny (model prog w) A (call (.type "list") [.ref z]) Q E s := by
  have lz : @LT.lt Nat _ z s.heap.objs.size := Heap.lt_size hz
  have lTI : @LT.lt Nat _ TI s.heap.objs.size := Heap.lt_size hTI
  have lTO : @LT.lt Nat _ TO s.heap.objs.size := let ⟨_, _, e⟩ := hTO; Heap.lt_size e
  have li1 : @LT.lt Nat _ i1 s.heap.objs.size := let ⟨_, e, _⟩ := h1; Heap.lt_size e
  have li2 : @LT.lt Nat _ i2 s.heap.objs.size := let ⟨_, e, _⟩ := h2; Heap.lt_size e
  have ll1 : @LT.lt Nat _ l1 s.heap.objs.size := let ⟨_, e, _⟩ := hl1; Heap.lt_size e
  have ll2 : @LT.lt Nat _ l2 s.heap.objs.size := let ⟨_, e, _⟩ := hl2; Heap.lt_size e
  refine callType_codes (Q₁ := fun obj s₁ => obj = .ref s.heap.objs.size ∧ s₁ = { s with heap := s.heap.push { cls := .type "list", data := .seq #[] } }) F.called_list (F.typeCall_list_1 _) F.entry_list_init
    (code_list_new _ ⟨rfl, rfl⟩) fun obj s₁ h₁ => ?_
  obtain ⟨rfl, rfl⟩ := h₁
  have hS : (s.heap.push { cls := .type "list", data := .seq #[] }).get? s.heap.objs.size = some { cls := .type "list", data := .seq #[] } := Heap.get?_push_size _ rfl
  have up : ∀ c o, s.heap.get? c = some o → (s.heap.push { cls := .type "list", data := .seq #[] }).get? c = some o := fun c o e => Heap.get?_push_of_some _ e
  generalize hH : s.heap.push { cls := .type "list", data := .seq #[] } = H at hS up ⊢
  have hHs : H.objs.size = s.heap.objs.size + 1 := by rw [← hH, Heap.size_push]
  generalize hSz : s.heap.objs.size = S at *
  have oS : ∀ c : Addr, @LT.lt Nat _ c S → c ≠ S := fun c h e => Nat.lt_irrefl _ (e ▸ h)
  refine ⟨⟨_, hS, rfl⟩, F.args_list_init_2 _ _, ?_⟩
  show wpAny _ _ (do let old ← Builtin.List.listItems (.ref S); Builtin.List.listUpdate (.ref S) (fun _ => #[]); letGo old.toList.reverse; Builtin.List.listExtendWith (.ref S) (.ref z) .none) _ _ _
  refine wpAny_bind ?_
  unfold Builtin.List.listItems
  refine wpAny_bind (wpAny_seqItems hS rfl (wpAny_pure ?_))
  show wpAny _ _ (updateSeq S (fun _ => #[]) >>= fun _ => letGo (#[] : Array Value).toList.reverse >>= fun _ => Builtin.List.listExtendWith (.ref S) (.ref z) .none) _ _ _
  refine wpAny_bind (wpAny_updateSeq hS rfl ?_)
  have hS₂ := Heap.get?_update_self (Obj.mapSeq (fun _ => (#[] : Array Value))) hS rfl
  have oth₂ : ∀ b o, b ≠ S → H.get? b = some o → (H.update S (Obj.mapSeq (fun _ => (#[] : Array Value)))).get? b = some o := fun b o hb e => (Heap.get?_update_other _ _ (Ne.symm hb)).trans e
  have sz₂ : (H.update S (Obj.mapSeq (fun _ => (#[] : Array Value)))).objs.size = S + 1 := (Heap.SameBut.update ..).1.trans hHs
  refine wpAny_bind (wpAny_letGo ?_)
  generalize H.update S (Obj.mapSeq (fun _ => (#[] : Array Value))) = H2 at *
  unfold Builtin.List.listExtendWith
  have z2 : IsZip H2 z TI TO .none := oth₂ _ _ (oS _ lz) (up _ _ hz)
  refine wpAny_bind (wpAny_typeOf (T := "zip") ⟨_, z2, rfl⟩ ?_)
  have e1 : Builtin.List.listSameRef (.ref S) (.ref z) = false := by simp [Builtin.List.listSameRef]; exact fun e => oS _ lz e.symm
  have e2 : (Value.type "zip" == Value.type "list") = false := by decide
  have e3 : (Value.type "zip" == Value.type "tuple") = false := by decide
  simp only [e1, e2, e3, Bool.or_false, Bool.false_eq_true, if_false]
  refine wpAny_bind (wpAny_pyIter_zip z2 ?_)
  refine wpAny_bind (wpAny_holding ?_)
  unfold Builtin.List.listLengthHint
  refine wpAny_bind (wpAny_specialOf (T := "zip") ⟨_, z2, rfl⟩ zip_no_len ?_)
  show wpAny _ _ (specialOf (Value.ref z) (Str.ofString "__length_hint__") >>= _) _ _ _
  refine wpAny_bind (wpAny_specialOf (T := "zip") ⟨_, z2, rfl⟩ zip_no_hint ?_)
  refine wpAny_pure ?_
  show wpAny _ _ (rule "list.extend.makes-room" >>= fun _ => Builtin.List.listTouch (.ref S) >>= fun _ => again (.builtin "list.extend.loop" ⟨[.ref S, .ref z, .none], []⟩)) _ _ _
  refine wpAny_bind (wpAny_rule ?_)
  refine wpAny_bind ?_
  show wpAny _ _ (updateSeq S (·.push .none) >>= fun _ => updateSeq S (·.pop)) _ _ _
  refine wpAny_bind (wpAny_updateSeq hS₂ rfl ?_)
  have hS₃ := Heap.get?_update_self (Obj.mapSeq (·.push Value.none)) hS₂ rfl
  refine wpAny_updateSeq (hz := by simp [show sizeLine = 16777216 from rfl]) hS₃ rfl ?_
  have hS₄ := Heap.get?_update_self (Obj.mapSeq (·.pop)) hS₃ rfl
  have oth₄ : ∀ b o, b ≠ S → H2.get? b = some o → ((H2.update S (Obj.mapSeq (·.push Value.none))).update S (Obj.mapSeq (·.pop))).get? b = some o := fun b o hb e => (Heap.get?_update_other _ _ (Ne.symm hb)).trans ((Heap.get?_update_other _ _ (Ne.symm hb)).trans e)
  have sz₄ : ((H2.update S (Obj.mapSeq (·.push Value.none))).update S (Obj.mapSeq (·.pop))).objs.size = S + 1 := (Heap.SameBut.update ..).1.trans ((Heap.SameBut.update ..).1.trans sz₂)
  generalize (H2.update S (Obj.mapSeq (·.push Value.none))).update S (Obj.mapSeq (·.pop)) = H4 at *
  have all : ∀ b o, @LT.lt Nat _ b S → s.heap.get? b = some o → H4.get? b = some o := fun b o hb e => oth₄ _ _ (oS _ hb) (oth₂ _ _ (oS _ hb) (up _ _ e))
  obtain ⟨ta, tb, hTO⟩ := hTO
  refine wpAny_pure ⟨plainId_quiet F.plain_extend_loop _, extend_zip (prog := prog) (w := w) (A := A.in1) (s := s) (B := S + 1) (n := n) (h0 := s.heap) (S := S) hh D hn1 hn2 hn (fun hm => ?_) (fun c hc => ?_) h0n (fun h' tk ts c hl hacc tk' old => ?_) n H4 s.toks [] (by simp) ⟨.inl ⟨rfl, all _ _ lz hz, _, _, all _ _ lTO hTO⟩, all _ _ lTI hTI, h1.at fun o e => all _ _ li1 e, h2.at fun o e => all _ _ li2 e, hl1.at fun o e => all _ _ ll1 e, hl2.at fun o e => all _ _ ll2 e, ⟨_, hS₄⟩, fun i t e => (by simp at e), fun c o hc e => all _ _ (hSz ▸ Heap.lt_size e) e, Nat.le_of_eq sz₄.symm⟩⟩
  · simp only [List.mem_cons, List.not_mem_nil, or_false] at hm
    rcases hm with e | e | e | e | e | e | e
    · exact oS _ lz e.symm
    · exact oS _ lTI e.symm
    · exact oS _ lTO e.symm
    · exact oS _ li1 e.symm
    · exact oS _ li2 e.symm
    · exact oS _ ll1 e.symm
    · exact oS _ ll2 e.symm
  · simp only [List.mem_cons, List.not_mem_nil, or_false] at hc
    rcases hc with rfl | rfl | rfl | rfl | rfl | rfl | rfl | rfl
    · exact Nat.lt_succ_of_lt lz
    · exact Nat.lt_succ_of_lt lTI
    · exact Nat.lt_succ_of_lt lTO
    · exact Nat.lt_succ_of_lt li1
    · exact Nat.lt_succ_of_lt li2
    · exact Nat.lt_succ_of_lt ll1
    · exact Nat.lt_succ_of_lt ll2
    · exact Nat.lt_succ_self _
  · refine ⟨rfl, hQ h' tk ts c hl hacc tk' fun c o hc e => old c o (fun hm => ?_) e⟩
    rcases List.mem_cons.mp hm with h | h
    · have := Heap.lt_size e
      rw [hSz, h] at this
      exact Nat.lt_irrefl _ this
    · exact hc h
end
end Mine
end
section
open PySem PySem.W PyProof.Rows PySem.Calls PySem.Spec
set_option maxRecDepth 100000
set_option maxHeartbeats 2000000
set_option pp.deepTerms false
set_option pp.maxSteps 20000
namespace Mine
theorem dummyZ2 : True := by
  k_with_none
  w_top off
  k_with "lt8" => with_reducible first | assumption | exact And.left (by assumption) | exact And.left (And.right (by assumption)) | exact And.left (And.right (And.right (by assumption))) | exact And.left (And.right (And.right (And.right (by assumption)))) | exact And.left (And.right (And.right (And.right (And.right (by assumption))))) | exact And.left (And.right (And.right (And.right (And.right (And.right (by assumption)))))) | exact And.left (And.right (And.right (And.right (And.right (And.right (And.right (by assumption))))))) | exact And.left (And.right (And.right (And.right (And.right (And.right (And.right (And.right (by assumption)))))))) | exact And.left (And.right (And.right (And.right (And.right (And.right (And.right (And.right (And.right (by assumption))))))))) | exact And.left (And.right (And.right (And.right (And.right (And.right (And.right (And.right (And.right (And.right (by assumption)))))))))) | exact And.left (And.right (And.right (And.right (And.right (And.right (And.right (And.right (And.right (And.right (And.right (by assumption))))))))))) | exact And.left (And.right (And.right (And.right (And.right (And.right (And.right (And.right (And.right (And.right (And.right (And.right (by assumption)))))))))))) | exact And.left (And.right (And.right (And.right (And.right (And.right (And.right (And.right (And.right (And.right (And.right (And.right (And.right (by assumption)))))))))))))
  k_with "lt9" => first | exact Nat.ne_of_lt (by walk_at "lt8") | exact Nat.ne_of_gt (by walk_at "lt8")
  trivial
theorem withZ2x31 : True := by
  k_with_none
  w_top off
  k_with "lt8" => with_reducible first | assumption | exact And.left (by assumption) | exact And.left (And.right (by assumption)) | exact And.left (And.right (And.right (by assumption))) | exact And.left (And.right (And.right (And.right (by assumption)))) | exact And.left (And.right (And.right (And.right (And.right (by assumption))))) | exact And.left (And.right (And.right (And.right (And.right (And.right (by assumption)))))) | exact And.left (And.right (And.right (And.right (And.right (And.right (And.right (by assumption))))))) | exact And.left (And.right (And.right (And.right (And.right (And.right (And.right (And.right (by assumption)))))))) | exact And.left (And.right (And.right (And.right (And.right (And.right (And.right (And.right (And.right (by assumption))))))))) | exact And.left (And.right (And.right (And.right (And.right (And.right (And.right (And.right (And.right (And.right (by assumption)))))))))) | exact And.left (And.right (And.right (And.right (And.right (And.right (And.right (And.right (And.right (And.right (And.right (by assumption))))))))))) | exact And.left (And.right (And.right (And.right (And.right (And.right (And.right (And.right (And.right (And.right (And.right (And.right (by assumption)))))))))))) | exact And.left (And.right (And.right (And.right (And.right (And.right (And.right (And.right (And.right (And.right (And.right (And.right (And.right (by assumption)))))))))))))
  k_with "lt9" => first | exact Nat.ne_of_lt (by walk_at "lt8") | exact Nat.ne_of_gt (by walk_at "lt8")
  k_with "subscriptTail Name Slice ref ref" => (k_here; (with_reducible show wpAny _ _ (subscriptTail _ (PySem.Expr.Slice _ _ none _) (Value.ref _) (Value.ref _)) _ _ _); k_dflt (refine' kmk_slice_lit ?kw9F ?kw9N ?kw9l ?kw9p ?kw9q ?kw9e ?_ ?kw9s ?kw9t ?kw9z; (case kw9F => k_asm); (case kw9N => k_asm); (case kw9l => kmk_list); (case kw9p => kmk_part); (case kw9q => kmk_part); (case kw9e => exact tail_ints _); (case kw9s => with_unfolding_all rfl); (case kw9t => kmk_pure); (case kw9z => exact (by assumption))); intro _ _ _ _ l1; (try k_lt l1); (try (revert l1; intro _)))
  k_with "binaryOp Add ref ref" => (k_here; (with_reducible show wpAny _ _ (binaryOp _ (Value.ref _) (Value.ref _)) _ _ _); k_dflt (refine' kmk_add_lit ?kw9F ?kw9N ?kw9a ?kw9b ?kw9e ?_ ?kw9z; (case kw9F => k_asm); (case kw9N => k_asm); (case kw9a => kmk_list); (case kw9b => kmk_list); (case kw9e => exact add_five _ _); (case kw9z => exact sz_five (by assumption))); intro _ _ _ _ l1; (try k_lt l1); (try (revert l1; intro _)))
  k_with "N0" => repeat (first | exact fa_nil | (refine fa_cons ⟨by assumption, by first | assumption⟩ ?_))
  k_with "eval ListComp" => (refine halt ?_)
  trivial
section
variable {M : Model} {A : Around} {E : Value → Shared → Prop} {s : Shared} {K : Frag} {h₀ : Heap} {L C : Addr} {m mg mb : Str → Option Value} {scope : Scope} {cl : List (Str × Addr)} {env : Env} {p : Program} {loose : List Str} {x : Str} {pos : Pos} {v : Value} {Q : Value → Shared → Prop}
/- a built-in's name within a comprehension -/
theorem ld_bR (F : Fr h₀ L s.heap m) (X : K.In h₀) (T : TopRead p loose mg mb h₀) (e : nsIn K mainGlobals x = some none) (hv : bootBuiltins x = some v) (hn : x ≠ "__name__") (h : Q v s) (hg : env.globals = mainGlobals := by rfl) (hb : env.builtins = builtinsNs := by rfl)
    (hk : (compEnvC scope cl C env).scope.kind = .function := by rfl) (hx : (compEnvC scope cl C env).kindOf x = some .globalImplicit := by rfl) (hd : (x == ("__debug__" : Str)) = false := by decide) :
    wpAny M A (eval (.Name x pos) (compEnvC scope cl C env)) Q E s :=
  Name_function_global hk hx (loadGlobal_builtin (env := compEnvC scope cl C env) (show s.heap.Ns env.globals mg from hg ▸ (T.keeps F.keep).g) (mg_none_of X T.g e) (show s.heap.Ns env.builtins mb from hb ▸ (T.keeps F.keep).b) ((T.builtins x hn).trans hv) h) hd
end
theorem withZ2x32 : True := by
  k_with "eval Name" => (k_here; (with_reducible show wpAny _ _ (eval (Expr.Name (Str.ofString "sum") _) (compEnvC _ _ _ _)) _ _ _); k_dflt (refine ld_bR (by k_asm) (by k_asm) (by k_asm) (by k_is) (by boot_by_name) (by decide) ?_))
  trivial
theorem cut_ints (zs : List (Int × Tok)) (a n : Nat) : (slicePick (intValues zs).toArray (some (a : Int)) (some ((a + n : Nat) : Int)) none).toList = intValues ((zs.drop a).take n) := by
  have e : sliceBounds (some (a : Int)) (some ((a + n : Nat) : Int)) none (intValues zs).toArray.size = (((min a (intValues zs).toArray.size : Nat) : Int), ((min (a + n) (intValues zs).toArray.size : Nat) : Int), 1) := by
    simp only [sliceBounds, Option.getD_none, show (1 : Int) > 0 by decide, if_true, if_neg (show ¬ ((a : Int) < 0) by (first | lia | omega)), if_neg (show ¬ (((a + n : Nat) : Int) < 0) by (first | lia | omega))]
    congr 1
    · (first | lia | omega)
    · congr 1
      (first | lia | omega)
  rw [kmk_pick_nat _ e]
  simp only [intValues, List.size_toArray, List.length_map]
  show ((zs.map _).drop (min a zs.length)).take (min (a + n) zs.length - min a zs.length) = ((zs.drop a).take n).map _
  rw [← List.map_drop, ← List.map_take]
  congr 1
  by_cases h : a ≤ zs.length
  · rw [Nat.min_eq_left h]
    by_cases h2 : a + n ≤ zs.length
    · rw [Nat.min_eq_left h2, Nat.add_sub_cancel_left]
    · rw [Nat.min_eq_right (by (first | lia | omega)), List.take_of_length_le (by rw [List.length_drop]; (first | lia | omega)), List.take_of_length_le (by rw [List.length_drop]; (first | lia | omega))]
  · rw [List.drop_eq_nil_of_le (by (first | lia | omega)), List.drop_eq_nil_of_le (by (first | lia | omega))]
    simp
theorem cut_ints1 (zs : List (Int × Tok)) (a n : Nat) : (slicePick (intValues zs).toArray (some (a : Int)) (some (((a + n : Nat) : Int) + 1)) none).toList = intValues ((zs.drop a).take (n + 1)) := cut_ints zs a (n + 1)
theorem intsAre_of : ∀ l : List (Int × Tok), IntsAre (intValues l) (l.map (·.1))
  | [] => .nil
  | p :: r => .cons p.1 p.2 (intsAre_of r)
theorem withZ2x33 : True := by
  k_with "subscriptTail Name Slice ref ref" => (k_here; (with_reducible show wpAny _ _ (subscriptTail _ (PySem.Expr.Slice (some _) (some _) none _) (Value.ref _) (Value.ref _)) _ _ _); k_dflt (refine' kmk_slice_lit ?kw9F ?kw9N ?kw9l ?kw9p ?kw9q ?kw9e ?_ ?kw9s ?kw9t ?kw9z; (case kw9F => k_asm); (case kw9N => k_asm); (case kw9l => kmk_list); (case kw9p => kmk_part); (case kw9q => kmk_part); (case kw9e => first | with_reducible exact cut_ints _ _ _ | with_reducible exact cut_ints1 _ _ _); (case kw9s => with_unfolding_all rfl); (case kw9t => kmk_pure); (case kw9z => exact (by assumption))); intro _ _ _ _ _)
  k_with "call builtin:sum" => (k_here; (with_reducible show wpAny _ _ (call (Value.builtin "sum") [Value.ref _]) _ _ _); k_dflt (refine' sumK ?kw9k0 ?kw9k1 ?kw9k2 ?kw9k3 ?kw9k4 ?_; (case kw9k0 => rfl); (case kw9k1 => k_asm); (case kw9k2 => k_asm); (case kw9k3 => kmk_list); (case kw9k4 => exact intsAre_of _); k_whole); intro _ _ _ _ _)
  trivial
theorem tups_of {g h' : Heap} {L B : Addr} {xs ys : Array Value} {ts : List Addr} {n : Nat} (hts : ts.length = n) (T : Took B xs ys ts h') (hL : @LT.lt Nat _ L B) (hg : g.objs.size ≤ L) :
    ∃ tups : List (Addr × Obj), News g L h' tups ∧ ∀ i, i < n → ∃ t x y, ts[i]? = some t ∧ xs[i]? = some x ∧ ys[i]? = some y ∧ (t, ({ cls := .type "tuple", data := .seq #[x, y] } : Obj)) ∈ tups := by
  refine ⟨(List.range n).map fun i => (ts.getD i 0, ({ cls := .type "tuple", data := .seq #[xs.getD i .none, ys.getD i .none] } : Obj)), fun p hp => ?_, fun i hi => ?_⟩
  · obtain ⟨i, hi, rfl⟩ := List.mem_map.mp hp
    have hi : i < ts.length := by rw [hts]; simpa using hi
    obtain ⟨a, x, y, ex, ey, e⟩ := T i _ (List.getElem?_eq_getElem hi)
    have e1 : ts.getD i 0 = ts[i] := by simp [List.getD, hi]
    have e2 : xs.getD i .none = x := by simp [Array.getD_eq_getD_getElem?, ex]
    have e3 : ys.getD i .none = y := by simp [Array.getD_eq_getD_getElem?, ey]
    dsimp only
    rw [e1, e2, e3]
    exact ⟨e, fun h => absurd hL (Nat.not_lt.mpr (h ▸ a)), Heap.get?_none_of_le (Nat.le_trans hg (Nat.le_trans (Nat.le_of_lt hL) a))⟩
  · have hi' : i < ts.length := by rw [hts]; exact hi
    obtain ⟨a, x, y, ex, ey, e⟩ := T i _ (List.getElem?_eq_getElem hi')
    refine ⟨_, x, y, List.getElem?_eq_getElem hi', ex, ey, List.mem_map.mpr ⟨i, by simpa using hi, ?_⟩⟩
    have e1 : ts.getD i 0 = ts[i] := by simp [List.getD, hi']
    have e2 : xs.getD i .none = x := by simp [Array.getD_eq_getD_getElem?, ex]
    have e3 : ys.getD i .none = y := by simp [Array.getD_eq_getD_getElem?, ey]
    rw [e1, e2, e3]
theorem add_one (l : List (Int × Tok)) (k : Int) (t : Tok) : (#[Value.int k t] : Array Value).toList ++ (intValues l).toArray.toList = intValues ((k, t) :: l) := by simp [intValues]
theorem sz_one {l : List (Int × Tok)} {k : Int} {t : Tok} (h : l.length ≤ 10) : (#[Value.int k t] : Array Value).toList.length + (intValues l).toArray.toList.length ≤ sizeLine := by
  simp only [intValues, List.length_map, List.length_cons, List.length_nil, show sizeLine = 16777216 from rfl]; (first | lia | omega)
theorem withZ2x34 : True := by
  k_with "binaryOp Add ref ref" => (k_here; (with_reducible show wpAny _ _ (binaryOp _ (Value.ref _) (Value.ref _)) _ _ _); k_dflt (refine' kmk_add_lit ?kw9F ?kw9N ?kw9a ?kw9b ?kw9e ?_ ?kw9z; (case kw9F => k_asm); (case kw9N => k_asm); (case kw9a => kmk_list); (case kw9b => kmk_list); (case kw9e => exact add_one _ _ _); (case kw9z => exact sz_one (by assumption))); intro _ _ _ _ l1; (try k_lt l1); (try (revert l1; intro _)))
  k_with "call builtin:max" => (k_here; (with_reducible show wpAny _ _ (call (Value.builtin _) [Value.ref _]) _ _ _); (with_unfolding_all refine' kso_max ?kw9k1 ?kw9k2 ?kw9k3 ?kw9k4 ?kw9k5 ?kw9k6 ?_; (case kw9k1 => k_asm); (case kw9k2 => k_asm); (case kw9k3 => kmk_list); (case kw9k4 => exact intsAre_of _); (case kw9k5 => exact Nat.succ_pos _); (case kw9k6 => with_unfolding_all rfl); k_whole); intro _ _ _ _ _ _ _ _)
  k_with "call builtin:min" => (k_here; (with_reducible show wpAny _ _ (call (Value.builtin _) [Value.ref _]) _ _ _); (with_unfolding_all refine' kso_min ?kw9k1 ?kw9k2 ?kw9k3 ?kw9k4 ?kw9k5 ?kw9k6 ?_; (case kw9k1 => k_asm); (case kw9k2 => k_asm); (case kw9k3 => kmk_list); (case kw9k4 => exact intsAre_of _); (case kw9k5 => exact Nat.succ_pos _); (case kw9k6 => with_unfolding_all rfl); k_whole); intro _ _ _ _ _ _ _ _)
  trivial
theorem widths_c {w : World} {mg mb : Str → Option Value} {b : Heap} {s : Shared} {ls lt : Addr} {zs sl : List (Int × Tok)} {nz nt : Nat} {rows : List (List Pr)} {its : List Pr} {Q E : Value → Shared → Prop}
    (B : Base w mg mb b) (kb : Sub b s.heap) (hz : s.heap.get? ls = some (listOf (intValues zs).toArray nz)) (hz0 : b.get? ls = none) (ht : s.heap.get? lt = some (listOf (intValues sl).toArray nt)) (ht0 : b.get? lt = none)
    (hzs : zs.map (·.1) = its.map prSz) (h5 : its.length = 5) (hb : ∀ i ∈ its, prSz i ≤ 100) (hsl : sl.map (·.1) = (startsFrom 0 rows).map Int.ofNat) (hrows : rows ≠ []) (hfull : ∀ r ∈ rows, r ≠ []) (hfl : rows.flatten = its)
    (hret : ∀ h' tk' T t1 t2, But [] s.heap h' → s.heap.get? T = none → h'.get? T = some { cls := .type "tuple", data := .seq #[.int (lowR rows) t1, .int (highR rows) t2] } → Q (.ref T) { s with heap := h', toks := tk' }) :
    wpAny (model pw w) (Av 5) (call (.ref 235) [.ref ls, .ref lt]) Q E s := by
  refine wpAny_call ?_
  have N0 : ∀ p ∈ [(ls, listOf (intValues zs).toArray nz), (lt, listOf (intValues sl).toArray nt)], s.heap.get? p.1 = some p.2 ∧ b.get? p.1 = none := by walk_at "N0"
  have hl5 : rows.length ≤ 5 := by have := rows_few hfull; rw [hfl, h5] at this; exact this
  have hln : sl.length = rows.length := by
    have := congrArg List.length hsl
    rw [List.length_map, List.length_map, starts_len] at this; exact this
  have hz5 : sl.length ≤ 10 := by (first | lia | omega)
  have hzs1 : (intValues sl).toArray.size ≤ sizeLine := by
    rw [List.size_toArray, intValues, List.length_map, show sizeLine = 16777216 from rfl]; (first | lia | omega)
  have hzz : (intValues zs).toArray.size ≤ sizeLine := by
    have := congrArg List.length hzs
    rw [List.length_map, List.length_map, h5] at this
    rw [List.size_toArray, intValues, List.length_map, show sizeLine = 16777216 from rfl]; (first | lia | omega)
  k_dflt (refine' enterC B kb N0 ?k4 ?k5 ?k6 ?k7 ?k8 ?k9 ?_ ?k11 ?k12 ?k13; (case k4 => k_is); (case k5 => k_is); (case k6 => decide); (case k7 => exact BindsTo.of_eq rfl); (case k8 => exact kindsX rfl); (case k9 => decide +kernel); (case k11 => exact rfl); (case k12 => exact rfl); (case k13 => exact rfl))
  intro g L' h₁ tk₁ cells F N Y X T hk hs hL
  (try k_lt hL)
  obtain ⟨oc1, hE, dc1⟩ := CellsAre.one Y
  subst hE
  clear Y
  (try simp only [List.cons_append, List.nil_append] at N)
  (try dsimp only)
  (try k_fold)
  k_steps
  rename_i DA hA T5 hB FA NA lA DC hC F5 N5 lC
  have eS := N5.get (show (lt, listOf (intValues sl).toArray nt) ∈ _ by k_mem)
  have eC := N5.get (show (DC, listOf (intValues (sl.tail ++ [(5, tk₁ + 1)])).toArray 0) ∈ _ by k_mem)
  refine call_zip_2 (xs := (intValues sl).toArray) (ys := (intValues (sl.tail ++ [(5, tk₁ + 1)])).toArray) ⟨_, eS, rfl, _, rfl⟩ ⟨_, eC, rfl, _, rfl⟩ (fun h6 zz zTI zTO zi1 zi2 hsz6 hk6 => ?_)
  k_steps
  have hup : ∀ c o, hC.get? c = some o → c ∉ [hC.objs.size + 4, hC.objs.size + 3, hC.objs.size, hC.objs.size + 1] := fun c o e => nwr_of e
  have hLR : @LT.lt Nat _ L' h6.objs.size := by rw [hsz6]; exact Nat.lt_of_lt_of_le F5.ns.lt (Nat.le_add_right _ _)
  refine call_list_zip (n := rows.length) rfl (zipApart_new (Heap.lt_size eS) (Heap.lt_size eC)) zz zTI ⟨_, _, zTO⟩ zi1 zi2 ⟨_, hk6 _ _ eS, rfl, _, rfl⟩ ⟨_, hk6 _ _ eC, rfl, _, rfl⟩ (by simp [intValues, hln]) (by
    have : 0 < rows.length := List.length_pos_iff.mpr hrows
    simp [intValues, hln]; (first | lia | omega)) (by (first | lia | omega)) (List.length_pos_iff.mpr hrows) (fun h7 tk7 ts c7 hts hacc hTook hk7 => ?_)
  have up7 : ∀ c o, hC.get? c = some o → h7.get? c = some o := fun c o e => hk7 c o (hup c o e) (hk6 c o e)
  obtain ⟨tups, Nt, htups⟩ := tups_of hts hTook (Nat.lt_succ_of_lt hLR) F5.above
  have F7 : Fr g L' h7 _ := F5.keeps up7
  have N7 : News g L' h7 ((h6.objs.size, listOf (ts.map Value.ref).toArray c7) :: (L' + 1, oc1) :: (ls, listOf (intValues zs).toArray nz) :: (lt, listOf (intValues sl).toArray nt) :: tups) :=
    fa_cons ⟨hacc, Nat.ne_of_gt hLR, Heap.get?_none_of_le (Nat.le_trans F5.above (Nat.le_of_lt hLR))⟩ (fa_cons ⟨up7 _ _ (N5.get (by k_mem)), (N5 _ (show (L' + 1, oc1) ∈ _ by k_mem)).2⟩ (fa_cons ⟨up7 _ _ (N5.get (by k_mem)), (N5 _ (show (ls, _) ∈ _ by k_mem)).2⟩ (fa_cons ⟨up7 _ _ eS, (N5 _ (show (lt, listOf (intValues sl).toArray nt) ∈ _ by k_mem)).2⟩ Nt)))
  clear F5 N5 FA NA
  k_steps
  rename Fr _ _ _ _ => F8
  rename News _ _ _ _ => N8
  unfold Halt
  refine comp_pt F8 (by with_unfolding_all rfl) (by decide) rfl (by decide) rfl rfl (by decide) ?_
  k_steps
  refine ⟨h6.objs.size, _, c7, _, fun i => (intValues sl).toArray[i]?.getD .none, fun i => (intValues (sl.tail ++ [(5, tk₁ + 1)])).toArray[i]?.getD .none, fun i ys => ∃ l : List (Int × Tok), ys = intValues l ∧ l.map (·.1) = lows (rows.take i), rfl, rfl, F8, N8, by k_mem, ?_, fun i hi => ?_, ⟨[], rfl, rfl⟩, fun i ys I oI C oC D m₂ h tk E' hi hR hC ha hb2 Ft Nt' hlt hID => ?_, fun D h tk ys Ft Nt' hlt hR => ?_⟩
  · simp [hts, show sizeLine = 16777216 from rfl]; (first | lia | omega)
  · have hn : i < rows.length := by simpa [hts] using hi
    obtain ⟨t, x, y, e1, e2, e3, e4⟩ := htups i hn
    refine ⟨t, 0, by simp [e1], ?_⟩
    show (t, ({ cls := .type "tuple", data := .seq #[(intValues sl).toArray[i]?.getD .none, (intValues (sl.tail ++ [(5, tk₁ + 1)])).toArray[i]?.getD .none] } : Obj)) ∈ _
    rw [e2, e3]
    exact .tail _ (.tail _ (.tail _ (.tail _ (.tail _ e4))))
  · have hn : i < rows.length := by simpa [hts] using hi
    obtain ⟨bi, ei, r, ebi, eei, hei, he5, hrm, hlow, hsum, hno, hyes⟩ := width_pack hfl hfull h5 hzs hn
    have h0 : (sl.tail ++ [(5, tk₁ + 1)]).map (fun p : Int × Tok => p.1) = ((startsFrom 0 rows).tail ++ [0 + rows.flatten.length]).map Int.ofNat := by
      rw [List.map_append, List.map_append, List.map_tail, List.map_tail, hsl, hfl, h5]; rfl
    obtain ⟨tb, ev1⟩ := int_at hsl (starts_at rows 0 i hn)
    obtain ⟨te, ev2⟩ := int_at h0 (ends_at rows 0 i hn)
    rw [Nat.zero_add, ebi] at ev1
    rw [Nat.zero_add, eei, hei] at ev2
    dsimp only at ha hb2
    rw [ev1] at ha
    rw [ev2] at hb2
    obtain ⟨l, rfl, hl⟩ := hR
    have KN := Stop.mk Nt'
    refine wp_halt ?_
    k_steps
    refine Stop.mk ⟨⟨_, _, rfl, by assumption, by assumption⟩, ?_⟩
    by_cases h1 : 1 < r.length
    · rw [if_pos (decide_eq_true (by (first | lia | omega)))]
      refine wp_halt ?_
      k_steps
      rename Fr _ _ _ _ => F10
      rename News _ _ _ _ => N10
      refine Stop.mk ⟨⟨_, _, rfl, F10, fun p hp => N10 p (.tail _ hp)⟩, ?_⟩
      refine ⟨l ++ [(_, _)], by simp [intValues]; exact ⟨rfl, rfl⟩, ?_⟩
      rw [List.map_append, hl, hlow, if_pos h1, ← hsum, List.map_take, List.map_drop]; rfl
    · rw [if_neg (by simp; (first | lia | omega))]
      exact ⟨l, rfl, by rw [hl, hlow, if_neg h1, List.append_nil]⟩
  · obtain ⟨l, rfl, hl⟩ := hR
    have hl : l.map (·.1) = lows rows := by
      rw [hl, List.take_of_length_le (by simp [hts])]
    have hll : l.length ≤ 10 := by
      have h1 := congrArg List.length hl
      have h2 : (lows rows).length ≤ rows.length := List.length_filterMap_le _ _
      rw [List.length_map] at h1
      (first | lia | omega)
    clear N8 F8 hlt
    k_steps
    rename (∀ a, a ∈ _ → a ≤ _) => hM2
    rename (_ ∈ List.map _ ((-1000, _) :: l)) => hM1
    rename Fr _ _ _ _ => F8
    rename News _ _ _ _ => N8
    unfold Halt
    refine comp_pt F8 (by with_unfolding_all rfl) (by decide) rfl (by decide) rfl rfl (by decide) ?_
    k_steps
    refine ⟨h6.objs.size, _, c7, _, fun i => (intValues sl).toArray[i]?.getD .none, fun i => (intValues (sl.tail ++ [(5, tk₁ + 1)])).toArray[i]?.getD .none, fun i ys => ∃ l : List (Int × Tok), ys = intValues l ∧ l.map (·.1) = (List.range i).filterMap (hiAt rows), rfl, rfl, F8, N8, by k_mem, ?_, fun i hi => ?_, ⟨[], rfl, rfl⟩, fun i ys I oI C oC D m₂ h tk E' hi hR hC ha hb2 Ft Nt' hlt hID => ?_, fun D h tk ys Ft Nt' hlt hR => ?_⟩
    · simp [hts, show sizeLine = 16777216 from rfl]; (first | lia | omega)
    · have hn : i < rows.length := by simpa [hts] using hi
      obtain ⟨t, x, y, e1, e2, e3, e4⟩ := htups i hn
      refine ⟨t, 0, by simp [e1], ?_⟩
      show (t, ({ cls := .type "tuple", data := .seq #[(intValues sl).toArray[i]?.getD .none, (intValues (sl.tail ++ [(5, tk₁ + 1)])).toArray[i]?.getD .none] } : Obj)) ∈ _
      rw [e2, e3]
      repeat (first | exact e4 | refine .tail _ ?_)
    · have hn : i < rows.length := by simpa [hts] using hi
      obtain ⟨bi, ei, r, ebi, eei, hei, he5, hrm, hlow, hsum, hno, hyes⟩ := width_pack hfl hfull h5 hzs hn
      have h0 : (sl.tail ++ [(5, tk₁ + 1)]).map (fun p : Int × Tok => p.1) = ((startsFrom 0 rows).tail ++ [0 + rows.flatten.length]).map Int.ofNat := by
        rw [List.map_append, List.map_append, List.map_tail, List.map_tail, hsl, hfl, h5]; rfl
      obtain ⟨tb, ev1⟩ := int_at hsl (starts_at rows 0 i hn)
      obtain ⟨te, ev2⟩ := int_at h0 (ends_at rows 0 i hn)
      rw [Nat.zero_add, ebi] at ev1
      rw [Nat.zero_add, eei, hei] at ev2
      rw [hei] at hno hyes
      dsimp only at ha hb2
      rw [ev1] at ha
      rw [ev2] at hb2
      obtain ⟨l2, rfl, hl2⟩ := hR
      refine wp_halt ?_
      k_steps
      refine Stop.mk ⟨⟨_, _, rfl, by assumption, by assumption⟩, ?_⟩
      by_cases h1 : bi + r.length < 5
      · rw [if_pos (decide_eq_true (by (first | lia | omega)))]
        obtain ⟨v, hv1, hv2⟩ := hyes h1
        refine wp_halt ?_
        k_steps
        rename Fr _ _ _ _ => F10
        rename News _ _ _ _ => N10
        refine Stop.mk ⟨⟨_, _, rfl, F10, fun p hp => N10 p (.tail _ hp)⟩, ?_⟩
        refine ⟨l2 ++ [(_, _)], by simp [intValues]; exact ⟨rfl, rfl⟩, ?_⟩
        rw [List.map_append, hl2, range_next, hv1, ← hv2, List.map_take, List.map_drop]; rfl
      · rw [if_neg (by simp; (first | lia | omega))]
        exact ⟨l2, rfl, by rw [hl2, range_next, hno h1]; simp⟩
    · obtain ⟨l2, rfl, hl2⟩ := hR
      have hl2 : l2.map (·.1) = highs rows := by
        rw [hl2, highs_range]; simp [hts]
      have hll2 : l2.length ≤ 10 := by
        have h1 := congrArg List.length hl2
        have h2 : (highs rows).length ≤ rows.length := by rw [highs_range]; exact Nat.le_trans (List.length_filterMap_le _ _) (by simp)
        rw [List.length_map] at h1
        (first | lia | omega)
      clear N8 F8 hlt
      k_steps
      rename Fr _ _ _ _ => F12
      rename News _ _ _ _ => N12
      rename (∀ a, a ∈ _ → _ ≤ a) => hm2
      rename (_ ∈ List.map _ ((1000, _) :: l2)) => hm1
      rw [List.map_cons, hl] at hM1 hM2
      rw [List.map_cons, hl2] at hm1 hm2
      have q1 : _ = lowR rows := max_is hM1 hM2
      have q2 : _ = highR rows := min_is hm1 hm2
      rw [q1, q2] at N12
      have lt2 : ∀ (its : Array Value) (n : Nat) (u v : Value), listOf its n ≠ ({ cls := .type "tuple", data := .seq #[u, v] } : Obj) := fun its n u v e => by
        have := congrArg Obj.cls e
        simp at this
      exact hret _ _ _ _ _ (but_end hk F12.keep (fa_cons (.inr ((N12 (ls, _) (by k_mem)).1.trans hz.symm)) (fa_cons (.inr ((N12 (lt, _) (by k_mem)).1.trans ht.symm)) fa_nil))) (fresh_end hk (N12 _ (.head _)).2.2 (fa_cons (ne_of_get (N12 (ls, _) (by k_mem)).1 (N12 _ (.head _)).1 (lt2 _ _ _ _)) (fa_cons (ne_of_get (N12 (lt, _) (by k_mem)).1 (N12 _ (.head _)).1 (lt2 _ _ _ _)) fa_nil))) (N12 _ (.head _)).1
end Mine
end
section
open PySem PySem.W PyProof.Rows PySem.Calls PySem.Spec
set_option maxRecDepth 100000
set_option maxHeartbeats 1000000
set_option pp.deepTerms false
set_option pp.maxSteps 20000
namespace Mine
theorem dummyJ0 : True := by
  k_with_none
  w_top off
  trivial
/- an address of no entry -/
structure OffL (d : Nat) (l : List (Addr × Obj)) : Prop where
  h : ∀ p ∈ l, p.1 ≠ d
/- a rung: the pair's place, the starts' place, the least width, the starts, the rows -/
structure Rg where
  T : Addr
  D : Addr
  lo : Int
  t : Tok
  sl : List (Int × Tok)
  n : Nat
  rows : List (List Pr)
noncomputable def rgTups (rs : List Rg) : List (Addr × Obj) := rs.flatMap fun r => [(r.T, ({ cls := .type "tuple", data := .seq #[.int r.lo r.t, .ref r.D] } : Obj)), (r.D, listOf (intValues r.sl).toArray r.n)]
noncomputable def rgVals (rs : List Rg) : List Value := rs.map fun r => .ref r.T
noncomputable def rgPairs (rs : List Rg) : List (Int × List (List Pr)) := rs.map fun r => (r.lo, r.rows)
theorem rgTups_snoc (rs : List Rg) (r : Rg) : rgTups (rs ++ [r]) = rgTups rs ++ [(r.T, ({ cls := .type "tuple", data := .seq #[.int r.lo r.t, .ref r.D] } : Obj)), (r.D, listOf (intValues r.sl).toArray r.n)] := by
  unfold rgTups; rw [List.flatMap_append]; simp
theorem rg_data {rs : List Rg} : ∀ p ∈ rgTups rs, ∀ v, p.2.data ≠ .fields v := fun p hp v e => by
  obtain ⟨r, _, hp⟩ := List.mem_flatMap.mp hp
  simp only [List.mem_cons, List.not_mem_nil, or_false] at hp
  rcases hp with rfl | rfl <;> cases e
theorem rg_off {rs : List Rg} {r : Rg} {d : Nat} (h : OffL d (rgTups rs)) (h1 : @Ne Nat r.T d) (h2 : @Ne Nat r.D d) : OffL d (rgTups (rs ++ [r])) := ⟨fun p hp => by
  rw [rgTups_snoc] at hp
  rcases List.mem_append.mp hp with hp | hp
  · exact h.h p hp
  · simp only [List.mem_cons, List.not_mem_nil, or_false] at hp
    rcases hp with rfl | rfl
    · exact h1
    · exact h2⟩
theorem after_tab {g h h' : Heap} {L : Addr} {m : Str → Option Value} {news : List (Addr × Obj)} {o1 o2 : Obj} (F : Fr g L h m) (N : News g L h news) (b : But [176, 183] h h') (m1 : ((176 : Nat), o1) ∈ news) (t1 : TabO o1) (m2 : ((183 : Nat), o2) ∈ news) (t2 : TabO o2) :
    Fr g L h' m ∧ ∀ p ∈ news, (∀ v, p.2.data ≠ .fields v) → h'.get? p.1 = some p.2 ∧ p.1 ≠ L ∧ g.get? p.1 = none := by
  have own : ∀ x ∈ [(176 : Nat), 183], x ≠ L ∧ g.get? x = none := fa_cons (N _ m1).2 (fa_cons (N _ m2).2 fa_nil)
  refine ⟨(after' (news' := []) F N b own fa_nil).1, fun p hp hv => ⟨b _ _ (fun hm => ?_) (N p hp).1, (N p hp).2⟩⟩
  simp only [List.mem_cons, List.not_mem_nil, or_false] at hm
  rcases hm with e | e
  · exact ne_tab (N p hp).1 (N _ m1).1 t1 hv e
  · exact ne_tab (N p hp).1 (N _ m2).1 t2 hv e
noncomputable def lawB (w : World) : List Stmt := by k_dflt (refine' bodyAt w 240 ?k; (case k => k_is))
noncomputable def lawS (w : World) : Scope := by k_dflt (refine' scopeAt w 240 ?k; (case k => k_is))
noncomputable abbrev lawE (w : World) (L f : Addr) (cd : Value) : Env := envOfC (Str.ofString "law") (lawS w) L f cd
noncomputable def whileB : List Stmt → List Stmt
  | .While _ b _ _ :: _ => b
  | _ => []
noncomputable def whileT : List Stmt → Expr
  | .While t _ _ _ :: _ => t
  | _ => .Constant .none 0 default
noncomputable abbrev lawA (w : World) (L f : Addr) (cd : Value) : Around := callerA.deeper (lawE w L f cd)
theorem ints_of : ∀ l : List (Int × Tok), IntsAre (intValues l) (l.map (·.1))
  | [] => .nil
  | p :: r => .cons p.1 p.2 (ints_of r)
section
variable {prog : Program} {w : World} {A : Around} {E : Value → Shared → Prop} {s : Shared} {a b : Int} {t u : Tok} {x y : Addr} {sl sm : List (Int × Tok)} {Q : Value → Shared → Prop}
theorem gt_no (hc : ¬ b < a) (h : Q (.bool false) s) : wpAny (model prog w) A (compareOp .Gt (.int a t) (.int b u)) Q E s :=
  PyProof.Rows.gt_int (by rw [decide_eq_false hc]; exact h)
theorem gt_yes (hc : b < a) (h : Q (.bool true) s) : wpAny (model prog w) A (compareOp .Gt (.int a t) (.int b u)) Q E s :=
  PyProof.Rows.gt_int (by rw [decide_eq_true hc]; exact h)
theorem ne_no (hc : a = b) (h : Q (.bool false) s) : wpAny (model prog w) A (compareOp .NotEq (.int a t) (.int b u)) Q E s :=
  PyProof.Rows.ne_int (by rw [bne_eq_false_iff_eq.mpr hc]; exact h)
/- a list of numbers is not the empty list -/
theorem eq_nil (h0 : sl.map (·.1) ≠ []) (hx : s.heap.IsList x (intValues sl).toArray) (hy : s.heap.IsList y #[]) (hu : A.units + 64 < cLine) (h : Q (.bool false) s) : wpAny (model prog w) A (compareOp .Eq (.ref x) (.ref y)) Q E s :=
  ke_eq_ints (ys := []) hx hy (ints_of sl) .nil hu (by rw [decide_eq_false h0]; exact h)
/- two lists of the same numbers -/
theorem eq_nums (h0 : sl.map (·.1) = sm.map (·.1)) (hx : s.heap.IsList x (intValues sl).toArray) (hy : s.heap.IsList y (intValues sm).toArray) (hu : A.units + 64 < cLine) (h : Q (.bool true) s) : wpAny (model prog w) A (compareOp .Eq (.ref x) (.ref y)) Q E s :=
  ke_eq_ints hx hy (ints_of sl) (ints_of sm) hu (by rw [decide_eq_true h0]; exact h)
end
end Mine
end
section
open PySem PySem.W PyProof.Rows PySem.Calls PySem.Spec
set_option maxRecDepth 100000
set_option maxHeartbeats 2000000
set_option pp.deepTerms false
set_option pp.maxSteps 20000
namespace Mine
theorem dummyI2 : True := by
  k_with_none
  w_top off
  k_with "lt8" => with_reducible first | assumption | exact And.left (by assumption) | exact And.left (And.right (by assumption)) | exact And.left (And.right (And.right (by assumption))) | exact And.left (And.right (And.right (And.right (by assumption)))) | exact And.left (And.right (And.right (And.right (And.right (by assumption))))) | exact And.left (And.right (And.right (And.right (And.right (And.right (by assumption)))))) | exact And.left (And.right (And.right (And.right (And.right (And.right (And.right (by assumption))))))) | exact And.left (And.right (And.right (And.right (And.right (And.right (And.right (And.right (by assumption)))))))) | exact And.left (And.right (And.right (And.right (And.right (And.right (And.right (And.right (And.right (by assumption))))))))) | exact And.left (And.right (And.right (And.right (And.right (And.right (And.right (And.right (And.right (And.right (by assumption)))))))))) | exact And.left (And.right (And.right (And.right (And.right (And.right (And.right (And.right (And.right (And.right (And.right (by assumption))))))))))) | exact And.left (And.right (And.right (And.right (And.right (And.right (And.right (And.right (And.right (And.right (And.right (And.right (by assumption)))))))))))) | exact And.left (And.right (And.right (And.right (And.right (And.right (And.right (And.right (And.right (And.right (And.right (And.right (And.right (by assumption)))))))))))))
  k_with "lt9" => first | exact Nat.ne_of_lt (by walk_at "lt8") | exact Nat.ne_of_gt (by walk_at "lt8")
  trivial
theorem read_len : ∀ (l : List (List UInt8)) (st : List Int × List Str), (l.foldl readTok st).1.length ≤ st.1.length + l.length ∧ (l.foldl readTok st).2.length ≤ st.2.length + l.length
  | [], _ => ⟨Nat.le_refl _, Nat.le_refl _⟩
  | x :: r, st => by
    have := read_len r (readTok st x)
    have h : (readTok st x).1.length ≤ st.1.length + 1 ∧ (readTok st x).2.length ≤ st.2.length + 1 := by
      unfold readTok; split <;> simp
    simp only [List.foldl_cons, List.length_cons]
    (first | lia | omega)
theorem read_few {tl : List (List UInt8 × Tok)} {mv : List (Int × Tok)} {sv : List (Str × Tok)} {i : Nat} (hl : tl.length ≤ 100) (hm : mv.map (·.1) = (((tl.map (·.1)).take i).foldl readTok ([], [])).1) (hs : sv.map (·.1) = (((tl.map (·.1)).take i).foldl readTok ([], [])).2) :
    (intValues mv).toArray.size ≤ sizeLine ∧ (strValues sv).toArray.size ≤ sizeLine := by
  have h := read_len ((tl.map (·.1)).take i) ([], [])
  rw [← hm, ← hs] at h
  simp only [List.length_map, List.length_take, List.length_nil] at h
  simp only [intValues, strValues, List.size_toArray, List.length_map, show sizeLine = 16777216 from rfl]
  (first | lia | omega)
theorem read_next {tl : List (List UInt8 × Tok)} {i : Nat} {p : List UInt8 × Tok} (h : tl[i]? = some p) : ((tl.map (·.1)).take (i + 1)).foldl readTok ([], []) = readTok (((tl.map (·.1)).take i).foldl readTok ([], [])) p.1 := by
  rw [List.take_add_one, List.getElem?_map, h, List.foldl_append]; rfl
theorem readTok_hash (st : List Int × List Str) : readTok st [35] = (st.1 ++ [(st.2.length : Int)], st.2) := if_pos rfl
theorem readTok_word (st : List Int × List Str) {l : List UInt8} (h : ¬ l = [35]) : readTok st l = (st.1, st.2 ++ [⟨l.toArray.map (·.toNat)⟩]) := if_neg h
theorem push_ints (mv : List (Int × Tok)) (k : Int) (t : Tok) : (intValues mv).toArray.push (.int k t) = (intValues (mv ++ [(k, t)])).toArray := by simp [intValues]
theorem push_strs (sv : List (Str × Tok)) (x : Str) (t : Tok) : (strValues sv).toArray.push (.str x t) = (strValues (sv ++ [(x, t)])).toArray := by simp [strValues]
theorem withI2x35 : True := by
  k_with_none
  w_top off
  k_with "lt8" => with_reducible first | assumption | exact And.left (by assumption) | exact And.left (And.right (by assumption)) | exact And.left (And.right (And.right (by assumption))) | exact And.left (And.right (And.right (And.right (by assumption)))) | exact And.left (And.right (And.right (And.right (And.right (by assumption))))) | exact And.left (And.right (And.right (And.right (And.right (And.right (by assumption)))))) | exact And.left (And.right (And.right (And.right (And.right (And.right (And.right (by assumption))))))) | exact And.left (And.right (And.right (And.right (And.right (And.right (And.right (And.right (by assumption)))))))) | exact And.left (And.right (And.right (And.right (And.right (And.right (And.right (And.right (And.right (by assumption))))))))) | exact And.left (And.right (And.right (And.right (And.right (And.right (And.right (And.right (And.right (And.right (by assumption)))))))))) | exact And.left (And.right (And.right (And.right (And.right (And.right (And.right (And.right (And.right (And.right (And.right (by assumption))))))))))) | exact And.left (And.right (And.right (And.right (And.right (And.right (And.right (And.right (And.right (And.right (And.right (And.right (by assumption)))))))))))) | exact And.left (And.right (And.right (And.right (And.right (And.right (And.right (And.right (And.right (And.right (And.right (And.right (And.right (by assumption)))))))))))))
  k_with "lt9" => first | exact Nat.ne_of_lt (by walk_at "lt8") | exact Nat.ne_of_gt (by walk_at "lt8")
  k_with "exec For Name Name cons nil" => (k_here; refine for_exec ?_ (by intro _; with_unfolding_all rfl))
  k_with "call builtin:len" => (k_here; (with_reducible show wpAny _ _ (call (Value.builtin "len") [Value.ref _]) _ _ _); k_dflt (refine PyProof.Rows.len_list (News.isList (by k_asm) (by k_mem)) (by assumption) ?_))
  k_with "call builtin:list.append" => (k_here; (with_reducible show wpAny _ _ (call (Value.builtin _) [Value.ref _, _]) _ _ _); k_dflt (refine' append_K ?kw9k1 ?kw9k2 ?kw9k3 ?_ ?kw9z; (case kw9k1 => k_asm); (case kw9k2 => k_asm); (case kw9k3 => k_upd); (case kw9z => assumption); k_whole); intro _ _ _)
  k_with "call builtin:bytes.decode" => (k_here; (with_reducible show wpAny _ _ (call (Value.builtin "bytes.decode") _) _ _ _); k_dflt (refine decode_K (by assumption) (by assumption) ?_); intro _ _)
  k_with "execs cons Assign cons" => (k_here; (with_reducible show wpAny _ _ (execs (Stmt.Assign [Expr.Name (Str.ofString "starts") _] _ _ :: _) _) _ _ _); refine halt ?_)
  k_with "execs cons" => (k_here; (with_reducible show wpAny _ _ (execs (Stmt.Assign [Expr.Name (Str.ofString "starts") _] _ _ :: _) _) _ _ _); refine halt ?_)
  k_with "compareOp NotEq ref ref" => (refine halt ?_)
  k_with "binaryOp Add bytes bytes" => (k_here; (with_reducible show wpAny _ _ (binaryOp Operator.Add (Value.bytes _ _) (Value.bytes _ _)) _ _ _); (refine KBy.add_bytes (by assumption) ?_); intro _ _)
  trivial
theorem tail1 {w : World} {mg mb : Str → Option Value} {b g : Heap} {L' : Addr} {s : Shared} {m : Str → Option Value} {T14 D2 la lw fr : Addr} {tl14 : List (List UInt8 × Tok)} {arr : Array UInt8} {ta : Tok} {nl : List (Str × Tok)} {nt n12 na nb : Nat} {c1 c2 q1 q2 ofr : Obj} {l0 l1 l2 l3 l4 w0 w1 w2 w3 w4 : Str} {a0 a1 a2 a3 a4 b0 b1 b2 b3 b4 : Tok} {Q : Flow → Shared → Prop} {rows : List (List Pr)}
    (B : Base w mg mb b) (hs : Sub b g) (X : (K9 w.params).In g) (T : TopRead view lo mg mb g)
    (F : Fr g L' s.heap (fun z => if z = Str.ofString "tokens" then some (.ref T14) else if z = Str.ofString "answer" then some (.bytes arr ta) else if z = Str.ofString "notes" then some (.ref D2) else m z))
    (N : News g L' s.heap [(T14, { cls := .type "tuple", data := .seq (bytesValues tl14).toArray nt }), (D2, listOf (strValues nl).toArray n12), (L' + 1 + 1, c1), (L' + 1, c2), (la, five l0 l1 l2 l3 l4 a0 a1 a2 a3 a4 na), (lw, five w0 w1 w2 w3 w4 b0 b1 b2 b3 b4 nb), (176, q1), (183, q2), (fr, ofr)])
    (k1 : c1.data = .cell (some (.ref lw))) (k2 : c2.data = .cell (some (.ref la)))
    (htl : tl14.map (·.1) = toks (pairsFrom [] rows)) (htok : ∀ t ∈ toks (pairsFrom [] rows), t ≠ [] ∧ (∀ c ∈ t, c.toNat < 128) ∧ t.length ≤ 100) (hntk : (toks (pairsFrom [] rows)).length ≤ 100)
    (hrd : (toks (pairsFrom [] rows)).foldl readTok ([], []) = ((marksFrom 0 rows).map Int.ofNat, [w0, w1, w2, w3, w4])) (hwok : ∀ x ∈ [w0, w1, w2, w3, w4], PyData.strOk x = true)
    (ha8 : 8 ≤ arr.size) (ha9 : arr.size ≤ 1000)
    (hnl : nl.map (·.1) = notesOf rows) (hok : ∀ x ∈ notesOf rows, PyData.strOk x = true) (hrows : rows ≠ []) (hfull : ∀ r ∈ rows, r ≠ []) (hfl : rows.flatten = [(l0, w0), (l1, w1), (l2, w2), (l3, w3), (l4, w4)]) (hsz : ∀ i ∈ [(l0, w0), (l1, w1), (l2, w2), (l3, w3), (l4, w4)], i.1.length ≤ 100 ∧ i.2.length ≤ 100)
    (hret : ∀ h' m' tk' D sl n, Fr g L' h' m' → News g L' h' [(D, listOf (intValues sl).toArray n), (la, five l0 l1 l2 l3 l4 a0 a1 a2 a3 a4 na), (lw, five w0 w1 w2 w3 w4 b0 b1 b2 b3 b4 nb), (176, q1), (183, q2), (fr, ofr)] → @LT.lt Nat _ la D ∧ @LT.lt Nat _ lw D ∧ @LT.lt Nat _ 176 D ∧ @LT.lt Nat _ 183 D ∧ @LT.lt Nat _ fr D → sl.map (·.1) = (startsFrom 0 rows).map Int.ofNat → Q (.ret (.ref D)) { s with heap := h', toks := tk' }) :
    wpAny (model pw w) ((Av 5).deeper (foldE w L')) (execs ((foldB w).drop 5) (foldE w L')) Q (fun _ _ => False) s := by
  have hlen : tl14.length ≤ 100 := by rw [← htl, List.length_map] at hntk; exact hntk
  unfold foldB bodyAt foldE foldS scopeAt
  dsimp only [List.drop_succ_cons, List.drop_zero, List.drop]
  k_steps
  rename_i lM hA l1M hB lS hC l1S hE F15 N15
  have eT := N15 _ (show (T14, ({ cls := .type "tuple", data := .seq (bytesValues tl14).toArray nt } : Obj)) ∈ _ by k_mem)
  have eM := N15 _ (show (lM, listOf #[] 0) ∈ _ by k_mem)
  have eS := N15 _ (show (lS, listOf #[] 0) ∈ _ by k_mem)
  refine wpAny_pyIter_tuple ⟨_, eT.1, rfl, _, rfl⟩ ?_
  have gL : g.get? L' = none := Heap.get?_none_of_le F15.above
  have gI : g.get? hE.objs.size = none := Heap.get?_none_of_le (Nat.le_trans F15.above (Nat.le_of_lt F15.ns.lt))
  have hne : ∀ a o, hE.get? a = some o → a ≠ hE.objs.size := fun a o e => Nat.ne_of_lt (Heap.lt_size e)
  have hLn : L' ≠ hE.objs.size := Nat.ne_of_lt F15.ns.lt
  have hout : ∀ a o, hE.get? a = some o → a ≠ L' → a ∉ L' :: [hE.objs.size] := fun a o e hn hm => by
    rcases List.mem_cons.mp hm with h | h
    · exact hn h
    · exact hne a o e (List.mem_singleton.mp h)
  have N16 : News g L' hE (List.drop 2 _) := fun p hp => N15 p (List.mem_of_mem_drop hp)
  dsimp only [List.drop_succ_cons, List.drop_zero, List.drop] at N16
  have hled := off_of (xs := L' :: [hE.objs.size]) N16 (fun p hp => hout _ _ (N16 p hp).1 (N16 p hp).2.1)
  have pk : ∀ b o, hE.get? b = some o → (hE.push { cls := .type "tuple_iterator", data := .fields #[.ref T14, .int 0 0] }).get? b = some o := fun b o e => Heap.get?_push_of_some _ e
  have hW := fun (A : Around) (hh : A.handled = none) => Walks.tuple (prog := pw) (w := w) (A := A) hh hE.objs.size T14 (hne _ _ eT.1) (bytesValues tl14).toArray
  refine for_ones (v1 := fun i => ((bytesValues tl14).toArray)[i]?.getD .none) (JTof N16 lM lS s.gens s.drawn s.os (tl14.map (·.1)))
    (hW _ rfl) (fun i v _ hP => by rw [hP]; rfl) rfl rfl (fun hm => hLn (List.mem_singleton.mp hm)) (fun hm => ?_) (fun i s' h' tk hJ hk => hJ.keep (fun c hc => ?_) hled (hout _ _ eM.1 eM.2.1) (hout _ _ eS.1 eS.2.1) hk) (fun i s' hi hJ hSt hNs => ?_) (fun s' u hJ hN => ?_) _ 0 _ _ (Nat.zero_add _)
    ⟨fun c o e => pk _ _ (F15.keep c o e), fun p hp => pk _ _ (N16 p hp).1, ⟨[], 0, pk _ _ eM.1, rfl⟩, ⟨[], 0, pk _ _ eS.1, rfl⟩, rfl, rfl, rfl⟩ ⟨⟨_, Heap.get?_push_size _ rfl, rfl, rfl⟩, _, pk _ _ eT.1, rfl, _, rfl⟩ (F15.ns.keeps pk) (fun _ _ => rfl)
  · simp only [List.mem_cons, List.not_mem_nil, or_false] at hm
    rcases hm with h | h
    · exact hLn h
    · exact eT.2.1 h.symm
  · rcases List.mem_cons.mp hc with rfl | hc
    · exact gL
    · rw [List.mem_singleton.mp hc]; exact gI
  · have hi' : i < tl14.length := by simpa [bytesValues] using hi
    obtain ⟨tk15, hq15⟩ : ∃ p, tl14[i]? = some p := ⟨_, List.getElem?_eq_getElem hi'⟩
    have ev : (bytesValues tl14).toArray[i]?.getD Value.none = .bytes tk15.1.toArray tk15.2 := by
      simp [bytesValues, hq15]
    rw [ev] at hNs
    have hnx := read_next hq15
    obtain ⟨tb, tt⟩ := tk15
    have htm : tb ∈ toks (pairsFrom [] rows) := by
      rw [← htl]
      exact List.mem_map.mpr ⟨(tb, tt), List.mem_of_getElem? hq15, rfl⟩
    obtain ⟨hn0, hb128, hb100⟩ := htok tb htm
    obtain ⟨c, cl, rfl⟩ : ∃ c cl, tb = c :: cl := by
      cases tb with
      | nil => exact absurd rfl hn0
      | cons c cl => exact ⟨c, cl, rfl⟩
    have hbz : (c :: cl).length ≤ 100000 := by (first | lia | omega)
    obtain ⟨hp', gn', dd, tk', oo⟩ := s'
    obtain ⟨jb, jl, ⟨mv, mn', jm, jme⟩, ⟨sv, sn', js, jse⟩, rfl, rfl, rfl⟩ := hJ
    obtain ⟨hmz, hsz1⟩ := read_few hlen jme jse
    have hsz2 : (((strValues sv).toArray.size : Nat) : Int) < 2 ^ 63 := by rw [show sizeLine = 16777216 from rfl] at hsz1; (first | lia | omega)
    obtain ⟨⟨oI, hoI, cI, dI⟩, hTt⟩ := id hSt
    have F17 : Fr g L' hp' _ := ⟨hNs, jb, F15.above⟩
    have N17 := news3 (a := (hE.objs.size, oI)) (b := (lM, listOf (intValues mv).toArray mn')) (c := (lS, listOf (strValues sv).toArray sn')) N16 jl ⟨hoI, Ne.symm hLn, gI⟩ ⟨jm, eM.2⟩ ⟨js, eS.2⟩
    have lI : @LT.lt Nat _ lM hE.objs.size ∧ @LT.lt Nat _ lS hE.objs.size := ⟨Heap.lt_size eM.1, Heap.lt_size eS.1⟩
    have KJ := Stop.mk (And.intro hSt (And.intro hnx (And.intro jme jse)))
    have F15a := F15.above
    unfold JTof
    clear N15 N16 F15 eT hSt hnx
    refine wp_halt ?_
    k_steps
    · rename Fr _ _ _ _ => F18
      rename News _ _ _ _ => N18
      rename ((c :: cl, tt).1.toArray.toList == _) = true => hc
      obtain ⟨hSt, hnx, jme, jse⟩ := KJ
      have h35 : c :: cl = [35] := by simpa using hc
      refine Stop.mk ⟨.inl rfl, ⟨F18.keep, fun p hp => (N18 p (.tail _ (.tail _ (.tail _ hp)))).1, ⟨mv ++ [(_, _)], _, by rw [← push_ints]; exact (N18 _ (.tail _ (.head _))).1, ?_⟩, ⟨sv, _, (N18 _ (.tail _ (.tail _ (.head _)))).1, ?_⟩, rfl, rfl, rfl⟩, ⟨⟨oI, (N18 _ (.head _)).1, cI, dI⟩, _, (N18 _ (.tail _ (.tail _ (.tail _ (.head _))))).1, rfl, _, rfl⟩, _, F18.ns, fun z hz => by rw [if_neg hz]⟩
      · rw [hnx, h35, readTok_hash, List.map_append, jme, ← jse]
        simp [strValues]
      · rw [hnx, h35, readTok_hash, jse]
    · rename Fr _ _ _ _ => F18
      rename News _ _ _ _ => N18
      rename ((c :: cl, tt).1.toArray.toList == _) = false => hc
      obtain ⟨hSt, hnx, jme, jse⟩ := KJ
      have h35 : ¬ c :: cl = [35] := by simpa using hc
      refine Stop.mk ⟨.inl rfl, ⟨F18.keep, fun p hp => (N18 p (.tail _ (.tail _ (.tail _ hp)))).1, ⟨mv, _, (N18 _ (.tail _ (.head _))).1, ?_⟩, ⟨sv ++ [(_, _)], _, by rw [← push_strs]; exact (N18 _ (.tail _ (.tail _ (.head _)))).1, ?_⟩, rfl, rfl, rfl⟩, ⟨⟨oI, (N18 _ (.head _)).1, cI, dI⟩, _, (N18 _ (.tail _ (.tail _ (.tail _ (.head _))))).1, rfl, _, rfl⟩, _, F18.ns, fun z hz => by rw [if_neg hz]⟩
      · rw [hnx, readTok_word _ h35, jme]
      · rw [hnx, readTok_word _ h35, List.map_append, jse]; rfl
  · obtain ⟨hp8, gn8, d8, tk8, os8⟩ := s'
    obtain ⟨jb, jl, ⟨mv, mn', jm, jme⟩, ⟨sv, sn', js, jse⟩, rfl, rfl, rfl⟩ := hJ
    have hlst : (tl14.map (·.1)).take (bytesValues tl14).toArray.size = toks (pairsFrom [] rows) := by
      rw [List.take_of_length_le (by simp [bytesValues]), htl]
    rw [hlst, hrd] at jme jse
    have F20 : Fr g L' hp8 _ := ⟨hN, jb, F15.above⟩
    have N20 : News g L' hp8 ((lM, listOf (intValues mv).toArray mn') :: (lS, listOf (strValues sv).toArray sn') :: _) := fa_cons ⟨jm, eM.2⟩ (fa_cons ⟨js, eS.2⟩ fun p hp => ⟨jl p hp, (N16 p hp).2⟩)
    clear F15 N15 N16
    dsimp only
    k_steps
    rename Fr _ _ _ _ => F21
    rename News _ _ _ _ => N21
    unfold Halt
    refine ne_strs (xs := sv) (ys := [(w0, b0), (w1, b1), (w2, b2), (w3, b3), (w4, b4)]) (N21.isList (by k_mem)) ⟨_, N21.get (show (lw, five w0 w1 w2 w3 w4 b0 b1 b2 b3 b4 nb) ∈ _ by k_mem), rfl, _, rfl⟩ (by rw [jse]; rfl) hwok (by with_unfolding_all exact Nat.le_of_ble_eq_true rfl) ?_
    have hadd : (#[10] : Array UInt8).size + arr.size ≤ 16777216 := by simp; (first | lia | omega)
    have h1sz : ((#[10] : Array UInt8) ++ arr).size ≤ 10000 := by simp; (first | lia | omega)
    have h1sz8 : 8 ≤ ((#[10] : Array UInt8) ++ arr).size := by simp; (first | lia | omega)
    have h1ten : ((((#[10] : Array UInt8) ++ arr)).map (·.toNat)).getD 0 0 = 10 := by
      simp [Array.getD]
    k_steps
    rename Fr _ _ _ _ => F22
    rename News _ _ _ _ => N22
    refine lift (parse_no B (subF hs F22) h1sz h1sz8 h1ten (fun h14 tk14 T15 n15 b14 fr14 hT14 => ?_)) rfl (by with_unfolding_all exact Nat.le_of_ble_eq_true rfl) (by with_unfolding_all exact Nat.le_of_ble_eq_true rfl) rfl rfl
    obtain ⟨F23, N23⟩ := after_new (add := [(T15, { cls := .type "tuple", data := .seq #[] n15 })]) F22 N22 b14 (fa_cons ⟨hT14, fr14⟩ fa_nil)
    clear F22 N22
    dsimp only [List.cons_append, List.nil_append] at N23
    k_steps
    unfold Halt
    k_dflt (refine ne_dataH (by ke_read) (by ke_read) (by ke_shaped) (by ke_shaped) (by ke_room) ?_)
    ke_norm
    k_steps
    rename Fr _ _ _ _ => F24
    rename News _ _ _ _ => N24
    unfold Halt
    exact tail2 X T (as_two F24 (by with_unfolding_all rfl) (by with_unfolding_all rfl)) (fa_cons (N24 _ (by k_mem)) (fa_cons (N24 _ (by k_mem)) (fa_cons (N24 _ (by k_mem)) (fa_cons (N24 _ (by k_mem)) (fa_cons (N24 _ (by k_mem)) (fa_cons (N24 _ (by k_mem)) (fa_cons (N24 _ (by k_mem)) (fa_cons (N24 _ (by k_mem)) (fa_cons (N24 _ (by k_mem)) fa_nil))))))))) k1 k2 jme hnl hok hrows hfull hfl hsz (fun h' m' tk' D sl n F' N' l e => hret h' m' tk' D sl n F' N' l e)
end Mine
end
section
open PySem PySem.W PyProof.Rows PySem.Calls PySem.Spec
set_option maxRecDepth 100000
set_option maxHeartbeats 3000000
set_option pp.deepTerms false
set_option pp.maxSteps 20000
namespace Mine
theorem dummyH1 : True := by
  k_with_none
  w_top off
  k_with "lt8" => with_reducible first | assumption | exact And.left (by assumption) | exact And.left (And.right (by assumption)) | exact And.left (And.right (And.right (by assumption))) | exact And.left (And.right (And.right (And.right (by assumption)))) | exact And.left (And.right (And.right (And.right (And.right (by assumption))))) | exact And.left (And.right (And.right (And.right (And.right (And.right (by assumption)))))) | exact And.left (And.right (And.right (And.right (And.right (And.right (And.right (by assumption))))))) | exact And.left (And.right (And.right (And.right (And.right (And.right (And.right (And.right (by assumption)))))))) | exact And.left (And.right (And.right (And.right (And.right (And.right (And.right (And.right (And.right (by assumption))))))))) | exact And.left (And.right (And.right (And.right (And.right (And.right (And.right (And.right (And.right (And.right (by assumption)))))))))) | exact And.left (And.right (And.right (And.right (And.right (And.right (And.right (And.right (And.right (And.right (And.right (by assumption))))))))))) | exact And.left (And.right (And.right (And.right (And.right (And.right (And.right (And.right (And.right (And.right (And.right (And.right (by assumption)))))))))))) | exact And.left (And.right (And.right (And.right (And.right (And.right (And.right (And.right (And.right (And.right (And.right (And.right (And.right (by assumption)))))))))))))
  k_with "lt9" => first | exact Nat.ne_of_lt (by walk_at "lt8") | exact Nat.ne_of_gt (by walk_at "lt8")
  trivial
theorem withH1x36 : True := by
  k_with_none
  w_top off
  k_with "lt8" => with_reducible first | assumption | exact And.left (by assumption) | exact And.left (And.right (by assumption)) | exact And.left (And.right (And.right (by assumption))) | exact And.left (And.right (And.right (And.right (by assumption)))) | exact And.left (And.right (And.right (And.right (And.right (by assumption))))) | exact And.left (And.right (And.right (And.right (And.right (And.right (by assumption)))))) | exact And.left (And.right (And.right (And.right (And.right (And.right (And.right (by assumption))))))) | exact And.left (And.right (And.right (And.right (And.right (And.right (And.right (And.right (by assumption)))))))) | exact And.left (And.right (And.right (And.right (And.right (And.right (And.right (And.right (And.right (by assumption))))))))) | exact And.left (And.right (And.right (And.right (And.right (And.right (And.right (And.right (And.right (And.right (by assumption)))))))))) | exact And.left (And.right (And.right (And.right (And.right (And.right (And.right (And.right (And.right (And.right (And.right (by assumption))))))))))) | exact And.left (And.right (And.right (And.right (And.right (And.right (And.right (And.right (And.right (And.right (And.right (And.right (by assumption)))))))))))) | exact And.left (And.right (And.right (And.right (And.right (And.right (And.right (And.right (And.right (And.right (And.right (And.right (And.right (by assumption)))))))))))))
  k_with "lt9" => first | exact Nat.ne_of_lt (by walk_at "lt8") | exact Nat.ne_of_gt (by walk_at "lt8")
  k_with "k_ne" => (refine neN ?_; (try dsimp only); first | exact NeA.h (by assumption) | exact Ne.symm (NeA.h (by assumption)) | walk_at "lt9" | lia | omega)
  k_with "N0" => repeat (first | exact fa_nil | (refine fa_cons ⟨by assumption, by first | assumption | exact Base.n1 (by assumption) | exact Base.n2 (by assumption)⟩ ?_))
  k_with "exec For Tuple Call cons nil" => (k_here; refine for_exec ?_ (by intro _; with_unfolding_all rfl))
  k_with "OFF" => repeat (first | exact off_nil | refine off_cons (by k_ne) (by k_ne) (by k_ne) (by k_ne) (by k_ne) ?_)
  k_with "call builtin:str.join" => (k_here; k_dflt (refine join_notes (by k_asm) (by k_mem) (by decide) (by assumption) ?_); intro _ _)
  k_with "getMethod str" => (k_here; (with_reducible show wpAny _ _ (getMethod (Value.str _ _) (Str.ofString "encode") _) _ _ _); k_dflt (refine encode_method ?_))
  k_with "call builtin:str.encode" => (k_here; (with_reducible show wpAny _ _ (call (Value.builtin "str.encode") _) _ _ _); k_dflt (refine encode_K (by assumption) (by omega) ?_); intro _ _)
  k_with "exec For Name Name cons nil" => (k_here; refine for_exec ?_ (by intro _; with_unfolding_all rfl))
  k_with "execs cons Assign cons" => (k_here; (with_reducible show wpAny _ _ (execs (Stmt.Assign [Expr.Name (Str.ofString "marks") _] _ _ :: _) _) _ _ _); refine halt ?_)
  k_with "execs cons" => (k_here; (with_reducible show wpAny _ _ (execs (Stmt.Assign [Expr.Name (Str.ofString "marks") _] _ _ :: _) _) _ _ _); refine halt ?_)
  trivial
theorem fold_c {w : World} {mg mb : Str → Option Value} {b : Heap} {s : Shared} {la lw fr : Addr} {l0 l1 l2 l3 l4 w0 w1 w2 w3 w4 f0 f1 : Str} {a0 a1 a2 a3 a4 b0 b1 b2 b3 b4 u0 u1 tw : Tok} {na nb nf : Nat} {W : Int} {Q E : Value → Shared → Prop}
    (B : Base w mg mb b) (S : St b s) (hla : s.heap.get? la = some (five l0 l1 l2 l3 l4 a0 a1 a2 a3 a4 na)) (hla0 : b.get? la = none) (hlw : s.heap.get? lw = some (five w0 w1 w2 w3 w4 b0 b1 b2 b3 b4 nb)) (hlw0 : b.get? lw = none)
    (hfr : s.heap.get? fr = some { cls := .type "tuple", data := .seq #[.str f0 u0, .str f1 u1] nf }) (hfr0 : b.get? fr = none) (hne : @Ne Nat la lw)
    (hsp : ∀ x ∈ [l1, l2, l3, l4], x.cps[0]? = some 32) (FF : FoldFacts [(l0, w0), (l1, w1), (l2, w2), (l3, w3), (l4, w4)] f0 f1 W (rowsOf W [(l0, w0), (l1, w1), (l2, w2), (l3, w3), (l4, w4)]))
    (hret : ∀ h' gn tk' D sl n, But [176, 183] s.heap h' → St b { s with heap := h', toks := tk', gens := gn } → s.heap.get? D = none → h'.get? D = some (listOf (intValues sl).toArray n) → sl.map (·.1) = (startsFrom 0 (rowsOf W [(l0, w0), (l1, w1), (l2, w2), (l3, w3), (l4, w4)])).map Int.ofNat → Q (.ref D) { s with heap := h', toks := tk', gens := gn }) :
    wpAny (model pw w) (Av 5) (call (.ref 230) [.ref la, .ref lw, .int W tw, .ref fr]) Q E s := by
  have hit := FF.hit
  have hgd := FF.hgd
  have hws := FF.hws
  have hwt : (((rowsOf W [(l0, w0), (l1, w1), (l2, w2), (l3, w3), (l4, w4)]).map rowTx).map (·.length)).sum ≤ 100000 := Nat.le_trans FF.hwt (by decide)
  have hjl : (Txt.join (Str.ofString " \n\t\n") ((rowsOf W [(l0, w0), (l1, w1), (l2, w2), (l3, w3), (l4, w4)]).map rowTx)).length ≤ 100000 := Nat.le_trans FF.hjl (by decide)
  have hpt : ∀ x ∈ Txt.split (Txt.join (Str.ofString " \n\t\n") ((rowsOf W [(l0, w0), (l1, w1), (l2, w2), (l3, w3), (l4, w4)]).map rowTx)) (Str.ofString "\n"), x.length ≤ 10000 := by rw [FF.hsplit]; exact fun x hx => Nat.le_trans (FF.hpt x hx) (by decide)
  have hpn : (Txt.split (Txt.join (Str.ofString " \n\t\n") ((rowsOf W [(l0, w0), (l1, w1), (l2, w2), (l3, w3), (l4, w4)]).map rowTx)) (Str.ofString "\n")).length ≤ 1000 := by rw [FF.hsplit]; exact Nat.le_trans FF.hpn (by decide)
  have hf0 : f0.length ≤ 100 := Nat.le_trans FF.hf0 (by decide)
  have hf1 : f1.length ≤ 100 := Nat.le_trans FF.hf1 (by decide)
  have hne5 : ([(l0, w0), (l1, w1), (l2, w2), (l3, w3), (l4, w4)] : List Pr) ≠ [] := List.cons_ne_nil _ _
  obtain ⟨kb, ⟨o1, ho1, ht1⟩, ⟨o2, ho2, ht2⟩, gb⟩ := S
  refine wpAny_call ?_
  have N0 : ∀ p ∈ [(la, five l0 l1 l2 l3 l4 a0 a1 a2 a3 a4 na), (lw, five w0 w1 w2 w3 w4 b0 b1 b2 b3 b4 nb), (fr, ({ cls := .type "tuple", data := .seq #[.str f0 u0, .str f1 u1] nf } : Obj)), (176, o1), (183, o2)], s.heap.get? p.1 = some p.2 ∧ b.get? p.1 = none := by walk_at "N0"
  k_dflt (refine' enterC B kb N0 ?k4 ?k5 ?k6 ?k7 ?k8 ?k9 ?_ ?k11 ?k12 ?k13; (case k4 => k_is); (case k5 => k_is); (case k6 => decide); (case k7 => exact BindsTo.of_eq rfl); (case k8 => exact kindsX rfl); (case k9 => decide +kernel); (case k11 => exact rfl); (case k12 => exact rfl); (case k13 => exact rfl))
  intro g L' h₁ tk₁ cells F N Y X T hk hs hL
  (try k_lt hL)
  obtain ⟨oc1, oc2, hE, dc1, dc2⟩ := CellsAre.two Y
  subst hE
  clear Y
  (try simp only [List.cons_append, List.nil_append] at N)
  (try dsimp only)
  (try k_fold)
  k_steps
  rename Fr _ _ _ _ => F1
  rename News _ _ _ _ => N1
  refine lift (vfmake_c B (subF hs F1) (fun k h2 tk2 hkw bb2 M2 fr2 => ?_)) rfl (by with_unfolding_all exact Nat.le_of_ble_eq_true rfl) (by with_unfolding_all exact Nat.le_of_ble_eq_true rfl) rfl rfl
  have ow : ∀ a, a ∈ [k.m, k.dm, k.l, k.x, k.dx] → a ≠ L' ∧ g.get? a = none := fun a ha => by
    have h1 := fr2 a ha
    refine ⟨fun e => ?_, none_of_sub F1.keep h1⟩
    obtain ⟨oL, _, _, hoL, _⟩ := F1.ns
    rw [e, hoL] at h1; cases h1
  have own : ∀ a ∈ [k.x, k.dx, k.l, 176, 183], a ≠ L' ∧ g.get? a = none := fa_cons (ow _ (by simp)) (fa_cons (ow _ (by simp)) (fa_cons (ow _ (by simp)) (fa_cons (N1 _ (show ((176 : Nat), o1) ∈ _ by k_mem)).2 (fa_cons (N1 _ (show ((183 : Nat), o2) ∈ _ by k_mem)).2 fa_nil))))
  have S2 : St b { s with heap := h2, toks := tk2 } := ⟨(subF hs F1).but bb2 fa_nil, ⟨o1, bb2 _ _ (fun h => nomatch h) (N1.get (show ((176 : Nat), o1) ∈ _ by k_mem)), ht1⟩, ⟨o2, bb2 _ _ (fun h => nomatch h) (N1.get (show ((183 : Nat), o2) ∈ _ by k_mem)), ht2⟩, gb⟩
  obtain ⟨F2, N2⟩ := after_new (add := [(k.m, instObj 130 k.dm), (k.dm, k.dict w.params)]) F1 N1 bb2 (fa_cons ⟨M2.m, fr2 _ (by simp)⟩ (fa_cons ⟨M2.dm, fr2 _ (by simp)⟩ fa_nil))
  have al5 : ∀ a ∈ [k.m, k.dm, k.l, k.x, k.dx], ∃ o, h2.get? a = some o := fa_cons ⟨_, M2.m⟩ (fa_cons ⟨_, M2.dm⟩ (fa_cons ⟨_, M2.ln.choose_spec⟩ (fa_cons ⟨_, M2.x.choose_spec⟩ (fa_cons ⟨_, M2.dx.choose_spec.choose_spec.choose_spec⟩ fa_nil))))
  obtain ⟨m, dm, al, x, dx, t1, t2, t3, t4, t5, t6, tw', tc, tn, ts, wd⟩ := k
  dsimp only at hkw fr2 al5
  have q0 : NeA la x := ⟨ne_of_none (N1.get (show (la, five l0 l1 l2 l3 l4 a0 a1 a2 a3 a4 na) ∈ _ by k_mem)) (fr2 x (by simp))⟩
  have q1 : NeA la dx := ⟨ne_of_none (N1.get (show (la, five l0 l1 l2 l3 l4 a0 a1 a2 a3 a4 na) ∈ _ by k_mem)) (fr2 dx (by simp))⟩
  have q2 : NeA la al := ⟨ne_of_none (N1.get (show (la, five l0 l1 l2 l3 l4 a0 a1 a2 a3 a4 na) ∈ _ by k_mem)) (fr2 al (by simp))⟩
  have q3 : NeA lw x := ⟨ne_of_none (N1.get (show (lw, five w0 w1 w2 w3 w4 b0 b1 b2 b3 b4 nb) ∈ _ by k_mem)) (fr2 x (by simp))⟩
  have q4 : NeA lw dx := ⟨ne_of_none (N1.get (show (lw, five w0 w1 w2 w3 w4 b0 b1 b2 b3 b4 nb) ∈ _ by k_mem)) (fr2 dx (by simp))⟩
  have q5 : NeA lw al := ⟨ne_of_none (N1.get (show (lw, five w0 w1 w2 w3 w4 b0 b1 b2 b3 b4 nb) ∈ _ by k_mem)) (fr2 al (by simp))⟩
  have q6 : NeA fr x := ⟨ne_of_none (N1.get (show (fr, ({ cls := .type "tuple", data := .seq #[.str f0 u0, .str f1 u1] nf } : Obj)) ∈ _ by k_mem)) (fr2 x (by simp))⟩
  have q7 : NeA fr dx := ⟨ne_of_none (N1.get (show (fr, ({ cls := .type "tuple", data := .seq #[.str f0 u0, .str f1 u1] nf } : Obj)) ∈ _ by k_mem)) (fr2 dx (by simp))⟩
  have q8 : NeA fr al := ⟨ne_of_none (N1.get (show (fr, ({ cls := .type "tuple", data := .seq #[.str f0 u0, .str f1 u1] nf } : Obj)) ∈ _ by k_mem)) (fr2 al (by simp))⟩
  have q9 : NeA (L' + 1 + 1) x := ⟨ne_of_none (N1.get (show (L' + 1 + 1, oc1) ∈ _ by k_mem)) (fr2 x (by simp))⟩
  have q10 : NeA (L' + 1 + 1) dx := ⟨ne_of_none (N1.get (show (L' + 1 + 1, oc1) ∈ _ by k_mem)) (fr2 dx (by simp))⟩
  have q11 : NeA (L' + 1 + 1) al := ⟨ne_of_none (N1.get (show (L' + 1 + 1, oc1) ∈ _ by k_mem)) (fr2 al (by simp))⟩
  have q12 : NeA (L' + 1) x := ⟨ne_of_none (N1.get (show (L' + 1, oc2) ∈ _ by k_mem)) (fr2 x (by simp))⟩
  have q13 : NeA (L' + 1) dx := ⟨ne_of_none (N1.get (show (L' + 1, oc2) ∈ _ by k_mem)) (fr2 dx (by simp))⟩
  have q14 : NeA (L' + 1) al := ⟨ne_of_none (N1.get (show (L' + 1, oc2) ∈ _ by k_mem)) (fr2 al (by simp))⟩
  have q15 : NeA la 176 := ⟨ne_tab hla ho1 ht1 fun v e => nomatch e⟩
  have q16 : NeA la 183 := ⟨ne_tab hla ho2 ht2 fun v e => nomatch e⟩
  have q17 : NeA lw 176 := ⟨ne_tab hlw ho1 ht1 fun v e => nomatch e⟩
  have q18 : NeA lw 183 := ⟨ne_tab hlw ho2 ht2 fun v e => nomatch e⟩
  have q19 : NeA fr 176 := ⟨ne_tab hfr ho1 ht1 fun v e => nomatch e⟩
  have q20 : NeA fr 183 := ⟨ne_tab hfr ho2 ht2 fun v e => nomatch e⟩
  have q30 : NeA m x := ⟨ne_of_get M2.m M2.x.choose_spec fun e => nomatch (congrArg Obj.data e)⟩
  have q31 : NeA m dx := ⟨ne_of_get M2.m M2.dx.choose_spec.choose_spec.choose_spec fun e => nomatch (congrArg Obj.data e)⟩
  have q32 : NeA m al := ⟨ne_of_get M2.m M2.ln.choose_spec fun e => nomatch (congrArg Obj.data e)⟩
  have q33 : NeA m 176 := ⟨ne_tab M2.m S2.t1.choose_spec.1 S2.t1.choose_spec.2 fun v e => nomatch e⟩
  have q34 : NeA m 183 := ⟨ne_tab M2.m S2.t2.choose_spec.1 S2.t2.choose_spec.2 fun v e => nomatch e⟩
  have q35 : NeA dm x := ⟨ne_of_get M2.dm M2.x.choose_spec fun e => nomatch (congrArg Obj.data e)⟩
  have q36 : NeA dm dx := ⟨M2.nd⟩
  have q37 : NeA dm al := ⟨ne_of_get M2.dm M2.ln.choose_spec fun e => nomatch (congrArg Obj.data e)⟩
  have q38 : NeA dm 176 := ⟨ne_tab M2.dm S2.t1.choose_spec.1 S2.t1.choose_spec.2 fun v e => nomatch e⟩
  have q39 : NeA dm 183 := ⟨ne_tab M2.dm S2.t2.choose_spec.1 S2.t2.choose_spec.2 fun v e => nomatch e⟩
  have own5 : Own5 b ⟨m, dm, al, x, dx, t1, t2, t3, t4, t5, t6, tw', tc, tn, ts, wd⟩ := ⟨none_of_sub hs (ow _ (by simp)).2, none_of_sub hs (ow _ (by simp)).2, none_of_sub hs (ow _ (by simp)).2, none_of_sub hs (ow _ (by simp)).2, none_of_sub hs (ow _ (by simp)).2⟩
  subst hkw
  dsimp only [List.cons_append, List.nil_append, Mk.dict] at N2 own ow
  have N3 : News g L' h2 (List.take 7 _) := fun p hp => N2 p (List.mem_of_mem_take hp)
  dsimp only [List.take_succ_cons, List.take_zero] at N3
  clear F1 N1 N2
  refine wpAny_storeName_local rfl F2.ns (fun h3 hn3 hs3 => ?_) rfl
  have gL : g.get? L' = none := Heap.get?_none_of_le F2.above
  have hs3' : ∀ c o, c ≠ L' → h2.get? c = some o → h3.get? c = some o := fun c o hc e => (hs3.2 c hc).trans e
  have F3 : Fr g L' h3 _ := ⟨hn3, fun c o e => hs3' c o (fun hc => by rw [hc, gL] at e; cases e) (F2.keep c o e), F2.above⟩
  have N4 : News g L' h3 _ := fun p hp => ⟨hs3' _ _ (N3 p hp).2.1 (N3 p hp).1, (N3 p hp).2⟩
  have owL : ∀ a ∈ [m, dm, al, x, dx], a ≠ L' := fun a ha => (ow a ha).1
  have al6 : ∀ a ∈ [m, dm, al, x, dx, 176, 183], ∃ o, h3.get? a = some o := by
    have up : ∀ a, a ∈ [m, dm, al, x, dx] → ∃ o, h3.get? a = some o := fun a ha => let ⟨o, e⟩ := al5 a ha; ⟨o, hs3' _ _ (owL a ha) e⟩
    exact fa_cons (up _ (by simp)) (fa_cons (up _ (by simp)) (fa_cons (up _ (by simp)) (fa_cons (up _ (by simp)) (fa_cons (up _ (by simp)) (fa_cons (let ⟨o, e, _⟩ := S2.t1; ⟨o, hs3' _ _ (own _ (by simp)).1 e⟩) (fa_cons (let ⟨o, e, _⟩ := S2.t2; ⟨o, hs3' _ _ (own _ (by simp)).1 e⟩) fa_nil))))))
  have S3 : St b { s with heap := h3, toks := tk2 } := ⟨subF hs F3, let ⟨o, e, t⟩ := S2.t1; ⟨o, hs3' _ _ (own _ (by simp)).1 e, t⟩, let ⟨o, e, t⟩ := S2.t2; ⟨o, hs3' _ _ (own _ (by simp)).1 e, t⟩, gb⟩
  have M3 : MkAt w.params h3 ⟨m, dm, al, x, dx, t1, t2, t3, t4, t5, t6, tw', tc, tn, ts, wd⟩ [] [] := ⟨hs3' _ _ (owL _ (by simp)) M2.m, hs3' _ _ (owL _ (by simp)) M2.dm, let ⟨n, e⟩ := M2.ln; ⟨n, hs3' _ _ (owL _ (by simp)) e⟩, let ⟨n, e⟩ := M2.x; ⟨n, hs3' _ _ (owL _ (by simp)) e⟩, let ⟨t, z, n, e⟩ := M2.dx; ⟨t, z, n, hs3' _ _ (owL _ (by simp)) e⟩, (fun _ h => nomatch h), M2.nd⟩
  clear F2 N3
  k_steps
  rename Fr _ _ _ _ => F5
  rename News _ _ _ _ => N5
  refine call_zip_2 (xs := #[.str l0 a0, .str l1 a1, .str l2 a2, .str l3 a3, .str l4 a4]) (ys := #[.str w0 b0, .str w1 b1, .str w2 b2, .str w3 b3, .str w4 b4]) ⟨_, N5.get (show (la, _) ∈ _ by k_mem), rfl, _, rfl⟩ ⟨_, N5.get (show (lw, _) ∈ _ by k_mem), rfl, _, rfl⟩ (fun h6 hz hTI hTO hit1 hit2 hsz hk6 => ?_)
  refine wpAny_pyIter_zip hz ?_
  have nwr : ∀ a o, h3.get? a = some o → a ∉ [h3.objs.size + 4, h3.objs.size + 3, h3.objs.size, h3.objs.size + 1] := fun a o e => nwr_of e
  have hLa : ∃ o, h3.get? L' = some o := let ⟨o, _, _, e, _⟩ := F5.ns; ⟨o, e⟩
  have hgw : ∀ c ∈ L' :: [h3.objs.size + 4, h3.objs.size + 3, h3.objs.size, h3.objs.size + 1], g.get? c = none := fun c hc => by
    rcases List.mem_cons.mp hc with rfl | hc
    · exact gL
    · cases e : g.get? c with
      | none => rfl
      | some o => exact absurd hc (nwr c o (F5.keep c o e))
  have h5w : ∀ a ∈ [m, dm, al, x, dx], a ∉ L' :: [h3.objs.size + 4, h3.objs.size + 3, h3.objs.size, h3.objs.size + 1] := fun a ha hm => by
    rcases List.mem_cons.mp hm with e | hm
    · exact owL a ha e
    · obtain ⟨o, e⟩ := al6 a (by simp only [List.mem_cons, List.not_mem_nil, or_false] at ha ⊢; rcases ha with h | h | h | h | h <;> simp [h])
      exact nwr a o e hm
  have tw1 : (176 : Nat) ∉ L' :: [h3.objs.size + 4, h3.objs.size + 3, h3.objs.size, h3.objs.size + 1] := fun hm => by
    rcases List.mem_cons.mp hm with e | hm
    · exact (own 176 (by simp)).1 e
    · obtain ⟨o, e⟩ := al6 176 (by simp)
      exact nwr _ o e hm
  have tw2 : (183 : Nat) ∉ L' :: [h3.objs.size + 4, h3.objs.size + 3, h3.objs.size, h3.objs.size + 1] := fun hm => by
    rcases List.mem_cons.mp hm with e | hm
    · exact (own 183 (by simp)).1 e
    · obtain ⟨o, e⟩ := al6 183 (by simp)
      exact nwr _ o e hm
  have hledw := off_of (xs := L' :: [h3.objs.size + 4, h3.objs.size + 3, h3.objs.size, h3.objs.size + 1]) N5 (fun p hp hm => by
    rcases List.mem_cons.mp hm with e | hm
    · exact (N5 p hp).2.1 e
    · exact nwr _ _ (N5 p hp).1 hm)
  have hoff := off_of (xs := [x, dx, al, 176, 183]) N5 (by walk_at "OFF")
  have hJ0 : JF w.params b g L' [h3.objs.size + 4, h3.objs.size + 3, h3.objs.size, h3.objs.size + 1] _ ⟨m, dm, al, x, dx, t1, t2, t3, t4, t5, t6, tw', tc, tn, ts, wd⟩ s.drawn s.os ([], []) { s with heap := h6, toks := tk2 + 1 } :=
    ⟨fun c o e => hk6 _ _ (F5.keep c o e), fun p hp => hk6 _ _ (N5 p hp).1, ⟨fun c o e => hk6 _ _ (S3.kb c o e), let ⟨o, e, t⟩ := S3.t1; ⟨o, hk6 _ _ e, t⟩, let ⟨o, e, t⟩ := S3.t2; ⟨o, hk6 _ _ e, t⟩, gb⟩,
      ⟨[], [], ⟨hk6 _ _ M3.m, hk6 _ _ M3.dm, let ⟨n, e⟩ := M3.ln; ⟨n, hk6 _ _ e⟩, let ⟨n, e⟩ := M3.x; ⟨n, hk6 _ _ e⟩, let ⟨t, z, n, e⟩ := M3.dx; ⟨t, z, n, hk6 _ _ e⟩, (fun _ h => nomatch h), M3.nd⟩, rfl, rfl, (fun _ h => nomatch h)⟩, rfl, rfl⟩
  have hla6 : h3.get? la = some (five l0 l1 l2 l3 l4 a0 a1 a2 a3 a4 na) := N5.get (by k_mem)
  have hlw6 : h3.get? lw = some (five w0 w1 w2 w3 w4 b0 b1 b2 b3 b4 nb) := N5.get (by k_mem)
  have hAp := zipApart_new (Heap.lt_size hla6) (Heap.lt_size hlw6)
  have hW := fun (A : Around) (hh : A.handled = none) => (WalksT.zip2 (prog := pw) (w := w) (A := A) hh _ _ _ _ _ _ _ hAp #[.str l0 a0, .str l1 a1, .str l2 a2, .str l3 a3, .str l4 a4] #[.str w0 b0, .str w1 b1, .str w2 b2, .str w3 b3, .str w4 b4]).toU
  have hLf : L' ∉ [h3.objs.size + 4, h3.objs.size + 2, h3.objs.size + 3, h3.objs.size, h3.objs.size + 1, la, lw] := fun hm => by
    have h1 : L' < h3.objs.size := F5.ns.lt
    simp only [List.mem_cons, List.not_mem_nil, or_false] at hm
    rcases hm with e | e | e | e | e | e | e
    · exact absurd h1 (by rw [e]; exact Nat.not_lt.mpr (Nat.le_add_right _ _))
    · exact absurd h1 (by rw [e]; exact Nat.not_lt.mpr (Nat.le_add_right _ _))
    · exact absurd h1 (by rw [e]; exact Nat.not_lt.mpr (Nat.le_add_right _ _))
    · exact absurd h1 (by rw [e]; exact Nat.lt_irrefl _)
    · exact absurd h1 (by rw [e]; exact Nat.not_lt.mpr (Nat.le_add_right _ _))
    · exact (N5 _ (show (la, _) ∈ _ by k_mem)).2.1 e.symm
    · exact (N5 _ (show (lw, _) ∈ _ by k_mem)).2.1 e.symm
  have hLw : L' ∉ [h3.objs.size + 4, h3.objs.size + 3, h3.objs.size, h3.objs.size + 1] := let ⟨o, e⟩ := hLa; nwr _ _ e
  refine for_pairs (v1 := fun i => (#[.str l0 a0, .str l1 a1, .str l2 a2, .str l3 a3, .str l4 a4] : Array Value)[i]?.getD .none) (v2 := fun i => (#[.str w0 b0, .str w1 b1, .str w2 b2, .str w3 b3, .str w4 b4] : Array Value)[i]?.getD .none)
    (fun i s' => JF w.params b g L' [h3.objs.size + 4, h3.objs.size + 3, h3.objs.size, h3.objs.size + 1] _ ⟨m, dm, al, x, dx, t1, t2, t3, t4, t5, t6, tw', tc, tn, ts, wd⟩ s.drawn s.os (([(l0, w0), (l1, w1), (l2, w2), (l3, w3), (l4, w4)].take i).foldl (eat wd) ([], [])) s')
    (hW _ rfl) rfl (fun i v _ hP => ?_) rfl rfl rfl hLw hLf (fun i s' h' tk hJ hk => hJ.keep hgw hledw hs tw1 tw2 h5w hk) (fun i s' hi hJ hSt hNs => ?_) (fun s' u hJ hN => ?_) 5 0 _ _ rfl hJ0 ⟨hz, hTI, ⟨_, _, hTO⟩, hit1, hit2, ⟨_, hk6 _ _ hla6, rfl, _, rfl⟩, ⟨_, hk6 _ _ hlw6, rfl, _, rfl⟩⟩ (F5.ns.keeps hk6) (fun _ _ _ => rfl)
  · obtain ⟨y1, y2, e1, e2, rfl⟩ := hP
    rw [e1, e2]; rfl
  · have hi5 : i < 5 := hi
    obtain ⟨f, tf, p, tp, ev1, ev2, eit, ef⟩ := pick5 (a0 := a0) (a1 := a1) (a2 := a2) (a3 := a3) (a4 := a4) (b0 := b0) (b1 := b1) (b2 := b2) (b3 := b3) (b4 := b4) (l0 := l0) (w0 := w0) (w1 := w1) (w2 := w2) (w3 := w3) (w4 := w4) hsp i hi5
    rw [ev1, ev2] at hNs
    obtain ⟨hp', gn', dd, tk', oo⟩ := s'
    have F7 : Fr g L' hp' _ := ⟨hNs, hJ.base, F5.above⟩
    have N7 : News g L' hp' _ := fun p hp => ⟨hJ.led p hp, (N5 p hp).2⟩
    obtain ⟨jb, jl, ⟨jk, j1, j2, jg⟩, jm, rfl, rfl⟩ := hJ
    have F5a := F5.above
    have N5o := fun p hp => (N5 p hp).2
    clear F5 N5
    k_steps
    obtain ⟨zz, zTI, ⟨za, zb, zTO⟩, ⟨zo1, zi1, zr1⟩, ⟨zo2, zi2, zr2⟩, zl1, zl2⟩ := id hSt
    have hwr : ∀ a ∈ L' :: [h3.objs.size + 4, h3.objs.size + 3, h3.objs.size, h3.objs.size + 1], ∃ o, hp'.get? a = some o := fa_cons (let ⟨o, _, _, e, _⟩ := hNs; ⟨o, e⟩) (fa_cons ⟨_, zz⟩ (fa_cons ⟨_, zTO⟩ (fa_cons ⟨_, zi1⟩ (fa_cons ⟨_, zi2⟩ fa_nil))))
    have hok := eats_ok (W := wd) (S := [(l0, w0), (l1, w1), (l2, w2), (l3, w3), (l4, w4)]) ([(l0, w0), (l1, w1), (l2, w2), (l3, w3), (l4, w4)].take i) ([], []) (fun _ h => nomatch h) (fun x hx => List.mem_of_mem_take hx)
    have hl5 : ([(l0, w0), (l1, w1), (l2, w2), (l3, w3), (l4, w4)].take i).length ≤ 5 := by rw [List.length_take]; exact Nat.min_le_right _ _
    have hmem : (f, p) ∈ [(l0, w0), (l1, w1), (l2, w2), (l3, w3), (l4, w4)] := List.mem_of_getElem? eit
    have hst0 : (([(l0, w0), (l1, w1), (l2, w2), (l3, w3), (l4, w4)].take i).foldl (eat wd) ([], [])).2 = [] ∨ f.cps[0]? = some 32 := ef.imp (fun h => by subst h; rfl) id
    have hnx : ([(l0, w0), (l1, w1), (l2, w2), (l3, w3), (l4, w4)].take (i + 1)).foldl (eat wd) ([], []) = eat wd (([(l0, w0), (l1, w1), (l2, w2), (l3, w3), (l4, w4)].take i).foldl (eat wd) ([], [])) (f, p) := by rw [List.take_add_one, eit, List.foldl_append]; rfl
    simp only [List.length_nil, Nat.zero_add] at hok
    refine lift (chunk_c (k := ⟨m, dm, al, x, dx, t1, t2, t3, t4, t5, t6, tw', tc, tn, ts, wd⟩) (wr := L' :: [h3.objs.size + 4, h3.objs.size + 3, h3.objs.size, h3.objs.size + 1]) (st := ([(l0, w0), (l1, w1), (l2, w2), (l3, w3), (l4, w4)].take i).foldl (eat wd) ([], [])) B ⟨jk, j1, j2, jg⟩ own5 hwr jm (by (first | lia | omega)) (fun x hx => hit x (hok.2.2 x hx)) (hit _ hmem).1 (hit _ hmem).2 hst0 (by (first | lia | omega)) (fun h7 gn7 tk7 b7 S7 M7 => ?_)) rfl (by with_unfolding_all exact Nat.le_of_ble_eq_true rfl) (by with_unfolding_all exact Nat.le_of_ble_eq_true rfl) rfl rfl
    rw [hnx]
    have h5s : ∀ a ∈ [x, dx, al, 176, 183], a < h3.objs.size := fun a ha => by
      obtain ⟨o, e⟩ := al6 a (by simp only [List.mem_cons, List.not_mem_nil, or_false] at ha ⊢; rcases ha with h | h | h | h | h <;> simp [h])
      exact Heap.lt_size e
    have hge : ∀ n, h3.objs.size + n ∉ [x, dx, al, 176, 183] := fun n hm => absurd (h5s _ hm) (Nat.not_lt.mpr (Nat.le_add_right _ _))
    refine wpAny_pure ?_
    refine ⟨.inl rfl, ⟨fun c o e => b7 c o (fun hm => by rw [(own c hm).2] at e; cases e) (jb c o e), fun p hp => b7 _ _ (hoff p hp) (jl p hp), S7, M7, rfl, rfl⟩, (hW ((Av 5).deeper default) rfl).frame _ _ _ hSt (fun c hc o e => b7 c o (fun hm => ?_) e), ⟨_, hNs.at' fun o e => b7 _ o (fun hm => (own _ hm).1 rfl) e, fun z h1 h2 => by rw [if_neg h2, if_neg h1]⟩⟩
    simp only [List.mem_cons, List.not_mem_nil, or_false] at hc
    rcases hc with e | e | e | e | e | e | e
    · rw [e] at hm; exact hge 4 hm
    · rw [e] at hm; exact hge 2 hm
    · rw [e] at hm; exact hge 3 hm
    · rw [e] at hm; exact hge 0 hm
    · rw [e] at hm; exact hge 1 hm
    · rw [e] at hm; exact hoff (la, _) (by k_mem) hm
    · rw [e] at hm; exact hoff (lw, _) (by k_mem) hm
  · obtain ⟨hp8, gn8, d8, tk8, os8⟩ := s'
    have F8 : Fr g L' hp8 _ := ⟨hN, hJ.base, F5.above⟩
    have N8 : News g L' hp8 _ := fun p hp => ⟨hJ.led p hp, (N5 p hp).2⟩
    obtain ⟨jb, jl, jst, ⟨ls8, l8, M8, e8, e8', -⟩, rfl, rfl⟩ := hJ
    have hst8 : ([(l0, w0), (l1, w1), (l2, w2), (l3, w3), (l4, w4)].take 5).foldl (eat wd) ([], []) = [(l0, w0), (l1, w1), (l2, w2), (l3, w3), (l4, w4)].foldl (eat wd) ([], []) := rfl
    have hne8 := eats_ne (W := wd) [(l0, w0), (l1, w1), (l2, w2), (l3, w3), (l4, w4)] ([], []) (.inr (fun h => nomatch h))
    clear F5 N5 hJ0 hW hz hTI hTO hit1 hit2 hk6 hledw nwr S3 M3 hla6 hlw6 hAp hLf hgw h5w tw1 tw2
    dsimp only
    k_steps
    have hok8 := eats_ok (W := wd) (S := [(l0, w0), (l1, w1), (l2, w2), (l3, w3), (l4, w4)]) [(l0, w0), (l1, w1), (l2, w2), (l3, w3), (l4, w4)] ([], []) (fun _ h => nomatch h) (fun x hx => hx)
    have e8 : ls8.map (·.1) = ([(l0, w0), (l1, w1), (l2, w2), (l3, w3), (l4, w4)].foldl (eat wd) ([], [])).1.map rowTx := e8
    have e8' : l8.map It.pr = ([(l0, w0), (l1, w1), (l2, w2), (l3, w3), (l4, w4)].foldl (eat wd) ([], [])).2 := e8'
    have hl8 : l8 ≠ [] := fun h => hne8 (by rw [← e8', h]; rfl)
    have hl8' : l8.length ≤ 5 := by
      have := hok8.2.1
      rw [← e8', List.length_map] at this
      simpa using this
    have hls8 : ls8.length ≤ 5 := by
      have h1 := congrArg List.length e8
      have h2 := hok8.1
      simp only [List.length_map] at h1
      rw [h1]; simpa using h2
    have hin8 : ∀ i ∈ l8, i.pr ∈ [(l0, w0), (l1, w1), (l2, w2), (l3, w3), (l4, w4)] := fun i hi => hok8.2.2 _ (e8' ▸ List.mem_map_of_mem hi)
    have hrow8 : rowOf l8 = rowTx ([(l0, w0), (l1, w1), (l2, w2), (l3, w3), (l4, w4)].foldl (eat wd) ([], [])).2 := by rw [rowOf_pr, e8']
    have htx8 : ls8.map (·.1) ++ [rowOf l8] = (rowsOf wd [(l0, w0), (l1, w1), (l2, w2), (l3, w3), (l4, w4)]).map rowTx := by rw [e8, hrow8, rowsOf, List.map_append]; rfl
    have hsp8 : Txt.isspace (rowOf l8) = false := by
      rw [rowOf_pr]
      exact hws _ (by simpa using hl8) (fun i hi => by obtain ⟨j, hj, rfl⟩ := List.mem_map.mp hi; exact hin8 j hj)
    obtain ⟨l9, i9, rfl⟩ : ∃ l9 i9, l8 = l9 ++ [i9] := ⟨l8.dropLast, l8.getLast hl8, (List.dropLast_concat_getLast hl8).symm⟩
    have hi9 := hin8 i9 (by simp)
    rename Fr _ _ _ _ => F9
    rename News _ _ _ _ => N9
    refine lift (strm_c (k := ⟨m, dm, al, x, dx, t1, t2, t3, t4, t5, t6, tw', tc, tn, ts, wd⟩) B ⟨jst.kb, jst.t1, jst.t2, jst.gb⟩ own5 M8 (by simp at hl8'; (first | lia | omega)) (fun i hi => hit _ (hin8 i (List.mem_append_left _ hi))) (hit _ hi9).1 (hit _ hi9).2 (hgd _ hi9).1 (hgd _ hi9).2.1 (hgd _ hi9).2.2 hsp8 (by (first | lia | omega)) (by decide +kernel) (by rw [htx8]; exact hwt) (fun h10 gn10 tk10 tr10 b10 S10 => ?_)) rfl (by with_unfolding_all exact Nat.le_of_ble_eq_true rfl) (by with_unfolding_all exact Nat.le_of_ble_eq_true rfl) rfl rfl
    rw [htx8]
    obtain ⟨F10, N10⟩ := after_off F9 N9 b10 own hoff
    obtain ⟨q1, hq1, tq1⟩ := S10.t1
    obtain ⟨q2, hq2, tq2⟩ := S10.t2
    have N10a : News g L' h10 ((176, q1) :: (183, q2) :: List.drop 2 _) := fun p hp => by
      rcases List.mem_cons.mp hp with rfl | hp
      · exact ⟨hq1, own 176 (by simp)⟩
      · rcases List.mem_cons.mp hp with rfl | hp
        · exact ⟨hq2, own 183 (by simp)⟩
        · exact N10 p (List.mem_of_mem_drop hp)
    (try dsimp only [List.drop_succ_cons, List.drop_zero, List.drop] at N10a)
    clear F9 N9 N10
    k_steps
    rename Fr _ _ _ _ => F11
    rename News _ _ _ _ => N11
    rename List (Str × Tok) => sl
    rename List.map _ _ = Txt.split _ _ => es
    rename Heap => h11
    have hls := N11.isList (.head _)
    have gI : g.get? h11.objs.size = none := Heap.get?_none_of_le (Nat.le_trans F11.above (Nat.le_of_lt F11.ns.lt))
    have hDI : ∀ a o, h11.get? a = some o → a ≠ h11.objs.size := fun a o e => Nat.ne_of_lt (Heap.lt_size e)
    refine wpAny_pyIter_list hls ?_
    refine ⟨fun _ => true, (fun v y => ∃ x t t', v = .str x t ∧ y = .str (comment x) t'), _, _, _, (strValues sl).toArray.size, _, _, _, rfl, Walks.list rfl _ _ (hDI _ _ (N11.get (.head _))) _, ?_, ⟨⟨_, Heap.get?_push_size _ rfl, rfl, rfl⟩, hls.at fun o e => Heap.get?_push_of_some _ e⟩, ?_, ?_, (F11.push _).ns, ⟨fun C i v s₃ m₃ E' _ _ _ _ _ => ?_, fun C i v s₃ m₃ E' hP _ hns hx hk3 _ => ?_⟩, ?_⟩
    · rw [List.size_toArray]
      have h1 := congrArg List.length es
      rw [List.length_map] at h1
      unfold strValues
      rw [List.length_map, show sizeLine = 16777216 from rfl]
      (first | lia | omega)
    · exact fa_cons (Heap.lt_size (Heap.get?_push_size _ rfl)) (fa_cons (Heap.lt_size (Heap.get?_push_of_some _ (N11.get (.head _)))) fa_nil)
    · intro hm
      exact absurd F11.ns.lt (by rw [show L' = h11.objs.size from List.mem_singleton.mp hm]; exact Nat.lt_irrefl _)
    · simp only [List.forIn_nil]
      exact wpAny_pure ⟨rfl, s₃.heap, s₃.toks, rfl, fun _ _ e => e⟩
    · obtain ⟨x, t, rfl, hxm⟩ := strValues_at hP
      rw [es] at hxm
      exact wpAny_mono (elt_comment B (fun a o e => hk3 a o (fun hm => by
          have h1 := hs a o e
          rw [show a = h11.objs.size from List.mem_singleton.mp hm, gI] at h1; cases h1) (Heap.get?_push_of_some _ (F11.keep a o (hs a o e)))) (hpt x hxm) rfl (by with_unfolding_all exact Nat.le_of_ble_eq_true rfl) (by with_unfolding_all exact Nat.le_of_ble_eq_true rfl) hns hx rfl rfl rfl rfl)
        (fun y s₄ hy => let ⟨⟨t', e⟩, k⟩ := hy; ⟨⟨x, t, t', rfl, e⟩, k⟩) fun _ _ z => z
    · intro D2 h12 tk12 ys vs hDn hl12 hpl12 hlen hP hF hns12 hk12
      obtain ⟨n12, hpl12⟩ := hpl12
      have hvs := walked_is (items := (strValues sl).toArray) hlen hP
      rw [hvs] at hF
      obtain ⟨nl, e1, e2⟩ := paired_notes sl ys.toList (by rw [List.filter_eq_self.mpr (fun _ _ => rfl)] at hF; exact hF)
      have hys : ys = (strValues nl).toArray := by rw [← e1]
      subst hys
      have hk12' : ∀ c o, c ≠ L' → h11.get? c = some o → h12.get? c = some o := fun c o hc e => hk12 c o hc (fun hm => absurd (List.mem_singleton.mp hm) (hDI c o e)) (Heap.get?_push_of_some _ e)
      have hDn' : h11.get? D2 = none := by
        cases e : h11.get? D2 with
        | none => rfl
        | some o =>
          have := Heap.get?_push_of_some { cls := .type "list_iterator", data := .fields #[.ref h10.objs.size, .int 0 0] } e
          rw [hDn] at this; cases this
      have F12 : Fr g L' h12 _ := ⟨hns12, fun c o e => hk12' c o (fun hc => by rw [hc, gL] at e; cases e) (F11.keep c o e), F11.above⟩
      have N12 : News g L' h12 ((D2, listOf (strValues nl).toArray n12) :: _) := fun p hp => by
        rcases List.mem_cons.mp hp with rfl | hp
        · refine ⟨hpl12, fun hc => ?_, none_of_sub F11.keep hDn'⟩
          obtain ⟨o, _, _, e, _⟩ := F11.ns
          rw [show D2 = L' from hc, e] at hDn'; cases hDn'
        · exact ⟨hk12' _ _ (N11 p hp).2.1 (N11 p hp).1, (N11 p hp).2⟩
      rw [es] at e2
      clear F11 N11 hls
      rw [FF.hsplit, FF.hnt] at e2
      have hnw := FF.hnw
      have hnj := FF.hnj
      obtain ⟨ans, hans⟩ : ∃ ans, f0 ++ Txt.join (Str.ofString "\n") (notesOf (rowsOf wd [(l0, w0), (l1, w1), (l2, w2), (l3, w3), (l4, w4)])) ++ f1 = ans := ⟨_, rfl⟩
      obtain ⟨hasc, h8, han, mn, mp, mq, hom, hom2, hwt14⟩ := FF.han ans hans
      rw [← e2] at hnw hnj hans
      have hnw' : ((nl.map (·.1)).map (·.length)).sum + (nl.map (·.1)).length ≤ 1048576 := by (first | lia | omega)
      dsimp only
      k_steps
      rw [hans]
      k_steps
      rename Fr _ _ _ _ => F13
      rename News _ _ _ _ => N13
      have hsza : (ans.cps.map (·.toUInt8)).size ≤ 10000 := by
        rw [Array.size_map]
        exact Nat.le_trans han (by decide)
      refine lift (parse_c B (subF hs F13) hsza hom hom2 (fun h14 tk14 T14 tl14 etl b14 fr14 hT14 => ?_)) rfl (by with_unfolding_all exact Nat.le_of_ble_eq_true rfl) (by with_unfolding_all exact Nat.le_of_ble_eq_true rfl) rfl rfl
      obtain ⟨F14, N14⟩ := after_new (add := [(T14, { cls := .type "tuple", data := .seq (bytesValues tl14).toArray })]) F13 N13 b14 (fa_cons ⟨hT14, fr14⟩ fa_nil)
      clear F13 N13
      dsimp only [List.cons_append, List.nil_append] at N14
      k_steps
      rename Fr _ _ _ _ => F15
      rename News _ _ _ _ => N15
      unfold Halt
      refine tail1 (fr := fr) (ofr := { cls := .type "tuple", data := .seq #[.str f0 u0, .str f1 u1] nf }) (q1 := q1) (q2 := q2) (c1 := oc1) (c2 := oc2) B hs X T (as_three F15 (by with_unfolding_all rfl) (by with_unfolding_all rfl) (by with_unfolding_all rfl)) (fa_cons (N15 _ (by k_mem)) (fa_cons (N15 _ (by k_mem)) (fa_cons (N15 _ (by k_mem)) (fa_cons (N15 _ (by k_mem)) (fa_cons (N15 _ (by k_mem)) (fa_cons (N15 _ (by k_mem)) (fa_cons (N15 _ (by k_mem)) (fa_cons (N15 _ (by k_mem)) (fa_cons (N15 _ (by k_mem)) fa_nil))))))))) dc1 dc2 (etl.trans hwt14) FF.htok FF.hntk FF.hrd (fun x hx => ?_) (by rw [Array.size_map]; exact h8) (by rw [Array.size_map]; exact Nat.le_trans han (by decide)) e2 FF.hnok rowsOf_ne (rowsOf_full _ hne5) (rowsOf_flat _ _) hit (fun h' m' tk' D sl n F' N' lD esl => ?_)
      · obtain ⟨i, hi, rfl⟩ := List.mem_map.mp (show x ∈ [(l0, w0), (l1, w1), (l2, w2), (l3, w3), (l4, w4)].map (·.2) from hx)
        exact (hgd i hi).2.2
      · refine hret h' _ tk' D sl n (but_end hk F'.keep (fa_cons (.inr ((N' (la, _) (by k_mem)).1.trans hla.symm)) (fa_cons (.inr ((N' (lw, _) (by k_mem)).1.trans hlw.symm)) (fa_cons (.inr ((N' (fr, _) (by k_mem)).1.trans hfr.symm)) (fa_cons (.inl (by simp)) (fa_cons (.inl (by simp)) fa_nil))))))
          ⟨subF hs F', ⟨q1, (N' (176, q1) (by k_mem)).1, tq1⟩, ⟨q2, (N' (183, q2) (by k_mem)).1, tq2⟩, S10.gb⟩
          (fresh_end hk (N' _ (.head _)).2.2 (fa_cons (Nat.ne_of_lt lD.1) (fa_cons (Nat.ne_of_lt lD.2.1) (fa_cons (Nat.ne_of_lt lD.2.2.2.2) (fa_cons (Nat.ne_of_lt lD.2.2.1) (fa_cons (Nat.ne_of_lt lD.2.2.2.1) fa_nil))))))
          (N' _ (.head _)).1 esl
end Mine
end
section
open PySem PySem.W PyProof.Rows PySem.Calls PySem.Spec
set_option maxRecDepth 100000
set_option maxHeartbeats 2000000
set_option pp.deepTerms false
set_option pp.maxSteps 20000
namespace Mine
theorem dummyJ1 : True := by
  k_with_none
  w_top off
  k_with "lt8" => with_reducible first | assumption | exact And.left (by assumption) | exact And.left (And.right (by assumption)) | exact And.left (And.right (And.right (by assumption))) | exact And.left (And.right (And.right (And.right (by assumption)))) | exact And.left (And.right (And.right (And.right (And.right (by assumption))))) | exact And.left (And.right (And.right (And.right (And.right (And.right (by assumption)))))) | exact And.left (And.right (And.right (And.right (And.right (And.right (And.right (by assumption))))))) | exact And.left (And.right (And.right (And.right (And.right (And.right (And.right (And.right (by assumption)))))))) | exact And.left (And.right (And.right (And.right (And.right (And.right (And.right (And.right (And.right (by assumption))))))))) | exact And.left (And.right (And.right (And.right (And.right (And.right (And.right (And.right (And.right (And.right (by assumption)))))))))) | exact And.left (And.right (And.right (And.right (And.right (And.right (And.right (And.right (And.right (And.right (And.right (by assumption))))))))))) | exact And.left (And.right (And.right (And.right (And.right (And.right (And.right (And.right (And.right (And.right (And.right (And.right (by assumption)))))))))))) | exact And.left (And.right (And.right (And.right (And.right (And.right (And.right (And.right (And.right (And.right (And.right (And.right (And.right (by assumption)))))))))))))
  k_with "lt9" => first | exact Nat.ne_of_lt (by walk_at "lt8") | exact Nat.ne_of_gt (by walk_at "lt8")
  trivial
theorem withJ1x37 : True := by
  k_with_none
  w_top off
  k_with "lt8" => with_reducible first | assumption | exact And.left (by assumption) | exact And.left (And.right (by assumption)) | exact And.left (And.right (And.right (by assumption))) | exact And.left (And.right (And.right (And.right (by assumption)))) | exact And.left (And.right (And.right (And.right (And.right (by assumption))))) | exact And.left (And.right (And.right (And.right (And.right (And.right (by assumption)))))) | exact And.left (And.right (And.right (And.right (And.right (And.right (And.right (by assumption))))))) | exact And.left (And.right (And.right (And.right (And.right (And.right (And.right (And.right (by assumption)))))))) | exact And.left (And.right (And.right (And.right (And.right (And.right (And.right (And.right (And.right (by assumption))))))))) | exact And.left (And.right (And.right (And.right (And.right (And.right (And.right (And.right (And.right (And.right (by assumption)))))))))) | exact And.left (And.right (And.right (And.right (And.right (And.right (And.right (And.right (And.right (And.right (And.right (by assumption))))))))))) | exact And.left (And.right (And.right (And.right (And.right (And.right (And.right (And.right (And.right (And.right (And.right (And.right (by assumption)))))))))))) | exact And.left (And.right (And.right (And.right (And.right (And.right (And.right (And.right (And.right (And.right (And.right (And.right (And.right (by assumption)))))))))))))
  k_with "lt9" => first | exact Nat.ne_of_lt (by walk_at "lt8") | exact Nat.ne_of_gt (by walk_at "lt8")
  k_with "k_ne" => (refine neN ?_; (try dsimp only); first | exact NeA.h (by assumption) | exact Ne.symm (NeA.h (by assumption)) | walk_at "lt9" | lia | omega)
  k_with "k_all" => exact OffL.h (by assumption)
  k_with "execs cons" => (k_here; (with_reducible refine wpAny_execs_cons ?_); (try dsimp only))
  k_with "execs nil" => (k_here; (with_reducible refine wpAny_execs_nil ?_); (try dsimp only))
  k_with "callWith" => (k_here; (with_reducible show wpAny _ _ (callWith _ (Value.builtin _) (_ :: _) (backTo _ (starEach [_] _)) []) _ _ _); (refine callWith_m1 ?_); (try dsimp only [List.cons_append, List.nil_append]))
  k_with "getMethod ref" => (k_here; (with_reducible show wpAny _ _ (getMethod (Value.ref _) (Str.ofString "append") _) _ _ _); k_dflt (refine append_method (by k_asm) (by k_mem) ?_))
  k_with "call builtin:list.append" => (k_here; (with_reducible show wpAny _ _ (call (Value.builtin _) [Value.ref _, _]) _ _ _); k_dflt (refine' append_K ?kw9k1 ?kw9k2 ?kw9k3 ?_ ?kw9z; (case kw9k1 => k_asm); (case kw9k2 => k_asm); (case kw9k3 => k_upd); (case kw9z => assumption); k_whole); intro _ _ _)
  k_with "compareOp Eq ref ref" => (k_here; (with_reducible show wpAny _ _ (compareOp CmpOp.Eq (Value.ref _) (Value.ref _)) _ _ _); k_dflt (refine eq_nil (by assumption) (News.isList (by k_asm) (by k_mem)) (News.isList (by k_asm) (by k_mem)) (Nat.le_of_ble_eq_true rfl) ?_))
  k_with "compareOp Gt int int" => (k_here; (with_reducible show wpAny _ _ (compareOp CmpOp.Gt (Value.int _ _) (Value.int _ _)) _ _ _); k_dflt (refine gt_no (by omega) ?_))
  k_with "compareOp NotEq int int" => (k_here; (with_reducible show wpAny _ _ (compareOp CmpOp.NotEq (Value.int _ _) (Value.int _ _)) _ _ _); k_dflt (refine ne_no (by omega) ?_))
  trivial
theorem turn_c {w : World} {mg mb : Str → Option Value} {b : Heap} {L f : Addr} {cd : Value} {s : Shared} {la lw lR lfr lS : Addr} {l0 l1 l2 l3 l4 w0 w1 w2 w3 w4 f0 f1 : Str} {a0 a1 a2 a3 a4 b0 b1 b2 b3 b4 u0 u1 tW tT : Tok} {na nb nf nS nR : Nat} {W tot : Int} {zs : List (Int × Tok)} {c1 c2 c3 q1 q2 : Obj} {rs : List Rg} {m0 v0 : Str → Option Value}
    (B : Base w mg mb b) (hB : AllBare s.gens) (tq1 : TabO q1) (tq2 : TabO q2)
    (F : Fr b L s.heap (fun z => if z = Str.ofString "starts" then v0 z else if z = Str.ofString "low" then v0 z else if z = Str.ofString "high" then v0 z else if z = Str.ofString "width" then some (.int W tW) else if z = Str.ofString "rungs" then some (.ref lR) else if z = Str.ofString "frame" then some (.ref lfr) else if z = Str.ofString "sizes" then some (.ref lS) else if z = Str.ofString "total" then some (.int tot tT) else m0 z))
    (N : News b L s.heap ((lR, listOf (rgVals rs).toArray nR) :: (176, q1) :: (183, q2) :: (lfr, ({ cls := .type "tuple", data := .seq #[.str f0 u0, .str f1 u1] nf } : Obj)) :: (lS, listOf (intValues zs).toArray nS) :: (L + 1 + 1 + 1, c3) :: (L + 1 + 1, c2) :: (L + 1, c1) :: (la, five l0 l1 l2 l3 l4 a0 a1 a2 a3 a4 na) :: (lw, five w0 w1 w2 w3 w4 b0 b1 b2 b3 b4 nb) :: rgTups rs))
    (k1 : c1.data = .cell (some (.ref la))) (k2 : c2.data = .cell (some (.ref lw))) (k3 : c3.data = .cell none)
    (hlt : @LT.lt Nat _ la lR ∧ @LT.lt Nat _ lw lR ∧ @LT.lt Nat _ lfr lR ∧ @LT.lt Nat _ lS lR ∧ @LT.lt Nat _ 176 lR ∧ @LT.lt Nat _ 183 lR ∧ @LT.lt Nat _ (L + 1 + 1 + 1) lR) (o1 : OffL lR (rgTups rs)) (hne : @Ne Nat la lw)
    (hsp : ∀ x ∈ [l1, l2, l3, l4], x.cps[0]? = some 32) (FF : FoldFacts [(l0, w0), (l1, w1), (l2, w2), (l3, w3), (l4, w4)] f0 f1 W (rowsOf W [(l0, w0), (l1, w1), (l2, w2), (l3, w3), (l4, w4)]))
    (hzs : zs.map (·.1) = [(l0, w0), (l1, w1), (l2, w2), (l3, w3), (l4, w4)].map prSz) (hb : ∀ i ∈ [(l0, w0), (l1, w1), (l2, w2), (l3, w3), (l4, w4)], prSz i ≤ 100) (hlow : lowR (rowsOf W [(l0, w0), (l1, w1), (l2, w2), (l3, w3), (l4, w4)]) ≤ W) (hhigh : highR (rowsOf W [(l0, w0), (l1, w1), (l2, w2), (l3, w3), (l4, w4)]) = W + 1) (hsz : (rgVals rs).toArray.size ≤ sizeLine) :
    wpAny (model pw w) (lawA w L f cd) (execs (whileB ((lawB w).drop 6)) (lawE w L f cd)) (fun fl s' => Stop (fl = .next ∧ ∃ h tk gn p1 p2 r m' t' n', s' = { s with heap := h, toks := tk, gens := gn } ∧ AllBare gn ∧ TabO p1 ∧ TabO p2 ∧ Fr b L h m' ∧
        (∀ z, z ≠ Str.ofString "starts" → z ≠ Str.ofString "low" → z ≠ Str.ofString "high" → m' z = if z = Str.ofString "width" then some (.int (r.lo - 1) t') else if z = Str.ofString "rungs" then some (.ref lR) else if z = Str.ofString "frame" then some (.ref lfr) else if z = Str.ofString "sizes" then some (.ref lS) else if z = Str.ofString "total" then some (.int tot tT) else m0 z) ∧
        News b L h ((lR, listOf (rgVals (rs ++ [r])).toArray n') :: (176, p1) :: (183, p2) :: (lfr, ({ cls := .type "tuple", data := .seq #[.str f0 u0, .str f1 u1] nf } : Obj)) :: (lS, listOf (intValues zs).toArray nS) :: (L + 1 + 1 + 1, c3) :: (L + 1 + 1, c2) :: (L + 1, c1) :: (la, five l0 l1 l2 l3 l4 a0 a1 a2 a3 a4 na) :: (lw, five w0 w1 w2 w3 w4 b0 b1 b2 b3 b4 nb) :: rgTups (rs ++ [r])) ∧
        OffL lR (rgTups (rs ++ [r])) ∧ (OffL (L + 1 + 1 + 1) (rgTups rs) → OffL (L + 1 + 1 + 1) (rgTups (rs ++ [r]))) ∧ r.lo = lowR (rowsOf W [(l0, w0), (l1, w1), (l2, w2), (l3, w3), (l4, w4)]) ∧ r.rows = rowsOf W [(l0, w0), (l1, w1), (l2, w2), (l3, w3), (l4, w4)] ∧ r.sl.map (·.1) = (startsFrom 0 r.rows).map Int.ofNat)) (fun _ _ => False) s := by
  obtain ⟨lt1, lt2, lt3, lt4, lt5, lt6, lt7⟩ := hlt
  have X : (K9 w.params).In b := B.K
  have T : TopRead view lo mg mb b := B.T
  unfold lawA lawE lawB bodyAt lawS scopeAt
  dsimp only [List.drop_succ_cons, List.drop_zero, List.drop, whileB]
  k_steps
  rename Fr _ _ _ _ => F1
  rename News _ _ _ _ => N1
  have S1 : St b { s with heap := _, toks := _ } := ⟨F1.keep, ⟨q1, N1.get (by k_mem), tq1⟩, ⟨q2, N1.get (by k_mem), tq2⟩, hB⟩
  refine lift (fold_c B S1 (N1.get (show (la, five l0 l1 l2 l3 l4 a0 a1 a2 a3 a4 na) ∈ _ by k_mem)) (N1 (la, _) (by k_mem)).2.2 (N1.get (show (lw, five w0 w1 w2 w3 w4 b0 b1 b2 b3 b4 nb) ∈ _ by k_mem)) (N1 (lw, _) (by k_mem)).2.2 (N1.get (show (lfr, ({ cls := .type "tuple", data := .seq #[.str f0 u0, .str f1 u1] nf } : Obj)) ∈ _ by k_mem)) (N1 (lfr, _) (by k_mem)).2.2 hne hsp FF (fun h2 gn2 tk2 D sl n bt2 S2 fD gD esl => ?_)) rfl (by with_unfolding_all exact Nat.le_of_ble_eq_true rfl) (by with_unfolding_all exact Nat.le_of_ble_eq_true rfl) rfl rfl
  obtain ⟨F2, N2⟩ := after_tab F1 N1 bt2 (by k_mem) tq1 (by k_mem) tq2
  obtain ⟨r1, hr1, tr1⟩ := S2.t1
  obtain ⟨r2, hr2, tr2⟩ := S2.t2
  have hneD : ∀ p ∈ ((lR, listOf (rgVals rs).toArray nR) :: (176, q1) :: (183, q2) :: (lfr, ({ cls := .type "tuple", data := .seq #[.str f0 u0, .str f1 u1] nf } : Obj)) :: (lS, listOf (intValues zs).toArray nS) :: (L + 1 + 1 + 1, c3) :: (L + 1 + 1, c2) :: (L + 1, c1) :: (la, five l0 l1 l2 l3 l4 a0 a1 a2 a3 a4 na) :: (lw, five w0 w1 w2 w3 w4 b0 b1 b2 b3 b4 nb) :: rgTups rs), NeA p.1 D := fun p hp => ⟨ne_of_none (N1 p hp).1 fD⟩
  have nD1 : NeA lR D := hneD (lR, _) (by k_mem)
  have nD2 : NeA (L + 1 + 1 + 1) D := hneD (L + 1 + 1 + 1, _) (by k_mem)
  have hDL : D ≠ L := fun e => by
    obtain ⟨o, _, _, e1, _⟩ := F1.ns
    rw [e, e1] at fD; cases fD
  have N3 : News b L h2 ((D, listOf (intValues sl).toArray n) :: (lR, listOf (rgVals rs).toArray nR) :: (176, r1) :: (183, r2) :: (lfr, ({ cls := .type "tuple", data := .seq #[.str f0 u0, .str f1 u1] nf } : Obj)) :: (lS, listOf (intValues zs).toArray nS) :: (L + 1 + 1 + 1, c3) :: (L + 1 + 1, c2) :: (L + 1, c1) :: (la, five l0 l1 l2 l3 l4 a0 a1 a2 a3 a4 na) :: (lw, five w0 w1 w2 w3 w4 b0 b1 b2 b3 b4 nb) :: rgTups rs) :=
    fa_cons ⟨gD, hDL, none_of_sub F1.keep fD⟩ (fa_cons (N2 (lR, _) (by k_mem) fun v e => nomatch e) (fa_cons ⟨hr1, (N1 (176, q1) (by k_mem)).2⟩ (fa_cons ⟨hr2, (N1 (183, q2) (by k_mem)).2⟩ (fa_cons (N2 (lfr, _) (by k_mem) fun v e => nomatch e) (fa_cons (N2 (lS, _) (by k_mem) fun v e => nomatch e)
      (fa_cons (N2 (L + 1 + 1 + 1, c3) (by k_mem) fun v e => by rw [k3] at e; cases e) (fa_cons (N2 (L + 1 + 1, c2) (by k_mem) fun v e => by rw [k2] at e; cases e) (fa_cons (N2 (L + 1, c1) (by k_mem) fun v e => by rw [k1] at e; cases e) (fa_cons (N2 (la, _) (by k_mem) fun v e => nomatch e) (fa_cons (N2 (lw, _) (by k_mem) fun v e => nomatch e)
        fun p hp => N2 p (by repeat (first | exact hp | refine .tail _ ?_)) (rg_data p hp)))))))))))
  have hB2 := S2.gb
  have hrn := rowsOf_ne (l := [(l0, w0), (l1, w1), (l2, w2), (l3, w3), (l4, w4)]) (W := W)
  have hfull := rowsOf_full W (l := [(l0, w0), (l1, w1), (l2, w2), (l3, w3), (l4, w4)]) (List.cons_ne_nil _ _)
  have hfl := rowsOf_flat W [(l0, w0), (l1, w1), (l2, w2), (l3, w3), (l4, w4)]
  have hln := starts_len (rowsOf W [(l0, w0), (l1, w1), (l2, w2), (l3, w3), (l4, w4)]) 0
  obtain ⟨rows, hrows⟩ : ∃ x, rowsOf W [(l0, w0), (l1, w1), (l2, w2), (l3, w3), (l4, w4)] = x := ⟨_, rfl⟩
  rw [hrows] at esl hrn hfull hfl hln hlow hhigh ⊢
  have hs0 : sl.map (·.1) ≠ [] := fun e => by
    have := congrArg List.length esl
    rw [e, List.length_map, hln] at this
    exact hrn (List.eq_nil_of_length_eq_zero this.symm)
  clear F1 N1 N2 S1 S2 hneD FF hln
  k_steps
  rename Fr _ _ _ _ => F4
  rename News _ _ _ _ => N4
  refine lift (widths_c B F4.keep (N4.get (show (lS, listOf (intValues zs).toArray nS) ∈ _ by k_mem)) (N4 (lS, _) (by k_mem)).2.2 (N4.get (show (D, listOf (intValues sl).toArray n) ∈ _ by k_mem)) (N4 (D, _) (by k_mem)).2.2 hzs rfl hb esl hrn hfull hfl (fun h5 tk5 T5 t1 t2 b5 fT gT => ?_)) rfl (by with_unfolding_all exact Nat.le_of_ble_eq_true rfl) (by with_unfolding_all exact Nat.le_of_ble_eq_true rfl) rfl rfl
  have nT1 : NeA lR T5 := ⟨ne_of_none (N4.get (show (lR, listOf (rgVals rs).toArray nR) ∈ _ by k_mem)) fT⟩
  obtain ⟨F5, N5⟩ := after_new (add := [(T5, { cls := .type "tuple", data := .seq #[.int (lowR rows) t1, .int (highR rows) t2] })]) F4 N4 b5 (fa_cons ⟨gT, fT⟩ fa_nil)
  dsimp only [List.cons_append, List.nil_append] at N5
  obtain ⟨vlo, hlo⟩ : ∃ x, lowR rows = x := ⟨_, rfl⟩
  obtain ⟨vhi, hhi⟩ : ∃ x, highR rows = x := ⟨_, rfl⟩
  rw [hlo, hhi] at N5
  rw [hlo] at hlow ⊢
  rw [hhi] at hhigh
  clear F4 N4 gT gD hr1 hr2
  k_steps
  rename Fr _ _ _ _ => F6
  rename News _ _ _ _ => N6
  rename_i D3 _ l3' _ _
  obtain ⟨l31, l32, l33, l34, l35, l36, l37, l38, l39, -⟩ := l3'
  refine Stop.mk ⟨rfl, _, _, _, r1, r2, ⟨D3, D, vlo, t1, sl, n, rows⟩, _, ?tt, nR + 1, rfl, hB2, tr1, tr2, F6, ?mm, ?nn, rg_off o1 (by k_ne) (by k_ne), fun o2 => rg_off o2 (by k_ne) (by k_ne), rfl, rfl, esl⟩
  case mm =>
    intro z h1 h2 h3
    by_cases hz : z = Str.ofString "width"
    · rw [if_pos hz, if_pos hz]
    · rw [if_neg hz, if_neg h3, if_neg h2, if_neg h1, if_neg h1, if_neg h2, if_neg h3, if_neg hz, if_neg hz]
  case nn =>
    rw [rgTups_snoc]
    refine fa_cons ?_ (fa_cons (N6 (176, r1) (by k_mem)) (fa_cons (N6 (183, r2) (by k_mem)) (fa_cons (N6 (lfr, _) (by k_mem)) (fa_cons (N6 (lS, _) (by k_mem)) (fa_cons (N6 (L + 1 + 1 + 1, c3) (by k_mem)) (fa_cons (N6 (L + 1 + 1, c2) (by k_mem)) (fa_cons (N6 (L + 1, c1) (by k_mem)) (fa_cons (N6 (la, _) (by k_mem)) (fa_cons (N6 (lw, _) (by k_mem)) fun p hp => ?_)))))))))
    · have e : (rgVals (rs ++ [⟨D3, D, vlo, t1, sl, n, rows⟩])).toArray = (rgVals rs).toArray.push (Value.ref D3) := by simp [rgVals]
      rw [e]
      exact N6 (lR, _) (by k_mem)
    · rcases List.mem_append.mp hp with hp | hp
      · exact N6 p (by repeat (first | exact hp | refine .tail _ ?_))
      · simp only [List.mem_cons, List.not_mem_nil, or_false] at hp
        rcases hp with rfl | rfl
        · exact N6 (D3, _) (by k_mem)
        · exact N6 (D, _) (by k_mem)
end Mine
end
section
open PySem PySem.W PyProof.Rows PySem.Calls PySem.Spec
set_option maxRecDepth 100000
set_option maxHeartbeats 2000000
set_option pp.deepTerms false
set_option pp.maxSteps 20000
namespace Mine
theorem dummyJ2 : True := by
  k_with_none
  w_top off
  k_with "lt8" => with_reducible first | assumption | exact And.left (by assumption) | exact And.left (And.right (by assumption)) | exact And.left (And.right (And.right (by assumption))) | exact And.left (And.right (And.right (And.right (by assumption)))) | exact And.left (And.right (And.right (And.right (And.right (by assumption))))) | exact And.left (And.right (And.right (And.right (And.right (And.right (by assumption)))))) | exact And.left (And.right (And.right (And.right (And.right (And.right (And.right (by assumption))))))) | exact And.left (And.right (And.right (And.right (And.right (And.right (And.right (And.right (by assumption)))))))) | exact And.left (And.right (And.right (And.right (And.right (And.right (And.right (And.right (And.right (by assumption))))))))) | exact And.left (And.right (And.right (And.right (And.right (And.right (And.right (And.right (And.right (And.right (by assumption)))))))))) | exact And.left (And.right (And.right (And.right (And.right (And.right (And.right (And.right (And.right (And.right (And.right (by assumption))))))))))) | exact And.left (And.right (And.right (And.right (And.right (And.right (And.right (And.right (And.right (And.right (And.right (And.right (by assumption)))))))))))) | exact And.left (And.right (And.right (And.right (And.right (And.right (And.right (And.right (And.right (And.right (And.right (And.right (And.right (by assumption)))))))))))))
  k_with "lt9" => first | exact Nat.ne_of_lt (by walk_at "lt8") | exact Nat.ne_of_gt (by walk_at "lt8")
  trivial
theorem as_three' {g h : Heap} {L : Addr} {M M0 : Str → Option Value} {x y z : Str} (F : Fr g L h M) (hM : ∀ q, q ≠ x → q ≠ y → q ≠ z → M q = M0 q) : Fr g L h (fun q => if q = x then M q else if q = y then M q else if q = z then M q else M0 q) := by
  have e : (fun q => if q = x then M q else if q = y then M q else if q = z then M q else M0 q) = M := funext fun q => by
    by_cases h1 : q = x
    · rw [if_pos h1]
    · by_cases h2 : q = y
      · rw [if_neg h1, if_pos h2]
      · by_cases h3 : q = z
        · rw [if_neg h1, if_neg h2, if_pos h3]
        · rw [if_neg h1, if_neg h2, if_neg h3, hM q h1 h2 h3]
  rw [e]; exact F
section
theorem withJ2x38 : True := by
  k_with_none
  w_top off
  k_with "lt8" => with_reducible first | assumption | exact And.left (by assumption) | exact And.left (And.right (by assumption)) | exact And.left (And.right (And.right (by assumption))) | exact And.left (And.right (And.right (And.right (by assumption)))) | exact And.left (And.right (And.right (And.right (And.right (by assumption))))) | exact And.left (And.right (And.right (And.right (And.right (And.right (by assumption)))))) | exact And.left (And.right (And.right (And.right (And.right (And.right (And.right (by assumption))))))) | exact And.left (And.right (And.right (And.right (And.right (And.right (And.right (And.right (by assumption)))))))) | exact And.left (And.right (And.right (And.right (And.right (And.right (And.right (And.right (And.right (by assumption))))))))) | exact And.left (And.right (And.right (And.right (And.right (And.right (And.right (And.right (And.right (And.right (by assumption)))))))))) | exact And.left (And.right (And.right (And.right (And.right (And.right (And.right (And.right (And.right (And.right (And.right (by assumption))))))))))) | exact And.left (And.right (And.right (And.right (And.right (And.right (And.right (And.right (And.right (And.right (And.right (And.right (by assumption)))))))))))) | exact And.left (And.right (And.right (And.right (And.right (And.right (And.right (And.right (And.right (And.right (And.right (And.right (And.right (by assumption)))))))))))))
  k_with "lt9" => first | exact Nat.ne_of_lt (by walk_at "lt8") | exact Nat.ne_of_gt (by walk_at "lt8")
  k_with "compareOp Gt int int" => (k_here; (with_reducible show wpAny _ _ (compareOp CmpOp.Gt (Value.int _ _) (Value.int _ _)) _ _ _); k_dflt (first | refine gt_yes (by omega) ?_ | refine gt_no (by omega) ?_))
  trivial
theorem test_yes {w : World} {mg mb : Str → Option Value} {b : Heap} {L f : Addr} {cd : Value} {s : Shared} {lR lfr lS : Addr} {tW tT : Tok} {W tot : Int} {m0 v0 : Str → Option Value} {Q : Bool → Shared → Prop} {E : Value → Shared → Prop} (B : Base w mg mb b) (hW : -1000 < W)
    (F : Fr b L s.heap (fun z => if z = Str.ofString "starts" then v0 z else if z = Str.ofString "low" then v0 z else if z = Str.ofString "high" then v0 z else if z = Str.ofString "width" then some (.int W tW) else if z = Str.ofString "rungs" then some (.ref lR) else if z = Str.ofString "frame" then some (.ref lfr) else if z = Str.ofString "sizes" then some (.ref lS) else if z = Str.ofString "total" then some (.int tot tT) else m0 z)) (N : News b L s.heap []) (h : ∀ k, Q true { s with toks := k }) :
    wpAny (model pw w) (lawA w L f cd) (isTrue (whileT ((lawB w).drop 6)) (lawE w L f cd) (eval (whileT ((lawB w).drop 6)) (lawE w L f cd))) Q E s := by
  have X : (K9 w.params).In b := B.K
  have T : TopRead view lo mg mb b := B.T
  unfold lawA lawE lawB bodyAt lawS scopeAt
  dsimp only [List.drop_succ_cons, List.drop_zero, List.drop, whileT]
  refine wp_halt ?_
  k_steps
  exact Stop.mk (h _)
theorem test_no {w : World} {mg mb : Str → Option Value} {b : Heap} {L f : Addr} {cd : Value} {s : Shared} {lR lfr lS : Addr} {tW tT : Tok} {W tot : Int} {m0 v0 : Str → Option Value} {Q : Bool → Shared → Prop} {E : Value → Shared → Prop} (B : Base w mg mb b) (hW : ¬ -1000 < W)
    (F : Fr b L s.heap (fun z => if z = Str.ofString "starts" then v0 z else if z = Str.ofString "low" then v0 z else if z = Str.ofString "high" then v0 z else if z = Str.ofString "width" then some (.int W tW) else if z = Str.ofString "rungs" then some (.ref lR) else if z = Str.ofString "frame" then some (.ref lfr) else if z = Str.ofString "sizes" then some (.ref lS) else if z = Str.ofString "total" then some (.int tot tT) else m0 z)) (N : News b L s.heap []) (h : ∀ k, Q false { s with toks := k }) :
    wpAny (model pw w) (lawA w L f cd) (isTrue (whileT ((lawB w).drop 6)) (lawE w L f cd) (eval (whileT ((lawB w).drop 6)) (lawE w L f cd))) Q E s := by
  have X : (K9 w.params).In b := B.K
  have T : TopRead view lo mg mb b := B.T
  unfold lawA lawE lawB bodyAt lawS scopeAt
  dsimp only [List.drop_succ_cons, List.drop_zero, List.drop, whileT]
  refine wp_halt ?_
  k_steps
  exact Stop.mk (h _)
end
theorem loop_c {w : World} {mg mb : Str → Option Value} {b : Heap} {L f : Addr} {cd : Value} {s : Shared} {la lw lR lfr lS : Addr} {l0 l1 l2 l3 l4 w0 w1 w2 w3 w4 f0 f1 : Str} {a0 a1 a2 a3 a4 b0 b1 b2 b3 b4 u0 u1 tW tT : Tok} {na nb nf nS nR : Nat} {W tot : Int} {zs : List (Int × Tok)} {c1 c2 c3 q1 q2 : Obj} {rs : List Rg} {m0 v0 : Str → Option Value} {pos : Pos} {Q : Flow → Shared → Prop}
    (B : Base w mg mb b) (hB : AllBare s.gens) (tq1 : TabO q1) (tq2 : TabO q2) (I : Items [(l0, w0), (l1, w1), (l2, w2), (l3, w3), (l4, w4)]) (hfr : (f0, f1) ∈ frames)
    (F : Fr b L s.heap (fun z => if z = Str.ofString "starts" then v0 z else if z = Str.ofString "low" then v0 z else if z = Str.ofString "high" then v0 z else if z = Str.ofString "width" then some (.int 999 tW) else if z = Str.ofString "rungs" then some (.ref lR) else if z = Str.ofString "frame" then some (.ref lfr) else if z = Str.ofString "sizes" then some (.ref lS) else if z = Str.ofString "total" then some (.int tot tT) else m0 z))
    (N : News b L s.heap ((lR, listOf (rgVals []).toArray nR) :: (176, q1) :: (183, q2) :: (lfr, ({ cls := .type "tuple", data := .seq #[.str f0 u0, .str f1 u1] nf } : Obj)) :: (lS, listOf (intValues zs).toArray nS) :: (L + 1 + 1 + 1, c3) :: (L + 1 + 1, c2) :: (L + 1, c1) :: (la, five l0 l1 l2 l3 l4 a0 a1 a2 a3 a4 na) :: (lw, five w0 w1 w2 w3 w4 b0 b1 b2 b3 b4 nb) :: rgTups []))
    (k1 : c1.data = .cell (some (.ref la))) (k2 : c2.data = .cell (some (.ref lw))) (k3 : c3.data = .cell none)
    (hlt : @LT.lt Nat _ la lR ∧ @LT.lt Nat _ lw lR ∧ @LT.lt Nat _ lfr lR ∧ @LT.lt Nat _ lS lR ∧ @LT.lt Nat _ 176 lR ∧ @LT.lt Nat _ 183 lR ∧ @LT.lt Nat _ (L + 1 + 1 + 1) lR) (hne : @Ne Nat la lw)
    (hsp : ∀ x ∈ [l1, l2, l3, l4], x.cps[0]? = some 32)
    (hzs : zs.map (·.1) = [(l0, w0), (l1, w1), (l2, w2), (l3, w3), (l4, w4)].map prSz) (hsum : rowSz [(l0, w0), (l1, w1), (l2, w2), (l3, w3), (l4, w4)] ≤ 999)
    (hret : ∀ h tk gn p1 p2 rs m' tW' nR' W, AllBare gn → TabO p1 → TabO p2 → Fr b L h m' → (∀ z, z ≠ Str.ofString "starts" → z ≠ Str.ofString "low" → z ≠ Str.ofString "high" → m' z = if z = Str.ofString "width" then some (.int W tW') else if z = Str.ofString "rungs" then some (.ref lR) else if z = Str.ofString "frame" then some (.ref lfr) else if z = Str.ofString "sizes" then some (.ref lS) else if z = Str.ofString "total" then some (.int tot tT) else m0 z) → News b L h ((lR, listOf (rgVals rs).toArray nR') :: (176, p1) :: (183, p2) :: (lfr, ({ cls := .type "tuple", data := .seq #[.str f0 u0, .str f1 u1] nf } : Obj)) :: (lS, listOf (intValues zs).toArray nS) :: (L + 1 + 1 + 1, c3) :: (L + 1 + 1, c2) :: (L + 1, c1) :: (la, five l0 l1 l2 l3 l4 a0 a1 a2 a3 a4 na) :: (lw, five w0 w1 w2 w3 w4 b0 b1 b2 b3 b4 nb) :: rgTups rs) → OffL (L + 1 + 1 + 1) (rgTups rs) → W ≤ -1000 → Ladder [(l0, w0), (l1, w1), (l2, w2), (l3, w3), (l4, w4)] W (rgPairs rs) → (∀ r ∈ rs, r.sl.map (·.1) = (startsFrom 0 r.rows).map Int.ofNat) → rs.length ≤ 2000 → Q .next { s with heap := h, toks := tk, gens := gn }) :
    wpAny (model pw w) (lawA w L f cd) (exec (.While (whileT ((lawB w).drop 6)) (whileB ((lawB w).drop 6)) [] pos) (lawE w L f cd)) Q (fun _ _ => False) s := by
  have hne5 : ([(l0, w0), (l1, w1), (l2, w2), (l3, w3), (l4, w4)] : List Pr) ≠ [] := List.cons_ne_nil _ _
  have hb : ∀ i ∈ [(l0, w0), (l1, w1), (l2, w2), (l3, w3), (l4, w4)], prSz i ≤ 100 := fun i hi => by
    have := I.sz i hi
    unfold prSz; (first | lia | omega)
  refine wpAny_While (codeAny_whileLoop (fun n s' => ∃ h tk gn p1 p2 rs m' tW' nR' W, s' = { s with heap := h, toks := tk, gens := gn } ∧ AllBare gn ∧ TabO p1 ∧ TabO p2 ∧ Fr b L h m' ∧ (∀ z, z ≠ Str.ofString "starts" → z ≠ Str.ofString "low" → z ≠ Str.ofString "high" → m' z = if z = Str.ofString "width" then some (.int W tW') else if z = Str.ofString "rungs" then some (.ref lR) else if z = Str.ofString "frame" then some (.ref lfr) else if z = Str.ofString "sizes" then some (.ref lS) else if z = Str.ofString "total" then some (.int tot tT) else m0 z) ∧ News b L h ((lR, listOf (rgVals rs).toArray nR') :: (176, p1) :: (183, p2) :: (lfr, ({ cls := .type "tuple", data := .seq #[.str f0 u0, .str f1 u1] nf } : Obj)) :: (lS, listOf (intValues zs).toArray nS) :: (L + 1 + 1 + 1, c3) :: (L + 1 + 1, c2) :: (L + 1, c1) :: (la, five l0 l1 l2 l3 l4 a0 a1 a2 a3 a4 na) :: (lw, five w0 w1 w2 w3 w4 b0 b1 b2 b3 b4 nb) :: rgTups rs) ∧ OffL lR (rgTups rs) ∧ OffL (L + 1 + 1 + 1) (rgTups rs) ∧ Ladder [(l0, w0), (l1, w1), (l2, w2), (l3, w3), (l4, w4)] W (rgPairs rs) ∧ (∀ r ∈ rs, r.sl.map (·.1) = (startsFrom 0 r.rows).map Int.ofNat) ∧
      (-1000 < W → highR (rowsOf W [(l0, w0), (l1, w1), (l2, w2), (l3, w3), (l4, w4)]) = W + 1) ∧ W ≤ 999 ∧ -1001 ≤ W ∧ (rs.length : Int) ≤ 999 - W ∧ n = (W + 1001).toNat) ?_ 2000
    ⟨s.heap, s.toks, s.gens, q1, q2, [], _, tW, nR, 999, rfl, hB, tq1, tq2, F, (fun z h1 h2 h3 => by rw [if_neg h1, if_neg h2, if_neg h3]), N, ⟨fun _ h => nomatch h⟩, ⟨fun _ h => nomatch h⟩, Ladder.start _, (fun _ h => nomatch h), (fun _ => rows_first hne5 hsum), by decide, by decide, by simp, by decide⟩)
  rintro n s' ⟨h, tk, gn, p1, p2, rs, m', tW', nR', W, rfl, hB', tp1, tp2, F', hm', N', o1, o2, hL, hsl, hhi, hW1, hW2, hlen, rfl⟩
  have F3 := as_three' F' hm'
  by_cases hW : -1000 < W
  · refine test_yes B hW F3 (fun _ h => nomatch h) fun k => ?_
    rw [if_pos rfl]
    have hh := rows_low_high (l := [(l0, w0), (l1, w1), (l2, w2), (l3, w3), (l4, w4)]) (W := W) hne5 (by (first | lia | omega)) (by (first | lia | omega))
    refine wpAny_mono (turn_c B hB' tp1 tp2 F3 N' k1 k2 k3 hlt o1 hne hsp (fold_facts I hfr W) hzs hb hh.1 (hhi hW) (by simp [rgVals, show sizeLine = 16777216 from rfl]; (first | lia | omega))) (fun fl s2 z => ?_) fun _ _ z => z.elim
    obtain ⟨rfl, h2, tk2, gn2, r1, r2, r, m2, t2, n2, rfl, hB2, tr1, tr2, F2, hm2, N2, o3, o4, e1, e2, e3⟩ := z
    have hk : -1000 ≤ lowR (rowsOf W [(l0, w0), (l1, w1), (l2, w2), (l3, w3), (l4, w4)]) := ((foldl_max_le (l := lows (rowsOf W [(l0, w0), (l1, w1), (l2, w2), (l3, w3), (l4, w4)])) (a := -1000) (W := lowR (rowsOf W [(l0, w0), (l1, w1), (l2, w2), (l3, w3), (l4, w4)]))).mp (Int.le_refl _)).1
    have hst := hL.step hne5 hW (by (first | lia | omega))
    have hp : rgPairs (rs ++ [r]) = rgPairs rs ++ [(lowR (rowsOf W [(l0, w0), (l1, w1), (l2, w2), (l3, w3), (l4, w4)]), rowsOf W [(l0, w0), (l1, w1), (l2, w2), (l3, w3), (l4, w4)])] := by
      unfold rgPairs; rw [List.map_append, ← e1, ← e2]; rfl
    refine ⟨(lowR (rowsOf W [(l0, w0), (l1, w1), (l2, w2), (l3, w3), (l4, w4)]) - 1 + 1001).toNat, by have := hh.1; (first | lia | omega), h2, tk2, gn2, r1, r2, rs ++ [r], m2, t2, n2, lowR (rowsOf W [(l0, w0), (l1, w1), (l2, w2), (l3, w3), (l4, w4)]) - 1, rfl, hB2, tr1, tr2, F2, ?_, N2, o3, o4 o2, ?_, fun x hx => ?_, fun hl => ?_, by have := hh.1; (first | lia | omega), by (first | lia | omega), ?_, rfl⟩
    · rw [← e1]; exact hm2
    · rw [hp]; exact hst
    · rcases List.mem_append.mp hx with hx | hx
      · exact hsl x hx
      · rw [List.mem_singleton.mp hx]; exact e3
    · rw [rows_next hne5 (by (first | lia | omega)) (by (first | lia | omega)) (by (first | lia | omega))]; (first | lia | omega)
    · rw [List.length_append, List.length_singleton]
      have := hh.1
      (first | lia | omega)
  · refine test_no B hW F3 (fun _ h => nomatch h) fun k => ?_
    rw [if_neg (by decide)]
    refine wpAny_execs_nil ?_
    exact hret h k gn p1 p2 rs m' tW' nR' W hB' tp1 tp2 F' hm' N' o2 (by (first | lia | omega)) hL hsl (by (first | lia | omega))
end Mine
end
section
open PySem PySem.W PyProof.Rows PySem.Calls PySem.Spec
set_option maxRecDepth 100000
set_option maxHeartbeats 2000000
set_option pp.deepTerms false
set_option pp.maxSteps 20000
namespace Mine
theorem dummyJ3 : True := by
  k_with_none
  w_top off
  k_with "lt8" => with_reducible first | assumption | exact And.left (by assumption) | exact And.left (And.right (by assumption)) | exact And.left (And.right (And.right (by assumption))) | exact And.left (And.right (And.right (And.right (by assumption)))) | exact And.left (And.right (And.right (And.right (And.right (by assumption))))) | exact And.left (And.right (And.right (And.right (And.right (And.right (by assumption)))))) | exact And.left (And.right (And.right (And.right (And.right (And.right (And.right (by assumption))))))) | exact And.left (And.right (And.right (And.right (And.right (And.right (And.right (And.right (by assumption)))))))) | exact And.left (And.right (And.right (And.right (And.right (And.right (And.right (And.right (And.right (by assumption))))))))) | exact And.left (And.right (And.right (And.right (And.right (And.right (And.right (And.right (And.right (And.right (by assumption)))))))))) | exact And.left (And.right (And.right (And.right (And.right (And.right (And.right (And.right (And.right (And.right (And.right (by assumption))))))))))) | exact And.left (And.right (And.right (And.right (And.right (And.right (And.right (And.right (And.right (And.right (And.right (And.right (by assumption)))))))))))) | exact And.left (And.right (And.right (And.right (And.right (And.right (And.right (And.right (And.right (And.right (And.right (And.right (And.right (by assumption)))))))))))))
  k_with "lt9" => first | exact Nat.ne_of_lt (by walk_at "lt8") | exact Nat.ne_of_gt (by walk_at "lt8")
  trivial
section
variable {prog : Program} {w : World} {A : Around} {E : Value → Shared → Prop} {s : Shared} {value slice : PySem.Expr} {l : Addr} {u : Tok} {v : Value} {vs : List Value} {Q : Value → Shared → Prop}
theorem item_first (hl : s.heap.IsList l (v :: vs).toArray) (h : Q v s) (hs : subscripted slice false (.ref l) (.int 0 u) = operate [.ref l, .int 0 u] (getItem (.ref l) (.int 0 u)) := by with_unfolding_all rfl) :
    wpAny (model prog w) A (subscriptTail value slice (.ref l) (.int 0 u)) Q E s :=
  tail_any hl.typeIs slot_list_getitem.lookup (wpAny_getItem_list hl (by decide) (by decide) (x := v) (by simp) h) hs
end
/- the rungs not above a width -/
noncomputable def lowRg (V : Int) (rs : List Rg) : List Rg := rs.filter fun r => decide (r.lo ≤ V)
theorem lowRg_head {V lo : Int} {rows : List (List Pr)} {rs : List Rg} (h : (rgPairs rs).find? (fun p => decide (p.1 ≤ V)) = some (lo, rows)) : ∃ r r', lowRg V rs = r :: r' ∧ r ∈ rs ∧ r.rows = rows := by
  unfold rgPairs at h
  rw [List.find?_map] at h
  obtain ⟨r, h1, h2⟩ := Option.map_eq_some_iff.mp h
  have h3 : (lowRg V rs).head? = some r := by
    unfold lowRg
    rw [List.head?_filter]
    exact h1
  cases hl : lowRg V rs with
  | nil => rw [hl] at h3; cases h3
  | cons x y =>
    rw [hl] at h3
    obtain rfl := Option.some.inj h3
    exact ⟨_, y, rfl, List.mem_of_find?_eq_some h1, congrArg Prod.snd h2⟩
theorem withJ3x39 : True := by
  k_with_none
  w_top off
  k_with "lt8" => with_reducible first | assumption | exact And.left (by assumption) | exact And.left (And.right (by assumption)) | exact And.left (And.right (And.right (by assumption))) | exact And.left (And.right (And.right (And.right (by assumption)))) | exact And.left (And.right (And.right (And.right (And.right (by assumption))))) | exact And.left (And.right (And.right (And.right (And.right (And.right (by assumption)))))) | exact And.left (And.right (And.right (And.right (And.right (And.right (And.right (by assumption))))))) | exact And.left (And.right (And.right (And.right (And.right (And.right (And.right (And.right (by assumption)))))))) | exact And.left (And.right (And.right (And.right (And.right (And.right (And.right (And.right (And.right (by assumption))))))))) | exact And.left (And.right (And.right (And.right (And.right (And.right (And.right (And.right (And.right (And.right (by assumption)))))))))) | exact And.left (And.right (And.right (And.right (And.right (And.right (And.right (And.right (And.right (And.right (And.right (by assumption))))))))))) | exact And.left (And.right (And.right (And.right (And.right (And.right (And.right (And.right (And.right (And.right (And.right (And.right (by assumption)))))))))))) | exact And.left (And.right (And.right (And.right (And.right (And.right (And.right (And.right (And.right (And.right (And.right (And.right (And.right (by assumption)))))))))))))
  k_with "lt9" => first | exact Nat.ne_of_lt (by walk_at "lt8") | exact Nat.ne_of_gt (by walk_at "lt8")
  k_with "k_ne" => (refine neN ?_; (try dsimp only); first | exact NeA.h (by assumption) | exact Ne.symm (NeA.h (by assumption)) | walk_at "lt9" | lia | omega)
  k_with "k_all" => exact OffL.h (by assumption)
  k_with "execs cons" => (k_here; (with_reducible refine wpAny_execs_cons ?_); (try dsimp only))
  k_with "execs nil" => (k_here; (with_reducible refine wpAny_execs_nil ?_); (try dsimp only))
  k_with "binaryOp Mod int int" => (k_here; (with_reducible show wpAny _ _ (binaryOp Operator.Mod (Value.int _ _) (Value.int _ _)) _ _ _); k_dflt (refine mod_abs (by decide) ?_); intro _ _ _ _ _)
  k_with "compareOp Eq ref ref" => (k_here; (with_reducible show wpAny _ _ (compareOp CmpOp.Eq (Value.ref _) (Value.ref _)) _ _ _); k_dflt (refine eq_nums (by assumption) (News.isList (by k_asm) (by k_mem)) (News.isList (by k_asm) (by k_mem)) (Nat.le_of_ble_eq_true rfl) ?_))
  k_with "subscriptTail" => (k_here; (with_reducible show wpAny _ _ (subscriptTail _ _ (Value.ref _) (Value.int 0 _)) _ _ _); k_dflt (refine item_first (News.isList (by k_asm) (by k_mem)) ?_))
  k_with "eval ListComp" => (refine halt ?_)
  trivial
theorem rest_c {w : World} {mg mb : Str → Option Value} {b : Heap} {L f : Addr} {cd : Value} {s : Shared} {la lw lR lfr lS : Addr} {l0 l1 l2 l3 l4 w0 w1 w2 w3 w4 f0 f1 : Str} {a0 a1 a2 a3 a4 b0 b1 b2 b3 b4 u0 u1 tW tT : Tok} {na nb nf nS nR : Nat} {W tot : Int} {zs : List (Int × Tok)} {c1 c2 c3 q1 q2 : Obj} {rs : List Rg} {m0 v0 : Str → Option Value} {Q : Flow → Shared → Prop}
    (B : Base w mg mb b) (hB : AllBare s.gens) (tq1 : TabO q1) (tq2 : TabO q2) (I : Items [(l0, w0), (l1, w1), (l2, w2), (l3, w3), (l4, w4)]) (hfr : (f0, f1) ∈ frames)
    (F : Fr b L s.heap (fun z => if z = Str.ofString "starts" then v0 z else if z = Str.ofString "low" then v0 z else if z = Str.ofString "high" then v0 z else if z = Str.ofString "width" then some (.int W tW) else if z = Str.ofString "rungs" then some (.ref lR) else if z = Str.ofString "frame" then some (.ref lfr) else if z = Str.ofString "sizes" then some (.ref lS) else if z = Str.ofString "total" then some (.int tot tT) else m0 z))
    (N : News b L s.heap ((lR, listOf (rgVals rs).toArray nR) :: (176, q1) :: (183, q2) :: (lfr, ({ cls := .type "tuple", data := .seq #[.str f0 u0, .str f1 u1] nf } : Obj)) :: (lS, listOf (intValues zs).toArray nS) :: (L + 1 + 1 + 1, c3) :: (L + 1 + 1, c2) :: (L + 1, c1) :: (la, five l0 l1 l2 l3 l4 a0 a1 a2 a3 a4 na) :: (lw, five w0 w1 w2 w3 w4 b0 b1 b2 b3 b4 nb) :: rgTups rs))
    (k1 : c1.data = .cell (some (.ref la))) (k2 : c2.data = .cell (some (.ref lw))) (k3 : c3.data = .cell none)
    (hlt : @LT.lt Nat _ la lR ∧ @LT.lt Nat _ lw lR ∧ @LT.lt Nat _ lfr lR ∧ @LT.lt Nat _ lS lR ∧ @LT.lt Nat _ 176 lR ∧ @LT.lt Nat _ 183 lR ∧ @LT.lt Nat _ (L + 1 + 1 + 1) lR) (hne : @Ne Nat la lw) (hc3 : NeA la (L + 1 + 1 + 1) ∧ NeA lw (L + 1 + 1 + 1) ∧ NeA lfr (L + 1 + 1 + 1) ∧ NeA lS (L + 1 + 1 + 1) ∧ NeA 176 (L + 1 + 1 + 1) ∧ NeA 183 (L + 1 + 1 + 1)) (o2 : OffL (L + 1 + 1 + 1) (rgTups rs))
    (hsp : ∀ x ∈ [l1, l2, l3, l4], x.cps[0]? = some 32) (hW : W ≤ -1000) (hL : Ladder [(l0, w0), (l1, w1), (l2, w2), (l3, w3), (l4, w4)] W (rgPairs rs)) (hsl : ∀ r ∈ rs, r.sl.map (·.1) = (startsFrom 0 r.rows).map Int.ofNat) (hlen : rs.length ≤ 2000)
    (hret : ∀ h tk gn, St b { s with heap := h, toks := tk, gens := gn } → Q (.ret (.bool true)) { s with heap := h, toks := tk, gens := gn }) :
    wpAny (model pw w) (lawA w L f cd) (execs ((lawB w).drop 7) (lawE w L f cd)) Q (fun _ _ => False) s := by
  obtain ⟨lt1, lt2, lt3, lt4, lt5, lt6, lt7⟩ := hlt
  obtain ⟨e1, e2, e3, e4, e5, e6⟩ := hc3
  have X : (K9 w.params).In b := B.K
  have T : TopRead view lo mg mb b := B.T
  unfold lawA lawE lawB bodyAt lawS scopeAt
  dsimp only [List.drop_succ_cons, List.drop_zero, List.drop]
  k_steps
  rename_i r tR kR hr0 hr1 hD o3 F4 N4 d3
  obtain ⟨V, hV⟩ : ∃ V, r - 5 = V := ⟨_, rfl⟩
  rw [hV] at d3
  obtain ⟨tV, d3⟩ : ∃ tV, o3.data = .cell (some (.int V tV)) := ⟨_, d3⟩
  obtain ⟨lo, hfind⟩ := hL.above V (by (first | lia | omega)) (by (first | lia | omega))
  obtain ⟨rg, rg', hhead, hrm, hrr⟩ := lowRg_head hfind
  unfold Halt
  refine comp_pt F4 (by with_unfolding_all rfl) (by decide) rfl (by decide) rfl rfl (by decide) ?_
  k_steps
  refine ⟨lR, (rgVals rs).toArray, nR, _, fun i => (rs[i]?.map fun r => Value.int r.lo r.t).getD .none, fun i => (rs[i]?.map fun r => Value.ref r.D).getD .none, fun i ys => ys = (lowRg V (rs.take i)).map fun r => Value.ref r.D, rfl, rfl, F4, N4, by k_mem, ?_, fun i hi => ?_, rfl, fun i ys I oI C oC D m₂ h tk E' hi hR hC ha hb2 Ft Nt' hlt hID => ?_, fun D h tk ys Ft Nt' hlt hR => ?_⟩
  · simp [rgVals, show sizeLine = 16777216 from rfl]; (first | lia | omega)
  · have hn : i < rs.length := by simpa [rgVals] using hi
    refine ⟨rs[i].T, 0, by simp [rgVals, hn], ?_⟩
    dsimp only
    rw [List.getElem?_eq_getElem hn]
    have hm : (rs[i].T, ({ cls := .type "tuple", data := .seq #[.int rs[i].lo rs[i].t, .ref rs[i].D] } : Obj)) ∈ rgTups rs := List.mem_flatMap.mpr ⟨rs[i], List.getElem_mem hn, List.mem_cons_self ..⟩
    exact .tail _ (.tail _ (.tail _ (.tail _ (.tail _ (.tail _ (.tail _ (.tail _ (.tail _ (.tail _ hm)))))))))
  · have hn : i < rs.length := by simpa [rgVals] using hi
    have hnx : lowRg V (rs.take (i + 1)) = lowRg V (rs.take i) ++ if rs[i].lo ≤ V then [rs[i]] else [] := by
      unfold lowRg
      rw [List.take_add_one, List.getElem?_eq_getElem hn, List.filter_append]
      congr 1
      simp only [Option.toList, List.filter_cons, List.filter_nil, decide_eq_true_eq]
    dsimp only at ha hb2
    rw [List.getElem?_eq_getElem hn] at ha hb2
    dsimp only [Option.map_some, Option.getD_some] at ha hb2
    obtain ⟨ri, hri⟩ : ∃ x, rs[i] = x := ⟨_, rfl⟩
    rw [hri] at ha hb2 hnx
    refine wp_halt ?_
    k_steps
    refine Stop.mk ⟨⟨_, _, rfl, by assumption, by assumption⟩, ?_⟩
    by_cases h1 : ri.lo ≤ V
    · rw [if_pos (decide_eq_true (by (first | lia | omega)))]
      refine wp_halt ?_
      k_steps
      refine Stop.mk ⟨⟨_, _, rfl, by assumption, by assumption⟩, ?_⟩
      dsimp only
      rw [hR, hnx, if_pos h1, List.map_append]; rfl
    · rw [if_neg (by simp; (first | lia | omega))]
      dsimp only
      rw [hR, hnx, if_neg h1, List.append_nil]
  · have hR : ys = Value.ref rg.D :: rg'.map fun r => Value.ref r.D := by
      rw [hR, List.take_of_length_le (by simp [rgVals]), hhead]; rfl
    subst hR
    clear F4 N4
    k_steps
    rename Fr _ _ _ _ => F5
    rename News _ _ _ _ => N5
    have hrgm : (rg.D, listOf (intValues rg.sl).toArray rg.n) ∈ rgTups rs := List.mem_flatMap.mpr ⟨rg, hrm, List.mem_cons_of_mem _ (List.mem_cons_self ..)⟩
    have S5 : ∀ k, St b { s with heap := _, toks := k } := fun k => ⟨F5.keep, ⟨q1, N5.get (by k_mem), tq1⟩, ⟨q2, N5.get (by k_mem), tq2⟩, hB⟩
    refine lift (fold_c B (S5 _) (N5.get (show (la, five l0 l1 l2 l3 l4 a0 a1 a2 a3 a4 na) ∈ _ by k_mem)) (N5 (la, _) (by k_mem)).2.2 (N5.get (show (lw, five w0 w1 w2 w3 w4 b0 b1 b2 b3 b4 nb) ∈ _ by k_mem)) (N5 (lw, _) (by k_mem)).2.2 (N5.get (show (lfr, ({ cls := .type "tuple", data := .seq #[.str f0 u0, .str f1 u1] nf } : Obj)) ∈ _ by k_mem)) (N5 (lfr, _) (by k_mem)).2.2 hne hsp (fold_facts I hfr V) (fun h6 gn6 tk6 D6 sl6 n6 bt6 S6 fD6 gD6 esl6 => ?_)) rfl (by with_unfolding_all exact Nat.le_of_ble_eq_true rfl) (by with_unfolding_all exact Nat.le_of_ble_eq_true rfl) rfl rfl
    obtain ⟨F6, N6⟩ := after_tab F5 N5 bt6 (show ((176 : Nat), q1) ∈ _ by k_mem) tq1 (show ((183 : Nat), q2) ∈ _ by k_mem) tq2
    have hDL : D6 ≠ L := fun e => by
      obtain ⟨o, _, _, e1, _⟩ := F5.ns
      rw [e, e1] at fD6; cases fD6
    obtain ⟨r1, hr1, tr1⟩ := S6.t1
    obtain ⟨r2, hr2, tr2⟩ := S6.t2
    have hB6 := S6.gb
    have N7 : News b L h6 [(D6, listOf (intValues sl6).toArray n6), (176, r1), (183, r2), (rg.D, listOf (intValues rg.sl).toArray rg.n)] := fa_cons ⟨gD6, hDL, none_of_sub F5.keep fD6⟩ (fa_cons ⟨hr1, (N5 (176, q1) (by k_mem)).2⟩ (fa_cons ⟨hr2, (N5 (183, q2) (by k_mem)).2⟩ (fa_cons (N6 _ (by repeat (first | exact hrgm | refine .tail _ ?_)) fun v e => nomatch e) fa_nil)))
    have heq : sl6.map (·.1) = rg.sl.map (·.1) := by rw [esl6, hsl rg hrm, hrr]
    clear F5 N5 N6 S5
    k_steps
    rename Fr _ _ _ _ => F7
    rename News _ _ _ _ => N8
    exact hret _ _ _ ⟨F7.keep, ⟨r1, N8.get (by k_mem), tr1⟩, ⟨r2, N8.get (by k_mem), tr2⟩, hB6⟩
end Mine
end
section
open PySem PySem.W PyProof.Rows PySem.Calls PySem.Spec
set_option maxRecDepth 100000
set_option maxHeartbeats 2000000
set_option pp.deepTerms false
set_option pp.maxSteps 20000
namespace Mine
theorem dummyJ4 : True := by
  k_with_none
  w_top off
  k_with "lt8" => with_reducible first | assumption | exact And.left (by assumption) | exact And.left (And.right (by assumption)) | exact And.left (And.right (And.right (by assumption))) | exact And.left (And.right (And.right (And.right (by assumption)))) | exact And.left (And.right (And.right (And.right (And.right (by assumption))))) | exact And.left (And.right (And.right (And.right (And.right (And.right (by assumption)))))) | exact And.left (And.right (And.right (And.right (And.right (And.right (And.right (by assumption))))))) | exact And.left (And.right (And.right (And.right (And.right (And.right (And.right (And.right (by assumption)))))))) | exact And.left (And.right (And.right (And.right (And.right (And.right (And.right (And.right (And.right (by assumption))))))))) | exact And.left (And.right (And.right (And.right (And.right (And.right (And.right (And.right (And.right (And.right (by assumption)))))))))) | exact And.left (And.right (And.right (And.right (And.right (And.right (And.right (And.right (And.right (And.right (And.right (by assumption))))))))))) | exact And.left (And.right (And.right (And.right (And.right (And.right (And.right (And.right (And.right (And.right (And.right (And.right (by assumption)))))))))))) | exact And.left (And.right (And.right (And.right (And.right (And.right (And.right (And.right (And.right (And.right (And.right (And.right (And.right (by assumption)))))))))))))
  k_with "lt9" => first | exact Nat.ne_of_lt (by walk_at "lt8") | exact Nat.ne_of_gt (by walk_at "lt8")
  trivial
theorem lead_cs {z : Str} (h : LeadOk z) : (∀ c ∈ cs z, c = 32) ∧ z.length ≤ 2 ∧ cs z ≠ [] ∧ z.cps[0]? = some 32 := by
  obtain ⟨q, h1, h2, e⟩ := h
  refine ⟨fun c hc => by rw [e] at hc; exact (List.mem_replicate.mp hc).2, by rw [← cs_len, e, List.length_replicate]; exact h2, fun h => ?_, ?_⟩
  · rw [e] at h
    have := congrArg List.length h
    rw [List.length_replicate] at this
    simp at this; (first | lia | omega)
  · rw [← Array.getElem?_toList, show z.cps.toList = List.replicate q 32 from e, List.getElem?_replicate, if_pos (by (first | lia | omega))]
theorem items_of {l1 l2 l3 l4 w0 w1 w2 w3 w4 : Str} (hl : LeadOk l1 ∧ LeadOk l2 ∧ LeadOk l3 ∧ LeadOk l4) (hw : WdOk w0 ∧ WdOk w1 ∧ WdOk w2 ∧ WdOk w3 ∧ WdOk w4) :
    Items [(Str.ofString "", w0), (l1, w1), (l2, w2), (l3, w3), (l4, w4)] ∧ (∀ x ∈ [l1, l2, l3, l4], x.cps[0]? = some 32) ∧ rowSz [(Str.ofString "", w0), (l1, w1), (l2, w2), (l3, w3), (l4, w4)] ≤ 999 := by
  obtain ⟨h1, h2, h3, h4⟩ := hl
  obtain ⟨g0, g1, g2, g3, g4⟩ := hw
  have e0 : cs (Str.ofString "") = [] := by decide +kernel
  have n0 : (Str.ofString "").length = 0 := by decide +kernel
  have t1 := lead_cs h1
  have t2 := lead_cs h2
  have t3 := lead_cs h3
  have t4 := lead_cs h4
  refine ⟨⟨?_, ?_, rfl, ?_⟩, fa_cons t1.2.2.2 (fa_cons t2.2.2.2 (fa_cons t3.2.2.2 (fa_cons t4.2.2.2 fa_nil))), ?_⟩
  · exact fa_cons ⟨fun c hc => (by rw [e0] at hc; cases hc), g0.1, g0.2.1⟩ (fa_cons ⟨t1.1, g1.1, g1.2.1⟩ (fa_cons ⟨t2.1, g2.1, g2.2.1⟩ (fa_cons ⟨t3.1, g3.1, g3.2.1⟩ (fa_cons ⟨t4.1, g4.1, g4.2.1⟩ fa_nil))))
  · exact fa_cons ⟨by rw [n0]; decide, g0.2.2⟩ (fa_cons ⟨t1.2.1, g1.2.2⟩ (fa_cons ⟨t2.2.1, g2.2.2⟩ (fa_cons ⟨t3.2.1, g3.2.2⟩ (fa_cons ⟨t4.2.1, g4.2.2⟩ fa_nil))))
  · exact fa_cons t1.2.2.1 (fa_cons t2.2.2.1 (fa_cons t3.2.2.1 (fa_cons t4.2.2.1 fa_nil)))
  · have b0 := g0.2.2
    have b1 := g1.2.2
    have b2 := g2.2.2
    have b3 := g3.2.2
    have b4 := g4.2.2
    have d1 := t1.2.1
    have d2 := t2.2.1
    have d3 := t3.2.1
    have d4 := t4.2.1
    simp only [rowSz, List.map_cons, List.map_nil, List.sum_cons, List.sum_nil, prSz, n0]
    (first | lia | omega)
theorem withJ4x40 : True := by
  k_with_none
  w_top off
  k_with "lt8" => with_reducible first | assumption | exact And.left (by assumption) | exact And.left (And.right (by assumption)) | exact And.left (And.right (And.right (by assumption))) | exact And.left (And.right (And.right (And.right (by assumption)))) | exact And.left (And.right (And.right (And.right (And.right (by assumption))))) | exact And.left (And.right (And.right (And.right (And.right (And.right (by assumption)))))) | exact And.left (And.right (And.right (And.right (And.right (And.right (And.right (by assumption))))))) | exact And.left (And.right (And.right (And.right (And.right (And.right (And.right (And.right (by assumption)))))))) | exact And.left (And.right (And.right (And.right (And.right (And.right (And.right (And.right (And.right (by assumption))))))))) | exact And.left (And.right (And.right (And.right (And.right (And.right (And.right (And.right (And.right (And.right (by assumption)))))))))) | exact And.left (And.right (And.right (And.right (And.right (And.right (And.right (And.right (And.right (And.right (And.right (by assumption))))))))))) | exact And.left (And.right (And.right (And.right (And.right (And.right (And.right (And.right (And.right (And.right (And.right (And.right (by assumption)))))))))))) | exact And.left (And.right (And.right (And.right (And.right (And.right (And.right (And.right (And.right (And.right (And.right (And.right (And.right (by assumption)))))))))))))
  k_with "lt9" => first | exact Nat.ne_of_lt (by walk_at "lt8") | exact Nat.ne_of_gt (by walk_at "lt8")
  k_with "execs cons" => (k_here; (with_reducible refine wpAny_execs_cons ?_); (try dsimp only))
  k_with "exec While Compare" => (refine halt ?_)
  k_with "exec While" => (refine halt ?_)
  trivial
theorem mid_c {w : World} {mg mb : Str → Option Value} {b : Heap} {L f : Addr} {cd : Value} {s : Shared} {la lw lfr lS : Addr} {l0 l1 l2 l3 l4 w0 w1 w2 w3 w4 f0 f1 : Str} {a0 a1 a2 a3 a4 b0 b1 b2 b3 b4 u0 u1 tT : Tok} {na nb nf nS : Nat} {tot : Int} {zs : List (Int × Tok)} {c1 c2 c3 q1 q2 : Obj} {m0 : Str → Option Value} {Q : Flow → Shared → Prop}
    (B : Base w mg mb b) (hB : AllBare s.gens) (tq1 : TabO q1) (tq2 : TabO q2) (I : Items [(l0, w0), (l1, w1), (l2, w2), (l3, w3), (l4, w4)]) (hfr : (f0, f1) ∈ frames)
    (F : Fr b L s.heap (fun z => if z = Str.ofString "frame" then some (.ref lfr) else if z = Str.ofString "sizes" then some (.ref lS) else if z = Str.ofString "total" then some (.int tot tT) else m0 z))
    (N : News b L s.heap ((176, q1) :: (183, q2) :: (lfr, ({ cls := .type "tuple", data := .seq #[.str f0 u0, .str f1 u1] nf } : Obj)) :: (lS, listOf (intValues zs).toArray nS) :: (L + 1 + 1 + 1, c3) :: (L + 1 + 1, c2) :: (L + 1, c1) :: (la, five l0 l1 l2 l3 l4 a0 a1 a2 a3 a4 na) :: (lw, five w0 w1 w2 w3 w4 b0 b1 b2 b3 b4 nb) :: []))
    (k1 : c1.data = .cell (some (.ref la))) (k2 : c2.data = .cell (some (.ref lw))) (k3 : c3.data = .cell none) (hne : @Ne Nat la lw)
    (hc3 : NeA la (L + 1 + 1 + 1) ∧ NeA lw (L + 1 + 1 + 1) ∧ NeA lfr (L + 1 + 1 + 1) ∧ NeA lS (L + 1 + 1 + 1) ∧ NeA 176 (L + 1 + 1 + 1) ∧ NeA 183 (L + 1 + 1 + 1))
    (hsp : ∀ x ∈ [l1, l2, l3, l4], x.cps[0]? = some 32) (hzs : zs.map (·.1) = [(l0, w0), (l1, w1), (l2, w2), (l3, w3), (l4, w4)].map prSz) (hsum : rowSz [(l0, w0), (l1, w1), (l2, w2), (l3, w3), (l4, w4)] ≤ 999)
    (hret : ∀ h tk gn, St b { s with heap := h, toks := tk, gens := gn } → Q (.ret (.bool true)) { s with heap := h, toks := tk, gens := gn }) :
    wpAny (model pw w) (lawA w L f cd) (execs ((lawB w).drop 4) (lawE w L f cd)) Q (fun _ _ => False) s := by
  have X : (K9 w.params).In b := B.K
  have T : TopRead view lo mg mb b := B.T
  unfold lawA lawE lawB bodyAt lawS scopeAt
  dsimp only [List.drop_succ_cons, List.drop_zero, List.drop]
  k_steps
  rename Fr _ _ _ _ => F1
  rename News _ _ _ _ => N1
  rename_i lR hA ltR hC hX
  obtain ⟨j1, j2, j3, j4, j5, j6, j7, j8, j9⟩ := ltR
  unfold Halt
  refine loop_c (nR := 0) (rs := []) (W := 0) B hB tq1 tq2 I hfr (as_three' F1 fun _ _ _ _ => rfl) N1 k1 k2 k3 ⟨by (first | lia | omega), by (first | lia | omega), by (first | lia | omega), by (first | lia | omega), by (first | lia | omega), by (first | lia | omega), by (first | lia | omega)⟩ hne hsp hzs hsum (fun h2 tk2 gn2 p1 p2 rs m2 tW2 nR2 W2 hB2 tp1 tp2 F2 hm2 N2 o2 hW2 hL2 hsl2 hlen2 => ?_)
  dsimp only
  exact rest_c (s := { s with heap := h2, toks := tk2, gens := gn2 }) B hB2 tp1 tp2 I hfr (as_three' F2 hm2) N2 k1 k2 k3 ⟨by (first | lia | omega), by (first | lia | omega), by (first | lia | omega), by (first | lia | omega), by (first | lia | omega), by (first | lia | omega), by (first | lia | omega)⟩ hne hc3 o2 hsp hW2 hL2 hsl2 hlen2 fun h tk gn hk => hret h tk gn hk
end Mine
end
section
open PySem PySem.W PyProof.Rows PySem.Calls PySem.Spec
set_option maxRecDepth 100000
set_option maxHeartbeats 2000000
set_option pp.deepTerms false
set_option pp.maxSteps 20000
namespace Mine
theorem dummyJ5 : True := by
  k_with_none
  w_top off
  k_with "lt8" => with_reducible first | assumption | exact And.left (by assumption) | exact And.left (And.right (by assumption)) | exact And.left (And.right (And.right (by assumption))) | exact And.left (And.right (And.right (And.right (by assumption)))) | exact And.left (And.right (And.right (And.right (And.right (by assumption))))) | exact And.left (And.right (And.right (And.right (And.right (And.right (by assumption)))))) | exact And.left (And.right (And.right (And.right (And.right (And.right (And.right (by assumption))))))) | exact And.left (And.right (And.right (And.right (And.right (And.right (And.right (And.right (by assumption)))))))) | exact And.left (And.right (And.right (And.right (And.right (And.right (And.right (And.right (And.right (by assumption))))))))) | exact And.left (And.right (And.right (And.right (And.right (And.right (And.right (And.right (And.right (And.right (by assumption)))))))))) | exact And.left (And.right (And.right (And.right (And.right (And.right (And.right (And.right (And.right (And.right (And.right (by assumption))))))))))) | exact And.left (And.right (And.right (And.right (And.right (And.right (And.right (And.right (And.right (And.right (And.right (And.right (by assumption)))))))))))) | exact And.left (And.right (And.right (And.right (And.right (And.right (And.right (And.right (And.right (And.right (And.right (And.right (And.right (by assumption)))))))))))))
  k_with "lt9" => first | exact Nat.ne_of_lt (by walk_at "lt8") | exact Nat.ne_of_gt (by walk_at "lt8")
  trivial
theorem withJ5x41 : True := by
  k_with_none
  w_top off
  k_with "lt8" => with_reducible first | assumption | exact And.left (by assumption) | exact And.left (And.right (by assumption)) | exact And.left (And.right (And.right (by assumption))) | exact And.left (And.right (And.right (And.right (by assumption)))) | exact And.left (And.right (And.right (And.right (And.right (by assumption))))) | exact And.left (And.right (And.right (And.right (And.right (And.right (by assumption)))))) | exact And.left (And.right (And.right (And.right (And.right (And.right (And.right (by assumption))))))) | exact And.left (And.right (And.right (And.right (And.right (And.right (And.right (And.right (by assumption)))))))) | exact And.left (And.right (And.right (And.right (And.right (And.right (And.right (And.right (And.right (by assumption))))))))) | exact And.left (And.right (And.right (And.right (And.right (And.right (And.right (And.right (And.right (And.right (by assumption)))))))))) | exact And.left (And.right (And.right (And.right (And.right (And.right (And.right (And.right (And.right (And.right (And.right (by assumption))))))))))) | exact And.left (And.right (And.right (And.right (And.right (And.right (And.right (And.right (And.right (And.right (And.right (And.right (by assumption)))))))))))) | exact And.left (And.right (And.right (And.right (And.right (And.right (And.right (And.right (And.right (And.right (And.right (And.right (And.right (by assumption)))))))))))))
  k_with "lt9" => first | exact Nat.ne_of_lt (by walk_at "lt8") | exact Nat.ne_of_gt (by walk_at "lt8")
  k_with "k_ne" => (refine neN ?_; (try dsimp only); first | exact NeA.h (by assumption) | exact Ne.symm (NeA.h (by assumption)) | walk_at "lt9" | lia | omega)
  k_with "execs cons" => (k_here; (with_reducible refine wpAny_execs_cons ?_); (try dsimp only))
  k_with "call builtin:sum" => (k_here; (with_reducible show wpAny _ _ (call (Value.builtin "sum") [Value.ref _]) _ _ _); k_dflt (refine' sumK ?kw9k0 ?kw9k1 ?kw9k2 ?kw9k3 ?kw9k4 ?_; (case kw9k0 => rfl); (case kw9k1 => k_asm); (case kw9k2 => k_asm); (case kw9k3 => (refine Heap.IsList.at (by assumption) fun o e => Fr.keep (by assumption) _ o e)); (case kw9k4 => assumption); k_whole); intro _ _ _ _ _)
  trivial
theorem swap_m {g h : Heap} {L lfr lS : Addr} {tot : Int} {tT : Tok} {M : Str → Option Value} (F : Fr g L h (fun y => if y = Str.ofString "frame" then some (.ref lfr) else if y = Str.ofString "total" then some (.int tot tT) else if y = Str.ofString "sizes" then some (.ref lS) else M y)) :
    Fr g L h (fun z => if z = Str.ofString "frame" then some (.ref lfr) else if z = Str.ofString "sizes" then some (.ref lS) else if z = Str.ofString "total" then some (.int tot tT) else M z) := by
  have e : (fun z => if z = Str.ofString "frame" then some (Value.ref lfr) else if z = Str.ofString "sizes" then some (.ref lS) else if z = Str.ofString "total" then some (.int tot tT) else M z) = (fun y => if y = Str.ofString "frame" then some (.ref lfr) else if y = Str.ofString "total" then some (.int tot tT) else if y = Str.ofString "sizes" then some (.ref lS) else M y) := funext fun z => by
    by_cases h1 : z = Str.ofString "frame"
    · rw [if_pos h1, if_pos h1]
    · rw [if_neg h1, if_neg h1]
      by_cases h2 : z = Str.ofString "sizes"
      · have h3 : ¬ z = Str.ofString "total" := fun h3 => absurd (h2.symm.trans h3) (by decide +kernel)
        rw [if_pos h2, if_neg h3, if_pos h2]
      · rw [if_neg h2, if_neg h2]
  rw [e]; exact F
section
variable {prog : Program} {w : World} {A : Around} {h₀ : Heap} {L : Addr} {m : Str → Option Value} {env : Env} {elt : Expr} {x : Str} {scope : Scope} {cl : List (Str × Addr)} {s : Shared} {Fin : List Value → List (Addr × Obj) → Prop} {news : List (Addr × Obj)} {a : Int}
/- a comprehension over a range whose element is a number -/
theorem int_range {n : Nat} (g : Nat → Int)
    (turn : ∀ i t I oI C oC D ys m₂ h tk (E' : Value → Shared → Prop), i < n → LCg.NsObj oC m₂ → m₂ x = some (.int (a + (i : Int)) t) → Fr h₀ L h m → News h₀ L h ((I, oI) :: (C, oC) :: (D, LCg.lst ys) :: news) →
      wpAny (model prog w) A (eval elt (compEnvC scope cl C env)) (fun y s' => Stop ((∃ t', y = .int (g i) t') ∧ ∃ tk', s' = { s with heap := h, toks := tk' })) E' { s with heap := h, toks := tk })
    (fin : ∀ l : List (Int × Tok), l.map (·.1) = (List.range n).map g → Fin (intValues l) news) :
    LCg.CompRest prog w A h₀ L m env elt x scope cl s (fun _ => True) (fun i v => ∃ t, v = .int (a + (i : Int)) t) Fin n 0 [] news := by
  have key : ∀ (j i : Nat) (l : List (Int × Tok)), i + j = n → l.map (·.1) = (List.range i).map g → LCg.CompRest prog w A h₀ L m env elt x scope cl s (fun _ => True) (fun i v => ∃ t, v = .int (a + (i : Int)) t) Fin j i (intValues l) news := by
    intro j
    induction j with
    | zero =>
      intro i l hi hl
      have e : i = n := by (first | lia | omega)
      subst e
      exact LCg.CompRest.zero (fin l hl)
    | succ j ih =>
      intro i l hi hl
      refine LCg.CompRest.succ ?_
      intro v I oI C oC D m₂ h tk E' hv hC hx F N off ne
      obtain ⟨t, rfl⟩ := hv
      refine wpAny_mono (turn i t I oI C oC D _ m₂ h tk E' (by (first | lia | omega)) hC hx F N) (fun y s₂ hq => ?_) fun _ _ e => e
      obtain ⟨⟨⟨t', rfl⟩, tk', e⟩⟩ := hq
      refine ⟨h, tk', news, e, F, N, off, trivial, ?_⟩
      have e2 : intValues l ++ [.int (g i) t'] = intValues (l ++ [(g i, t')]) := by simp [intValues]
      dsimp only
      rw [e2]
      exact ih (i + 1) _ (by (first | lia | omega)) (by rw [List.map_append, hl, List.range_succ, List.map_append]; rfl)
  exact key n 0 [] (by (first | lia | omega)) rfl
end
section
variable {prog : Program} {w : World} {A : Around} {E : Value → Shared → Prop} {s : Shared} {value slice : PySem.Expr} {l : Addr} {u : Tok} {v : Value} {xs : Array Value} {n k : Nat} {h₀ : Heap} {L : Addr} {news : List (Addr × Obj)} {Q : Value → Shared → Prop}
theorem item_k (N : News h₀ L s.heap news) (hm : (l, listOf xs n) ∈ news) (e : xs[k]? = some v) (hk : k < 5) (h : Q v s) (hs : subscripted slice false (.ref l) (.int (0 + (k : Int)) u) = operate [.ref l, .int (0 + (k : Int)) u] (getItem (.ref l) (.int (0 + (k : Int)) u)) := by with_unfolding_all rfl) :
    wpAny (model prog w) A (subscriptTail value slice (.ref l) (.int (0 + (k : Int)) u)) Q E s :=
  tail_any (News.isList N hm).typeIs slot_list_getitem.lookup (wpAny_getItem_list (News.isList N hm) (by (first | lia | omega)) (by (first | lia | omega)) (x := v) (by simpa using e) h) hs
end
theorem withJ5x42 : True := by
  k_with "CompSrc" => (refine halt ?_)
  k_with "subscriptTail" => (k_here; (with_reducible show wpAny _ _ (subscriptTail _ _ (Value.ref _) (Value.int (0 + _) _)) _ _ _); k_dflt (refine item_k (by k_asm) (by k_mem) (by assumption) (by assumption) ?_))
  k_with "eval Name" => (k_here; (with_reducible show wpAny _ _ (eval (Expr.Name (Str.ofString "len") _) (compEnvC _ _ _ _)) _ _ _); k_dflt (refine ld_bR (by k_asm) (by k_asm) (by k_asm) (by k_is) (by boot_by_name) (by decide) ?_))
  k_with "call builtin:len" => (k_here; (with_reducible show wpAny _ _ (call (Value.builtin "len") [Value.str _ _]) _ _ _); k_dflt (refine len_str (by omega) ?_))
  k_with "execs cons Assign cons" => (k_here; (with_reducible show wpAny _ _ (execs (Stmt.Assign [Expr.Name (Str.ofString "rungs") _] _ _ :: _) _) _ _ _); refine halt ?_)
  k_with "execs cons" => (k_here; (with_reducible show wpAny _ _ (execs (Stmt.Assign [Expr.Name (Str.ofString "rungs") _] _ _ :: _) _) _ _ _); refine halt ?_)
  trivial
theorem head_c {w : World} {mg mb : Str → Option Value} {b : Heap} {L f : Addr} {cd : Value} {s : Shared} {sc : Addr} {vs : List Value} {ns : List Int} {c1 c2 c3 q1 q2 : Obj} {m0 : Str → Option Value} {Q : Flow → Shared → Prop}
    (B : Base w mg mb b) (hB : AllBare s.gens) (tq1 : TabO q1) (tq2 : TabO q2) (hsc : b.IsList sc vs.toArray) (hI : IntsAre vs ns) (hlen : ns.length ≤ 63)
    (F : Fr b L s.heap (fun z => if z = Str.ofString "script" then some (.ref sc) else m0 z))
    (N : News b L s.heap [(L + 1 + 1 + 1, c3), (L + 1 + 1, c2), (L + 1, c1), (176, q1), (183, q2)])
    (k1 : c1.data = .cell none) (k2 : c2.data = .cell none) (k3 : c3.data = .cell none) (hlt : @LT.lt Nat _ 176 L ∧ @LT.lt Nat _ 183 L)
    (hret : ∀ h tk gn, St b { s with heap := h, toks := tk, gens := gn } → Q (.ret (.bool true)) { s with heap := h, toks := tk, gens := gn }) :
    wpAny (model pw w) (lawA w L f cd) (execs (lawB w) (lawE w L f cd)) Q (fun _ _ => False) s := by
  have X : (K9 w.params).In b := B.K
  have T : TopRead view lo mg mb b := B.T
  obtain ⟨lt1, lt2⟩ := hlt
  unfold lawA lawE lawB bodyAt lawS scopeAt
  k_steps
  rename Fr _ _ _ _ => F1
  rename News _ _ _ _ => N1
  refine lift (flags_c B F1.keep hsc hI hlen (fun h2 tk2 T2 la lw l1 l2 l3 l4 w0 w1 w2 w3 w4 a0 a1 a2 a3 a4 b0 b1 b2 b3 b4 na nb bt2 fT fla flw gT gla glw hne hlok hwok => ?_)) rfl (by with_unfolding_all exact Nat.le_of_ble_eq_true rfl) (by with_unfolding_all exact Nat.le_of_ble_eq_true rfl) rfl rfl
  have ne := fun (p : Addr × Obj) (hp : p ∈ [((L + 1 + 1 + 1 : Nat), c3), (L + 1 + 1, c2), (L + 1, c1), (176, q1), (183, q2)]) (a : Addr) (ha : s.heap.get? a = none) => (⟨ne_of_none (N1 p hp).1 ha⟩ : NeA p.1 a)
  have n11 : NeA (L + 1 + 1 + 1) T2 := ne (_, c3) (by k_mem) _ fT
  have n12 : NeA (L + 1 + 1) T2 := ne (_, c2) (by k_mem) _ fT
  have n13 : NeA (L + 1) T2 := ne (_, c1) (by k_mem) _ fT
  have n21 : NeA (L + 1 + 1 + 1) la := ne (_, c3) (by k_mem) _ fla
  have n22 : NeA (L + 1 + 1) la := ne (_, c2) (by k_mem) _ fla
  have n23 : NeA (L + 1) la := ne (_, c1) (by k_mem) _ fla
  have n31 : NeA (L + 1 + 1 + 1) lw := ne (_, c3) (by k_mem) _ flw
  have n32 : NeA (L + 1 + 1) lw := ne (_, c2) (by k_mem) _ flw
  have n33 : NeA (L + 1) lw := ne (_, c1) (by k_mem) _ flw
  obtain ⟨F2, N2⟩ := after_new (add := [(T2, { cls := .type "tuple", data := .seq #[.ref la, .ref lw] }), (la, five (Str.ofString "") l1 l2 l3 l4 a0 a1 a2 a3 a4 na), (lw, five w0 w1 w2 w3 w4 b0 b1 b2 b3 b4 nb)]) F1 N1 bt2 (fa_cons ⟨gT, fT⟩ (fa_cons ⟨gla, fla⟩ (fa_cons ⟨glw, flw⟩ fa_nil)))
  dsimp only [List.cons_append, List.nil_append] at N2
  clear F1 N1 gT gla glw ne
  have y0 := hwok.1.2.2
  have y1 := hwok.2.1.2.2
  have y2 := hwok.2.2.1.2.2
  have y3 := hwok.2.2.2.1.2.2
  have y4 := hwok.2.2.2.2.2.2
  have z1 := (lead_cs hlok.1).2.1
  have z2 := (lead_cs hlok.2.1).2.1
  have z3 := (lead_cs hlok.2.2.1).2.1
  have z4 := (lead_cs hlok.2.2.2).2.1
  have KI := items_of hlok hwok
  clear hlok hwok
  k_steps
  rename Fr _ _ _ _ => F8
  rename News _ _ _ _ => N8
  rename IsRange _ _ _ _ _ _ _ _ => hR8
  unfold Halt
  refine LCg.CompSrc.range (n := 5) rfl F8 N8 hR8 (by decide) rfl (Nat.le_of_ble_eq_true rfl) (fun g' => int_range (fun q => ([((Str.ofString ""), w0), (l1, w1), (l2, w2), (l3, w3), (l4, w4)][q]?.map prSz).getD 0) (fun q t I oI C oC D ys m₂ h tk E' hq hC hx F N => ?_) (fun l hl => ?_))
  · obtain ⟨u, t1, v, t2, e1, e2, e3⟩ := pick5t (l0 := Str.ofString "") (l1 := l1) (l2 := l2) (l3 := l3) (l4 := l4) (w0 := w0) (w1 := w1) (w2 := w2) (w3 := w3) (w4 := w4) (a0 := a0) (a1 := a1) (a2 := a2) (a3 := a3) (a4 := a4) (b0 := b0) (b1 := b1) (b2 := b2) (b3 := b3) (b4 := b4) q hq
    have eg : ([((Str.ofString ""), w0), (l1, w1), (l2, w2), (l3, w3), (l4, w4)][q]?.map prSz).getD 0 = (u.length : Int) + v.length := by rw [e3]; rfl
    have hsv := KI.1.sz (u, v) (List.mem_of_getElem? e3)
    obtain ⟨hu, hv⟩ := hsv
    dsimp only at hu hv ⊢
    rw [eg]
    clear F8 N8
    k_steps
    exact Stop.mk ⟨⟨_, rfl⟩, _, rfl⟩
  · clear F8 N8
    k_steps
    all_goals
      rename Fr _ _ _ _ => F9
      rename News _ _ _ _ => N9
      rename (_ = Data.cell (some (Value.ref la))) => dA
      rename (_ = Data.cell (some (Value.ref lw))) => dW
      rename (_ ≠ _ ∧ _) => o1x
      rename (@LT.lt Nat _ _ _ ∧ _) => l1x
      obtain ⟨-, -, -, o1c, -⟩ := o1x
      obtain ⟨-, -, -, -, l1c, -⟩ := l1x
      unfold Halt
      refine mid_c (zs := l) (nS := (intValues l).length) B hB tq1 tq2 KI.1 ?_ (swap_m F9) (fa_cons (N9 (176, q1) (by k_mem)) (fa_cons (N9 (183, q2) (by k_mem)) (fa_cons (N9 _ (.head _)) (fa_cons (N9 _ (.tail _ (.head _))) (fa_cons (N9 (L + 1 + 1 + 1, _) (by k_mem)) (fa_cons (N9 (L + 1 + 1, _) (by k_mem)) (fa_cons (N9 (L + 1, _) (by k_mem)) (fa_cons (N9 (la, _) (by k_mem)) (fa_cons (N9 (lw, _) (by k_mem)) fa_nil))))))))) dA dW k3 hne ⟨⟨n21.h.symm⟩, ⟨n31.h.symm⟩, ⟨Nat.ne_of_gt l1c⟩, ⟨Ne.symm o1c⟩, ⟨by (first | lia | omega)⟩, ⟨by (first | lia | omega)⟩⟩ KI.2.1 (by rw [hl]; rfl) KI.2.2 (fun h tk gn hk => hret h tk gn hk)
      unfold frames
      first | exact .head _ | exact .tail _ (.head _) | exact .tail _ (.tail _ (.head _))
end Mine
end
section
open PySem PySem.W PyProof.Rows PySem.Calls PySem.Spec
set_option maxRecDepth 100000
set_option maxHeartbeats 2000000
set_option pp.deepTerms false
set_option pp.maxSteps 20000
namespace Mine
theorem lookup_mem {a : Addr} {o : Obj} : ∀ {l : List (Addr × Obj)}, l.lookup a = some o → a ∈ l.map (·.1)
  | [], h => nomatch h
  | p :: r, h => by
    rw [List.lookup_cons] at h
    cases q : a == p.1 with
    | true => exact List.mem_map.mpr ⟨p, .head _, (eq_of_beq q).symm⟩
    | false => rw [q] at h; exact .tail _ (lookup_mem h)
theorem K9_as (P : Params) : (K9 P).map (·.1) = asA.drop 2 := by kernel_rfl
theorem as_off : ∀ a ∈ asA.drop 2, a ≠ 176 ∧ a ≠ 183 := by decide +kernel
theorem KA_lk {P : Params} {a : Addr} {o : Obj} (e : (K9 P).lookup a = some o) : (KA P).lookup a = some o ∧ a ∉ [(176 : Nat), 183] := by
  obtain ⟨h1, h2⟩ := as_off a (K9_as P ▸ lookup_mem e)
  unfold KA
  rw [List.lookup_cons, List.lookup_cons, beq_eq_false_iff_ne.mpr h1, beq_eq_false_iff_ne.mpr h2]
  refine ⟨e, fun hm => ?_⟩
  simp only [List.mem_cons, List.not_mem_nil, or_false] at hm
  rcases hm with h | h
  · exact h1 h
  · exact h2 h
theorem K9_of {P : Params} {h : Heap} (KX : (KA P).In h) : (K9 P).In (hideAll h [176, 183]) := fun a o e => hideAll_get _ (KX a o (KA_lk e).1) (KA_lk e).2
theorem hid_ns {h : Heap} {a : Addr} {m : Str → Option Value} (x : h.Ns a m) (ha : a ∉ [(176 : Nat), 183]) : (hideAll h [176, 183]).Ns a m := x.at' fun o e => hideAll_get _ e ha
theorem base_of {w : World} {mg mb : Str → Option Value} {h : Heap} {bm : Addr} {ob p1 p2 : Obj} (KX : (KA w.params).In h) (T : TopRead view lo mg mb h) (M : BMod h mainGlobals mg bm ob) (h1 : h.get? 176 = some p1) (t1 : TabO p1) (h2 : h.get? 183 = some p2) (t2 : TabO p2) : Base w mg mb (hideAll h [176, 183]) where
  K := K9_of KX
  T := ⟨hid_ns T.g (by decide), hid_ns T.b (by decide), T.nolimit.at fun o e => hideAll_get _ e (by decide), T.builtins, T.free⟩
  M := ⟨bm, ob, hid_ns M.ns (by decide), M.name, M.ne, hideAll_get _ M.obj fun hm => by
    simp only [List.mem_cons, List.not_mem_nil, or_false] at hm
    rcases hm with e | e
    · exact ne_tab M.obj h1 t1 (fun v e => by rw [M.data] at e; cases e) e
    · exact ne_tab M.obj h2 t2 (fun v e => by rw [M.data] at e; cases e) e, M.cls, M.dict, M.data⟩
  n1 := hideAll_none _ (by simp)
  n2 := hideAll_none _ (by simp)
theorem dummyJ6 : True := by
  k_with_none
  w_top off
  trivial
theorem tab1 {P : Params} {h : Heap} (KX : (KA P).In h) : h.TableAt 180 176 #[] := ⟨⟨_, _, KX 180 _ (KA_lk (by k_is)).1, rfl, rfl, rfl⟩, KX 176 _ rfl⟩
theorem tab2 {P : Params} {h : Heap} (KX : (KA P).In h) : h.TableAt 187 183 #[] := ⟨⟨_, _, KX 187 _ (KA_lk (by k_is)).1, rfl, rfl, rfl⟩, KX 183 _ rfl⟩
theorem tabO_nil : TabO { cls := .none, data := .fields #[] } := ⟨#[], rfl, by first | trivial | simp [TriplesOk]⟩
theorem oldK_of {h₀ h : Heap} (T1 : h₀.TableAt 180 176 #[]) (T2 : h₀.TableAt 187 183 #[]) (k : ∀ b o, (hideAll h₀ [176, 183]).get? b = some o → h.get? b = some o) (g1 : ∃ o, h.get? 176 = some o ∧ TabO o) (g2 : ∃ o, h.get? 183 = some o ∧ TabO o) : OldK h₀ h := by
  obtain ⟨_, e1, ps1, rfl, -⟩ := g1
  obtain ⟨_, e2, ps2, rfl, -⟩ := g2
  refine ⟨fun b o e => ?_, fun b o e => ?_⟩
  · by_cases hb : b ∈ [(176 : Nat), 183]
    · simp only [List.mem_cons, List.not_mem_nil, or_false] at hb
      rcases hb with rfl | rfl
      · obtain rfl := Option.some.inj (e.symm.trans T1.2)
        exact .inr (.inl ⟨T1.isCodeTable, rfl, #[], ps1, rfl, by rw [Array.empty_append]; exact e1⟩)
      · obtain rfl := Option.some.inj (e.symm.trans T2.2)
        exact .inr (.inl ⟨T2.isCodeTable, rfl, #[], ps2, rfl, by rw [Array.empty_append]; exact e2⟩)
    · exact .inl (k b o (hideAll_get _ e hb))
  · by_cases hb : b ∈ [(176 : Nat), 183]
    · simp only [List.mem_cons, List.not_mem_nil, or_false] at hb
      rcases hb with rfl | rfl
      · exact ⟨_, e1⟩
      · exact ⟨_, e2⟩
    · exact ⟨o, k b o (hideAll_get _ e hb)⟩
theorem sc_off {h : Heap} {sc : Addr} {vs : Array Value} {p1 p2 : Obj} (hl : h.IsList sc vs) (h1 : h.get? 176 = some p1) (t1 : TabO p1) (h2 : h.get? 183 = some p2) (t2 : TabO p2) : (hideAll h [176, 183]).IsList sc vs := by
  refine hl.at fun o e => hideAll_get _ e fun hm => ?_
  obtain ⟨o', e', c, n, d⟩ := hl
  rw [e] at e'; cases e'
  simp only [List.mem_cons, List.not_mem_nil, or_false] at hm
  rcases hm with q | q
  · exact ne_tab e h1 t1 (fun v e => by rw [d] at e; cases e) q
  · exact ne_tab e h2 t2 (fun v e => by rw [d] at e; cases e) q
theorem as_one {g h : Heap} {L : Addr} {M : Str → Option Value} {x : Str} {u : Option Value} (F : Fr g L h M) (hx : M x = u) : Fr g L h (fun z => if z = x then u else M z) := by
  have e : (fun z => if z = x then u else M z) = M := funext fun z => by
    by_cases h1 : z = x
    · rw [if_pos h1, h1, hx]
    · rw [if_neg h1]
  rw [e]; exact F
theorem hid_fr {g h : Heap} {L : Addr} {M : Str → Option Value} {l : List Addr} (F : Fr g L h M) : Fr (hideAll g l) L h M := ⟨F.ns, fun b o e => F.keep b o (of_hideAll _ e), Nat.le_trans (Nat.le_of_eq (hideAll_size _ _)) F.above⟩
theorem hid_new {g h : Heap} {L : Addr} {news : List (Addr × Obj)} {l : List Addr} (N : News g L h news) : News (hideAll g l) L h news := fun p hp => ⟨(N p hp).1, (N p hp).2.1, by
  cases q : (hideAll g l).get? p.1 with
  | none => rfl
  | some o => have := of_hideAll _ q; rw [(N p hp).2.2] at this; cases this⟩
theorem said0 : PySem.Challenge.rw_wr0031_01.wellSaid = true := by kernel_rfl
theorem fin : PySem.Challenge.rw_wr0031_01.Holds := by
  w_on
  refine holds_law said0 fun said => ?_
  refine holds_open (q := view) (loose := loose) (Xt := Xt) (XP := XL view []) (Yf := hookA.obs) (Ya := hookA.val) (YP := hookA.says) (N := 2836) left hookA.of hookA.keeps (fun s e => xl_of s (Bool.and_eq_true_iff.mp e).1) XL.keeps (by rfl) (by rfl) (by rfl) (fun s e => recFacts_of (Bool.and_eq_true_iff.mp e).2) rfl (by first | assumption | decide +kernel) (by decide +kernel) ⟨rfl, rfl, rfl, rfl, rfl, by decide +kernel⟩ ?hw ?hc
  case hw => w_witness2
  case hc =>
    intro w s₀ s₁ mg mb G Y fa o pm cd doc dV kV ho hd hcd hD hmg hg args vals as hpre hlay hrd hwl hlo
    have KX := kIn_of Y
    have X := (Ground.X G).1
    have V := (Ground.X G).2
    refine Ground.open G ?_
    intro T B D TE TW
    try (refine guard_noD D (by decide +kernel) ?_; clear D)
    obtain ⟨_, _, MM⟩ := bmod_of_top T
    have TA := at_of_top T
    clear hmg
    wrow_args hpre hlay hrd hwl hlo
    refine enter_call ?_
    w_top on
    have K0 := below_caller (Top.heap T)
    w_call any ho hd hcd hD T F
    clear hd TA
    k_drop
    rename (Heap.IsList _ _ _) => hsc
    rename (IntsAre _ _) => hI
    rename Fr _ _ _ _ => F0
    rename News _ _ _ _ => N0
    rename (¬ _ < _) => hlen
    rename CellsAre _ _ _ => Y'
    have T1 := tab1 KX
    have T2 := tab2 KX
    have B := base_of KX (topRead_of T) MM T1.2 tabO_nil T2.2 tabO_nil
    have hs := sc_off hsc T1.2 tabO_nil T2.2 tabO_nil
    have lt1 := Heap.lt_size T1.2
    have lt2 := Heap.lt_size T2.2
    refine wpAny_mono (head_c B (AllBare.of_eq hg) tabO_nil tabO_nil hs hI (by (first | lia | omega)) (as_one (hid_fr F0) (by with_unfolding_all rfl)) (fa_cons (hid_new N0 _ (.head _)) (fa_cons (hid_new N0 _ (.tail _ (.head _))) (fa_cons (hid_new N0 _ (.tail _ (.tail _ (.head _)))) (fa_cons ⟨F0.keep _ _ T1.2, Nat.ne_of_lt lt1, hideAll_none _ (by simp)⟩ (fa_cons ⟨F0.keep _ _ T2.2, Nat.ne_of_lt lt2, hideAll_none _ (by simp)⟩ fa_nil)))))
      (Eq.trans (by assumption) (by with_unfolding_all rfl)) (Eq.trans (by assumption) (by with_unfolding_all rfl)) (Eq.trans (by assumption) (by with_unfolding_all rfl)) ⟨lt1, lt2⟩ (fun h tk gn S => ?_)) (fun _ _ z => z) (fun _ _ z => z.elim)
    dsimp only
    exact ⟨.inl ⟨_, _, [], rfl, (fun _ => rfl), ReadsW.bool true, (by first | rfl | wrow_post), fun _ => ⟨List.nodup_nil, fun _ hm => (nomatch hm)⟩⟩, oldK_of T1 T2 S.kb S.t1 S.t2, rfl, S.gb⟩
end Mine
end
end
theorem PySem.Challenge.cw_wr0031_01_holds : PySem.Challenge.rw_wr0031_01.Holds :=
  Mine.fin
