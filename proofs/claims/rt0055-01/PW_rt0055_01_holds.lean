import PyProof.Rows.All
import Wide.All
import OpenK.AllK
import Wide.FinOn
import KE.KNestM
import KE.BytesMake
import KE.KBytesCut
import KE.KRevSl
import PySem.Challenge.RW_rt0055_01
set_option Elab.async false
namespace Mine
section
open PySem PySem.W PyProof.Rows
set_option maxRecDepth 100000
noncomputable def stm (i : Nat) : Stmt := (PySem.Challenge.pw_rt0055_01.main.body[i]?).getD (.Pass default)
noncomputable def mkF (s : Stmt) (pm : Value) (cd : Addr) : Obj := match s with
  | .FunctionDef name args body _ _ _ scope _ _ _ => { cls := .type "function", data := .func { name := name, qualname := name, params := args, body := .stmts body, scope := scope, globals := 3, closure := [], defaults := .none, kwdefaults := .none, pyModule := pm, code := .ref cd } }
  | _ => default
/-- _byteswap -/
noncomputable def o45 : Obj := by
  refine' (fun (b : Obj) (_ : b = mkF (stm 3) (Value.str (Str.ofString "cpy313.wave") 289) 44) => b) _ ?h
  case h =>
    conv => rhs; whnf
/-- escape -/
noncomputable def o62 : Obj := by
  refine' (fun (b : Obj) (_ : b = mkF (stm 7) (Value.str (Str.ofString "re") 340) 61) => b) _ ?h
  case h =>
    conv => rhs; whnf
/-- _translate -/
noncomputable def o69 : Obj := by
  refine' (fun (b : Obj) (_ : b = mkF (stm 9) (Value.str (Str.ofString "cpy313.fnmatch") 495) 68) => b) _ ?h
  case h =>
    conv => rhs; whnf
/-- fspath -/
noncomputable def o142 : Obj := by
  refine' (fun (b : Obj) (_ : b = mkF (stm 18) (Value.str (Str.ofString "os") 603) 141) => b) _ ?h
  case h =>
    conv => rhs; whnf
/-- _get_sep -/
noncomputable def o156 : Obj := by
  refine' (fun (b : Obj) (_ : b = mkF (stm 22) (Value.str (Str.ofString "cpy313.posixpath") 628) 155) => b) _ ?h
  case h =>
    conv => rhs; whnf
/-- join -/
noncomputable def o163 : Obj := by
  refine' (fun (b : Obj) (_ : b = mkF (stm 23) (Value.str (Str.ofString "cpy313.posixpath") 628) 162) => b) _ ?h
  case h =>
    conv => rhs; whnf
/-- splitroot -/
noncomputable def o170 : Obj := by
  refine' (fun (b : Obj) (_ : b = mkF (stm 24) (Value.str (Str.ofString "cpy313.posixpath") 628) 169) => b) _ ?h
  case h =>
    conv => rhs; whnf
/-- normpath -/
noncomputable def o177 : Obj := by
  refine' (fun (b : Obj) (_ : b = mkF (stm 25) (Value.str (Str.ofString "cpy313.posixpath") 628) 176) => b) _ ?h
  case h =>
    conv => rhs; whnf
/-- _law_way -/
noncomputable def o182 : Obj := by
  refine' (fun (b : Obj) (_ : b = mkF (stm 27) (Value.str (Str.ofString "law_rt0055_01") 672) 181) => b) _ ?h
  case h =>
    conv => rhs; whnf
/-- _law_tape -/
noncomputable def o189 : Obj := by
  refine' (fun (b : Obj) (_ : b = mkF (stm 28) (Value.str (Str.ofString "law_rt0055_01") 672) 188) => b) _ ?h
  case h =>
    conv => rhs; whnf
/-- _law_read -/
noncomputable def o194 : Obj := by
  refine' (fun (b : Obj) (_ : b = mkF (stm 29) (Value.str (Str.ofString "law_rt0055_01") 672) 193) => b) _ ?h
  case h =>
    conv => rhs; whnf
/-- _law_place -/
noncomputable def o201 : Obj := by
  refine' (fun (b : Obj) (_ : b = mkF (stm 30) (Value.str (Str.ofString "law_rt0055_01") 672) 200) => b) _ ?h
  case h =>
    conv => rhs; whnf
/-- _law_takes -/
noncomputable def o208 : Obj := by
  refine' (fun (b : Obj) (_ : b = mkF (stm 31) (Value.str (Str.ofString "law_rt0055_01") 672) 207) => b) _ ?h
  case h =>
    conv => rhs; whnf
/-- _law_fits -/
noncomputable def o213 : Obj := by
  refine' (fun (b : Obj) (_ : b = mkF (stm 32) (Value.str (Str.ofString "law_rt0055_01") 672) 212) => b) _ ?h
  case h =>
    conv => rhs; whnf
/-- _law_said -/
noncomputable def o220 : Obj := by
  refine' (fun (b : Obj) (_ : b = mkF (stm 33) (Value.str (Str.ofString "law_rt0055_01") 672) 219) => b) _ ?h
  case h =>
    conv => rhs; whnf
/-- law -/
noncomputable def o225 : Obj := by
  refine' (fun (b : Obj) (_ : b = mkF (stm 34) (Value.str (Str.ofString "law_rt0055_01") 672) 224) => b) _ ?h
  case h =>
    conv => rhs; whnf
noncomputable def o2 : Params → Obj := fun P => { cls := Value.none, data := Data.dict #[{ hash := PyData.keyHash P (Str.ofString "\x69mport.loaded._sre"), key := Value.str (Str.ofString "\x69mport.loaded._sre") 183, val := Value.bool true }, { hash := PyData.keyHash P (Str.ofString "class._frozen_importlib.BuiltinImporter"), key := Value.str (Str.ofString "class._frozen_importlib.BuiltinImporter") 185, val := Value.ref 14 }, { hash := PyData.keyHash P (Str.ofString "watched.\x69mport"), key := Value.str (Str.ofString "watched.\x69mport") 206, val := Value.ref 18 }, { hash := PyData.keyHash P (Str.ofString "class._frozen_importlib.ModuleSpec"), key := Value.str (Str.ofString "class._frozen_importlib.ModuleSpec") 216, val := Value.ref 22 }, { hash := PyData.keyHash P (Str.ofString "sys.modules.booked-epoch"), key := Value.str (Str.ofString "sys.modules.booked-epoch") 245, val := Value.int 3 0 }, { hash := PyData.keyHash P (Str.ofString "\x69mport.later-laid._sre"), key := Value.str (Str.ofString "\x69mport.later-laid._sre") 270, val := Value.bool true }, { hash := PyData.keyHash P (Str.ofString "watched.library"), key := Value.str (Str.ofString "watched.library") 272, val := Value.ref 27 }, { hash := PyData.keyHash P (Str.ofString "watched.library-objects"), key := Value.str (Str.ofString "watched.library-objects") 0, val := Value.str (Str.ofString "\x0c") 0 }, { hash := PyData.keyHash P (Str.ofString "watched.library-deep._sre"), key := Value.str (Str.ofString "watched.library-deep._sre") 273, val := Value.str (Str.ofString "\x04\x00\x00\x0b\x04\x00\x00\x0b\x04\x00\x00\x03\x04\x00\x00\x0b\x08\x04dict\x02") 0 }] 9 }
noncomputable def o3 : Params → Obj := fun P => { cls := Value.type "dict", data := Data.dict #[{ hash := PyData.keyHash P (Str.ofString "__name__"), key := Value.str (Str.ofString "__name__") 165, val := Value.str (Str.ofString "law_rt0055_01") 672 }, { hash := PyData.keyHash P (Str.ofString "__doc__"), key := Value.str (Str.ofString "__doc__") 166, val := Value.none }, { hash := PyData.keyHash P (Str.ofString "__package__"), key := Value.str (Str.ofString "__package__") 167, val := Value.none }, { hash := PyData.keyHash P (Str.ofString "__loader__"), key := Value.str (Str.ofString "__loader__") 168, val := Value.builtin "__main__.__loader__#opaque" }, { hash := PyData.keyHash P (Str.ofString "__spec__"), key := Value.str (Str.ofString "__spec__") 169, val := Value.none }, { hash := PyData.keyHash P (Str.ofString "__annotations__"), key := Value.str (Str.ofString "__annotations__") 170, val := Value.ref 6 }, { hash := PyData.keyHash P (Str.ofString "__builtins__"), key := Value.str (Str.ofString "__builtins__") 171, val := Value.ref 4 }, { hash := PyData.keyHash P (Str.ofString "__file__"), key := Value.str (Str.ofString "__file__") 173, val := Value.str (Str.ofString "/claim/cut.py") 172 }, { hash := PyData.keyHash P (Str.ofString "__cached__"), key := Value.str (Str.ofString "__cached__") 174, val := Value.none }, { hash := PyData.keyHash P (Str.ofString "_sre"), key := Value.str (Str.ofString "_sre") 275, val := Value.ref 12 }, { hash := PyData.keyHash P (Str.ofString "_wall"), key := Value.str (Str.ofString "_wall") 288, val := Value.ref 38 }, { hash := PyData.keyHash P (Str.ofString "_byteswap"), key := Value.str (Str.ofString "_byteswap") 301, val := Value.ref 45 }, { hash := PyData.keyHash P (Str.ofString "_twin_re_1"), key := Value.str (Str.ofString "_twin_re_1") 339, val := Value.ref 50 }, { hash := PyData.keyHash P (Str.ofString "_special_chars_map"), key := Value.str (Str.ofString "_special_chars_map") 487, val := Value.ref 52 }, { hash := PyData.keyHash P (Str.ofString "escape"), key := Value.str (Str.ofString "escape") 494, val := Value.ref 62 }, { hash := PyData.keyHash P (Str.ofString "_translate"), key := Value.str (Str.ofString "_translate") 515, val := Value.ref 69 }, { hash := PyData.keyHash P (Str.ofString "_plain_name"), key := Value.str (Str.ofString "_plain_name") 526, val := Value.ref 76 }, { hash := PyData.keyHash P (Str.ofString "ABCMeta"), key := Value.str (Str.ofString "ABCMeta") 552, val := Value.ref 93 }, { hash := PyData.keyHash P (Str.ofString "_ABCLike"), key := Value.str (Str.ofString "_ABCLike") 595, val := Value.ref 126 }, { hash := PyData.keyHash P (Str.ofString "_abc_plain_meta"), key := Value.str (Str.ofString "_abc_plain_meta") 602, val := Value.ref 135 }, { hash := PyData.keyHash P (Str.ofString "fspath"), key := Value.str (Str.ofString "fspath") 614, val := Value.ref 142 }, { hash := PyData.keyHash P (Str.ofString "_check_arg_types"), key := Value.str (Str.ofString "_check_arg_types") 627, val := Value.ref 149 }, { hash := PyData.keyHash P (Str.ofString "_get_sep"), key := Value.str (Str.ofString "_get_sep") 636, val := Value.ref 156 }, { hash := PyData.keyHash P (Str.ofString "join"), key := Value.str (Str.ofString "join") 647, val := Value.ref 163 }, { hash := PyData.keyHash P (Str.ofString "splitroot"), key := Value.str (Str.ofString "splitroot") 656, val := Value.ref 170 }, { hash := PyData.keyHash P (Str.ofString "normpath"), key := Value.str (Str.ofString "normpath") 671, val := Value.ref 177 }, { hash := PyData.keyHash P (Str.ofString "_law_way"), key := Value.str (Str.ofString "_law_way") 679, val := Value.ref 182 }, { hash := PyData.keyHash P (Str.ofString "_law_tape"), key := Value.str (Str.ofString "_law_tape") 690, val := Value.ref 189 }, { hash := PyData.keyHash P (Str.ofString "_law_read"), key := Value.str (Str.ofString "_law_read") 696, val := Value.ref 194 }, { hash := PyData.keyHash P (Str.ofString "_law_place"), key := Value.str (Str.ofString "_law_place") 706, val := Value.ref 201 }, { hash := PyData.keyHash P (Str.ofString "_law_takes"), key := Value.str (Str.ofString "_law_takes") 714, val := Value.ref 208 }, { hash := PyData.keyHash P (Str.ofString "_law_fits"), key := Value.str (Str.ofString "_law_fits") 720, val := Value.ref 213 }, { hash := PyData.keyHash P (Str.ofString "_law_said"), key := Value.str (Str.ofString "_law_said") 727, val := Value.ref 220 }, { hash := PyData.keyHash P (Str.ofString "law"), key := Value.str (Str.ofString "law") 733, val := Value.ref 225 }] 34 }
noncomputable def o44 : Params → Obj := fun _ => { cls := Value.type "code", data := Data.fields #[Value.str (Str.ofString "_byteswap") 291, Value.str (Str.ofString "_byteswap") 292, Value.str (Str.ofString "/claim/cut.py") 293, Value.int 6 0, Value.int 2 0, Value.int 0 0, Value.int 0 0, Value.int 3 0, Value.ref 39, Value.bool true, Value.int 276 0, Value.ref 40, Value.none, Value.ref 41, Value.ref 42, Value.ref 43, Value.int 299 0, Value.int 6 0, Value.str (Str.ofString "/claim/cut.py") 300] }
noncomputable def o49 : Params → Obj := fun _ => { cls := Value.type "tuple", data := Data.seq #[Value.int 14 0, Value.int 14 0, Value.int 4 0, Value.int 1 0, Value.int 1 0, Value.int 9 0, Value.int 0 0, Value.int 64 0, Value.int 0 0, Value.int 1342177280 0, Value.int 0 0, Value.int 0 0, Value.int 0 0, Value.int 0 0, Value.int 0 0, Value.int 17 0, Value.int 0 0, Value.int 13 0, Value.int 11 0, Value.int 9 0, Value.int 0 0, Value.int 64 0, Value.int 0 0, Value.int 1342177280 0, Value.int 0 0, Value.int 0 0, Value.int 0 0, Value.int 0 0, Value.int 0 0, Value.int 17 0, Value.int 1 0, Value.int 1 0] }
noncomputable def o50 : Params → Obj := fun _ => { cls := Value.type "re.Pattern", data := Data.fields #[Value.str (Str.ofString "([&~|])") 303, Value.int 32 338, Value.int 1 0, Value.none, Value.none, Value.ref 49, Value.int 0 0] }
noncomputable def o52 : Params → Obj := fun _ => { cls := Value.type "dict", data := Data.dict #[{ hash := 40, key := Value.int 40 343, val := Value.str (Str.ofString "\\(") 347 }, { hash := 41, key := Value.int 41 349, val := Value.str (Str.ofString "\\)") 353 }, { hash := 91, key := Value.int 91 355, val := Value.str (Str.ofString "\\[") 359 }, { hash := 93, key := Value.int 93 361, val := Value.str (Str.ofString "\\]") 365 }, { hash := 123, key := Value.int 123 367, val := Value.str (Str.ofString "\\{") 371 }, { hash := 125, key := Value.int 125 373, val := Value.str (Str.ofString "\\}") 377 }, { hash := 63, key := Value.int 63 379, val := Value.str (Str.ofString "\\?") 383 }, { hash := 42, key := Value.int 42 385, val := Value.str (Str.ofString "\\*") 389 }, { hash := 43, key := Value.int 43 391, val := Value.str (Str.ofString "\\+") 395 }, { hash := 45, key := Value.int 45 397, val := Value.str (Str.ofString "\\-") 401 }, { hash := 124, key := Value.int 124 403, val := Value.str (Str.ofString "\\|") 407 }, { hash := 94, key := Value.int 94 409, val := Value.str (Str.ofString "\\^") 413 }, { hash := 36, key := Value.int 36 415, val := Value.str (Str.ofString "\\$") 419 }, { hash := 92, key := Value.int 92 421, val := Value.str (Str.ofString "\\\\") 425 }, { hash := 46, key := Value.int 46 427, val := Value.str (Str.ofString "\\.") 431 }, { hash := 38, key := Value.int 38 433, val := Value.str (Str.ofString "\\&") 437 }, { hash := 126, key := Value.int 126 439, val := Value.str (Str.ofString "\\~") 443 }, { hash := 35, key := Value.int 35 445, val := Value.str (Str.ofString "\\#") 449 }, { hash := 32, key := Value.int 32 451, val := Value.str (Str.ofString "\\ ") 455 }, { hash := 9, key := Value.int 9 457, val := Value.str (Str.ofString "\\\t") 461 }, { hash := 10, key := Value.int 10 463, val := Value.str (Str.ofString "\\\n") 467 }, { hash := 13, key := Value.int 13 469, val := Value.str (Str.ofString "\\\x0d") 473 }, { hash := 11, key := Value.int 11 475, val := Value.str (Str.ofString "\\\x0b") 479 }, { hash := 12, key := Value.int 12 481, val := Value.str (Str.ofString "\\\x0c") 485 }] 24 }
noncomputable def o61 : Params → Obj := fun _ => { cls := Value.type "code", data := Data.fields #[Value.str (Str.ofString "escape") 488, Value.str (Str.ofString "escape") 489, Value.str (Str.ofString "/claim/cut.py") 490, Value.int 15 0, Value.int 1 0, Value.int 0 0, Value.int 0 0, Value.int 3 0, Value.ref 56, Value.bool true, Value.int 276 0, Value.ref 57, Value.none, Value.ref 58, Value.ref 59, Value.ref 60, Value.int 492 0, Value.int 15 0, Value.str (Str.ofString "/claim/cut.py") 493] }
noncomputable def o68 : Params → Obj := fun _ => { cls := Value.type "code", data := Data.fields #[Value.str (Str.ofString "_translate") 497, Value.str (Str.ofString "_translate") 498, Value.str (Str.ofString "/claim/cut.py") 499, Value.int 22 0, Value.int 3 0, Value.int 0 0, Value.int 0 0, Value.int 3 0, Value.ref 63, Value.bool true, Value.int 276 0, Value.ref 64, Value.none, Value.ref 65, Value.ref 66, Value.ref 67, Value.int 513 0, Value.int 22 0, Value.str (Str.ofString "/claim/cut.py") 514] }
noncomputable def o141 : Params → Obj := fun _ => { cls := Value.type "code", data := Data.fields #[Value.str (Str.ofString "fspath") 605, Value.str (Str.ofString "fspath") 606, Value.str (Str.ofString "/claim/cut.py") 607, Value.int 115 0, Value.int 1 0, Value.int 0 0, Value.int 0 0, Value.int 3 0, Value.ref 136, Value.bool true, Value.int 276 0, Value.ref 137, Value.none, Value.ref 138, Value.ref 139, Value.ref 140, Value.int 612 0, Value.int 115 0, Value.str (Str.ofString "/claim/cut.py") 613] }
noncomputable def o155 : Params → Obj := fun _ => { cls := Value.type "code", data := Data.fields #[Value.str (Str.ofString "_get_sep") 630, Value.str (Str.ofString "_get_sep") 631, Value.str (Str.ofString "/claim/cut.py") 632, Value.int 144 0, Value.int 1 0, Value.int 0 0, Value.int 0 0, Value.int 3 0, Value.ref 150, Value.bool true, Value.int 276 0, Value.ref 151, Value.none, Value.ref 152, Value.ref 153, Value.ref 154, Value.int 634 0, Value.int 144 0, Value.str (Str.ofString "/claim/cut.py") 635] }
noncomputable def o162 : Params → Obj := fun _ => { cls := Value.type "code", data := Data.fields #[Value.str (Str.ofString "join") 637, Value.str (Str.ofString "join") 638, Value.str (Str.ofString "/claim/cut.py") 639, Value.int 149 0, Value.int 1 0, Value.int 0 0, Value.int 0 0, Value.int 7 0, Value.ref 157, Value.bool true, Value.int 276 0, Value.ref 158, Value.none, Value.ref 159, Value.ref 160, Value.ref 161, Value.int 645 0, Value.int 149 0, Value.str (Str.ofString "/claim/cut.py") 646] }
noncomputable def o169 : Params → Obj := fun _ => { cls := Value.type "code", data := Data.fields #[Value.str (Str.ofString "splitroot") 648, Value.str (Str.ofString "splitroot") 649, Value.str (Str.ofString "/claim/cut.py") 650, Value.int 166 0, Value.int 1 0, Value.int 0 0, Value.int 0 0, Value.int 3 0, Value.ref 164, Value.bool true, Value.int 276 0, Value.ref 165, Value.none, Value.ref 166, Value.ref 167, Value.ref 168, Value.int 654 0, Value.int 166 0, Value.str (Str.ofString "/claim/cut.py") 655] }
noncomputable def o176 : Params → Obj := fun _ => { cls := Value.type "code", data := Data.fields #[Value.str (Str.ofString "normpath") 657, Value.str (Str.ofString "normpath") 658, Value.str (Str.ofString "/claim/cut.py") 659, Value.int 180 0, Value.int 1 0, Value.int 0 0, Value.int 0 0, Value.int 3 0, Value.ref 171, Value.bool true, Value.int 276 0, Value.ref 172, Value.none, Value.ref 173, Value.ref 174, Value.ref 175, Value.int 669 0, Value.int 180 0, Value.str (Str.ofString "/claim/cut.py") 670] }
noncomputable def o181 : Params → Obj := fun _ => { cls := Value.type "code", data := Data.fields #[Value.str (Str.ofString "_law_way") 674, Value.str (Str.ofString "_law_way") 675, Value.str (Str.ofString "/claim/cut.py") 676, Value.int 206 0, Value.int 1 0, Value.int 0 0, Value.int 0 0, Value.int 3 0, Value.ref 178, Value.bool true, Value.int 276 0, Value.ref 179, Value.none, Value.none, Value.none, Value.ref 180, Value.int 677 0, Value.int 206 0, Value.str (Str.ofString "/claim/cut.py") 678] }
noncomputable def o188 : Params → Obj := fun _ => { cls := Value.type "code", data := Data.fields #[Value.str (Str.ofString "_law_tape") 680, Value.str (Str.ofString "_law_tape") 681, Value.str (Str.ofString "/claim/cut.py") 682, Value.int 209 0, Value.int 2 0, Value.int 0 0, Value.int 0 0, Value.int 3 0, Value.ref 183, Value.bool true, Value.int 276 0, Value.ref 184, Value.none, Value.ref 185, Value.ref 186, Value.ref 187, Value.int 688 0, Value.int 209 0, Value.str (Str.ofString "/claim/cut.py") 689] }
noncomputable def o193 : Params → Obj := fun _ => { cls := Value.type "code", data := Data.fields #[Value.str (Str.ofString "_law_read") 691, Value.str (Str.ofString "_law_read") 692, Value.str (Str.ofString "/claim/cut.py") 693, Value.int 215 0, Value.int 1 0, Value.int 0 0, Value.int 0 0, Value.int 3 0, Value.ref 190, Value.bool true, Value.int 276 0, Value.ref 191, Value.none, Value.none, Value.none, Value.ref 192, Value.int 694 0, Value.int 215 0, Value.str (Str.ofString "/claim/cut.py") 695] }
noncomputable def o200 : Params → Obj := fun _ => { cls := Value.type "code", data := Data.fields #[Value.str (Str.ofString "_law_place") 697, Value.str (Str.ofString "_law_place") 698, Value.str (Str.ofString "/claim/cut.py") 699, Value.int 219 0, Value.int 1 0, Value.int 0 0, Value.int 0 0, Value.int 3 0, Value.ref 195, Value.bool true, Value.int 276 0, Value.ref 196, Value.none, Value.ref 197, Value.ref 198, Value.ref 199, Value.int 704 0, Value.int 219 0, Value.str (Str.ofString "/claim/cut.py") 705] }
noncomputable def o207 : Params → Obj := fun _ => { cls := Value.type "code", data := Data.fields #[Value.str (Str.ofString "_law_takes") 707, Value.str (Str.ofString "_law_takes") 708, Value.str (Str.ofString "/claim/cut.py") 709, Value.int 229 0, Value.int 2 0, Value.int 0 0, Value.int 0 0, Value.int 3 0, Value.ref 202, Value.bool true, Value.int 276 0, Value.ref 203, Value.none, Value.ref 204, Value.ref 205, Value.ref 206, Value.int 712 0, Value.int 229 0, Value.str (Str.ofString "/claim/cut.py") 713] }
noncomputable def o212 : Params → Obj := fun _ => { cls := Value.type "code", data := Data.fields #[Value.str (Str.ofString "_law_fits") 715, Value.str (Str.ofString "_law_fits") 716, Value.str (Str.ofString "/claim/cut.py") 717, Value.int 233 0, Value.int 2 0, Value.int 0 0, Value.int 0 0, Value.int 3 0, Value.ref 209, Value.bool true, Value.int 276 0, Value.ref 210, Value.none, Value.none, Value.none, Value.ref 211, Value.int 718 0, Value.int 233 0, Value.str (Str.ofString "/claim/cut.py") 719] }
noncomputable def o219 : Params → Obj := fun _ => { cls := Value.type "code", data := Data.fields #[Value.str (Str.ofString "_law_said") 721, Value.str (Str.ofString "_law_said") 722, Value.str (Str.ofString "/claim/cut.py") 723, Value.int 242 0, Value.int 1 0, Value.int 0 0, Value.int 0 0, Value.int 3 0, Value.ref 214, Value.bool true, Value.int 276 0, Value.ref 215, Value.none, Value.ref 216, Value.ref 217, Value.ref 218, Value.int 725 0, Value.int 242 0, Value.str (Str.ofString "/claim/cut.py") 726] }
noncomputable def o224 : Params → Obj := fun _ => { cls := Value.type "code", data := Data.fields #[Value.str (Str.ofString "law") 728, Value.str (Str.ofString "law") 729, Value.str (Str.ofString "/claim/cut.py") 730, Value.int 244 0, Value.int 1 0, Value.int 0 0, Value.int 0 0, Value.int 3 0, Value.ref 221, Value.bool true, Value.int 276 0, Value.ref 222, Value.none, Value.none, Value.none, Value.ref 223, Value.int 731 0, Value.int 244 0, Value.str (Str.ofString "/claim/cut.py") 732] }
noncomputable def KK : Params → Frag := fun P => (nat_lit 2, o2 P) :: (nat_lit 3, o3 P) :: (nat_lit 44, o44 P) :: (nat_lit 45, o45) :: (nat_lit 49, o49 P) :: (nat_lit 50, o50 P) :: (nat_lit 52, o52 P) :: (nat_lit 61, o61 P) :: (nat_lit 62, o62) :: (nat_lit 68, o68 P) :: (nat_lit 69, o69) :: (nat_lit 141, o141 P) :: (nat_lit 142, o142) :: (nat_lit 155, o155 P) :: (nat_lit 156, o156) :: (nat_lit 162, o162 P) :: (nat_lit 163, o163) :: (nat_lit 169, o169 P) :: (nat_lit 170, o170) :: (nat_lit 176, o176 P) :: (nat_lit 177, o177) :: (nat_lit 181, o181 P) :: (nat_lit 182, o182) :: (nat_lit 188, o188 P) :: (nat_lit 189, o189) :: (nat_lit 193, o193 P) :: (nat_lit 194, o194) :: (nat_lit 200, o200 P) :: (nat_lit 201, o201) :: (nat_lit 207, o207 P) :: (nat_lit 208, o208) :: (nat_lit 212, o212 P) :: (nat_lit 213, o213) :: (nat_lit 219, o219 P) :: (nat_lit 220, o220) :: (nat_lit 224, o224 P) :: (nat_lit 225, o225) :: []
def asK : List Addr := [2, 3, 44, 45, 49, 50, 52, 61, 62, 68, 69, 141, 142, 155, 156, 162, 163, 169, 170, 176, 177, 181, 182, 188, 189, 193, 194, 200, 201, 207, 208, 212, 213, 219, 220, 224, 225]
end
end Mine
namespace Mine
section
open PySem PySem.W PyProof.Rows
set_option maxRecDepth 100000
noncomputable def q0 : Program := view PySem.Challenge.pw_rt0055_01 [0, 34]
def loose0 : List Str := ["_wall", "_byteswap", "_twin_re_1", "_special_chars_map", "escape", "_translate", "_plain_name", "ABCMeta", "_ABCLike", "_abc_plain_meta", "fspath", "_check_arg_types", "_get_sep", "join", "splitroot", "normpath", "_law_way", "_law_tape", "_law_read", "_law_place", "_law_takes", "_law_fits", "_law_said"]
/-- A contract: a call of the def at f gives R, in every frame, and what the frame held stands. -/
abbrev Con (D : Nat) (f : Addr) (vs : List Value) (R : Tok → Value) : Prop :=
  ∀ (w : World) (mean : ExcName → Option Value) (mg mb : Str → Option Value) (news : List (Addr × Obj)) (dp un : Nat) (gd : Option (List Code)) (cn : Str) (cs : Scope) (a : Addr) (ccd : Value) (cl : List (Str × Addr)) (outer : List Env) (A₀ : Around) (base h₀ : Heap) (L : Addr) (m : Str → Option Value) (s : Shared) (Q E : Value → Shared → Prop),
    Below A₀ base outer h₀ → Fr h₀ L s.heap m → (KK w.params).In h₀ → News h₀ L s.heap news → Top q0 (looseW q0 loose0) mean mg mb h₀ → cs.kind = .function →
      dp + D < recursionLimit → un + 8 * D < cLine → CbRet h₀ L m news s Q R →
      wpAny (model (OpenLaw.prog PySem.Challenge.rw_rt0055_01) w) (ktrTop dp un gd cn cs L a ccd cl outer) (call (.ref f) vs) Q E s
theorem use_con {D : Nat} {f : Addr} {vs : List Value} {R : Tok → Value} (c : Con D f vs R)
    {w : World} {mean : ExcName → Option Value} {mg mb : Str → Option Value} {news : List (Addr × Obj)} {dp un : Nat} {gd : Option (List Code)} {cn : Str} {cs : Scope} {a : Addr} {ccd : Value} {cl : List (Str × Addr)} {outer : List Env} {A₀ : Around} {base h₀ : Heap} {L : Addr} {m : Str → Option Value} {s : Shared} {Q E : Value → Shared → Prop}
    (k1 : Below A₀ base outer h₀) (k2 : Fr h₀ L s.heap m) (k3 : (KK w.params).In h₀) (k4 : News h₀ L s.heap news) (k5 : Top q0 (looseW q0 loose0) mean mg mb h₀) (kK : cs.kind = .function)
    (kd : dp + D < recursionLimit) (ku : un + 8 * D < cLine) (kR : CbRet h₀ L m news s Q R) :
    wpAny (model (OpenLaw.prog PySem.Challenge.rw_rt0055_01) w) (ktrTop dp un gd cn cs L a ccd cl outer) (call (.ref f) vs) Q E s := c w mean mg mb news dp un gd cn cs a ccd cl outer A₀ base h₀ L m s Q E k1 k2 k3 k4 k5 kK kd ku kR
/-- what lies behind the ledger's written head stands apart from what is newer -/
theorem all_off {d e : Addr} {news : List (Addr × Obj)} (h : AllLt d news) (he : d ≤ e) : ∀ p ∈ news, p.1 ≠ e := fun p hp => Nat.ne_of_lt (Nat.lt_of_lt_of_le (kst_ltOf h p hp) he)
theorem all_off' {d e : Addr} {news : List (Addr × Obj)} (h : ∀ p ∈ news, p.1 < d) (he : d ≤ e) : ∀ p ∈ news, p.1 ≠ e := fun p hp => Nat.ne_of_lt (Nat.lt_of_lt_of_le (h p hp) he)
end
end Mine
namespace Mine
section
open PySem PySem.W PyProof.Rows
set_option maxRecDepth 100000
theorem fr_fold {h₀ h : Heap} {L : Addr} {m : Str → Option Value} {y : Str} {v : Value} (F : Fr h₀ L h m) (e : m y = some v) : Fr h₀ L h (fun z => if z = y then some v else m z) := by
  have z : (fun z => if z = y then some v else m z) = m := by
    funext z
    by_cases hz : z = y
    · rw [if_pos hz, hz, e]
    · rw [if_neg hz]
  rw [z]; exact F
theorem fr_unfold {h₀ h : Heap} {L : Addr} {m : Str → Option Value} {y : Str} {v : Value} (F : Fr h₀ L h (fun z => if z = y then some v else m z)) (e : m y = some v) : Fr h₀ L h m := by
  have z : (fun z => if z = y then some v else m z) = m := by
    funext z
    by_cases hz : z = y
    · rw [if_pos hz, hz, e]
    · rw [if_neg hz]
  rw [z] at F; exact F
end
end Mine
namespace Mine
section
open PySem PySem.W PyProof.Rows
set_option maxRecDepth 100000
set_option maxHeartbeats 0
noncomputable def lhs (w : World) := (openEnds treeTable PySem.Challenge.pw_rt0055_01 w 5300).map (fun s => (openSeen q0 loose0 (importedModules PySem.Challenge.pw_rt0055_01.main.body) (fun s => xlAt q0 [] s && recOk [] s) true s, (asK.map s.heap.get?, [64].map s.heap.get?)))
noncomputable def rhs (w : World) := some (openGood q0 loose0, ((KK w.params).map fun p => some p.2, [64].map fun _ => some (tabObj #[])))
end
end Mine
lay_quick Mine.lhs Mine.rhs
namespace Mine
section
open PySem PySem.W PyProof.Rows
set_option maxRecDepth 100000
set_option maxHeartbeats 0
theorem hd_tt : ∀ w : World, PySem.W.Fast.tw14720033549999066060 ((w.withFollow "special-get-raises" true).withFollow "comprehension-iter-twice" true) = PySem.W.Fast.tw1938990355778164159 ((w.withFollow "special-get-raises" true).withFollow "comprehension-iter-twice" true) := by
  intro w; kernel_rfl
theorem hd_ft : ∀ w : World, PySem.W.Fast.tw14720033549999066060 ((w.withFollow "special-get-raises" false).withFollow "comprehension-iter-twice" true) = PySem.W.Fast.tw1938990355778164159 ((w.withFollow "special-get-raises" false).withFollow "comprehension-iter-twice" true) := by
  intro w; kernel_rfl
theorem hd_tf : ∀ w : World, PySem.W.Fast.tw14720033549999066060 ((w.withFollow "special-get-raises" true).withFollow "comprehension-iter-twice" false) = PySem.W.Fast.tw1938990355778164159 ((w.withFollow "special-get-raises" true).withFollow "comprehension-iter-twice" false) := by
  intro w; kernel_rfl
theorem hd_ff : ∀ w : World, PySem.W.Fast.tw14720033549999066060 ((w.withFollow "special-get-raises" false).withFollow "comprehension-iter-twice" false) = PySem.W.Fast.tw1938990355778164159 ((w.withFollow "special-get-raises" false).withFollow "comprehension-iter-twice" false) := by
  intro w; kernel_rfl
theorem left0 : ∀ w : World, lhs w = rhs w := by
  rw [PySem.W.Fast.te14720033549999066060, PySem.W.Fast.te1938990355778164159]
  exact byRow2 "comprehension-iter-twice" (P := fun w => PySem.W.Fast.tw14720033549999066060 w = PySem.W.Fast.tw1938990355778164159 w)
    (byRow2 "special-get-raises" (P := fun w => PySem.W.Fast.tw14720033549999066060 (w.withFollow "comprehension-iter-twice" false) = PySem.W.Fast.tw1938990355778164159 (w.withFollow "comprehension-iter-twice" false)) hd_ff hd_tf)
    (byRow2 "special-get-raises" (P := fun w => PySem.W.Fast.tw14720033549999066060 (w.withFollow "comprehension-iter-twice" true) = PySem.W.Fast.tw1938990355778164159 (w.withFollow "comprehension-iter-twice" true)) hd_ft hd_tt)
theorem left1 : LeftO PySem.Challenge.pw_rt0055_01 q0 loose0 (fun s => xlAt q0 [] s && recOk [] s) (kmHook KK asK (fun _ => by kernel_rfl) [64]).obs (kmHook KK asK (fun _ => by kernel_rfl) [64]).val 5300 := left0
end
end Mine
namespace Mine
section
open PySem PySem.W PyProof.Rows PySem.Calls
set_option maxRecDepth 100000
theorem kind_isn : builtinKind "issubclass.nested" = none := by decide +kernel
theorem plain_isn : plainId "issubclass.nested" = true := by decide +kernel
theorem args_isn (a b c : Value) : argsOk "issubclass.nested" ⟨[a, b, c], []⟩ := by unfold argsOk; kernel_rfl
theorem sub_str : isSubtype (.type "str") (.type "str") = pure true := by rw [isSubtype_type]; kernel_rfl
theorem ty_str : typeOf (.type "str") = pure (.type "type") := rfl
section
variable {prog : Program} {w : World} {A : Around} {E : Value → Shared → Prop}
theorem isn_self (d : Int) (tk : Tok) : Meets (Builtin.«issubclass.nested» ⟨[.type "str", .type "str", .int d tk], []⟩) (fun _ R s => R (.ok (.ret (.bool true))) s) :=
  fun _ _ _ _ _ hs => by
    have hs1 := sub_str
    have hty := ty_str
    repeat (any_goals (first | assumption | (rw [hs1]) | wp_step))
theorem issub_str {tp : Addr} {s : Shared} {Q : Value → Shared → Prop} (htp : s.heap.get? tp = some { cls := .type "tuple", data := .seq [Value.type "str", Value.type "bytes"].toArray })
    (h : Q (.bool true) s) : wpAny (model prog w) A (call (.builtin "issubclass") [.type "str", .ref tp]) Q E s := by
  refine call_issubclass (S := fun _ R s => s.heap.get? tp = some { cls := .type "tuple", data := .seq [Value.type "str", Value.type "bytes"].toArray } ∧ R (.ok (.ret (.bool true))) s) (fun _ _ _ _ s hs => issubclass_outer ?_) ⟨htp, h⟩
  obtain ⟨htp, hq⟩ := hs
  have hT2 : s.TypeIs (.ref tp) "tuple" := ⟨_, htp, rfl⟩
  have f1 := F.isi_sub_tuple
  have hs1 := sub_str
  have hty := ty_str
  have key : ∀ (prog : Program) (w : World) (A : Around) (Q E : Value → Shared → Prop) (s : Shared), Q (.bool true) s → wpAny (model prog w) A (call (.builtin "issubclass.nested") [.type "str", .type "str", rawInt (0 + 1)]) Q E s :=
    fun _ _ A Q E s h => call_function_meets kind_isn plain_isn F.entry_issubclass_nested (args_isn _ _ _) (isn_self _ _) h
  repeat (any_goals (first | assumption | refine key _ _ _ _ _ _ ?_ | wp_step))
end
end
end Mine
namespace Mine
section
open PySem PySem.W PyProof.Rows PySem.Calls
set_option maxRecDepth 100000
section
variable {prog : Program} {w : World} {A : Around} {E : Value → Shared → Prop} {s : Shared} {env : Env} {h₀ : Heap} {x : Str} {body : List Stmt} {Q : Flow → Shared → Prop}

/-- A for over a sequence of the ledger, whatever it holds, by what holds of the frame and of the ledger between the turns. -/
theorem iter_valsN {l : Addr} {o io : Obj} {vs : List Value} {m₀ : Str → Option Value} {news : List (Addr × Obj)} {St : Nat → Heap → Prop} (J : Nat → (Str → Option Value) → List (Addr × Obj) → Prop)
    (hl : (l, o) ∈ news) (F : Fr h₀ env.locals s.heap m₀) (N : News h₀ env.locals s.heap news) (hj : J 0 m₀ news)
    (W : Walks prog w A s.heap.objs.size [s.heap.objs.size, l] [s.heap.objs.size] vs.length (fun i v => vs[i]? = some v) St)
    (hst : St 0 (s.heap.push io))
    (itr : ∀ Q' : Value → Shared → Prop, Q' (.ref s.heap.objs.size) { s with heap := s.heap.push io } → wpAny (model prog w) A (pyIter (.ref l)) Q' E s)
    (turn : ∀ i v m₁ news₁ h tk own, vs[i]? = some v → news₁.map (·.1) = news.map (·.1) → OwnOff own (news.map (·.1)) → (l, o) ∈ news₁ → J i m₁ news₁ → Fr h₀ env.locals h (fun y => if y = x then some v else m₁ y) → News h₀ env.locals h (news₁ ++ own) →
      wpAny (model prog w) A (execs body env) (InvPostN h₀ env.locals (fun m' nx => (l, o) ∈ nx ∧ J (i + 1) m' nx) own (news.map (·.1)) { s with heap := h, toks := tk } Q) E { s with heap := h, toks := tk })
    (done : ∀ m₁ news₁ h tk, (l, o) ∈ news₁ → J vs.length m₁ news₁ → Fr h₀ env.locals h m₁ → News h₀ env.locals h news₁ → Q .next { s with heap := h, toks := tk }) :
    wpAny (model prog w) A (pyIter (.ref l)) (fun it s₂ => LoopAtV prog w A h₀ env x body Q E it s₂) E s := by
  have hol : s.heap.get? l = some o := (N _ hl).1
  refine itr _ ?_
  refine ⟨_, _, _, vs.length, _, St, m₀, news, (fun i m nx => nx.map (·.1) = news.map (·.1) ∧ (l, o) ∈ nx ∧ J i m nx), rfl, W, ?_, ?_, ?_, hst, F.push _, (fun p hp => ⟨Heap.get?_push_of_some _ (N p hp).1, (N p hp).2⟩), ⟨rfl, hl, hj⟩, ?_, ?_⟩
  · intro hm
    rcases List.mem_cons.mp hm with e | hm
    · exact absurd F.ns.lt (e ▸ Nat.lt_irrefl _)
    · exact (N _ hl).2.1 ((List.mem_singleton.mp hm).symm)
  · intro b hb
    rw [List.mem_singleton.mp hb]
    exact next_is_new F
  · intro p hp hI
    exact absurd (Heap.lt_size (N p hp).1) ((List.mem_singleton.mp hI) ▸ Nat.lt_irrefl _)
  · rintro i v m₁ news₁ s₁ own ⟨hh', tk', rfl⟩ hin hP ⟨hadr, hl₁, hJ⟩ hoff hown hget hfp _ F₁ N₁
    have hsep : OwnOff (own.filter fun p => decide (p.1 = s.heap.objs.size)) (news.map (·.1)) := by
      intro p hp b hb e
      obtain ⟨q, hq, rfl⟩ := List.mem_map.mp hb
      have h1 : p.1 = s.heap.objs.size := by simpa using (List.mem_filter.mp hp).2
      exact absurd (Heap.lt_size (N q hq).1) (by rw [← e, h1]; exact Nat.lt_irrefl _)
    have N₂ : News h₀ env.locals hh' (news₁ ++ own.filter fun p => decide (p.1 = s.heap.objs.size)) := fun p hp => N₁ p ((List.mem_append.mp hp).elim (fun h => List.mem_append.mpr (.inr h)) fun h => List.mem_append.mpr (.inl ((List.mem_filter.mp h).1)))
    have hlo : hh'.get? l = some o := (N₁ _ (List.mem_append.mpr (.inr hl₁))).1
    refine wpAny_mono (turn i v m₁ news₁ hh' tk' _ hP hadr hsep hl₁ hJ F₁ N₂) (fun f s₂ p => ?_) fun _ _ e => e
    have fin : InvEndN h₀ env.locals (fun m' nx => (l, o) ∈ nx ∧ J (i + 1) m' nx) (own.filter fun p => decide (p.1 = s.heap.objs.size)) (news.map (·.1)) { s with heap := hh', toks := tk' } s₂ →
        LoopStepU h₀ env.locals [s.heap.objs.size] own (fun m nx => nx.map (·.1) = news.map (·.1) ∧ (l, o) ∈ nx ∧ J (i + 1) m nx) { s with heap := hh', toks := tk' } .next s₂ := by
      rintro ⟨h', tk, m', news', nx, e, F', N', hn, ho, ha, hm⟩
      refine ⟨rfl, h', tk, m', nx, e, F', fun p hp => ?_, fun p hp => ?_, ha, hm⟩
      · rcases List.mem_append.mp hp with h | h
        · by_cases hI : p.1 = s.heap.objs.size
          · exact N' p (ho p (List.mem_filter.mpr ⟨h, by simpa using hI⟩))
          · have h1 : p.1 = l := by
              rcases List.mem_cons.mp (hown p h) with h2 | h2
              · exact absurd h2 hI
              · exact List.mem_singleton.mp h2
            have h2 : hh'.get? p.1 = some p.2 := hget p h
            rw [h1, hlo] at h2
            have h3 : p = (l, o) := Prod.ext h1 (Option.some.inj h2).symm
            rw [h3]
            exact N' _ (hn _ hm.1)
        · exact N' p (hn p h)
      · have h1 : p.1 ∈ nx.map (·.1) := List.mem_map.mpr ⟨p, hp, rfl⟩
        rw [ha] at h1
        obtain ⟨q, hq, e⟩ := List.mem_map.mp h1
        intro hI
        exact absurd (Heap.lt_size (N q hq).1) (by rw [e, List.mem_singleton.mp hI]; exact Nat.lt_irrefl _)
    cases f with
    | ret v => exact .ret p
    | brk => exact .brk p
    | next => exact .next (fin p)
    | cont => exact .cont (fin p)
  · rintro h' tk m' news' F' N' _ ⟨_, hl', hJ⟩
    exact done m' news' h' tk hl' hJ F' N'

theorem iter_listV {l : Addr} {vs : List Value} {nn : Nat} {m₀ : Str → Option Value} {news : List (Addr × Obj)} (J : Nat → (Str → Option Value) → List (Addr × Obj) → Prop)
    (hh : A.handled = none) (hl : (l, listOf vs.toArray nn) ∈ news) (F : Fr h₀ env.locals s.heap m₀) (N : News h₀ env.locals s.heap news) (hj : J 0 m₀ news)
    (turn : ∀ i v m₁ news₁ h tk own, vs[i]? = some v → news₁.map (·.1) = news.map (·.1) → OwnOff own (news.map (·.1)) → (l, listOf vs.toArray nn) ∈ news₁ → J i m₁ news₁ → Fr h₀ env.locals h (fun y => if y = x then some v else m₁ y) → News h₀ env.locals h (news₁ ++ own) →
      wpAny (model prog w) A (execs body env) (InvPostN h₀ env.locals (fun m' nx => (l, listOf vs.toArray nn) ∈ nx ∧ J (i + 1) m' nx) own (news.map (·.1)) { s with heap := h, toks := tk } Q) E { s with heap := h, toks := tk })
    (done : ∀ m₁ news₁ h tk, (l, listOf vs.toArray nn) ∈ news₁ → J vs.length m₁ news₁ → Fr h₀ env.locals h m₁ → News h₀ env.locals h news₁ → Q .next { s with heap := h, toks := tk }) :
    wpAny (model prog w) A (pyIter (.ref l)) (fun it s₂ => LoopAtV prog w A h₀ env x body Q E it s₂) E s := by
  have hol : s.heap.get? l = some (listOf vs.toArray nn) := (N _ hl).1
  have hls : s.heap.IsList l vs.toArray := ⟨_, hol, rfl, nn, rfl⟩
  have hne : l ≠ s.heap.objs.size := Nat.ne_of_lt (Heap.lt_size hol)
  have W := Walks.list (prog := prog) (w := w) hh s.heap.objs.size l hne vs.toArray
  rw [List.size_toArray] at W
  simp only [List.getElem?_toArray] at W
  exact iter_valsN J hl F N hj W ⟨⟨_, Heap.get?_push_size _ rfl, rfl, rfl⟩, hls.at fun o e => Heap.get?_push_of_some _ e⟩ (fun Q' h => wpAny_pyIter_list hls h) turn done

theorem iter_tupV {l : Addr} {vs : List Value} {nn : Nat} {m₀ : Str → Option Value} {news : List (Addr × Obj)} (J : Nat → (Str → Option Value) → List (Addr × Obj) → Prop)
    (hh : A.handled = none) (hl : (l, ({ cls := .type "tuple", data := .seq vs.toArray nn } : Obj)) ∈ news) (F : Fr h₀ env.locals s.heap m₀) (N : News h₀ env.locals s.heap news) (hj : J 0 m₀ news)
    (turn : ∀ i v m₁ news₁ h tk own, vs[i]? = some v → news₁.map (·.1) = news.map (·.1) → OwnOff own (news.map (·.1)) → (l, ({ cls := .type "tuple", data := .seq vs.toArray nn } : Obj)) ∈ news₁ → J i m₁ news₁ → Fr h₀ env.locals h (fun y => if y = x then some v else m₁ y) → News h₀ env.locals h (news₁ ++ own) →
      wpAny (model prog w) A (execs body env) (InvPostN h₀ env.locals (fun m' nx => (l, ({ cls := .type "tuple", data := .seq vs.toArray nn } : Obj)) ∈ nx ∧ J (i + 1) m' nx) own (news.map (·.1)) { s with heap := h, toks := tk } Q) E { s with heap := h, toks := tk })
    (done : ∀ m₁ news₁ h tk, (l, ({ cls := .type "tuple", data := .seq vs.toArray nn } : Obj)) ∈ news₁ → J vs.length m₁ news₁ → Fr h₀ env.locals h m₁ → News h₀ env.locals h news₁ → Q .next { s with heap := h, toks := tk }) :
    wpAny (model prog w) A (pyIter (.ref l)) (fun it s₂ => LoopAtV prog w A h₀ env x body Q E it s₂) E s := by
  have hol : s.heap.get? l = some ({ cls := .type "tuple", data := .seq vs.toArray nn } : Obj) := (N _ hl).1
  have hls : s.heap.IsTuple l vs.toArray := ⟨_, hol, rfl, nn, rfl⟩
  have hne : l ≠ s.heap.objs.size := Nat.ne_of_lt (Heap.lt_size hol)
  have W := Walks.tuple (prog := prog) (w := w) hh s.heap.objs.size l hne vs.toArray
  rw [List.size_toArray] at W
  simp only [List.getElem?_toArray] at W
  exact iter_valsN J hl F N hj W ⟨⟨_, Heap.get?_push_size _ rfl, rfl, rfl⟩, hls.at fun o e => Heap.get?_push_of_some _ e⟩ (fun Q' h => wpAny_pyIter_tuple hls h) turn done

theorem iter_strV {xt : Str} {tx : Tok} {m₀ : Str → Option Value} {news : List (Addr × Obj)} (J : Nat → (Str → Option Value) → List (Addr × Obj) → Prop)
    (hh : A.handled = none) (F : Fr h₀ env.locals s.heap m₀) (N : News h₀ env.locals s.heap news) (hj : J 0 m₀ news)
    (turn : ∀ i c t m₁ news₁ h tk own, xt.cps[i]? = some c → news₁.map (·.1) = news.map (·.1) → OwnOff own (news.map (·.1)) → J i m₁ news₁ → Fr h₀ env.locals h (fun y => if y = x then some (.str ⟨#[c]⟩ t) else m₁ y) → News h₀ env.locals h (news₁ ++ own) →
      wpAny (model prog w) A (execs body env) (InvPostN h₀ env.locals (J (i + 1)) own (news.map (·.1)) { s with heap := h, toks := tk } Q) E { s with heap := h, toks := tk })
    (done : ∀ m₁ news₁ h tk, J xt.cps.size m₁ news₁ → Fr h₀ env.locals h m₁ → News h₀ env.locals h news₁ → Q .next { s with heap := h, toks := tk }) :
    wpAny (model prog w) A (pyIter (.str xt tx)) (fun it s₂ => LoopAtV prog w A h₀ env x body Q E it s₂) E s := by
  refine wpAny_pyIter_str fun o St hW hst => ?_
  have W := hW A hh
  refine loop_invN J W ?_ ?_ ?_ ?_ hst (F.push _) (fun p hp => ⟨Heap.get?_push_of_some _ (N p hp).1, (N p hp).2⟩) hj ?_ ?_
  · intro hm
    exact absurd F.ns.lt ((List.mem_singleton.mp hm) ▸ Nat.lt_irrefl _)
  · intro b' hb
    rw [List.mem_singleton.mp hb]
    exact next_is_new F
  · intro p hp hI
    exact absurd (Heap.lt_size (N p hp).1) ((List.mem_singleton.mp hI) ▸ Nat.lt_irrefl _)
  · intro p hp hI
    exact absurd (Heap.lt_size (N p hp).1) ((List.mem_singleton.mp hI) ▸ Nat.lt_irrefl _)
  · rintro i v m₁ nx h tk own hi ⟨n, u, hn, rfl⟩ hadr hoff hJ F₁ N₁
    exact turn i n u m₁ nx h tk own hn hadr hoff hJ F₁ N₁
  · rintro m₁ nx h tk hJ F₁ N₁
    exact done m₁ nx h tk hJ F₁ N₁

theorem iter_rangeV {r : Addr} {a₀ b₀ c₀ : Int} {t₀ u₀ v₀ : Tok} {n : Nat} {m₀ : Str → Option Value} {news : List (Addr × Obj)} (J : Nat → (Str → Option Value) → List (Addr × Obj) → Prop)
    (hh : A.handled = none) (hr : IsRange s.heap r a₀ b₀ c₀ t₀ u₀ v₀) (hsmall : Builtin.Range.small a₀ b₀ c₀ = true) (hn : Builtin.Range.rangeSize a₀ b₀ c₀ = (n : Int)) (F : Fr h₀ env.locals s.heap m₀) (N : News h₀ env.locals s.heap news) (hj : J 0 m₀ news)
    (turn : ∀ (i : Nat) t m₁ news₁ h tk own, i < n → news₁.map (·.1) = news.map (·.1) → OwnOff own (news.map (·.1)) → J i m₁ news₁ → Fr h₀ env.locals h (fun y => if y = x then some (.int (a₀ + i * c₀) t) else m₁ y) → News h₀ env.locals h (news₁ ++ own) →
      wpAny (model prog w) A (execs body env) (InvPostN h₀ env.locals (J (i + 1)) own (news.map (·.1)) { s with heap := h, toks := tk } Q) E { s with heap := h, toks := tk })
    (done : ∀ m₁ news₁ h tk, J n m₁ news₁ → Fr h₀ env.locals h m₁ → News h₀ env.locals h news₁ → Q .next { s with heap := h, toks := tk }) :
    wpAny (model prog w) A (pyIter (.ref r)) (fun it s₂ => LoopAtV prog w A h₀ env x body Q E it s₂) E s := by
  refine wpAny_pyIter_range hr hsmall ?_
  have W := Walks.range (prog := prog) (w := w) hh s.heap.objs.size a₀ c₀ n
  refine loop_invN J W ?_ ?_ ?_ ?_ (by show IsRangeIter _ _ _ _ _; rw [hn]; simpa using Heap.get?_push_size _ rfl) (F.push _) (fun p hp => ⟨Heap.get?_push_of_some _ (N p hp).1, (N p hp).2⟩) hj ?_ ?_
  · intro hm
    exact absurd F.ns.lt ((List.mem_singleton.mp hm) ▸ Nat.lt_irrefl _)
  · intro b hb
    rw [List.mem_singleton.mp hb]
    exact next_is_new F
  · intro p hp hI
    exact absurd (Heap.lt_size (N p hp).1) ((List.mem_singleton.mp hI) ▸ Nat.lt_irrefl _)
  · intro p hp hI
    exact absurd (Heap.lt_size (N p hp).1) ((List.mem_singleton.mp hI) ▸ Nat.lt_irrefl _)
  · rintro i v m₁ nx h tk own hi ⟨t, rfl⟩ hadr hoff hJ F₁ N₁
    exact turn i t m₁ nx h tk own hi hadr hoff hJ F₁ N₁
  · rintro m₁ nx h tk hJ F₁ N₁
    exact done m₁ nx h tk hJ F₁ N₁

theorem iter_tup1 {l : Addr} {v : Value} {nn : Nat} {m₀ : Str → Option Value} {news : List (Addr × Obj)} (P : (Str → Option Value) → Prop)
    (hh : A.handled = none) (hl : (l, ({ cls := .type "tuple", data := .seq [v].toArray nn } : Obj)) ∈ news) (F : Fr h₀ env.locals s.heap m₀) (N : News h₀ env.locals s.heap news)
    (turn : ∀ h tk own, OwnOff own (news.map (·.1)) → Fr h₀ env.locals h (fun y => if y = x then some v else m₀ y) → News h₀ env.locals h (news ++ own) →
      wpAny (model prog w) A (execs body env) (InvPostN h₀ env.locals (fun m' nx => nx = news ∧ P m') own (news.map (·.1)) { s with heap := h, toks := tk } Q) E { s with heap := h, toks := tk })
    (done : ∀ m₁ h tk, P m₁ → Fr h₀ env.locals h m₁ → News h₀ env.locals h news → Q .next { s with heap := h, toks := tk }) :
    wpAny (model prog w) A (pyIter (.ref l)) (fun it s₂ => LoopAtV prog w A h₀ env x body Q E it s₂) E s := by
  refine iter_tupV (fun i m nx => nx = news ∧ (i = 0 → m = m₀) ∧ (i = 1 → P m)) hh hl F N ⟨rfl, fun _ => rfl, fun h => absurd h (by decide)⟩ ?_ ?_
  · rintro i v' m₁ nx h tk own hi hadr hoff hm ⟨rfl, h0, _⟩ F₁ N₁
    cases i with
    | succ i => simp at hi
    | zero =>
      have e : v' = v := by simpa using hi.symm
      subst e
      have e0 := h0 rfl
      subst e0
      refine wpAny_mono (turn h tk own hoff F₁ N₁) (fun f s₂ p => ?_) fun _ _ e => e
      have up : InvEndN h₀ env.locals (fun m' n' => n' = nx ∧ P m') own (nx.map (·.1)) { s with heap := h, toks := tk } s₂ →
          InvEndN h₀ env.locals (fun m' n' => (l, ({ cls := .type "tuple", data := .seq [v'].toArray nn } : Obj)) ∈ n' ∧ n' = nx ∧ (0 + 1 = 0 → m' = m₁) ∧ (0 + 1 = 1 → P m')) own (nx.map (·.1)) { s with heap := h, toks := tk } s₂ := by
        rintro ⟨h', tk', m', news', nx', e, F', N', hn, ho, ha, rfl, hP⟩
        exact ⟨h', tk', m', news', _, e, F', N', hn, ho, ha, hm, rfl, fun h => absurd h (by decide), fun _ => hP⟩
      cases f with
      | ret v => exact p
      | brk => exact p
      | next => exact up p
      | cont => exact up p
  · rintro m₁ nx h tk _ ⟨rfl, _, h1⟩ F₁ N₁
    exact done m₁ h tk (h1 rfl) F₁ N₁

theorem ex_str {o : Option Value} {v v' : Str} {t : Tok} (h : o = some (.str v t)) (e : v = v') : ∃ t, o = some (.str v' t) := ⟨t, e ▸ h⟩
theorem end_inv {L : Addr} {J : (Str → Option Value) → List (Addr × Obj) → Prop} {own nx news' : List (Addr × Obj)} {adr : List Addr} {s₁ : Shared} {h' : Heap} {tk : Nat} {m' : Str → Option Value}
    (F : Fr h₀ L h' m') (N : News h₀ L h' news') (hj : J m' nx) (hn : ∀ p ∈ nx, p ∈ news') (ho : ∀ p ∈ own, p ∈ news') (ha : nx.map (·.1) = adr) :
    InvEndN h₀ L J own adr s₁ { s₁ with heap := h', toks := tk } := ⟨h', tk, m', news', nx, rfl, F, N, hn, ho, ha, hj⟩
end
end
end Mine
namespace Mine
section
open PySem PySem.W PyProof.Rows PySem.Calls
set_option maxRecDepth 100000
/-- The walk stops here. -/
def Stop (P : Prop) : Prop := P
theorem stop {P : Prop} (h : Stop P) : P := h
theorem Stop.go {P : Prop} (h : P) : Stop P := h
section
variable {prog : Program} {w : World} {A₀ A : Around} {s : Shared} {K : Frag} {L : Addr} {h₀ base : Heap} {m mg mb : Str → Option Value} {news : List (Addr × Obj)} {p : Program} {loose : List Str} {mean : ExcName → Option Value} {Q E : Value → Shared → Prop}
  {env : Env} {outer : List Env} {name qual : Str} {params : Arguments} {body : List Stmt} {scope : Scope} {dV kV doc pm cdv ct oc : Value} {an od : Option Addr} {osl : Array (Option Value)} {f : Addr} {vs : List Value} {binds : List (Str × Value)}

theorem back_news {h h' : Heap} (N : News h₀ L h news) (k : ∀ b o, h.get? b = some o → h'.get? b = some o) : News h₀ L h' news := fun q hq => ⟨k _ _ (N q hq).1, (N q hq).2⟩

/-- A plain def is entered: the base is the heap as it stands, the ledger is empty. -/
theorem enterP (B : Below A₀ base outer h₀) (F : Fr h₀ L s.heap m) (X₀ : K.In h₀) (N : News h₀ L s.heap news) (T : Top p loose mean mg mb h₀) (hA : A.frames = some (env :: outer)) (hf : env.frame = some L) (hke : env.scope.kind = .function)
    (ho : K.lookup f = some ⟨oc, od, .func (fnOf name qual params body scope dV kV doc pm an cdv ct), osl⟩) (hcd : codeIn K cdv qual = true) (hroom : A.depth < recursionLimit)
    (hbind : BindsTo s (fnOf name qual params body scope dV kV doc pm an cdv ct) ⟨vs, []⟩ binds) (hloc : ∀ y ∈ binds, scope.names.lookup y.1 = some .local)
    (h : ∀ g L' h₁, Fr h₀ L g m → Fr g L' h₁ (fun y => binds.reverse.lookup y) → News g L' h₁ [] → Below A base (env :: outer) g → K.In g → Top p loose mean mg mb g →
      wpAny (model prog w) (A.deeper (envOf qual scope L' f cdv)) (execs body (envOf qual scope L' f cdv))
        (fun fl s' => (∀ b o, g.get? b = some o → s'.heap.get? b = some o) ∧ (Fr h₀ L s'.heap m → News h₀ L s'.heap news → Q (match fl with | .ret v => v | _ => .none) s'))
        (fun _ _ => False)
        { s with heap := h₁, toks := s.toks + binds.length })
    (hco : scope.isCoroutine = false) (hgen : scope.isGenerator = false) (hk : scope.kind = .function)
    (hcell : ∀ x ∈ scope.names, x.2 ≠ .cell) : wpAny (model prog w) A (call (.ref f) vs []) Q E s := by
  have N₀ : News h₀ L s.heap [] := News.nil
  obtain ⟨FG, BG, st, _⟩ := groundX (R := fun _ _ => True) B F N₀ hA hf hke
  refine wpAny_call (codeAny_call_def (fd := fnOf name qual params body scope dV kV doc pm an cdv ct) (body := body) (binds := binds) hroom ((X₀.keeps F.keep) _ _ ho) rfl (T.nolimit.keeps F.keep) (codeRec_of (X₀.keeps F.keep) hcd) rfl hbind hcell hloc (fun h₁ hns hk₁ => ?_) hco hgen hk)
  refine wpAny_mono (h s.heap s.heap.objs.size h₁ FG ⟨hns, fun b o e => hk₁ b o e, Nat.le_refl _⟩ News.nil BG (X₀.keeps F.keep) (T.keeps F.keep)) (fun fl s' hl => ?_) fun _ _ y => y.elim
  exact hl.2 (F.keeps hl.1) (back_news N hl.1)

/-- The same, the base told. -/
theorem enterPe (B : Below A₀ base outer h₀) (F : Fr h₀ L s.heap m) (X₀ : K.In h₀) (N : News h₀ L s.heap news) (T : Top p loose mean mg mb h₀) (hA : A.frames = some (env :: outer)) (hf : env.frame = some L) (hke : env.scope.kind = .function)
    (ho : K.lookup f = some ⟨oc, od, .func (fnOf name qual params body scope dV kV doc pm an cdv ct), osl⟩) (hcd : codeIn K cdv qual = true) (hroom : A.depth < recursionLimit)
    (hbind : BindsTo s (fnOf name qual params body scope dV kV doc pm an cdv ct) ⟨vs, []⟩ binds) (hloc : ∀ y ∈ binds, scope.names.lookup y.1 = some .local)
    (h : ∀ g L' h₁, g = s.heap → Fr h₀ L g m → Fr g L' h₁ (fun y => binds.reverse.lookup y) → News g L' h₁ [] → Below A base (env :: outer) g → K.In g → Top p loose mean mg mb g →
      wpAny (model prog w) (A.deeper (envOf qual scope L' f cdv)) (execs body (envOf qual scope L' f cdv))
        (fun fl s' => (∀ b o, g.get? b = some o → s'.heap.get? b = some o) ∧ (Fr h₀ L s'.heap m → News h₀ L s'.heap news → Q (match fl with | .ret v => v | _ => .none) s'))
        (fun _ _ => False)
        { s with heap := h₁, toks := s.toks + binds.length })
    (hco : scope.isCoroutine = false) (hgen : scope.isGenerator = false) (hk : scope.kind = .function)
    (hcell : ∀ x ∈ scope.names, x.2 ≠ .cell) : wpAny (model prog w) A (call (.ref f) vs []) Q E s := by
  have N₀ : News h₀ L s.heap [] := News.nil
  obtain ⟨FG, BG, st, _⟩ := groundX (R := fun _ _ => True) B F N₀ hA hf hke
  refine wpAny_call (codeAny_call_def (fd := fnOf name qual params body scope dV kV doc pm an cdv ct) (body := body) (binds := binds) hroom ((X₀.keeps F.keep) _ _ ho) rfl (T.nolimit.keeps F.keep) (codeRec_of (X₀.keeps F.keep) hcd) rfl hbind hcell hloc (fun h₁ hns hk₁ => ?_) hco hgen hk)
  refine wpAny_mono (h s.heap s.heap.objs.size h₁ rfl FG ⟨hns, fun b o e => hk₁ b o e, Nat.le_refl _⟩ News.nil BG (X₀.keeps F.keep) (T.keeps F.keep)) (fun fl s' hl => ?_) fun _ _ y => y.elim
  exact hl.2 (F.keeps hl.1) (back_news N hl.1)

/-- A def with cells is entered. -/
theorem enterC (B : Below A₀ base outer h₀) (F : Fr h₀ L s.heap m) (X₀ : K.In h₀) (N : News h₀ L s.heap news) (T : Top p loose mean mg mb h₀) (hA : A.frames = some (env :: outer)) (hf : env.frame = some L) (hke : env.scope.kind = .function)
    (ho : K.lookup f = some ⟨oc, od, .func (fnOf name qual params body scope dV kV doc pm an cdv ct), osl⟩) (hcd : codeIn K cdv qual = true) (hroom : A.depth < recursionLimit)
    (hbind : BindsTo s (fnOf name qual params body scope dV kV doc pm an cdv ct) ⟨vs, []⟩ binds) (hkind : (binds.all fun y => scope.names.lookup y.1 == some .local || scope.names.lookup y.1 == some .cell) = true)
    (hnd : ((cellsFrom 0 scope.names []).map (·.1)).Nodup)
    (h : ∀ g L' h₁ tk cells, Fr h₀ L g m → Fr g L' h₁ (bindL (envOfC qual scope L' f cdv).kindOf binds fun _ => none) → News g L' h₁ (cells ++ []) →
      CellsAre (bindC (envOfC qual scope L' f cdv).kindOf binds fun _ => none) (cellsFrom (L' + 1) scope.names []) cells → Below A base (env :: outer) g → K.In g → Top p loose mean mg mb g →
      wpAny (model prog w) (A.deeper (envOfC qual scope L' f cdv)) (execs body (envOfC qual scope L' f cdv))
        (fun fl s' => (∀ b o, g.get? b = some o → s'.heap.get? b = some o) ∧ (Fr h₀ L s'.heap m → News h₀ L s'.heap news → Q (match fl with | .ret v => v | _ => .none) s'))
        (fun _ _ => False)
        { s with heap := h₁, toks := tk })
    (hco : scope.isCoroutine = false) (hgen : scope.isGenerator = false) (hk : scope.kind = .function) : wpAny (model prog w) A (call (.ref f) vs []) Q E s := by
  have N₀ : News h₀ L s.heap [] := News.nil
  obtain ⟨FG, BG, st, _⟩ := groundX (R := fun _ _ => True) B F N₀ hA hf hke
  refine wpAny_call (codeAny_call_function hroom ((X₀.keeps F.keep) _ _ ho) rfl hco hgen rfl (codeRec_of (X₀.keeps F.keep) hcd) (hbind _ _ _ _ ?_))
  refine wpAny_newFunctionEnv_cells hk (kindsX hkind _) fun env' he s' x => ?_
  subst he
  refine ⟨(T.nolimit.keeps F.keep).keeps x.toInCall.keep, codeAny_func ?_⟩
  obtain ⟨h₁, tk, rfl, _⟩ := x.done
  have hk₁ := x.toInCall.keep
  obtain ⟨cells, NC, Y⟩ := Cl.news (h₀ := s.heap) (Nat.le_refl _) fun n c hm => ⟨x.cell n c (lookup_of_mem_nodup (cellsFrom_names scope.names 0 (s.heap.objs.size + 1) [] [] rfl ▸ hnd) hm), x.above n c hm⟩
  refine wpAny_mono (h s.heap s.heap.objs.size h₁ tk cells FG ⟨x.toInCall.ns, fun b o e => hk₁ b o e, Nat.le_refl _⟩ (fun p hp => ?_) Y BG (X₀.keeps F.keep) (T.keeps F.keep)) (fun fl s' hl => ?_) fun _ _ y => y.elim
  · rw [List.append_nil] at hp
    exact ⟨(NC p hp).1, (NC p hp).2.1, (NC p hp).2.2⟩
  · exact hl.2 (F.keeps hl.1) (back_news N hl.1)

/-- What a body must end in: a value by R, all that stood before as it stood. -/
def Ret (g : Heap) (s : Shared) (R : Tok → Value) (fl : Flow) (s' : Shared) : Prop :=
  ∃ (t : Tok) (h' : Heap) (tk' : Nat), (∀ b o, g.get? b = some o → h'.get? b = some o) ∧ s' = { s with heap := h', toks := tk' } ∧ (match fl with | .ret v => v | _ => .none) = R t
theorem ret_in {g : Heap} {s : Shared} {R : Tok → Value} {v : Value} {h' : Heap} {tk' : Nat} {L : Addr} {m : Str → Option Value} (F : Fr g L h' m) (t : Tok) (e : v = R t) : Ret g s R (.ret v) { s with heap := h', toks := tk' } := ⟨t, h', tk', F.keep, rfl, e⟩

theorem con_P {D : Nat} {R : Tok → Value}
    (ho : ∀ P, (KK P).lookup f = some ⟨oc, od, .func (fnOf name qual params body scope dV kV doc pm an cdv ct), osl⟩) (hcd : ∀ P, codeIn (KK P) cdv qual = true)
    (hbind : bindArgs (fnOf name qual params body scope dV kV doc pm an cdv ct) ⟨vs, []⟩ = pure binds) (hloc : ∀ y ∈ binds, scope.names.lookup y.1 = some .local)
    (hco : scope.isCoroutine = false) (hgen : scope.isGenerator = false) (hk : scope.kind = .function) (hcell : ∀ x ∈ scope.names, x.2 ≠ .cell)
    (h : ∀ (w : World) (mean : ExcName → Option Value) (mg mb : Str → Option Value) (dp un : Nat) (gd : Option (List Code)) (outer : List Env) (A₀ : Around) (base g h₁ : Heap) (L' : Addr) (s : Shared) (tk : Nat),
      Below A₀ base outer g → Fr g L' h₁ (fun y => binds.reverse.lookup y) → News g L' h₁ [] → (KK w.params).In g → Top q0 (looseW q0 loose0) mean mg mb g →
      dp + D < recursionLimit → un + 8 * D < cLine →
      wpAny (model (OpenLaw.prog PySem.Challenge.rw_rt0055_01) w) (ktrTop dp un gd qual scope L' f cdv [] outer) (execs body (envX qual scope L' f cdv []))
        (Ret g s R) (fun _ _ => False) { s with heap := h₁, toks := tk }) : Con (D + 1) f vs R := by
  intro w mean mg mb news dp un gd cn cs a ccd cl outer A₀ base h₀ L m s Q E B F X N T hck hd hu hret
  refine enterP (K := KK w.params) B F X N T rfl rfl hck (ho _) (hcd _) (by show dp < recursionLimit; omega) (BindsTo.of_eq hbind) hloc (fun g L' h₁ FG F' N' B' X' T' => ?_) hco hgen hk hcell
  refine wpAny_mono (h w mean mg mb (dp + 1) (un + 3) gd (envX cn cs L a ccd cl :: outer) _ base g h₁ L' s _ B' F' N' X' T' (by omega) (by omega)) (fun fl s' hr => ?_) fun _ _ x => x
  obtain ⟨t, h', tk', hkeep, rfl, e⟩ := hr
  rw [e]
  exact ⟨hkeep, fun F₁ N₁ => hret t h' tk' F₁ N₁⟩

theorem con_C {D : Nat} {R : Tok → Value}
    (ho : ∀ P, (KK P).lookup f = some ⟨oc, od, .func (fnOf name qual params body scope dV kV doc pm an cdv ct), osl⟩) (hcd : ∀ P, codeIn (KK P) cdv qual = true)
    (hbind : bindArgs (fnOf name qual params body scope dV kV doc pm an cdv ct) ⟨vs, []⟩ = pure binds) (hkind : (binds.all fun y => scope.names.lookup y.1 == some .local || scope.names.lookup y.1 == some .cell) = true)
    (hnd : ((cellsFrom 0 scope.names []).map (·.1)).Nodup)
    (hco : scope.isCoroutine = false) (hgen : scope.isGenerator = false) (hk : scope.kind = .function)
    (h : ∀ (w : World) (mean : ExcName → Option Value) (mg mb : Str → Option Value) (dp un : Nat) (gd : Option (List Code)) (outer : List Env) (A₀ : Around) (base g h₁ : Heap) (L' : Addr) (s : Shared) (tk : Nat) (cells : List (Addr × Obj)),
      Below A₀ base outer g → Fr g L' h₁ (bindL (envOfC qual scope L' f cdv).kindOf binds fun _ => none) → News g L' h₁ (cells ++ []) →
      CellsAre (bindC (envOfC qual scope L' f cdv).kindOf binds fun _ => none) (cellsFrom (L' + 1) scope.names []) cells → (KK w.params).In g → Top q0 (looseW q0 loose0) mean mg mb g →
      dp + D < recursionLimit → un + 8 * D < cLine →
      wpAny (model (OpenLaw.prog PySem.Challenge.rw_rt0055_01) w) (ktrTop dp un gd qual scope L' f cdv (cellsFrom (L' + 1) scope.names []) outer) (execs body (envOfC qual scope L' f cdv))
        (Ret g s R) (fun _ _ => False) { s with heap := h₁, toks := tk }) : Con (D + 1) f vs R := by
  intro w mean mg mb news dp un gd cn cs a ccd cl outer A₀ base h₀ L m s Q E B F X N T hck hd hu hret
  refine enterC (K := KK w.params) B F X N T rfl rfl hck (ho _) (hcd _) (by show dp < recursionLimit; omega) (BindsTo.of_eq hbind) hkind hnd (fun g L' h₁ tk cells FG F' N' Y' B' X' T' => ?_) hco hgen hk
  refine wpAny_mono (h w mean mg mb (dp + 1) (un + 3) gd (envX cn cs L a ccd cl :: outer) _ base g h₁ L' s tk cells B' F' N' Y' X' T' (by omega) (by omega)) (fun fl s' hr => ?_) fun _ _ x => x
  obtain ⟨t, h', tk', hkeep, rfl, e⟩ := hr
  rw [e]
  exact ⟨hkeep, fun F₁ N₁ => hret t h' tk' F₁ N₁⟩
end
end
end Mine
namespace Mine
section
open PySem PySem.W PyProof.Rows PySem.Calls
set_option maxRecDepth 100000
section
variable {prog : Program} {w : World} {A : Around} {E : Value → Shared → Prop} {s : Shared} {env : Env} {h₀ : Heap} {x : Str} {body : List Stmt} {Q : Flow → Shared → Prop} {σ : Type}

/-- between the turns: the ledger and the frame by a letter, the loop's own name free -/
abbrev Mid (Led : σ → List (Addr × Obj)) (M : σ → Str → Option Value) (x : Str) (P : Nat → σ → Prop) (i : Nat) (m : Str → Option Value) (nx : List (Addr × Obj)) : Prop :=
  ∃ c, nx = Led c ∧ (∀ z, z ≠ x → m z = M c z) ∧ P i c
theorem mid_fr {M : σ → Str → Option Value} {L : Addr} {h : Heap} {v : Value} {m₁ : Str → Option Value} {c : σ} (e : ∀ z, z ≠ x → m₁ z = M c z) (F : Fr h₀ L h (fun y => if y = x then some v else m₁ y)) :
    Fr h₀ L h (fun y => if y = x then some v else M c y) := by
  have : (fun y => if y = x then some v else M c y) = fun y => if y = x then some v else m₁ y := by
    funext y
    by_cases h : y = x
    · rw [if_pos h, if_pos h]
    · rw [if_neg h, if_neg h, e y h]
  rw [this]; exact F
theorem mid_out {M : σ → Str → Option Value} {L : Addr} {h : Heap} {m₁ : Str → Option Value} {c : σ} (e : ∀ z, z ≠ x → m₁ z = M c z) (F : Fr h₀ L h m₁) :
    Fr h₀ L h (fun y => if y = x then m₁ x else M c y) := by
  have : (fun y => if y = x then m₁ x else M c y) = m₁ := by
    funext y
    by_cases h : y = x
    · rw [if_pos h, h]
    · rw [if_neg h, e y h]
  rw [this]; exact F
theorem mid_post {Led : σ → List (Addr × Obj)} {M : σ → Str → Option Value} {P : Nat → σ → Prop} {L : Addr} {i : Nat} {own : List (Addr × Obj)} {adr : List Addr} {s₁ s₂ : Shared} {f : Flow} {lo : Addr × Obj} (hl : ∀ c, lo ∈ Led c)
    (p : InvPostN h₀ L (Mid Led M x P i) own adr s₁ Q f s₂) : InvPostN h₀ L (fun m' nx => lo ∈ nx ∧ Mid Led M x P i m' nx) own adr s₁ Q f s₂ := by
  have up : InvEndN h₀ L (Mid Led M x P i) own adr s₁ s₂ → InvEndN h₀ L (fun m' nx => lo ∈ nx ∧ Mid Led M x P i m' nx) own adr s₁ s₂ := by
    rintro ⟨h', tk', m', news', nx', e, F', N', hn, ho, ha, c, rfl, h1, h2⟩
    exact ⟨h', tk', m', news', _, e, F', N', hn, ho, ha, hl c, c, rfl, h1, h2⟩
  cases f with
  | ret v => exact p
  | brk => exact p
  | next => exact up p
  | cont => exact up p

theorem loop_list {l : Addr} {vs : List Value} {nn : Nat} {m₀ : Str → Option Value} (Led : σ → List (Addr × Obj)) (M : σ → Str → Option Value) (P : Nat → σ → Prop) (c₀ : σ)
    (hh : A.handled = none) (hl : ∀ c, (l, listOf vs.toArray nn) ∈ Led c) (F : Fr h₀ env.locals s.heap m₀) (N : News h₀ env.locals s.heap (Led c₀)) (hm : ∀ z, z ≠ x → m₀ z = M c₀ z) (hp : P 0 c₀)
    (turn : ∀ i v c h tk own, vs[i]? = some v → OwnOff own ((Led c₀).map (·.1)) → P i c → Fr h₀ env.locals h (fun y => if y = x then some v else M c y) → News h₀ env.locals h (Led c ++ own) →
      wpAny (model prog w) A (execs body env) (InvPostN h₀ env.locals (Mid Led M x P (i + 1)) own ((Led c₀).map (·.1)) { s with heap := h, toks := tk } Q) E { s with heap := h, toks := tk })
    (done : ∀ c u h tk, P vs.length c → Fr h₀ env.locals h (fun y => if y = x then u else M c y) → News h₀ env.locals h (Led c) → Q .next { s with heap := h, toks := tk }) :
    wpAny (model prog w) A (pyIter (.ref l)) (fun it s₂ => LoopAtV prog w A h₀ env x body Q E it s₂) E s := by
  refine iter_listV (fun i m nx => Mid Led M x P i m nx) hh (hl c₀) F N ⟨c₀, rfl, hm, hp⟩ ?_ ?_
  · rintro i v m₁ nx h tk own hi _ hoff _ ⟨c, rfl, h1, h2⟩ F₁ N₁
    exact wpAny_mono (turn i v c h tk own hi hoff h2 (mid_fr h1 F₁) N₁) (fun f s₂ p => mid_post hl p) fun _ _ e => e
  · rintro m₁ nx h tk _ ⟨c, rfl, h1, h2⟩ F₁ N₁
    exact done c _ h tk h2 (mid_out h1 F₁) N₁

theorem loop_str {xt : Str} {tx : Tok} {m₀ : Str → Option Value} (Led : σ → List (Addr × Obj)) (M : σ → Str → Option Value) (P : Nat → σ → Prop) (c₀ : σ)
    (hh : A.handled = none) (F : Fr h₀ env.locals s.heap m₀) (N : News h₀ env.locals s.heap (Led c₀)) (hm : ∀ z, z ≠ x → m₀ z = M c₀ z) (hp : P 0 c₀)
    (turn : ∀ i k t c h tk own, xt.cps[i]? = some k → OwnOff own ((Led c₀).map (·.1)) → P i c → Fr h₀ env.locals h (fun y => if y = x then some (.str ⟨#[k]⟩ t) else M c y) → News h₀ env.locals h (Led c ++ own) →
      wpAny (model prog w) A (execs body env) (InvPostN h₀ env.locals (Mid Led M x P (i + 1)) own ((Led c₀).map (·.1)) { s with heap := h, toks := tk } Q) E { s with heap := h, toks := tk })
    (done : ∀ c u h tk, P xt.cps.size c → Fr h₀ env.locals h (fun y => if y = x then u else M c y) → News h₀ env.locals h (Led c) → Q .next { s with heap := h, toks := tk }) :
    wpAny (model prog w) A (pyIter (.str xt tx)) (fun it s₂ => LoopAtV prog w A h₀ env x body Q E it s₂) E s := by
  refine iter_strV (fun i m nx => Mid Led M x P i m nx) hh F N ⟨c₀, rfl, hm, hp⟩ ?_ ?_
  · rintro i k t m₁ nx h tk own hi _ hoff ⟨c, rfl, h1, h2⟩ F₁ N₁
    exact turn i k t c h tk own hi hoff h2 (mid_fr h1 F₁) N₁
  · rintro m₁ nx h tk ⟨c, rfl, h1, h2⟩ F₁ N₁
    exact done c _ h tk h2 (mid_out h1 F₁) N₁

theorem loop_range {r : Addr} {a₀ b₀ s₀ : Int} {t₀ u₀ v₀ : Tok} {n : Nat} {m₀ : Str → Option Value} (Led : σ → List (Addr × Obj)) (M : σ → Str → Option Value) (P : Nat → σ → Prop) (c₀ : σ)
    (hh : A.handled = none) (hr : IsRange s.heap r a₀ b₀ s₀ t₀ u₀ v₀) (hsmall : Builtin.Range.small a₀ b₀ s₀ = true) (hn : Builtin.Range.rangeSize a₀ b₀ s₀ = (n : Int)) (F : Fr h₀ env.locals s.heap m₀) (N : News h₀ env.locals s.heap (Led c₀)) (hm : ∀ z, z ≠ x → m₀ z = M c₀ z) (hp : P 0 c₀)
    (turn : ∀ (i : Nat) t c h tk own, i < n → OwnOff own ((Led c₀).map (·.1)) → P i c → Fr h₀ env.locals h (fun y => if y = x then some (.int (a₀ + i * s₀) t) else M c y) → News h₀ env.locals h (Led c ++ own) →
      wpAny (model prog w) A (execs body env) (InvPostN h₀ env.locals (Mid Led M x P (i + 1)) own ((Led c₀).map (·.1)) { s with heap := h, toks := tk } Q) E { s with heap := h, toks := tk })
    (done : ∀ c u h tk, P n c → Fr h₀ env.locals h (fun y => if y = x then u else M c y) → News h₀ env.locals h (Led c) → Q .next { s with heap := h, toks := tk }) :
    wpAny (model prog w) A (pyIter (.ref r)) (fun it s₂ => LoopAtV prog w A h₀ env x body Q E it s₂) E s := by
  refine iter_rangeV (fun i m nx => Mid Led M x P i m nx) hh hr hsmall hn F N ⟨c₀, rfl, hm, hp⟩ ?_ ?_
  · rintro i t m₁ nx h tk own hi _ hoff ⟨c, rfl, h1, h2⟩ F₁ N₁
    exact turn i t c h tk own hi hoff h2 (mid_fr h1 F₁) N₁
  · rintro m₁ nx h tk ⟨c, rfl, h1, h2⟩ F₁ N₁
    exact done c _ h tk h2 (mid_out h1 F₁) N₁

theorem loop_listC {l : Addr} {vs : List Value} {nn : Nat} {m₀ : Str → Option Value} (Led : σ → List (Addr × Obj)) (P : Nat → σ → Prop) (c₀ : σ)
    (hh : A.handled = none) (hl : ∀ c, (l, listOf vs.toArray nn) ∈ Led c) (F : Fr h₀ env.locals s.heap m₀) (N : News h₀ env.locals s.heap (Led c₀)) (hp : P 0 c₀)
    (turn : ∀ i v c h tk own, vs[i]? = some v → OwnOff own ((Led c₀).map (·.1)) → P i c → Fr h₀ env.locals h (fun y => if y = x then some v else m₀ y) → News h₀ env.locals h (Led c ++ own) →
      wpAny (model prog w) A (execs body env) (InvPostN h₀ env.locals (Mid Led (fun _ => m₀) x P (i + 1)) own ((Led c₀).map (·.1)) { s with heap := h, toks := tk } Q) E { s with heap := h, toks := tk })
    (done : ∀ c u h tk, P vs.length c → Fr h₀ env.locals h (fun y => if y = x then u else m₀ y) → News h₀ env.locals h (Led c) → Q .next { s with heap := h, toks := tk }) :
    wpAny (model prog w) A (pyIter (.ref l)) (fun it s₂ => LoopAtV prog w A h₀ env x body Q E it s₂) E s :=
  loop_list Led (fun _ => m₀) P c₀ hh hl F N (fun _ _ => rfl) hp turn done
theorem loop_rangeC {r : Addr} {a₀ b₀ s₀ : Int} {t₀ u₀ v₀ : Tok} {n : Nat} {m₀ : Str → Option Value} (Led : σ → List (Addr × Obj)) (P : Nat → σ → Prop) (c₀ : σ)
    (hh : A.handled = none) (hr : IsRange s.heap r a₀ b₀ s₀ t₀ u₀ v₀) (hsmall : Builtin.Range.small a₀ b₀ s₀ = true) (hn : Builtin.Range.rangeSize a₀ b₀ s₀ = (n : Int)) (F : Fr h₀ env.locals s.heap m₀) (N : News h₀ env.locals s.heap (Led c₀)) (hp : P 0 c₀)
    (turn : ∀ (i : Nat) t c h tk own, i < n → OwnOff own ((Led c₀).map (·.1)) → P i c → Fr h₀ env.locals h (fun y => if y = x then some (.int (a₀ + i * s₀) t) else m₀ y) → News h₀ env.locals h (Led c ++ own) →
      wpAny (model prog w) A (execs body env) (InvPostN h₀ env.locals (Mid Led (fun _ => m₀) x P (i + 1)) own ((Led c₀).map (·.1)) { s with heap := h, toks := tk } Q) E { s with heap := h, toks := tk })
    (done : ∀ c u h tk, P n c → Fr h₀ env.locals h (fun y => if y = x then u else m₀ y) → News h₀ env.locals h (Led c) → Q .next { s with heap := h, toks := tk }) :
    wpAny (model prog w) A (pyIter (.ref r)) (fun it s₂ => LoopAtV prog w A h₀ env x body Q E it s₂) E s :=
  loop_range Led (fun _ => m₀) P c₀ hh hr hsmall hn F N (fun _ _ => rfl) hp turn done
theorem strVal_at {l : List (Str × Tok)} {ws : List Str} {i : Nat} {v : Value} (e : l.map (·.1) = ws) (h : (strValues l)[i]? = some v) : ∃ y t, v = .str y t ∧ ws[i]? = some y ∧ ws.take (i + 1) = ws.take i ++ [y] := by
  subst e
  unfold strValues at h
  rw [List.getElem?_map] at h
  cases hq : l[i]? with
  | none => rw [hq] at h; cases h
  | some p =>
    rw [hq] at h
    have e1 : (l.map (·.1))[i]? = some p.1 := by rw [List.getElem?_map, hq]; rfl
    exact ⟨p.1, p.2, (Option.some.inj h).symm, e1, by rw [List.take_add_one, e1]; rfl⟩
theorem mid_end {Led : σ → List (Addr × Obj)} {M : σ → Str → Option Value} {P : Nat → σ → Prop} {i : Nat} {L : Addr} {own news' : List (Addr × Obj)} {adr : List Addr} {s₁ : Shared} {h' : Heap} {tk : Nat} {m' : Str → Option Value} (c : σ)
    (F : Fr h₀ L h' m') (N : News h₀ L h' news') (hn : ∀ p ∈ Led c, p ∈ news') (ho : ∀ p ∈ own, p ∈ news') (ha : (Led c).map (·.1) = adr) (hm : ∀ z, z ≠ x → m' z = M c z) (hp : P i c) :
    InvEndN h₀ L (Mid Led M x P i) own adr s₁ { s₁ with heap := h', toks := tk } := ⟨h', tk, m', news', _, rfl, F, N, hn, ho, ha, c, rfl, hm, hp⟩
end

section
variable {A₀ A : Around} {s : Shared} {L : Addr} {h₀ base : Heap} {m mg mb : Str → Option Value} {news : List (Addr × Obj)} {mean : ExcName → Option Value} {Q E : Value → Shared → Prop}
  {name qual : Str} {params : Arguments} {body : List Stmt} {scope : Scope} {dV kV doc pm cdv ct oc : Value} {an od : Option Addr} {osl : Array (Option Value)} {f : Addr} {vs : List Value} {binds : List (Str × Value)}
/-- A contract whose answer is told by a predicate of the heap before, the heap behind and the value. -/
abbrev ConV (D : Nat) (f : Addr) (vs : List Value) (RV : Heap → Heap → Value → Prop) : Prop :=
  ∀ (w : World) (mean : ExcName → Option Value) (mg mb : Str → Option Value) (news : List (Addr × Obj)) (dp un : Nat) (gd : Option (List Code)) (cn : Str) (cs : Scope) (a : Addr) (ccd : Value) (cl : List (Str × Addr)) (outer : List Env) (A₀ : Around) (base h₀ : Heap) (L : Addr) (m : Str → Option Value) (s : Shared) (Q E : Value → Shared → Prop),
    Below A₀ base outer h₀ → Fr h₀ L s.heap m → (KK w.params).In h₀ → News h₀ L s.heap news → Top q0 (looseW q0 loose0) mean mg mb h₀ → cs.kind = .function →
      dp + D < recursionLimit → un + 8 * D < cLine →
      (∀ v h' tk', (∀ b o, s.heap.get? b = some o → h'.get? b = some o) → RV s.heap h' v → Fr h₀ L h' m → News h₀ L h' news → Q v { s with heap := h', toks := tk' }) →
      wpAny (model (OpenLaw.prog PySem.Challenge.rw_rt0055_01) w) (ktrTop dp un gd cn cs L a ccd cl outer) (call (.ref f) vs) Q E s
theorem use_conV {D : Nat} {f : Addr} {vs : List Value} {RV : Heap → Heap → Value → Prop} (c : ConV D f vs RV)
    {w : World} {mean : ExcName → Option Value} {mg mb : Str → Option Value} {news : List (Addr × Obj)} {dp un : Nat} {gd : Option (List Code)} {cn : Str} {cs : Scope} {a : Addr} {ccd : Value} {cl : List (Str × Addr)} {outer : List Env} {A₀ : Around} {base h₀ : Heap} {L : Addr} {m : Str → Option Value} {s : Shared} {Q E : Value → Shared → Prop}
    (k1 : Below A₀ base outer h₀) (k2 : Fr h₀ L s.heap m) (k3 : (KK w.params).In h₀) (k4 : News h₀ L s.heap news) (k5 : Top q0 (looseW q0 loose0) mean mg mb h₀) (kK : cs.kind = .function)
    (kd : dp + D < recursionLimit) (ku : un + 8 * D < cLine) (kR : ∀ v h' tk', (∀ b o, s.heap.get? b = some o → h'.get? b = some o) → RV s.heap h' v → Fr h₀ L h' m → News h₀ L h' news → Q v { s with heap := h', toks := tk' }) :
    wpAny (model (OpenLaw.prog PySem.Challenge.rw_rt0055_01) w) (ktrTop dp un gd cn cs L a ccd cl outer) (call (.ref f) vs) Q E s := c w mean mg mb news dp un gd cn cs a ccd cl outer A₀ base h₀ L m s Q E k1 k2 k3 k4 k5 kK kd ku kR
theorem news_add {h h' : Heap} {a : Addr} {o : Obj} (F : Fr h₀ L h m) (N : News h₀ L h' news) (hn : h.get? a = none) (ha : h'.get? a = some o) : News h₀ L h' ((a, o) :: news) := fun p hp => by
  rcases List.mem_cons.mp hp with rfl | hp
  · refine ⟨ha, fun e => ?_, ?_⟩
    · obtain ⟨oL, _, _, hL, _⟩ := F.ns
      have : h.get? L = none := e ▸ hn
      rw [hL] at this; cases this
    · cases q : h₀.get? a with
      | none => rfl
      | some o' => have := F.keep _ _ q; rw [hn] at this; cases this
  · exact N p hp
def RetV (g : Heap) (s : Shared) (RV : Heap → Heap → Value → Prop) (fl : Flow) (s' : Shared) : Prop :=
  ∃ (v : Value) (h' : Heap) (tk' : Nat), (∀ b o, g.get? b = some o → h'.get? b = some o) ∧ s' = { s with heap := h', toks := tk' } ∧ (match fl with | .ret v => v | _ => .none) = v ∧ RV g h' v
theorem retV_in {g : Heap} {s : Shared} {RV : Heap → Heap → Value → Prop} {v : Value} {h' : Heap} {tk' : Nat} {L : Addr} {m : Str → Option Value} (F : Fr g L h' m) (e : RV g h' v) : RetV g s RV (.ret v) { s with heap := h', toks := tk' } := ⟨v, h', tk', F.keep, rfl, rfl, e⟩

theorem conV_P {D : Nat} {RV : Heap → Heap → Value → Prop}
    (ho : ∀ P, (KK P).lookup f = some ⟨oc, od, .func (fnOf name qual params body scope dV kV doc pm an cdv ct), osl⟩) (hcd : ∀ P, codeIn (KK P) cdv qual = true)
    (hbind : bindArgs (fnOf name qual params body scope dV kV doc pm an cdv ct) ⟨vs, []⟩ = pure binds) (hloc : ∀ y ∈ binds, scope.names.lookup y.1 = some .local)
    (hco : scope.isCoroutine = false) (hgen : scope.isGenerator = false) (hk : scope.kind = .function) (hcell : ∀ x ∈ scope.names, x.2 ≠ .cell)
    (h : ∀ (w : World) (mean : ExcName → Option Value) (mg mb : Str → Option Value) (dp un : Nat) (gd : Option (List Code)) (outer : List Env) (A₀ : Around) (base g h₁ : Heap) (L' : Addr) (s : Shared) (tk : Nat),
      Below A₀ base outer g → Fr g L' h₁ (fun y => binds.reverse.lookup y) → News g L' h₁ [] → (KK w.params).In g → Top q0 (looseW q0 loose0) mean mg mb g →
      dp + D < recursionLimit → un + 8 * D < cLine →
      wpAny (model (OpenLaw.prog PySem.Challenge.rw_rt0055_01) w) (ktrTop dp un gd qual scope L' f cdv [] outer) (execs body (envX qual scope L' f cdv []))
        (RetV g s RV) (fun _ _ => False) { s with heap := h₁, toks := tk }) : ConV (D + 1) f vs RV := by
  intro w mean mg mb news dp un gd cn cs a ccd cl outer A₀ base h₀ L m s Q E B F X N T hck hd hu hret
  have key : ∀ g L' h₁, g = s.heap → Fr h₀ L g m → Fr g L' h₁ (fun y => binds.reverse.lookup y) → News g L' h₁ [] → Below (ktrTop dp un gd cn cs L a ccd cl outer) base (envX cn cs L a ccd cl :: outer) g → (KK w.params).In g → Top q0 (looseW q0 loose0) mean mg mb g →
      wpAny (model (OpenLaw.prog PySem.Challenge.rw_rt0055_01) w) ((ktrTop dp un gd cn cs L a ccd cl outer).deeper (envOf qual scope L' f cdv)) (execs body (envOf qual scope L' f cdv))
        (fun fl s' => (∀ b o, g.get? b = some o → s'.heap.get? b = some o) ∧ (Fr h₀ L s'.heap m → News h₀ L s'.heap news → Q (match fl with | .ret v => v | _ => .none) s'))
        (fun _ _ => False) { s with heap := h₁, toks := s.toks + binds.length } := fun g L' h₁ eg FG F' N' B' X' T' => by
    refine wpAny_mono (h w mean mg mb (dp + 1) (un + 3) gd (envX cn cs L a ccd cl :: outer) _ base g h₁ L' s _ B' F' N' X' T' (by omega) (by omega)) (fun fl s' hr => ?_) fun _ _ x => x
    obtain ⟨v, h', tk', hkeep, rfl, e, hv⟩ := hr
    rw [e]
    subst eg
    exact ⟨hkeep, fun F₁ N₁ => hret v h' tk' hkeep hv F₁ N₁⟩
  exact enterPe (K := KK w.params) B F X N T rfl rfl hck (ho _) (hcd _) (by show dp < recursionLimit; omega) (BindsTo.of_eq hbind) hloc key hco hgen hk hcell
end
end
end Mine
namespace Mine
section
open PySem PySem.W PyProof.Rows PySem.Calls
set_option maxRecDepth 100000
theorem kl_last_app : ∀ (ws : List Value) (v : Value), kl_last (ws ++ [v]) = some (ws, v)
  | [], v => rfl
  | x :: r, v => by
    show kl_last (x :: (r ++ [v])) = _
    unfold kl_last
    rw [kl_last_app r v]
theorem strs_last : ∀ {vs : List Value} {acc : List Str}, StrsAre vs acc → vs.isEmpty = false → ∃ ws z tz acc', vs = ws ++ [.str z tz] ∧ acc = acc' ++ [z] ∧ StrsAre ws acc'
  | _, _, .nil, h => by cases h
  | _, _, .cons y t .nil, _ => ⟨[], y, t, [], rfl, rfl, .nil⟩
  | _, _, .cons y t (.cons y2 t2 r), _ => by
    obtain ⟨ws, z, tz, acc', e1, e2, h⟩ := strs_last (.cons y2 t2 r) rfl
    exact ⟨.str y t :: ws, z, tz, y :: acc', by rw [e1]; rfl, by rw [e2]; rfl, .cons y t h⟩
theorem pick_init (vs : List Value) : slicePick vs.toArray none (some (-1)) none = vs.dropLast.toArray := by
  rw [kms_pick_eq]
  congr 1
  show kms_pick vs none (some (-1)) = _
  unfold kms_pick kms_lo kms_hi
  simp [List.dropLast_eq_take]
theorem strs_init : ∀ {vs : List Value} {acc : List Str}, StrsAre vs acc → StrsAre vs.dropLast acc.dropLast
  | _, _, .nil => .nil
  | _, _, .cons y t .nil => .nil
  | _, _, .cons y t (.cons y2 t2 r) => .cons y t (strs_init (.cons y2 t2 r))
theorem strs_snoc' {us : List Value} {ws : List Str} {x : Str} {t : Tok} (h : StrsAre us ws) : StrsAre (us ++ [.str x t]) (ws ++ [x]) := h.append' (.cons _ _ .nil)
section
variable {prog : Program} {w : World} {A : Around} {E : Value → Shared → Prop} {s : Shared}
theorem sub_last {value slice : PySem.Expr} {l : Addr} {ws : List Value} {v : Value} {u : Tok} {Q : Value → Shared → Prop} (hl : s.heap.IsList l (ws ++ [v]).toArray) (hz : ws.length ≤ 100000) (h : Q v s)
    (hs : subscripted slice false (.ref l) (.int (-1) u) = operate [.ref l, .int (-1) u] (getItem (.ref l) (.int (-1) u)) := by with_unfolding_all rfl) :
    wpAny (model prog w) A (subscriptTail value slice (.ref l) (.int (-1) u)) Q E s :=
  tail_any hl.typeIs slot_list_getitem.lookup (wpAny_getItem_list_neg hl (by decide) (by rw [List.size_toArray, List.length_append]; simp; omega) (by decide) (by
    have : ((-1 : Int) + ((ws ++ [v]).toArray.size : Nat)).toNat = ws.length := by rw [List.size_toArray, List.length_append]; simp; omega
    rw [this]; simp) h) hs
end
end
end Mine
namespace Mine
section
open PySem PySem.W PyProof.Rows PySem.Calls
set_option maxRecDepth 100000
section
variable {prog : Program} {w : World} {A : Around} {E : Value → Shared → Prop} {s : Shared} {env : Env} {h₀ : Heap} {x : Str} {body : List Stmt} {Q : Flow → Shared → Prop} {σ : Type}
/-- A turn's end where the ledger's addresses may turn. -/
def EndM (h₀ : Heap) (L : Addr) (Led : σ → List (Addr × Obj)) (M : σ → Str → Option Value) (x : Str) (P : Nat → σ → Prop) (i : Nat) (I : Addr) (oI : Obj) (s₁ s₂ : Shared) : Prop :=
  ∃ h' tk m' news' c, s₂ = { s₁ with heap := h', toks := tk } ∧ Fr h₀ L h' m' ∧ News h₀ L h' news' ∧ (∀ p ∈ Led c, p ∈ news') ∧ (I, oI) ∈ news' ∧ (∀ p ∈ Led c, p.1 ≠ I) ∧ (∀ z, z ≠ x → m' z = M c z) ∧ P i c
def PostM (h₀ : Heap) (L : Addr) (Led : σ → List (Addr × Obj)) (M : σ → Str → Option Value) (x : Str) (P : Nat → σ → Prop) (i : Nat) (I : Addr) (oI : Obj) (s₁ : Shared) (Q : Flow → Shared → Prop) (f : Flow) (s₂ : Shared) : Prop :=
  match f with
  | .ret v => Q (.ret v) s₂
  | .brk => Q .next s₂
  | _ => EndM h₀ L Led M x P i I oI s₁ s₂

theorem loop_valsM {l : Addr} {o io : Obj} {vs : List Value} {m₀ : Str → Option Value} {St : Nat → Heap → Prop} (Led : σ → List (Addr × Obj)) (M : σ → Str → Option Value) (P : Nat → σ → Prop) (c₀ : σ)
    (hl : ∀ c, (l, o) ∈ Led c) (F : Fr h₀ env.locals s.heap m₀) (N : News h₀ env.locals s.heap (Led c₀)) (hm : ∀ z, z ≠ x → m₀ z = M c₀ z) (hp : P 0 c₀)
    (W : Walks prog w A s.heap.objs.size [s.heap.objs.size, l] [s.heap.objs.size] vs.length (fun i v => vs[i]? = some v) St)
    (hst : St 0 (s.heap.push io)) (hI : ∀ i h, St i h → ∃ oI, h.get? s.heap.objs.size = some oI ∧ oI.cls ≠ .type "list")
    (itr : ∀ Q' : Value → Shared → Prop, Q' (.ref s.heap.objs.size) { s with heap := s.heap.push io } → wpAny (model prog w) A (pyIter (.ref l)) Q' E s)
    (turn : ∀ i v c h tk I oI, oI.cls ≠ .type "list" → vs[i]? = some v → (∀ p ∈ Led c, p.1 ≠ I) → P i c → Fr h₀ env.locals h (fun y => if y = x then some v else M c y) → News h₀ env.locals h (Led c ++ [(I, oI)]) →
      wpAny (model prog w) A (execs body env) (PostM h₀ env.locals Led M x P (i + 1) I oI { s with heap := h, toks := tk } Q) E { s with heap := h, toks := tk })
    (done : ∀ c u h tk, P vs.length c → Fr h₀ env.locals h (fun y => if y = x then u else M c y) → News h₀ env.locals h (Led c) → Q .next { s with heap := h, toks := tk }) :
    wpAny (model prog w) A (pyIter (.ref l)) (fun it s₂ => LoopAtV prog w A h₀ env x body Q E it s₂) E s := by
  have hol : s.heap.get? l = some o := (N _ (hl c₀)).1
  refine itr _ ?_
  refine ⟨_, _, _, vs.length, _, St, m₀, Led c₀, (fun i m nx => ∃ c, nx = Led c ∧ (∀ z, z ≠ x → m z = M c z) ∧ P i c), rfl, W, ?_, ?_, ?_, hst, F.push _, (fun p hp => ⟨Heap.get?_push_of_some _ (N p hp).1, (N p hp).2⟩), ⟨c₀, rfl, hm, hp⟩, ?_, ?_⟩
  · intro hm
    rcases List.mem_cons.mp hm with e | hm
    · exact absurd F.ns.lt (e ▸ Nat.lt_irrefl _)
    · exact (N _ (hl c₀)).2.1 ((List.mem_singleton.mp hm).symm)
  · intro b hb
    rw [List.mem_singleton.mp hb]
    exact next_is_new F
  · intro p hp hI
    exact absurd (Heap.lt_size (N p hp).1) ((List.mem_singleton.mp hI) ▸ Nat.lt_irrefl _)
  · rintro i v m₁ news₁ s₁ own ⟨hh', tk', rfl⟩ hin hP ⟨c, rfl, h1, h2⟩ hoff hown hget hfp hst₁ F₁ N₁
    obtain ⟨oI, heI, hcI⟩ := hI _ _ hst₁
    have hIo : (s.heap.objs.size, oI) ∈ own := hfp _ List.mem_cons_self (next_is_new F) _ heI
    have N₂ : News h₀ env.locals hh' (Led c ++ [(s.heap.objs.size, oI)]) := fun p hp => N₁ p ((List.mem_append.mp hp).elim (fun h => List.mem_append.mpr (.inr h)) fun h => List.mem_append.mpr (.inl (by rw [List.mem_singleton.mp h]; exact hIo)))
    have hlo : hh'.get? l = some o := (N₁ _ (List.mem_append.mpr (.inr (hl c)))).1
    have hoI : ∀ p ∈ Led c, p.1 ≠ s.heap.objs.size := fun p hp e => hoff p hp (List.mem_singleton.mpr e)
    refine wpAny_mono (turn i v c hh' tk' _ oI hcI hP hoI h2 (mid_fr h1 F₁) N₂) (fun f s₂ p => ?_) fun _ _ e => e
    have fin : EndM h₀ env.locals Led M x P (i + 1) s.heap.objs.size oI { s with heap := hh', toks := tk' } s₂ →
        LoopStepU h₀ env.locals [s.heap.objs.size] own (fun m nx => ∃ c, nx = Led c ∧ (∀ z, z ≠ x → m z = M c z) ∧ P (i + 1) c) { s with heap := hh', toks := tk' } .next s₂ := by
      rintro ⟨h', tk, m', news', c', e, F', N', hn, hi, ho, hm', hp'⟩
      refine ⟨rfl, h', tk, m', Led c', e, F', fun p hp => ?_, fun p hp hI => ho p hp (List.mem_singleton.mp hI), c', rfl, hm', hp'⟩
      rcases List.mem_append.mp hp with h | h
      · rcases List.mem_cons.mp (hown p h) with h2 | h2
        · have h3 : hh'.get? p.1 = some p.2 := hget p h
          rw [h2, heI] at h3
          have h4 : p = (s.heap.objs.size, oI) := Prod.ext h2 (Option.some.inj h3).symm
          rw [h4]; exact N' _ hi
        · have h1 : p.1 = l := List.mem_singleton.mp h2
          have h3 : hh'.get? p.1 = some p.2 := hget p h
          rw [h1, hlo] at h3
          have h4 : p = (l, o) := Prod.ext h1 (Option.some.inj h3).symm
          rw [h4]
          exact N' _ (hn _ (hl c'))
      · exact N' p (hn p h)
    cases f with
    | ret v => exact .ret p
    | brk => exact .brk p
    | next => exact .next (fin p)
    | cont => exact .cont (fin p)
  · rintro h' tk m' news' F' N' _ ⟨c, rfl, h1, h2⟩
    exact done c _ h' tk h2 (mid_out h1 F') N'

theorem loop_listM {l : Addr} {vs : List Value} {nn : Nat} {m₀ : Str → Option Value} (Led : σ → List (Addr × Obj)) (M : σ → Str → Option Value) (P : Nat → σ → Prop) (c₀ : σ)
    (hh : A.handled = none) (hl : ∀ c, (l, listOf vs.toArray nn) ∈ Led c) (F : Fr h₀ env.locals s.heap m₀) (N : News h₀ env.locals s.heap (Led c₀)) (hm : ∀ z, z ≠ x → m₀ z = M c₀ z) (hp : P 0 c₀)
    (turn : ∀ i v c h tk I oI, oI.cls ≠ .type "list" → vs[i]? = some v → (∀ p ∈ Led c, p.1 ≠ I) → P i c → Fr h₀ env.locals h (fun y => if y = x then some v else M c y) → News h₀ env.locals h (Led c ++ [(I, oI)]) →
      wpAny (model prog w) A (execs body env) (PostM h₀ env.locals Led M x P (i + 1) I oI { s with heap := h, toks := tk } Q) E { s with heap := h, toks := tk })
    (done : ∀ c u h tk, P vs.length c → Fr h₀ env.locals h (fun y => if y = x then u else M c y) → News h₀ env.locals h (Led c) → Q .next { s with heap := h, toks := tk }) :
    wpAny (model prog w) A (pyIter (.ref l)) (fun it s₂ => LoopAtV prog w A h₀ env x body Q E it s₂) E s := by
  have hol : s.heap.get? l = some (listOf vs.toArray nn) := (N _ (hl c₀)).1
  have hls : s.heap.IsList l vs.toArray := ⟨_, hol, rfl, nn, rfl⟩
  have hne : l ≠ s.heap.objs.size := Nat.ne_of_lt (Heap.lt_size hol)
  have W := Walks.list (prog := prog) (w := w) hh s.heap.objs.size l hne vs.toArray
  rw [List.size_toArray] at W
  simp only [List.getElem?_toArray] at W
  exact loop_valsM Led M P c₀ hl F N hm hp W ⟨⟨_, Heap.get?_push_size _ rfl, rfl, rfl⟩, hls.at fun o e => Heap.get?_push_of_some _ e⟩ (fun i h st => by obtain ⟨o, e, hc, _⟩ := st.1; exact ⟨o, e, by rw [hc]; decide⟩) (fun Q' h => wpAny_pyIter_list hls h) turn done

theorem hm_of {y : Str} {v : Option Value} {m₀ : Str → Option Value} (h : m₀ y = v) : ∀ z, z ≠ x → m₀ z = if z = y then v else m₀ z := fun z _ => by
  by_cases e : z = y
  · rw [if_pos e, e, h]
  · rw [if_neg e]
theorem loop_listN {l : Addr} {vs : List Value} {nn : Nat} {m₀ : Str → Option Value} (y : Str) (adr : σ → Addr) (Led : σ → List (Addr × Obj)) (P : Nat → σ → Prop) (c₀ : σ)
    (hh : A.handled = none) (hl : ∀ c, (l, listOf vs.toArray nn) ∈ Led c) (F : Fr h₀ env.locals s.heap m₀) (hy : m₀ y = some (.ref (adr c₀))) (N : News h₀ env.locals s.heap (Led c₀)) (hp : P 0 c₀)
    (turn : ∀ i v c h tk I oI, oI.cls ≠ .type "list" → vs[i]? = some v → (∀ p ∈ Led c, p.1 ≠ I) → P i c → Fr h₀ env.locals h (fun z => if z = x then some v else if z = y then some (.ref (adr c)) else m₀ z) → News h₀ env.locals h (Led c ++ [(I, oI)]) →
      wpAny (model prog w) A (execs body env) (PostM h₀ env.locals Led (fun c z => if z = y then some (.ref (adr c)) else m₀ z) x P (i + 1) I oI { s with heap := h, toks := tk } Q) E { s with heap := h, toks := tk })
    (done : ∀ c u h tk, P vs.length c → Fr h₀ env.locals h (fun z => if z = x then u else if z = y then some (.ref (adr c)) else m₀ z) → News h₀ env.locals h (Led c) → Q .next { s with heap := h, toks := tk }) :
    wpAny (model prog w) A (pyIter (.ref l)) (fun it s₂ => LoopAtV prog w A h₀ env x body Q E it s₂) E s :=
  loop_listM Led (fun c z => if z = y then some (.ref (adr c)) else m₀ z) P c₀ hh hl F N (hm_of hy) hp turn done
theorem end_hm {y : Str} {v : Option Value} {m₀ m' : Str → Option Value} (h : m' y = v) (h' : ∀ z, z ≠ x → z ≠ y → m' z = m₀ z) : ∀ z, z ≠ x → m' z = if z = y then v else m₀ z := fun z hz => by
  by_cases e : z = y
  · rw [if_pos e, e, h]
  · rw [if_neg e]; exact h' z hz e
theorem list_ne {L : Addr} {h : Heap} {a I : Addr} {oI : Obj} {its : Array Value} {n : Nat} {news : List (Addr × Obj)} (N : News h₀ L h news) (h1 : (a, ({ cls := .type "list", data := .seq its n } : Obj)) ∈ news) (h2 : (I, oI) ∈ news) (hc : oI.cls ≠ .type "list") : a ≠ I := fun e => by
  subst e
  have e1 : h.get? a = some { cls := .type "list", data := .seq its n } := (N _ h1).1
  have e2 : h.get? a = some oI := (N _ h2).1
  rw [e1] at e2
  have e3 : ({ cls := .type "list", data := .seq its n } : Obj) = oI := Option.some.inj e2
  exact hc (by rw [← e3])
theorem endM_in {L : Addr} {Led : σ → List (Addr × Obj)} {M : σ → Str → Option Value} {P : Nat → σ → Prop} {i : Nat} {I : Addr} {oI : Obj} {s₁ : Shared} {h' : Heap} {tk : Nat} {m' : Str → Option Value} {news' : List (Addr × Obj)} (c : σ)
    (F : Fr h₀ L h' m') (N : News h₀ L h' news') (hn : ∀ p ∈ Led c, p ∈ news') (hi : (I, oI) ∈ news') (ho : ∀ p ∈ Led c, p.1 ≠ I) (hm : ∀ z, z ≠ x → m' z = M c z) (hp : P i c) :
    PostM h₀ L Led M x P i I oI s₁ Q .next { s₁ with heap := h', toks := tk } := ⟨h', tk, m', news', c, rfl, F, N, hn, hi, ho, hm, hp⟩
end
end
end Mine
namespace Mine
section
open PySem PySem.W PyProof.Rows PySem.Calls
set_option maxRecDepth 100000
section
variable {prog : Program} {w : World} {A : Around} {E : Value → Shared → Prop} {s : Shared} {env : Env} {h₀ : Heap} {x : Str} {body : List Stmt} {Q : Flow → Shared → Prop} {σ : Type}
theorem loop_strN {xt : Str} {tx : Tok} {m₀ : Str → Option Value} (y : Str) (pr : σ → Option Value) (Led : σ → List (Addr × Obj)) (P : Nat → σ → Prop) (c₀ : σ)
    (hh : A.handled = none) (F : Fr h₀ env.locals s.heap m₀) (hy : m₀ y = pr c₀) (N : News h₀ env.locals s.heap (Led c₀)) (hp : P 0 c₀)
    (turn : ∀ i k t c h tk own, xt.cps[i]? = some k → OwnOff own ((Led c₀).map (·.1)) → P i c → Fr h₀ env.locals h (fun z => if z = x then some (.str ⟨#[k]⟩ t) else if z = y then pr c else m₀ z) → News h₀ env.locals h (Led c ++ own) →
      wpAny (model prog w) A (execs body env) (InvPostN h₀ env.locals (Mid Led (fun c z => if z = y then pr c else m₀ z) x P (i + 1)) own ((Led c₀).map (·.1)) { s with heap := h, toks := tk } Q) E { s with heap := h, toks := tk })
    (done : ∀ c u h tk, P xt.cps.size c → Fr h₀ env.locals h (fun z => if z = x then u else if z = y then pr c else m₀ z) → News h₀ env.locals h (Led c) → Q .next { s with heap := h, toks := tk }) :
    wpAny (model prog w) A (pyIter (.str xt tx)) (fun it s₂ => LoopAtV prog w A h₀ env x body Q E it s₂) E s :=
  loop_str Led (fun c z => if z = y then pr c else m₀ z) P c₀ hh F N (hm_of hy) hp turn done
theorem loop_rangeN {r : Addr} {a₀ b₀ s₀ : Int} {t₀ u₀ v₀ : Tok} {n : Nat} {m₀ : Str → Option Value} (y : Str) (pr : σ → Option Value) (Led : σ → List (Addr × Obj)) (P : Nat → σ → Prop) (c₀ : σ)
    (hh : A.handled = none) (hr : IsRange s.heap r a₀ b₀ s₀ t₀ u₀ v₀) (hsmall : Builtin.Range.small a₀ b₀ s₀ = true) (hn : Builtin.Range.rangeSize a₀ b₀ s₀ = (n : Int)) (F : Fr h₀ env.locals s.heap m₀) (hy : m₀ y = pr c₀) (N : News h₀ env.locals s.heap (Led c₀)) (hp : P 0 c₀)
    (turn : ∀ (i : Nat) t c h tk own, i < n → OwnOff own ((Led c₀).map (·.1)) → P i c → Fr h₀ env.locals h (fun z => if z = x then some (.int (a₀ + i * s₀) t) else if z = y then pr c else m₀ z) → News h₀ env.locals h (Led c ++ own) →
      wpAny (model prog w) A (execs body env) (InvPostN h₀ env.locals (Mid Led (fun c z => if z = y then pr c else m₀ z) x P (i + 1)) own ((Led c₀).map (·.1)) { s with heap := h, toks := tk } Q) E { s with heap := h, toks := tk })
    (done : ∀ c u h tk, P n c → Fr h₀ env.locals h (fun z => if z = x then u else if z = y then pr c else m₀ z) → News h₀ env.locals h (Led c) → Q .next { s with heap := h, toks := tk }) :
    wpAny (model prog w) A (pyIter (.ref r)) (fun it s₂ => LoopAtV prog w A h₀ env x body Q E it s₂) E s :=
  loop_range Led (fun c z => if z = y then pr c else m₀ z) P c₀ hh hr hsmall hn F N (hm_of hy) hp turn done
end
end
end Mine
namespace Mine
section
open PySem PySem.W PyProof.Rows PySem.Calls
set_option maxRecDepth 100000
open PySem.Sem (wp)
/-- A code that holds no one's buffer. -/
def Off : Code → Bool
  | .builtin id _ => !guardIds.contains id && !Builtin.Bytes.decodersThatHold.contains id
  | _ => true
def SafeL (l : List (Code × Pos)) : Prop := ∀ x ∈ l, Off x.1 = true
def Safe (Γ : Ctx) : Prop := Off Γ.code = true ∧ SafeL Γ.below
def wpS {α : Type} (M : Model) (A : Around) (t : Sem α) (Q : α → Shared → Prop) (E : Value → Shared → Prop) (s : Shared) : Prop :=
  ∀ Γ p, Γ.In A → Safe Γ → wp M Γ t (fun a _ s' => Q a s') (fun e _ s' => E e s') p s
def codeS (M : Model) (A : Around) (c : Code) (R : Result → Shared → Prop) (s : Shared) : Prop :=
  ∀ Γ p, Γ.code = c → Γ.Below A → SafeL Γ.below → wpCode M Γ R p s
section
variable {α β : Type} {M : Model} {A : Around} {E : Value → Shared → Prop} {s : Shared}
theorem wpS_of {t : Sem α} {Q : α → Shared → Prop} (h : wpAny M A t Q E s) : wpS M A t Q E s := fun Γ p hΓ _ => h Γ p hΓ
theorem codeS_of {c : Code} {R : Result → Shared → Prop} (h : codeAny M A c R s) : codeS M A c R s := fun Γ p hc hΓ _ => h Γ p hc hΓ
theorem wpS_pure {a : α} {Q : α → Shared → Prop} (h : Q a s) : wpS M A (pure a) Q E s := fun _ _ _ _ => h
theorem wpS_mono {t : Sem α} {Q Q' : α → Shared → Prop} {E' : Value → Shared → Prop} (h : wpS M A t Q E s) (hQ : ∀ a s, Q a s → Q' a s) (hE : ∀ e s, E e s → E' e s) : wpS M A t Q' E' s :=
  fun Γ p hΓ hs => Sem.wp_mono M Γ t (fun a _ s => hQ a s) (fun e _ s => hE e s) p s (h Γ p hΓ hs)
theorem wpS_bind {m : Sem α} {f : α → Sem β} {Q : β → Shared → Prop} (h : wpS M A m (fun a s' => wpS M A (f a) Q E s') E s) : wpS M A (m >>= f) Q E s := fun Γ p hΓ hs => by
  rw [Sem.wp_bind']
  exact Sem.wp_mono M Γ m (fun a p' s' h' => h' Γ p' hΓ hs) (fun _ _ _ h' => h') p s (h Γ p hΓ hs)
/-- the head by the library's walk, the rest by wpS -/
theorem wpS_head {m : Sem α} {f : α → Sem β} {Q : β → Shared → Prop} (h : wpAny M A m (fun a s' => wpS M A (f a) Q E s') E s) : wpS M A (m >>= f) Q E s := wpS_bind (wpS_of h)
theorem wpS_onRaise {m : Sem α} {k : Value → Sem Unit} {Q : α → Shared → Prop} (h : wpS M A m Q (fun e s' => wpS M A (k e) (fun _ s'' => E e s'') E s') s) : wpS M A (m.onRaise k) Q E s := fun Γ p hΓ hs => by
  rw [Sem.wp_onRaise]
  exact Sem.wp_mono M Γ m (fun _ _ _ h' => h') (fun e p' s' h' => h' Γ p' hΓ hs) p s (h Γ p hΓ hs)
theorem wpS_holding {vs : List Value} {m : Sem α} {Q : α → Shared → Prop} (h : wpS M A m Q E s) : wpS M A (holding vs m) Q E s := fun Γ p hΓ hs => by rw [Sem.wp_holding]; exact h Γ p hΓ hs
theorem codeS_mono {c : Code} {R R' : Result → Shared → Prop} (h : codeS M A c R s) (hR : ∀ r s, R r s → R' r s) : codeS M A c R' s := fun Γ p hc hΓ hs => wpCode_mono hR (h Γ p hc hΓ hs)
theorem wpS_runValue {c : Code} {Q : Value → Shared → Prop} (hc : codeS M A c (fun r s' => match r with | .ok (.ret v) => Q v s' | .ok _ => False | .error e => E e s') s) : wpS M A (runValue c) Q E s := fun Γ p hΓ hs => by
  rw [Sem.wp_runValue]
  refine hc _ p rfl (hΓ.enter c none p (by intro x; cases x)) fun x hx => ?_
  rcases List.mem_cons.mp hx with rfl | hx
  · exact hs.1
  · exact hs.2 x hx
theorem wpS_call {f : Value} {pos : List Value} {kw : List (Str × Value)} {Q : Value → Shared → Prop}
    (hc : codeS M A (.call f ⟨pos, kw⟩) (fun r s' => match r with | .ok (.ret v) => Q v s' | .ok _ => False | .error e => E e s') s) : wpS M A (call f pos kw) Q E s := wpS_runValue hc
theorem codeS_of_tree {c : Code} {R : Result → Shared → Prop} (ho : Off c = true)
    (h : wpS M (A.under c) (M.den c) (fun fin s' => match fin with | .done f => R (.ok f) s' | .again c' => c'.quiet = true ∧ codeS M A c' R s') (fun e s' => R (.error e) s') s) : codeS M A c R s := fun Γ p hc hΓ hs => by
  rw [wpCode_iff_wp, hc]
  refine Sem.wp_mono M Γ _ (fun fin p' s' h' => ?_) (fun _ _ _ h' => h') p s (h Γ p (hc ▸ hΓ.in) ⟨hc ▸ ho, hs⟩)
  cases fin with
  | done f => exact h'
  | again c' => exact ⟨h'.1, h'.2 (Γ.goto c') p' rfl (hΓ.goto c') hs⟩
/-- No one holds a buffer: what the library's predicate cannot say. -/
theorem wpS_exported {self : Value} {Q : Bool → Shared → Prop} (h : Q false s) : wpS M A (Builtin.Bytes.exported self) Q E s := fun Γ p hΓ hs => by
  unfold Builtin.Bytes.exported
  show Q (((Γ.code, p) :: Γ.below).any _) s
  rw [List.any_eq_false.mpr]
  · exact h
  · intro x hx
    have hx : Off x.1 = true := by
      rcases List.mem_cons.mp hx with rfl | hx
      · exact hs.1
      · exact hs.2 x hx
    split <;> (try (exfalso; revert hx; simp [Off, guardIds]; done)) <;> (try simp)
    all_goals (revert hx; simp [Off])
    all_goals exact fun _ h2 _ => h2
end
section
variable {prog : Program} {w : World} {A₀ A : Around} {s : Shared} {K : Frag} {L : Addr} {h₀ base : Heap} {m mg mb : Str → Option Value} {news : List (Addr × Obj)} {p : Program} {loose : List Str} {mean : ExcName → Option Value} {Q E : Value → Shared → Prop} {R : Result → Shared → Prop}
  {env : Env} {outer : List Env} {name qual : Str} {params : Arguments} {body : List Stmt} {scope : Scope} {dV kV doc pm cdv ct oc : Value} {an od : Option Addr} {osl : Array (Option Value)} {f : Addr} {vs : List Value} {binds : List (Str × Value)}
theorem wpS_execs_nil {Q : Flow → Shared → Prop} (h : Q .next s) : wpS (model prog w) A (execs [] env) Q E s := wpS_of (wpAny_execs_nil h)
theorem wpS_execs_cons {st : Stmt} {rest : List Stmt} {Q : Flow → Shared → Prop}
    (h : wpS (model prog w) A (exec st env) (fun f s' => match f with | .next => wpS (model prog w) A (execs rest env) Q E s' | f => Q f s') E s) :
    wpS (model prog w) A (execs (st :: rest) env) Q E s := fun Γ p hΓ hs => by
  rw [execs_cons, Sem.wp_bind']
  refine Sem.wp_mono _ Γ _ (fun f p' s' h' => ?_) (fun _ _ _ h' => h') _ _ (h Γ p hΓ hs)
  cases f <;> first | exact h' Γ p' hΓ hs | exact h'
/-- a statement that asks nothing of the stack -/
theorem wpS_execs_one {st : Stmt} {rest : List Stmt} {Q : Flow → Shared → Prop}
    (h : wpAny (model prog w) A (exec st env) (fun f s' => match f with | .next => wpS (model prog w) A (execs rest env) Q E s' | f => Q f s') E s) :
    wpS (model prog w) A (execs (st :: rest) env) Q E s := wpS_execs_cons (wpS_of h)
theorem codeS_func {body : List Stmt} {env : Env} (h : wpS (model prog w) (A.deeper env) (execs body env) (fun f s' => R (.ok (.ret (match f with | .ret v => v | _ => .none))) s') (fun _ _ => False) s) :
    codeS (model prog w) A (.func body env) R s := by
  refine codeS_of_tree rfl ?_
  show wpS _ (A.deeper env) (do point; match ← (execs body env).onRaise (leaving env) with | .ret v => ret v | _ => ret .none) _ _ s
  refine wpS_bind (wpS_of (wpAny_point (wpS_bind (wpS_onRaise (wpS_mono h (fun f s' h' => ?_) fun _ _ h' => h'.elim)))))
  cases f <;> exact wpS_pure h'
theorem codeS_call_function {a : Addr} {args : Args} {o : Obj} {fd : FuncData} {body : List Stmt} (hroom : A.depth < recursionLimit) (ho : s.heap.get? a = some o)
    (hd' : o.data = .func fd) (hco : fd.scope.isCoroutine = false) (hgen : fd.scope.isGenerator = false) (hbody : fd.body = .stmts body) (hcd : s.heap.CodeRec fd.code fd.qualname)
    (h : wpAny (model prog w) A.in1 (bindArgs fd args) (fun binds s₁ =>
      wpAny (model prog w) A.in1 (newFunctionEnv fd.scope fd.globals fd.closure binds (fd.qualname ++ ".<locals>.") (some a) fd.code none fd.builtins)
        (fun env s₂ => s₂.heap.NoLimit ∧ codeS (model prog w) A (.func body env) R s₂) (fun e s' => R (.error e) s') s₁) (fun e s' => R (.error e) s') s) :
    codeS (model prog w) A (.call (.ref a) args) R s := by
  refine codeS_of_tree rfl (wpS_of ?_)
  show wpAny _ A.in1 (callAny (.ref a) args) _ _ s
  simp only [callAny]
  refine wpAny_bind (wpAny_load ho ?_)
  obtain ⟨c, oc, vs, tq, hc, hoc, hdc, hq⟩ := hcd
  simp only [hd', callFunction, hco, hgen, hbody, hc]
  rw [hc] at h
  refine wpAny_bind (m := field (.ref c) 1) (wpAny_field hoc hdc hq (wpAny_bind (wpAny_pure ?_)))
  exact wpAny_bind (wpAny_mono h (fun binds s₁ h₁ => wpAny_bind (wpAny_mono h₁ (fun env s₂ h₂ => wpAny_bind (wpAny_enterFrame h₂.1 hroom
    (wpAny_pure (And.intro rfl h₂.2)))) fun _ _ h' => h')) fun _ _ h' => h')
/-- A plain def is entered, its body told by wpS. -/
theorem enterS (B : Below A₀ base outer h₀) (F : Fr h₀ L s.heap m) (X₀ : K.In h₀) (N : News h₀ L s.heap news) (T : Top p loose mean mg mb h₀) (hA : A.frames = some (env :: outer)) (hf : env.frame = some L) (hke : env.scope.kind = .function)
    (ho : K.lookup f = some ⟨oc, od, .func (fnOf name qual params body scope dV kV doc pm an cdv ct), osl⟩) (hcd : codeIn K cdv qual = true) (hroom : A.depth < recursionLimit)
    (hbind : BindsTo s (fnOf name qual params body scope dV kV doc pm an cdv ct) ⟨vs, []⟩ binds) (hloc : ∀ y ∈ binds, scope.names.lookup y.1 = some .local)
    (h : ∀ g L' h₁, Fr h₀ L g m → Fr g L' h₁ (fun y => binds.reverse.lookup y) → News g L' h₁ [] → Below A base (env :: outer) g → K.In g → Top p loose mean mg mb g →
      wpS (model prog w) (A.deeper (envOf qual scope L' f cdv)) (execs body (envOf qual scope L' f cdv))
        (fun fl s' => (∀ b o, g.get? b = some o → s'.heap.get? b = some o) ∧ (Fr h₀ L s'.heap m → News h₀ L s'.heap news → Q (match fl with | .ret v => v | _ => .none) s'))
        (fun _ _ => False)
        { s with heap := h₁, toks := s.toks + binds.length })
    (hco : scope.isCoroutine = false) (hgen : scope.isGenerator = false) (hk : scope.kind = .function)
    (hcell : ∀ x ∈ scope.names, x.2 ≠ .cell) : wpS (model prog w) A (call (.ref f) vs []) Q E s := by
  have N₀ : News h₀ L s.heap [] := News.nil
  obtain ⟨FG, BG, st, _⟩ := groundX (R := fun _ _ => True) B F N₀ hA hf hke
  refine wpS_call (codeS_call_function (fd := fnOf name qual params body scope dV kV doc pm an cdv ct) (body := body) hroom ((X₀.keeps F.keep) _ _ ho) rfl hco hgen rfl (codeRec_of (X₀.keeps F.keep) hcd) (hbind _ _ _ _ ?_))
  refine wpAny_newFunctionEnv hcell hloc (fun h₁ hns hsb => ⟨(T.nolimit.keeps F.keep).fresh _ hsb, codeS_func ?_⟩) hk
  have hk₁ : ∀ b o, s.heap.get? b = some o → h₁.get? b = some o := fun b o e => hsb.extBut b o (Nat.ne_of_lt (Heap.lt_size e)) (Heap.get?_push_of_some _ e)
  refine wpS_mono (h s.heap s.heap.objs.size h₁ FG ⟨hns, fun b o e => hk₁ b o e, Nat.le_refl _⟩ News.nil BG (X₀.keeps F.keep) (T.keeps F.keep)) (fun fl s' hl => ?_) fun _ _ y => y.elim
  exact hl.2 (F.keeps hl.1) (back_news N hl.1)
end
end
end Mine
namespace Mine
section
open PySem PySem.W PyProof.Rows PySem.Calls
set_option maxRecDepth 100000
open PySem.Sem (wp)
theorem ba_mro : mroOf (.type "bytearray") = pure [.type "bytearray", .type "object"] := by rw [mroOf_type]; kernel_rfl
theorem ba_lookup_new : typeLookup (.type "bytearray") "__new__" = pure (some (.builtin "bytearray.__new__")) := by rw [typeLookup_type, builtinLookup_eq_fast]; kernel_rfl
theorem ba_slot_init : Slot "bytearray" "__init__" "bytearray.__init__" :=
  .of (owner := "bytearray") (n := "__init__") (by rw [typeLookup_type, builtinLookup_eq_fast]; kernel_rfl) (by decide +kernel) (by decide +kernel) (by decide +kernel)
    (by first | exact .inl (by decide +kernel) | exact .inr (by decide +kernel)) (by rw [isSubtype_type]; kernel_rfl)
theorem ba_called : TypeCalled "bytearray" "bytearray.__new__" "bytearray.__init__" :=
  ⟨by decide +kernel, by decide +kernel, ⟨_, _, ba_mro⟩, madeBy_type ba_mro ba_lookup_new (by decide +kernel), by decide +kernel, by rw [isSubtype_type]; kernel_rfl, ba_slot_init⟩
theorem ba_typeCall (a : Value) : checkTypeCall "bytearray" ⟨[a], []⟩ = pure () := by kernel_rfl
theorem ba_newCall (a : Value) : checkBuiltinCall "bytearray.__new__" ⟨[.type "bytearray", a], []⟩ = pure () := by kernel_rfl
theorem ba_plain : plainId "bytearray.__new__" = true := by decide +kernel
theorem ba_plain_init : plainId "bytearray.__init__" = true := by decide +kernel
theorem ba_entry_init : entryFor table "bytearray.__init__" = some Builtin.«bytearray.__init__» := by first | exact entryFor_of_fast (by kernel_rfl) | exact entryFor_of_tree (by kernel_rfl)
theorem ba_bind (v : Value) : Builtin.Bytes.bindOptional "bytearray.__init__" "bytearray" ["source", "encoding", "errors"] [v] [] = pure [some v, none, none] := by kernel_rfl
theorem ba_entry_new : entryFor table "bytearray.__new__" = some Builtin.«list.__new__» := entryFor_alias (id' := "list.__new__") (by rw [fastTable_eq_tree]; kernel_rfl) (by decide +kernel) (by decide +kernel) (by rw [fastTable_eq_tree]; kernel_rfl)
theorem ba_sub : isSubtype (.type "bytearray") (.type "bytearray") = pure true := by rw [isSubtype_type]; kernel_rfl
set_option maxRecDepth 1000000 in
set_option maxHeartbeats 4000000 in
theorem ba_owner : ("bytearray.__new__".splitOn ".__new__").headD "" = "bytearray" := by simp +decide [String.splitOn, String.splitOnAux]
section
variable {prog : Program} {w : World} {A : Around} {E : Value → Shared → Prop} {s : Shared}
theorem ba_new (a : Value) {Q₁ : Value → Shared → Prop}
    (h : Q₁ (.ref s.heap.objs.size) { s with heap := s.heap.push { cls := .type "bytearray", data := .bytearray #[] } }) :
    codeAny (model prog w) A (.call (.builtin "bytearray.__new__") ⟨[.type "bytearray", a], []⟩) (wants Q₁ E) s := by
  refine codeAny_of_tree ?_
  show wpAny _ A.in1 (do checkBuiltinCall "bytearray.__new__" ⟨[.type "bytearray", a], []⟩; again (.builtin "bytearray.__new__" ⟨[.type "bytearray", a], []⟩)) _ _ s
  refine wpAny_bind (wpAny_of_eq (ba_newCall a) (wpAny_pure ⟨plainId_quiet ba_plain _, codeAny_builtin_stack ba_entry_new rfl fun p st => ?_⟩))
  rw [Around.under_plainId ba_plain _]
  have hsub := ba_sub
  have hown := ba_owner
  obtain ⟨hp, g, d, tk, os⟩ := s
  simp only [hown]
  wp_walk
  exact h
end
section
variable {prog : Program} {w : World} {A : Around} {E : Value → Shared → Prop} {s : Shared}
theorem codeS_builtin {id : String} {args : Args} {b : Builtin} {R : Result → Shared → Prop} (ho : Off (.builtin id args) = true) (hb : entryFor table id = some b)
    (h : wpS (model prog w) (A.under (.builtin id args)) (b args)
      (fun fin s' => match fin with | .done f => R (.ok f) s' | .again c' => c'.quiet = true ∧ codeS (model prog w) A c' R s') (fun e s' => R (.error e) s') s) :
    codeS (model prog w) A (.builtin id args) R s := by
  refine codeS_of_tree ho ?_
  show wpS _ _ (match entryFor table id with | some b => b args | none => unsupported ((withoutEnding? id "#data").getD id)) _ _ s
  rw [hb]; exact h
theorem wpS_if_false {α : Type} {M : Model} {c : Bool} {a b : Sem α} {Q : α → Shared → Prop} (hc : c = false) (h : wpS M A b Q E s) : wpS M A (if c = true then a else b) Q E s := by
  subst hc
  exact h
theorem wpS_if_true {α : Type} {M : Model} {c : Bool} {a b : Sem α} {Q : α → Shared → Prop} (hc : c = true) (h : wpS M A a Q E s) : wpS M A (if c = true then a else b) Q E s := by
  subst hc
  exact h
theorem wpS_of_eq {α : Type} {M : Model} {t : Sem α} {a : α} {Q : α → Shared → Prop} (e : t = pure a) (h : Q a s) : wpS M A t Q E s := by
  rw [e]; exact wpS_pure h
theorem wpS_callSpecial {self : Value} {T : String} {name : Str} {id : String} {args : List Value} {Q : Option Value → Shared → Prop} (hT : s.TypeIs self T) (h : Slot T name id)
    (hc : wpS (model prog w) A (call (.builtin id) (self :: args) []) (fun v => Q (some v)) E s) : wpS (model prog w) A (callSpecial? self name args []) Q E s := by
  simp only [callSpecial?]
  refine wpS_bind (wpS_of (wpAny_specialOf hT h.lookup ?_))
  simp only [h.bind]
  exact wpS_holding (wpS_bind (wpS_pure (wpS_bind (wpS_mono hc (fun v s' h' => wpS_pure h') fun _ _ h' => h'))))
theorem codeS_call_builtin {id : String} {args : Args} {b : Builtin} {R : Result → Shared → Prop} (hq : plainId id = true) (ho : Off (.builtin id args) = true) (hb : entryFor table id = some b)
    (h : wpAny (model prog w) A.in1 (checkBuiltinCall id args) (fun _ s₁ => wpS (model prog w) A.in1 (b args)
      (fun fin s' => match fin with | .done f => R (.ok f) s' | .again c' => c'.quiet = true ∧ codeS (model prog w) A c' R s') (fun e s' => R (.error e) s') s₁)
      (fun e s' => R (.error e) s') s) : codeS (model prog w) A (.call (.builtin id) args) R s := by
  refine codeS_of_tree rfl ?_
  show wpS _ A.in1 (do checkBuiltinCall id args; again (.builtin id args)) _ _ s
  refine wpS_bind (wpS_of (wpAny_mono h (fun _ s₁ h₁ => ?_) fun _ _ x => x))
  refine wpS_pure ⟨plainId_quiet hq _, codeS_builtin ho hb ?_⟩
  rw [Around.under_plainId hq _]
  exact h₁
theorem ba_release_look : typeLookup (.type "bytearray") "__release_buffer__" = pure (some (.builtin "bytearray.__release_buffer__")) := by rw [typeLookup_type, builtinLookup_eq_fast]; kernel_rfl
set_option maxRecDepth 1000000 in
set_option maxHeartbeats 4000000 in
theorem ba_drop : "bytearray.__release_buffer__".dropRight ("__release_buffer__".length + 1) = "bytearray" := by first | decide +kernel | rfl | simp +decide
theorem ba_index : typeLookup (.type "int") "__index__" = pure (some (.builtin "int.__index__")) := by rw [typeLookup_type, builtinLookup_eq_fast]; kernel_rfl
theorem ba_release {a : Addr} {Q : Bool → Shared → Prop} (hT : s.TypeIs (.ref a) "bytearray") (h : Q false s) : wpAny (model prog w) A (Builtin.Bytes.ownRelease (.ref a)) Q E s := by
  unfold Builtin.Bytes.ownRelease Builtin.Bytes.slotIsOwn
  refine wpAny_bind (wpAny_bind (wpAny_specialOf hT ba_release_look ?_))
  dsimp only
  refine bm_if_false (by decide +kernel) ?_
  rw [ba_drop]
  refine wpAny_isInstance (U := "bytearray") hT ba_sub ?_
  exact wpAny_pure h
theorem ba_write {a : Addr} {b : Array UInt8} {f : Array UInt8 → Array UInt8} {Q : Unit → Shared → Prop} (ho : s.heap.get? a = some { cls := .type "bytearray", data := .bytearray b }) (hz : (f b).size ≤ sizeLine)
    (h : ∀ h', (∀ c o, c ≠ a → s.heap.get? c = some o → h'.get? c = some o) → h'.get? a = some { cls := .type "bytearray", data := .bytearray (f b) } → Q () { s with heap := h' }) :
    wpAny (model prog w) A (Builtin.Bytes.write (.ref a) f) Q E s := by
  show wpAny _ _ (updateBytearray a f) _ _ _
  unfold updateBytearray
  refine wpAny_bind (wpAny_load ho ?_)
  show wpAny _ _ (update a (Obj.mapBytearray f) >>= fun _ => lookBehind a) _ _ _
  refine wpAny_bind (wpAny_update ho ?_)
  have hS : (s.heap.update a (Obj.mapBytearray f)).get? a = some { cls := .type "bytearray", data := .bytearray (f b) } := Heap.get?_update_self (Obj.mapBytearray f) ho rfl
  refine wpAny_lookBehind hS ?_ ?_
  · show (if (f b).size > sizeLine then some "bytearray:memory" else none) = none
    rw [if_neg]
    omega
  · exact h _ (fun c o hc e => (Heap.get?_update_other _ _ (Ne.symm hc)).trans e) hS
theorem ba_init {a : Addr} {n : Int} {t : Tok} {Q : Fin → Shared → Prop} (ho : s.heap.get? a = some { cls := .type "bytearray", data := .bytearray #[] }) (h0 : 0 ≤ n) (hz : n ≤ 1000000)
    (hQ : ∀ h', (∀ c o, c ≠ a → s.heap.get? c = some o → h'.get? c = some o) → h'.get? a = some { cls := .type "bytearray", data := .bytearray (Array.replicate n.toNat 0) } → Q (.done (.ret .none)) { s with heap := h' }) :
    wpS (model prog w) A (Builtin.«bytearray.__init__» ⟨[.ref a, .int n t], []⟩) Q E s := by
  have hT : s.TypeIs (.ref a) "bytearray" := ⟨_, ho, rfl⟩
  unfold Builtin.«bytearray.__init__»
  dsimp only
  refine wpS_bind (wpS_of (ba_release hT ?_))
  refine wpS_if_false rfl ?_
  refine wpS_bind (wpS_of_eq (ba_bind _) ?_)
  dsimp only
  refine wpS_bind (wpS_of_eq (a := ()) rfl ?_)
  refine wpS_bind (wpS_of_eq (a := ()) rfl ?_)
  refine wpS_bind ?_
  unfold orM
  refine wpS_bind (wpS_exported ?_)
  show wpS _ _ (Builtin.Bytes.exportsOf (.ref a) >>= _) _ _ _
  refine wpS_bind (wpS_of ?_)
  unfold Builtin.Bytes.exportsOf
  refine wpAny_bind (wpAny_load ho (wpAny_pure (wpS_pure ?_)))
  refine wpS_if_false rfl ?_
  refine wpS_bind (wpS_of (ba_write ho (Nat.zero_le _) fun h1 k1 e1 => ?_))
  refine wpS_bind (wpS_of (wpAny_of_eq (a := none) rfl ?_))
  refine wpS_if_false rfl ?_
  refine wpS_bind (wpS_of_eq (a := ()) rfl ?_)
  refine wpS_bind (wpS_of (wpAny_specialOf (T := "int") rfl ba_index ?_))
  refine wpS_if_true rfl ?_
  refine wpS_bind (wpS_of (wpAny_attempt (wpAny_of_eq (rfl : asIndex (.int n t) = pure n) ?_)))
  dsimp only
  refine wpS_if_false (by unfold Builtin.Bytes.fitsIndex; simp; omega) ?_
  rw [if_neg (by omega : ¬ n < 0)]
  refine wpS_if_false (by simp; omega) ?_
  refine wpS_if_false (by unfold Builtin.Bytes.tooLong; rw [sizeLine_eq]; simp; omega) ?_
  refine wpS_bind (wpS_of (wpAny_rule ?_))
  by_cases hn : n > 0
  · rw [if_pos hn]
    refine wpS_bind (wpS_of (ba_write e1 (by rw [Array.size_replicate, sizeLine_eq]; omega) fun h2 k2 e2 => ?_))
    exact wpS_pure (hQ h2 (fun c o hc e => k2 c o hc (k1 c o hc e)) e2)
  · rw [if_neg hn]
    obtain rfl : n = 0 := by omega
    exact wpS_pure (hQ h1 k1 e1)
/-- bytearray(n), n octets of zero, told by wpS. -/
theorem ba_call (n : Int) (t : Tok) {Q : Value → Shared → Prop} (h0 : 0 ≤ n) (hz : n ≤ 1000000)
    (hQ : ∀ h', (∀ b o, s.heap.get? b = some o → h'.get? b = some o) → h'.get? s.heap.objs.size = some { cls := .type "bytearray", data := .bytearray (Array.replicate n.toNat 0) } → True → Q (.ref s.heap.objs.size) { s with heap := h' }) : wpS (model prog w) A (call (.type "bytearray") [.int n t]) Q E s := by
  obtain ⟨c, tl, hmro⟩ := ba_called.mro
  have hmade := ba_called.made
  have hsub := ba_called.sub
  have h1 := ba_called.notType
  have h2 := ba_called.canCreate
  have hct := ba_typeCall (.int n t)
  refine wpS_call (codeS_of_tree rfl ?_)
  show wpS _ _ (callAny (.type "bytearray") _) _ _ _
  refine wpS_pure ⟨Code.quiet_builtin _ (by decide +kernel), codeS_builtin (by show (!guardIds.contains "type.__call__" && !Builtin.Bytes.decodersThatHold.contains "type.__call__") = true; decide +kernel) F.entry_type_call ?_⟩
  rw [Around.under_plain (weight_type_call_type "bytearray" [.int n t] []) rfl]
  unfold Builtin.«type.__call__»
  dsimp only
  refine wpS_if_false h1 ?_
  refine wpS_if_false h2 ?_
  refine wpS_bind (wpS_of_eq hct ?_)
  refine wpS_bind (wpS_of_eq hmro ?_)
  refine wpS_if_false rfl ?_
  refine wpS_bind (wpS_of_eq hmade ?_)
  dsimp only
  refine wpS_bind (wpS_pure ?_)
  refine wpS_bind (wpS_holding (wpS_of (wpAny_call (codeAny_mono (ba_new (E := fun _ _ => False) (.int n t) (Q₁ := fun v s' => v = .ref s.heap.objs.size ∧ s' = { s with heap := s.heap.push { cls := .type "bytearray", data := .bytearray #[] } }) ⟨rfl, rfl⟩) fun r s' hr => ?_))))
  cases r with
  | error e => exact hr.elim
  | ok fl =>
  cases fl with
  | next => exact hr.elim
  | brk => exact hr.elim
  | cont => exact hr.elim
  | ret v =>
  obtain ⟨rfl, rfl⟩ := hr
  dsimp only
  have hB : ∀ st : Shared, st.heap = s.heap.push { cls := .type "bytearray", data := .bytearray #[] } → st.heap.get? s.heap.objs.size = some { cls := .type "bytearray", data := .bytearray #[] } := fun st e => by
    rw [e]; exact Heap.get?_push_size _ rfl
  have hT : ∀ st : Shared, st.heap = s.heap.push { cls := .type "bytearray", data := .bytearray #[] } → st.TypeIs (.ref s.heap.objs.size) "bytearray" := fun st e => ⟨_, hB st e, rfl⟩
  refine wpS_bind (wpS_of (wpAny_isInstance (hT _ rfl) hsub ?_))
  refine wpS_if_false rfl ?_
  refine wpS_bind (wpS_holding (wpS_callSpecial (hT _ rfl) ba_called.init (wpS_call (codeS_call_builtin ba_plain_init (by show (!guardIds.contains "bytearray.__init__" && !Builtin.Bytes.decodersThatHold.contains "bytearray.__init__") = true; decide +kernel) ba_entry_init (ba_called.init.check _ _ _ _ _ _ _ _ (hT _ rfl) (by first | exact trivial | decide +kernel | rfl) ?_)))))
  refine ba_init (hB _ rfl) h0 hz fun h' k e => ?_
  refine wpS_if_false rfl ?_
  exact wpS_pure (hQ h' (fun b o e' => k b o (Nat.ne_of_lt (Heap.lt_size e')) (Heap.get?_push_of_some _ e')) e trivial)
end
end
end Mine
namespace Mine
section
open PySem PySem.W PyProof.Rows PySem.Calls
set_option maxRecDepth 100000
/-- A contract told by wpS: the same words as Con. -/
abbrev ConS (D : Nat) (f : Addr) (vs : List Value) (R : Tok → Value) : Prop :=
  ∀ (w : World) (mean : ExcName → Option Value) (mg mb : Str → Option Value) (news : List (Addr × Obj)) (dp un : Nat) (gd : Option (List Code)) (cn : Str) (cs : Scope) (a : Addr) (ccd : Value) (cl : List (Str × Addr)) (outer : List Env) (A₀ : Around) (base h₀ : Heap) (L : Addr) (m : Str → Option Value) (s : Shared) (Q E : Value → Shared → Prop),
    Below A₀ base outer h₀ → Fr h₀ L s.heap m → (KK w.params).In h₀ → News h₀ L s.heap news → Top q0 (looseW q0 loose0) mean mg mb h₀ → cs.kind = .function →
      dp + D < recursionLimit → un + 8 * D < cLine → CbRet h₀ L m news s Q R →
      wpS (model (OpenLaw.prog PySem.Challenge.rw_rt0055_01) w) (ktrTop dp un gd cn cs L a ccd cl outer) (call (.ref f) vs) Q E s
section
variable {A₀ A : Around} {s : Shared} {L : Addr} {h₀ base : Heap} {m mg mb : Str → Option Value} {news : List (Addr × Obj)} {mean : ExcName → Option Value} {Q E : Value → Shared → Prop}
  {name qual : Str} {params : Arguments} {body : List Stmt} {scope : Scope} {dV kV doc pm cdv ct oc : Value} {an od : Option Addr} {osl : Array (Option Value)} {f : Addr} {vs : List Value} {binds : List (Str × Value)}
theorem con_PS {D : Nat} {R : Tok → Value}
    (ho : ∀ P, (KK P).lookup f = some ⟨oc, od, .func (fnOf name qual params body scope dV kV doc pm an cdv ct), osl⟩) (hcd : ∀ P, codeIn (KK P) cdv qual = true)
    (hbind : bindArgs (fnOf name qual params body scope dV kV doc pm an cdv ct) ⟨vs, []⟩ = pure binds) (hloc : ∀ y ∈ binds, scope.names.lookup y.1 = some .local)
    (hco : scope.isCoroutine = false) (hgen : scope.isGenerator = false) (hk : scope.kind = .function) (hcell : ∀ x ∈ scope.names, x.2 ≠ .cell)
    (h : ∀ (w : World) (mean : ExcName → Option Value) (mg mb : Str → Option Value) (dp un : Nat) (gd : Option (List Code)) (outer : List Env) (A₀ : Around) (base g h₁ : Heap) (L' : Addr) (s : Shared) (tk : Nat),
      Below A₀ base outer g → Fr g L' h₁ (fun y => binds.reverse.lookup y) → News g L' h₁ [] → (KK w.params).In g → Top q0 (looseW q0 loose0) mean mg mb g →
      dp + D < recursionLimit → un + 8 * D < cLine →
      wpS (model (OpenLaw.prog PySem.Challenge.rw_rt0055_01) w) (ktrTop dp un gd qual scope L' f cdv [] outer) (execs body (envX qual scope L' f cdv []))
        (Ret g s R) (fun _ _ => False) { s with heap := h₁, toks := tk }) : ConS (D + 1) f vs R := by
  intro w mean mg mb news dp un gd cn cs a ccd cl outer A₀ base h₀ L m s Q E B F X N T hck hd hu hret
  refine enterS (K := KK w.params) B F X N T rfl rfl hck (ho _) (hcd _) (by show dp < recursionLimit; omega) (BindsTo.of_eq hbind) hloc (fun g L' h₁ FG F' N' B' X' T' => ?_) hco hgen hk hcell
  refine wpS_mono (h w mean mg mb (dp + 1) (un + 3) gd (envX cn cs L a ccd cl :: outer) _ base g h₁ L' s _ B' F' N' X' T' (by omega) (by omega)) (fun fl s' hr => ?_) fun _ _ x => x
  obtain ⟨t, h', tk', hkeep, rfl, e⟩ := hr
  refine ⟨hkeep, fun F₁ N₁ => ?_⟩
  have z := hret t h' tk' F₁ N₁
  rw [← e] at z
  cases fl <;> exact z
end
end
end Mine
namespace Mine
section
open PySem PySem.W PyProof.Rows PySem.Calls
set_option maxRecDepth 100000
section
variable {prog : Program} {w : World} {M : Model} {A : Around} {s : Shared} {env : Env} {E : Value → Shared → Prop}
theorem wpS_Assign_Name {x : Str} {pos' pos : Pos} {value : Expr} {Q : Flow → Shared → Prop}
    (h : wpS M A (eval value env) (fun v s₁ => wpS M A (storeName env x v) (fun _ => Q .next) E s₁) E s)
    (hs : swapsWith value (some (.Name x pos')) pos.line env = pure false := by rfl) :
    wpS M A (exec (.Assign [.Name x pos'] value pos) env) Q E s := fun Γ p hΓ hS => by
  simp only [exec_Assign_Name env x pos' value pos hs, Sem.wp_bind', Sem.wp_cmd_standAt, Sem.wp_bindName, Sem.wp_pure']
  exact Sem.wp_mono M Γ _ (fun v _ s₁ h₁ => h₁ Γ _ hΓ hS) (fun _ _ _ h' => h') _ _ (h Γ _ hΓ hS)
theorem wpS_Call_Name {id : Str} {p pos : Pos} {args : List Expr} {Q : Value → Shared → Prop}
    (h : wpS M A (eval (.Name id p) env) (fun f s₁ => wpS M A (callWith pos f [] (backTo pos (starEach args env)) []) Q E s₁) E s) :
    wpS M A (eval (.Call (.Name id p) args [] pos) env) Q E s := by
  show wpS M A (do callWith pos (← eval (.Name id p) env) [] (backTo pos (starEach args env)) (backToKw pos (keywordEach [] env))) Q E s
  exact wpS_bind h
theorem wpS_IfExp {test body orelse : Expr} {pos : Pos} {Q : Value → Shared → Prop}
    (h : wpAny M A (isTrue test env (eval test env)) (fun b s₁ => if b = true then wpS M A (eval body env) Q E s₁ else wpS M A (eval orelse env) Q E s₁) E s) :
    wpS M A (eval (.IfExp test body orelse pos) env) Q E s := by
  rw [arm_eval_IfExp]
  refine wpS_bind (wpS_of (wpAny_mono h (fun b s₁ h₁ => ?_) fun _ _ x => x))
  cases b
  · exact wpS_if_false rfl h₁
  · exact wpS_if_true rfl h₁
theorem wpS_callWith_type {pos : Pos} {T : String} {first : List Value} {args : List (Bool × Sem Value)} {Q : Value → Shared → Prop} (hplain : args.any (·.1) = false)
    (h : wpAny M A (evalArgs (.type T) true args []) (fun a s₁ => wpS M A (call (.type T) (first ++ a.pos) a.kw) Q E s₁) E s) : wpS M A (callWith pos (.type T) first args []) Q E s := by
  unfold callWith
  refine wpS_bind (wpS_holding (wpS_of (wpAny_mono h (fun a s₁ h₁ => wpS_bind (wpS_of (wpAny_standAt ?_))) fun _ _ x => x)))
  simp only [hplain, List.any_nil, Bool.or_false]
  refine wpS_bind (wpS_pure ?_)
  exact wpS_bind (wpS_mono h₁ (fun r s₂ hr => wpS_of (wpAny_bind (wpAny_holding (wpAny_point (wpAny_pure hr))))) fun _ _ x => x)
theorem wpS_keep {α : Type} {vs : List Value} {m : Sem α} {Q : α → Shared → Prop} (h : wpS M A m Q E s) : wpS M A (m.keep vs) Q E s := fun Γ p hΓ hS => by rw [Sem.wp_keep]; exact h Γ p hΓ hS
end
end
end Mine
namespace Mine
section
open PySem PySem.W PyProof.Rows PySem.Calls
set_option maxRecDepth 100000
theorem ba_slot_setitem : Slot "bytearray" "__setitem__" "bytearray.__setitem__" :=
  .of (owner := "bytearray") (n := "__setitem__") (by rw [typeLookup_type, builtinLookup_eq_fast]; kernel_rfl) (by decide +kernel) (by decide +kernel) (by decide +kernel)
    (by first | exact .inl (by decide +kernel) | exact .inr (by decide +kernel)) (by rw [isSubtype_type]; kernel_rfl)
theorem ba_entry_setitem : entryFor table "bytearray.__setitem__" = some Builtin.«bytearray.__setitem__» := entryFor_of_tree (by kernel_rfl)
theorem ba_args_setitem (a b c : Value) : argsOk "bytearray.__setitem__" ⟨[a, b, c], []⟩ := by unfold argsOk; kernel_rfl
section
variable {prog : Program} {w : World} {A : Around} {E : Value → Shared → Prop} {s : Shared}
theorem ba_setItem {a : Addr} {b : Array UInt8} {k v : Int} {t u : Tok} {Q : Unit → Shared → Prop} (ho : s.heap.get? a = some { cls := .type "bytearray", data := .bytearray b })
    (h0 : 0 ≤ k) (h1 : k < (b.size : Int)) (hz : b.size ≤ 1000000) (v0 : 0 ≤ v) (v1 : v < 256)
    (hQ : ∀ h', (∀ c o, c ≠ a → s.heap.get? c = some o → h'.get? c = some o) → h'.get? a = some { cls := .type "bytearray", data := .bytearray (b.setIfInBounds k.toNat v.toNat.toUInt8) } → Q () { s with heap := h' }) :
    wpAny (model prog w) A (setItem (.ref a) (.int k t) (.int v u)) Q E s := by
  have hT : s.TypeIs (.ref a) "bytearray" := ⟨_, ho, rfl⟩
  unfold setItem
  try with_reducible refine wpAny_holding ?_
  refine wpAny_bind (wpAny_sequenceKey hT (by decide) ?_)
  refine wpAny_bind (wpAny_callSpecial?_slot (name := Str.ofString "__setitem__") hT ba_slot_setitem
    (wpAny_call_entry ba_slot_setitem hT ba_entry_setitem ?_ (ba_args_setitem _ _ _)))
  unfold Builtin.«bytearray.__setitem__»
  dsimp only
  refine bm_if_false rfl ?_
  refine wpAny_bind ?_
  unfold Builtin.Bytes.subscript?
  refine wpAny_bind (wpAny_specialOf (T := "int") rfl ba_index ?_)
  refine bm_if_false rfl ?_
  refine wpAny_bind (wpAny_of_eq (rfl : asIndex (.int k t) = pure k) ?_)
  refine bm_if_false (by unfold Builtin.Bytes.fitsIndex; simp; omega) ?_
  refine wpAny_pure ?_
  dsimp only
  refine wpAny_bind ?_
  unfold Builtin.Bytes.byteValue
  refine wpAny_bind (wpAny_of_eq (rfl : asIndex (.int v u) = pure v) ?_)
  refine bm_if_false (by simp; omega) ?_
  refine wpAny_pure ?_
  refine wpAny_bind ?_
  unfold Builtin.Bytes.payload Builtin.Bytes.payload?
  refine wpAny_bind (wpAny_bind (wpAny_load ho ?_))
  refine wpAny_pure (wpAny_pure ?_)
  rw [seqIndex_of h0 h1]
  dsimp only
  refine wpAny_bind (ba_write ho (by rw [Array.size_setIfInBounds, sizeLine_eq]; omega) fun h' k' e' => ?_)
  exact wpAny_pure ⟨.none, rfl, wpAny_pure (hQ h' k' e')⟩
end
end
end Mine
namespace Mine
section
open PySem PySem.W PyProof.Rows PySem.Calls
set_option maxRecDepth 100000
theorem ba_no_bytes : typeLookup (.type "bytearray") "__bytes__" = pure none := by rw [typeLookup_type, builtinLookup_eq_fast]; kernel_rfl
theorem ba_no_index : typeLookup (.type "bytearray") "__index__" = pure none := by rw [typeLookup_type, builtinLookup_eq_fast]; kernel_rfl
theorem ba_buffer_look : typeLookup (.type "bytearray") "__buffer__" = pure (some (.builtin "bytearray.__buffer__")) := by rw [typeLookup_type, builtinLookup_eq_fast]; kernel_rfl
set_option maxRecDepth 1000000 in
set_option maxHeartbeats 4000000 in
theorem ba_drop2 : "bytearray.__buffer__".dropRight ("__buffer__".length + 1) = "bytearray" := by first | decide +kernel | rfl | simp +decide
section
variable {prog : Program} {w : World} {A : Around} {E : Value → Shared → Prop} {s : Shared}
theorem ba_own_buffer {a : Addr} {Q : Bool → Shared → Prop} (hT : s.TypeIs (.ref a) "bytearray") (h : Q true s) : wpAny (model prog w) A (Builtin.Bytes.slotIsOwn (.ref a) "__buffer__") Q E s := by
  unfold Builtin.Bytes.slotIsOwn
  refine wpAny_bind (wpAny_specialOf hT ba_buffer_look ?_)
  dsimp only
  refine bm_if_false (by decide +kernel) ?_
  rw [ba_drop2]
  exact wpAny_isInstance (U := "bytearray") hT ba_sub h
theorem ba_buffer {a : Addr} {b : Array UInt8} {Q : Option (Array UInt8) → Shared → Prop} (ho : s.heap.get? a = some { cls := .type "bytearray", data := .bytearray b }) (h : Q (some b) s) :
    wpAny (model prog w) A (Builtin.Bytes.buffer? "bytes.__new__" (.ref a) true) Q E s := by
  have hT : s.TypeIs (.ref a) "bytearray" := ⟨_, ho, rfl⟩
  unfold Builtin.Bytes.buffer?
  refine wpAny_bind (wpAny_specialOf hT ba_buffer_look ?_)
  (try dsimp only)
  refine wpAny_bind (ba_own_buffer hT ?_)
  refine bm_if_false rfl ?_
  refine wpAny_bind (wpAny_specialOf hT ba_buffer_look ?_)
  (try dsimp only)
  refine wpAny_bind (ba_release hT ?_)
  refine bm_if_false rfl ?_
  refine wpAny_bind ?_
  unfold Builtin.Bytes.payload Builtin.Bytes.payload?
  refine wpAny_bind (wpAny_bind (wpAny_load ho ?_))
  exact wpAny_pure (wpAny_pure (wpAny_pure h))
theorem ba_toBytes {a : Addr} {b : Array UInt8} {Q : Value → Shared → Prop} (hh : A.handled = none) (ho : s.heap.get? a = some { cls := .type "bytearray", data := .bytearray b }) (hz : b.size ≤ sizeLine)
    (hQ : ∀ t k, Q (.bytes b t) { s with toks := k }) :
    codeAny (model prog w) A (.call (.builtin "bytes.__new__") ⟨[.type "bytes", .ref a], []⟩) (wants Q E) s := by
  refine codeAny_of_tree ?_
  show wpAny _ A.in1 (do checkBuiltinCall "bytes.__new__" ⟨[.type "bytes", .ref a], []⟩; again (.builtin "bytes.__new__" ⟨[.type "bytes", .ref a], []⟩)) _ _ s
  refine wpAny_bind (wpAny_of_eq (F.bm_newCall _) (wpAny_pure ⟨plainId_quiet F.bm_plain _, codeAny_builtin F.bm_entry ?_⟩))
  rw [Around.under_plainId F.bm_plain _]
  have hT : s.TypeIs (.ref a) "bytearray" := ⟨_, ho, rfl⟩
  unfold Builtin.«bytes.__new__»
  refine wpAny_bind (wpAny_of_eq (a := true) rfl ?_)
  refine bm_if_false rfl ?_
  refine wpAny_bind (wpAny_of_eq F.bm_sub ?_)
  refine bm_if_false rfl ?_
  refine wpAny_bind (wpAny_of_eq (F.bm_bind _) ?_)
  refine wpAny_bind (wpAny_of_eq (a := ()) rfl ?_)
  refine wpAny_bind (wpAny_of_eq (a := ()) rfl ?_)
  refine bm_if_false rfl ?_
  refine wpAny_bind (wpAny_specialOf hT ba_no_bytes ?_)
  refine wpAny_bind (wpAny_bind ?_)
  show wpAny _ _ (load a >>= _) _ _ _
  refine wpAny_bind (wpAny_load ho ?_)
  refine wpAny_pure (wpAny_pure ?_)
  refine bm_if_false rfl ?_
  refine wpAny_bind (wpAny_specialOf hT ba_no_index ?_)
  refine bm_if_true rfl ?_
  first
    | show wpAny _ _ (Builtin.Bytes.buffer? "bytes.__new__" (.ref a) true >>= _) _ _ _
    | (refine wpAny_bind ?_; show wpAny _ _ (Builtin.Bytes.buffer? "bytes.__new__" (.ref a) true >>= _) _ _ _)
  refine wpAny_bind (ba_buffer ho ?_)
  refine wpAny_bind (wpAny_rule ?_)
  refine wpAny_bind (wpAny_mkBytes ?_ hz)
  show wpAny _ _ (if (Value.type "bytes" == Value.type "bytes") = true then _ else _) _ _ _
  refine bm_if_true (by decide) ?_
  exact wpAny_pure (hQ _ _)
theorem ba_bytes {a : Addr} {b : Array UInt8} {Q : Value → Shared → Prop} (hh : A.handled = none) (ho : s.heap.get? a = some { cls := .type "bytearray", data := .bytearray b }) (hz : b.size ≤ sizeLine)
    (hQ : ∀ t k, Q (.bytes b t) { s with toks := k }) : wpAny (model prog w) A (call (.type "bytes") [.ref a]) Q E s := by
  refine callType_codes (Q₁ := fun obj s₁ => s₁.TypeIs obj "bytes" ∧ Q obj s₁) F.bm_called (F.bm_typeCall _) F.entry_object_init
    (ba_toBytes hh ho hz fun t k => ⟨PySem.W.typeIs_bytes _ _ _, hQ t k⟩) fun obj s₁ h₁ => ?_
  exact ⟨h₁.1, F.args_object_init_2 obj _, object_init_meets F.bm_called.init.lookup F.bm_called.made (by decide) prog w A.in1 _ s₁ ⟨h₁.1, rfl, h₁.2⟩⟩
end
end
end Mine
namespace Mine
section
open PySem PySem.W PyProof.Rows PySem.Calls
set_option maxRecDepth 100000
section
variable {M : Model} {A : Around} {s : Shared} {env : Env} {E : Value → Shared → Prop}
theorem wpS_callWith_typeE {pos : Pos} {T : String} {e : Expr} {rest : List Expr} {Q : Value → Shared → Prop}
    (h : wpAny M A (spliced (backTo pos (starEach (e :: rest) env))) (fun vs s₁ => wpS M A (call (.type T) vs) Q E s₁) E s)
    (he : starEach (e :: rest) env = (false, eval e env) :: starEach rest env := by rfl)
    (hplain : (backTo pos (starEach rest env)).any (·.1) = false := by rfl) :
    wpS M A (callWith pos (.type T) [] (backTo pos (starEach (e :: rest) env)) []) Q E s := by
  rw [he] at h ⊢
  exact wpS_callWith_type (by show (false || (backTo pos (starEach rest env)).any (·.1)) = false; rw [hplain]; rfl) (evalArgs_plain h)
end
end
end Mine
namespace Mine
section
open PySem PySem.W PyProof.Rows PySem.Calls
set_option maxRecDepth 100000
theorem get?_top (h : Heap) : h.get? h.objs.size = none := by
  cases e : h.get? h.objs.size with
  | none => rfl
  | some o => exact absurd (Heap.lt_size e) (Nat.lt_irrefl _)
def swIn (b : Array UInt8) (wd i : Nat) (c : Array UInt8) (j : Nat) : Array UInt8 := (List.range j).foldl (fun c q => c.setIfInBounds (i * wd + wd - 1 - q) (b.getD (i * wd + q) 0)) c
def swOut (b : Array UInt8) (wd n : Nat) : Array UInt8 := (List.range n).foldl (fun c p => swIn b wd p c wd) (Array.replicate b.size 0)
theorem swIn_succ (b : Array UInt8) (wd i : Nat) (c : Array UInt8) (j : Nat) : swIn b wd i c (j + 1) = (swIn b wd i c j).setIfInBounds (i * wd + wd - 1 - j) (b.getD (i * wd + j) 0) := by
  unfold swIn
  rw [List.range_succ, List.foldl_append]; rfl
theorem swIn_size (b : Array UInt8) (wd i : Nat) (c : Array UInt8) : ∀ j, (swIn b wd i c j).size = c.size
  | 0 => rfl
  | j + 1 => by rw [swIn_succ, Array.size_setIfInBounds, swIn_size b wd i c j]
theorem swOut_succ (b : Array UInt8) (wd i : Nat) : swOut b wd (i + 1) = swIn b wd i (swOut b wd i) wd := by
  unfold swOut
  rw [List.range_succ, List.foldl_append]; rfl
theorem swOut_size (b : Array UInt8) (wd : Nat) : ∀ i, (swOut b wd i).size = b.size
  | 0 => by show (Array.replicate _ _).size = _; rw [Array.size_replicate]
  | i + 1 => by rw [swOut_succ, swIn_size, swOut_size b wd i]
theorem sw_range {wd n z : Nat} (h1 : 1 ≤ wd) (hz : z = n * wd) : Builtin.Range.rangeSize 0 (z : Int) (wd : Int) = (n : Int) := by
  unfold Builtin.Range.rangeSize
  rw [if_pos (by omega)]
  cases n with
  | zero => rw [if_neg (by simp at hz; omega)]; rfl
  | succ k =>
    have hz' : z = k * wd + wd := by rw [hz, Nat.succ_mul]
    rw [if_pos (by omega)]
    have e : ((z : Int) - 0 - 1) = ((wd - 1 : Nat) : Int) + (k : Int) * (wd : Int) := by
      have : ((k * wd : Nat) : Int) = (k : Int) * (wd : Int) := by push_cast; rfl
      rw [← this]; omega
    rw [e, Int.add_mul_ediv_right _ _ (by omega), Int.ediv_eq_zero_of_lt (by omega) (by omega)]
    push_cast; omega
theorem sw_small {wd n z : Nat} (h1 : 1 ≤ wd) (hz : z = n * wd) (hb : z ≤ 3000) (hw : wd ≤ 3000) : Builtin.Range.small 0 (z : Int) (wd : Int) = true := by
  have hn : n ≤ z := by rw [hz]; exact Nat.le_mul_of_pos_right _ h1
  unfold Builtin.Range.small
  rw [sw_range h1 hz]
  simp only [Builtin.Range.rangeFitsLong, Bool.and_eq_true, Bool.or_eq_true, decide_eq_true_eq, beq_iff_eq]
  rw [if_pos (by omega)]
  simp only [Builtin.Range.rangeFitsLong, Bool.and_eq_true, decide_eq_true_eq]
  omega
section
variable {h₀ h h' : Heap} {L d : Addr} {m : Str → Option Value} {rest : List (Addr × Obj)} {o o' : Obj}
theorem fr_one (F : Fr h₀ L h m) (k : ∀ c x, c ≠ d → h.get? c = some x → h'.get? c = some x) (hL : d ≠ L) (hn : h₀.get? d = none) : Fr h₀ L h' m :=
  ⟨F.ns.at fun x e => k L x hL.symm e, fun b x e => k b x (by rintro rfl; rw [hn] at e; cases e) (F.keep b x e), F.above⟩
theorem news_one (N : News h₀ L h ((d, o) :: rest)) (hap : ∀ p ∈ rest, p.1 ≠ d) (k : ∀ c x, c ≠ d → h.get? c = some x → h'.get? c = some x) (ho : h'.get? d = some o') : News h₀ L h' ((d, o') :: rest) := by
  intro q hq
  rcases List.mem_cons.mp hq with rfl | hq
  · exact ⟨ho, (N _ (.head _)).2.1, (N _ (.head _)).2.2⟩
  · exact ⟨k q.1 _ (hap q hq) (N q (.tail _ hq)).1, (N q (.tail _ hq)).2.1, (N q (.tail _ hq)).2.2⟩
end
section
variable {prog : Program} {w : World} {A : Around} {E : Value → Shared → Prop} {s : Shared}
theorem by_item {value slice : PySem.Expr} {b : Array UInt8} {i : Int} {t ui : Tok} {Q : Value → Shared → Prop} (k : Nat) (hi : i = (k : Int)) (hk : k < b.size) (hz : b.size ≤ 1000000)
    (h : Q (.int ((b.getD k 0).toNat : Int) s.toks) { s with toks := s.toks + 1 })
    (hs : subscripted slice false (.bytes b t) (.int i ui) = operate [.bytes b t, .int i ui] (getItem (.bytes b t) (.int i ui)) := by with_unfolding_all rfl)
    (ht : ∀ r, letTemporaryGo value (.bytes b t) r = pure () := by intro _; with_unfolding_all rfl) : wpAny (model prog w) A (subscriptTail value slice (.bytes b t) (.int i ui)) Q E s := by
  have e : b.toList.toArray = b := Array.toArray_toList
  have g : wpAny (model prog w) A (getItem (.bytes b.toList.toArray t) (.int i ui)) Q E s := by
    refine getItem_bytes (l := b.toList) (by simp; omega) (by omega) (by simp; omega) ?_
    have e2 : i.toNat = k := by omega
    have e3 : b.toList.getD k 0 = b.getD k 0 := by
      simp [List.getD, Array.getD, hk]
    rw [e2, e3]; exact h
  rw [e] at g
  exact subscriptTail_builtin (typeIs_bytes _ _ _) FB.slot_bytes_getitem.lookup g hs ht
end
end
end Mine
namespace Mine
section
open PySem PySem.W PyProof.Rows PySem.Calls PyProof
set_option maxRecDepth 100000
section
variable {prog : Program} {w : World} {A : Around} {E : Value → Shared → Prop} {s : Shared} {h₀ : Heap} {L : Addr} {m : Str → Option Value} {env : Env}
theorem stepped_st {c : Int} {I : Addr} {a : Int} {n : Nat} : ∀ i (h h' : Heap) (o : Obj) (nw : List (Addr × Obj)), IsRangeIter h I (a + (i : Nat) * c) ((n : Int) - (i : Nat)) c → h.get? I = some o → h'.get? I = some o → (∀ b o, h₀.get? b = some o → h'.get? b = some o) → News h₀ L h' nw → True → IsRangeIter h' I (a + (i : Nat) * c) ((n : Int) - (i : Nat)) c :=
  fun i h h' o nw st e e' _ _ _ => by
    have st' : h.get? I = some _ := st
    show h'.get? I = some _
    rw [e', ← e]; exact st'
def StepSrc (prog : Program) (w : World) (A : Around) (h₀ : Heap) (L : Addr) (m : Str → Option Value) (env : Env) (elt : PySem.Expr) (x y : Str) (scope : Scope) (cl : List (Str × Addr)) (c : Int) (Q : Flow → Shared → Prop) (xv : Value) (s₁ : Shared) : Prop :=
  ∃ r a b t u v n news, xv = .ref r ∧ A.handled = none ∧ Fr h₀ L s₁.heap m ∧ News h₀ L s₁.heap news ∧ IsRange s₁.heap r a b c t u v ∧ Builtin.Range.small a b c = true ∧ Builtin.Range.rangeSize a b c = ((n : Nat) : Int) ∧ n ≤ sizeLine ∧
      ∀ s₂ : Shared, (∃ h, s₂ = { s₁ with heap := h }) → LCg.CompRest prog w A h₀ L m env elt x scope cl s₂ (fun _ => True) (fun i v => ∃ t, v = .int (a + (i : Int) * c) t) (LCg.FinA h₀ L m s₂ y Q) n 0 [] news
/-- A list comprehension over a range with any step, its answer bound to a name. -/
theorem comp_step {elt iter : PySem.Expr} {x y : Str} {px py : Pos} {scope : Scope} {cl : List (Str × Addr)} {pos spos : Pos} {Q : Flow → Shared → Prop} (c : Int) (F₀ : Fr h₀ L s.heap m) (hLe : env.locals = L)
    (hsw : swapsWith (.ListComp elt [⟨.Name x px, iter, [], 0⟩] scope pos) (some (.Name y py)) spos.line env = pure true)
    (hclos : closureFor scope env = pure cl) (hcell : ∀ z ∈ scope.names, z.2 ≠ .cell) (hkind : scope.kind = .function)
    (hnames : ∀ z ∈ scope.names, z.2 = .local → scope.names.lookup z.1 = some .local) (hx : scope.names.lookup x = some .local)
    (hy : env.kindOf y = some .local) (hp : (env.scope.kind == .class || (env.scope.kind == .module && env.locals != env.globals)) = false)
    (h : wpAny (model prog w) A (eval iter env) (StepSrc prog w A h₀ L m env elt x y scope cl c Q) E s)
    (hs : ∀ x, foldedSetIterable iter env x = pure x := by intro _; rfl) :
    wpAny (model prog w) A (exec (.Assign [.Name y py] (.ListComp elt [⟨.Name x px, iter, [], 0⟩] scope pos) spos) env) Q E s := by
  subst hLe
  rw [exec_Assign_Name_used _ _ _ _ hsw]
  refine wpAny_bind (wpAny_standAt (wpAny_bind ?_))
  show wpAny _ A (do let _ ← comprehension (.ListComp elt [⟨.Name x px, iter, [], 0⟩] scope pos) scope env _ (newList []) false (eval iter env) (some (assign (.Name y py) env))) _ _ s
  refine wpAny_bind (wpAny_mono (wpAny_comprehension_free (use := some (assign (.Name y py) env)) (Q := fun _ s' => Q .next s') rfl hs hclos hkind hnames
    (wpAny_mono h (fun xv s₁ h₁ => ?_) fun _ _ e => e)) (fun _ s' hq => wpAny_pure (wpAny_pure hq)) fun _ _ e => e)
  obtain ⟨r, a, b, t, u, v, n, news, rfl, hh, F, N, hr, hsm, hn, hsz, R⟩ := h₁
  refine wpAny_pyIter_range hr hsm ?_
  refine LCg.block_U (Walks.range hh s₁.heap.objs.size a c n) hsz (fun i h st => ⟨_, st⟩) stepped_st hcell hkind hx (by show IsRangeIter _ _ _ _ _; rw [hn]; simpa using Heap.get?_push_size _ rfl) (fun b hb => ?_)
    (F.keeps fun _ _ e => Heap.get?_push_of_some _ e) (N.grown fun _ _ e => Heap.get?_push_of_some _ e) (Nat.ne_of_lt F.ns.lt) (next_is_new F) (fun p hp => Nat.ne_of_lt (Heap.lt_size (N p hp).1)) trivial (R _ ⟨_, rfl⟩) ?_
  · rw [List.mem_singleton.mp hb]
    show s₁.heap.objs.size < (s₁.heap.push _).objs.size
    rw [Heap.size_push]; exact Nat.lt_succ_self _
  · intro D C h' tk m' ys news' F' N' o1 hn hC₀ hD₀ hCL hDL hCD offC fin
    show wpAny _ A (assign (.Name y py) env (.ref D)) _ _ _
    refine wpAny_assign_Name (wpAny_storeName_local hy F'.ns (fun h₂ hn₂ hs₂ => ?_) hp)
    have hL₀ : h₀.get? env.locals = none := Heap.get?_none_of_le F'.above
    have F₂ : Fr h₀ env.locals h₂ (fun z => if z = y then some (.ref D) else m z) := ⟨hn₂, fun b o e => hs₂.extBut b o (fun q => by rw [q, hL₀] at e; cases e) (F'.keep b o e), F'.above⟩
    refine ⟨m', hn.sameBut hs₂ hCL, fun h'' hs'' => fin D h'' _ (F₂.change hs'' hCL hC₀) (fun p hp => ?_) o1⟩
    have z : h₂.get? p.1 = some p.2 := hs₂.extBut _ _ (N' p hp).2.1 (N' p hp).1
    refine ⟨hs''.extBut _ _ ?_ z, (N' p hp).2⟩
    rcases List.mem_cons.mp hp with rfl | hp
    · exact Ne.symm hCD
    · exact offC p hp
end
section
variable {prog : Program} {w : World} {A₀ A : Around} {s : Shared} {K : Frag} {L : Addr} {h₀ base : Heap} {m mg mb : Str → Option Value} {news : List (Addr × Obj)} {p : Program} {loose : List Str} {mean : ExcName → Option Value} {Q E : Value → Shared → Prop}
  {env : Env} {outer : List Env} {name qual : Str} {params : Arguments} {body : List Stmt} {scope : Scope} {dV kV doc pm cdv ct oc : Value} {an od : Option Addr} {osl : Array (Option Value)} {f : Addr} {vs : List Value} {binds : List (Str × Value)}
/-- A def with cells is entered, its body told by wpS. -/
theorem enterCS (B : Below A₀ base outer h₀) (F : Fr h₀ L s.heap m) (X₀ : K.In h₀) (N : News h₀ L s.heap news) (T : Top p loose mean mg mb h₀) (hA : A.frames = some (env :: outer)) (hf : env.frame = some L) (hke : env.scope.kind = .function)
    (ho : K.lookup f = some ⟨oc, od, .func (fnOf name qual params body scope dV kV doc pm an cdv ct), osl⟩) (hcd : codeIn K cdv qual = true) (hroom : A.depth < recursionLimit)
    (hbind : BindsTo s (fnOf name qual params body scope dV kV doc pm an cdv ct) ⟨vs, []⟩ binds) (hkind : (binds.all fun y => scope.names.lookup y.1 == some .local || scope.names.lookup y.1 == some .cell) = true)
    (hnd : ((cellsFrom 0 scope.names []).map (·.1)).Nodup)
    (h : ∀ g L' h₁ tk cells, g = s.heap → Fr h₀ L g m → Fr g L' h₁ (bindL (envOfC qual scope L' f cdv).kindOf binds fun _ => none) → News g L' h₁ (cells ++ []) →
      CellsAre (bindC (envOfC qual scope L' f cdv).kindOf binds fun _ => none) (cellsFrom (L' + 1) scope.names []) cells → Below A base (env :: outer) g → K.In g → Top p loose mean mg mb g →
      wpS (model prog w) (A.deeper (envOfC qual scope L' f cdv)) (execs body (envOfC qual scope L' f cdv))
        (fun fl s' => (∀ b o, g.get? b = some o → s'.heap.get? b = some o) ∧ (Fr h₀ L s'.heap m → News h₀ L s'.heap news → Q (match fl with | .ret v => v | _ => .none) s'))
        (fun _ _ => False)
        { s with heap := h₁, toks := tk })
    (hco : scope.isCoroutine = false) (hgen : scope.isGenerator = false) (hk : scope.kind = .function) : wpS (model prog w) A (call (.ref f) vs []) Q E s := by
  have N₀ : News h₀ L s.heap [] := News.nil
  obtain ⟨FG, BG, st, _⟩ := groundX (R := fun _ _ => True) B F N₀ hA hf hke
  refine wpS_call (codeS_call_function (fd := fnOf name qual params body scope dV kV doc pm an cdv ct) (body := body) hroom ((X₀.keeps F.keep) _ _ ho) rfl hco hgen rfl (codeRec_of (X₀.keeps F.keep) hcd) (hbind _ _ _ _ ?_))
  refine wpAny_newFunctionEnv_cells hk (kindsX hkind _) fun env' he s' x => ?_
  subst he
  refine ⟨(T.nolimit.keeps F.keep).keeps x.toInCall.keep, codeS_func ?_⟩
  obtain ⟨h₁, tk, rfl, _⟩ := x.done
  have hk₁ := x.toInCall.keep
  obtain ⟨cells, NC, Y⟩ := Cl.news (h₀ := s.heap) (Nat.le_refl _) fun n c hm => ⟨x.cell n c (lookup_of_mem_nodup (cellsFrom_names scope.names 0 (s.heap.objs.size + 1) [] [] rfl ▸ hnd) hm), x.above n c hm⟩
  refine wpS_mono (h s.heap s.heap.objs.size h₁ tk cells rfl FG ⟨x.toInCall.ns, fun b o e => hk₁ b o e, Nat.le_refl _⟩ (fun p hp => ?_) Y BG (X₀.keeps F.keep) (T.keeps F.keep)) (fun fl s' hl => ?_) fun _ _ y => y.elim
  · rw [List.append_nil] at hp
    exact ⟨(NC p hp).1, (NC p hp).2.1, (NC p hp).2.2⟩
  · have z := hl.2 (F.keeps hl.1) (back_news N hl.1)
    cases fl <;> exact z
end
section
variable {A₀ A : Around} {s : Shared} {L : Addr} {h₀ base : Heap} {m mg mb : Str → Option Value} {news : List (Addr × Obj)} {mean : ExcName → Option Value} {Q E : Value → Shared → Prop}
  {name qual : Str} {params : Arguments} {body : List Stmt} {scope : Scope} {dV kV doc pm cdv ct oc : Value} {an od : Option Addr} {osl : Array (Option Value)} {f : Addr} {vs : List Value} {binds : List (Str × Value)}
/-- ConV told by wpS. -/
abbrev ConVS (D : Nat) (f : Addr) (vs : List Value) (RV : Heap → Heap → Value → Prop) : Prop :=
  ∀ (w : World) (mean : ExcName → Option Value) (mg mb : Str → Option Value) (news : List (Addr × Obj)) (dp un : Nat) (gd : Option (List Code)) (cn : Str) (cs : Scope) (a : Addr) (ccd : Value) (cl : List (Str × Addr)) (outer : List Env) (A₀ : Around) (base h₀ : Heap) (L : Addr) (m : Str → Option Value) (s : Shared) (Q E : Value → Shared → Prop),
    Below A₀ base outer h₀ → Fr h₀ L s.heap m → (KK w.params).In h₀ → News h₀ L s.heap news → Top q0 (looseW q0 loose0) mean mg mb h₀ → cs.kind = .function →
      dp + D < recursionLimit → un + 8 * D < cLine →
      (∀ v h' tk', (∀ b o, s.heap.get? b = some o → h'.get? b = some o) → RV s.heap h' v → Fr h₀ L h' m → News h₀ L h' news → Q v { s with heap := h', toks := tk' }) →
      wpS (model (OpenLaw.prog PySem.Challenge.rw_rt0055_01) w) (ktrTop dp un gd cn cs L a ccd cl outer) (call (.ref f) vs) Q E s
theorem conV_CS {D : Nat} {RV : Heap → Heap → Value → Prop}
    (ho : ∀ P, (KK P).lookup f = some ⟨oc, od, .func (fnOf name qual params body scope dV kV doc pm an cdv ct), osl⟩) (hcd : ∀ P, codeIn (KK P) cdv qual = true)
    (hbind : bindArgs (fnOf name qual params body scope dV kV doc pm an cdv ct) ⟨vs, []⟩ = pure binds) (hkind : (binds.all fun y => scope.names.lookup y.1 == some .local || scope.names.lookup y.1 == some .cell) = true)
    (hnd : ((cellsFrom 0 scope.names []).map (·.1)).Nodup)
    (hco : scope.isCoroutine = false) (hgen : scope.isGenerator = false) (hk : scope.kind = .function)
    (h : ∀ (w : World) (mean : ExcName → Option Value) (mg mb : Str → Option Value) (dp un : Nat) (gd : Option (List Code)) (outer : List Env) (A₀ : Around) (base g h₁ : Heap) (L' : Addr) (s : Shared) (tk : Nat) (cells : List (Addr × Obj)),
      Below A₀ base outer g → Fr g L' h₁ (bindL (envOfC qual scope L' f cdv).kindOf binds fun _ => none) → News g L' h₁ (cells ++ []) →
      CellsAre (bindC (envOfC qual scope L' f cdv).kindOf binds fun _ => none) (cellsFrom (L' + 1) scope.names []) cells → (KK w.params).In g → Top q0 (looseW q0 loose0) mean mg mb g →
      dp + D < recursionLimit → un + 8 * D < cLine →
      wpS (model (OpenLaw.prog PySem.Challenge.rw_rt0055_01) w) (ktrTop dp un gd qual scope L' f cdv (cellsFrom (L' + 1) scope.names []) outer) (execs body (envOfC qual scope L' f cdv))
        (RetV g s RV) (fun _ _ => False) { s with heap := h₁, toks := tk }) : ConVS (D + 1) f vs RV := by
  intro w mean mg mb news dp un gd cn cs a ccd cl outer A₀ base h₀ L m s Q E B F X N T hck hd hu hret
  refine enterCS (K := KK w.params) B F X N T rfl rfl hck (ho _) (hcd _) (by show dp < recursionLimit; omega) (BindsTo.of_eq hbind) hkind hnd (fun g L' h₁ tk cells eg FG F' N' Y' B' X' T' => ?_) hco hgen hk
  refine wpS_mono (h w mean mg mb (dp + 1) (un + 3) gd (envX cn cs L a ccd cl :: outer) _ base g h₁ L' s tk cells B' F' N' Y' X' T' (by omega) (by omega)) (fun fl s' hr => ?_) fun _ _ x => x
  obtain ⟨v, h', tk', hkeep, rfl, e, hv⟩ := hr
  subst eg
  refine ⟨hkeep, fun F₁ N₁ => ?_⟩
  have z := hret v h' tk' hkeep hv F₁ N₁
  rw [← e] at z
  cases fl <;> exact z
end
end
end Mine
namespace Mine
section
open PySem PySem.W PyProof.Rows PySem.Calls
set_option maxRecDepth 100000
section
variable {M : Model} {A : Around} {s : Shared} {env : Env} {E : Value → Shared → Prop}
def IsFn (a : Addr) (s : Shared) : Prop := ∃ o fd, s.heap.get? a = some o ∧ o.data = .func fd
theorem IsFn.of {K : Frag} {L f : Addr} {h₀ : Heap} {m : Str → Option Value} {s : Shared} {oc : Value} {od : Option Addr} {fd : FuncData} {osl : Array (Option Value)} (X : K.In h₀) (F : Fr h₀ L s.heap m) (ho : K.lookup f = some ⟨oc, od, .func fd, osl⟩) : IsFn f s :=
  ⟨_, fd, (X.keeps F.keep) _ _ ho, rfl⟩
theorem wpS_callWith_fn {pos : Pos} {a : Addr} {args : List (Bool × Sem Value)} {Q : Value → Shared → Prop} (hplain : args.any (·.1) = false)
    (h : wpAny M A (evalArgs (.ref a) true args []) (fun x s₁ => IsFn a s₁ ∧ wpS M A (call (.ref a) x.pos x.kw) Q E s₁) E s) :
    wpS M A (callWith pos (.ref a) [] args []) Q E s := by
  unfold callWith
  refine wpS_bind (wpS_holding (wpS_of (wpAny_mono h (fun x s₁ h₁ => wpS_bind (wpS_of (wpAny_standAt ?_))) fun _ _ x => x)))
  have tail : ∀ {t : Sem Value}, wpS M A t Q E s₁ → wpS M A (t >>= fun r => holding [r] point >>= fun _ => pure r) Q E s₁ :=
    fun ht => wpS_bind (wpS_mono ht (fun r s₂ hr => wpS_of (wpAny_bind (wpAny_holding (wpAny_point (wpAny_pure hr))))) fun _ _ x => x)
  obtain ⟨⟨o, fd, ho, hd⟩, h₂⟩ := h₁
  simp only [hplain, List.any_nil, Bool.or_false, List.nil_append]
  refine wpS_bind (m := keeperOf (.ref a)) ?_
  unfold keeperOf
  refine wpS_bind (wpS_of (wpAny_load ho ?_))
  rw [hd]
  refine wpS_pure ?_
  have hm : ∀ {l : List Value}, wpS M A ((call (.ref a) x.pos x.kw).keep l) Q E s₁ := wpS_keep h₂
  split
  all_goals first
      | exact tail h₂
      | exact tail hm
      | contradiction
      | (split <;> first | exact tail h₂ | exact tail hm | exact tail (by unfold callMarked; exact wpS_keep h₂))
theorem wpS_callFn {pos : Pos} {a : Addr} {e : Expr} {rest : List Expr} {Q : Value → Shared → Prop}
    (h : wpAny M A (spliced (backTo pos (starEach (e :: rest) env))) (fun vs s₁ => IsFn a s₁ ∧ wpS M A (call (.ref a) vs) Q E s₁) E s)
    (he : starEach (e :: rest) env = (false, eval e env) :: starEach rest env := by rfl)
    (hplain : (backTo pos (starEach rest env)).any (·.1) = false := by rfl) :
    wpS M A (callWith pos (.ref a) [] (backTo pos (starEach (e :: rest) env)) []) Q E s := by
  rw [he] at h ⊢
  exact wpS_callWith_fn (by show (false || (backTo pos (starEach rest env)).any (·.1)) = false; rw [hplain]; rfl) (evalArgs_plain h)
end
theorem use_conS {D : Nat} {f : Addr} {vs : List Value} {R : Tok → Value} (c : ConS D f vs R)
    {w : World} {mean : ExcName → Option Value} {mg mb : Str → Option Value} {news : List (Addr × Obj)} {dp un : Nat} {gd : Option (List Code)} {cn : Str} {cs : Scope} {a : Addr} {ccd : Value} {cl : List (Str × Addr)} {outer : List Env} {A₀ : Around} {base h₀ : Heap} {L : Addr} {m : Str → Option Value} {s : Shared} {Q E : Value → Shared → Prop}
    (k1 : Below A₀ base outer h₀) (k2 : Fr h₀ L s.heap m) (k3 : (KK w.params).In h₀) (k4 : News h₀ L s.heap news) (k5 : Top q0 (looseW q0 loose0) mean mg mb h₀) (kK : cs.kind = .function)
    (kd : dp + D < recursionLimit) (ku : un + 8 * D < cLine) (kR : CbRet h₀ L m news s Q R) :
    wpS (model (OpenLaw.prog PySem.Challenge.rw_rt0055_01) w) (ktrTop dp un gd cn cs L a ccd cl outer) (call (.ref f) vs) Q E s := c w mean mg mb news dp un gd cn cs a ccd cl outer A₀ base h₀ L m s Q E k1 k2 k3 k4 k5 kK kd ku kR
theorem use_conVS {D : Nat} {f : Addr} {vs : List Value} {RV : Heap → Heap → Value → Prop} (c : ConVS D f vs RV)
    {w : World} {mean : ExcName → Option Value} {mg mb : Str → Option Value} {news : List (Addr × Obj)} {dp un : Nat} {gd : Option (List Code)} {cn : Str} {cs : Scope} {a : Addr} {ccd : Value} {cl : List (Str × Addr)} {outer : List Env} {A₀ : Around} {base h₀ : Heap} {L : Addr} {m : Str → Option Value} {s : Shared} {Q E : Value → Shared → Prop}
    (k1 : Below A₀ base outer h₀) (k2 : Fr h₀ L s.heap m) (k3 : (KK w.params).In h₀) (k4 : News h₀ L s.heap news) (k5 : Top q0 (looseW q0 loose0) mean mg mb h₀) (kK : cs.kind = .function)
    (kd : dp + D < recursionLimit) (ku : un + 8 * D < cLine) (kR : ∀ v h' tk', (∀ b o, s.heap.get? b = some o → h'.get? b = some o) → RV s.heap h' v → Fr h₀ L h' m → News h₀ L h' news → Q v { s with heap := h', toks := tk' }) :
    wpS (model (OpenLaw.prog PySem.Challenge.rw_rt0055_01) w) (ktrTop dp un gd cn cs L a ccd cl outer) (call (.ref f) vs) Q E s := c w mean mg mb news dp un gd cn cs a ccd cl outer A₀ base h₀ L m s Q E k1 k2 k3 k4 k5 kK kd ku kR
end
end Mine
namespace Mine
section
open PySem PySem.W PyProof.Rows PySem.Calls
set_option maxRecDepth 100000
theorem isa_lookup : isSubtype (.type "KeyError") (.type "LookupError") = pure true := by rw [isSubtype_type]; kernel_rfl
section
variable {prog : Program} {w : World} {A : Around} {E : Value → Shared → Prop} {s : Shared}
theorem trans_look {d : Addr} {f : Int → Option Value} {c : Nat} {Q : Builtin.Str.Mapped → Shared → Prop} (hh : A.handled = none) (hm : s.heap.MapOf (intKind prog w) d f) (hd : (d == sysModules) = false) (hf : f (c : Int) = none)
    (h : ∀ h' k, (∀ b o, s.heap.get? b = some o → h'.get? b = some o) → Q .keep { s with heap := h', toks := k }) :
    wpAny (model prog w) A (Builtin.Str.tableLookup (.ref d) c) Q E s := by
  unfold Builtin.Str.tableLookup
  refine wpAny_bind (wpAny_attempt (wpAny_bind ?_))
  refine wpAny_mkInt ?_
  refine wpAny_getItem_missing_of (knd := intKind prog w) (intKind_is prog w c _) hd hh hm hf ?_
  intro h' e x
  obtain ⟨ob, t9, ho, hc9, _⟩ := x.there
  dsimp only
  refine wpAny_bind (wpAny_isInstance (T := "KeyError") ⟨ob, ho, hc9⟩ isa_lookup ?_)
  refine bm_if_true rfl ?_
  refine wpAny_bind (wpAny_rule ?_)
  exact wpAny_pure (h _ _ x.keeps)
theorem trans_one {d : Addr} {f : Int → Option Value} {c : Nat} {t : Tok} {Q : Value → Shared → Prop} (hh : A.handled = none) (hm : s.heap.MapOf (intKind prog w) d f) (hd : (d == sysModules) = false) (hf : f (c : Int) = none) (hc : c < 128)
    (h : ∀ h' t' k, (∀ b o, s.heap.get? b = some o → h'.get? b = some o) → Q (.str ⟨#[c]⟩ t') { s with heap := h', toks := k }) :
    wpAny (model prog w) A (call (.builtin "str.translate") [.str ⟨#[c]⟩ t, .ref d]) Q E s := by
  refine wpAny_call_entry F.slot_str_translate (typeIs_str _ _ _) F.entry_str_translate ?_ (F.args_str_translate_2 _ _)
  unfold Builtin.«str.translate»
  refine wpAny_bind (wpAny_of_eq (a := (.str ⟨#[c]⟩ t, ⟨#[c]⟩, .ref d)) rfl ?_)
  refine bm_if_false rfl ?_
  have hfast : (#[c].all fun x => decide (x < 128)) = true := by simp [hc]
  dsimp only
  rw [hfast, ← Array.forIn_toList]
  dsimp only
  simp only [List.forIn_cons, List.forIn_nil]
  refine wpAny_bind (wpAny_bind ?_)
  refine bm_if_false rfl ?_
  rw [if_pos trivial]
  dsimp only [List.lookup]
  refine wpAny_bind (trans_look (by exact hh) hm hd hf fun h1 k1 K1 => ?_)
  dsimp only
  refine wpAny_bind (wpAny_pure (wpAny_pure ?_))
  dsimp only
  refine wpAny_pure ?_
  refine bm_if_false (by show Builtin.Str.tooLong 1 = false; decide +kernel) ?_
  refine wpAny_bind (wpAny_mkStr (wpAny_pure ⟨_, rfl, ?_⟩) ?_)
  · show Q (.str ⟨#[] ++ #[c]⟩ _) _
    rw [Array.empty_append]
    exact h h1 _ _ K1
  · rw [sizeLine_eq]; exact (by decide : 1 ≤ 16777216)
theorem trans_meth {x : Str} {t : Tok} {pl : Sem Bool} {Q : Value × List Value → Shared → Prop} (h : Q (.builtin "str.translate", [.str x t]) s) : wpAny (model prog w) A (getMethod (.str x t) (Str.ofString "translate") pl) Q E s :=
  GM.of (name := Str.ofString "translate") (.str x t) (typeIs_str _ _ _) F.slot_str_translate F.type_str_translate GM.noRef h
end
/-- A dict's keys are ints, each with its own hash: told by a check. -/
def intKeyed (es : Array DictEntry) : Bool := es.toList.all fun e => match e.key with | .int k _ => e.hash == hashInt k | _ => false
theorem mapOf_written {prog : Program} {w : World} {h : Heap} {a : Addr} {es : Array DictEntry} {n : Nat} (ho : h.get? a = some { cls := .type "dict", data := .dict es n }) (hk : intKeyed es = true) :
    h.MapOf (intKind prog w) a (fun k => findBy (intKind prog w).is es k) := by
  refine ⟨_, es, _, ho, ⟨rfl, rfl, rfl⟩, rfl, fun e he => ?_, fun _ => rfl⟩
  have := List.all_eq_true.mp hk e (Array.mem_def.mp he)
  split at this
  · rename_i k t e1
    exact ⟨k, by rw [e1]; exact intKind_is prog w k t, eq_of_beq this⟩
  · cases this
end
end Mine
namespace Mine
section
open PySem PySem.W PyProof.Rows PySem.Calls
set_option maxRecDepth 100000
open PySem.Sem (wp)
theorem ga_kind : builtinKind "list.append" = some Manifest.AttrKind.method := by decide +kernel
theorem ga_slot_get : Slot "method_descriptor" "__get__" "method_descriptor.__get__" :=
  .of (owner := "method_descriptor") (n := "__get__") (by rw [typeLookup_type, builtinLookup_eq_fast]; kernel_rfl) (by decide +kernel) (by decide +kernel) (by decide +kernel)
    (by first | exact .inl (by decide +kernel) | exact .inr (by decide +kernel)) (by rw [isSubtype_type]; kernel_rfl)
theorem ga_no_set : typeLookup (.type "method_descriptor") "__set__" = pure none := by rw [typeLookup_type, builtinLookup_eq_fast]; kernel_rfl
theorem ga_no_del : typeLookup (.type "method_descriptor") "__delete__" = pure none := by rw [typeLookup_type, builtinLookup_eq_fast]; kernel_rfl
theorem ga_look : typeLookup (.type "list") "append" = pure (some (.builtin "list.append")) := by rw [typeLookup_type, builtinLookup_eq_fast]; kernel_rfl
theorem ga_type : typeOf (.builtin "list.append") = pure (.type "method_descriptor") := by show builtinType _ = _; rw [builtinType_eq_fast]; kernel_rfl
theorem ga_entry_get : entryFor table "method_descriptor.__get__" = some Builtin.«method_descriptor.__get__» := entryFor_of_tree (by kernel_rfl)
theorem ga_args_get (a b c : Value) : argsOk "method_descriptor.__get__" ⟨[a, b, c], []⟩ := by unfold argsOk; kernel_rfl
theorem ga_owner : (kfb_private% "ownerAndName") "list.append" = ("list", "append") := by first | decide +kernel | kernel_rfl
theorem ga_sub : isSubtype (.type "list") (.type "list") = pure true := by rw [isSubtype_type]; kernel_rfl
/-- what res.append makes -/
def boundApp (a : Addr) : Obj := { cls := .type "builtin_function_or_method", data := .fields #[.builtin "list.append", .ref a] }
section
variable {prog : Program} {w : World} {A : Around} {E : Value → Shared → Prop} {s : Shared}
theorem ga_get {a : Addr} {P : Fin → Shared → Prop} (hT : s.TypeIs (.ref a) "list") (h : P (.done (.ret (.ref s.heap.objs.size))) { s with heap := s.heap.push (boundApp a) }) :
    wpAny (model prog w) A (Builtin.«method_descriptor.__get__» ⟨[.builtin "list.append", .ref a, .type "list"], []⟩) P E s := by
  unfold Builtin.«method_descriptor.__get__»
  refine wpAny_bind (wpAny_of_eq (a := (.builtin "list.append", some (.ref a), some (.type "list"))) (by first | rfl | kernel_rfl) ?_)
  dsimp only
  refine bm_if_false (by decide +kernel) ?_
  refine wpAny_bind (wpAny_bind (wpAny_of_eq (a := (Str.ofString "append", .type "list")) ?_ ?_))
  · show (pure (Str.ofString ((kfb_private% "ownerAndName") "list.append").2, Value.type ((kfb_private% "ownerAndName") "list.append").1) : Sem (Str × Value)) = _
    rw [ga_owner]
  · dsimp only
    refine wpAny_bind (wpAny_isInstance (T := "list") hT ga_sub ?_)
    refine bm_if_false rfl ?_
    refine wpAny_pure ?_
    exact wpAny_bind (wpAny_newObj_type (wpAny_pure h))
theorem ga_find {a : Addr} {xs : Array Value} {k : Nat} {Q : Builtin.ObjectAttr.Found → Shared → Prop} (ho : s.heap.get? a = some { cls := .type "list", data := .seq xs k }) (h : Q (.bind (.builtin "method_descriptor.__get__") (.builtin "list.append")) s) :
    wpAny (model prog w) A (Builtin.ObjectAttr.find (.ref a) (.type "list") (Str.ofString "append")) Q E s := by
  have hg : ∀ nm : Str, specialOf (.builtin "list.append") nm = typeLookup (.type "method_descriptor") nm := fun nm => by unfold specialOf; rw [ga_type]; rfl
  unfold Builtin.ObjectAttr.find
  refine wpAny_bind (wpAny_of_eq ga_look ?_)
  unfold Builtin.ObjectAttr.getOf
  refine wpAny_bind (wpAny_of_eq ((hg _).trans ga_slot_get.lookup) ?_)
  unfold Builtin.ObjectAttr.dataDescriptor?
  refine wpAny_bind (wpAny_bind ?_)
  unfold Builtin.ObjectAttr.takesStores
  refine wpAny_bind (wpAny_of_eq ((hg _).trans ga_no_set) ?_)
  refine bm_if_false rfl ?_
  refine wpAny_bind (wpAny_of_eq ((hg _).trans ga_no_del) ?_)
  refine wpAny_pure ?_
  refine bm_if_false rfl ?_
  refine wpAny_pure ?_
  dsimp only
  unfold Builtin.ObjectAttr.ownThenClass
  refine wpAny_bind ?_
  unfold Builtin.ObjectAttr.inOwnDict
  dsimp only
  refine wpAny_bind ?_
  unfold Builtin.ObjectAttr.ownDict
  refine wpAny_bind (wpAny_loadPart ho ?_)
  dsimp only
  unfold instanceDict
  refine wpAny_bind (wpAny_loadPart ho ?_)
  dsimp only
  refine bm_if_true rfl ?_
  refine wpAny_pure ?_
  refine wpAny_pure ?_
  dsimp only
  refine wpAny_bind (wpAny_of_eq (a := ()) rfl ?_)
  refine wpAny_bind (wpAny_rule ?_)
  exact wpAny_pure h
theorem ga_entry : entryFor table "list.__getattribute__" = some Builtin.«object.__getattribute__» := am_entry_list_getattribute
theorem ga_attr {a : Addr} {xs : Array Value} {k : Nat} {u : Tok} {Q : Value → Shared → Prop} (ho : s.heap.get? a = some { cls := .type "list", data := .seq xs k })
    (h : Q (.ref s.heap.objs.size) { s with heap := s.heap.push (boundApp a), toks := s.toks + 1 }) : wpAny (model prog w) A (getAttr (.ref a) (Str.ofString "append") true) Q E s := by
  have hT : s.TypeIs (.ref a) "list" := ⟨_, ho, rfl⟩
  unfold getAttr getAttrBy
  refine wpAny_bind (wpAny_mkText ?_)
  refine wpAny_holding (wpAny_bind (wpAny_typeOf hT ?_))
  refine wpAny_bind (wpAny_of_eq F.slot_list_getattribute.lookup ?_)
  dsimp only
  refine bm_if_false rfl ?_
  unfold getAttrByItsOwn
  refine wpAny_bind (wpAny_of_eq (a := none) rfl ?_)
  refine wpAny_bind (wpAny_attempt (wpAny_holding ?_))
  unfold callGetattribute
  refine bm_if_false rfl ?_
  unfold boundAndCalled
  refine wpAny_bind (wpAny_of_eq (F.slot_list_getattribute.bind (.ref a)) ?_)
  dsimp only
  refine wpAny_call_entry F.slot_list_getattribute hT ga_entry ?_ (F.args_list_getattribute_2 _ _)
  unfold Builtin.«object.__getattribute__»
  refine wpAny_bind (wpAny_of_eq (a := (.ref a, [.str (Str.ofString "append") s.toks])) rfl ?_)
  dsimp only
  refine wpAny_bind (wpAny_of_eq (a := Str.ofString "append") rfl ?_)
  refine wpAny_bind (wpAny_typeOf hT ?_)
  refine wpAny_bind (ga_find ho ?_)
  dsimp only
  unfold Builtin.ObjectAttr.bindTo
  dsimp only
  refine wpAny_bind (wpAny_holding ?_)
  refine wpAny_call_entry (T := "method_descriptor") ga_slot_get ?_ ga_entry_get (ga_get hT ?_) (ga_args_get _ _ _)
  · exact ga_type
  · refine ⟨_, rfl, wpAny_pure ⟨_, rfl, ?_⟩⟩
    dsimp only
    exact wpAny_pure h
end
end
end Mine
namespace Mine
section
open PySem PySem.W PyProof.Rows PySem.Calls
set_option maxRecDepth 100000
def sigApp : Manifest.Signature := ⟨.oneArg, "list.append", "append", .self, [⟨"object", .posOnly, true⟩]⟩
theorem ga_sig : Manifest.signature? "list.append" = some sigApp := by
  rw [signature?_of (id := "list.append") (n := ['d', 'n', 'e', 'p', 'p', 'a']) (o := ['t', 's', 'i', 'l']) (by kernel_rfl) F.owner_list]; kernel_rfl
theorem ga_check (a b : Value) : Bind.checkArgs "list.append" { sigApp with full := s!"{Bind.lastOf "list"}.{Bind.lastOf "list.append"}" } ⟨[a, b], []⟩ = pure () := by kernel_rfl
theorem ga_vars : Manifest.varargsMethods.contains "list.append" = false := by decide +kernel
theorem ga_quiet : plainId "list.append" = true := by decide +kernel
theorem ga_notMod : isSubtype (.type "list") (.type "module") = pure false := by rw [isSubtype_type]; kernel_rfl
theorem ga_notType : isSubtype (.type "list") (.type "type") = pure false := by rw [isSubtype_type]; kernel_rfl
section
variable {prog : Program} {w : World} {A : Around} {E : Value → Shared → Prop} {s : Shared}
theorem ga_bound {a : Addr} {v : Value} {its : Array Value} {n : Nat} {Q : Unit → Shared → Prop} (ho : s.heap.get? a = some { cls := .type "list", data := .seq its n }) (h : Q () s) : wpAny (model prog w) A (checkBoundCall "list.append" ⟨[.ref a, v], []⟩) Q E s := by
  have hT : s.TypeIs (.ref a) "list" := ⟨_, ho, rfl⟩
  unfold checkBoundCall
  rw [ga_sig, ga_kind]
  dsimp only
  refine bm_if_false rfl ?_
  refine wpAny_bind (wpAny_isInstance (T := "list") hT ga_notMod ?_)
  refine bm_if_false (by rw [ga_vars]; rfl) ?_
  refine wpAny_bind ?_
  unfold isType
  refine wpAny_bind (wpAny_loadPart ho (wpAny_pure ?_))
  refine bm_if_false rfl ?_
  refine wpAny_bind (wpAny_typeOf hT ?_)
  dsimp only
  exact wpAny_of_eq (ga_check _ _) h
/-- A call of the bound list.append. -/
theorem ga_call {a b : Addr} {v : Value} {its : Array Value} {n : Nat} {Q : Value → Shared → Prop} (hb : s.heap.get? b = some (boundApp a)) (ho : s.heap.get? a = some { cls := .type "list", data := .seq its n }) (hsz : its.size ≤ sizeLine)
    (h : Q .none { s with heap := s.heap.update a (Obj.mapSeq fun x => x.push v) }) : wpAny (model prog w) A (call (.ref b) [v]) Q E s := by
  have hT : s.TypeIs (.ref a) "list" := ⟨_, ho, rfl⟩
  refine wpAny_call (codeAny_of_tree ?_)
  show wpAny _ A.in1 (callAny (.ref b) _) _ _ s
  simp only [callAny]
  refine wpAny_bind (wpAny_load hb ?_)
  unfold boundApp
  dsimp only
  refine bm_if_true rfl ?_
  refine bm_if_true (a := checkBoundCall "list.append" ⟨[.ref a, v], []⟩ >>= fun _ => again (.builtin "list.append" ⟨[.ref a, v], []⟩)) rfl ?_
  refine wpAny_bind (ga_bound ho ?_)
  refine wpAny_pure ⟨plainId_quiet ga_quiet _, codeAny_builtin F.entry_list_append ?_⟩
  rw [Around.under_plainId ga_quiet _]
  refine AutoListH.list_append_list_val_0 a its n v hsz prog w A (wants Q E) _ ⟨ho, ?_⟩
  exact h
end
end
end Mine
namespace Mine
section
open PySem PySem.W PyProof.Rows PySem.Calls
set_option maxRecDepth 100000
def StandB (a b : Addr) (s : Shared) : Prop := s.heap.get? b = some (boundApp a)
section
variable {prog : Program} {w : World} {A : Around} {E : Value → Shared → Prop} {s : Shared} {h₀ : Heap} {L a b : Addr} {m : Str → Option Value} {news news' : List (Addr × Obj)}
theorem ga_attrK {its : Array Value} {n : Nat} {Q : Value → Shared → Prop} (F : Fr h₀ L s.heap m) (N : News h₀ L s.heap news) (hm : (a, listOf its n) ∈ news)
    (h : ∀ b h', Fr h₀ L h' m → News h₀ L h' ((b, boundApp a) :: news) → (∀ p ∈ news, p.1 < b) → Q (.ref b) { s with heap := h', toks := s.toks + 1 }) : wpAny (model prog w) A (getAttr (.ref a) (Str.ofString "append") true) Q E s :=
  ga_attr (u := 0) (N _ hm).1 (h _ _ (F.push _) (N.push F _) fun p hp => Heap.lt_size (N p hp).1)
theorem ga_callK {its : Array Value} {n : Nat} {v : Value} {Q : Value → Shared → Prop} (F : Fr h₀ L s.heap m) (N : News h₀ L s.heap news) (hb : (b, boundApp a) ∈ news) (U : Upd a (listOf its n) (listOf (its.push v) (n + 1)) news news') (hsz : its.size ≤ sizeLine)
    (h : ∀ h', Fr h₀ L h' m → News h₀ L h' news' → Q .none { s with heap := h' }) : wpAny (model prog w) A (call (.ref b) [v]) Q E s := by
  obtain ⟨pre, post, rfl, rfl, c, d⟩ := U.split
  have z := N (a, listOf its n) (List.mem_append.mpr (.inr (.head _)))
  exact ga_call (N _ hb).1 z.1 hsz (h _ (F.change (Heap.SameBut.update ..) z.2.1 z.2.2) (kl_turn (fun x => x.push v) N c d rfl (by rw [Array.size_push]; omega)))
theorem ga_callWith {pos : Pos} {e : Expr} {rest : List Expr} {env : Env} {Q : Value → Shared → Prop} (_N : News h₀ L s.heap news) (_hb : (b, boundApp a) ∈ news)
    (h : wpAny (model prog w) A (spliced (backTo pos (starEach (e :: rest) env))) (fun vs s₁ => StandB a b s₁ ∧ wpAny (model prog w) A (call (.ref b) vs) Q E s₁) E s)
    (he : starEach (e :: rest) env = (false, eval e env) :: starEach rest env := by rfl)
    (hplain : (backTo pos (starEach rest env)).any (·.1) = false := by rfl) :
    wpAny (model prog w) A (callWith pos (.ref b) [] (backTo pos (starEach (e :: rest) env)) []) Q E s := by
  have hp : ((backTo pos (starEach (e :: rest) env)).any (·.1)) = false := by rw [he]; show (false || (backTo pos (starEach rest env)).any (·.1)) = false; rw [hplain]; rfl
  rw [he] at h hp ⊢
  unfold callWith
  refine wpAny_bind (wpAny_holding (wpAny_mono (evalArgs_plain (Q := fun x s₁ => StandB a b s₁ ∧ wpAny (model prog w) A (call (.ref b) x.pos x.kw) Q E s₁) h) (fun x s₁ h₁ => wpAny_bind (wpAny_standAt ?_)) fun _ _ x => x))
  obtain ⟨ho, h₂⟩ := h₁
  simp only [hp, List.any_nil, Bool.or_false, List.nil_append]
  refine wpAny_bind (m := keeperOf (.ref b)) ?_
  unfold keeperOf
  refine wpAny_bind (wpAny_load ho ?_)
  show wpAny _ _ (if (Value.type "builtin_function_or_method" != Value.type "method") = true then _ else _) _ _ _
  refine bm_if_true rfl ?_
  refine wpAny_pure ?_
  show wpAny _ _ (call (.ref b) x.pos x.kw >>= fun r => holding [r] point >>= fun _ => pure r) _ _ _
  exact wpAny_bind (wpAny_mono h₂ (fun r s₂ hr => wpAny_bind (wpAny_holding (wpAny_point (wpAny_pure hr)))) fun _ _ x => x)
end
end
end Mine
namespace Mine
section
open PySem PySem.W PyProof.Rows PySem.Calls
set_option maxRecDepth 100000
section
variable {prog : Program} {w : World} {A : Around} {E : Value → Shared → Prop} {s : Shared}
theorem repl_none {x y z : Str} {t u v : Tok} {Q : Value → Shared → Prop} (hn : (Builtin.Str.occurrences x y 0 x.length (x.length + 1)).isEmpty = true) (h : Q (.str x t) s) :
    wpAny (model prog w) A (call (.builtin "str.replace") [.str x t, .str y u, .str z v]) Q E s := by
  refine call_gives F.slot_str_replace (typeIs_str _ _ _) F.entry_str_replace (F.args_str_replace_3 _ _ _) (gives_str_replace x y z t u v fun e => ?_) ?_
  · rw [hn] at e; cases e
  · rw [hn]; exact h
theorem notIn_none {x y : Str} {t u : Tok} {Q : Value → Shared → Prop} (hn : (Builtin.Str.occurrences x y 0 x.length 1).isEmpty = true) (h : Q (.bool true) s) :
    wpAny (model prog w) A (compareOp .NotIn (.str y u) (.str x t)) Q E s := notIn_str (by rw [hn]; exact h)
end
end
end Mine
namespace Mine
section
open PySem PySem.W PyProof.Rows PySem.Calls
set_option maxRecDepth 100000
theorem re_attrs : PlainAttrs "re.Pattern" where
  ga := ⟨"object.__getattribute__", by rw [typeLookup_type, builtinLookup_eq_fast]; kernel_rfl, by decide +kernel⟩
  noGetattr := by rw [typeLookup_type, builtinLookup_eq_fast]; kernel_rfl
theorem re_slot : Slot "re.Pattern" "sub" "re.Pattern.sub" :=
  .of (owner := "re.Pattern") (n := "sub") (by rw [typeLookup_type, builtinLookup_eq_fast]; kernel_rfl) (by decide +kernel) (by decide +kernel) (by decide +kernel)
    (by first | exact .inl (by decide +kernel) | exact .inr (by decide +kernel)) (by rw [isSubtype_type]; kernel_rfl)
theorem re_type : typeOf (.builtin "re.Pattern.sub") = pure (.type "method_descriptor") := by show builtinType _ = _; rw [builtinType_eq_fast]; kernel_rfl
theorem re_entry : entryFor table "re.Pattern.sub" = some Builtin.«re.Pattern.sub» := entryFor_of_tree (by kernel_rfl)
theorem re_entry_loop : entryFor table "re.Pattern.sub.loop" = some Builtin.«re.Pattern.sub.loop» := entryFor_of_tree (by kernel_rfl)
theorem re_args (a b c : Value) : argsOk "re.Pattern.sub" ⟨[a, b, c], []⟩ := by unfold argsOk; kernel_rfl
theorem re_plain_loop : plainId "re.Pattern.sub.loop" = true := by decide +kernel
theorem re_plain : plainId "re.Pattern.sub" = true := by decide +kernel
theorem re_fn_call : typeLookup (.type "function") "__call__" = pure (some (.builtin "function.__call__")) := by rw [typeLookup_type, builtinLookup_eq_fast]; kernel_rfl
theorem re_named (a b : Value) : Builtin.Re.reNamed "re.Pattern.sub" "sub" ["repl", "string", "count"] 2 [a, b] [] = pure [some a, some b, none] := by kernel_rfl
theorem re_str_not_ba : isSubtype (.type "str") (.type "bytearray") = pure false := by rw [isSubtype_type]; kernel_rfl
def reCode : Array Nat := #[14, 14, 4, 1, 1, 9, 0, 64, 0, 1342177280, 0, 0, 0, 0, 0, 17, 0, 13, 11, 9, 0, 64, 0, 1342177280, 0, 0, 0, 0, 0, 17, 1, 1]
def reText : Array Nat := #[233, 8364]
def reM : Sre.M := Sre.forSearch reCode reText 1 0 2 false
theorem re_done : (reM.runFor 4).outcome.isSome = true := by decide +kernel
theorem re_failed : (match (reM.runFor 4).outcome with | some .failed => true | _ => false) = true := by decide +kernel
theorem drive_one (n : Nat) (m : Sre.M) (h : (m.runFor 4).outcome.isSome = true) : Builtin.Re.reDrive (n + 1) m = pure (m.runFor 4) := by
  unfold Builtin.Re.reDrive
  show (if (m.runFor 4).outcome.isSome = true then pure (m.runFor 4) else _) = _
  rw [if_pos h]
section
variable {prog : Program} {w : World} {A : Around} {E : Value → Shared → Prop} {s : Shared}
theorem re_meth {p : Addr} {o : Obj} {pl : Sem Bool} {Q : Value × List Value → Shared → Prop} (ho : s.heap.get? p = some o) (hc : o.cls = .type "re.Pattern") (hd : o.dict = none) (h : Q (.builtin "re.Pattern.sub", [.ref p]) s) :
    wpAny (model prog w) A (getMethod (.ref p) (Str.ofString "sub") pl) Q E s :=
  getMethod_builtin (name := Str.ofString "sub") ⟨o, ho, hc⟩ re_attrs re_slot re_type (fun a e => by cases e; exact ⟨o, ho, hd⟩) h
theorem re_rules {c : Nat → Bool} {nm : Nat → String} {Q : PUnit → Shared → Prop} : ∀ (l : List Nat) (s : Shared), Q PUnit.unit s →
    wpAny (model prog w) A (forIn (m := Sem) l PUnit.unit fun i _ => if c i = true then (do rule (nm i); pure (ForInStep.yield PUnit.unit)) else pure (ForInStep.yield PUnit.unit)) Q E s
  | [], s, h => wpAny_pure h
  | i :: l, s, h => by
    rw [List.forIn_cons]
    refine wpAny_bind ?_
    cases c i
    · exact bm_if_false rfl (wpAny_pure (re_rules l s h))
    · exact bm_if_true rfl (wpAny_bind (wpAny_rule (wpAny_pure (re_rules l _ h))))
theorem re_next {Q : Option Sre.M → Shared → Prop} (h : Q none s) : wpAny (model prog w) A (Builtin.Re.reRunToEnd reM) Q E s := by
  unfold Builtin.Re.reRunToEnd
  rw [show (2 : Nat) ^ 64 = (2 ^ 64 - 1) + 1 from rfl, drive_one _ _ re_done]
  refine wpAny_bind (wpAny_pure ?_)
  refine wpAny_bind (re_rules _ _ ?_)
  have h2 := re_failed
  cases ho : (Sre.M.runFor 4 reM).outcome with
  | none => rw [ho] at h2; cases h2
  | some o =>
    rw [ho] at h2
    cases o with
    | matched => cases h2
    | stuck why => cases h2
    | failed => exact wpAny_pure h
def reTgt (p : Addr) (t : Tok) : Builtin.Re.ReTarget := { pattern := .ref p, string := .str (Str.ofString "é€") t, code := reCode, text := reText, kind := 0, groups := 1, pos := 0, lim := 2 }
def IsPat (p : Addr) (s : Shared) : Prop := ∃ P : Params, s.heap.get? p = some (o50 P) ∧ s.heap.get? 49 = some (o49 P)
theorem re_target {p : Addr} {t : Tok} {Q : Builtin.Re.ReTarget → Shared → Prop} (hp : IsPat p s) (h : Q (reTgt p t) s) :
    wpAny (model prog w) A (Builtin.Re.reWholeTarget (.ref p) (.str (Str.ofString "é€") t)) Q E s := by
  obtain ⟨P, h50, h49⟩ := hp
  unfold Builtin.Re.reWholeTarget
  refine wpAny_bind (wpAny_fieldsOf h50 rfl ?_)
  refine wpAny_bind (wpAny_of_eq (a := ((Str.ofString "é€").cps, 0)) rfl ?_)
  dsimp only
  refine bm_if_false rfl ?_
  refine bm_if_false rfl ?_
  refine wpAny_bind (wpAny_of_eq (a := ()) rfl ?_)
  refine wpAny_bind ?_
  unfold Builtin.Re.reRawItems
  refine wpAny_bind (wpAny_seqItems h49 rfl ?_)
  refine wpAny_pure (wpAny_pure ?_)
  have e : ∀ tg : Builtin.Re.ReTarget, tg = reTgt p t → Q tg s := by
    rintro _ rfl; exact h
  refine e _ ?_
  unfold reTgt
  congr 1
  all_goals decide +kernel
theorem re_sub {p f : Addr} {of : Obj} {t : Tok} {Q : Value → Shared → Prop} (hp : IsPat p s) (hf : s.heap.get? f = some of) (hfc : of.cls = .type "function")
    (h : ∀ h' t' k, (∀ b o, s.heap.get? b = some o → h'.get? b = some o) → Q (.str (Str.ofString "é€") t') { s with heap := h', toks := k }) :
    wpAny (model prog w) A (call (.builtin "re.Pattern.sub") [.ref p, .ref f, .str (Str.ofString "é€") t]) Q E s := by
  have hT : s.TypeIs (.ref p) "re.Pattern" := by obtain ⟨P, h50, _⟩ := hp; exact ⟨_, h50, rfl⟩
  have hTf : s.TypeIs (.ref f) "function" := ⟨_, hf, hfc⟩
  refine wpAny_call (codeAny_call_builtin re_slot.plain re_entry (re_slot.check _ _ _ _ _ _ _ _ hT (re_args _ _ _) ?_))
  unfold Builtin.«re.Pattern.sub» Builtin.Re.reSubstitute
  dsimp only
  refine wpAny_bind (wpAny_of_eq (re_named _ _) ?_)
  dsimp only
  refine wpAny_bind (wpAny_of_eq (a := (0 : Int)) rfl ?_)
  refine wpAny_bind (wpAny_specialOf hTf re_fn_call ?_)
  refine wpAny_bind (wpAny_pure ?_)
  refine bm_if_true rfl ?_
  refine wpAny_bind (wpAny_pure ?_)
  dsimp only
  refine wpAny_bind (wpAny_holding (re_target hp ?_))
  refine bm_if_true rfl ?_
  refine wpAny_bind ?_
  unfold Builtin.Re.reNotHeld
  refine wpAny_bind (wpAny_isInstance (T := "str") (typeIs_str _ _ _) re_str_not_ba ?_)
  refine bm_if_false rfl ?_
  refine wpAny_pure ?_
  refine wpAny_bind (wpAny_newObj_type ?_)
  refine wpAny_pure ⟨plainId_quiet re_plain_loop _, codeAny_builtin re_entry_loop ?_⟩
  rw [Around.under_plainId re_plain_loop _]
  have up : ∀ b o, s.heap.get? b = some o → (s.heap.push { cls := .type "list", data := .seq #[] }).get? b = some o := fun b o e => Heap.get?_push_of_some _ e
  have hL : (s.heap.push { cls := .type "list", data := .seq #[] }).get? s.heap.objs.size = some { cls := .type "list", data := .seq #[] } := Heap.get?_push_size _ rfl
  have hp1 : ∀ tk, IsPat p { s with heap := s.heap.push { cls := .type "list", data := .seq #[] }, toks := tk } := fun tk => by
    obtain ⟨P, h50, h49⟩ := hp
    exact ⟨P, up _ _ h50, up _ _ h49⟩
  unfold Builtin.«re.Pattern.sub.loop»
  unfold rawInt
  dsimp only
  refine wpAny_bind (re_target (hp1 _) ?_)
  refine bm_if_false rfl ?_
  refine wpAny_bind ?_
  refine bm_if_false rfl ?_
  show wpAny _ _ (Builtin.Re.reRunToEnd reM) _ _ _
  refine re_next ?_
  dsimp only
  rw [if_pos (show (0 : Int).toNat < (reTgt p t).lim from (by decide : 0 < 2))]
  refine wpAny_bind (wpAny_mkStr (x := ⟨reText.extract 0 2⟩) ?_ (by rw [sizeLine_eq]; decide +kernel))
  refine wpAny_bind (wpAny_updateSeq hL rfl ?_)
  refine wpAny_bind (wpAny_mkStr (x := ⟨reText.extract 0 0⟩) ?_ (by rw [sizeLine_eq]; decide +kernel))
  have hU := Heap.get?_update_self (Obj.mapSeq fun x => x.push (Value.str ⟨reText.extract 0 2⟩ s.toks)) hL rfl
  refine wpAny_bind (wpAny_seqItems hU rfl ?_)
  refine bm_if_false rfl ?_
  refine wpAny_bind ?_
  show wpAny _ _ (call (.builtin "str.join") [.str ⟨reText.extract 0 0⟩ _, .ref s.heap.objs.size]) _ _ _
  refine join_listW (items := #[Value.str ⟨reText.extract 0 2⟩ s.toks]) (ys := [⟨reText.extract 0 2⟩]) ⟨_, hU, rfl, _, rfl⟩ (.cons _ _ .nil) (by decide +kernel) (by decide +kernel) ?_
  intro t9 k9
  refine bm_if_false rfl ?_
  refine wpAny_pure ?_
  have e : Txt.join ⟨reText.extract 0 0⟩ [⟨reText.extract 0 2⟩] = Str.ofString "é€" := by decide +kernel
  show Q (.str (Txt.join ⟨reText.extract 0 0⟩ [⟨reText.extract 0 2⟩]) t9) _
  rw [e]
  refine h _ _ _ fun b o hb => ?_
  rw [Heap.get?_update_other _ _ (Ne.symm (Nat.ne_of_lt (Heap.lt_size hb)))]
  exact up _ _ hb
end
end
end Mine
namespace Mine
section
open PySem PySem.W PyProof.Rows PySem.Calls
set_option maxRecDepth 100000
/-- where the lambda of _translate stands -/
def lamPos : Pos := { line := 68, col := 39, endLine := 68, endCol := 76 }
/-- the table of what _translate's code has made: nothing, or the lambda's code -/
def TabOk (ps : Array Value) : Prop := TriplesOk ps.toList ∧ (codeAmong lamPos ps.toList = none ∨ ∃ c : Addr, codeAmong lamPos ps.toList = some (.ref c))
theorem tab_nil : TabOk #[] := ⟨trivial, .inl rfl⟩
theorem tab_snoc {ps : Array Value} {c : Addr} (h : TriplesOk ps.toList) (hn : codeAmong lamPos ps.toList = none) : TabOk (ps ++ #[rawInt lamPos.line, rawInt lamPos.col, .ref c]) := by
  have e : (ps ++ #[rawInt lamPos.line, rawInt lamPos.col, Value.ref c]).toList = ps.toList ++ [rawInt lamPos.line, rawInt lamPos.col, .ref c] := by simp
  refine ⟨?_, .inr ⟨c, ?_⟩⟩
  · rw [e]; exact TriplesOk_snoc _ _ _ _ h
  · rw [e]; exact codeAmong_snoc _ h hn
theorem code_hd {P : Params} {h : Heap} (X : (KK P).In h) : CodeHd h 68 64 :=
  ⟨o68 P, _, _, _, _, _, _, _, _, X _ _ (by exact rfl), rfl, rfl, rfl, rfl, rfl, rfl, rfl, rfl, by decide⟩
/-- the ledger with the table turned -/
theorem news_tab {h h' : Heap} {h₀ : Heap} {L : Addr} {ps ps' : Array Value} {news : List (Addr × Obj)} {u : Obj → List (Addr × Obj)} (N : News h₀ L h news) (U : UpdF 64 (tabObj ps) news u)
    (k : ∀ b o, (hideAll h [64]).get? b = some o → h'.get? b = some o) (h64 : h'.get? 64 = some (tabObj ps')) : News h₀ L h' (u (tabObj ps')) := by
  obtain ⟨pre, post, rfl, hu, c, d⟩ := U.split
  rw [hu]
  have z := N (64, tabObj ps) (List.mem_append.mpr (.inr (.head _)))
  intro p hp
  rcases List.mem_append.mp hp with hp | hp
  · have n := N p (List.mem_append.mpr (.inl hp))
    exact ⟨k _ _ (hideAll_get [64] n.1 (by simpa using c p hp)), n.2⟩
  · rcases List.mem_cons.mp hp with rfl | hp
    · exact ⟨h64, z.2⟩
    · have n := N p (List.mem_append.mpr (.inr (.tail _ hp)))
      exact ⟨k _ _ (hideAll_get [64] n.1 (by simpa using d p hp)), n.2⟩
theorem news_one64 {h h₀ : Heap} {L : Addr} {ps : Array Value} {news : List (Addr × Obj)} {u : Obj → List (Addr × Obj)} (N : News h₀ L h news) (U : UpdF 64 (tabObj ps) news u) : News h₀ L h [(64, tabObj ps)] := by
  obtain ⟨pre, post, rfl, _, _, _⟩ := U.split
  intro p hp
  rw [List.mem_singleton.mp hp]
  exact N _ (List.mem_append.mpr (.inr (.head _)))
section
variable {prog : Program} {w : World} {A₀ A : Around} {s : Shared} {K : Frag} {L : Addr} {h₀ base : Heap} {m mg mb : Str → Option Value} {news : List (Addr × Obj)} {u : Obj → List (Addr × Obj)} {ps : Array Value} {p : Program} {loose : List Str} {mean : ExcName → Option Value} {Q E : Value → Shared → Prop}
  {env : Env} {outer : List Env} {name qual : Str} {params : Arguments} {body : List Stmt} {scope : Scope} {dV kV doc pm cdv ct oc : Value} {an od : Option Addr} {osl : Array (Option Value)} {f : Addr} {vs : List Value} {binds : List (Str × Value)}
/-- a def without cells is entered, the table laid aside -/
theorem enterT (B : Below A₀ base outer h₀) (F : Fr h₀ L s.heap m) (X₀ : K.In h₀) (N : News h₀ L s.heap news) (U : UpdF 64 (tabObj ps) news u) (T : Top p loose mean mg mb h₀) (hA : A.frames = some (env :: outer)) (hf : env.frame = some L) (hke : env.scope.kind = .function)
    (ho : K.lookup f = some ⟨oc, od, .func (fnOf name qual params body scope dV kV doc pm an cdv ct), osl⟩) (hcd : codeIn K cdv qual = true) (hroom : A.depth < recursionLimit)
    (hbind : BindsTo s (fnOf name qual params body scope dV kV doc pm an cdv ct) ⟨vs, []⟩ binds) (hloc : ∀ y ∈ binds, scope.names.lookup y.1 = some .local)
    (h : ∀ g L' h₁, g = hideAll s.heap [64] → Fr h₀ L g m → Fr g L' h₁ (fun y => binds.reverse.lookup y) → News g L' h₁ [(64, tabObj ps)] → Below A base (env :: outer) g → K.In g → Top p loose mean mg mb g →
      wpAny (model prog w) (A.deeper (envOf qual scope L' f cdv)) (execs body (envOf qual scope L' f cdv))
        (fun fl s' => (∀ b o, g.get? b = some o → s'.heap.get? b = some o) ∧ (Fr h₀ L s'.heap m → Q (match fl with | .ret v => v | _ => .none) s'))
        (fun _ _ => False)
        { s with heap := h₁, toks := s.toks + binds.length })
    (hco : scope.isCoroutine = false) (hgen : scope.isGenerator = false) (hk : scope.kind = .function)
    (hcell : ∀ x ∈ scope.names, x.2 ≠ .cell) : wpAny (model prog w) A (call (.ref f) vs []) Q E s := by
  have N₁ := news_one64 N U
  obtain ⟨FG, BG, st, _⟩ := groundX (R := fun _ _ => True) B F N₁ hA hf hke
  refine wpAny_call (codeAny_call_def (fd := fnOf name qual params body scope dV kV doc pm an cdv ct) (body := body) (binds := binds) hroom ((X₀.keeps F.keep) _ _ ho) rfl (T.nolimit.keeps F.keep) (codeRec_of (X₀.keeps F.keep) hcd) rfl hbind hcell hloc (fun h₁ hns hk₁ => ?_) hco hgen hk)
  refine wpAny_mono (h (hideAll s.heap [64]) s.heap.objs.size h₁ rfl FG ⟨hns, fun b o e => hk₁ b o (of_hideAll _ e), Nat.le_of_eq (hideAll_size _ _)⟩
    (fun q hq => ⟨hk₁ _ _ (N₁ q hq).1, Nat.ne_of_lt (Heap.lt_size (N₁ q hq).1), hideAll_none _ (List.mem_map_of_mem hq)⟩) BG (X₀.keeps st) (T.keeps st)) (fun fl s' hl => ?_) fun _ _ y => y.elim
  exact hl.2 (FG.keeps hl.1)
/-- the same of a def with cells -/
theorem enterCT (B : Below A₀ base outer h₀) (F : Fr h₀ L s.heap m) (X₀ : K.In h₀) (N : News h₀ L s.heap news) (U : UpdF 64 (tabObj ps) news u) (T : Top p loose mean mg mb h₀) (hA : A.frames = some (env :: outer)) (hf : env.frame = some L) (hke : env.scope.kind = .function)
    (ho : K.lookup f = some ⟨oc, od, .func (fnOf name qual params body scope dV kV doc pm an cdv ct), osl⟩) (hcd : codeIn K cdv qual = true) (hroom : A.depth < recursionLimit)
    (hbind : BindsTo s (fnOf name qual params body scope dV kV doc pm an cdv ct) ⟨vs, []⟩ binds) (hkind : (binds.all fun y => scope.names.lookup y.1 == some .local || scope.names.lookup y.1 == some .cell) = true)
    (hnd : ((cellsFrom 0 scope.names []).map (·.1)).Nodup)
    (h : ∀ g L' h₁ tk cells, g = hideAll s.heap [64] → Fr h₀ L g m → Fr g L' h₁ (bindL (envOfC qual scope L' f cdv).kindOf binds fun _ => none) → News g L' h₁ (cells ++ [(64, tabObj ps)]) → (∀ p ∈ cells, p.1 ≠ 64) →
      CellsAre (bindC (envOfC qual scope L' f cdv).kindOf binds fun _ => none) (cellsFrom (L' + 1) scope.names []) cells → Below A base (env :: outer) g → K.In g → Top p loose mean mg mb g →
      wpAny (model prog w) (A.deeper (envOfC qual scope L' f cdv)) (execs body (envOfC qual scope L' f cdv))
        (fun fl s' => (∀ b o, g.get? b = some o → s'.heap.get? b = some o) ∧ (Fr h₀ L s'.heap m → Q (match fl with | .ret v => v | _ => .none) s'))
        (fun _ _ => False)
        { s with heap := h₁, toks := tk })
    (hco : scope.isCoroutine = false) (hgen : scope.isGenerator = false) (hk : scope.kind = .function) : wpAny (model prog w) A (call (.ref f) vs []) Q E s := by
  have N₁ := news_one64 N U
  have h64 : 64 < s.heap.objs.size := Heap.lt_size (N₁ _ (.head _)).1
  obtain ⟨FG, BG, st, _⟩ := groundX (R := fun _ _ => True) B F N₁ hA hf hke
  refine wpAny_call (codeAny_call_function hroom ((X₀.keeps F.keep) _ _ ho) rfl hco hgen rfl (codeRec_of (X₀.keeps F.keep) hcd) (hbind _ _ _ _ ?_))
  refine wpAny_newFunctionEnv_cells hk (kindsX hkind _) fun env' he s' x => ?_
  subst he
  refine ⟨(T.nolimit.keeps F.keep).keeps x.toInCall.keep, codeAny_func ?_⟩
  obtain ⟨h₁, tk, rfl, _⟩ := x.done
  have hk₁ := x.toInCall.keep
  obtain ⟨cells, NC, Y⟩ := Cl.news (h₀ := s.heap) (Nat.le_refl _) fun n c hm => ⟨x.cell n c (lookup_of_mem_nodup (cellsFrom_names scope.names 0 (s.heap.objs.size + 1) [] [] rfl ▸ hnd) hm), x.above n c hm⟩
  have g64 : ∀ q ∈ cells, q.1 ≠ 64 := fun q hq e => by
    have := (NC q hq).2.2
    rw [e] at this
    exact absurd (N₁ _ (.head _)).1 (by rw [this]; exact fun e => nomatch e)
  refine wpAny_mono (h (hideAll s.heap [64]) s.heap.objs.size h₁ tk cells rfl FG ⟨x.toInCall.ns, fun b o e => hk₁ b o (of_hideAll _ e), Nat.le_of_eq (hideAll_size _ _)⟩ (fun q hq => ?_) g64 Y BG (X₀.keeps st) (T.keeps st)) (fun fl s' hl => ?_) fun _ _ y => y.elim
  · rcases List.mem_append.mp hq with hq | hq
    · refine ⟨(NC q hq).1, (NC q hq).2.1, ?_⟩
      cases e : (hideAll s.heap [64]).get? q.1 with
      | none => rfl
      | some o => have := of_hideAll _ e; rw [(NC q hq).2.2] at this; cases this
    · exact ⟨hk₁ _ _ (N₁ q hq).1, Nat.ne_of_lt (Heap.lt_size (N₁ q hq).1), hideAll_none _ (List.mem_map_of_mem hq)⟩
  · exact hl.2 (FG.keeps hl.1)
end
section
variable {A₀ A : Around} {s : Shared} {L : Addr} {h₀ base : Heap} {m mg mb : Str → Option Value} {news : List (Addr × Obj)} {mean : ExcName → Option Value} {Q E : Value → Shared → Prop}
  {name qual : Str} {params : Arguments} {body : List Stmt} {scope : Scope} {dV kV doc pm cdv ct oc : Value} {an od : Option Addr} {osl : Array (Option Value)} {f : Addr} {vs : List Value} {binds : List (Str × Value)}
/-- A contract that may turn the table. -/
abbrev ConT (D : Nat) (f : Addr) (vs : List Value) (RV : Heap → Heap → Value → Prop) : Prop :=
  ∀ (w : World) (mean : ExcName → Option Value) (mg mb : Str → Option Value) (news : List (Addr × Obj)) (u : Obj → List (Addr × Obj)) (ps : Array Value) (dp un : Nat) (gd : Option (List Code)) (cn : Str) (cs : Scope) (a : Addr) (ccd : Value) (cl : List (Str × Addr)) (outer : List Env) (A₀ : Around) (base h₀ : Heap) (L : Addr) (m : Str → Option Value) (s : Shared) (Q E : Value → Shared → Prop),
    Below A₀ base outer h₀ → Fr h₀ L s.heap m → (KK w.params).In h₀ → News h₀ L s.heap news → UpdF 64 (tabObj ps) news u → TabOk ps → Top q0 (looseW q0 loose0) mean mg mb h₀ → cs.kind = .function →
      dp + D < recursionLimit → un + 8 * D < cLine →
      (∀ g v h' tk' ps', TabOk ps' → Fr h₀ L g m → (∀ b o, g.get? b = some o → h'.get? b = some o) → RV g h' v → Fr h₀ L h' m → News h₀ L h' (u (tabObj ps')) → Q v { s with heap := h', toks := tk' }) →
      wpAny (model (OpenLaw.prog PySem.Challenge.rw_rt0055_01) w) (ktrTop dp un gd cn cs L a ccd cl outer) (call (.ref f) vs) Q E s
theorem use_conT {D : Nat} {f : Addr} {vs : List Value} {RV : Heap → Heap → Value → Prop} (c : ConT D f vs RV)
    {w : World} {mean : ExcName → Option Value} {mg mb : Str → Option Value} {news : List (Addr × Obj)} {u : Obj → List (Addr × Obj)} {ps : Array Value} {dp un : Nat} {gd : Option (List Code)} {cn : Str} {cs : Scope} {a : Addr} {ccd : Value} {cl : List (Str × Addr)} {outer : List Env} {A₀ : Around} {base h₀ : Heap} {L : Addr} {m : Str → Option Value} {s : Shared} {Q E : Value → Shared → Prop}
    (k1 : Below A₀ base outer h₀) (k2 : Fr h₀ L s.heap m) (k3 : (KK w.params).In h₀) (k4 : News h₀ L s.heap news) (kU : UpdF 64 (tabObj ps) news u) (kT : TabOk ps) (k5 : Top q0 (looseW q0 loose0) mean mg mb h₀) (kK : cs.kind = .function)
    (kd : dp + D < recursionLimit) (ku : un + 8 * D < cLine) (kR : ∀ g v h' tk' ps', TabOk ps' → Fr h₀ L g m → (∀ b o, g.get? b = some o → h'.get? b = some o) → RV g h' v → Fr h₀ L h' m → News h₀ L h' (u (tabObj ps')) → Q v { s with heap := h', toks := tk' }) :
    wpAny (model (OpenLaw.prog PySem.Challenge.rw_rt0055_01) w) (ktrTop dp un gd cn cs L a ccd cl outer) (call (.ref f) vs) Q E s := c w mean mg mb news u ps dp un gd cn cs a ccd cl outer A₀ base h₀ L m s Q E k1 k2 k3 k4 kU kT k5 kK kd ku kR
def RetT (g : Heap) (s : Shared) (RV : Heap → Heap → Value → Prop) (fl : Flow) (s' : Shared) : Prop :=
  ∃ (v : Value) (h' : Heap) (tk' : Nat) (ps' : Array Value), TabOk ps' ∧ h'.get? 64 = some (tabObj ps') ∧ (∀ b o, g.get? b = some o → h'.get? b = some o) ∧ s' = { s with heap := h', toks := tk' } ∧ (match fl with | .ret v => v | _ => .none) = v ∧ RV g h' v
theorem retT_in {g : Heap} {s : Shared} {RV : Heap → Heap → Value → Prop} {v : Value} {h' : Heap} {tk' : Nat} {L : Addr} {m : Str → Option Value} {ps' : Array Value} {news : List (Addr × Obj)} (F : Fr g L h' m) (N : News g L h' news) (hm : (64, tabObj ps') ∈ news) (hp : TabOk ps') (e : RV g h' v) : RetT g s RV (.ret v) { s with heap := h', toks := tk' } := ⟨v, h', tk', ps', hp, (N _ hm).1, F.keep, rfl, rfl, e⟩
theorem conT_P {D : Nat} {RV : Heap → Heap → Value → Prop}
    (ho : ∀ P, (KK P).lookup f = some ⟨oc, od, .func (fnOf name qual params body scope dV kV doc pm an cdv ct), osl⟩) (hcd : ∀ P, codeIn (KK P) cdv qual = true)
    (hbind : bindArgs (fnOf name qual params body scope dV kV doc pm an cdv ct) ⟨vs, []⟩ = pure binds) (hloc : ∀ y ∈ binds, scope.names.lookup y.1 = some .local)
    (hco : scope.isCoroutine = false) (hgen : scope.isGenerator = false) (hk : scope.kind = .function) (hcell : ∀ x ∈ scope.names, x.2 ≠ .cell)
    (h : ∀ (w : World) (mean : ExcName → Option Value) (mg mb : Str → Option Value) (dp un : Nat) (gd : Option (List Code)) (outer : List Env) (A₀ : Around) (base g h₁ : Heap) (L' : Addr) (s : Shared) (tk : Nat) (ps : Array Value), TabOk ps →
      Below A₀ base outer g → Fr g L' h₁ (fun y => binds.reverse.lookup y) → News g L' h₁ [(64, tabObj ps)] → (KK w.params).In g → Top q0 (looseW q0 loose0) mean mg mb g →
      dp + D < recursionLimit → un + 8 * D < cLine →
      wpAny (model (OpenLaw.prog PySem.Challenge.rw_rt0055_01) w) (ktrTop dp un gd qual scope L' f cdv [] outer) (execs body (envX qual scope L' f cdv []))
        (RetT g s RV) (fun _ _ => False) { s with heap := h₁, toks := tk }) : ConT (D + 1) f vs RV := by
  intro w mean mg mb news u ps dp un gd cn cs a ccd cl outer A₀ base h₀ L m s Q E B F X N U O T hck hd hu hret
  refine enterT (K := KK w.params) B F X N U T rfl rfl hck (ho _) (hcd _) (by show dp < recursionLimit; omega) (BindsTo.of_eq hbind) hloc (fun g L' h₁ eg FG F' N' B' X' T' => ?_) hco hgen hk hcell
  refine wpAny_mono (h w mean mg mb (dp + 1) (un + 3) gd (envX cn cs L a ccd cl :: outer) _ base g h₁ L' s _ ps O B' F' N' X' T' (by omega) (by omega)) (fun fl s' hr => ?_) fun _ _ x => x
  obtain ⟨v, h', tk', ps', hp', h64, hkeep, rfl, e, hv⟩ := hr
  rw [e]
  subst eg
  exact ⟨hkeep, fun F₁ => hret _ v h' tk' ps' hp' FG hkeep hv F₁ (news_tab N U hkeep h64)⟩
theorem conT_C {D : Nat} {RV : Heap → Heap → Value → Prop}
    (ho : ∀ P, (KK P).lookup f = some ⟨oc, od, .func (fnOf name qual params body scope dV kV doc pm an cdv ct), osl⟩) (hcd : ∀ P, codeIn (KK P) cdv qual = true)
    (hbind : bindArgs (fnOf name qual params body scope dV kV doc pm an cdv ct) ⟨vs, []⟩ = pure binds) (hkind : (binds.all fun y => scope.names.lookup y.1 == some .local || scope.names.lookup y.1 == some .cell) = true)
    (hnd : ((cellsFrom 0 scope.names []).map (·.1)).Nodup)
    (hco : scope.isCoroutine = false) (hgen : scope.isGenerator = false) (hk : scope.kind = .function)
    (h : ∀ (w : World) (mean : ExcName → Option Value) (mg mb : Str → Option Value) (dp un : Nat) (gd : Option (List Code)) (outer : List Env) (A₀ : Around) (base g h₁ : Heap) (L' : Addr) (s : Shared) (tk : Nat) (ps : Array Value) (cells : List (Addr × Obj)), TabOk ps →
      Below A₀ base outer g → Fr g L' h₁ (bindL (envOfC qual scope L' f cdv).kindOf binds fun _ => none) → News g L' h₁ (cells ++ [(64, tabObj ps)]) → (∀ p ∈ cells, p.1 ≠ 64) →
      CellsAre (bindC (envOfC qual scope L' f cdv).kindOf binds fun _ => none) (cellsFrom (L' + 1) scope.names []) cells → (KK w.params).In g → Top q0 (looseW q0 loose0) mean mg mb g →
      dp + D < recursionLimit → un + 8 * D < cLine →
      wpAny (model (OpenLaw.prog PySem.Challenge.rw_rt0055_01) w) (ktrTop dp un gd qual scope L' f cdv (cellsFrom (L' + 1) scope.names []) outer) (execs body (envOfC qual scope L' f cdv))
        (RetT g s RV) (fun _ _ => False) { s with heap := h₁, toks := tk }) : ConT (D + 1) f vs RV := by
  intro w mean mg mb news u ps dp un gd cn cs a ccd cl outer A₀ base h₀ L m s Q E B F X N U O T hck hd hu hret
  refine enterCT (K := KK w.params) B F X N U T rfl rfl hck (ho _) (hcd _) (by show dp < recursionLimit; omega) (BindsTo.of_eq hbind) hkind hnd (fun g L' h₁ tk cells eg FG F' N' g64 Y' B' X' T' => ?_) hco hgen hk
  refine wpAny_mono (h w mean mg mb (dp + 1) (un + 3) gd (envX cn cs L a ccd cl :: outer) _ base g h₁ L' s tk ps cells O B' F' N' g64 Y' X' T' (by omega) (by omega)) (fun fl s' hr => ?_) fun _ _ x => x
  obtain ⟨v, h', tk', ps', hp', h64, hkeep, rfl, e, hv⟩ := hr
  rw [e]
  subst eg
  exact ⟨hkeep, fun F₁ => hret _ v h' tk' ps' hp' FG hkeep hv F₁ (news_tab N U hkeep h64)⟩
end
end
end Mine
namespace Mine
section
open PySem PySem.W PyProof.Rows PySem.Calls
set_option maxRecDepth 100000
section
variable {prog : Program} {w : World} {A : Around} {E : Value → Shared → Prop} {s : Shared} {env : Env} {h₀ : Heap} {L : Addr} {x : Str} {px : Pos} {body : List Stmt} {Q : Flow → Shared → Prop} {σ : Type}
/-- a turn's end of a loop whose target is a cell -/
def EndC (h₀ : Heap) (L : Addr) (m : Str → Option Value) (Led : σ → List (Addr × Obj)) (P : Nat → σ → Prop) (i : Nat) (I : Addr) (oI : Obj) (s₁ : Shared) (f : Flow) (s₂ : Shared) : Prop :=
  (f = .next ∨ f = .cont) ∧ ∃ h' tk news' c, s₂ = { s₁ with heap := h', toks := tk } ∧ Fr h₀ L h' m ∧ News h₀ L h' news' ∧ (∀ p ∈ Led c, p ∈ news') ∧ (I, oI) ∈ news' ∧ (∀ p ∈ Led c, p.1 ≠ I) ∧ P i c
theorem endC_in {m : Str → Option Value} {Led : σ → List (Addr × Obj)} {P : Nat → σ → Prop} {i : Nat} {I : Addr} {oI : Obj} {s₁ : Shared} {h' : Heap} {tk : Nat} {news' : List (Addr × Obj)} (c : σ)
    (F : Fr h₀ L h' m) (N : News h₀ L h' news') (hn : ∀ p ∈ Led c, p ∈ news') (hi : (I, oI) ∈ news') (ho : ∀ p ∈ Led c, p.1 ≠ I) (hp : P i c) : EndC h₀ L m Led P i I oI s₁ .next { s₁ with heap := h', toks := tk } :=
  ⟨.inl rfl, h', tk, news', c, rfl, F, N, hn, hi, ho, hp⟩
theorem loop_cell {l : Addr} {vs : List Value} {nn : Nat} {m : Str → Option Value} (Led : σ → List (Addr × Obj)) (P : Nat → σ → Prop) (c₀ : σ)
    (hh : A.handled = none) (hl : ∀ c, (l, listOf vs.toArray nn) ∈ Led c) (F : Fr h₀ L s.heap m) (N : News h₀ L s.heap (Led c₀)) (hp : P 0 c₀)
    (turn : ∀ i v c h tk I oI, oI.cls ≠ .type "list" → (∀ v, oI.data ≠ .cell v) → vs[i]? = some v → (∀ p ∈ Led c, p.1 ≠ I) → P i c → Fr h₀ L h m → News h₀ L h (Led c ++ [(I, oI)]) →
      wpAny (model prog w) A (assign (.Name x px) env v) (fun _ s₂ => wpAny (model prog w) A (execs body env) (EndC h₀ L m Led P (i + 1) I oI { s with heap := h, toks := tk }) (fun _ _ => False) s₂) (fun _ _ => False) { s with heap := h, toks := tk })
    (done : ∀ c h tk, P vs.length c → Fr h₀ L h m → News h₀ L h (Led c) → Q .next { s with heap := h, toks := tk }) :
    wpAny (model prog w) A (pyIter (.ref l)) (fun it s₂ => codeAny (model prog w) A (.forLoop (.Name x px) it body [] env) (fun r s' => match r with | .ok f => Q f s' | .error e => cameBackBy (model prog w) A env E e s') s₂) E s := by
  have hol : s.heap.get? l = some (listOf vs.toArray nn) := (N _ (hl c₀)).1
  have hls : s.heap.IsList l vs.toArray := ⟨_, hol, rfl, nn, rfl⟩
  have hne : l ≠ s.heap.objs.size := Nat.ne_of_lt (Heap.lt_size hol)
  have W := Walks.list (prog := prog) (w := w) hh s.heap.objs.size l hne vs.toArray
  rw [List.size_toArray] at W
  simp only [List.getElem?_toArray] at W
  generalize hSt : (fun (i : Nat) (h : Heap) => h.IsListIter s.heap.objs.size l i ∧ h.IsList l vs.toArray) = St at W
  refine wpAny_pyIter_list hls ?_
  have up : ∀ b o, s.heap.get? b = some o → (s.heap.push { cls := .type "list_iterator", data := .fields #[.ref l, .int 0 0] }).get? b = some o := fun b o e => Heap.get?_push_of_some _ e
  refine codeAny_forLoop
    (fun n s' => ∃ i c h tk, s' = { s with heap := h, toks := tk } ∧ i ≤ vs.length ∧ n = vs.length + 1 - i ∧ St i h ∧ Fr h₀ L h m ∧ News h₀ L h (Led c) ∧ (∀ p ∈ Led c, p.1 ≠ s.heap.objs.size) ∧ P i c) ?_ (vs.length + 1)
    ⟨0, c₀, _, _, rfl, Nat.zero_le _, rfl, ?_, F.keeps up, fun p hp => ⟨up _ _ (N p hp).1, (N p hp).2⟩, fun p hp => Nat.ne_of_lt (Heap.lt_size (N p hp).1), hp⟩
  · rintro n s' ⟨i, c, h, tk, rfl, hi, rfl, hst, F₁, N₁, off, hP⟩
    have keepF : ∀ h' : Heap, (∀ b o, b ∉ [s.heap.objs.size] → h.get? b = some o → h'.get? b = some o) → Fr h₀ L h' m ∧ News h₀ L h' (Led c) := fun h' k =>
      ⟨fr_one (d := s.heap.objs.size) F₁ (fun b o hb e => k b o (by simpa using hb) e) (Nat.ne_of_gt F.ns.lt) (next_is_new F),
        fun p hp => ⟨k _ _ (by simpa using off p hp) (N₁ p hp).1, (N₁ p hp).2⟩⟩
    by_cases hlt : i < vs.length
    · refine W.item i _ _ _ hlt hst fun v h₁ tk₁ hv hst₁ hk₁ => ?_
      obtain ⟨F₂, N₂⟩ := keepF h₁ hk₁
      have hsI : ∃ oI, h₁.get? s.heap.objs.size = some oI ∧ oI.cls ≠ .type "list" ∧ ∀ v, oI.data ≠ .cell v := by
        rw [← hSt] at hst₁
        obtain ⟨o, e, hc, hd⟩ := hst₁.1
        exact ⟨o, e, by rw [hc]; decide, fun v => by rw [hd]; exact fun e => nomatch e⟩
      obtain ⟨oI, heI, hcI, hdI⟩ := hsI
      have NI : News h₀ L h₁ (Led c ++ [(s.heap.objs.size, oI)]) := fun p hp => by
        rcases List.mem_append.mp hp with hp | hp
        · exact N₂ p hp
        · rw [List.mem_singleton.mp hp]
          exact ⟨heI, Nat.ne_of_gt F.ns.lt, next_is_new F⟩
      refine wpAny_mono (turn i v c h₁ tk₁ s.heap.objs.size oI hcI hdI hv off hP F₂ NI) (fun _ s₂ h₂ => wpAny_mono h₂ (fun f s₃ h₃ => ?_) fun _ _ e => e.elim) fun _ _ e => e.elim
      obtain ⟨hf, h', tk', news', c', rfl, F₃, N₃, hn, hi', ho, hp'⟩ := h₃
      have fin : ∃ mm, mm < vs.length + 1 - i ∧ ∃ i_1 c h_1 tk_1, ({ ({ s with heap := h₁, toks := tk₁ } : Shared) with heap := h', toks := tk' } : Shared) = { s with heap := h_1, toks := tk_1 } ∧ i_1 ≤ vs.length ∧ mm = vs.length + 1 - i_1 ∧ St i_1 h_1 ∧ Fr h₀ L h_1 m ∧ News h₀ L h_1 (Led c) ∧ (∀ p ∈ Led c, p.1 ≠ s.heap.objs.size) ∧ P i_1 c := by
        refine ⟨vs.length + 1 - (i + 1), by omega, i + 1, c', h', tk', rfl, hlt, rfl, ?_, F₃, fun p hp => N₃ p (hn p hp), ho, hp'⟩
        refine W.frame _ _ _ hst₁ fun b hb o e => ?_
        rcases List.mem_cons.mp hb with rfl | hb
        · obtain rfl : oI = o := Option.some.inj (heI.symm.trans e)
          exact (N₃ _ hi').1
        · rw [List.mem_singleton.mp hb] at e ⊢
          have e₁ : h₁.get? l = some (listOf vs.toArray nn) := (N₂ _ (hl c)).1
          rw [e₁] at e; cases e
          exact (N₃ _ (hn _ (hl c'))).1
      rcases hf with rfl | rfl <;> exact fin
    · obtain rfl : i = vs.length := Nat.le_antisymm hi (Nat.not_lt.mp hlt)
      refine W.done _ _ _ hst fun h₁ tk₁ hk₁ => wpAny_execs_nil ?_
      obtain ⟨F₂, N₂⟩ := keepF h₁ hk₁
      exact done c h₁ tk₁ hP F₂ N₂
  · rw [← hSt]
    exact ⟨⟨_, Heap.get?_push_size _ rfl, rfl, rfl⟩, hls.at fun o e => up _ _ e⟩
theorem cell_ne {h : Heap} {a b : Addr} {o oc : Obj} {v : Option Value} {news : List (Addr × Obj)} (N : News h₀ L h news) (h1 : (a, o) ∈ news) (h2 : (b, oc) ∈ news) (hd : oc.data = .cell v) (hn : ∀ v, o.data ≠ .cell v) : @Ne Nat a b := fun e => by
  have e' : a = b := e
  subst e'
  have e1 : h.get? a = some o := (N _ h1).1
  have e2 : h.get? a = some oc := (N _ h2).1
  rw [e1] at e2
  have e3 : o = oc := Option.some.inj e2
  exact hn v (by rw [e3]; exact hd)
end
end
end Mine
namespace Mine
section
open PySem PySem.W PyProof.Rows PySem.Calls
set_option maxRecDepth 100000
def ElT (news : List (Addr × Obj)) (pk : Bool) (r : Int) (y : Value) (news' : List (Addr × Obj)) : Prop := news' = news ∧ pk = true ∧ ∃ t : Tok, y = .int r t
def NoT (news : List (Addr × Obj)) (pk : Bool) (news' : List (Addr × Obj)) : Prop := news' = news ∧ pk = false
section
variable {prog : Program} {w : World} {A : Around} {s : Shared} {h₀ : Heap} {L : Addr} {m : Str → Option Value} {env : Env} {ct elt : PySem.Expr} {x : Str} {scope : Scope} {cl : List (Str × Addr)} {S : List (Addr × Obj) → Prop} {P : Nat → Value → Prop} {Fin : List Value → List (Addr × Obj) → Prop} {news : List (Addr × Obj)}
/-- what one turn of a comprehension with a test must show -/
def TurnT (prog : Program) (w : World) (A : Around) (h₀ : Heap) (L : Addr) (m : Str → Option Value) (env : Env) (ct elt : PySem.Expr) (x : Str) (scope : Scope) (cl : List (Str × Addr)) (s : Shared) (S : List (Addr × Obj) → Prop) (news : List (Addr × Obj)) (pk : Bool) (r : Int) (k : Int) : Prop :=
  ∀ t I oI C oC D m₂ ys h tk (E' : Value → Shared → Prop), LCg.NsObj oC m₂ → m₂ x = some (.int k t) → Fr h₀ L h m → News h₀ L h ((I, oI) :: (C, oC) :: (D, LCg.lst ys) :: news) → LCg.Off3 I C D news → ((@Ne Nat I C) ∧ (@Ne Nat I D) ∧ (@Ne Nat C D)) →
      wpAny (model prog w) A (isTrue ct (compEnvC scope cl C env) (eval ct (compEnvC scope cl C env))) (fun ok s' => if ok = true then
        wpAny (model prog w) A (eval elt (compEnvC scope cl C env)) (LCg.CompEnd h₀ L m { s with heap := h, toks := tk } I oI C oC D (LCg.lst ys) S (fun y news' => ElT news pk r y news')) E' s'
        else LCg.CompEnd h₀ L m { s with heap := h, toks := tk } I oI C oC D (LCg.lst ys) S (fun _ news' => NoT news pk news') Value.none s') E' { s with heap := h, toks := tk }
theorem restT_ints {n : Nat} {ks : List Int} (p : Int → Bool) (g : Int → Int) (hks : ks.length = n) (hP : ∀ i v, i < n → P i v → ∃ k t, ks[i]? = some k ∧ v = .int k t)
    (turn : ∀ k, k ∈ ks → TurnT prog w A h₀ L m env ct elt x scope cl s S news (p k) (g k) k)
    (fin : ∀ ys, IntsAre ys ((ks.filter p).map g) → Fin ys news) : LCt.CompRestT prog w A h₀ L m env ct elt x scope cl s S P Fin n 0 [] news := by
  have snoc : ∀ {vs : List Value} {ns : List Int} {k : Int} {t : Tok}, IntsAre vs ns → IntsAre (vs ++ [.int k t]) (ns ++ [k]) := fun h => by
    induction h with
    | nil => exact .cons _ _ .nil
    | cons a t _ ih => exact .cons a t ih
  have key : ∀ (j i : Nat) (ys : List Value), i + j = n → IntsAre ys (((ks.take i).filter p).map g) → LCt.CompRestT prog w A h₀ L m env ct elt x scope cl s S P Fin j i ys news := by
    intro j
    induction j with
    | zero =>
      intro i ys hi hy
      have e : i = ks.length := by omega
      subst e
      rw [List.take_length] at hy
      exact LCt.CompRestT.zero (fin ys hy)
    | succ j ih =>
      intro i ys hi hy
      refine LCt.CompRestT.succ ?_
      intro v I oI C oC D m₂ h tk E' hv hC hx F N off ne
      obtain ⟨k, t, hk, hv'⟩ := hP i v (by omega) hv
      rw [hv'] at hx
      have etake : ks.take (i + 1) = ks.take i ++ [k] := by rw [List.take_add_one, hk]; rfl
      refine wpAny_mono (turn k (List.mem_of_getElem? hk) t I oI C oC D m₂ ys h tk E' hC hx F N off ne) (fun ok s₂ h₂ => ?_) fun _ _ e => e
      cases ok with
      | true =>
        simp only [if_true] at h₂ ⊢
        refine wpAny_mono h₂ (fun y s₃ h₃ => ?_) fun _ _ e => e
        obtain ⟨h', tk', nw, e, F', N', off', hS, hn, hpk, t', hy'⟩ := h₃
        rw [hn] at N' off' hS
        refine ⟨h', tk', news, e, F', N', off', hS, ?_⟩
        rw [hy']
        refine ih (i + 1) _ (by omega) ?_
        rw [etake, List.filter_append, List.map_append, List.filter_cons_of_pos hpk]
        exact snoc hy
      | false =>
        simp only [Bool.false_eq_true, if_false] at h₂ ⊢
        obtain ⟨h', tk', nw, e, F', N', off', hS, hn, hpk⟩ := h₂
        rw [hn] at N' off' hS
        refine ⟨h', tk', news, e, F', N', off', hS, ?_⟩
        refine ih (i + 1) _ (by omega) ?_
        rw [etake, List.filter_append, List.map_append, List.filter_cons_of_neg (by rw [hpk]; exact Bool.false_ne_true)]
        simpa using hy
  exact key n 0 [] (by omega) .nil
end
end
end Mine
namespace Mine
section
open PySem PySem.W PyProof.Rows PySem.Calls
set_option maxRecDepth 100000
section
variable {M : Model} {A : Around} {E : Value → Shared → Prop} {s : Shared} {g : Heap} {L : Addr} {m : Str → Option Value} {news : List (Addr × Obj)}
/-- a part of a tree that gives one value on all its ways -/
def CutP (g : Heap) (L : Addr) (m : Str → Option Value) (news : List (Addr × Obj)) (s : Shared) (val : Value) (v : Value) (s' : Shared) : Prop :=
  v = val ∧ ∃ h' tk' news', s' = { s with heap := h', toks := tk' } ∧ Fr g L h' m ∧ News g L h' news' ∧ ∀ p ∈ news, p ∈ news'
theorem cut {t : Sem Value} {Q : Value → Shared → Prop} (_F : Fr g L s.heap m) (_N : News g L s.heap news) (val : Value) (h : wpAny M A t (CutP g L m news s val) E s)
    (k : ∀ h' tk', Fr g L h' m → News g L h' news → Q val { s with heap := h', toks := tk' }) : wpAny M A t Q E s :=
  wpAny_mono h (fun v s' hc => by
    obtain ⟨rfl, h', tk', news', rfl, F', N', hs⟩ := hc
    exact k h' tk' F' fun p hp => N' p (hs p hp)) fun _ _ e => e
theorem cut_in {val v : Value} {h' : Heap} {tk' : Nat} {news' : List (Addr × Obj)} (F : Fr g L h' m) (N : News g L h' news') (hs : ∀ p ∈ news, p ∈ news') (e : v = val) : CutP g L m news s val v { s with heap := h', toks := tk' } :=
  ⟨e, h', tk', news', rfl, F, N, hs⟩
end
end
end Mine
namespace Mine
section
open PySem PySem.W PyProof.Rows PySem.Calls
set_option maxRecDepth 100000
set_option maxRecDepth 1000000 in
theorem recs0 : (recsOf q0).map (·.name) = [Str.ofString "law"] := by first | rfl | kernel_rfl | decide +kernel
theorem owns0 : ownsOf q0 = [] := by first | rfl | kernel_rfl
theorem tabs_at {P : Params} {h : Heap} (X : (KK P).In h) (h64 : h.get? 64 = some (tabObj #[])) : TabsAt [(68, 64)] h := fun q hq => by
  rw [List.mem_singleton.mp hq]; exact ⟨code_hd X, h64⟩
def codeOfD : Data → Value | .func fd => fd.code | _ => .none
def placesOfD : Data → Option Value | .fields vs => vs[11]? | _ => none
theorem code225 : codeOfD o225.data = .ref 224 := by rfl
theorem places224 (P : Params) : placesOfD (o224 P).data = some (.ref 220) ∨ ∃ n : Addr, placesOfD (o224 P).data = some (.ref n) ∧ n ≠ 64 := .inr ⟨_, rfl, by decide⟩
theorem ghost_top0 {P : Params} {h : Heap} {mean : ExcName → Option Value} {mg mb : Str → Option Value} (X : (KK P).In h) (T : Top q0 (looseW q0 loose0) mean mg mb h) (h64 : h.get? 64 = some (tabObj #[])) : Top q0 (looseW q0 loose0) mean mg mb (hideAll h [64]) where
  g := ghost_ns (tabs_at X h64) T.g
  b := ghost_ns (tabs_at X h64) T.b
  nolimit := let ⟨mc, a, r⟩ := T.nolimit; ⟨mc, ghost_ns (tabs_at X h64) a, r⟩
  nodigits := let ⟨mc, a, r⟩ := T.nodigits; ⟨mc, ghost_ns (tabs_at X h64) a, r⟩
  fn := fun d hd => by
    obtain ⟨a, o, pm, code, doc, h1, h2, h3, c, oc, vs, t, e1, e2, e3, e4⟩ := T.fn d hd
    exact ⟨a, o, pm, code, doc, h1, ghost_get (tabs_at X h64) h2 (fun q => by rw [q] at h3; cases h3), h3, c, oc, vs, t, e1, ghost_get (tabs_at X h64) e2 (fun q => by rw [q] at e3; cases e3; simp at e4), e3, e4⟩
  own := fun o ho => by
    rw [owns0] at ho; cases ho
  const := T.const
  free := T.free
  builtins := T.builtins
  tab := fun d hd => by
    obtain ⟨a, o, fd, c, Pt, h1, h2, h3, h4, h5, h6⟩ := T.tab d hd
    have hn : d.name = Str.ofString "law" := by
      have := List.mem_map_of_mem (f := fun x : DefRec => x.name) hd
      rw [recs0] at this
      exact List.mem_singleton.mp this
    have hne : Pt ≠ 64 := by
      rw [hn, mg_of X T.g (n := Str.ofString "law") (v := .ref 225) (by rfl)] at h1
      cases h1
      have e1 : h.get? 225 = some o225 := X _ _ (by exact rfl)
      obtain rfl : o225 = o := Option.some.inj (e1.symm.trans h2)
      have e3 : fd.code = .ref 224 := (congrArg codeOfD h3).symm.trans code225
      rw [e3] at h4
      cases h4
      obtain ⟨⟨o', vs', f1, f2, f3, f4⟩, f5⟩ := h6
      have e4 : h.get? 224 = some (o224 P) := X _ _ (by exact rfl)
      obtain rfl : o224 P = o' := Option.some.inj (e4.symm.trans f1)
      have e5 : placesOfD (o224 P).data = some (.ref Pt) := by rw [f3]; exact f4
      intro e6
      subst e6
      rcases places224 P with e7 | ⟨n, e7, e8⟩
      · rw [e7] at e5; cases e5
      · rw [e7] at e5; cases e5; exact e8 rfl
    have gc : ∀ {o : Obj} {vs : Array Value}, h.get? c = some o → o.data = .fields vs → vs[11]? = some (.ref Pt) → (hideAll h [64]).get? c = some o := fun e1 e2 e3 =>
      ghost_get (tabs_at X h64) e1 (fun q => by rw [q] at e2; cases e2; simp at e3)
    have gp : ∀ {o : Obj}, h.get? Pt = some o → (hideAll h [64]).get? Pt = some o := fun e => hideAll_get [64] e (by simpa using hne)
    obtain ⟨o1, vs, file, tf, flags, tg, inF, text, tt, op, a1, r1, r2, r3, r4, r5, r6, b1, r7⟩ := h5
    obtain ⟨⟨o2, vs2, f1, f2, f3, f4⟩, f5⟩ := h6
    refine ⟨a, o, fd, c, Pt, h1, ghost_get (tabs_at X h64) h2 (fun q => by rw [q] at h3; cases h3), h3, h4, ⟨o1, vs, file, tf, flags, tg, inF, text, tt, op, ?_, r1, r2, r3, r4, r5, r6, gp b1, r7⟩, ⟨o2, vs2, gc f1 f3 f4, f2, f3, f4⟩, gp f5⟩
    exact ghost_get (tabs_at X h64) a1 (fun q => by rw [q] at r1; cases r1; simp at r2)
  bmain := let ⟨bm, ob, a1, a2, a3, a4, r⟩ := T.bmain; ⟨bm, ob, a1, a2, ghost_get (tabs_at X h64) a3 (fun q => by rw [q] at a4; cases a4), a4, r⟩
  seer := fun e =>
    let S := T.seer e
    { statics := let ⟨mc, a, b⟩ := S.statics; ⟨mc, ghost_ns (tabs_at X h64) a, b⟩
      mods := let ⟨mc, a, b⟩ := S.mods; ⟨mc, ghost_ns (tabs_at X h64) a, b⟩
      imp := let ⟨mc, a, b⟩ := S.imp; ⟨mc, ghost_ns (tabs_at X h64) a, b⟩
      main := let ⟨mg, bm, ob, a, b, c, d, e⟩ := S.main; ⟨mg, bm, ob, ghost_ns (tabs_at X h64) a, b, ghost_get (tabs_at X h64) c (fun q => by rw [q] at d; cases d), d, e⟩ }
end
end Mine
namespace Mine
section
open PySem PySem.W PyProof.Rows PySem.Calls
set_option maxRecDepth 100000
section
variable {s : Shared} {mg mb : Str → Option Value} {mean : ExcName → Option Value} {Q E : Value → Shared → Prop}
  {name qual : Str} {params : Arguments} {body : List Stmt} {scope : Scope} {dV kV doc pm cdv ct oc : Value} {an od : Option Addr} {osl : Array (Option Value)} {f : Addr} {vs : List Value} {binds : List (Str × Value)}
/-- The law is called from the top: its body told by wpS, the table laid aside. -/
theorem enterTop {D : Nat} {RV : Heap → Heap → Value → Prop} {its : List Value} {l : Addr}
    (ho : ∀ P, (KK P).lookup f = some ⟨oc, od, .func (fnOf name qual params body scope dV kV doc pm an cdv ct), osl⟩) (hcd : ∀ P, codeIn (KK P) cdv qual = true)
    (hbind : bindArgs (fnOf name qual params body scope dV kV doc pm an cdv ct) ⟨[.ref l], []⟩ = pure binds) (hkind : (binds.all fun y => scope.names.lookup y.1 == some .local || scope.names.lookup y.1 == some .cell) = true)
    (hnd : ((cellsFrom 0 scope.names []).map (·.1)).Nodup)
    (hco : scope.isCoroutine = false) (hgen : scope.isGenerator = false) (hk : scope.kind = .function)
    (h : ∀ (w : World) (mean : ExcName → Option Value) (mg mb : Str → Option Value) (dp un : Nat) (gd : Option (List Code)) (outer : List Env) (A₀ : Around) (base g h₁ : Heap) (L' : Addr) (s : Shared) (tk : Nat) (ps : Array Value) (cells : List (Addr × Obj)), TabOk ps →
      Below A₀ base outer g → Fr g L' h₁ (bindL (envOfC qual scope L' f cdv).kindOf binds fun _ => none) → News g L' h₁ (cells ++ [(64, tabObj ps)]) → (∀ p ∈ cells, p.1 ≠ 64) →
      CellsAre (bindC (envOfC qual scope L' f cdv).kindOf binds fun _ => none) (cellsFrom (L' + 1) scope.names []) cells → (KK w.params).In g → Top q0 (looseW q0 loose0) mean mg mb g →
      dp + D < recursionLimit → un + 8 * D < cLine → g.IsList l its.toArray →
      wpS (model (OpenLaw.prog PySem.Challenge.rw_rt0055_01) w) (ktrTop dp un gd qual scope L' f cdv (cellsFrom (L' + 1) scope.names []) outer) (execs body (envOfC qual scope L' f cdv))
        (RetT g s RV) (fun _ _ => False) { s with heap := h₁, toks := tk })
    (w : World) (X : (KK w.params).In s.heap) (T : Top q0 (looseW q0 loose0) mean mg mb s.heap) (h64 : s.heap.get? 64 = some (tabObj #[])) (hl : s.heap.IsList l its.toArray)
    (hD : 2 + claimMargin + D < recursionLimit) (hU : 7 + 8 * D < cLine)
    (hret : ∀ v h' tk' ps', h'.get? 64 = some (tabObj ps') → (∀ b o, (hideAll s.heap [64]).get? b = some o → h'.get? b = some o) → RV (hideAll s.heap [64]) h' v → Q v { s with heap := h', toks := tk' }) :
    wpS (model (OpenLaw.prog PySem.Challenge.rw_rt0055_01) w) callerA (call (.ref f) [.ref l] []) Q E s := by
  have hT := tabs_at X h64
  have TG := ghost_top0 X T h64
  have XG : (KK w.params).In (hideAll s.heap [64]) := ghost_K hT X (by rfl)
  have st : ∀ b o, (hideAll s.heap [64]).get? b = some o → s.heap.get? b = some o := fun b o e => of_hideAll _ e
  refine wpS_call (codeS_call_function (fd := fnOf name qual params body scope dV kV doc pm an cdv ct) (body := body) (by show 1 + claimMargin < recursionLimit; omega) (X _ _ (ho _)) rfl hco hgen rfl (codeRec_of X (hcd _)) (BindsTo.of_eq hbind _ _ _ _ ?_))
  refine wpAny_newFunctionEnv_cells hk (kindsX hkind _) fun env' he s' x => ?_
  subst he
  refine ⟨T.nolimit.keeps x.toInCall.keep, codeS_func ?_⟩
  obtain ⟨h₁, tk, rfl, _⟩ := x.done
  have hk₁ := x.toInCall.keep
  obtain ⟨cells, NC, Y⟩ := Cl.news (h₀ := s.heap) (Nat.le_refl _) fun n c hm => ⟨x.cell n c (lookup_of_mem_nodup (cellsFrom_names scope.names 0 (s.heap.objs.size + 1) [] [] rfl ▸ hnd) hm), x.above n c hm⟩
  have g64 : ∀ q ∈ cells, q.1 ≠ 64 := fun q hq e => by
    have := (NC q hq).2.2
    rw [e, h64] at this; cases this
  have l64 : 64 < s.heap.objs.size := Heap.lt_size h64
  refine wpS_mono (h w mean mg mb (2 + claimMargin) 7 (some []) [] callerA (hideAll s.heap [64]) (hideAll s.heap [64]) h₁ s.heap.objs.size s tk #[] cells tab_nil (below_caller _)
    ⟨x.toInCall.ns, fun b o e => hk₁ b o (st b o e), Nat.le_of_eq (hideAll_size _ _)⟩ (fun q hq => ?_) g64 Y XG TG hD hU (ghost_list hT hl)) (fun fl s' hr => ?_) fun _ _ y => y.elim
  · rcases List.mem_append.mp hq with hq | hq
    · refine ⟨(NC q hq).1, (NC q hq).2.1, ?_⟩
      cases e : (hideAll s.heap [64]).get? q.1 with
      | none => rfl
      | some o => have := of_hideAll _ e; rw [(NC q hq).2.2] at this; cases this
    · rw [List.mem_singleton.mp hq]
      exact ⟨hk₁ _ _ h64, Nat.ne_of_lt l64, hideAll_none _ (.head _)⟩
  · obtain ⟨v, h', tk', ps', hp', h64', hkeep, rfl, e, hv⟩ := hr
    have z := hret v h' tk' ps' h64' hkeep hv
    rw [← e] at z
    cases fl <;> exact z
end
end
end Mine
namespace Mine
section
open PySem PySem.W PyProof.Rows PySem.Calls
set_option maxRecDepth 100000
open PySem.Sem (wp)
section
variable {prog : Program} {w : World} {A : Around} {s : Shared} {env : Env}
theorem codeS_forLoop {R : Result → Shared → Prop} {target : Expr} {it : Value} {body : List Stmt} (I : Nat → Shared → Prop)
    (turn : ∀ n s, I n s → wpAny (model prog w) A (pyNext it) (fun r s₁ => match r with
      | none => R (.ok .next) s₁
      | some v => wpAny (model prog w) A (assign target env v) (fun _ s₂ => wpS (model prog w) A (execs body env) (fun f s₃ => match f with
          | .next | .cont => ∃ m, m < n ∧ I m s₃
          | .brk => R (.ok .next) s₃
          | .ret v => R (.ok (.ret v)) s₃) (fun _ _ => False) s₂) (fun _ _ => False) s₁) (fun _ _ => False) s)
    (n : Nat) (h : I n s) (ht : ∀ v, letOwnedTupleGo target it v = pure () := by intro _; rfl) : codeS (model prog w) A (.forLoop target it body [] env) R s := by
  induction n using Nat.strongRecOn generalizing s with
  | ind n ih =>
    refine codeS_of_tree rfl ?_
    show wpS _ A ((forTurn target it body [] env).onRaise (fun x => do noteFrame x env; theTreesLotGoes x)) _ _ s
    refine wpS_onRaise ?_
    simp only [forTurn]
    refine wpS_bind (wpS_of (wpAny_standAt (wpS_bind (wpS_of (wpAny_onRaise (wpAny_mono (turn n s h) (fun r s₁ h₁ => ?_) fun _ _ h' => h'.elim))))))
    cases r with
    | none => exact wpS_pure ⟨rfl, codeS_of (codeAny_block (wpAny_execs_nil h₁))⟩
    | some v =>
      refine wpS_bind (wpS_of_eq (ht v) ?_)
      refine wpS_bind (wpS_of (wpAny_mono h₁ (fun _ s₂ h₂ => wpS_bind (wpS_mono h₂ (fun f s₃ h₃ => ?_) fun _ _ h' => h'.elim)) fun _ _ h' => h'.elim))
      cases f with
      | next => obtain ⟨m, hm, hI⟩ := h₃; exact wpS_pure ⟨rfl, ih m hm hI⟩
      | cont => obtain ⟨m, hm, hI⟩ := h₃; exact wpS_pure ⟨rfl, ih m hm hI⟩
      | brk => exact wpS_pure h₃
      | ret v => exact wpS_pure h₃
theorem wpS_run {M : Model} {E : Value → Shared → Prop} {c : Code} {h : Option Value} {Q : Flow → Shared → Prop} (hc : codeS M (A.mark h) c (fun r s' => match r with | .ok f => Q f s' | .error e => E e s') s) (hnb : h ≠ some byPass) : wpS M A (run c h) Q E s := fun Γ p hΓ hs => by
  rw [Sem.wp_run]
  refine hc _ p rfl (hΓ.enter c h p hnb) fun x hx => ?_
  rcases List.mem_cons.mp hx with rfl | hx
  · exact hs.1
  · exact hs.2 x hx
theorem wpS_For {target iter : Expr} {body : List Stmt} {pos : Pos} {Q : Flow → Shared → Prop}
    (h : wpAny (model prog w) A (eval iter env) (fun x s₁ => wpAny (model prog w) A (pyIter x) (fun it s₂ =>
      codeS (model prog w) A (.forLoop target it body [] env) (fun r s' => match r with | .ok f => Q f s' | .error _ => False) s₂) (fun _ _ => False) s₁) (fun _ _ => False) s)
    (hs : ∀ x, foldedSetIterable iter env x = pure x := by intro _; rfl) :
    wpS (model prog w) A (exec (.For target iter body [] pos) env) Q (fun _ _ => False) s := by
  rw [exec_For]
  refine wpS_bind (wpS_of (wpAny_standAt (wpS_bind (wpS_of (wpAny_mono h (fun x s₁ h₁ => ?_) fun _ _ h' => h')))))
  refine wpS_bind (wpS_of_eq (hs x) (wpS_bind (wpS_of (wpAny_standAt (wpS_bind (wpS_of (wpAny_holding (wpAny_mono h₁ (fun it s₂ h₂ => ?_) fun _ _ h' => h'))))))))
  unfold runOwn
  refine wpS_onRaise (wpS_run ?_ (by intro x; cases x))
  refine codeS_mono h₂ fun r s' hr => ?_
  cases r with
  | ok f => exact hr
  | error e => exact hr.elim
theorem wpS_spliced_nil {M : Model} {E : Value → Shared → Prop} {Q : List Value → Shared → Prop} (h : Q [] s) : wpS M A (spliced []) Q E s := wpS_of (Calls.spliced_nil h)
theorem wpS_spliced_cons {M : Model} {E : Value → Shared → Prop} {x : Sem Value} {rest : List (Bool × Sem Value)} {Q : List Value → Shared → Prop}
    (h : wpS M A x (fun v s₁ => wpS M A (spliced rest) (fun vs s₂ => Q (v :: vs) s₂) E s₁) E s) : wpS M A (spliced ((false, x) :: rest)) Q E s := by
  rw [spliced]
  refine wpS_bind (wpS_mono h (fun v s₁ h₁ => ?_) fun _ _ x => x)
  simp only [Bool.false_eq_true, if_false]
  exact wpS_bind (wpS_pure (wpS_bind (wpS_holding (wpS_mono h₁ (fun vs s₂ h₂ => wpS_pure h₂) fun _ _ x => x))))
theorem wpS_List {M : Model} {E : Value → Shared → Prop} {elts : List Expr} {pos : Pos} {Q : Value → Shared → Prop}
    (h : wpS M A (spliced (backTo pos (starEach elts env))) (fun vs s₁ => wpAny M A (newList vs) Q E s₁) E s) : wpS M A (eval (.List elts pos) env) Q E s := by
  rw [arm_eval_List]
  exact wpS_bind (wpS_of (wpAny_standAt (wpS_bind (wpS_mono h (fun vs s₁ h₁ => wpS_of h₁) fun _ _ x => x))))
theorem wpS_standAt {M : Model} {E : Value → Shared → Prop} {pos : Pos} {Q : Unit → Shared → Prop} (h : Q () s) : wpS M A (standAt pos) Q E s := wpS_of (wpAny_standAt h)
end
end
end Mine
namespace Mine
section
open PySem PySem.W PyProof.Rows PySem.Calls PyProof
set_option maxRecDepth 100000
section
variable {M : Model} {A : Around} {E : Value → Shared → Prop} {s : Shared} {env : Env}
theorem wpS_Assign_Tuple {elts k tpos value pos} {Q : Flow → Shared → Prop}
    (h : wpS M A (eval value env) (fun v s₁ => wpAny M A (assign (.Tuple elts k tpos) env v) (fun _ => Q .next) E s₁) E s)
    (hs : swapsWithSole [.Tuple elts k tpos] value pos.line env = pure false := by rfl)
    (hw : swappedStores [.Tuple elts k tpos] value env = pure none := by rfl) :
    wpS M A (exec (.Assign [.Tuple elts k tpos] value pos) env) Q E s := by
  rw [exec_Assign]
  refine wpS_bind (wpS_of (wpAny_standAt ?_))
  rw [hs]
  refine wpS_bind (wpS_pure ?_)
  rw [if_neg (by decide)]
  refine wpS_bind (wpS_mono h (fun v s₁ h₁ => ?_) fun _ _ x => x)
  rw [hw]
  refine wpS_bind (wpS_pure ?_)
  refine wpS_of ?_
  show wpAny M A (do assignAll v [assign (.Tuple elts k tpos) env]; pure .next) Q E s₁
  exact wpAny_bind (wpAny_mono h₁ (fun _ _ x => wpAny_pure x) fun _ _ x => x)
end
section
variable {prog : Program} {w : World} {A : Around} {s : Shared} {env : Env} {h₀ : Heap} {x : Str} {px : Pos} {body : List Stmt} {Q : Flow → Shared → Prop} {σ : Type}
/-- A for over a list, its body told by wpS; the ledger's addresses may turn. -/
theorem loop_S {l : Addr} {vs : List Value} {nn : Nat} {m₀ : Str → Option Value} (Led : σ → List (Addr × Obj)) (M : σ → Str → Option Value) (P : Nat → σ → Prop) (c₀ : σ)
    (hh : A.handled = none) (hx : env.kindOf x = some .local) (hpc : (env.scope.kind == .class || (env.scope.kind == .module && env.locals != env.globals)) = false)
    (hl : ∀ c, (l, listOf vs.toArray nn) ∈ Led c) (F : Fr h₀ env.locals s.heap m₀) (N : News h₀ env.locals s.heap (Led c₀)) (hm : ∀ z, z ≠ x → m₀ z = M c₀ z) (hp : P 0 c₀)
    (turn : ∀ i v c h tk I oI, oI.cls ≠ .type "list" → (∀ v, oI.data ≠ .cell v) → vs[i]? = some v → (∀ p ∈ Led c, p.1 ≠ I) → P i c → Fr h₀ env.locals h (fun y => if y = x then some v else M c y) → News h₀ env.locals h (Led c ++ [(I, oI)]) →
      wpS (model prog w) A (execs body env) (PostM h₀ env.locals Led M x P (i + 1) I oI { s with heap := h, toks := tk } Q) (fun _ _ => False) { s with heap := h, toks := tk })
    (done : ∀ c m h tk, P vs.length c → Fr h₀ env.locals h m → News h₀ env.locals h (Led c) → Q .next { s with heap := h, toks := tk }) :
    wpAny (model prog w) A (pyIter (.ref l)) (fun it s₂ => codeS (model prog w) A (.forLoop (.Name x px) it body [] env) (fun r s' => match r with | .ok f => Q f s' | .error _ => False) s₂) (fun _ _ => False) s := by
  have hol : s.heap.get? l = some (listOf vs.toArray nn) := (N _ (hl c₀)).1
  have hls : s.heap.IsList l vs.toArray := ⟨_, hol, rfl, nn, rfl⟩
  have hne : l ≠ s.heap.objs.size := Nat.ne_of_lt (Heap.lt_size hol)
  have W := Walks.list (prog := prog) (w := w) hh s.heap.objs.size l hne vs.toArray
  rw [List.size_toArray] at W
  simp only [List.getElem?_toArray] at W
  generalize hSt : (fun (i : Nat) (h : Heap) => h.IsListIter s.heap.objs.size l i ∧ h.IsList l vs.toArray) = St at W
  refine wpAny_pyIter_list hls ?_
  have up : ∀ b o, s.heap.get? b = some o → (s.heap.push { cls := .type "list_iterator", data := .fields #[.ref l, .int 0 0] }).get? b = some o := fun b o e => Heap.get?_push_of_some _ e
  refine codeS_forLoop
    (fun n s' => ∃ i c m h tk, s' = { s with heap := h, toks := tk } ∧ i ≤ vs.length ∧ n = vs.length + 1 - i ∧ St i h ∧ Fr h₀ env.locals h m ∧ (∀ z, z ≠ x → m z = M c z) ∧ News h₀ env.locals h (Led c) ∧ (∀ p ∈ Led c, p.1 ≠ s.heap.objs.size) ∧ P i c) ?_ (vs.length + 1)
    ⟨0, c₀, m₀, _, _, rfl, Nat.zero_le _, rfl, ?_, F.keeps up, hm, fun p hp => ⟨up _ _ (N p hp).1, (N p hp).2⟩, fun p hp => Nat.ne_of_lt (Heap.lt_size (N p hp).1), hp⟩
  · rintro n s' ⟨i, c, m, h, tk, rfl, hi, rfl, hst, F₁, hmM, N₁, off, hP⟩
    have keepF : ∀ h' : Heap, (∀ b o, b ∉ [s.heap.objs.size] → h.get? b = some o → h'.get? b = some o) → Fr h₀ env.locals h' m ∧ News h₀ env.locals h' (Led c) := fun h' k =>
      ⟨fr_one (d := s.heap.objs.size) F₁ (fun b o hb e => k b o (by simpa using hb) e) (Nat.ne_of_gt F.ns.lt) (next_is_new F),
        fun p hp => ⟨k _ _ (by simpa using off p hp) (N₁ p hp).1, (N₁ p hp).2⟩⟩
    by_cases hlt : i < vs.length
    · refine W.item i _ _ _ hlt hst fun v h₁ tk₁ hv hst₁ hk₁ => ?_
      obtain ⟨F₂, N₂⟩ := keepF h₁ hk₁
      have hsI : ∃ oI, h₁.get? s.heap.objs.size = some oI ∧ oI.cls ≠ .type "list" ∧ ∀ v, oI.data ≠ .cell v := by
        rw [← hSt] at hst₁
        obtain ⟨o, e, hc, hd⟩ := hst₁.1
        exact ⟨o, e, by rw [hc]; decide, fun v => by rw [hd]; exact fun e => nomatch e⟩
      obtain ⟨oI, heI, hcI, hdI⟩ := hsI
      have hIL : s.heap.objs.size ≠ env.locals := Nat.ne_of_gt F.ns.lt
      have hlL : l ≠ env.locals := (N _ (hl c₀)).2.1
      have hL₀ : h₀.get? env.locals = none := Heap.get?_none_of_le F.above
      refine wpAny_assign_Name (wpAny_storeName_local hx F₂.ns (fun h₂ hn₂ hs₂ => ?_) hpc)
      have F₃ : Fr h₀ env.locals h₂ (fun z => if z = x then some v else M c z) := by
        refine ⟨?_, fun b o e => hs₂.extBut b o (fun q => by rw [q, hL₀] at e; cases e) (F₂.keep b o e), F₂.above⟩
        have e : (fun z => if z = x then some v else M c z) = fun z => if z = x then some v else m z := by
          funext z
          by_cases hz : z = x
          · rw [if_pos hz, if_pos hz]
          · rw [if_neg hz, if_neg hz, hmM z hz]
        rw [e]; exact hn₂
      have up₂ : ∀ b o, b ≠ env.locals → h₁.get? b = some o → h₂.get? b = some o := fun b o hb e => hs₂.extBut b o hb e
      have NI : News h₀ env.locals h₂ (Led c ++ [(s.heap.objs.size, oI)]) := fun p hp => by
        rcases List.mem_append.mp hp with hp | hp
        · exact ⟨up₂ _ _ (N₂ p hp).2.1 (N₂ p hp).1, (N₂ p hp).2⟩
        · rw [List.mem_singleton.mp hp]
          exact ⟨up₂ _ _ hIL heI, hIL, next_is_new F⟩
      have hst₂ : St (i + 1) h₂ := W.frame _ _ _ hst₁ fun b hb o e => by
        rcases List.mem_cons.mp hb with rfl | hb
        · exact up₂ _ _ hIL e
        · rw [List.mem_singleton.mp hb] at e ⊢
          exact up₂ _ _ hlL e
      have T := turn i v c h₂ (tk₁ + 1) s.heap.objs.size oI hcI hdI (by simpa using hv) off hP F₃ NI
      refine wpS_mono T (fun f s₃ h₃ => ?_) fun _ _ e => e
      have fin : EndM h₀ env.locals Led M x P (i + 1) s.heap.objs.size oI { s with heap := h₂, toks := tk₁ + 1 } s₃ → ∃ mm, mm < vs.length + 1 - i ∧ ∃ i_1 c m h_1 tk_1, s₃ = { s with heap := h_1, toks := tk_1 } ∧ i_1 ≤ vs.length ∧ mm = vs.length + 1 - i_1 ∧ St i_1 h_1 ∧ Fr h₀ env.locals h_1 m ∧ (∀ z, z ≠ x → m z = M c z) ∧ News h₀ env.locals h_1 (Led c) ∧ (∀ p ∈ Led c, p.1 ≠ s.heap.objs.size) ∧ P i_1 c := by
        rintro ⟨h', tk', m', news', c', rfl, F₄, N₄, hn, hi', ho, hm', hp'⟩
        refine ⟨vs.length + 1 - (i + 1), by omega, i + 1, c', m', h', tk', rfl, hlt, rfl, ?_, F₄, hm', fun p hp => N₄ p (hn p hp), ho, hp'⟩
        refine W.frame _ _ _ hst₂ fun b hb o e => ?_
        rcases List.mem_cons.mp hb with rfl | hb
        · obtain rfl : oI = o := Option.some.inj ((up₂ _ _ hIL heI).symm.trans e)
          exact (N₄ _ hi').1
        · rw [List.mem_singleton.mp hb] at e ⊢
          have e₁ : h₂.get? l = some (listOf vs.toArray nn) := (NI _ (List.mem_append.mpr (.inl (hl c)))).1
          rw [e₁] at e; cases e
          exact (N₄ _ (hn _ (hl c'))).1
      cases f with
      | ret v => exact h₃
      | brk => exact h₃
      | next => exact fin h₃
      | cont => exact fin h₃
    · obtain rfl : i = vs.length := Nat.le_antisymm hi (Nat.not_lt.mp hlt)
      refine W.done _ _ _ hst fun h₁ tk₁ hk₁ => ?_
      obtain ⟨F₂, N₂⟩ := keepF h₁ hk₁
      exact done c m h₁ tk₁ hP F₂ N₂
  · rw [← hSt]
    exact ⟨⟨_, Heap.get?_push_size _ rfl, rfl, rfl⟩, hls.at fun o e => up _ _ e⟩
end
end
end Mine
namespace Mine
section
open PySem PySem.W PyProof.Rows PySem.Calls PyProof PySem.SeqAt
set_option maxRecDepth 100000
/-- two values that == says are equal -/
inductive SameV : Value → Value → Prop
  | str (x : Str) (t u : Tok) : SameV (.str x t) (.str x u)
  | bytes (b : Array UInt8) (t u : Tok) : SameV (.bytes b t) (.bytes b u)
  | bool (b : Bool) : SameV (.bool b) (.bool b)
inductive SameVs : List Value → List Value → Prop
  | nil : SameVs [] []
  | cons {x y : Value} {xs ys : List Value} : SameV x y → SameVs xs ys → SameVs (x :: xs) (y :: ys)
theorem SameVs.length : ∀ {xs ys : List Value}, SameVs xs ys → xs.length = ys.length
  | _, _, .nil => rfl
  | _, _, .cons _ h => by rw [List.length_cons, List.length_cons, h.length]
theorem SameVs.get : ∀ {xs ys : List Value}, SameVs xs ys → ∀ j (h1 : j < xs.length) (h2 : j < ys.length), SameV xs[j] ys[j]
  | _, _, .cons h _, 0, _, _ => h
  | _, _, .cons _ h, j + 1, h1, h2 => h.get j (Nat.lt_of_succ_lt_succ h1) (Nat.lt_of_succ_lt_succ h2)
theorem SameVs.bools : ∀ (l : List Bool), SameVs (l.map Value.bool) (l.map Value.bool)
  | [] => .nil
  | b :: r => .cons (.bool b) (SameVs.bools r)
section
variable {prog : Program} {w : World} {A : Around} {E : Value → Shared → Prop} {s : Shared} {Q : Value → Shared → Prop}
theorem SameV.eq {x y : Value} (h : SameV x y) : EqAt A s x y true := by
  cases h with
  | str x t u => have := EqAt.str_str (A := A) (s := s) x t x u; rwa [beq_self_eq_true] at this
  | bytes b t u => exact fun prog w E Q hq => eqBool_bytes (by rw [decide_eq_true rfl]; exact hq)
  | bool b => have := EqAt.bool_bool (A := A) (s := s) b b; rwa [beq_self_eq_true] at this
theorem ne_same {a b : Addr} {xs ys : List Value} (ha : s.heap.IsList a xs.toArray) (hb : s.heap.IsList b ys.toArray) (hs : SameVs xs ys) (hu : A.units < cLine) (h : Q (.bool false) s) :
    wpAny (model prog w) A (compareOp .NotEq (.ref a) (.ref b)) Q E s := by
  refine RcNeAt.lists (e := fun _ => true) ha hb (by rw [List.size_toArray, List.size_toArray]; exact hs.length) hu (fun j h1 h2 => ?_) prog w E Q ?_
  · have z := hs.get j (by simpa using h1) (by simpa using h2)
    have e : SameV xs.toArray[j] ys.toArray[j] := by simpa using z
    exact e.eq
  · have e : (!(List.range xs.toArray.size).all fun _ => true) = false := by simp
    rw [e]; exact h
end
end
end Mine
namespace Mine
section
open PySem PySem.W PyProof.Rows PySem.Calls PyProof PySem.Builtin
set_option maxRecDepth 100000
def revB (b : Array UInt8) : Array UInt8 := b.toList.reverse.toArray
theorem rev_sliced (b : Array UInt8) : Bytes.sliced b ((b.size : Int) - 1) (-1) (-1) = revB b := by
  show ((sliceRange ((b.size : Int) - 1) (-1) (-1)).filterMap (b[·]?)).toArray = _
  rw [krv_sliceRange, krv_range, List.filterMap_reverse, krv_all]; rfl
theorem rev_size (b : Array UInt8) : (revB b).size = b.size := by simp [revB]
theorem meets_rev (b : Array UInt8) (t : Tok) (a : Addr) (tm : Tok) : Meets («bytes.__getitem__» ⟨[.bytes b t, .ref a], []⟩) (fun _ R s => s.heap.IsSliceOf a .none .none (.int (-1) tm) ∧ b.size ≤ sizeLine ∧ ∀ t' k, R (.ok (.ret (.bytes (revB b) t'))) { s with toks := k }) := by
  refine .of_wp fun prog w A R s hS => ?_
  obtain ⟨⟨o, ho, hc, hd⟩, hsz, h⟩ := hS
  have hT : s.TypeIs (.ref a) "slice" := ⟨o, ho, hc⟩
  show wpAny _ _ (Bytes.payload (.bytes b t) >>= fun r => _) _ _ s
  refine wpAny_bind (wpAny_of_eq (a := b) rfl ?_)
  show wpAny _ _ (Bytes.subscript? (.ref a) >>= fun r => _) _ _ s
  refine wpAny_bind ?_
  unfold Bytes.subscript?
  refine wpAny_bind (wpAny_specialOf hT slice_no_index (wpAny_pure ?_))
  refine wpAny_bind (wpAny_typeOf hT ?_)
  show wpAny _ _ (Bytes.sliceParts (.ref a) >>= fun r => _) _ _ s
  refine wpAny_bind ?_
  unfold Bytes.sliceParts
  refine wpAny_bind (wpAny_field (x := .int (-1) tm) ho hd rfl ?_)
  kby_int
  refine wpAny_ite (KBy.ite_no (show ¬ ((Value.int (-1) _ == rawInt 0) = true) from Bool.false_ne_true) ?_)
  refine wpAny_bind (wpAny_field (x := .none) ho hd rfl ?_)
  kby_none
  refine wpAny_bind (wpAny_field (x := .none) ho hd rfl ?_)
  kby_none
  refine wpAny_pure ?_
  have go : wpAny (model prog w) A.in1 (sliceIndices (rawPart none) (rawPart none) (rawPart (some (-1))) b.size) (fun r s' => r = sliceBounds none none (some (-1)) b.size ∧ s' = s) (fun _ _ => False) s :=
    wpAny_of_eq (sliceIndices_raw none none (some (-1)) b.size (by decide)) ⟨rfl, rfl⟩
  refine wpAny_bind (wpAny_mono go (fun r s' hr => ?_) fun _ _ e => e.elim)
  obtain ⟨rfl, rfl⟩ := hr
  rw [krv_bounds]
  refine wpAny_ite (KBy.ite_no (by simp) ?_)
  refine wpAny_bind (wpAny_mkBytes (wpAny_pure ⟨_, rfl, ?_⟩) ?_)
  · show R (.ok (.ret (.bytes (Bytes.sliced b ((b.size : Int) - 1) (-1) (-1)) _))) _
    rw [rev_sliced]; exact h _ _
  · show (Bytes.sliced b ((b.size : Int) - 1) (-1) (-1)).size ≤ sizeLine
    rw [rev_sliced, rev_size]; exact hsz
section
variable {prog : Program} {w : World} {A : Around} {E : Value → Shared → Prop} {s : Shared} {value slice : PySem.Expr} {b : Array UInt8} {t tm : Tok} {h₀ : Heap} {L : Addr} {m : PySem.Str → Option Value} {news : List (Addr × Obj)} {Q : Value → Shared → Prop}
theorem rev_K (hF : Fr h₀ L s.heap m) (hN : News h₀ L s.heap news) (hz : b.size ≤ 16777216)
    (h : ∀ h' t' k, Fr h₀ L h' m → News h₀ L h' news → Q (.bytes (revB b) t') { s with heap := h', toks := k })
    (hs : subscripted slice false (.bytes b t) (.ref s.heap.objs.size) = operate [.ref s.heap.objs.size, .bytes b t] (getItem (.bytes b t) (.ref s.heap.objs.size)) := by with_unfolding_all rfl)
    (ht : ∀ r, letTemporaryGo value (.bytes b t) r = pure () := by intro _; with_unfolding_all rfl) :
    wpAny (model prog w) A (subscriptTail value slice (.bytes b t) (.ref s.heap.objs.size)) Q E { s with heap := s.heap.push { cls := .type "slice", data := .fields #[.none, .none, .int (-1) tm] } } :=
  tail_of_ItemOn ⟨"bytes", _, FB.slot_bytes_getitem.lookup, typeIs_bytes _ _ _, getItem_meets (typeIs_bytes _ _ _) (by decide) FB.slot_bytes_getitem FB.entry_bytes_getitem (FB.args_bytes_getitem_2 _ _) (meets_rev b t _ tm)
    ⟨Heap.IsSliceOf.new _ _ _ _, by rw [sizeLine_eq]; exact hz, fun t' k => h _ _ _ (hF.push _) (News.pushKeep hN _)⟩⟩ hs ht
end
end
end Mine
namespace Mine
section
open PySem PySem.W PyProof.Rows PySem.Calls
set_option maxRecDepth 100000
/-! The parts of law's body, read off the program's term. -/
noncomputable def lawSc0 (s : Stmt) : Scope := match s with | .FunctionDef _ _ _ _ _ _ scope _ _ _ => scope | _ => default
noncomputable def lawFor0 (s : Stmt) : List Stmt := match s with | .FunctionDef _ _ (_ :: .For _ _ b _ _ :: _) _ _ _ _ _ _ _ => b | _ => []
noncomputable def lawTail0 (l : List Stmt) : List Stmt := match l with | _ :: _ :: _ :: _ :: _ :: r => r | _ => []
noncomputable def lawComp0 (l : List Stmt) : Expr := match l with | _ :: .If (.BoolOp _ (_ :: .Compare e _ _ _ :: _) _) _ _ _ :: _ => e | _ => default
noncomputable def lawScope : Scope := by
  refine' (fun (b : Scope) (_ : b = lawSc0 (stm 34)) => b) _ ?h
  case h =>
    conv => rhs; whnf
noncomputable def lawFor : List Stmt := by
  refine' (fun (b : List Stmt) (_ : b = lawFor0 (stm 34)) => b) _ ?h
  case h =>
    conv => rhs; whnf
noncomputable def lawTail : List Stmt := by
  refine' (fun (b : List Stmt) (_ : b = lawTail0 (lawFor0 (stm 34))) => b) _ ?h
  case h =>
    conv => rhs; whnf
noncomputable def lawComp : Expr := by
  refine' (fun (b : Expr) (_ : b = lawComp0 (lawTail0 (lawFor0 (stm 34)))) => b) _ ?h
  case h =>
    conv => rhs; whnf
noncomputable def lawElt0 (e : Expr) : Expr := match e with | .ListComp e _ _ _ => e | _ => default
noncomputable def lawEltSc0 (e : Expr) : Scope := match e with | .ListComp _ _ s _ => s | _ => default
noncomputable def lawElt : Expr := by
  refine' (fun (b : Expr) (_ : b = lawElt0 (lawComp0 (lawTail0 (lawFor0 (stm 34))))) => b) _ ?h
  case h =>
    conv => rhs; whnf
noncomputable def lawEltSc : Scope := by
  refine' (fun (b : Scope) (_ : b = lawEltSc0 (lawComp0 (lawTail0 (lawFor0 (stm 34))))) => b) _ ?h
  case h =>
    conv => rhs; whnf
end
end Mine
namespace Mine
section
open PySem PySem.W PyProof.Rows PySem.Calls
set_option maxRecDepth 100000
open PySem.Sem (wp)
theorem safe_caller : Safe ⟨.builtin "claim.caller" {}, none, none, [], none⟩ := ⟨by decide +kernel, fun _ hx => nomatch hx⟩
/-- A thread at the caller's own context ends: the tree told by wpS. -/
theorem ends_S {prog : Program} {w : World} {t : Sem Fin} {s : Shared} {R : Result → Shared → Prop} (hreg : s.asleep)
    (h : wpS (model prog w) callerA t (fun fin s' => ∃ f, fin = .done f ∧ R (.ok f) s' ∧ AllBare s'.gens) (fun _ _ => False) s) :
    ∃ n r s' s'', schedN (denote table) prog w n (.single s ⟨t, .builtin "claim.caller" {}, default, []⟩) = .halted (outcomeOf r) s' ∧
      runN (denote table) prog w n s ⟨t, .builtin "claim.caller" {}, default, []⟩ = .halted (outcomeOf r) s' ∧ s'.forget = s''.forget ∧ R r s'' := by
  obtain ⟨n, r, a, b, c⟩ := wp_halts_full (M := model prog w) (R := R) hreg
    (Sem.wp_mono (model prog w) _ t (fun fin _ s' hf => by obtain ⟨f, rfl, h1, h2⟩ := hf; exact ⟨h1, leftWithCleanup_false_of_bare h2⟩) (fun _ _ _ e => e.elim) default s (h _ default caller_in safe_caller))
  exact ⟨n, r, b, a, c⟩
/-- The table's turn is no change that a claim forbids. -/
theorem old_tab {P : Params} {h h' : Heap} {ps : Array Value} (X : (KK P).In h) (h64 : h.get? 64 = some (tabObj #[])) (h64' : h'.get? 64 = some (tabObj ps))
    (k : ∀ b o, (hideAll h [64]).get? b = some o → h'.get? b = some o) : OldK h h' := by
  have kb : ∀ b o, b ≠ 64 → h.get? b = some o → h'.get? b = some o := fun b o hb e => k b o (hideAll_get [64] e (by simpa using hb))
  have X' : CodeHd h' 68 64 := ⟨o68 P, _, _, _, _, _, _, _, _, kb _ _ (by decide) (X _ _ (by exact rfl)), rfl, rfl, rfl, rfl, rfl, rfl, rfl, rfl, by decide⟩
  have hC := code_hd X
  refine (OldK.refl h).step_table (hC.tab h64) (hC.tab h64) (more := ps) (by rw [Array.empty_append]; exact X'.tab h64') (fun b o hb e => kb b o hb e) (by decide)
/-- The law's row holds, where its call is told by wpS: the road of the library's holds_open, at the caller's own context. -/
theorem holds_S {r : OpenRow} {q : Program} {loose : List Str} {Xt : Shared → Bool} {XP : (Str → Option Value) → Heap → Prop} {α : Type} {Yf : Shared → α} {Ya : World → α} {YP : World → Heap → Prop} {d : DefRec} {kwd : List (Str × Expr)} {N : Nat}
    (left : LeftO r.prog q loose Xt Yf Ya N) (hY : ∀ w s, Yf s = Ya w → YP w s.heap) (hYk : ∀ w h h', YP w h → (∀ b o, h.get? b = some o → h'.get? b = some o) → YP w h')
    (hX : ∀ s, Xt s = true → XP (s.heap.nsMap mainGlobals) s.heap) (hXk : ∀ mg h h', XP mg h → (∀ b o, h.get? b = some o → h'.get? b = some o) → XP mg h')
    (hdef : defOf q r.name = some (d, kwd)) (hp : r.prog.theDef r.name = some (d.params, d.body, d.scope)) (hk : kwWritten? d.params.kwonlyargs d.params.kw_defaults = some kwd) (hRf : ∀ s, Xt s = true → RecFacts r.records s.heap) (hwr : (!r.writes || r.records.isEmpty) = true)
    (k1 : r.wellSaid = true) (ok : (chainsOk q && opensWell r.prog && (frees r.toRowW && r.within.isEmpty)) = true) (hb : r.prog.bare) (hw : r.toRowW.promised)
    (call : ∀ (w : World) (s₀ s₁ : Shared) (mg mb : Str → Option Value), Ground q loose r.records XP w s₀ mg mb s₁.heap → YP w s₁.heap → ∀ a : Addr, mg r.name = some (.ref a) → s₁.gens = #[] →
      ∀ (args : List WData) (vals : List Value) (as : List Addr), r.claim.pre args = true → WData.layableAll args = true → ReadsAllW r.records (classAt s₀.heap) s₁.heap vals args as → WellAll w.params s₁.heap vals args → (∀ a ∈ as, (a == sysModules) = false) →
        wpS (model r.prog w) callerA (PySem.call (.ref a) vals) (fun v s' => GoodWG r.claim (classAt s₀.heap) (ExcName.means s₀.heap) args s₁ (.ok (.ret v)) s') (fun _ _ => False) s₁) : r.Holds := by
  obtain ⟨ok1, ok2⟩ := Bool.and_eq_true_iff.mp ok
  obtain ⟨hch, hop⟩ := Bool.and_eq_true_iff.mp ok1
  obtain ⟨ok3, ok4⟩ := Bool.and_eq_true_iff.mp ok2
  obtain ⟨hsame, hu, ha, hap, hm⟩ := frees_parts ok3
  have hwi : r.claim.within = [] := List.isEmpty_iff.mp ok4
  have bare : r.claim.makers = [] := by show r.makers.map _ = []; rw [hm]; rfl
  refine ⟨k1, hw, ⟨hb, hop, bare⟩, hw.witness, fun w => ?_⟩
  have B := left.behind (XP := fun mg h => XP mg h ∧ RecFacts r.records h) (fun s hs => ⟨hX s hs, hRf s hs⟩) hch w
  refine ⟨B.1, fun sR hR => ?_⟩
  obtain ⟨s₀, hf, hg0, s, hT, hz, hgn, hg, G, y⟩ := B.2 sR hR
  have hgens : s.gens = #[] := Array.eq_empty_of_size_eq_zero (beq_iff_eq.mp hgn)
  have RF := G.X.2
  have G0 : Ground q loose [] XP w s (s.heap.nsMap mainGlobals) (s.heap.nsMap builtinsNs) s.heap := { G with X := G.X.1 }
  refine ⟨s₀, hf, hg0, s, hT, fun n hn => ?_, RF.1, RF.2.1, ?_⟩
  · obtain rfl : n = r.name := by split at hn <;> simp_all
    exact pinned_of_view hg G0 hdef hp hk
  have G1 := RF.ground G0
  intro args hpre hlay ord hord
  obtain ⟨⟨vs, s₁⟩, hl⟩ := Option.isSome_iff_exists.mp (layAllW_isSome (P := w.params) (ord := ord) G1.has args r.args s (pre_splitW hpre).1)
  have keeps := layAllW_keeps _ _ _ hl
  have rest := layAllW_rest _ _ _ hl
  obtain ⟨as, hrd, hin, hold⟩ := reads_layAllW hord _ _ _ hl hlay s₁.heap (fun _ _ e => e)
  have L : Laid r.records w s s₁ args vs as := ⟨⟨ord, hord, hl⟩, hrd, hin, hold, keeps, rest.1.trans hgens, rest.2.2.1⟩
  have G2 := G1.keeps hXk keeps
  obtain ⟨a, o, pm, cd, doc, dV, kV, f1, _⟩ := G2.fn hdef
  have tree : wpS (model r.prog w) callerA (do match ← nsGet mainNs r.name with
      | some f => do ret (← PySem.call f vs)
      | none => unsupported "claim.caller:no-such-global") (fun fin s' => ∃ f, fin = .done f ∧ (r.claim.Ends s args vs s₁ (.ok f) s' ∧ s'.os = s.os ∧ (r.writes = true → namesKept r.prog r.keeps s.heap s'.heap ∧ ∀ x ∈ r.records, ∀ a, classAt s.heap x.1 = some a → recordClass s'.heap a x.1 (x.2.map (·.1)) = true)) ∧ AllBare s'.gens) (fun _ _ => False) s₁ := by
    refine wpS_head (wpAny_nsGet G2.T.g ?_)
    rw [f1]
    refine wpS_bind (wpS_mono (call w s s₁ _ _ G2 (hYk _ _ _ (hY w s y) keeps) a f1 L.gens args vs as hpre hlay L.reads L.well (L.low G1.low)) (fun v s' g => wpS_pure ⟨_, rfl, ?_⟩) fun _ _ e => e)
    obtain ⟨z1, z2, z3⟩ := GoodWG.laid (c := r.claim) hsame hwi (ident_freeW hu ha hap) L g
    exact ⟨⟨z1, z2, fun q => ⟨namesKept_of hT hg r.keeps keeps g.2.1.old, noTable hwr q⟩⟩, z3⟩
  obtain ⟨n, res, s2, s3, hs, hr, hfo, hE, hos, hkp⟩ := ends_S (R := fun res s' => r.claim.Ends s args vs s₁ res s' ∧ s'.os = s.os ∧ (r.writes = true → namesKept r.prog r.keeps s.heap s'.heap ∧ ∀ x ∈ r.records, ∀ a, classAt s.heap x.1 = some a → recordClass s'.heap a x.1 (x.2.map (·.1)) = true)) (Shared.asleep_of_life rest.2.2.2 hz) tree
  obtain ⟨eh, _, _, eo, _⟩ := Shared.forget_eq hfo
  have hE := hE.congr eh
  have hkp := hkp
  rw [← eh] at hkp
  rw [← eo] at hos
  have hlife : s2.heap.life = s.heap.life := (runN_life _ _ _ hr).trans rest.2.2.2
  refine ⟨vs, s₁, hl, n, _, s2, hs, ?_, (fun _ i x hx => by rw [hgens] at hx; simp at hx), hkp, by rw [hlife], Shared.rest_eq hos⟩
  rcases hE with ⟨v, rfl, d1, d2, d3, d4, d5⟩ | ⟨e, ob, cls, rfl, d1, d2, d3, d4, d5⟩
  · exact .inl ⟨v, rfl, d1, d2, d3, fun b o y _ => d4 b o y, d5⟩
  · exact .inr ⟨e, ob, cls, rfl, d1, d2, d3, d4, fun b o y _ => d5 b o y⟩
end
end Mine
namespace Mine
section
open PySem PySem.W PyProof.Rows PySem.Calls
set_option maxRecDepth 100000
/-! _byteswap in ones leaves a tape, as a whole it turns it from its end. -/
theorem sw_ones_get (b : Array UInt8) (k : Nat) : ∀ i, i ≤ b.size → (swOut b 1 i)[k]? = if k < i then b[k]? else (Array.replicate b.size (0 : UInt8))[k]?
  | 0, _ => by rw [if_neg (Nat.not_lt_zero k)]; rfl
  | i + 1, h => by
    have ih := sw_ones_get b k i (by omega)
    have e : swOut b 1 (i + 1) = (swOut b 1 i).setIfInBounds i (b.getD i 0) := by
      rw [swOut_succ, swIn_succ]
      show (swOut b 1 i).setIfInBounds (i * 1 + 1 - 1 - 0) (b.getD (i * 1 + 0) 0) = _
      rw [Nat.mul_one]; rfl
    rw [e, Array.getElem?_setIfInBounds, swOut_size]
    by_cases hk : i = k
    · subst hk
      rw [if_pos rfl, if_pos (by omega), if_pos (Nat.lt_succ_self _), Array.getElem?_eq_getElem (by omega)]
      simp [Array.getD, show i < b.size by omega]
    · rw [if_neg hk, ih]
      by_cases h2 : k < i
      · rw [if_pos h2, if_pos (by omega)]
      · rw [if_neg h2, if_neg (by omega)]
theorem sw_ones (b : Array UInt8) : swOut b 1 b.size = b := by
  refine Array.ext_getElem? fun k => ?_
  rw [sw_ones_get b k b.size (Nat.le_refl _)]
  by_cases hk : k < b.size
  · rw [if_pos hk]
  · rw [if_neg hk, Array.getElem?_eq_none (by simpa using hk), Array.getElem?_eq_none (by omega)]
theorem sw_all_get (b c : Array UInt8) (hc : c.size = b.size) (k : Nat) : ∀ j, j ≤ b.size → (swIn b b.size 0 c j)[k]? = if k < b.size ∧ b.size - 1 - k < j then b[b.size - 1 - k]? else c[k]?
  | 0, _ => by rw [if_neg (fun h => Nat.not_lt_zero _ h.2)]; rfl
  | j + 1, h => by
    have ih := sw_all_get b c hc k j (by omega)
    rw [swIn_succ, Array.getElem?_setIfInBounds, swIn_size, hc]
    simp only [Nat.zero_mul, Nat.zero_add]
    by_cases hk : b.size - 1 - j = k
    · subst hk
      rw [if_pos rfl, if_pos (by omega), if_pos ⟨by omega, by omega⟩, show b.size - 1 - (b.size - 1 - j) = j by omega, Array.getElem?_eq_getElem (by omega)]
      simp [Array.getD, show j < b.size by omega]
    · rw [if_neg hk, ih]
      by_cases h2 : k < b.size ∧ b.size - 1 - k < j
      · rw [if_pos h2, if_pos ⟨h2.1, by omega⟩]
      · rw [if_neg h2, if_neg (fun h3 => h2 ⟨h3.1, by omega⟩)]
theorem sw_all (b : Array UInt8) : swOut b b.size 1 = revB b := by
  refine Array.ext_getElem? fun k => ?_
  rw [swOut_succ, sw_all_get b _ (by rw [swOut_size]) k b.size (Nat.le_refl _)]
  by_cases hk : k < b.size
  · rw [if_pos ⟨hk, by omega⟩]
    have e : (revB b)[k]? = b.toList.reverse[k]? := List.getElem?_toArray
    rw [e, List.getElem?_reverse (by rw [Array.length_toList]; exact hk), Array.length_toList, Array.getElem?_toList]
  · rw [if_neg (fun h => hk h.1), Array.getElem?_eq_none (by rw [swOut_size]; omega), Array.getElem?_eq_none (by rw [rev_size]; omega)]
end
end Mine
namespace Mine
section
open PySem PySem.W PyProof.Rows PySem.Calls PyProof
set_option maxRecDepth 100000
set_option maxHeartbeats 8000000
local macro_rules | `(tactic| walk_at "call builtin:issubclass") => `(tactic| (k_here; (with_reducible show wpAny _ _ (call (Value.builtin _) [Value.type _, Value.ref _]) _ _ _); (with_unfolding_all refine' issub_str ?k1 ?_); (case k1 => ((with_reducible rename News _ _ _ _ => N9); exact N9.get (by k_mem))); k_whole))
theorem con_fs (x : Str) (t : Tok) : Con 2 142 [.str x t] (fun _ => .str x t) := by
  w_on
  refine' con_P (D := 1) ?ho ?hcd ?hb ?hl ?c1 ?c2 ?c3 ?c4 ?_
  case ho => intro P; exact rfl
  case hcd => intro P; exact rfl
  case hb => exact rfl
  case hl => exact locs rfl
  case c1 => exact rfl
  case c2 => exact rfl
  case c3 => exact rfl
  case c4 => decide
  k_fill
  intro w mean mg mb dp un gd outer A₀ base g h₁ L' s tk B' F' N' X' T' hd hu
  (try k_fold)
  k_steps
  all_goals exact ret_in (by assumption) 0 rfl
end
end Mine
namespace Mine
section
open PySem PySem.W PyProof.Rows PySem.Calls PyProof
set_option maxRecDepth 100000
set_option maxHeartbeats 8000000
local macro_rules | `(tactic| k_enter) => `(tactic| (first
  | (refine' code_def ?k1 ?k2 ?k3 ?k4 ?k5 ?kA ?kF ?kK ?k6 ?k7 ?k8 ?k9 ?kB ?_ ?c2 ?c3 ?c4 ?c5; (case kA => exact rfl); (case kF => exact rfl); (case kK => first | exact rfl | assumption); (case k1 => k_asm); (case k2 => k_asm); (case k3 => k_asm); (case k4 => k_asm); (case k5 => k_asm); (case k6 => k_is); (case k7 => k_is); (case k8 => ktr_room); (case k9 => exact BindsTo.of_eq rfl); (case c5 => decide); (case kB => exact locs rfl); (case c2 => exact rfl); (case c3 => exact rfl); (case c4 => exact rfl); k_whole; intro g' L' h' FG' F' N' B' X' T'; (try dsimp only); (try k_lift B'); (try k_fold))
  | (refine' code_defC ?k1 ?k2 ?k3 ?k4 ?k5 ?kA ?kF ?kK ?k6 ?k7 ?k8 ?k9 ?kB ?kD ?_ ?c2 ?c3 ?c4; (case kA => exact rfl); (case kF => exact rfl); (case kK => first | exact rfl | assumption); (case k1 => k_asm); (case k2 => k_asm); (case k3 => k_asm); (case k4 => k_asm); (case k5 => k_asm); (case k6 => k_is); (case k7 => k_is); (case k8 => ktr_room); (case k9 => exact BindsTo.of_eq rfl); (case kB => exact rfl); (case kD => decide +kernel); (case c2 => exact rfl); (case c3 => exact rfl); (case c4 => exact rfl); k_whole; intro g' L' h' tk' cells' FG' F' N' Y' B' X' T' l1; k_cells Y'; (try simp only [List.cons_append, List.nil_append] at N'); (try dsimp only); (try k_lift B'); (try k_fold))
  | (kp_kind "rest"; (refine' kp_rest ?k1 ?k2 ?k3 ?k4 ?k5 ?kA ?kF ?kK ?k6 ?k7 ?k8 ?kV ?kP ?kG ?kB ?_ ?c2 ?c3 ?c4 ?c5; (case kA => exact rfl); (case kF => exact rfl); (case kK => first | exact rfl | assumption); (case k1 => k_asm); (case k2 => k_asm); (case k3 => k_asm); (case k4 => k_asm); (case k5 => k_asm); (case k6 => k_is); (case k7 => k_is); (case k8 => ktr_room); (case kV => kl_lit); (case kP => exact rfl); (case kG => exact fun _ => rfl); (case kB => exact fun _ => locs rfl); (case c5 => decide); (case c2 => exact rfl); (case c3 => exact rfl); (case c4 => exact rfl); k_whole; intro D' g' L' h' l1 FG' F' N' B' X' T'; (try dsimp only); (try k_lift B'); (try k_fold)))))
local macro_rules | `(tactic| k_all) => `(tactic| first | exact all_off' (by assumption) (by first | exact Nat.le_refl _ | omega) | exact all_off (by assumption) (by first | exact Nat.le_refl _ | omega))
local macro_rules | `(tactic| walk_at "call builtin:issubclass") => `(tactic| (k_here; (with_reducible show wpAny _ _ (call (Value.builtin _) [Value.type _, Value.ref _]) _ _ _); (with_unfolding_all refine' issub_str ?k1 ?_); (case k1 => ((with_reducible rename News _ _ _ _ => N9); exact N9.get (by k_mem))); k_whole))
local macro_rules | `(tactic| walk_at "call ref") => `(tactic| (k_here; k_dflt (refine' use_con ?c ?k1 ?k2 ?k3 ?k4 ?k5 ?kK ?kd ?ku ?kR; (case c => exact con_fs _ _); (case k1 => k_asm); (case k2 => k_asm); (case k3 => k_asm); (case k4 => k_asm); (case k5 => k_asm); (case kK => first | exact rfl | assumption); (case kd => ktr_room); (case ku => ktr_units); intro t9 h9 tk9 F9 N9; (try dsimp only); (try k_fold))))
/-- join of '/r' and y -/
def joinR (y : Str) : Str := if Txt.startswith y (Str.ofString "/") = true then y else Str.ofString "/r" ++ (Str.ofString "/" ++ y)
theorem con_join (y : Str) (t u : Tok) (hy : y.length ≤ 1000) : Con 4 163 [.str (Str.ofString "/r") t, .str y u] (fun t => .str (joinR y) t) := by
  unfold Con CbRet
  w_on
  k_fill
  intros
  rename_i hret
  refine wpAny_call ?_
  k_dflt k_enter
  k_steps
  refine wpAny_mono (E := fun _ _ => False) ?_ (fun _ _ h => h) (fun _ _ h => h.elim)
  with_reducible rename Fr _ _ _ _ => F0
  with_reducible rename News _ _ _ _ => N0
  with_unfolding_all refine For_invVF F0 rfl rfl ?_
  k_dflt (refine' ld F0 rfl ?_)
  refine iter_tup1 (fun m => ∃ t, m (Str.ofString "path") = some (.str (joinR y) t)) rfl (by k_mem) F0 N0 ?_ ?_
  · intro h2 tk2 own hoff F2 N2
    simp only [List.cons_append] at N2
    k_fold
    k_steps
    all_goals (refine' end_inv ?F ?N ?hj ?hn ?ho ?ha; (case F => k_asm); (case N => k_asm); (case hj => refine' ⟨rfl, ex_str ?he ?hv⟩; (case he => with_unfolding_all exact rfl); (case hv => unfold joinR; simp [*])); (case hn => kstt_sub); (case ho => kstt_sub); (case ha => exact rfl))
  · rintro m₁ h2 tk2 ⟨t2, hp⟩ F2 N2
    k_steps
    refine ld F2 hp ?_
    k_steps
    all_goals exact hret _ _ _ (by assumption) (cb_drop (by assumption) (by kcj_all))
end
end Mine
namespace Mine
section
open PySem PySem.W PyProof.Rows PySem.Calls PyProof
set_option maxRecDepth 100000
set_option maxHeartbeats 8000000
def takesOf (part sign : Str) : Bool := cond (part == Str.ofString ".") true (cond (Txt.slice part none (some 1) == Str.ofString "[") (Txt.contains (Txt.slice part (some 1) (some (-1))) sign) (sign == Txt.slice part (some (-1)) none))
theorem con_takes (part sign : Str) (t u : Tok) (hp : part.length ≤ 1000) : Con 2 208 [.str part t, .str sign u] (fun _ => .bool (takesOf part sign)) := by
  w_on
  refine' con_P (D := 1) ?ho ?hcd ?hb ?hl ?c1 ?c2 ?c3 ?c4 ?_
  case ho => intro P; exact rfl
  case hcd => intro P; exact rfl
  case hb => exact rfl
  case hl => exact locs rfl
  case c1 => exact rfl
  case c2 => exact rfl
  case c3 => exact rfl
  case c4 => decide
  k_fill
  intro w mean mg mb dp un gd outer A₀ base g h₁ L' s tk B' F' N' X' T' hd hu
  (try k_fold)
  k_steps
  all_goals refine ret_in (by assumption) 0 ?_
  all_goals refine congrArg Value.bool ?_
  all_goals (unfold takesOf; simp only [*, cond_true, cond_false]; try rfl)
end
end Mine
namespace Mine
section
open PySem PySem.W PyProof.Rows PySem.Calls PyProof
set_option maxRecDepth 100000
set_option maxHeartbeats 8000000
local macro_rules | `(tactic| walk_at "exec For Name Call cons nil") => `(tactic| refine stop ?_)
local macro_rules | `(tactic| walk_at "exec For Name Name cons nil") => `(tactic| refine stop ?_)
local macro_rules | `(tactic| walk_at "exec For Name BinOp cons nil") => `(tactic| refine stop ?_)
local macro_rules | `(tactic| walk_at "call ref") => `(tactic| refine stop ?_)
local macro_rules | `(tactic| tb_start) => `(tactic| (refine Stop.go ?_; k_dflt (refine' use_con ?c ?k1 ?k2 ?k3 ?k4 ?k5 ?kK ?kd ?ku ?kR; (case c => exact con_fs _ _); (case k1 => k_asm); (case k2 => k_asm); (case k3 => k_asm); (case k4 => k_asm); (case k5 => k_asm); (case kK => first | exact rfl | assumption); (case kd => ktr_room); (case ku => ktr_units); intro t9 h9 tk9 F9 N9; (try dsimp only); (try k_fold))))

def rootOf (x : Str) : Str := cond (Txt.slice x (some 1) (some 2) != Str.ofString "/") (Str.ofString "/") (cond (Txt.slice x (some 2) (some 3) == Str.ofString "/") (Str.ofString "/") (Txt.slice x none (some 2)))
def restOf (x : Str) : Str := cond (Txt.slice x (some 1) (some 2) != Str.ofString "/") (Txt.slice x (some 1) none) (cond (Txt.slice x (some 2) (some 3) == Str.ofString "/") (Txt.slice x (some 1) none) (Txt.slice x (some 2) none))
def tup (l : List Value) : Obj := { cls := .type "tuple", data := .seq l.toArray }
def SplitR (x : Str) (g h' : Heap) (v : Value) : Prop := ∃ a t1 t2 t3, v = .ref a ∧ g.get? a = none ∧ h'.get? a = some (tup [.str (Str.ofString "") t1, .str (rootOf x) t2, .str (restOf x) t3])
theorem splitR_of {x : Str} {g h' : Heap} {L a : Addr} {r : List (Addr × Obj)} {v1 v2 v3 : Str} {t1 t2 t3 : Tok} (N : News g L h' ((a, tup [.str v1 t1, .str v2 t2, .str v3 t3]) :: r)) (e1 : v1 = Str.ofString "") (e2 : v2 = rootOf x) (e3 : v3 = restOf x) : SplitR x g h' (.ref a) := by
  subst e1; subst e2; subst e3
  exact ⟨a, t1, t2, t3, rfl, News.fresh N (.head _), News.get N (.head _)⟩
theorem con_split (x : Str) (t : Tok) (hx : x.length ≤ 1000) (h1 : (Txt.slice x none (some 1) != Str.ofString "/") = false) : ConV 4 170 [.str x t] (SplitR x) := by
  w_on
  refine' conV_P (D := 3) ?ho ?hcd ?hb ?hl ?c1 ?c2 ?c3 ?c4 ?_
  case ho => intro P; exact rfl
  case hcd => intro P; exact rfl
  case hb => exact rfl
  case hl => exact locs rfl
  case c1 => exact rfl
  case c2 => exact rfl
  case c3 => exact rfl
  case c4 => decide
  k_fill
  intro w mean mg mb dp un gd outer A₀ base g h₁ L' s tk B' F' N' X' T' hd hu
  (try k_fold)
  k_steps
  tb_start
  k_steps
  all_goals first | (exfalso; rename ((Txt.slice x none (some 1) != Str.ofString "/") = true) => hbad; rw [h1] at hbad; cases hbad; done) | skip
  all_goals (with_reducible rename News _ _ _ _ => N9; refine retV_in (by assumption) (splitR_of N9 rfl ?_ ?_))
  all_goals (first | unfold rootOf | unfold restOf)
  all_goals simp only [*, cond_true, cond_false]
end
end Mine
namespace Mine
section
open PySem PySem.W PyProof.Rows PySem.Calls PyProof
set_option maxRecDepth 100000
set_option maxHeartbeats 8000000
local macro_rules | `(tactic| walk_at "exec For Name Call cons nil") => `(tactic| refine stop ?_)
local macro_rules | `(tactic| walk_at "exec For Name Name cons nil") => `(tactic| refine stop ?_)
local macro_rules | `(tactic| walk_at "exec For Name BinOp cons nil") => `(tactic| refine stop ?_)
local macro_rules | `(tactic| walk_at "InvEndN") => `(tactic| refine stop ?_)
local macro_rules | `(tactic| walk_at "call builtin:list.append") => `(tactic| refine stop ?_)
local macro_rules | `(tactic| walk_at "call builtin:list.pop") => `(tactic| refine stop ?_)
local macro_rules | `(tactic| walk_at "call builtin:list.extend") => `(tactic| refine stop ?_)
local macro_rules | `(tactic| walk_at "subscriptTail Name UnaryOp ref int") => `(tactic| refine stop ?_)
local macro_rules | `(tactic| walk_at "call ref") => `(tactic| refine stop ?_)
local macro_rules | `(tactic| tb_start) => `(tactic| (refine Stop.go ?_; k_dflt (refine' use_con ?c ?k1 ?k2 ?k3 ?k4 ?k5 ?kK ?kd ?ku ?kR; (case c => exact con_fs _ _); (case k1 => k_asm); (case k2 => k_asm); (case k3 => k_asm); (case k4 => k_asm); (case k5 => k_asm); (case kK => first | exact rfl | assumption); (case kd => ktr_room); (case ku => ktr_units); intro t9 h9 tk9 F9 N9; (try dsimp only); (try k_fold))))
local macro_rules | `(tactic| tb_rel) => `(tactic| (refine Stop.go ?_; k_dflt (refine' use_conV ?c ?k1 ?k2 ?k3 ?k4 ?k5 ?kK ?kd ?ku ?kR; (case c => first | exact con_split _ _ (by assumption) (by assumption)); (case k1 => k_asm); (case k2 => k_asm); (case k3 => k_asm); (case k4 => k_asm); (case k5 => k_asm); (case kK => first | exact rfl | assumption); (case kd => ktr_room); (case ku => ktr_units))))

/-- one name of normpath's, upon what stands -/
def normStep (acc : List Str) (c : Str) : List Str :=
  cond (c == Str.ofString "" || c == Str.ofString ".") acc (cond (c != Str.ofString ".." || acc.getLast? == some (Str.ofString "..")) (acc ++ [c]) acc.dropLast)
structure NSt where
  vs : List Value
  n : Nat
theorem norm_skip {acc : List Str} {y : Str} (h : (y == Str.ofString "" || y == Str.ofString ".") = true) : normStep acc y = acc := by unfold normStep; rw [h]; rfl
theorem norm_put {acc : List Str} {y : Str} (h : (y == Str.ofString "" || y == Str.ofString ".") = false) (h' : (y != Str.ofString "..") = true) : normStep acc y = acc ++ [y] := by unfold normStep; rw [h, h']; rfl
theorem norm_up0 {y : Str} (h : (y == Str.ofString "" || y == Str.ofString ".") = false) (h' : (y != Str.ofString "..") = false) : normStep [] y = [] := by unfold normStep; rw [h, h']; rfl
theorem norm_up1 {acc : List Str} {y z : Str} (h : (y == Str.ofString "" || y == Str.ofString ".") = false) (h' : (y != Str.ofString "..") = false) (h2 : (z == Str.ofString "..") = true) : normStep (acc ++ [z]) y = (acc ++ [z]) ++ [y] := by
  unfold normStep; rw [h, h', List.getLast?_append]; simp [beq_iff_eq.mp h2]
theorem norm_up2 {acc : List Str} {y z : Str} (h : (y == Str.ofString "" || y == Str.ofString ".") = false) (h' : (y != Str.ofString "..") = false) (h2 : (z == Str.ofString "..") = false) : normStep (acc ++ [z]) y = acc := by
  unfold normStep; rw [h, h', List.getLast?_append]
  have e : (([z] : List Str).getLast?.or acc.getLast? == some (Str.ofString "..")) = false := by simpa using h2
  rw [e]; simp
def weigh (l : List Str) : Nat := (l.map (·.length)).sum + l.length
theorem weigh_app (a b : List Str) : weigh (a ++ b) = weigh a + weigh b := by unfold weigh; rw [List.map_append, List.sum_append, List.length_append]; omega
theorem weigh_cons (a : Str) (b : List Str) : weigh (a :: b) = a.length + 1 + weigh b := by unfold weigh; rw [List.map_cons, List.sum_cons, List.length_cons]; omega
theorem weigh_drop (a : List Str) : weigh a.dropLast ≤ weigh a := by
  rcases List.eq_nil_or_concat a with rfl | ⟨b, c, rfl⟩
  · exact Nat.le_refl _
  · rw [List.concat_eq_append, List.dropLast_concat, weigh_app]; omega
theorem weigh_step (a : List Str) (c : Str) : weigh (normStep a c) ≤ weigh a + (c.length + 1) := by
  unfold normStep
  cases (c == Str.ofString "" || c == Str.ofString ".")
  · cases (c != Str.ofString ".." || a.getLast? == some (Str.ofString ".."))
    · exact Nat.le_trans (weigh_drop a) (Nat.le_add_right _ _)
    · show weigh (a ++ [c]) ≤ _
      rw [weigh_app, weigh_cons]; exact Nat.le_refl _
  · exact Nat.le_add_right _ _
theorem weigh_fold : ∀ (l : List Str) (a : List Str), weigh (l.foldl normStep a) ≤ weigh a + weigh l
  | [], a => Nat.le_add_right _ _
  | c :: r, a => by
    rw [List.foldl_cons, weigh_cons]
    have h1 := weigh_fold r (normStep a c)
    have h2 := weigh_step a c
    omega
theorem len0 {y : Str} (h : ¬ ((y.length : Int) ≠ 0)) : (y == Str.ofString "" || y == Str.ofString ".") = true := by
  have h1 : y.length = 0 := by omega
  have : y = Str.ofString "" := by
    obtain ⟨c⟩ := y
    have : c.size = 0 := h1
    have : c = #[] := Array.eq_empty_of_size_eq_zero this
    subst this; rfl
  rw [this]; rfl
theorem len1 {y : Str} (h : (y.length : Int) ≠ 0) (h' : (y == Str.ofString ".") = false) : (y == Str.ofString "" || y == Str.ofString ".") = false := by
  rw [h']
  have : y ≠ Str.ofString "" := by rintro rfl; exact h rfl
  simp [this]
local macro_rules | `(tactic| ktr_rel) => `(tactic| (refine Stop.go ?_; k_dflt (refine' append_K ?k1 ?k2 ?k3 ?_ ?z; (case k1 => k_asm); (case k2 => k_asm); (case k3 => k_upd); (case z => (rw [List.size_toArray]; have e9 := sizeLine_eq; first | omega | (simp only [List.length_append, List.length_cons, List.length_nil] at *; omega))); k_whole); intro h' F' N'; (try k_sweep)))
local macro_rules | `(tactic| ktr_unf) => `(tactic| (refine Stop.go ?_; k_dflt (refine' kl_pop ?F ?N ?e ?U ?z ?_; (case F => k_asm); (case N => k_asm); (case U => k_upd); (case e => exact kl_last_app _ _); (case z => (have e9 := sizeLine_eq; simp only [List.length_append, List.length_cons, List.length_nil] at *; omega))); intro h' F' N'; (try dsimp only [List.nil_append, List.cons_append] at N')))
def normOf (x : Str) : Str := rootOf x ++ Txt.join (Str.ofString "/") ((Txt.split (restOf x) (Str.ofString "/")).foldl normStep [])
noncomputable def nmSc0 (s : Stmt) : Scope := match s with | .FunctionDef _ _ _ _ _ _ scope _ _ _ => scope | _ => default
noncomputable def nmFor0 (s : Stmt) : Stmt := match s with | .FunctionDef _ _ (_ :: _ :: _ :: _ :: _ :: _ :: f :: _) _ _ _ _ _ _ _ => f | _ => .Pass default
noncomputable def nmBody0 (s : Stmt) : List Stmt := match nmFor0 s with | .For _ _ b _ _ => b | _ => []
noncomputable def nmScope : Scope := by
  refine' (fun (b : Scope) (_ : b = nmSc0 (stm 25)) => b) _ ?h
  case h =>
    conv => rhs; whnf
noncomputable def nmBody : List Stmt := by
  refine' (fun (b : List Stmt) (_ : b = nmBody0 (stm 25)) => b) _ ?h
  case h =>
    conv => rhs; whnf
/-- one turn of normpath's loop -/
theorem norm_turn {w : World} {mean : ExcName → Option Value} {mg mb : Str → Option Value} {dp un : Nat} {gd : Option (List Code)} {outer : List Env} {A₀ : Around} {base g : Heap} {L' a : Addr} {y sl : Str} {ty ts td tdd : Tok} {vs : List Value} {acc : List Str} {n : Nat} {own : List (Addr × Obj)} {s : Shared} {Q : Flow → Shared → Prop} {m : Str → Option Value}
    (B' : Below A₀ base outer g) (F₀ : Fr g L' s.heap m) (e1 : m (Str.ofString "comp") = some (.str y ty)) (e2 : m (Str.ofString "dot") = some (.str (Str.ofString ".") td)) (e3 : m (Str.ofString "dotdot") = some (.str (Str.ofString "..") tdd)) (e4 : m (Str.ofString "initial_slashes") = some (.str sl ts)) (e5 : m (Str.ofString "new_comps") = some (.ref a))
    (N' : News g L' s.heap ((a, listOf vs.toArray n) :: own)) (hoff : OwnOff own [a]) (X' : (KK w.params).In g) (T' : Top q0 (looseW q0 loose0) mean mg mb g)
    (hd : dp + 5 < recursionLimit) (hu : un + 40 < cLine) (hlen : y.length ≤ 1000) (h3 : (sl.length : Int) ≠ 0) (hsl : sl.length ≤ 2) (hcl : vs.length ≤ 3000) (hP : StrsAre vs acc)
    (h : ∀ fl vs' n' h' tk', (fl = .next ∨ fl = .cont) → StrsAre vs' (normStep acc y) → vs'.length ≤ vs.length + 1 → Fr g L' h' m → News g L' h' ((a, listOf vs'.toArray n') :: own) → Q fl { s with heap := h', toks := tk' }) :
    wpAny (model (OpenLaw.prog PySem.Challenge.rw_rt0055_01) w) (ktrTop dp un gd (Str.ofString "normpath") nmScope L' 177 (.ref 176) [] outer) (execs nmBody (envX (Str.ofString "normpath") nmScope L' 177 (.ref 176) [])) Q (fun _ _ => False) s := by
  revert X'
  k_fill
  intro X'
  have em : (fun z => if z = Str.ofString "comp" then some (.str y ty) else if z = Str.ofString "dot" then some (.str (Str.ofString ".") td) else if z = Str.ofString "dotdot" then some (.str (Str.ofString "..") tdd) else if z = Str.ofString "initial_slashes" then some (.str sl ts) else if z = Str.ofString "new_comps" then some (.ref a) else m z) = m := by
    funext z
    split
    · next h => rw [h, e1]
    split
    · next h => rw [h, e2]
    split
    · next h => rw [h, e3]
    split
    · next h => rw [h, e4]
    split
    · next h => rw [h, e5]
    rfl
  have F' := F₀
  rw [← em] at F' h
  clear F₀ em e1 e2 e3 e4 e5
  unfold nmScope nmBody
  dsimp only
  w_on
  (try k_fold)
  k_steps
  -- the sign '.'
  · show Q .cont _
    with_reducible rename Fr _ _ _ _ => F9
    with_reducible rename News _ _ _ _ => N9
    exact h .cont vs n _ _ (.inr rfl) (by rw [norm_skip (by simp [*])]; exact hP) (Nat.le_succ _) F9 N9
  -- a name
  · ktr_rel
    (try dsimp only)
    (try k_fold)
    k_steps
    with_reducible rename Fr _ _ _ _ => F9
    with_reducible rename News _ _ _ _ => N9
    rw [List.push_toArray] at N9
    exact h .next (vs ++ [.str y ty]) (n + 1) _ _ (.inl rfl) (by rw [norm_put (len1 (by assumption) (by assumption)) (by assumption)]; exact strs_snoc' hP) (by rw [List.length_append]; exact Nat.le_refl _) F9 N9
  -- up, nothing stands
  · have e0 : vs = [] := by simpa using (by assumption : vs.isEmpty = true)
    subst e0
    cases hP
    with_reducible rename Fr _ _ _ _ => F9
    with_reducible rename News _ _ _ _ => N9
    exact h .next [] n _ _ (.inl rfl) (by rw [norm_up0 (len1 (by assumption) (by assumption)) (by assumption)]; exact .nil) (Nat.zero_le _) F9 N9
  · obtain ⟨ws, z, tz, acc', e1, e2, hS⟩ := strs_last hP (by assumption)
    subst e1; subst e2
    with_reducible rename News _ _ _ _ => N9
    refine Stop.go ?_
    refine sub_last (N9.isList (by k_mem)) (by rw [List.length_append] at hcl; omega) ?_
    (try dsimp only)
    (try k_fold)
    k_steps
    · ktr_rel
      (try dsimp only)
      (try k_fold)
      k_steps
      with_reducible rename Fr _ _ _ _ => F9
      with_reducible rename News _ _ _ _ => N9
      rw [List.push_toArray] at N9
      exact h .next ((ws ++ [.str z tz]) ++ [.str y ty]) (n + 1) _ _ (.inl rfl) (by rw [norm_up1 (len1 (by assumption) (by assumption)) (by assumption) (by assumption)]; exact strs_snoc' hP) (by rw [List.length_append (bs := [_])]; exact Nat.le_refl _) F9 N9
    · ktr_unf
      (try dsimp only)
      (try k_fold)
      k_steps
      with_reducible rename Fr _ _ _ _ => F9
      with_reducible rename News _ _ _ _ => N9
      exact h .next ws (n + 1) _ _ (.inl rfl) (by rw [norm_up2 (len1 (by assumption) (by assumption)) (by assumption) (by assumption)]; exact hS) (by rw [List.length_append]; omega) F9 N9
  · exact absurd (by assumption) h3
  · show Q .cont _
    with_reducible rename Fr _ _ _ _ => F9
    with_reducible rename News _ _ _ _ => N9
    exact h .cont vs n _ _ (.inr rfl) (by rw [norm_skip (len0 (by omega))]; exact hP) (Nat.le_succ _) F9 N9
theorem con_norm (x : Str) (t : Tok) (hx : x.length ≤ 1000) (h1 : (Txt.slice x none (some 1) != Str.ofString "/") = false) (h2 : (x.length : Int) ≠ 0) (h3 : ((rootOf x).length : Int) ≠ 0) (h4 : (restOf x).length ≤ 1000) (h5 : (rootOf x).length ≤ 2) : Con 6 177 [.str x t] (fun t => .str (normOf x) t) := by
  w_on
  refine' con_P (D := 5) ?ho ?hcd ?hb ?hl ?c1 ?c2 ?c3 ?c4 ?_
  case ho => intro P; exact rfl
  case hcd => intro P; exact rfl
  case hb => exact rfl
  case hl => exact locs rfl
  case c1 => exact rfl
  case c2 => exact rfl
  case c3 => exact rfl
  case c4 => decide
  k_fill
  intro w mean mg mb dp un gd outer A₀ base g h₁ L' s tk B' F' N' X' T' hd hu
  (try k_fold)
  k_steps
  tb_start
  k_steps
  tb_rel
  intro v9 h9 tk9 hk9 hr9 F9 N9
  obtain ⟨a9, t1, t2, t3, rfl, hn9, ha9⟩ := hr9
  have N9' := news_add (by assumption) N9 hn9 ha9
  clear N9
  unfold tup at N9'
  (try dsimp only)
  (try k_fold)
  k_steps
  all_goals first | exact absurd (by assumption) h2 | skip
  refine Stop.go ?_
  (rename List.map _ _ = Txt.split _ _ => hsp)
  with_reducible rename Fr _ _ _ _ => F0
  with_reducible rename News _ _ _ _ => N0
  rename List (Str × Tok) => l9
  with_unfolding_all refine For_invVF F0 rfl rfl ?_
  k_dflt (refine' ld F0 rfl ?_)
  refine loop_listC (σ := NSt) (fun c => (_, listOf c.vs.toArray c.n) :: _) (fun i c => StrsAre c.vs (((Txt.split (restOf x) (Str.ofString "/")).take i).foldl normStep []) ∧ c.vs.length ≤ i) ⟨[], 0⟩ rfl (fun c => .tail _ (.head _)) F0 N0 ⟨.nil, Nat.le_refl _⟩ ?_ ?_
  · intro i v c h2 tk2 own hi hoff hP F2 N2
    obtain ⟨y9, t9, rfl, hy9, hy8⟩ := strVal_at hsp hi
    have hy7 := List.mem_of_getElem? hy9
    rw [← hsp] at hy7
    have hlen : y9.length ≤ 1000 := by
      rename (∀ a, a ∈ List.map _ _ → _) => hall
      have := hall _ hy7
      omega
    simp only [List.cons_append, List.nil_append] at N2
    clear F0 N0
    have hcl : c.vs.length ≤ 3000 := by
      have e1 : i < (strValues l9).length := (List.getElem?_eq_some_iff.mp hi).1
      have e2 : (strValues l9).length = (Txt.split (restOf x) (Str.ofString "/")).length := by rw [← hsp]; simp [strValues]
      have e3 := split_le (restOf x) (Str.ofString "/")
      have e4 := hP.2
      omega
    obtain ⟨hP, hP2⟩ := hP
    obtain ⟨vs, n⟩ := c
    dsimp only at hP hP2 hcl N2
    refine norm_turn (s := ⟨_, _, _, _, _⟩) (y := y9) B' F2 rfl rfl rfl rfl rfl N2 ?_ X' T' hd hu hlen h3 h5 hcl hP ?_
    · intro p hp b hb
      rw [List.mem_singleton.mp hb]
      (repeat (rcases List.mem_cons.mp hp with rfl | hp; · k_ne))
      exact hoff p hp _ (.head _)
    intro fl vs' n' h' tk' hfl hS hl F N
    rcases hfl with rfl | rfl
    · refine mid_end ⟨vs', n'⟩ F N (by kstt_sub) (by kstt_sub) rfl (by intro z9 hz9; exact if_neg hz9) ⟨?_, by show vs'.length ≤ i + 1; omega⟩
      rw [hy8, List.foldl_append]; exact hS
    · refine mid_end ⟨vs', n'⟩ F N (by kstt_sub) (by kstt_sub) rfl (by intro z9 hz9; exact if_neg hz9) ⟨?_, by show vs'.length ≤ i + 1; omega⟩
      rw [hy8, List.foldl_append]; exact hS
  · intro c u h2 tk2 hP F2 N2
    have eL : (strValues l9).length = (Txt.split (restOf x) (Str.ofString "/")).length := by rw [← hsp]; simp [strValues]
    obtain ⟨hP, hP2⟩ := hP
    rw [eL, List.take_length] at hP
    rw [eL] at hP2
    obtain ⟨vs, n⟩ := c
    dsimp only at hP hP2 N2
    have hcl : vs.length ≤ 3000 := by
      have e3 := split_le (restOf x) (Str.ofString "/")
      omega
    have hw : (((Txt.split (restOf x) (Str.ofString "/")).foldl normStep []).map (·.length)).sum + ((Txt.split (restOf x) (Str.ofString "/")).foldl normStep []).length ≤ 2000 := by
      have e1 := weigh_fold (Txt.split (restOf x) (Str.ofString "/")) []
      have e2 := split_weight (restOf x) (Str.ofString "/") (by decide +kernel)
      unfold weigh at e1
      simp only [List.map_nil, List.sum_nil, List.length_nil] at e1
      omega
    clear F0 N0 hsp eL hn9 ha9 hk9
    generalize hacc : (Txt.split (restOf x) (Str.ofString "/")).foldl normStep [] = acc at hP hw ⊢
    (try k_fold)
    k_steps
    with_reducible rename News _ _ _ _ => N9
    refine join_listW (N9.isList (by k_mem)) hP (by decide +kernel) (by omega) ?_
    intro t9 k9
    have hj : (Txt.join (Str.ofString "/") acc).length ≤ 4000 := by
      have e1 : (Txt.join (Str.ofString "/") acc).length ≤ (acc.map (·.length)).sum + acc.length * (Str.ofString "/").length := by
        show (Builtin.Str.glued _ _).length ≤ _
        rw [StrLaws.glued_eq_join]
        exact StrLaws.join_length_le _ _
      have e2 : (Str.ofString "/").length = 1 := by decide +kernel
      rw [e2] at e1
      omega
    (try dsimp only)
    (try k_fold)
    k_steps
    · exact ret_in (by assumption) _ (by unfold normOf; rw [hacc])
    · exfalso
      omega
end
end Mine
namespace Mine
section
open PySem PySem.W PyProof.Rows PySem.Calls PyProof
set_option maxRecDepth 100000
set_option maxHeartbeats 8000000
local macro_rules | `(tactic| walk_at "exec For Name Call cons nil") => `(tactic| refine stop ?_)
local macro_rules | `(tactic| walk_at "exec For Name Name cons nil") => `(tactic| refine stop ?_)
local macro_rules | `(tactic| walk_at "exec For Name BinOp cons nil") => `(tactic| refine stop ?_)
local macro_rules | `(tactic| walk_at "InvEndN") => `(tactic| refine stop ?_)
local macro_rules | `(tactic| walk_at "call builtin:list.append") => `(tactic| refine stop ?_)
local macro_rules | `(tactic| walk_at "call builtin:list.pop") => `(tactic| refine stop ?_)
local macro_rules | `(tactic| walk_at "call builtin:list.extend") => `(tactic| refine stop ?_)
local macro_rules | `(tactic| walk_at "subscriptTail Name UnaryOp ref int") => `(tactic| refine stop ?_)
local macro_rules | `(tactic| walk_at "pyIter ref") => `(tactic| refine stop ?_)
local macro_rules | `(tactic| walk_at "pyIter str") => `(tactic| refine stop ?_)
local macro_rules | `(tactic| walk_at "call ref") => `(tactic| refine stop ?_)

def placeStep (acc : List Str) (c : Str) : List Str := cond (c == Str.ofString "..") acc.dropLast (cond (c != Str.ofString "") (acc ++ [c]) acc)
def placeRoot (x : Str) : Str := cond (Txt.slice x none (some 1) == Str.ofString "/") (cond (Txt.slice x (some 1) (some 2) == Str.ofString "/" && Txt.slice x (some 2) (some 3) != Str.ofString "/") (Str.ofString "//") (Str.ofString "/")) (Str.ofString "/")
def placeInit (x : Str) : List Str := cond (Txt.slice x none (some 1) == Str.ofString "/") [] [Str.ofString "r"]
def placeOf (x : Str) : Str := placeRoot x ++ Txt.join (Str.ofString "/") ((Txt.split x (Str.ofString "/")).foldl placeStep (placeInit x))
def weighQ (l : List Str) : Nat := (l.map (·.length)).sum + l.length
theorem weighQ_app (a b : List Str) : weighQ (a ++ b) = weighQ a + weighQ b := by unfold weighQ; rw [List.map_append, List.sum_append, List.length_append]; omega
theorem weighQ_cons (a : Str) (b : List Str) : weighQ (a :: b) = a.length + 1 + weighQ b := by unfold weighQ; rw [List.map_cons, List.sum_cons, List.length_cons]; omega
theorem weighQ_drop (a : List Str) : weighQ a.dropLast ≤ weighQ a := by
  rcases List.eq_nil_or_concat a with rfl | ⟨b, c, rfl⟩
  · exact Nat.le_refl _
  · rw [List.concat_eq_append, List.dropLast_concat, weighQ_app]; omega
theorem weighP_step (a : List Str) (c : Str) : weighQ (placeStep a c) ≤ weighQ a + (c.length + 1) := by
  unfold placeStep
  cases (c == Str.ofString "..")
  · cases (c != Str.ofString "")
    · exact Nat.le_add_right _ _
    · show weighQ (a ++ [c]) ≤ _
      rw [weighQ_app, weighQ_cons]; exact Nat.le_refl _
  · exact Nat.le_trans (weighQ_drop a) (Nat.le_add_right _ _)
theorem weighP_fold : ∀ (l : List Str) (a : List Str), weighQ (l.foldl placeStep a) ≤ weighQ a + weighQ l
  | [], a => Nat.le_add_right _ _
  | c :: r, a => by
    rw [List.foldl_cons, weighQ_cons]
    have h1 := weighP_fold r (placeStep a c)
    have h2 := weighP_step a c
    omega
structure PSt where
  a : Addr
  vs : List Value
  n : Nat
noncomputable def plSc0 (s : Stmt) : Scope := match s with | .FunctionDef _ _ _ _ _ _ scope _ _ _ => scope | _ => default
noncomputable def plFor0 (s : Stmt) : Stmt := match s with | .FunctionDef _ _ (_ :: _ :: f :: _) _ _ _ _ _ _ _ => f | _ => .Pass default
noncomputable def plScope : Scope := by
  refine' (fun (b : Scope) (_ : b = plSc0 (stm 30)) => b) _ ?h
  case h =>
    conv => rhs; whnf
noncomputable def plFor : Stmt := by
  refine' (fun (b : Stmt) (_ : b = plFor0 (stm 30)) => b) _ ?h
  case h =>
    conv => rhs; whnf
/-- the walk name by name -/
theorem place_for {w : World} {mean : ExcName → Option Value} {mg mb : Str → Option Value} {dp un : Nat} {gd : Option (List Code)} {outer : List Env} {A₀ : Around} {base g : Heap} {L' a₀ : Addr} {vs₀ : List Value} {n₀ : Nat} {x : Str} {tx : Tok} {s : Shared} {Q : Flow → Shared → Prop} {m : Str → Option Value}
    (hx : x.length ≤ 1000) (B' : Below A₀ base outer g) (F₀ : Fr g L' s.heap m) (hw : m (Str.ofString "way") = some (.str x tx)) (hn : m (Str.ofString "names") = some (.ref a₀)) (N' : News g L' s.heap [(a₀, listOf vs₀.toArray n₀)]) (X' : (KK w.params).In g) (T' : Top q0 (looseW q0 loose0) mean mg mb g)
    (hd : dp + 1 < recursionLimit) (hu : un + 8 < cLine) (hi0 : StrsAre vs₀ (placeInit x)) (hv0 : vs₀.length ≤ 1)
    (h : ∀ u a vs n h' tk', StrsAre vs ((Txt.split x (Str.ofString "/")).foldl placeStep (placeInit x)) → Fr g L' h' (fun z => if z = Str.ofString "name" then u else if z = Str.ofString "names" then some (.ref a) else m z) → News g L' h' [(a, listOf vs.toArray n)] → Q .next { s with heap := h', toks := tk' }) :
    wpAny (model (OpenLaw.prog PySem.Challenge.rw_rt0055_01) w) (ktrTop dp un gd (Str.ofString "_law_place") plScope L' 201 (.ref 200) [] outer) (exec plFor (envX (Str.ofString "_law_place") plScope L' 201 (.ref 200) [])) Q (fun _ _ => False) s := by
  revert X'
  k_fill
  intro X'
  have F' := fr_fold (y := Str.ofString "way") (v := .str x tx) (fr_fold F₀ hn) ((if_neg (by decide)).trans hw)
  have hback : ∀ {h' : Heap} {u : Option Value} {a : Addr}, Fr g L' h' (fun z => if z = Str.ofString "name" then u else if z = Str.ofString "names" then some (.ref a) else if z = Str.ofString "way" then some (.str x tx) else if z = Str.ofString "names" then some (.ref a₀) else m z) → Fr g L' h' (fun z => if z = Str.ofString "name" then u else if z = Str.ofString "names" then some (.ref a) else m z) := by
    intro h' u a F
    have e : (fun z => if z = Str.ofString "name" then u else if z = Str.ofString "names" then some (Value.ref a) else if z = Str.ofString "way" then some (.str x tx) else if z = Str.ofString "names" then some (.ref a₀) else m z) = fun z => if z = Str.ofString "name" then u else if z = Str.ofString "names" then some (.ref a) else m z := by
      funext z
      by_cases h1 : z = Str.ofString "name"
      · rw [if_pos h1, if_pos h1]
      · by_cases h2 : z = Str.ofString "names"
        · rw [if_neg h1, if_neg h1, if_pos h2, if_pos h2]
        · by_cases h3 : z = Str.ofString "way"
          · simp only [if_neg h1, if_neg h2, if_pos h3]
            rw [h3, hw]
          · simp only [if_neg h1, if_neg h2, if_neg h3]
    rw [e] at F; exact F
  clear F₀ hw hn
  unfold plScope plFor
  dsimp only
  w_on
  (try k_fold)
  with_reducible rename Fr _ _ _ _ => F0
  with_unfolding_all refine For_invVF F0 rfl rfl ?_
  k_steps
  refine Stop.go ?_
  (rename List.map _ _ = Txt.split _ _ => hsp)
  rename List (Str × Tok) => l9
  (try clear F0)
  with_reducible rename Fr _ _ _ _ => F0
  with_reducible rename News _ _ _ _ => N0
  refine' loop_listN (vs := strValues l9) (nn := 0) (Str.ofString "names") PSt.a (fun c => [(c.a, listOf c.vs.toArray c.n), (_, listOf (strValues l9).toArray 0)]) (fun i c => StrsAre c.vs (((Txt.split x (Str.ofString "/")).take i).foldl placeStep (placeInit x)) ∧ c.vs.length ≤ i + 1) ⟨_, _, _⟩ rfl (fun c => .tail _ (.head _)) F0 ?hy0 ?hN0 ?hP0 ?turn0 ?done0
  case hy0 => with_unfolding_all exact rfl
  case hN0 => exact cb_drop N0 (by kcj_all)
  case hP0 => exact ⟨hi0, by show vs₀.length ≤ 0 + 1; omega⟩
  case turn0 =>
    intro i v c h2 tk2 I oI hcI hi hoff hP F2 N2
    obtain ⟨y9, t9, rfl, hy9, hy8⟩ := strVal_at hsp hi
    have hy7 := List.mem_of_getElem? hy9
    rw [← hsp] at hy7
    have hlen : y9.length ≤ 1000 := by
      rename (∀ a, a ∈ List.map _ _ → _) => hall
      have := hall _ hy7
      omega
    obtain ⟨a, vs, n⟩ := c
    obtain ⟨hP, hP2⟩ := hP
    dsimp only at hP hP2 N2 F2 hoff
    have hcl : vs.length ≤ 3000 := by
      have e1 : i < (strValues l9).length := (List.getElem?_eq_some_iff.mp hi).1
      have e2 : (strValues l9).length = (Txt.split x (Str.ofString "/")).length := by rw [← hsp]; simp [strValues]
      have e3 := split_le x (Str.ofString "/")
      omega
    simp only [List.cons_append, List.nil_append] at N2
    have hnext : ∀ vs' : List Value, StrsAre vs' (placeStep (List.foldl placeStep (placeInit x) (List.take i (Txt.split x (Str.ofString "/")))) y9) → StrsAre vs' (List.foldl placeStep (placeInit x) (List.take (i + 1) (Txt.split x (Str.ofString "/")))) := fun vs' h => by
      rw [hy8, List.foldl_append]; exact h
    generalize hacc : List.foldl placeStep (placeInit x) (List.take i (Txt.split x (Str.ofString "/"))) = acc at hP hnext
    clear hsp hi hy9 hy8 hy7 hacc F0 N0
    (try k_fold)
    k_steps
    · skip
      with_reducible rename News _ _ _ _ => N9
      with_reducible rename Fr _ _ _ _ => F9
      (try dsimp only at N9)
      (try dsimp only at F9)
      (try rw [pick_init] at N9)
      refine endM_in ⟨_, vs.dropLast, 0⟩ F9 N9 ?_ ?_ ?_ (end_hm rfl ?_) ?_
      · kstt_sub
      · k_mem
      · intro p hp
        rcases List.mem_cons.mp hp with rfl | hp
        · exact list_ne N9 (by k_mem) (by k_mem) hcI
        · exact hoff p (.tail _ hp)
      · intro z z1 z2
        simp only [if_neg z1, if_neg z2]
      · exact ⟨hnext _ (by unfold placeStep; simp only [*, cond_true]; exact strs_init hP), by show vs.dropLast.length ≤ _; rw [List.length_dropLast]; omega⟩
    · skip
      with_reducible rename News _ _ _ _ => N9
      with_reducible rename Fr _ _ _ _ => F9
      (try dsimp only at N9)
      (try dsimp only at F9)
      (try rw [pick_init] at N9)
      refine endM_in ⟨_, vs ++ [.str y9 t9], 0⟩ F9 N9 ?_ ?_ ?_ (end_hm rfl ?_) ?_
      · kstt_sub
      · k_mem
      · intro p hp
        rcases List.mem_cons.mp hp with rfl | hp
        · exact list_ne N9 (by k_mem) (by k_mem) hcI
        · exact hoff p (.tail _ hp)
      · intro z z1 z2
        simp only [if_neg z1, if_neg z2]
      · exact ⟨hnext _ (by unfold placeStep; simp only [*, cond_true, cond_false]; exact strs_snoc' (by assumption)), by show (vs ++ [_]).length ≤ _; rw [List.length_append]; simp; omega⟩
    · skip
      with_reducible rename News _ _ _ _ => N9
      with_reducible rename Fr _ _ _ _ => F9
      (try dsimp only at N9)
      (try dsimp only at F9)
      (try rw [pick_init] at N9)
      refine endM_in ⟨_, vs, n⟩ F9 N9 ?_ ?_ ?_ (end_hm rfl ?_) ?_
      · kstt_sub
      · k_mem
      · intro p hp
        rcases List.mem_cons.mp hp with rfl | hp
        · exact list_ne N9 (by k_mem) (by k_mem) hcI
        · exact hoff p (.tail _ hp)
      · intro z z1 z2
        simp only [if_neg z1, if_neg z2]
      · exact ⟨hnext _ (by unfold placeStep; simp only [*, cond_false] <;> exact hP), by show vs.length ≤ _; omega⟩
  case done0 =>
    intro c u h2 tk2 hP F2 N2
    have eL : (strValues l9).length = (Txt.split x (Str.ofString "/")).length := by rw [← hsp]; simp [strValues]
    obtain ⟨hP, hP2⟩ := hP
    rw [eL, List.take_length] at hP
    obtain ⟨a, vs, n⟩ := c
    dsimp only at hP N2 F2
    exact h u a vs n _ _ hP (hback F2) (fun p hp => N2 p (by rw [List.mem_singleton.mp hp]; exact .head _))
theorem con_place (x : Str) (t : Tok) (hx : x.length ≤ 1000) : Con 2 201 [.str x t] (fun t => .str (placeOf x) t) := by
  w_on
  refine' con_P (D := 1) ?ho ?hcd ?hb ?hl ?c1 ?c2 ?c3 ?c4 ?_
  case ho => intro P; exact rfl
  case hcd => intro P; exact rfl
  case hb => exact rfl
  case hl => exact locs rfl
  case c1 => exact rfl
  case c2 => exact rfl
  case c3 => exact rfl
  case c4 => decide
  k_fill
  intro w mean mg mb dp un gd outer A₀ base g h₁ L' s tk B' F' N' X' T' hd hu
  (try k_fold)
  k_steps
  all_goals (
    refine Stop.go ?_
    with_reducible rename Fr _ _ _ _ => F0
    with_reducible rename News _ _ _ _ => N0
    refine place_for (s := ⟨_, _, _, _, _⟩) (vs₀ := ?_) hx B' F0 rfl rfl (fun p hp => N0 p (by rw [List.mem_singleton.mp hp]; k_mem)) X' T' hd hu ?_ ?_ ?_
    · show StrsAre _ (placeInit x)
      unfold placeInit
      simp only [*, cond_true, cond_false]
      first | exact .nil | exact .cons _ _ .nil
    · exact Nat.le_of_ble_eq_true rfl
    clear F0 N0
    intro u a vs n h2 tk2 hP F2 N2
    have hw : (((Txt.split x (Str.ofString "/")).foldl placeStep (placeInit x)).map (·.length)).sum + ((Txt.split x (Str.ofString "/")).foldl placeStep (placeInit x)).length ≤ 2000 := by
      have e1 := weighP_fold (Txt.split x (Str.ofString "/")) (placeInit x)
      have e2 := split_weight x (Str.ofString "/") (by decide +kernel)
      have e3 : weighQ (placeInit x) ≤ 2 := by unfold placeInit; cases (Txt.slice x none (some 1) == Str.ofString "/") <;> decide +kernel
      unfold weighQ at e1 e3
      omega
    generalize hacc : (Txt.split x (Str.ofString "/")).foldl placeStep (placeInit x) = acc at hP hw ⊢
    (try k_fold)
    k_steps
    with_reducible rename News _ _ _ _ => N9
    refine join_listW (N9.isList (by k_mem)) hP (by decide +kernel) (by omega) ?_
    intro t9 k9
    have hj : (Txt.join (Str.ofString "/") acc).length ≤ 4000 := by
      have e1 : (Txt.join (Str.ofString "/") acc).length ≤ (acc.map (·.length)).sum + acc.length * (Str.ofString "/").length := by
        show (Builtin.Str.glued _ _).length ≤ _
        rw [StrLaws.glued_eq_join]
        exact StrLaws.join_length_le _ _
      have e2 : (Str.ofString "/").length = 1 := by decide +kernel
      rw [e2] at e1
      omega
    (try dsimp only)
    (try k_fold)
    k_steps
    refine ret_in (by assumption) _ (congr (congrArg Value.str ?_) rfl)
    unfold placeOf placeRoot
    rw [hacc]
    simp only [*, cond_true, cond_false, Bool.and_true, Bool.and_false, Bool.true_and, Bool.false_and, Bool.and_self])
end
end Mine
namespace Mine
section
open PySem PySem.W PyProof.Rows PySem.Calls PyProof
set_option maxRecDepth 100000
set_option maxHeartbeats 8000000
theorem fmod6 {n : Nat} (x : Int) (h : n = 6) : x.fmod 6 < (n : Int) := by
  subst h
  exact Int.fmod_lt_of_pos x (by decide)
def menuW : List Str := [Str.ofString "a", Str.ofString "b c", Str.ofString "..", Str.ofString "", Str.ofString "é", Str.ofString "a€"]
def menuAt (x : Int) (d : Nat) : Str := menuW.getD (((x.fdiv 2).fdiv (6 ^ d)).fmod 6).toNat Str.empty
def wayOf (x : Int) : Str := Txt.join (Str.ofString "/") [menuAt x 0, menuAt x 1, menuAt x 2]
theorem getD_len {n : Nat} : ∀ (l : List Str) (i : Nat), (∀ y ∈ l, y.length ≤ n) → (l.getD i Str.empty).length ≤ n
  | [], _, _ => Nat.zero_le _
  | _ :: _, 0, h => h _ (.head _)
  | _ :: l, i + 1, h => getD_len l i fun y hy => h y (.tail _ hy)
theorem menuAt_len (x : Int) (d : Nat) : (menuAt x d).length ≤ 3 := getD_len _ _ (by decide +kernel)
theorem menu_sum (x : Int) : ([menuAt x 0, menuAt x 1, menuAt x 2].map (·.length)).sum + [menuAt x 0, menuAt x 1, menuAt x 2].length ≤ 1048576 := by
  have h0 := menuAt_len x 0
  have h1 := menuAt_len x 1
  have h2 := menuAt_len x 2
  simp only [List.map_cons, List.map_nil, List.sum_cons, List.sum_nil, List.length_cons, List.length_nil]
  omega
local macro_rules | `(tactic| walk_at "exec For Name Call cons nil") => `(tactic| refine stop ?_)
local macro_rules | `(tactic| walk_at "exec For Name Name cons nil") => `(tactic| refine stop ?_)
local macro_rules | `(tactic| walk_at "exec For Name BinOp cons nil") => `(tactic| refine stop ?_)
local macro_rules | `(tactic| walk_at "InvEndN") => `(tactic| refine stop ?_)
local macro_rules | `(tactic| walk_at "call builtin:list.append") => `(tactic| refine stop ?_)
local macro_rules | `(tactic| walk_at "call builtin:list.pop") => `(tactic| refine stop ?_)
local macro_rules | `(tactic| walk_at "call builtin:list.extend") => `(tactic| refine stop ?_)
local macro_rules | `(tactic| walk_at "subscriptTail Name UnaryOp ref int") => `(tactic| refine stop ?_)
local macro_rules | `(tactic| walk_at "pyIter ref") => `(tactic| refine stop ?_)
local macro_rules | `(tactic| walk_at "pyIter str") => `(tactic| refine stop ?_)
local macro_rules | `(tactic| walk_at "eval ListComp") => `(tactic| (k_here; lcf_look; lcg_calm; k_dflt (refine LCg.ListComp_U (F₀ := by k_asm) (by with_unfolding_all rfl) (by decide) (by rfl) (by decide) (by rfl) ?_); k_dflt lcg_toSrc))
local macro_rules | `(tactic| walk_at "CompSrc") => `(tactic| (k_here; k_dflt (refine LCg.CompSrc.range (by rfl) (by k_asm) (by k_asm) (by assumption) (by first | decide | rfl) (by first | rfl | decide) (by first | size_fits | exact Nat.le_of_ble_eq_true rfl) ?_; intro g'; lcg_lit)))
local macro_rules | `(tactic| walk_at "CompRest") => `(tactic| (with_unfolding_all first
  | (refine LCg.CompRest.succ ?_; intro v' I' oI' C' oC' D' m' h' tk' E' hv' hC' hx' F' N' off' ne'; (first | lcg_open hv' | (obtain ⟨t9', hv9'⟩ := hv'; subst hv9')); (try simp only [LCg.Off3, and_true] at off'))
  | refine LCg.CompRest.zero ?_))
local macro_rules | `(tactic| walk_at "CompEnd") => `(tactic| lcg_end)
local macro_rules | `(tactic| walk_at "subscriptTail Name BinOp ref int") => `(tactic| (k_dflt (refine' KTb.item_list ?hl ?hw ?h0 ?h1 ?hf ?_; (case hl => exact (News.isList (by k_asm) (by k_mem))); (case hw => exact (.cons _ _ (.cons _ _ (.cons _ _ (.cons _ _ (.cons _ _ (.cons _ _ .nil))))))); (case h0 => exact Int.fmod_nonneg_of_pos _ (by decide)); (case h1 => exact fmod6 _ rfl); (case hf => exact Int.lt_trans (Int.fmod_lt_of_pos _ (by decide : (0 : Int) < 6)) (by decide))); intro t9 hk9; clear hk9))
local macro_rules | `(tactic| walk_at "call builtin:str.join") => `(tactic| refine stop ?_)
theorem con_way (x : Int) (t : Tok) : Con 2 182 [.int x t] (fun t => .str (wayOf x) t) := by
  w_on
  refine' con_C (D := 1) ?ho ?hcd ?hb ?hl ?hnd ?c1 ?c2 ?c3 ?_
  case ho => intro P; exact rfl
  case hcd => intro P; exact rfl
  case hb => exact rfl
  case hl => exact rfl
  case hnd => decide +kernel
  case c1 => exact rfl
  case c2 => exact rfl
  case c3 => exact rfl
  k_fill
  intro w mean mg mb dp un gd outer A₀ base g h₁ L' s tk cells' B' F' N' Y' X' T' hd hu
  k_cells Y'
  (try simp only [List.cons_append, List.nil_append, List.append_nil] at N')
  (try k_fold)
  k_steps
  refine Stop.go ?_
  with_reducible rename News _ _ _ _ => N9
  refine join_listW (ys := [menuAt x 0, menuAt x 1, menuAt x 2]) (N9.isList (by k_mem)) (.cons _ _ (.cons _ _ (.cons _ _ .nil))) (by decide +kernel) (menu_sum x) ?_
  intro t9 k9
  (try dsimp only)
  (try k_fold)
  k_steps
  exact ret_in (by assumption) _ rfl
end
end Mine
namespace Mine
section
open PySem PySem.W PyProof.Rows PySem.Calls PyProof
set_option maxRecDepth 100000
set_option maxHeartbeats 8000000
local macro_rules | `(tactic| walk_at "exec For Name Call cons nil") => `(tactic| refine stop ?_)
local macro_rules | `(tactic| walk_at "exec For Name Name cons nil") => `(tactic| refine stop ?_)
local macro_rules | `(tactic| walk_at "exec For Name BinOp cons nil") => `(tactic| refine stop ?_)
local macro_rules | `(tactic| walk_at "InvEndN") => `(tactic| refine stop ?_)
local macro_rules | `(tactic| walk_at "call builtin:list.append") => `(tactic| refine stop ?_)
local macro_rules | `(tactic| walk_at "call builtin:list.pop") => `(tactic| refine stop ?_)
local macro_rules | `(tactic| walk_at "call builtin:list.extend") => `(tactic| refine stop ?_)
local macro_rules | `(tactic| walk_at "subscriptTail Name UnaryOp ref int") => `(tactic| refine stop ?_)
local macro_rules | `(tactic| walk_at "pyIter ref") => `(tactic| refine stop ?_)
local macro_rules | `(tactic| walk_at "pyIter str") => `(tactic| refine stop ?_)
local macro_rules | `(tactic| walk_at "call builtin:list.extend") => `(tactic| refine stop ?_)
local macro_rules | `(tactic| walk_at "call type:bytes") => `(tactic| refine stop ?_)
local macro_rules | `(tactic| walk_at "tape extend") => `(tactic| (k_dflt (refine' kl_extend (l := _ ++ [_, _]) (by k_asm) (by k_asm) ?b rfl ?ne ?U ?d ?z ?y ?_; (case b => k_mem); (case ne => exact Nat.succ_ne_zero _); (case U => k_upd); (case d => (intro q9; rw [Bool.and_eq_true] at q9; exact absurd q9.2 (by unfold Builtin.List.listTooLong; simp [sizeLine_eq]; omega))); (case z => (rw [sizeLine_eq, List.toList_toArray]; omega)); (case y => (rw [sizeLine_eq, List.size_toArray, List.size_toArray]; show _ + 2 ≤ _; omega)); (intro h9 F9 N9; (try dsimp only); (try k_fold)))))
local macro_rules | `(tactic| walk_at "tape end") => `(tactic| (refine mid_end ⟨_, _, some _⟩ (by k_asm) (by k_asm) (by kstt_sub) (by kstt_sub) rfl (end_hm rfl (by intro z z1 z2; simp only [if_neg z1, if_neg z2])) ?_))
structure TSt where
  vs : List Value
  n : Nat
  pr : Option Value
def octOf (low : Bool) (k : Nat) : List Int := cond low [((k : Nat) : Int).fmod 256, ((k : Nat) : Int).fdiv 256] [((k : Nat) : Int).fdiv 256, ((k : Nat) : Int).fmod 256]
def octsOf (low : Bool) (l : List Nat) : List Int := l.flatMap (octOf low)
theorem octs_snoc {low : Bool} {l : List Nat} {k : Nat} {i : Nat} (h : l[i]? = some k) : octsOf low (l.take (i + 1)) = octsOf low (l.take i) ++ octOf low k := by
  unfold octsOf
  rw [List.take_add_one, h]
  simp [List.flatMap_append]
theorem oct_low {low : Bool} {k : Nat} (h : low = true) : octOf low k = [((k : Nat) : Int).fmod 256, ((k : Nat) : Int).fdiv 256] := by rw [h]; rfl
theorem oct_high {low : Bool} {k : Nat} (h : low = false) : octOf low k = [((k : Nat) : Int).fdiv 256, ((k : Nat) : Int).fmod 256] := by rw [h]; rfl
theorem ints_app {vs us : List Value} {ns ms : List Int} (h : IntsAre vs ns) (h' : IntsAre us ms) : IntsAre (vs ++ us) (ns ++ ms) := by
  induction h with
  | nil => exact h'
  | cons a t _ ih => exact .cons a t ih
theorem oct_byte {low : Bool} {k : Nat} (h : k < 65536) : ∀ n ∈ octOf low k, 0 ≤ n ∧ n < 256 := by
  have e1 : ((k : Nat) : Int).fdiv 256 = ((k / 256 : Nat) : Int) := by rw [Int.fdiv_eq_ediv_of_nonneg _ (by decide)]; rfl
  have e2 : ((k : Nat) : Int).fmod 256 = ((k % 256 : Nat) : Int) := by rw [Int.fmod_eq_emod_of_nonneg _ (by decide)]; rfl
  intro n hn
  cases low
  · rcases List.mem_cons.mp hn with rfl | hn
    · rw [e1]; omega
    · rw [List.mem_singleton.mp hn, e2]; omega
  · rcases List.mem_cons.mp hn with rfl | hn
    · rw [e2]; omega
    · rw [List.mem_singleton.mp hn, e1]; omega
theorem octs_byte {low : Bool} {l : List Nat} (h : ∀ k ∈ l, k < 65536) : ∀ n ∈ octsOf low l, 0 ≤ n ∧ n < 256 := by
  intro n hn
  obtain ⟨k, hk, hn⟩ := List.mem_flatMap.mp hn
  exact oct_byte (h k hk) n hn
def tapeOf (way : Str) (low : Bool) : Array UInt8 := byteArr (octsOf low (Str.ofString "\uFEFF" ++ way).cps.toList)
theorem con_tape (way : Str) (low : Bool) (t : Tok) (hw : way.length ≤ 1000) (hk : ∀ k ∈ (Str.ofString "\uFEFF" ++ way).cps.toList, k < 65536) : Con 2 189 [.str way t, .bool low] (fun t => .bytes (tapeOf way low) t) := by
  w_on
  refine' con_P (D := 1) ?ho ?hcd ?hb ?hl ?c1 ?c2 ?c3 ?c4 ?_
  case ho => intro P; exact rfl
  case hcd => intro P; exact rfl
  case hb => exact rfl
  case hl => exact locs rfl
  case c1 => exact rfl
  case c2 => exact rfl
  case c3 => exact rfl
  case c4 => decide
  k_fill
  intro w mean mg mb dp un gd outer A₀ base g h₁ L' s tk B' F' N' X' T' hd hu
  (try k_fold)
  k_steps
  refine Stop.go ?_
  with_reducible rename Fr _ _ _ _ => F0
  with_unfolding_all refine For_invVF F0 rfl rfl ?_
  k_steps
  refine Stop.go ?_
  with_reducible rename News _ _ _ _ => N0
  refine' loop_strN (σ := TSt) (Str.ofString "pair") TSt.pr (fun c => [(_, listOf c.vs.toArray c.n)]) (fun i c => IntsAre c.vs (octsOf low ((Str.ofString "\uFEFF" ++ way).cps.toList.take i)) ∧ c.vs.length = 2 * i) ⟨[], 0, none⟩ rfl F0 ?hy N0 ⟨.nil, rfl⟩ ?_ ?_
  case hy => with_unfolding_all exact rfl
  · intro i k t c h2 tk2 own hi hoff hP F2 N2
    have hk1 : k < 65536 := hk k (by have := Array.mem_of_getElem? hi; exact Array.mem_def.mp this)
    have hi2 : i < (Str.ofString "\uFEFF" ++ way).cps.size := (Array.getElem?_eq_some_iff.mp hi).1
    have hi3 : (Str.ofString "\uFEFF" ++ way).cps.size = 1 + way.length := by
      show ((Str.ofString "\uFEFF").cps ++ way.cps).size = _
      rw [Array.size_append]; rfl
    obtain ⟨vs, n, pr⟩ := c
    obtain ⟨hP, hP2⟩ := hP
    dsimp only at hP hP2 N2 F2
    have hcl : vs.length ≤ 3000 := by omega
    simp only [List.cons_append, List.nil_append] at N2
    have hnext : ∀ vs' : List Value, IntsAre vs' (octsOf low ((Str.ofString "\uFEFF" ++ way).cps.toList.take i) ++ octOf low k) → IntsAre vs' (octsOf low ((Str.ofString "\uFEFF" ++ way).cps.toList.take (i + 1))) := fun vs' h => by
      rw [octs_snoc (by rw [Array.getElem?_toList]; exact hi)]; exact h
    generalize hacc : octsOf low ((Str.ofString "\uFEFF" ++ way).cps.toList.take i) = acc at hP hnext
    clear F0 N0 hi hk hacc
    (try k_fold)
    k_steps
    all_goals refine Stop.go ?_
    all_goals with_reducible rename News _ _ _ _ => N9
    all_goals with_reducible rename Fr _ _ _ _ => F9
    all_goals (try dsimp only at N9)
    all_goals (try dsimp only at F9)
    all_goals walk_at "tape extend"
    all_goals k_steps
    all_goals refine Stop.go ?_
    all_goals refine mid_end ⟨vs ++ [_, _], n + 1, some _⟩ (by k_asm) (by k_asm) (List.forall_mem_singleton.mpr (by k_mem)) (by kstt_sub) rfl (end_hm rfl (by intro z z1 z2; simp only [if_neg z1, if_neg z2])) ?_
    · exact ⟨hnext _ (by rw [oct_low (by assumption)]; exact ints_app hP (.cons _ _ (.cons _ _ .nil))), by show (vs ++ [_, _]).length = _; rw [List.length_append, hP2]; rfl⟩
    · exact ⟨hnext _ (by rw [oct_high (by assumption)]; exact ints_app hP (.cons _ _ (.cons _ _ .nil))), by show (vs ++ [_, _]).length = _; rw [List.length_append, hP2]; rfl⟩
  · intro c u h2 tk2 hP F2 N2
    have hi3 : (Str.ofString "\uFEFF" ++ way).cps.size = 1 + way.length := by
      show ((Str.ofString "\uFEFF").cps ++ way.cps).size = _
      rw [Array.size_append]; rfl
    obtain ⟨vs, n, pr⟩ := c
    obtain ⟨hP, hP2⟩ := hP
    dsimp only at hP hP2 N2 F2
    have hP : IntsAre vs (octsOf low (Str.ofString "\uFEFF" ++ way).cps.toList) :=
      (congrArg (fun l => IntsAre vs (octsOf low l)) (List.take_of_length_le (Nat.le_of_eq (by rw [Array.length_toList])) : List.take (Str.ofString "\uFEFF" ++ way).cps.size (Str.ofString "\uFEFF" ++ way).cps.toList = _)).mp hP
    have hP2 : vs.length = 2 * (Str.ofString "\uFEFF" ++ way).cps.size := hP2
    have hcl : vs.length ≤ 3000 := by omega
    have hr := octs_byte (low := low) hk
    clear F0 N0
    (try k_fold)
    k_steps
    refine Stop.go ?_
    with_reducible rename News _ _ _ _ => N9
    with_reducible rename Fr _ _ _ _ => F9
    k_dflt (refine' bytes_K F9 N9 (N9.isList (by k_mem)) hP hr ?z9 rfl ?_)
    case z9 => rw [sizeLine_eq]; omega
    intro h' t' k' F' N' hB'
    clear hB'
    (try dsimp only)
    (try k_fold)
    k_steps
    exact ret_in (by assumption) _ rfl
end
end Mine
namespace Mine
section
open PySem PySem.W PyProof.Rows PySem.Calls PyProof
set_option maxRecDepth 100000
set_option maxHeartbeats 8000000
local macro_rules | `(tactic| walk_at "exec For Name Call cons nil") => `(tactic| refine stop ?_)
local macro_rules | `(tactic| walk_at "exec For Name Name cons nil") => `(tactic| refine stop ?_)
local macro_rules | `(tactic| walk_at "exec For Name BinOp cons nil") => `(tactic| refine stop ?_)
local macro_rules | `(tactic| walk_at "InvEndN") => `(tactic| refine stop ?_)
local macro_rules | `(tactic| walk_at "call builtin:list.append") => `(tactic| refine stop ?_)
local macro_rules | `(tactic| walk_at "call builtin:list.pop") => `(tactic| refine stop ?_)
local macro_rules | `(tactic| walk_at "call builtin:list.extend") => `(tactic| refine stop ?_)
local macro_rules | `(tactic| walk_at "subscriptTail Name UnaryOp ref int") => `(tactic| refine stop ?_)
local macro_rules | `(tactic| walk_at "pyIter ref") => `(tactic| refine stop ?_)
local macro_rules | `(tactic| walk_at "pyIter str") => `(tactic| refine stop ?_)
theorem con_swap (b : Array UInt8) (wd n : Nat) (t u : Tok) (hz : b.size ≤ 3000) (hn : b.size = n * wd) (hw : 1 ≤ wd) (hw2 : wd ≤ 3000) : ConS 2 45 [.bytes b t, .int (wd : Int) u] (fun t => .bytes (swOut b wd n) t) := by
  have hw0 : (wd : Int) ≠ 0 := by omega
  w_on
  refine' con_PS (D := 1) ?ho ?hcd ?hb ?hl ?c1 ?c2 ?c3 ?c4 ?_
  case ho => intro P; exact rfl
  case hcd => intro P; exact rfl
  case hb => exact rfl
  case hl => exact locs rfl
  case c1 => exact rfl
  case c2 => exact rfl
  case c3 => exact rfl
  case c4 => decide
  k_fill
  intro w mean mg mb dp un gd outer A₀ base g h₁ L' s tk B' F' N' X' T' hd hu
  (try k_fold)
  refine wpS_execs_cons (wpS_Assign_Name (wpS_Call_Name (wpS_of ?_)))
  k_steps
  refine wpS_callWith_typeE ?_
  k_steps
  refine ba_call _ _ (by omega) (by omega) ?_
  intro h2 k2 e2 _
  with_reducible rename Fr _ _ _ _ => F0
  with_reducible rename News _ _ _ _ => N0
  dsimp only at k2 e2
  have F2 := F0.keeps k2
  have N2 := news_add F0 (back_news N0 k2) (get?_top _) e2
  clear k2 e2
  clear F0 N0
  refine wpS_of ?_
  (try dsimp only)
  (try k_fold)
  k_steps
  refine wpS_of ?_
  k_steps
  refine Stop.go ?_
  with_reducible rename Fr _ _ _ _ => F0
  with_unfolding_all refine For_invVF F0 rfl rfl ?_
  k_steps
  refine Stop.go ?_
  (try clear F0)
  with_reducible rename Fr _ _ _ _ => F0
  with_reducible rename News _ _ _ _ => N0
  with_reducible rename IsRange _ _ _ _ _ _ _ _ => R0
  refine' loop_rangeN (σ := Array UInt8 × Option Value) (n := n) (Str.ofString "j") (fun c => c.2) (fun c => [(_, { cls := .type "bytearray", data := .bytearray c.1 })]) (fun i c => c.1 = swOut b wd i) (Array.replicate b.size 0, none) rfl R0 (sw_small hw hn hz hw2) (sw_range hw hn) F0 ?hy0 N0 rfl ?turn0 ?done0
  case hy0 => with_unfolding_all exact rfl
  case turn0 =>
    intro i ti c h3 tk3 own hi hoff hP F3 N3
    obtain ⟨c, pr⟩ := c
    dsimp only at hP N3 F3
    clear F0 N0 R0
    simp only [List.cons_append] at N3
    (try k_fold)
    k_steps
    refine Stop.go ?_
    with_reducible rename Fr _ _ _ _ => F0
    with_unfolding_all refine For_invVF F0 rfl rfl ?_
    k_steps
    refine Stop.go ?_
    (try clear F0)
    with_reducible rename Fr _ _ _ _ => F0
    with_reducible rename News _ _ _ _ => N0
    with_reducible rename IsRange _ _ _ _ _ _ _ _ => R0
    refine' loop_rangeC (σ := Array UInt8) (n := wd) (fun c => (_, { cls := .type "bytearray", data := .bytearray c }) :: own) (fun j d => d = swIn b wd i c j) c rfl R0 (small_one (by omega) (by omega) (by omega) (by omega)) (sw_range (wd := 1) (Nat.le_refl _) (Nat.mul_one _).symm) F0 N0 rfl ?turn1 ?done1
    case turn1 =>
      intro j tj d h4 tk4 own4 hj hoff4 hP4 F4 N4
      have hds : d.size = b.size := by rw [show d = _ from hP4, swIn_size, hP, swOut_size]
      have hnext : d.setIfInBounds (i * wd + wd - 1 - j) (b.getD (i * wd + j) 0) = swIn b wd i c (j + 1) := by rw [swIn_succ, show d = _ from hP4]
      have hpb : i * wd + wd ≤ b.size := by rw [hn, ← Nat.succ_mul]; exact Nat.mul_le_mul_right _ hi
      have hpc : (0 + (i : Int) * (wd : Int)) = ((i * wd : Nat) : Int) := by push_cast; omega
      rw [hpc] at F4
      clear hP hP4 F0 N0 R0
      simp only [List.cons_append, List.nil_append] at N4
      generalize i * wd = p at *
      (try k_fold)
      k_steps
      refine by_item (p + j) (by omega) (by omega) (by omega) ?_
      (try dsimp only)
      k_steps
      with_reducible rename Fr _ _ _ _ => F9
      with_reducible rename News _ _ _ _ => N9
      refine ba_setItem (N9 _ (.head _)).1 (by omega) (by omega) (by omega) (by omega) (by have := (b.getD (p + j) 0).toNat_lt; omega) ?_
      intro h6 k6 e6
      have e7 : ((p : Int) + (wd : Int) - 1 - (0 + (j : Int) * 1)).toNat = p + wd - 1 - j := by omega
      have e8 : ((b.getD (p + j) 0).toNat : Int).toNat.toUInt8 = b.getD (p + j) 0 := by simp
      rw [e7, e8, hnext] at e6
      have hap : ∀ q ∈ own ++ own4, q.1 ≠ h₁.objs.size := by
        intro q hq
        rcases List.mem_append.mp hq with hq | hq
        · exact hoff q hq _ (.head _)
        · exact hoff4 q hq _ (.head _)
      have F6 := fr_one F9 k6 (N9 _ (.head _)).2.1 (N9 _ (.head _)).2.2
      have N6 := news_one N9 hap k6 e6
      clear N9 F9 k6 e6
      (try dsimp only)
      (try k_fold)
      k_steps
      refine Stop.go ?_
      refine mid_end (swIn b wd i c (j + 1)) (by k_asm) (by k_asm) (by kstt_sub) (by kstt_sub) rfl ?_ rfl
      intro z z1
      simp only [if_neg z1, hpc]
    case done1 =>
      intro d u1 h4 tk4 hP4 F4 N4
      obtain rfl : d = swOut b wd (i + 1) := by rw [swOut_succ, ← hP]; exact hP4
      k_steps
      refine Stop.go ?_
      refine mid_end (swOut b wd (i + 1), u1) (by k_asm) (by k_asm) (by kstt_sub) (by kstt_sub) rfl ?_ rfl
      intro z z1
      by_cases z2 : z = Str.ofString "j"
      · simp only [if_pos z2]
      · simp only [if_neg z1, if_neg z2]
  case done0 =>
    intro c u h3 tk3 hP F3 N3
    obtain ⟨c, pr⟩ := c
    dsimp only at hP N3 F3
    have hP : c = swOut b wd n := hP
    clear F0 N0 R0
    (try k_fold)
    k_steps
    refine ba_bytes rfl (N3 _ (.head _)).1 ?_ ?_
    · rw [sizeLine_eq, hP, swOut_size]; omega
    intro t4 k4
    (try dsimp only)
    (try k_fold)
    k_steps
    subst hP
    exact ret_in (by assumption) _ rfl
end
end Mine
namespace Mine
section
open PySem PySem.W PyProof.Rows PySem.Calls PyProof
set_option maxRecDepth 100000
set_option maxHeartbeats 8000000
local macro_rules | `(tactic| walk_at "exec For Name Call cons nil") => `(tactic| refine stop ?_)
local macro_rules | `(tactic| walk_at "exec For Name Name cons nil") => `(tactic| refine stop ?_)
local macro_rules | `(tactic| walk_at "exec For Name BinOp cons nil") => `(tactic| refine stop ?_)
local macro_rules | `(tactic| walk_at "InvEndN") => `(tactic| refine stop ?_)
local macro_rules | `(tactic| walk_at "call builtin:list.append") => `(tactic| refine stop ?_)
local macro_rules | `(tactic| walk_at "call builtin:list.pop") => `(tactic| refine stop ?_)
local macro_rules | `(tactic| walk_at "call builtin:list.extend") => `(tactic| refine stop ?_)
local macro_rules | `(tactic| walk_at "subscriptTail Name UnaryOp ref int") => `(tactic| refine stop ?_)
local macro_rules | `(tactic| walk_at "pyIter ref") => `(tactic| refine stop ?_)
local macro_rules | `(tactic| walk_at "pyIter str") => `(tactic| refine stop ?_)
local macro_rules | `(tactic| walk_at "exec Assign cons ListComp") => `(tactic| refine stop ?_)
theorem step_range {n z : Nat} (hz : z = n * 2) (h1 : 1 ≤ n) : Builtin.Range.rangeSize 2 (z : Int) 2 = ((n - 1 : Nat) : Int) := by
  unfold Builtin.Range.rangeSize
  rw [if_pos (by decide)]
  by_cases h : (2 : Int) < z
  · rw [if_pos h]; omega
  · rw [if_neg h]; omega
theorem small_gen {a b c N : Int} (hN : Builtin.Range.rangeSize a b c = N) (hc : 0 < c) (ha : -1000000 ≤ a ∧ a ≤ 1000000) (hb : -1000000 ≤ b ∧ b ≤ 1000000) (hc2 : c ≤ 1000000) (h1 : 0 ≤ N) (h2 : N ≤ 1000000) : Builtin.Range.small a b c = true := by
  unfold Builtin.Range.small
  rw [hN]
  simp only [Builtin.Range.rangeFitsLong, Bool.and_eq_true, Bool.or_eq_true, decide_eq_true_eq, beq_iff_eq]
  rw [if_pos hc]
  simp only [Bool.and_eq_true, decide_eq_true_eq]
  omega
theorem step_small {n z : Nat} (hz : z = n * 2) (h1 : 1 ≤ n) (hb : z ≤ 3000) : Builtin.Range.small 2 (z : Int) 2 = true :=
  small_gen (step_range hz h1) (by decide) (by omega) (by omega) (by decide) (by omega) (by omega)
def signAt (d : Array UInt8) (k : Nat) : Str := ⟨#[(d.getD k 0).toNat * 256 + (d.getD (k + 1) 0).toNat]⟩
def signKs (n : Nat) : List Int := (List.range (n - 1)).map fun (i : Nat) => 2 + (i : Int) * 2
theorem signKs_length (n : Nat) : (signKs n).length = n - 1 := by simp [signKs]
theorem signKs_at {n i : Nat} (h : i < n - 1) : (signKs n)[i]? = some (2 + (i : Int) * 2) := by simp [signKs, h]
theorem signKs_in {n : Nat} {k : Int} (h : k ∈ signKs n) : ∃ j : Nat, k = (j : Int) ∧ j + 1 < n * 2 := by
  simp only [signKs, List.mem_map, List.mem_range] at h
  obtain ⟨i, hi, rfl⟩ := h
  exact ⟨2 + i * 2, by push_cast; rfl, by omega⟩
def turnOf (tape : Array UInt8) (n : Nat) : Array UInt8 := cond ((KBy.picked tape none (some 2)).toList == [255, 254]) (swOut tape 2 n) tape
def readOf (d : Array UInt8) (n : Nat) : Str := Txt.join (Str.ofString "") ((signKs n).map fun k => signAt d k.toNat)
def tupOf (vs : List Value) : Obj := { cls := .type "tuple", data := .seq vs.toArray }
def ReadR (turned : Array UInt8) (read : Str) (h h' : Heap) (v : Value) : Prop := ∃ a t1 t2 n, v = .ref a ∧ h.get? a = none ∧ h'.get? a = some ({ cls := .type "tuple", data := .seq [Value.bytes turned t1, Value.str read t2].toArray n } : Obj)
def ReadMid (g : Heap) (L' : Addr) (m : Str → Option Value) (news : List (Addr × Obj)) (s : Shared) (x : Array UInt8) (v : Value) (s' : Shared) : Prop := ∃ t h tk, v = .bytes x t ∧ s' = { s with heap := h, toks := tk } ∧ Fr g L' h m ∧ News g L' h news
theorem read_cut {M : Model} {A : Around} {t : Sem Value} {Q E : Value → Shared → Prop} {s s₀ : Shared} {g h₀ : Heap} {L' : Addr} {m : Str → Option Value} {news : List (Addr × Obj)} {x : Array UInt8} (_F : Fr g L' h₀ m) (_N : News g L' h₀ news)
    (h1 : wpS M A t (ReadMid g L' m news s x) E s₀) (h2 : ∀ t h tk, Fr g L' h m → News g L' h news → Q (.bytes x t) { s with heap := h, toks := tk }) : wpS M A t Q E s₀ :=
  wpS_mono h1 (fun v s' h => by obtain ⟨t, h, tk, rfl, rfl, F, N⟩ := h; exact h2 t h tk F N) fun _ _ x => x
theorem con_read (tape : Array UInt8) (n : Nat) (t : Tok) (hz : tape.size ≤ 3000) (hn : tape.size = n * 2) (h1 : 1 ≤ n) : ConVS 3 194 [.bytes tape t] (ReadR (turnOf tape n) (readOf (turnOf tape n) n)) := by
  w_on
  refine' conV_CS (D := 2) ?ho ?hcd ?hb ?hl ?hnd ?c1 ?c2 ?c3 ?_
  case ho => intro P; exact rfl
  case hcd => intro P; exact rfl
  case hb => exact rfl
  case hl => exact rfl
  case hnd => decide +kernel
  case c1 => exact rfl
  case c2 => exact rfl
  case c3 => exact rfl
  k_fill
  intro w mean mg mb dp un gd outer A₀ base g h₁ L' s tk cells' B' F' N' Y' X' T' hd hu
  k_cells Y'
  (try simp only [List.cons_append, List.nil_append, List.append_nil] at N')
  (try k_fold)
  with_reducible rename Fr _ _ _ _ => Fa
  with_reducible rename News _ _ _ _ => Na
  refine wpS_execs_cons (wpS_Assign_Name (read_cut (s := s) (x := turnOf tape n) Fa Na (wpS_IfExp ?_) ?_))
  k_steps
  with_reducible rename Fr _ _ _ _ => F0
  with_reducible rename News _ _ _ _ => N0
  refine KBc.slice_K (s := ⟨_, _, _, _, _⟩) F0 N0 rfl (by constructor) (by constructor) (by rw [KBw.ints_length]; omega) ?_
  intro h2 t2 k2 F2 N2 e2
  clear e2 F0 N0
  (try dsimp only)
  (try k_fold)
  k_steps
  refine wpS_Call_Name (wpS_of ?_)
  k_steps
  refine wpS_callFn ?_
  k_steps
  · exact IsFn.of (s := ⟨_, _, _, _, _⟩) X' (by k_asm) (by exact rfl)
  with_reducible rename Fr _ _ _ _ => F0
  with_reducible rename News _ _ _ _ => N0
  refine' use_conS (con_swap tape 2 n _ _ hz hn (by decide) (by decide)) ?k1 ?k2 ?k3 ?k4 ?k5 ?kK ?kd ?ku ?kR
  case k1 => k_asm
  case k2 => k_asm
  case k3 => k_asm
  case k4 => k_asm
  case k5 => k_asm
  case kK => first | exact rfl | assumption
  case kd => ktr_room
  case ku => ktr_units
  intro t9 h9 tk9 F9 N9

  clear F0 N0
  (try dsimp only)
  · have hdt : swOut tape 2 n = turnOf tape n := by
      rename ((KBy.picked tape none (some 2)).toList == _) = true => hq
      have hq : ((KBy.picked tape none (some 2)).toList == [255, 254]) = true := hq
      unfold turnOf
      rw [hq]; rfl
    exact ⟨_, _, _, congrArg (fun d => Value.bytes d _) hdt, rfl, F9, fun p hp => N9 p (by rw [List.mem_singleton.mp hp]; k_mem)⟩
  · refine wpS_of ?_
    k_steps
    have hdt : tape = turnOf tape n := by
      rename ((KBy.picked tape none (some 2)).toList == _) = false => hq
      have hq : ((KBy.picked tape none (some 2)).toList == [255, 254]) = false := hq
      unfold turnOf
      rw [hq]; rfl
    with_reducible rename Fr _ _ _ _ => F9
    with_reducible rename News _ _ _ _ => N9
    exact ⟨_, _, _, congrArg (fun d => Value.bytes d _) hdt, rfl, F9, fun p hp => N9 p (by rw [List.mem_singleton.mp hp]; k_mem)⟩
  clear Fa Na

  have hds : (turnOf tape n).size = n * 2 := by
    unfold turnOf
    cases ((KBy.picked tape none (some 2)).toList == [255, 254])
    · exact hn
    · exact (swOut_size _ _ _).trans hn
  generalize turnOf tape n = d at *
  (try dsimp only)
  refine wpS_of ?_
  (try k_fold)
  k_steps
  refine wpS_of ?_
  k_steps
  refine Stop.go ?_
  with_reducible rename Fr _ _ _ _ => F0
  with_reducible rename News _ _ _ _ => N0
  refine comp_step 2 F0 (by rfl) (by with_unfolding_all rfl) (by with_unfolding_all rfl) (by decide) (by rfl) (by decide) (by rfl) (by rfl) (by rfl) ?_
  k_steps
  with_reducible rename News _ _ _ _ => N2
  with_reducible rename Fr _ _ _ _ => F2
  with_reducible rename IsRange _ _ _ _ _ _ _ _ => R2
  show StepSrc _ _ _ _ _ _ _ _ _ _ _ _ _ _ _ _
  refine ⟨_, _, _, _, _, _, n - 1, _, rfl, rfl, F2, N2, R2, step_small hds h1 (by omega), step_range hds h1, by rw [sizeLine_eq]; omega, ?_⟩
  rintro s₂ ⟨hh, rfl⟩
  refine kct_rest (ks := signKs n) (fun k => signAt d k.toNat) (signKs_length n) (fun i v hi hv => ?_) (fun k t I oI C oC D m₂ ys h tk E' hk hC hx F N off ne mk => ?_) ?_
  · obtain ⟨t, rfl⟩ := hv
    exact ⟨_, t, signKs_at hi, rfl⟩
  · obtain ⟨j, rfl, hj⟩ := signKs_in hk
    clear hk
    k_steps
    refine by_item j rfl (by omega) (by omega) ?_
    (try dsimp only)
    have hb1 := (d.getD j 0).toNat_lt
    have hb2 := (d.getD (j + 1) 0).toNat_lt
    have hg : signAt d ((j : Nat) : Int).toNat = ⟨#[(d.getD j 0).toNat * 256 + (d.getD (j + 1) 0).toNat]⟩ := rfl
    generalize (d.getD j 0).toNat = x1 at *
    k_steps
    refine by_item (j + 1) (by omega) (by omega) (by omega) ?_
    (try dsimp only)
    generalize (d.getD (j + 1) 0).toNat = x2 at *
    k_steps
    with_reducible rename Fr _ _ _ _ => F9
    with_reducible rename News _ _ _ _ => N9
    refine LCg.CompEnd.intro F9 N9 _ ?_ ?_ trivial (kct_el ?_ rfl rfl)
    · kcf_all
    · assumption
    · rw [hg]
      refine congrArg (fun q => (⟨#[q]⟩ : Str)) ?_
      omega
  · unfold KPfDone LCg.FinA
    intro ys hys _ D h3 tk3 F3 N3 off
    k_steps
    with_reducible rename News _ _ _ _ => N4
    refine KT.join_1 (N4.isList (by k_mem)) hys (by intro a ha; rfl) (by rw [signKs_length]; omega) ?_
    intro t4 k4 e4
    clear e4
    (try dsimp only)
    (try k_fold)
    k_steps
    with_reducible rename Fr _ _ _ _ => F9
    with_reducible rename News _ _ _ _ => N9
    exact retV_in F9 ⟨_, _, _, _, rfl, (N9 _ (.head _)).2.2, (N9 _ (.head _)).1⟩
end
end Mine
namespace Mine
section
open PySem PySem.W PyProof.Rows PySem.Calls PyProof
set_option maxRecDepth 100000
set_option maxHeartbeats 8000000
local macro_rules | `(tactic| walk_at "exec For Name Call cons nil") => `(tactic| refine stop ?_)
local macro_rules | `(tactic| walk_at "exec For Name Name cons nil") => `(tactic| refine stop ?_)
local macro_rules | `(tactic| walk_at "exec For Name BinOp cons nil") => `(tactic| refine stop ?_)
local macro_rules | `(tactic| walk_at "InvEndN") => `(tactic| refine stop ?_)
local macro_rules | `(tactic| walk_at "call builtin:list.append") => `(tactic| refine stop ?_)
local macro_rules | `(tactic| walk_at "call builtin:list.pop") => `(tactic| refine stop ?_)
local macro_rules | `(tactic| walk_at "call builtin:list.extend") => `(tactic| refine stop ?_)
local macro_rules | `(tactic| walk_at "subscriptTail Name UnaryOp ref int") => `(tactic| refine stop ?_)
local macro_rules | `(tactic| walk_at "pyIter ref") => `(tactic| refine stop ?_)
local macro_rules | `(tactic| walk_at "pyIter str") => `(tactic| refine stop ?_)
def Free (c : Nat) : Prop := ∀ (P : Params) (prog : Program) (w : World), ∃ es n, o52 P = { cls := .type "dict", data := .dict es n } ∧ intKeyed es = true ∧ findBy (intKind prog w).is es (c : Int) = none
theorem free_slash : Free 47 := fun _ _ _ => ⟨_, _, rfl, by decide +kernel, by rfl⟩
theorem free_r : Free 114 := fun _ _ _ => ⟨_, _, rfl, by decide +kernel, by rfl⟩
theorem free_a : Free 97 := fun _ _ _ => ⟨_, _, rfl, by decide +kernel, by rfl⟩
theorem free_b : Free 98 := fun _ _ _ => ⟨_, _, rfl, by decide +kernel, by rfl⟩
theorem free_c : Free 99 := fun _ _ _ => ⟨_, _, rfl, by decide +kernel, by rfl⟩
theorem con_escape (c : Nat) (t : Tok) (hc : c < 128) (hf : Free c) : Con 2 62 [.str ⟨#[c]⟩ t] (fun t => .str ⟨#[c]⟩ t) := by
  w_on
  refine' con_P (D := 1) ?ho ?hcd ?hb ?hl ?c1 ?c2 ?c3 ?c4 ?_
  case ho => intro P; exact rfl
  case hcd => intro P; exact rfl
  case hb => exact rfl
  case hl => exact locs rfl
  case c1 => exact rfl
  case c2 => exact rfl
  case c3 => exact rfl
  case c4 => decide
  k_fill
  intro w mean mg mb dp un gd outer A₀ base g h₁ L' s tk B' F' N' X' T' hd hu
  (try k_fold)
  k_steps
  refine trans_meth ?_
  k_steps
  with_reducible rename Fr _ _ _ _ => F0
  with_reducible rename News _ _ _ _ => N0
  obtain ⟨es, n, e1, e2, e3⟩ := hf w.params (OpenLaw.prog PySem.Challenge.rw_rt0055_01) w
  have h52 : h₁.get? 52 = some (o52 w.params) := (X'.keeps F0.keep) _ _ (by exact rfl)
  rw [e1] at h52
  refine trans_one (s := ⟨_, _, _, _, _⟩) rfl (mapOf_written h52 e2) (by decide) e3 hc ?_
  intro h5 t5 k5 K5
  have F5 := F0.keeps K5
  have N5 := News.keeps N0 K5
  clear F0 N0 h52 K5
  (try dsimp only)
  (try k_fold)
  k_steps
  exact ret_in (by assumption) _ rfl
theorem con_escAt {x : Str} (c : Nat) (t : Tok) (hx : x = ⟨#[c]⟩) (hc : c < 128) (hf : Free c) : Con 2 62 [.str x t] (fun t => .str x t) := by
  subst hx; exact con_escape c t hc hf
theorem con_esc1 (t : Tok) : Con 2 62 [.str (Str.ofString "/") t] (fun t => .str (Str.ofString "/") t) := con_escAt 47 t (by decide +kernel) (by decide) free_slash
theorem con_esc2 (t : Tok) : Con 2 62 [.str (Str.ofString "r") t] (fun t => .str (Str.ofString "r") t) := con_escAt 114 t (by decide +kernel) (by decide) free_r
theorem con_esc3 (t : Tok) : Con 2 62 [.str (Str.ofString "a") t] (fun t => .str (Str.ofString "a") t) := con_escAt 97 t (by decide +kernel) (by decide) free_a
theorem con_esc4 (t : Tok) : Con 2 62 [.str (Str.ofString "b") t] (fun t => .str (Str.ofString "b") t) := con_escAt 98 t (by decide +kernel) (by decide) free_b
theorem con_esc5 (t : Tok) : Con 2 62 [.str (Str.ofString "c") t] (fun t => .str (Str.ofString "c") t) := con_escAt 99 t (by decide +kernel) (by decide) free_c
end
end Mine
namespace Mine
section
open PySem PySem.W PyProof.Rows PySem.Calls PyProof
set_option maxRecDepth 100000
set_option maxHeartbeats 8000000
noncomputable def trSc0 (s : Stmt) : Scope := match s with | .FunctionDef _ _ _ _ _ _ scope _ _ _ => scope | _ => default
noncomputable def trBody0 (s : Stmt) : List Stmt := match s with | .FunctionDef _ _ (_ :: _ :: _ :: .While _ b _ _ :: _) _ _ _ _ _ _ _ => b | _ => []
noncomputable def trScope : Scope := by
  refine' (fun (b : Scope) (_ : b = trSc0 (stm 9)) => b) _ ?h
  case h =>
    conv => rhs; whnf
noncomputable def trBody : List Stmt := by
  refine' (fun (b : List Stmt) (_ : b = trBody0 (stm 9)) => b) _ ?h
  case h =>
    conv => rhs; whnf
/-- the frame of _translate within its loop -/
structure TrN where
  pat : Str
  tp : Tok
  st : Addr
  tq : Tok
  R : Addr
  B : Addr
  n : Int
  tn : Tok
def trM (c : TrN) (i : Int) (ti : Tok) (rest : Str → Option Value) : Str → Option Value := fun y =>
  if y = Str.ofString "i" then some (.int i ti) else if y = Str.ofString "n" then some (.int c.n c.tn) else if y = Str.ofString "pat" then some (.str c.pat c.tp) else if y = Str.ofString "STAR" then some (.ref c.st)
  else if y = Str.ofString "QUESTION_MARK" then some (.str (Str.ofString ".") c.tq) else if y = Str.ofString "res" then some (.ref c.R) else if y = Str.ofString "add" then some (.ref c.B) else rest y
theorem fr_trM {h₀ h : Heap} {L : Addr} {m : Str → Option Value} (c : TrN) {i : Int} {ti : Tok} (F : Fr h₀ L h m) (e1 : m (Str.ofString "i") = some (.int i ti)) (e2 : m (Str.ofString "n") = some (.int c.n c.tn)) (e3 : m (Str.ofString "pat") = some (.str c.pat c.tp)) (e4 : m (Str.ofString "STAR") = some (.ref c.st))
    (e5 : m (Str.ofString "QUESTION_MARK") = some (.str (Str.ofString ".") c.tq)) (e6 : m (Str.ofString "res") = some (.ref c.R)) (e7 : m (Str.ofString "add") = some (.ref c.B)) : Fr h₀ L h (trM c i ti m) := by
  have z : trM c i ti m = m := by
    funext y
    unfold trM
    split
    · next h => rw [h, e1]
    split
    · next h => rw [h, e2]
    split
    · next h => rw [h, e3]
    split
    · next h => rw [h, e4]
    split
    · next h => rw [h, e5]
    split
    · next h => rw [h, e6]
    split
    · next h => rw [h, e7]
    rfl
  rw [z]; exact F
def trLed (c : TrN) (vs : List Value) (k : Nat) (ps : Array Value) : List (Addr × Obj) := [(c.B, boundApp c.R), (c.R, listOf vs.toArray k), (64, tabObj ps)]
/-- the items of a translated rule: none is the star, a text is itself -/
inductive ItemsAre (st : Addr) : List Value → List (Option Str) → Prop
  | nil : ItemsAre st [] []
  | star {vs ds} : ItemsAre st vs ds → ItemsAre st (.ref st :: vs) (none :: ds)
  | text {vs ds} (x : Str) (t : Tok) : ItemsAre st vs ds → ItemsAre st (.str x t :: vs) (some x :: ds)
theorem ItemsAre.snoc_star {st : Addr} {vs ds} (h : ItemsAre st vs ds) : ItemsAre st (vs ++ [.ref st]) (ds ++ [none]) := by
  induction h with
  | nil => exact .star .nil
  | star _ ih => exact .star ih
  | text x t _ ih => exact .text x t ih
theorem ItemsAre.snoc_text {st : Addr} {vs ds} (x : Str) (t : Tok) (h : ItemsAre st vs ds) : ItemsAre st (vs ++ [.str x t]) (ds ++ [some x]) := by
  induction h with
  | nil => exact .text x t .nil
  | star _ ih => exact .star ih
  | text y u _ ih => exact .text y u ih
def TrR (st : Addr) (ds : List (Option Str)) (h h' : Heap) (v : Value) : Prop := ∃ a vs n, v = .ref a ∧ h.get? a = none ∧ h'.get? a = some (listOf vs n) ∧ ItemsAre st vs.toList ds
theorem isnot_sr {prog : Program} {w : World} {A : Around} {E : Value → Shared → Prop} {s : Shared} {x : Str} {t : Tok} {a : Addr} {Q : Value → Shared → Prop} (h : Q (.bool true) s) : wpAny (model prog w) A (compareOp .IsNot (.str x t) (.ref a)) Q E s :=
  wpAny_of_eq (a := .bool true) rfl h
theorem item_at {prog : Program} {w : World} {A : Around} {E : Value → Shared → Prop} {s : Shared} {x sg : Str} {t ti : Tok} {i : Int} {value slice : PySem.Expr} {Q : Value → Shared → Prop} (e : Txt.item x i = sg) (h0 : 0 ≤ i) (h1 : i < (x.length : Int)) (hn : x.length ≤ 1000)
    (h : Q (.str sg s.toks) { s with toks := s.toks + 1 })
    (hs : subscripted slice false (.str x t) (.int i ti) = operate [.str x t, .int i ti] (getItem (.str x t) (.int i ti)) := by with_unfolding_all rfl)
    (ht : ∀ r, letTemporaryGo value (.str x t) r = pure () := by intro _; with_unfolding_all rfl) : wpAny (model prog w) A (subscriptTail value slice (.str x t) (.int i ti)) Q E s := by
  subst e
  exact item_str (fitsSsize_of (N := 9223372036854775808) (by omega) (by omega) (Int.le_refl _)) (by omega) h1 (fun _ => h) hs ht
theorem truthy_snoc {prog : Program} {w : World} {A : Around} {E : Value → Shared → Prop} {s : Shared} {l : Addr} {vs : List Value} {v : Value} {Q : Bool → Shared → Prop} (hl : s.heap.IsList l (vs ++ [v]).toArray) (hn : vs.length ≤ 999) (h : Q true { s with toks := s.toks + 1 + 1 }) :
    wpAny (model prog w) A (truthy (.ref l)) Q E s :=
  wpAny_truthy_list hl (by rw [List.size_toArray, List.length_append, List.length_singleton]; omega) (by
    have e : (!(vs ++ [v]).toArray.isEmpty) = true := by simp
    rw [e]; exact h)
theorem item_snoc {prog : Program} {w : World} {A : Around} {E : Value → Shared → Prop} {s : Shared} {value slice : PySem.Expr} {l : Addr} {vs : List Value} {v : Value} {u : Tok} {Q : Value → Shared → Prop} (hl : s.heap.IsList l (vs ++ [v]).toArray) (hn : vs.length ≤ 999) (h : Q v s)
    (hs : subscripted slice false (.ref l) (.int (-1) u) = operate [.ref l, .int (-1) u] (getItem (.ref l) (.int (-1) u)) := by with_unfolding_all rfl) (hg : ∀ r, letTemporaryGo value (.ref l) r = pure () := by intro _; with_unfolding_all rfl) :
    wpAny (model prog w) A (subscriptTail value slice (.ref l) (.int (-1) u)) Q E s := by
  have hz : (vs ++ [v]).toArray.size = vs.length + 1 := by simp
  refine subscriptTail_builtin hl.typeIs slot_list_getitem.lookup (wpAny_getItem_list_neg hl (by decide) (by rw [hz]; omega) (by decide) (x := v) ?_ h) hs hg
  rw [hz, show ((-1 : Int) + ((vs.length + 1 : Nat) : Int)).toNat = vs.length by omega]
  simp
local macro_rules | `(tactic| walk_at "truthy ref") => `(tactic| (k_dflt (refine truthy_snoc (News.isList (by k_asm) (by k_mem)) (by omega) ?_)))
local macro_rules | `(tactic| walk_at "subscriptTail Name UnaryOp ref int") => `(tactic| (k_dflt (refine item_snoc (News.isList (by k_asm) (by k_mem)) (by omega) ?_)))
local macro_rules | `(tactic| walk_at "subscriptTail Name Name str int") => `(tactic| (refine item_at (by assumption) (by omega) (by omega) (by omega) ?_))
local macro_rules | `(tactic| walk_at "callWith ref") => `(tactic| (k_here; k_dflt (refine' ga_callWith ?k1 ?k2 ?_; (case k1 => k_asm); (case k2 => k_mem); k_whole)))
local macro_rules | `(tactic| walk_at "StandB") => `(tactic| (k_dflt (exact News.get (by k_asm) (by k_mem))))
local macro_rules | `(tactic| walk_at "call ref") => `(tactic| (k_here; k_dflt (first
  | (refine' use_con ?c ?k1 ?k2 ?k3 ?k4 ?k5 ?kK ?kd ?ku ?_; (case c => (rename (∀ t, Con 2 62 _ _) => cesc9; exact cesc9 _)); (case k1 => k_asm); (case k2 => k_asm); (case k3 => k_asm); (case k4 => k_asm); (case k5 => k_asm); (case kK => first | exact rfl | assumption); (case kd => ktr_room); (case ku => ktr_units); intro t9 h9 tk9 F9 N9; (try dsimp only); (try k_fold))
  | (refine' ga_callK ?k1 ?k2 ?kb ?k3 ?kz ?_; (case k1 => k_asm); (case k2 => k_asm); (case kb => k_mem); (case k3 => k_upd); (case kz => (have e9 := sizeLine_eq; rw [List.size_toArray]; (try rw [List.length_append, List.length_singleton]); first | omega | (show (0 : Nat) ≤ _; omega))); intro h' F' N'; (try k_sweep)))))
local macro_rules | `(tactic| walk_at "compareOp IsNot str ref") => `(tactic| (k_dflt (refine isnot_sr ?_)))
/-- what a turn of the loop leaves -/
def TrEnd (g : Heap) (L : Addr) (c : TrN) (i : Int) (vs : List Value) (ps : Array Value) (s : Shared) (Q : Flow → Shared → Prop) : Prop :=
  ∀ rest h' tk' k' t, Fr g L h' (trM c i t rest) → News g L h' (trLed c vs k' ps) → Q .next { s with heap := h', toks := tk' }
section
variable {w : World} {mean : ExcName → Option Value} {mg mb : Str → Option Value} {dp un : Nat} {gd : Option (List Code)} {outer : List Env} {A₀ : Around} {base g : Heap} {L' : Addr} {c : TrN} {vs : List Value} {k : Nat} {ps : Array Value} {i : Int} {ti : Tok} {s : Shared} {Q : Flow → Shared → Prop} {rest : Str → Option Value}
theorem tr_free {x : Str} (cesc : ∀ t, Con 2 62 [.str x t] fun t => .str x t) (B' : Below A₀ base outer g) (F' : Fr g L' s.heap (trM c i ti rest)) (N' : News g L' s.heap (trLed c vs k ps)) (X' : (KK w.params).In g) (T' : Top q0 (looseW q0 loose0) mean mg mb g)
    (hd : dp + 3 < recursionLimit) (hu : un + 24 < cLine) (h0 : 0 ≤ i) (h1 : i < (c.pat.length : Int)) (h2 : c.pat.length ≤ 1000) (hv : vs.length ≤ 999) (d1 : @Ne Nat c.B c.R) (d2 : @Ne Nat c.R 64) (d3 : @Ne Nat c.B 64)
    (hit : Txt.item c.pat i = x) (n1 : (x == Str.ofString "*") = false) (n2 : (x == Str.ofString "?") = false) (n3 : (x == Str.ofString "[") = false)
    (h : ∀ t, TrEnd g L' c (i + 1) (vs ++ [.str x t]) ps s Q) :
    wpAny (model (OpenLaw.prog PySem.Challenge.rw_rt0055_01) w) (ktrTop dp un gd (Str.ofString "_translate") trScope L' 69 (.ref 68) [] outer) (execs trBody (envX (Str.ofString "_translate") trScope L' 69 (.ref 68) [])) Q (fun _ _ => False) s := by
  revert X'
  k_fill
  intro X'
  obtain ⟨pat, tp, st, tq, R, B, n, tn⟩ := c
  dsimp only at *
  unfold trM at F'
  unfold trLed at N'
  unfold trScope trBody
  dsimp only
  w_on
  (try k_fold)
  k_steps
  with_reducible rename Fr _ _ _ _ => F9
  with_reducible rename News _ _ _ _ => N9
  rw [List.push_toArray] at N9
  exact h _ _ _ _ _ _ (fr_trM _ F9 rfl rfl rfl rfl rfl rfl rfl) N9
theorem tr_any (B' : Below A₀ base outer g) (F' : Fr g L' s.heap (trM c i ti rest)) (N' : News g L' s.heap (trLed c vs k ps)) (X' : (KK w.params).In g) (T' : Top q0 (looseW q0 loose0) mean mg mb g)
    (hd : dp + 3 < recursionLimit) (hu : un + 24 < cLine) (h0 : 0 ≤ i) (h1 : i < (c.pat.length : Int)) (h2 : c.pat.length ≤ 1000) (hv : vs.length ≤ 999) (d1 : @Ne Nat c.B c.R) (d2 : @Ne Nat c.R 64) (d3 : @Ne Nat c.B 64)
    (hit : Txt.item c.pat i = Str.ofString "?")
    (h : ∀ t, TrEnd g L' c (i + 1) (vs ++ [.str (Str.ofString ".") t]) ps s Q) :
    wpAny (model (OpenLaw.prog PySem.Challenge.rw_rt0055_01) w) (ktrTop dp un gd (Str.ofString "_translate") trScope L' 69 (.ref 68) [] outer) (execs trBody (envX (Str.ofString "_translate") trScope L' 69 (.ref 68) [])) Q (fun _ _ => False) s := by
  revert X'
  k_fill
  intro X'
  obtain ⟨pat, tp, st, tq, R, B, n, tn⟩ := c
  dsimp only at *
  unfold trM at F'
  unfold trLed at N'
  unfold trScope trBody
  dsimp only
  w_on
  (try k_fold)
  k_steps
  with_reducible rename Fr _ _ _ _ => F9
  with_reducible rename News _ _ _ _ => N9
  rw [List.push_toArray] at N9
  exact h _ _ _ _ _ _ (fr_trM _ F9 rfl rfl rfl rfl rfl rfl rfl) N9
theorem tr_star0 (B' : Below A₀ base outer g) (F' : Fr g L' s.heap (trM c i ti rest)) (N' : News g L' s.heap (trLed c [] k ps)) (X' : (KK w.params).In g) (T' : Top q0 (looseW q0 loose0) mean mg mb g)
    (hd : dp + 3 < recursionLimit) (hu : un + 24 < cLine) (h0 : 0 ≤ i) (h1 : i < (c.pat.length : Int)) (h2 : c.pat.length ≤ 1000) (hv : vs.length ≤ 999) (d1 : @Ne Nat c.B c.R) (d2 : @Ne Nat c.R 64) (d3 : @Ne Nat c.B 64)
    (hit : Txt.item c.pat i = Str.ofString "*")
    (h : TrEnd g L' c (i + 1) ([] ++ [.ref c.st]) ps s Q) :
    wpAny (model (OpenLaw.prog PySem.Challenge.rw_rt0055_01) w) (ktrTop dp un gd (Str.ofString "_translate") trScope L' 69 (.ref 68) [] outer) (execs trBody (envX (Str.ofString "_translate") trScope L' 69 (.ref 68) [])) Q (fun _ _ => False) s := by
  revert X'
  k_fill
  intro X'
  obtain ⟨pat, tp, st, tq, R, B, n, tn⟩ := c
  dsimp only at *
  unfold trM at F'
  unfold trLed at N'
  unfold trScope trBody
  dsimp only
  w_on
  (try k_fold)
  k_steps
  with_reducible rename Fr _ _ _ _ => F9
  with_reducible rename News _ _ _ _ => N9
  rw [List.push_toArray] at N9
  exact h _ _ _ _ _ (fr_trM _ F9 rfl rfl rfl rfl rfl rfl rfl) N9
theorem tr_star {y : Str} {u : Tok} (B' : Below A₀ base outer g) (F' : Fr g L' s.heap (trM c i ti rest)) (N' : News g L' s.heap (trLed c (vs ++ [Value.str y u]) k ps)) (X' : (KK w.params).In g) (T' : Top q0 (looseW q0 loose0) mean mg mb g)
    (hd : dp + 3 < recursionLimit) (hu : un + 24 < cLine) (h0 : 0 ≤ i) (h1 : i < (c.pat.length : Int)) (h2 : c.pat.length ≤ 1000) (hv : vs.length ≤ 999) (d1 : @Ne Nat c.B c.R) (d2 : @Ne Nat c.R 64) (d3 : @Ne Nat c.B 64)
    (hit : Txt.item c.pat i = Str.ofString "*")
    (h : TrEnd g L' c (i + 1) ((vs ++ [Value.str y u]) ++ [.ref c.st]) ps s Q) :
    wpAny (model (OpenLaw.prog PySem.Challenge.rw_rt0055_01) w) (ktrTop dp un gd (Str.ofString "_translate") trScope L' 69 (.ref 68) [] outer) (execs trBody (envX (Str.ofString "_translate") trScope L' 69 (.ref 68) [])) Q (fun _ _ => False) s := by
  revert X'
  k_fill
  intro X'
  obtain ⟨pat, tp, st, tq, R, B, n, tn⟩ := c
  dsimp only at *
  unfold trM at F'
  unfold trLed at N'
  unfold trScope trBody
  dsimp only
  w_on
  (try k_fold)
  k_steps
  with_reducible rename Fr _ _ _ _ => F9
  with_reducible rename News _ _ _ _ => N9
  rw [List.push_toArray] at N9
  exact h _ _ _ _ _ (fr_trM _ F9 rfl rfl rfl rfl rfl rfl rfl) N9
end
end
end Mine
namespace Mine
section
open PySem PySem.W PyProof.Rows PySem.Calls PyProof
set_option maxRecDepth 100000
set_option maxHeartbeats 8000000
noncomputable def trTest0 (s : Stmt) : PySem.Expr := match s with | .FunctionDef _ _ (_ :: _ :: _ :: .While e _ _ _ :: _) _ _ _ _ _ _ _ => e | _ => default
noncomputable def trTest : PySem.Expr := by
  refine' (fun (b : PySem.Expr) (_ : b = trTest0 (stm 9)) => b) _ ?h
  case h =>
    conv => rhs; whnf
/-- a sign of a rule without brackets, and what it turns into -/
def SgOk (pat : Str) (i : Nat) (prev : Bool) : Option Str → Prop
  | none => Txt.item pat i = Str.ofString "*" ∧ prev = false
  | some x => (x = Str.ofString "." ∧ Txt.item pat i = Str.ofString "?") ∨ (Txt.item pat i = x ∧ (∀ t, Con 2 62 [.str x t] fun t => .str x t) ∧ (x == Str.ofString "*") = false ∧ (x == Str.ofString "?") = false ∧ (x == Str.ofString "[") = false)
def RunOk (pat : Str) : Nat → Bool → List (Option Str) → Prop
  | i, _, [] => i = pat.length
  | i, prev, d :: r => i < pat.length ∧ SgOk pat i prev d ∧ RunOk pat (i + 1) d.isNone r
def LastOk (vs : List Value) : Prop := vs = [] ∨ ∃ us y u, vs = us ++ [.str y u]
section
variable {w : World} {mean : ExcName → Option Value} {mg mb : Str → Option Value} {dp un : Nat} {gd : Option (List Code)} {outer : List Env} {A₀ : Around} {base g : Heap} {L' : Addr} {c : TrN} {ps : Array Value}
theorem tr_test {i : Int} {ti : Tok} {s : Shared} {Q : Bool → Shared → Prop} {rest : Str → Option Value} (F' : Fr g L' s.heap (trM c i ti rest)) (h : ∀ tk', Q (decide (i < c.n)) { s with toks := tk' }) :
    wpAny (model (OpenLaw.prog PySem.Challenge.rw_rt0055_01) w) (ktrTop dp un gd (Str.ofString "_translate") trScope L' 69 (.ref 68) [] outer) (isTrue trTest (envX (Str.ofString "_translate") trScope L' 69 (.ref 68) []) (eval trTest (envX (Str.ofString "_translate") trScope L' 69 (.ref 68) []))) Q (fun _ _ => False) s := by
  unfold trM at F'
  unfold trScope trTest
  dsimp only
  w_on
  k_steps
  exact h s.toks
theorem tr_run (B' : Below A₀ base outer g) (X' : (KK w.params).In g) (T' : Top q0 (looseW q0 loose0) mean mg mb g) (hd : dp + 3 < recursionLimit) (hu : un + 24 < cLine) (hp : c.pat.length ≤ 999) (hn : c.n = c.pat.length) (d1 : @Ne Nat c.B c.R) (d2 : @Ne Nat c.R 64) (d3 : @Ne Nat c.B 64) {Q : Flow → Shared → Prop} :
    ∀ (r : List (Option Str)) (i : Nat) (prev : Bool) (vs : List Value) (ds₀ : List (Option Str)) (k : Nat) (ti : Tok) (rest : Str → Option Value) (s : Shared) (kk : Nat),
      RunOk c.pat i prev r → (prev = false → LastOk vs) → vs.length = i → ItemsAre c.st vs ds₀ → Fr g L' s.heap (trM c i ti rest) → News g L' s.heap (trLed c vs k ps) → r.length + 1 ≤ kk →
      (∀ (rest : Str → Option Value) (h' : Heap) (tk' : Nat) (vs' : List Value) (k' : Nat) (t : Tok), ItemsAre c.st vs' (ds₀ ++ r) → Fr g L' h' (trM c c.pat.length t rest) → News g L' h' (trLed c vs' k' ps) → Q .next { s with heap := h', toks := tk' }) →
      WhlRest (OpenLaw.prog PySem.Challenge.rw_rt0055_01) w (ktrTop dp un gd (Str.ofString "_translate") trScope L' 69 (.ref 68) [] outer) (fun _ _ => False) (envX (Str.ofString "_translate") trScope L' 69 (.ref 68) []) trTest trBody [] Q kk s := by
  intro r
  induction r with
  | nil =>
    intro i prev vs ds₀ k ti rest s kk hr hl hv hi F N hk fin
    obtain ⟨kk, rfl⟩ : ∃ q, kk = q + 1 := ⟨kk - 1, by simp at hk; omega⟩
    have hr' : i = c.pat.length := hr
    refine whl_turn (fun _ _ x => x.elim) (tr_test F fun tk' => WhlIf.no (by rw [hn]; simp; omega) (wpAny_execs_nil ?_))
    subst hr'
    exact fin rest _ _ vs k ti (by simpa using hi) F N
  | cons d r ih =>
    intro i prev vs ds₀ k ti rest s kk hr hl hv hi F N hk fin
    obtain ⟨kk, rfl⟩ : ∃ q, kk = q + 1 := ⟨kk - 1, by simp at hk; omega⟩
    obtain ⟨h1, h2, h3⟩ := hr
    have hk' : r.length + 1 ≤ kk := by simp at hk; omega
    refine whl_turn (fun _ _ x => x.elim) (tr_test F fun tk' => WhlIf.yes (by rw [hn]; simp; omega) ?_)
    cases d with
    | none =>
      obtain ⟨h4, h5⟩ := h2
      rcases hl h5 with rfl | ⟨us, y, u, rfl⟩
      · refine tr_star0 (vs := []) (s := { s with toks := tk' }) B' F N X' T' hd hu (by omega) (by omega) (by omega) (Nat.zero_le _) d1 d2 d3 h4 ?_
        intro rest' h' tk'' k' t F' N'
        show WhlRest _ _ _ _ _ _ _ _ _ kk _
        refine ih (i + 1) true _ (ds₀ ++ [none]) k' t rest' _ kk h3 (fun e => by simp at e) (by simp at hv ⊢; omega) hi.snoc_star F' N' hk' ?_
        intro rest7 h7 tk7 vs7 k7 t7 i7 F7 N7
        exact fin rest7 h7 tk7 vs7 k7 t7 (by simpa using i7) F7 N7
      · refine tr_star (s := { s with toks := tk' }) B' F N X' T' hd hu (by omega) (by omega) (by omega) (by simp at hv; omega) d1 d2 d3 h4 ?_
        intro rest' h' tk'' k' t F' N'
        show WhlRest _ _ _ _ _ _ _ _ _ kk _
        refine ih (i + 1) true _ (ds₀ ++ [none]) k' t rest' _ kk h3 (fun e => by simp at e) (by simp at hv ⊢; omega) hi.snoc_star F' N' hk' ?_
        intro rest7 h7 tk7 vs7 k7 t7 i7 F7 N7
        exact fin rest7 h7 tk7 vs7 k7 t7 (by simpa using i7) F7 N7
    | some x =>
      rcases h2 with ⟨rfl, h4⟩ | ⟨h4, h5, h6, h7, h8⟩
      · refine tr_any (s := { s with toks := tk' }) B' F N X' T' hd hu (by omega) (by omega) (by omega) (by omega) d1 d2 d3 h4 ?_
        intro t8 rest' h' tk'' k' t F' N'
        show WhlRest _ _ _ _ _ _ _ _ _ kk _
        refine ih (i + 1) false _ (ds₀ ++ [some _]) k' t rest' _ kk h3 (fun _ => .inr ⟨_, _, _, rfl⟩) (by simp; omega) (hi.snoc_text _ _) F' N' hk' ?_
        intro rest7 h7 tk7 vs7 k7 t7 i7 F7 N7
        exact fin rest7 h7 tk7 vs7 k7 t7 (by simpa using i7) F7 N7
      · refine tr_free (s := { s with toks := tk' }) h5 B' F N X' T' hd hu (by omega) (by omega) (by omega) (by omega) d1 d2 d3 h4 h6 h7 h8 ?_
        intro t8 rest' h' tk'' k' t F' N'
        show WhlRest _ _ _ _ _ _ _ _ _ kk _
        refine ih (i + 1) false _ (ds₀ ++ [some _]) k' t rest' _ kk h3 (fun _ => .inr ⟨_, _, _, rfl⟩) (by simp; omega) (hi.snoc_text _ _) F' N' hk' ?_
        intro rest7 h7 tk7 vs7 k7 t7 i7 F7 N7
        exact fin rest7 h7 tk7 vs7 k7 t7 (by simpa using i7) F7 N7
end
end
end Mine
namespace Mine
section
open PySem PySem.W PyProof.Rows PySem.Calls PyProof
set_option maxRecDepth 100000
set_option maxHeartbeats 8000000
local macro_rules | `(tactic| walk_at "getAttr ref") => `(tactic| (k_here; k_dflt (refine' ga_attrK ?k1 ?k2 ?k3 ?_; (case k1 => k_asm); (case k2 => k_asm); (case k3 => k_mem); k_whole); intro b' h' F' N' l1; (try k_lt l1); (try k_sweep)))
local macro_rules | `(tactic| walk_at "WhlRest") => `(tactic| refine stop ?_)
/-- what the loop of _translate does with a rule, told whole -/
def LoopT (pat : Str) (ds : List (Option Str)) : Prop :=
  ∀ (w : World) (mean : ExcName → Option Value) (mg mb : Str → Option Value) (dp un : Nat) (gd : Option (List Code)) (outer : List Env) (A₀ : Around) (base g : Heap) (L' : Addr) (c : TrN) (ps : Array Value) (k : Nat) (ti : Tok) (rest : Str → Option Value) (s : Shared) (Q : Flow → Shared → Prop),
    TabOk ps → Below A₀ base outer g → (KK w.params).In g → Top q0 (looseW q0 loose0) mean mg mb g → dp + 3 < recursionLimit → un + 24 < cLine → c.pat = pat → c.n = pat.length → @Ne Nat c.B c.R → @Ne Nat c.R 64 → @Ne Nat c.B 64 →
      Fr g L' s.heap (trM c 0 ti rest) → News g L' s.heap (trLed c [] k ps) →
      (∀ (rest : Str → Option Value) (h' : Heap) (tk' : Nat) (vs' : List Value) (k' : Nat) (t : Tok) (ps' : Array Value), TabOk ps' → ItemsAre c.st vs' ds → Fr g L' h' (trM c pat.length t rest) → News g L' h' (trLed c vs' k' ps') → Q .next { s with heap := h', toks := tk' }) →
      ∀ kk, WhlRest (OpenLaw.prog PySem.Challenge.rw_rt0055_01) w (ktrTop dp un gd (Str.ofString "_translate") trScope L' 69 (.ref 68) [] outer) (fun _ _ => False) (envX (Str.ofString "_translate") trScope L' 69 (.ref 68) []) trTest trBody [] Q kk s
theorem loop_plain (pat : Str) (ds : List (Option Str)) (hr : RunOk pat 0 false ds) (hp : pat.length ≤ 90) : LoopT pat ds := by
  intro w mean mg mb dp un gd outer A₀ base g L' c ps k ti rest s Q hps B' X' T' hd hu e1 e2 d1 d2 d3 F N fin kk
  subst e1
  have z := tr_run (gd := gd) (c := c) (ps := ps) (Q := Q) B' X' T' hd hu (by omega) e2 d1 d2 d3 ds 0 false [] [] k ti rest s (ds.length + 1) hr (fun _ => .inl rfl) rfl .nil F N (Nat.le_refl _) (fun rest h' tk' vs' k' t i F N => fin rest h' tk' vs' k' t ps hps (by simpa using i) F N)
  exact z
theorem con_loop (pat : Str) (ds : List (Option Str)) (st : Addr) (t u : Tok) (H : LoopT pat ds) (hp : pat.length ≤ 90) : ConT 4 69 [.str pat t, .ref st, .str (Str.ofString ".") u] (TrR st ds) := by
  w_on
  refine' conT_P (D := 3) ?ho ?hcd ?hb ?hl ?c1 ?c2 ?c3 ?c4 ?_
  case ho => intro P; exact rfl
  case hcd => intro P; exact rfl
  case hb => exact rfl
  case hl => exact locs rfl
  case c1 => exact rfl
  case c2 => exact rfl
  case c3 => exact rfl
  case c4 => decide
  k_fill
  intro w mean mg mb dp un gd outer A₀ base g h₁ L' s tk ps hps B' F' N' X' T' hd hu
  (try k_fold)
  k_steps
  refine Stop.go ?_
  with_reducible rename Fr _ _ _ _ => F0
  with_reducible rename News _ _ _ _ => N0
  have F1 := fr_trM (⟨_, _, _, _, _, _, _, _⟩ : TrN) F0 rfl rfl rfl rfl rfl rfl rfl
  refine H _ _ _ _ _ _ _ _ _ _ _ _ _ ps _ _ _ _ _ hps B' X' T' hd hu rfl rfl (by k_ne) (by k_ne) (by k_ne) F1 (List.forall_mem_cons.mpr ⟨N0 _ (by k_mem), List.forall_mem_cons.mpr ⟨N0 _ (by k_mem), List.forall_mem_cons.mpr ⟨N0 _ (by k_mem), List.forall_mem_nil _⟩⟩⟩) ?_ _
  clear F0 F1 N0
  intro rest h7 tk7 vs k7 t7 ps7 hps7 hi7 F7 N7
  unfold trLed at N7
  unfold trM at F7
  dsimp only at N7 F7 hi7
  (try dsimp only)
  (try k_fold)
  k_steps
  with_reducible rename Fr _ _ _ _ => F9
  with_reducible rename News _ _ _ _ => N9
  refine retT_in F9 N9 (by k_mem) hps7 ⟨_, _, _, rfl, N9.fresh (by k_mem), N9.get (by k_mem), ?_⟩
  simpa using hi7
theorem con_plain (pat : Str) (ds : List (Option Str)) (st : Addr) (t u : Tok) (hr : RunOk pat 0 false ds) (hp : pat.length ≤ 90) : ConT 4 69 [.str pat t, .ref st, .str (Str.ofString ".") u] (TrR st ds) := con_loop pat ds st t u (loop_plain pat ds hr hp) hp
section
variable {pat : Str} {i : Nat} {prev : Bool} {r : List (Option Str)}
theorem run_star (h1 : i < pat.length) (h2 : Txt.item pat i = Str.ofString "*") (h : RunOk pat (i + 1) true r) : RunOk pat i false (none :: r) := ⟨h1, ⟨h2, rfl⟩, h⟩
theorem run_any (h1 : i < pat.length) (h2 : Txt.item pat i = Str.ofString "?") (h : RunOk pat (i + 1) false r) : RunOk pat i prev (some (Str.ofString ".") :: r) := ⟨h1, .inl ⟨rfl, h2⟩, h⟩
theorem run_free {x : Str} (c : ∀ t, Con 2 62 [.str x t] fun t => .str x t) (h1 : i < pat.length) (h2 : Txt.item pat i = x) (n1 : (x == Str.ofString "*") = false) (n2 : (x == Str.ofString "?") = false) (n3 : (x == Str.ofString "[") = false) (h : RunOk pat (i + 1) false r) : RunOk pat i prev (some x :: r) := ⟨h1, .inr ⟨h2, c, n1, n2, n3⟩, h⟩
end
theorem con_tr1 (st : Addr) (t u : Tok) : ConT 4 69 [.str (Str.ofString "/r/a*") t, .ref st, .str (Str.ofString ".") u] (TrR st [some (Str.ofString "/"), some (Str.ofString "r"), some (Str.ofString "/"), some (Str.ofString "a"), none]) := by
  refine con_plain _ _ st t u ?_ (by decide +kernel)
  refine run_free con_esc1 ?_ ?_ ?_ ?_ ?_ (run_free con_esc2 ?_ ?_ ?_ ?_ ?_ (run_free con_esc1 ?_ ?_ ?_ ?_ ?_ (run_free con_esc3 ?_ ?_ ?_ ?_ ?_ (run_star ?_ ?_ ?_)))) <;> first | decide +kernel | (show (_ : Nat) = _; decide +kernel)
theorem con_tr5 (st : Addr) (t u : Tok) : ConT 4 69 [.str (Str.ofString "*") t, .ref st, .str (Str.ofString ".") u] (TrR st [none]) := by
  refine con_plain _ _ st t u ?_ (by decide +kernel)
  refine run_star ?_ ?_ ?_ <;> first | decide +kernel | (show (_ : Nat) = _; decide +kernel)
theorem con_tr2 (st : Addr) (t u : Tok) : ConT 4 69 [.str (Str.ofString "*/b?c") t, .ref st, .str (Str.ofString ".") u] (TrR st [none, some (Str.ofString "/"), some (Str.ofString "b"), some (Str.ofString "."), some (Str.ofString "c")]) := by
  refine con_plain _ _ st t u ?_ (by decide +kernel)
  refine run_star ?_ ?_ (run_free con_esc1 ?_ ?_ ?_ ?_ ?_ (run_free con_esc4 ?_ ?_ ?_ ?_ ?_ (run_any ?_ ?_ (run_free con_esc5 ?_ ?_ ?_ ?_ ?_ ?_)))) <;> first | decide +kernel | (show (_ : Nat) = _; decide +kernel)
theorem con_tr3 (st : Addr) (t u : Tok) : ConT 4 69 [.str (Str.ofString "/r/*/*") t, .ref st, .str (Str.ofString ".") u] (TrR st [some (Str.ofString "/"), some (Str.ofString "r"), some (Str.ofString "/"), none, some (Str.ofString "/"), none]) := by
  refine con_plain _ _ st t u ?_ (by decide +kernel)
  refine run_free con_esc1 ?_ ?_ ?_ ?_ ?_ (run_free con_esc2 ?_ ?_ ?_ ?_ ?_ (run_free con_esc1 ?_ ?_ ?_ ?_ ?_ (run_star ?_ ?_ (run_free con_esc1 ?_ ?_ ?_ ?_ ?_ (run_star ?_ ?_ ?_))))) <;> first | decide +kernel | (show (_ : Nat) = _; decide +kernel)
end
end Mine
namespace Mine
section
open PySem PySem.W PyProof.Rows PySem.Calls PyProof
set_option maxRecDepth 100000
set_option maxHeartbeats 8000000
noncomputable def trSub0 (l : List Stmt) : Stmt := match l with | _ :: _ :: .If _ _ (.If _ _ (.If _ (_ :: _ :: _ :: _ :: .If _ _ (_ :: _ :: s :: _) _ :: _) _ _ :: _) _ :: _) _ :: _ => s | _ => .Pass default
noncomputable def trSub : Stmt := by
  refine' (fun (b : Stmt) (_ : b = trSub0 (trBody0 (stm 9))) => b) _ ?h
  case h =>
    conv => rhs; whnf
theorem fr_over {h₀ h : Heap} {L : Addr} {m : Str → Option Value} {y : Str} {v v' : Option Value} (F : Fr h₀ L h (fun z => if z = y then v else if z = y then v' else m z)) : Fr h₀ L h (fun z => if z = y then v else m z) := by
  have z : (fun z => if z = y then v else if z = y then v' else m z) = fun z => if z = y then v else m z := by
    funext z
    by_cases hz : z = y
    · rw [if_pos hz, if_pos hz]
    · rw [if_neg hz, if_neg hz, if_neg hz]
  rw [z] at F; exact F
section
/-- stuff = _twin_re_1.sub(lambda .., stuff), where nothing is found -/
theorem tr_sub {w : World} {mean : ExcName → Option Value} {mg mb : Str → Option Value} {dp un : Nat} {gd : Option (List Code)} {outer : List Env} {A₀ : Around} {base g : Heap} {L' : Addr} {c : TrN} {vs : List Value} {k : Nat} {ps : Array Value} {ts : Tok} {s : Shared} {Q : Flow → Shared → Prop} {m : Str → Option Value}
    (B' : Below A₀ base outer g) (F₀ : Fr g L' s.heap m) (hm : m (Str.ofString "stuff") = some (.str (Str.ofString "é€") ts)) (N' : News g L' s.heap (trLed c vs k ps)) (X' : (KK w.params).In g) (T' : Top q0 (looseW q0 loose0) mean mg mb g)
    (hd : dp + 3 < recursionLimit) (hu : un + 24 < cLine) (hps : TabOk ps) (d2 : @Ne Nat c.R 64) (d3 : @Ne Nat c.B 64)
    (h : ∀ h' tk' t ps', TabOk ps' → Fr g L' h' (fun y => if y = Str.ofString "stuff" then some (.str (Str.ofString "é€") t) else m y) → News g L' h' (trLed c vs k ps') → Q .next { s with heap := h', toks := tk' }) :
    wpAny (model (OpenLaw.prog PySem.Challenge.rw_rt0055_01) w) (ktrTop dp un gd (Str.ofString "_translate") trScope L' 69 (.ref 68) [] outer) (exec trSub (envX (Str.ofString "_translate") trScope L' 69 (.ref 68) [])) Q (fun _ _ => False) s := by
  revert X'
  k_fill
  intro X'
  obtain ⟨pat, tp, st, tq, R, B, n, tn⟩ := c
  dsimp only at *
  have F' := fr_fold F₀ hm
  clear F₀ hm
  unfold trLed at N' h
  unfold trScope trSub
  dsimp only
  w_on
  (try k_fold)
  k_steps
  with_reducible rename Fr _ _ _ _ => F0
  with_reducible rename News _ _ _ _ => N0
  refine re_meth (s := s) (o := o50 w.params) ((X'.keeps F0.keep) _ _ (by exact rfl)) rfl rfl ?_
  k_steps
  have hC := code_hd X'
  refine' kla_eval ?d0 ?_
  case d0 => exact rfl
  with_reducible rename Fr _ _ _ _ => F0
  with_reducible rename News _ _ _ _ => N0
  rcases hps.2 with hn | ⟨c9, hc9⟩
  · refine' kla_nest F0 N0 T' hC rfl ?U hps.1 hn rfl ?_
    case U => k_updF
    k_whole
    intro f' c' oc' vs' t' ct' h' tk' F' N' d1' d2' l1 l2
    (try dsimp only at N')
    (try k_lt l1)
    (try k_lt2 l2)
    k_steps
    with_reducible rename Fr _ _ _ _ => F1
    with_reducible rename News _ _ _ _ => N1
    refine re_sub (s := ⟨_, _, _, _, _⟩) ⟨w.params, (X'.keeps F1.keep) _ _ (by exact rfl), (X'.keeps F1.keep) _ _ (by exact rfl)⟩ (N1.get (.head _)) rfl ?_
    intro h5 t5 k5 K5
    have F5 := F1.keeps K5
    have N5 := N1.keeps K5
    clear F1 N1 K5
    (try dsimp only)
    (try k_fold)
    k_steps
    with_reducible rename Fr _ _ _ _ => F9
    with_reducible rename News _ _ _ _ => N9
    exact h _ _ _ _ (tab_snoc hps.1 hn) (fr_over F9) (List.forall_mem_cons.mpr ⟨N9 _ (by k_mem), List.forall_mem_cons.mpr ⟨N9 _ (by k_mem), List.forall_mem_cons.mpr ⟨N9 _ (by k_mem), List.forall_mem_nil _⟩⟩⟩)
  · refine' kla_hit F0 N0 T' hC rfl ?mem hps.1 hc9 rfl ?_
    case mem => k_mem
    k_whole
    intro f' ct' h' tk' F' N' l1
    (try dsimp only at N')
    (try k_lt l1)
    k_steps
    with_reducible rename Fr _ _ _ _ => F1
    with_reducible rename News _ _ _ _ => N1
    refine re_sub (s := ⟨_, _, _, _, _⟩) ⟨w.params, (X'.keeps F1.keep) _ _ (by exact rfl), (X'.keeps F1.keep) _ _ (by exact rfl)⟩ (N1.get (.head _)) rfl ?_
    intro h5 t5 k5 K5
    have F5 := F1.keeps K5
    have N5 := N1.keeps K5
    clear F1 N1 K5
    (try dsimp only)
    (try k_fold)
    k_steps
    with_reducible rename Fr _ _ _ _ => F9
    with_reducible rename News _ _ _ _ => N9
    exact h _ _ _ _ hps (fr_over F9) (List.forall_mem_cons.mpr ⟨N9 _ (by k_mem), List.forall_mem_cons.mpr ⟨N9 _ (by k_mem), List.forall_mem_cons.mpr ⟨N9 _ (by k_mem), List.forall_mem_nil _⟩⟩⟩)
end
end
end Mine
namespace Mine
section
open PySem PySem.W PyProof.Rows PySem.Calls PyProof
set_option maxRecDepth 100000
set_option maxHeartbeats 8000000
local macro_rules | `(tactic| walk_at "getAttr ref") => `(tactic| (k_here; k_dflt (refine' ga_attrK ?k1 ?k2 ?k3 ?_; (case k1 => k_asm); (case k2 => k_asm); (case k3 => k_mem); k_whole); intro b' h' F' N' l1; (try k_lt l1); (try k_sweep)))
local macro_rules | `(tactic| walk_at "exec Assign") => `(tactic| first | ((with_reducible show wpAny _ _ (exec (Stmt.Assign [PySem.Expr.Name (Str.ofString "stuff") _] (PySem.Expr.Call (PySem.Expr.Attribute (PySem.Expr.Name (Str.ofString "_twin_re_1") _) _ _) _ _ _) _) _) _ _ _); refine stop ?_) | (refine wpAny_Assign_Name ?_))
local macro_rules | `(tactic| walk_at "subscriptTail Name Slice str ref") => `(tactic| refine stop ?_)
local macro_rules | `(tactic| walk_at "compareOp NotIn str str") => `(tactic| (k_dflt (refine notIn_none (by decide +kernel) ?_)))
local macro_rules | `(tactic| walk_at "call builtin:str.replace") => `(tactic| (k_dflt (refine repl_none (by decide +kernel) ?_)))
local macro_rules | `(tactic| walk_at "callWith ref") => `(tactic| (k_here; k_dflt (refine' ga_callWith ?k1 ?k2 ?_; (case k1 => k_asm); (case k2 => k_mem); k_whole)))
local macro_rules | `(tactic| walk_at "StandB") => `(tactic| (k_dflt (exact News.get (by k_asm) (by k_mem))))
local macro_rules | `(tactic| walk_at "call ref") => `(tactic| (k_here; k_dflt (refine' ga_callK ?k1 ?k2 ?kb ?k3 ?kz ?_; (case k1 => k_asm); (case k2 => k_asm); (case kb => k_mem); (case k3 => k_upd); (case kz => first | size_fits | exact Nat.le_of_ble_eq_true rfl); intro h' F' N'; (try k_sweep))))
/-- the turn of the bracket -/
theorem tr_brk {w : World} {mean : ExcName → Option Value} {mg mb : Str → Option Value} {dp un : Nat} {gd : Option (List Code)} {outer : List Env} {A₀ : Around} {base g : Heap} {L' st R B : Addr} {tp tq ti tn : Tok} {k : Nat} {ps : Array Value} {s : Shared} {Q : Flow → Shared → Prop} {rest : Str → Option Value}
    (B' : Below A₀ base outer g) (F' : Fr g L' s.heap (trM ⟨Str.ofString "*[é€]", tp, st, tq, R, B, 5, tn⟩ 1 ti rest)) (N' : News g L' s.heap (trLed ⟨Str.ofString "*[é€]", tp, st, tq, R, B, 5, tn⟩ [.ref st] k ps)) (X' : (KK w.params).In g) (T' : Top q0 (looseW q0 loose0) mean mg mb g)
    (hd : dp + 3 < recursionLimit) (hu : un + 24 < cLine) (hps : TabOk ps) (d1 : @Ne Nat B R) (d2 : @Ne Nat R 64) (d3 : @Ne Nat B 64)
    (h : ∀ rest h' tk' k' t t1 ps', TabOk ps' → Fr g L' h' (trM ⟨Str.ofString "*[é€]", tp, st, tq, R, B, 5, tn⟩ 5 t1 rest) → News g L' h' (trLed ⟨Str.ofString "*[é€]", tp, st, tq, R, B, 5, tn⟩ [.ref st, .str (Str.ofString "[é€]") t] k' ps') → Q .next { s with heap := h', toks := tk' }) :
    wpAny (model (OpenLaw.prog PySem.Challenge.rw_rt0055_01) w) (ktrTop dp un gd (Str.ofString "_translate") trScope L' 69 (.ref 68) [] outer) (execs trBody (envX (Str.ofString "_translate") trScope L' 69 (.ref 68) [])) Q (fun _ _ => False) s := by
  revert X'
  k_fill
  intro X'
  unfold trM at F'
  unfold trLed at N'
  unfold trScope trBody
  dsimp only at F' N' ⊢
  w_on
  (try k_fold)
  k_steps
  refine Stop.go ?_
  with_reducible rename Fr _ _ _ _ => F0
  with_reducible rename News _ _ _ _ => N0
  refine slice_strN_ss (hsz := ?hsz) (s := ⟨_, _, _, _, _⟩) F0 N0 ?_
  case hsz => size_fits
  intro h1 t1 k1 F1 N1
  clear F0 N0
  have e9 : ∀ (y : Str) (a b : Int), y = Str.ofString "*[é€]" → a = 2 → b = 4 → Txt.slice y (some a) (some b) = Str.ofString "é€" := by
    intro y a b hy ha hb
    subst hy
    subst ha
    subst hb
    decide +kernel
  rw [e9 _ _ _ (by decide +kernel) (by decide) (by decide)]
  clear e9
  (try dsimp only)
  (try k_fold)
  k_steps
  refine Stop.go ?_
  with_reducible rename Fr _ _ _ _ => F0
  with_reducible rename News _ _ _ _ => N0
  refine tr_sub (s := ⟨_, _, _, _, _⟩) (c := ⟨Str.empty, 0, 0, 0, _, _, 0, 0⟩) B' F0 rfl (List.forall_mem_cons.mpr ⟨N0 (_, boundApp _) (by k_mem), List.forall_mem_cons.mpr ⟨N0 (_, listOf _ _) (by k_mem), List.forall_mem_cons.mpr ⟨N0 _ (by k_mem), List.forall_mem_nil _⟩⟩⟩) X' T' (by omega) (by omega) hps (by k_ne) (by k_ne) ?_
  clear F0 N0
  intro h7 tk7 t7 ps7 hps7 F7 N7
  unfold trLed at N7
  (try dsimp only at N7)
  (try dsimp only)
  (try k_fold)
  k_steps
  with_reducible rename Fr _ _ _ _ => F9
  with_reducible rename News _ _ _ _ => N9
  have e1 : Fr g L' _ _ := fr_trM (⟨Str.ofString "*[é€]", tp, st, tq, R, B, 5, tn⟩ : TrN) (i := 5) F9 rfl rfl rfl rfl rfl rfl rfl
  have e9 : Str.empty ++ Str.ofString "[" ++ Str.ofString "é€" ++ Str.ofString "]" = Str.ofString "[é€]" := by decide +kernel
  rw [e9, List.push_toArray] at N9
  exact h _ _ _ _ _ _ _ hps7 e1 (List.forall_mem_cons.mpr ⟨N9 (_, boundApp _) (by k_mem), List.forall_mem_cons.mpr ⟨N9 (_, listOf _ _) (by k_mem), List.forall_mem_cons.mpr ⟨N9 (_, tabObj _) (by k_mem), List.forall_mem_nil _⟩⟩⟩)
theorem loop_brk : LoopT (Str.ofString "*[é€]") [none, some (Str.ofString "[é€]")] := by
  intro w mean mg mb dp un gd outer A₀ base g L' c ps k ti rest s Q hps B' X' T' hd hu e1 e2 d1 d2 d3 F N fin kk
  obtain ⟨pat, tp, st, tq, R, B, n, tn⟩ := c
  dsimp only at *
  have e3 : n = 5 := e2.trans (by decide +kernel)
  subst e1
  subst e3
  clear e2
  show WhlRest _ _ _ _ _ _ _ _ _ (2 + 1) _
  refine whl_turn (fun _ _ x => x.elim) (tr_test F fun tk' => WhlIf.yes (by exact rfl) ?_)
  refine tr_star0 (vs := []) (s := { s with toks := tk' }) B' F N X' T' hd hu (by decide) (by dsimp only; decide +kernel) (by dsimp only; decide +kernel) (Nat.zero_le _) d1 d2 d3 (by dsimp only; decide +kernel) ?_
  clear F N
  intro rest' h' tk'' k' t F N
  show WhlRest _ _ _ _ _ _ _ _ _ (1 + 1) _
  refine whl_turn (fun _ _ x => x.elim) (tr_test F fun tk' => WhlIf.yes (by exact rfl) ?_)
  refine tr_brk (s := { heap := h', gens := s.gens, drawn := s.drawn, toks := tk', os := s.os }) B' F N X' T' hd hu hps d1 d2 d3 ?_
  clear F N
  intro rest' h' tk'' k' t t1 ps' hps' F N
  show WhlRest _ _ _ _ _ _ _ _ _ (0 + 1) _
  refine whl_turn (fun _ _ x => x.elim) (tr_test F fun tk' => WhlIf.no (by exact rfl) (wpAny_execs_nil ?_))
  exact fin rest' h' tk' _ _ t1 ps' hps' (.star (.text _ _ .nil)) F N
theorem con_tr4 (st : Addr) (t u : Tok) : ConT 4 69 [.str (Str.ofString "*[é€]") t, .ref st, .str (Str.ofString ".") u] (TrR st [none, some (Str.ofString "[é€]")]) := con_loop _ _ st t u loop_brk (by decide +kernel)
end
end Mine
namespace Mine
section
open PySem PySem.W PyProof.Rows PySem.Calls PyProof
set_option maxRecDepth 100000
set_option maxHeartbeats 8000000
local macro_rules | `(tactic| walk_at "exec For Name Call cons nil") => `(tactic| refine stop ?_)
local macro_rules | `(tactic| walk_at "exec For Name Name cons nil") => `(tactic| refine stop ?_)
local macro_rules | `(tactic| walk_at "exec For Name BinOp cons nil") => `(tactic| refine stop ?_)
local macro_rules | `(tactic| walk_at "InvEndN") => `(tactic| refine stop ?_)
local macro_rules | `(tactic| walk_at "call builtin:list.append") => `(tactic| refine stop ?_)
local macro_rules | `(tactic| walk_at "call builtin:list.pop") => `(tactic| refine stop ?_)
local macro_rules | `(tactic| walk_at "call builtin:list.extend") => `(tactic| refine stop ?_)
local macro_rules | `(tactic| walk_at "subscriptTail Name UnaryOp ref int") => `(tactic| refine stop ?_)
local macro_rules | `(tactic| walk_at "pyIter ref") => `(tactic| refine stop ?_)
local macro_rules | `(tactic| walk_at "pyIter str") => `(tactic| refine stop ?_)
local macro_rules | `(tactic| walk_at "exec Assign cons ListComp") => `(tactic| refine stop ?_)
local macro_rules | `(tactic| walk_at "call ref") => `(tactic| refine stop ?_)
theorem is_sr {prog : Program} {w : World} {A : Around} {E : Value → Shared → Prop} {s : Shared} {x : Str} {t : Tok} {a : Addr} {Q : Value → Shared → Prop} (h : Q (.bool false) s) : wpAny (model prog w) A (compareOp .Is (.str x t) (.ref a)) Q E s :=
  wpAny_of_eq (a := .bool false) rfl h
local macro_rules | `(tactic| walk_at "compareOp Is str ref") => `(tactic| (k_dflt (refine is_sr ?_)))
local macro_rules | `(tactic| walk_at "CompSrcT") => `(tactic| refine stop ?_)
local macro_rules | `(tactic| walk_at "compareOp NotEq ref ref") => `(tactic| refine stop ?_)
local macro_rules | `(tactic| walk_at "CompEnd") => `(tactic| refine stop ?_)
theorem range1 {a : Int} {z : Nat} (h : a = (z : Int)) : Builtin.Range.rangeSize 0 a 1 = (z : Int) := by
  subst h; exact sw_range (wd := 1) (Nat.le_refl _) (Nat.mul_one _).symm
def natsTo (n : Nat) : List Int := (List.range n).map fun (k : Nat) => (k : Int)
theorem natsTo_length (n : Nat) : (natsTo n).length = n := by simp [natsTo]
theorem natsTo_at {n i : Nat} (h : i < n) : (natsTo n)[i]? = some (i : Int) := by simp [natsTo, h]
theorem natsTo_in {n : Nat} {k : Int} (h : k ∈ natsTo n) : 0 ≤ k ∧ k < (n : Int) := by
  simp only [natsTo, List.mem_map, List.mem_range] at h
  obtain ⟨i, hi, rfl⟩ := h
  omega
def fromHead (es : List Int) (e : Int) : Bool := match es with | [] => false | a :: _ => decide (a ≤ e)
/-- what a part of the rule makes of the ends -/
def stepF (text : Str) (ends : List Int) : Option Str → List Int
  | none => ((natsTo (text.length + 1)).filter (fromHead ends)).map fun e => e
  | some part => (ends.filter fun e => decide (e < (text.length : Int)) && takesOf part (Txt.item text e)).map fun e => e + 1
theorem ends_nonneg (text : Str) : ∀ (ds : List (Option Str)) (es : List Int), (∀ e ∈ es, 0 ≤ e) → ∀ e ∈ ds.foldl (stepF text) es, 0 ≤ e
  | [], _, h => h
  | none :: ds, es, h => ends_nonneg text ds _ fun e he => by
    simp only [stepF, List.mem_map, List.mem_filter] at he
    obtain ⟨e', ⟨h1, _⟩, rfl⟩ := he
    exact (natsTo_in h1).1
  | some x :: ds, es, h => ends_nonneg text ds _ fun e he => by
    simp only [stepF, List.mem_map, List.mem_filter] at he
    obtain ⟨e', ⟨h1, _⟩, rfl⟩ := he
    have := h e' h1
    omega
theorem ends_len (text : Str) : ∀ (ds : List (Option Str)) (es : List Int), es.length ≤ text.length + 1 → (ds.foldl (stepF text) es).length ≤ text.length + 1
  | [], _, h => h
  | none :: ds, es, h => ends_len text ds _ (by
    simp only [stepF, List.length_map]
    exact Nat.le_trans (List.length_filter_le _ _) (Nat.le_of_eq (natsTo_length _)))
  | some x :: ds, es, h => ends_len text ds _ (by
    simp only [stepF, List.length_map]
    exact Nat.le_trans (List.length_filter_le _ _) h)
structure FSt where
  a : Addr
  vs : List Value
  n : Nat
  oE : Obj
  oP : Obj
def endsOf (text : Str) (ds : List (Option Str)) : List Int := ds.foldl (stepF text) [0]
def fitsOf (text : Str) (ds : List (Option Str)) : Bool := (endsOf text ds).any fun e => e == (text.length : Int)
theorem ends_snoc {text : Str} {ds : List (Option Str)} {d : Option Str} {i : Nat} (h : ds[i]? = some d) : endsOf text (ds.take (i + 1)) = stepF text (endsOf text (ds.take i)) d := by
  unfold endsOf
  rw [List.take_add_one, h]
  simp [List.foldl_append]
theorem items_len {st : Addr} {vs : List Value} {ds : List (Option Str)} (h : ItemsAre st vs ds) : vs.length = ds.length := by
  induction h with
  | nil => rfl
  | star _ ih => simp [ih]
  | text x t _ ih => simp [ih]
theorem items_at {st : Addr} {vs : List Value} {ds : List (Option Str)} (h : ItemsAre st vs ds) : ∀ {i : Nat} {v : Value}, vs[i]? = some v → (v = .ref st ∧ ds[i]? = some none) ∨ ∃ x t, v = .str x t ∧ ds[i]? = some (some x) := by
  induction h with
  | nil => intro i v hv; simp at hv
  | star _ ih =>
    intro i v hv
    cases i with
    | zero => exact .inl ⟨by simpa using hv.symm, rfl⟩
    | succ i => exact ih (by simpa using hv)
  | text x t _ ih =>
    intro i v hv
    cases i with
    | zero => exact .inr ⟨x, t, by simpa using hv.symm, rfl⟩
    | succ i => exact ih (by simpa using hv)
end
end Mine
namespace Mine
section
open PySem PySem.W PyProof.Rows PySem.Calls PyProof
set_option maxRecDepth 100000
set_option maxHeartbeats 8000000
local macro_rules | `(tactic| walk_at "exec For Name Call cons nil") => `(tactic| refine stop ?_)
local macro_rules | `(tactic| walk_at "exec For Name Name cons nil") => `(tactic| refine stop ?_)
local macro_rules | `(tactic| walk_at "exec For Name BinOp cons nil") => `(tactic| refine stop ?_)
local macro_rules | `(tactic| walk_at "InvEndN") => `(tactic| refine stop ?_)
local macro_rules | `(tactic| walk_at "call builtin:list.append") => `(tactic| refine stop ?_)
local macro_rules | `(tactic| walk_at "call builtin:list.pop") => `(tactic| refine stop ?_)
local macro_rules | `(tactic| walk_at "call builtin:list.extend") => `(tactic| refine stop ?_)
local macro_rules | `(tactic| walk_at "subscriptTail Name UnaryOp ref int") => `(tactic| refine stop ?_)
local macro_rules | `(tactic| walk_at "pyIter ref") => `(tactic| refine stop ?_)
local macro_rules | `(tactic| walk_at "pyIter str") => `(tactic| refine stop ?_)
local macro_rules | `(tactic| walk_at "exec Assign cons ListComp") => `(tactic| refine stop ?_)
local macro_rules | `(tactic| walk_at "call ref") => `(tactic| refine stop ?_)
local macro_rules | `(tactic| walk_at "compareOp Is str ref") => `(tactic| (k_dflt (refine is_sr ?_)))
local macro_rules | `(tactic| walk_at "CompSrcT") => `(tactic| refine stop ?_)
local macro_rules | `(tactic| walk_at "compareOp NotEq ref ref") => `(tactic| refine stop ?_)
local macro_rules | `(tactic| walk_at "CompEnd") => `(tactic| refine stop ?_)
theorem con_fitsT (glob : Str) (ds : List (Option Str)) (text : Str) (t u : Tok) (ht : ∀ st t u, ConT 4 69 [.str glob t, .ref st, .str (Str.ofString ".") u] (TrR st ds)) (hg : glob.length ≤ 1000) (hds : ds.length ≤ 10) (hdl : ∀ x, some x ∈ ds → x.length ≤ 1000) (hl : text.length ≤ 1000) :
    ConT 12 213 [.str glob t, .str text u] (fun _ _ v => v = .bool (fitsOf text ds)) := by
  w_on
  refine' conT_C (D := 11) ?ho ?hcd ?hb ?hl ?hnd ?c1 ?c2 ?c3 ?_
  case ho => intro P; exact rfl
  case hcd => intro P; exact rfl
  case hb => exact rfl
  case hl => exact rfl
  case hnd => decide +kernel
  case c1 => exact rfl
  case c2 => exact rfl
  case c3 => exact rfl
  k_fill
  intro w mean mg mb dp un gd outer A₀ base g h₁ L' s tk ps cells' hps B' F' N' g64 Y' X' T' hd hu
  k_cells Y'
  (try simp only [List.cons_append, List.nil_append, List.append_nil] at N')
  (try k_fold)
  have g3 : @Ne Nat (L' + 1 + 1 + 1) 64 := g64 _ (.head _)
  have g2 : @Ne Nat (L' + 1 + 1) 64 := g64 _ (.tail _ (.head _))
  have g1 : @Ne Nat (L' + 1) 64 := g64 _ (.tail _ (.tail _ (.head _)))
  clear g64
  k_steps
  refine Stop.go ?_
  refine wpAny_For ?_
  k_steps
  refine Stop.go ?_
  refine' use_conT (ht _ _ _) ?k1 ?k2 ?k3 ?k4 ?kU hps ?k5 ?kK ?kd ?ku ?_
  case k1 => k_asm
  case k2 => k_asm
  case k3 => k_asm
  case k4 => k_asm
  case kU => k_updF
  case k5 => k_asm
  case kK => first | exact rfl | assumption
  case kd => ktr_room
  case ku => ktr_units
  clear hps
  intro g8 v9 h9 tk9 ps9 hps F0 K9 hv F9 N9
  obtain ⟨a9, vs9, n9, rfl, hn9, hl9, hi9⟩ := hv
  obtain ⟨vsl, rfl⟩ : ∃ vl : List Value, vs9 = vl.toArray := ⟨vs9.toList, by simp⟩
  have N8 := news_add F0 N9 hn9 hl9
  clear N9 F0 K9 hn9 hl9
  (try dsimp only)
  (try dsimp only at hi9)
  (try dsimp only at N8)
  refine' loop_cell (σ := FSt) (fun c => [(_, listOf vsl.toArray n9), (c.a, listOf c.vs.toArray c.n), (_, listOf #[Value.str (Str.ofString "a star of the law's own") _] 0), (_, c.oP), (_, c.oE), (_, _), (64, tabObj ps9)])
    (fun i c => IntsAre c.vs (endsOf text (ds.take i)) ∧ (∃ v, c.oP.data = .cell v) ∧ c.oE.data = .cell (some (.ref c.a))) ⟨_, [.int 0 _], 0, _, _⟩ rfl (fun c => .head _) F9 N8 ⟨.cons _ _ .nil, ⟨_, by assumption⟩, by assumption⟩ ?turn ?done
  case turn =>
    intro i v c h2 tk2 I oI hcI hdI hvi hoff hP F2 N2
    obtain ⟨a, vs, n, oE, oP⟩ := c
    obtain ⟨hP1, ⟨vp, hP2⟩, hP3⟩ := hP
    dsimp only at hP1 hP2 hP3 N2 F2 hoff
    simp only [List.cons_append, List.nil_append] at N2
    have q03 := cell_ne N2 (.head _) (.tail _ (.tail _ (.tail _ (.head _)))) hP2 (fun _ e => nomatch e)
    have q04 := cell_ne N2 (.head _) (.tail _ (.tail _ (.tail _ (.tail _ (.head _))))) hP3 (fun _ e => nomatch e)
    have q05 := cell_ne N2 (.head _) (.tail _ (.tail _ (.tail _ (.tail _ (.tail _ (.head _)))))) (by assumption) (fun _ e => nomatch e)
    have q13 := cell_ne N2 (.tail _ (.head _)) (.tail _ (.tail _ (.tail _ (.head _)))) hP2 (fun _ e => nomatch e)
    have q14 := cell_ne N2 (.tail _ (.head _)) (.tail _ (.tail _ (.tail _ (.tail _ (.head _))))) hP3 (fun _ e => nomatch e)
    have q15 := cell_ne N2 (.tail _ (.head _)) (.tail _ (.tail _ (.tail _ (.tail _ (.tail _ (.head _)))))) (by assumption) (fun _ e => nomatch e)
    have q23 := cell_ne N2 (.tail _ (.tail _ (.head _))) (.tail _ (.tail _ (.tail _ (.head _)))) hP2 (fun _ e => nomatch e)
    have q24 := cell_ne N2 (.tail _ (.tail _ (.head _))) (.tail _ (.tail _ (.tail _ (.tail _ (.head _))))) hP3 (fun _ e => nomatch e)
    have q25 := cell_ne N2 (.tail _ (.tail _ (.head _))) (.tail _ (.tail _ (.tail _ (.tail _ (.tail _ (.head _)))))) (by assumption) (fun _ e => nomatch e)
    have q63 := cell_ne N2 (.tail _ (.tail _ (.tail _ (.tail _ (.tail _ (.tail _ (.head _))))))) (.tail _ (.tail _ (.tail _ (.head _)))) hP2 (fun _ e => nomatch e)
    have q64 := cell_ne N2 (.tail _ (.tail _ (.tail _ (.tail _ (.tail _ (.tail _ (.head _))))))) (.tail _ (.tail _ (.tail _ (.tail _ (.head _))))) hP3 (fun _ e => nomatch e)
    have q65 := cell_ne N2 (.tail _ (.tail _ (.tail _ (.tail _ (.tail _ (.tail _ (.head _))))))) (.tail _ (.tail _ (.tail _ (.tail _ (.tail _ (.head _)))))) (by assumption) (fun _ e => nomatch e)
    have q73 := cell_ne N2 (.tail _ (.tail _ (.tail _ (.tail _ (.tail _ (.tail _ (.tail _ (.head _)))))))) (.tail _ (.tail _ (.tail _ (.head _)))) hP2 hdI
    have q74 := cell_ne N2 (.tail _ (.tail _ (.tail _ (.tail _ (.tail _ (.tail _ (.tail _ (.head _)))))))) (.tail _ (.tail _ (.tail _ (.tail _ (.head _))))) hP3 hdI
    have q75 := cell_ne N2 (.tail _ (.tail _ (.tail _ (.tail _ (.tail _ (.tail _ (.tail _ (.head _)))))))) (.tail _ (.tail _ (.tail _ (.tail _ (.tail _ (.head _)))))) (by assumption) hdI
    have i0 := hoff _ (.head _)
    have i2 := hoff _ (.tail _ (.tail _ (.head _)))
    have i3 := hoff _ (.tail _ (.tail _ (.tail _ (.head _))))
    have i4 := hoff _ (.tail _ (.tail _ (.tail _ (.tail _ (.head _)))))
    have i5 := hoff _ (.tail _ (.tail _ (.tail _ (.tail _ (.tail _ (.head _))))))
    have i6 := hoff _ (.tail _ (.tail _ (.tail _ (.tail _ (.tail _ (.tail _ (.head _)))))))
    dsimp only at i0 i2 i3 i4 i5 i6
    clear F9 N8
    refine wpAny_assign_Name ?_
    rcases items_at hi9 hvi with ⟨rfl, hd⟩ | ⟨x, tx, rfl, hd⟩
    · k_steps
      refine Stop.go ?_
      with_reducible rename Fr _ _ _ _ => F0
      with_reducible rename News _ _ _ _ => N0
      refine wpAny_Assign_Name ?_
      refine LCt.ListComp_T (F₀ := F0) (by with_unfolding_all rfl) (by decide) (by rfl) (by decide) (by rfl) ?_
      k_steps
      refine Stop.go ?_
      with_reducible rename Fr _ _ _ _ => F3
      with_reducible rename News _ _ _ _ => N3
      with_reducible rename IsRange _ _ _ _ _ _ _ _ => R3
      refine LCt.CompSrcT.range rfl F3 N3 R3 (small_one (by omega) (by omega) (by omega) (by omega)) (range1 (z := text.length + 1) (by omega)) (by rw [sizeLine_eq]; omega) ?_
      intro g9
      refine restT_ints (ks := natsTo (text.length + 1)) (fromHead (endsOf text (ds.take i))) (fun e => e) (natsTo_length _) (fun j v hj hv => ?_) (fun k hk => ?_) ?_
      · obtain ⟨t5, rfl⟩ := hv
        exact ⟨_, t5, natsTo_at hj, by rw [Int.zero_add]⟩
      · intro t5 I5 oI5 C5 oC5 D5 m5 ys5 h5 tk5 E5 hC5 hx5 F5 N5 off5 ne5
        simp only [LCg.Off3, and_true] at off5
        clear F3 N3 R3
        (try clear F0)
        (try clear N0)
        (rename IntsAre _ (endsOf text (List.take i ds)) => hQ1)
        generalize endsOf text (ds.take i) = es at hQ1
        cases hQ1 with
        | nil =>
          k_steps
          refine Stop.go ?_
          with_reducible rename News _ _ _ _ => N7
          refine ke_ne_ints (N7.isList (a := a) (by k_mem)) (N7.isList (.head _)) .nil .nil (by show un + 64 < cLine; omega) ?_
          rw [show (!decide (([] : List Int) = [])) = false from rfl]
          k_steps
          refine Stop.go ?_
          with_reducible rename Fr _ _ _ _ => F8
          with_reducible rename News _ _ _ _ => N8
          exact LCg.CompEnd.intro F8 N8 _ (by kcf_all) (by simp only [LCg.Off3, and_true]; assumption) trivial ⟨rfl, rfl⟩
        | cons e0 te0 hQ1 =>
          k_steps
          refine Stop.go ?_
          with_reducible rename News _ _ _ _ => N7
          refine ke_ne_ints (N7.isList (a := a) (by k_mem)) (N7.isList (.head _)) (.cons e0 te0 hQ1) .nil (by show un + 64 < cLine; omega) ?_
          rw [show (!decide ((e0 :: _ : List Int) = [])) = true by simp]
          k_steps
          · refine Stop.go ?_
            with_reducible rename Fr _ _ _ _ => F8
            with_reducible rename News _ _ _ _ => N8
            exact LCg.CompEnd.intro F8 N8 _ (by kcf_all) (by simp only [LCg.Off3, and_true]; assumption) trivial ⟨rfl, (by (rename List.getD _ _ _ ≤ _ => hle); exact decide_eq_true hle), _, rfl⟩
          · refine Stop.go ?_
            with_reducible rename Fr _ _ _ _ => F8
            with_reducible rename News _ _ _ _ => N8
            exact LCg.CompEnd.intro F8 N8 _ (by kcf_all) (by simp only [LCg.Off3, and_true]; assumption) trivial ⟨rfl, (by first | ((rename ¬ (List.getD _ _ _ ≤ _) => hlt); exact decide_eq_false hlt) | ((rename decide (List.getD _ _ _ ≤ _) = false => hlt); exact hlt) | ((rename _ < List.getD _ _ _ => hlt); exact decide_eq_false (Int.not_le.mpr hlt)) | ((rename _ + 1 ≤ List.getD _ _ _ => hlt); exact decide_eq_false (Int.not_le.mpr hlt)))⟩
      · intro ys5 hys5
        unfold LCg.FinE
        intro D7 h7 tk7 F7 N7 off7
        clear F3 N3 R3
        (try clear F0)
        (try clear N0)
        simp only [LCg.Off1, and_true] at off7
        have hDI : @Ne Nat I D7 := by omega
        (try dsimp only)
        (try k_fold)
        k_steps
        with_reducible rename Fr _ _ _ _ => F8
        with_reducible rename News _ _ _ _ => N8
        refine' endC_in ⟨D7, ys5, ys5.length, ?oE9, ?oP9⟩ F8 N8 ?sub9 ?I9 ?off9 ?p9
        case sub9 => exact List.forall_mem_cons.mpr ⟨by k_mem, List.forall_mem_cons.mpr ⟨by k_mem, List.forall_mem_cons.mpr ⟨by k_mem, List.forall_mem_cons.mpr ⟨by k_mem, List.forall_mem_cons.mpr ⟨by k_mem, List.forall_mem_cons.mpr ⟨by k_mem, List.forall_mem_cons.mpr ⟨by k_mem, List.forall_mem_nil _⟩⟩⟩⟩⟩⟩⟩
        case I9 => k_mem
        case off9 => exact List.forall_mem_cons.mpr ⟨i0, List.forall_mem_cons.mpr ⟨Ne.symm hDI, List.forall_mem_cons.mpr ⟨i2, List.forall_mem_cons.mpr ⟨i3, List.forall_mem_cons.mpr ⟨i4, List.forall_mem_cons.mpr ⟨i5, List.forall_mem_cons.mpr ⟨i6, List.forall_mem_nil _⟩⟩⟩⟩⟩⟩⟩
        case p9 => exact ⟨by rw [ends_snoc hd]; exact hys5, ⟨_, by assumption⟩, by assumption⟩
    · have hxl := hdl x (List.mem_of_getElem? hd)
      k_steps
      refine Stop.go ?_
      with_reducible rename Fr _ _ _ _ => F0
      with_reducible rename News _ _ _ _ => N0
      (rename IntsAre _ (endsOf text (List.take i ds)) => hQ1)
      have hQl := hQ1.length
      have hn0 := ends_nonneg text (ds.take i) [0] (by simp)
      have hn0 : ∀ e ∈ endsOf text (ds.take i), 0 ≤ e := hn0
      have hlen : (endsOf text (ds.take i)).length ≤ text.length + 1 := ends_len text (ds.take i) [0] (by simp)
      have hnext : ∀ vs' : List Value, IntsAre vs' (stepF text (endsOf text (ds.take i)) (some x)) → IntsAre vs' (endsOf text (ds.take (i + 1))) := fun vs' h => by
        rw [ends_snoc hd]; exact h
      generalize endsOf text (ds.take i) = es at hQ1 hQl hn0 hlen hnext
      refine wpAny_Assign_Name ?_
      refine LCt.ListComp_T (F₀ := F0) (by with_unfolding_all rfl) (by decide) (by rfl) (by decide) (by rfl) ?_
      k_steps
      refine Stop.go ?_
      with_reducible rename Fr _ _ _ _ => F3
      with_reducible rename News _ _ _ _ => N3
      refine LCt.CompSrcT.ledger rfl F3 N3 (by k_mem) (by rw [sizeLine_eq, List.size_toArray]; omega) ?_
      intro g9
      refine restT_ints (ks := es) (fun e => decide (e < (text.length : Int)) && takesOf x (Txt.item text e)) (fun e => e + 1) (by rw [List.size_toArray]; exact hQl.symm) (fun j v hj hv => ?_) (fun k hk => ?_) ?_
      · obtain ⟨k5, t5, e5, hk5⟩ := IntsAre.at hQ1 j v (by simpa using hv)
        exact ⟨k5, t5, hk5, e5⟩
      · intro t5 I5 oI5 C5 oC5 D5 m5 ys5 h5 tk5 E5 hC5 hx5 F5 N5 off5 ne5
        simp only [LCg.Off3, and_true] at off5
        have hk0 := hn0 k hk
        clear F3 N3 hk
        (try clear F0)
        (try clear N0)
        k_steps
        · refine Stop.go ?_
          refine' use_con (con_takes x (Txt.item text k) _ _ hxl) ?k1 ?k2 ?k3 ?k4 ?k5 ?kK ?kd ?ku ?_
          case k1 => k_asm
          case k2 => k_asm
          case k3 => k_asm
          case k4 => k_asm
          case k5 => k_asm
          case kK => first | exact rfl | assumption
          case kd => ktr_room
          case ku => ktr_units
          intro t9 h9 tk9 F9 N9
          (try dsimp only)
          (try k_fold)
          k_steps
          · refine Stop.go ?_
            with_reducible rename Fr _ _ _ _ => F8
            with_reducible rename News _ _ _ _ => N8
            exact LCg.CompEnd.intro F8 N8 _ (by kcf_all) (by simp only [LCg.Off3, and_true]; assumption) (.inr ⟨_, by k_mem, rfl, _, rfl⟩) ⟨rfl, (by (rename takesOf _ _ = true => htr); (rename k < _ => hlt); rw [decide_eq_true hlt, htr]; rfl), _, rfl⟩
          · refine Stop.go ?_
            with_reducible rename Fr _ _ _ _ => F8
            with_reducible rename News _ _ _ _ => N8
            exact LCg.CompEnd.intro F8 N8 _ (by kcf_all) (by simp only [LCg.Off3, and_true]; assumption) (.inr ⟨_, by k_mem, rfl, _, rfl⟩) ⟨rfl, (by (rename takesOf _ _ = false => htr); rw [htr, Bool.and_false])⟩
        · refine Stop.go ?_
          with_reducible rename Fr _ _ _ _ => F8
          with_reducible rename News _ _ _ _ => N8
          exact LCg.CompEnd.intro F8 N8 _ (by kcf_all) (by simp only [LCg.Off3, and_true]; assumption) (.inr ⟨_, by k_mem, rfl, _, rfl⟩) ⟨rfl, (by rw [decide_eq_false (by omega), Bool.false_and])⟩
      · intro ys5 hys5
        unfold LCg.FinE
        intro D7 h7 tk7 F7 N7 off7
        clear F3 N3
        (try clear F0)
        (try clear N0)
        simp only [LCg.Off1, and_true] at off7
        have hDI : @Ne Nat I D7 := by omega
        (try dsimp only)
        (try k_fold)
        k_steps
        with_reducible rename Fr _ _ _ _ => F8
        with_reducible rename News _ _ _ _ => N8
        refine' endC_in ⟨D7, ys5, ys5.length, ?oE8, ?oP8⟩ F8 N8 ?sub8 ?I8 ?off8 ?p8
        case sub8 => exact List.forall_mem_cons.mpr ⟨by k_mem, List.forall_mem_cons.mpr ⟨by k_mem, List.forall_mem_cons.mpr ⟨by k_mem, List.forall_mem_cons.mpr ⟨by k_mem, List.forall_mem_cons.mpr ⟨by k_mem, List.forall_mem_cons.mpr ⟨by k_mem, List.forall_mem_cons.mpr ⟨by k_mem, List.forall_mem_nil _⟩⟩⟩⟩⟩⟩⟩
        case I8 => k_mem
        case off8 => exact List.forall_mem_cons.mpr ⟨i0, List.forall_mem_cons.mpr ⟨Ne.symm hDI, List.forall_mem_cons.mpr ⟨i2, List.forall_mem_cons.mpr ⟨i3, List.forall_mem_cons.mpr ⟨i4, List.forall_mem_cons.mpr ⟨i5, List.forall_mem_cons.mpr ⟨i6, List.forall_mem_nil _⟩⟩⟩⟩⟩⟩⟩
        case p8 => exact ⟨hnext _ hys5, ⟨_, by assumption⟩, by assumption⟩
  case done =>
    intro c h2 tk2 hP F2 N2
    obtain ⟨a, vs, n, oE, oP⟩ := c
    obtain ⟨hP1, ⟨vp, hP2⟩, hP3⟩ := hP
    dsimp only at hP1 hP2 hP3 N2 F2
    clear F9 N8
    k_steps
    have hvl : vsl.length = ds.length := items_len hi9
    rw [hvl, List.take_length]
    with_reducible rename Fr _ _ _ _ => F9
    with_reducible rename News _ _ _ _ => N9
    exact retT_in F9 N9 (by k_mem) hps rfl
end
end Mine
namespace Mine
section
open PySem PySem.W PyProof.Rows PySem.Calls PyProof
set_option maxRecDepth 100000
set_option maxHeartbeats 8000000
local macro_rules | `(tactic| walk_at "eval BoolOp") => `(tactic| refine stop ?_)
local macro_rules | `(tactic| walk_at "compareOp In str ref") => `(tactic| refine stop ?_)
def saidOf (place : Str) : List Bool :=
  [Txt.slice place none (some 4) == Str.ofString "/r/a", (Txt.slice place (some (-4)) (some (-2)) == Str.ofString "/b" && Txt.item place (-1) == Str.ofString "c"),
   (Txt.slice place none (some 3) == Str.ofString "/r/" && Txt.contains (Txt.slice place (some 3) none) (Str.ofString "/")), [(⟨#[233]⟩ : Str), ⟨#[8364]⟩].any (· == Txt.item place (-1)), true]
def SaidR (place : Str) (h h' : Heap) (v : Value) : Prop := ∃ a n, v = .ref a ∧ h.get? a = none ∧ h'.get? a = some (listOf ((saidOf place).map Value.bool).toArray n)
theorem con_said (place : Str) (t : Tok) (hl : place.length ≤ 1000) (h1 : 1 ≤ place.length) : ConV 12 220 [.str place t] (SaidR place) := by
  w_on
  refine' conV_P (D := 11) ?ho ?hcd ?hb ?hl ?c1 ?c2 ?c3 ?c4 ?_
  case ho => intro P; exact rfl
  case hcd => intro P; exact rfl
  case hb => exact rfl
  case hl => exact locs rfl
  case c1 => exact rfl
  case c2 => exact rfl
  case c3 => exact rfl
  case c4 => decide
  k_fill
  intro w mean mg mb dp un gd outer A₀ base g h₁ L' s tk B' F' N' X' T' hd hu
  (try k_fold)
  k_steps
  refine Stop.go ?_
  with_reducible rename Fr _ _ _ _ => F0
  with_reducible rename News _ _ _ _ => N0
  refine cut (s := ⟨_, _, _, _, _⟩) F0 N0 (.bool (Txt.slice place (some (-4)) (some (-2)) == Str.ofString "/b" && Txt.item place (-1) == Str.ofString "c")) ?_ ?_
  · refine BoolOp_and ?_
    k_steps
    · refine Stop.go ?_
      refine BoolOp_one ?_
      k_steps
      with_reducible rename Fr _ _ _ _ => F8
      with_reducible rename News _ _ _ _ => N8
      refine cut_in F8 N8 (by kstt_sub) ?_
      simp only [*, Bool.true_and]
    · with_reducible rename Fr _ _ _ _ => F8
      with_reducible rename News _ _ _ _ => N8
      refine cut_in F8 N8 (by kstt_sub) ?_
      simp only [*, Bool.false_and]
  intro h3 k3 F3 N3
  clear F0 N0
  (try dsimp only)
  (try k_fold)
  k_steps
  refine Stop.go ?_
  with_reducible rename Fr _ _ _ _ => F0
  with_reducible rename News _ _ _ _ => N0
  refine cut (s := ⟨_, _, _, _, _⟩) F0 N0 (.bool (Txt.slice place none (some 3) == Str.ofString "/r/" && Txt.contains (Txt.slice place (some 3) none) (Str.ofString "/"))) ?_ ?_
  · refine BoolOp_and ?_
    k_steps
    · refine Stop.go ?_
      refine BoolOp_one ?_
      k_steps
      with_reducible rename Fr _ _ _ _ => F8
      with_reducible rename News _ _ _ _ => N8
      refine cut_in F8 N8 (by kstt_sub) ?_
      simp only [*, Bool.true_and]
      rfl
    · with_reducible rename Fr _ _ _ _ => F8
      with_reducible rename News _ _ _ _ => N8
      refine cut_in F8 N8 (by kstt_sub) ?_
      simp only [*, Bool.false_and]
  intro h4 k4 F4 N4
  clear F0 N0
  (try dsimp only)
  (try k_fold)
  k_steps
  refine Stop.go ?_
  with_reducible rename Fr _ _ _ _ => F5
  with_reducible rename News _ _ _ _ => N5
  refine in_list_strs (N5.isList (.head _)) (.cons _ _ (.cons _ _ .nil)) ?_
  (try dsimp only)
  (try k_fold)
  k_steps
  with_reducible rename Fr _ _ _ _ => F9
  with_reducible rename News _ _ _ _ => N9
  exact retV_in F9 ⟨_, _, rfl, N9.fresh (.head _), N9.get (.head _)⟩
end
end Mine
namespace Mine
section
open PySem PySem.W PyProof.Rows PySem.Calls PyProof
set_option maxRecDepth 100000
def ds1 : List (Option Str) := [some (Str.ofString "/"), some (Str.ofString "r"), some (Str.ofString "/"), some (Str.ofString "a"), none]
def ds2 : List (Option Str) := [none, some (Str.ofString "/"), some (Str.ofString "b"), some (Str.ofString "."), some (Str.ofString "c")]
def ds3 : List (Option Str) := [some (Str.ofString "/"), some (Str.ofString "r"), some (Str.ofString "/"), none, some (Str.ofString "/"), none]
def ds4 : List (Option Str) := [none, some (Str.ofString "[é€]")]
def ds5 : List (Option Str) := [none]
theorem ds_len {ds : List (Option Str)} (h : (ds.all fun d => match d with | none => true | some x => decide (x.length ≤ 1000)) = true) : ∀ x, some x ∈ ds → x.length ≤ 1000 := fun x hx => by
  have z := List.all_eq_true.mp h _ hx
  exact of_decide_eq_true z
theorem con_f1 {glob : Str} (text : Str) (t u : Tok) (hl : text.length ≤ 1000) (hg : glob = Str.ofString "/r/a*") : ConT 12 213 [.str glob t, .str text u] (fun _ _ v => v = .bool (fitsOf text ds1)) := by
  subst hg; exact con_fitsT _ ds1 text t u con_tr1 (by decide +kernel) (by decide +kernel) (ds_len (by decide +kernel)) hl
theorem con_f2 {glob : Str} (text : Str) (t u : Tok) (hl : text.length ≤ 1000) (hg : glob = Str.ofString "*/b?c") : ConT 12 213 [.str glob t, .str text u] (fun _ _ v => v = .bool (fitsOf text ds2)) := by
  subst hg; exact con_fitsT _ ds2 text t u con_tr2 (by decide +kernel) (by decide +kernel) (ds_len (by decide +kernel)) hl
theorem con_f3 {glob : Str} (text : Str) (t u : Tok) (hl : text.length ≤ 1000) (hg : glob = Str.ofString "/r/*/*") : ConT 12 213 [.str glob t, .str text u] (fun _ _ v => v = .bool (fitsOf text ds3)) := by
  subst hg; exact con_fitsT _ ds3 text t u con_tr3 (by decide +kernel) (by decide +kernel) (ds_len (by decide +kernel)) hl
theorem con_f4 {glob : Str} (text : Str) (t u : Tok) (hl : text.length ≤ 1000) (hg : glob = Str.ofString "*[é€]") : ConT 12 213 [.str glob t, .str text u] (fun _ _ v => v = .bool (fitsOf text ds4)) := by
  subst hg; exact con_fitsT _ ds4 text t u con_tr4 (by decide +kernel) (by decide +kernel) (ds_len (by decide +kernel)) hl
theorem con_f5 {glob : Str} (text : Str) (t u : Tok) (hl : text.length ≤ 1000) (hg : glob = Str.ofString "*") : ConT 12 213 [.str glob t, .str text u] (fun _ _ v => v = .bool (fitsOf text ds5)) := by
  subst hg; exact con_fitsT _ ds5 text t u con_tr5 (by decide +kernel) (by decide +kernel) (ds_len (by decide +kernel)) hl
end
end Mine
namespace Mine
section
open PySem PySem.W PyProof.Rows PySem.Calls PyProof
set_option maxRecDepth 100000
set_option maxHeartbeats 8000000
local macro_rules | `(tactic| walk_at "call ref") => `(tactic| refine stop ?_)
local macro_rules | `(tactic| walk_at "CompEnd") => `(tactic| refine stop ?_)
local macro_rules | `(tactic| walk_at "CompSrc") => `(tactic| refine stop ?_)
/-- the ledger of a turn of law's loop -/
def turnLed (l : Addr) (lo : Obj) (G : Addr) (oG : Obj) (C : Addr) (oP : Obj) (ps : Array Value) (I : Addr) (oI : Obj) : List (Addr × Obj) := [(l, lo), (G, oG), (C, oP), (64, tabObj ps), (I, oI)]
/-- _law_fits(glob, place) in the comprehension -/
theorem fits_elt {w : World} {mean : ExcName → Option Value} {mg mb : Str → Option Value} {dp un : Nat} {gd : Option (List Code)} {outer : List Env} {A₀ : Around} {base g : Heap} {L' l G I : Addr} {lo oG oP oI : Obj} {its : Array Value} {ps : Array Value} {glob place : Str} {b : Bool} {tg tp : Tok} {s : Shared} {m m₂ : Str → Option Value} {nn : Nat}
    {C' I' D' : Addr} {oI' oC' : Obj} {ys : List Value} {rest' : Value → List (Addr × Obj) → Prop} {E' : Value → Shared → Prop} {h : Heap} {tk : Nat}
    (hc : ∀ t u, ConT 12 213 [.str glob t, .str place u] (fun _ _ v => v = .bool b))
    (B' : Below A₀ base outer g) (F' : Fr g L' h m) (N' : News g L' h ((I', oI') :: (C', oC') :: (D', LCg.lst ys) :: turnLed l lo G oG (L' + 1) oP ps I oI))
    (X' : (KK w.params).In g) (T' : Top q0 (looseW q0 loose0) mean mg mb g) (hP : oP.data = .cell (some (.str place tp))) (hps : TabOk ps) (hG : oG = { cls := .type "list", data := .seq its nn })
    (hd : dp + 14 < recursionLimit) (hu : un + 112 < cLine) (i3 : @Ne Nat 64 I) (i4 : @Ne Nat 64 l) (i5 : @Ne Nat 64 G) (i6 : @Ne Nat 64 (L' + 1))
    (hC' : LCg.NsObj oC' m₂) (hx' : m₂ (Str.ofString "glob") = some (.str glob tg)) (off : ∀ ps, LCg.Off3 I' C' D' (turnLed l lo G oG (L' + 1) oP ps I oI))
    (hR : ∀ ps', TabOk ps' → rest' (.bool b) (turnLed l lo G oG (L' + 1) oP ps' I oI)) :
    wpAny (model (OpenLaw.prog PySem.Challenge.rw_rt0055_01) w) (ktrTop dp un gd (Str.ofString "law") lawScope L' 225 (.ref 224) (cellsFrom (L' + 1) lawScope.names []) outer) (eval lawElt (compEnvC lawEltSc [(Str.ofString "place", L' + 1)] C' (envOfC (Str.ofString "law") lawScope L' 225 (.ref 224))))
      (LCg.CompEnd g L' m { s with heap := h, toks := tk } I' oI' C' oC' D' (LCg.lst ys) (LCg.SrcAt g G its) rest') E' { s with heap := h, toks := tk } := by
  revert X'
  k_fill
  intro X'
  subst hG
  have o := off ps
  unfold turnLed at N' o
  unfold lawScope lawElt lawEltSc
  dsimp only
  w_on
  (try k_fold)
  k_steps
  refine Stop.go ?_
  simp only [LCg.Off3, and_true] at o
  obtain ⟨⟨a1, a2, a3⟩, ⟨b1, b2, b3⟩, ⟨c1, c2, c3⟩, ⟨d1, d2, d3⟩, e1, e2, e3⟩ := o
  refine' use_conT (hc _ _) ?k1 ?k2 ?k3 ?k4 ?kU hps ?k5 ?kK ?kd ?ku ?_
  case k1 => k_asm
  case k2 => k_asm
  case k3 => k_asm
  case k4 => k_asm
  case kU =>
    refine .tail (Ne.symm d1) (.tail (Ne.symm d2) (.tail (Ne.symm d3) (.tail (Ne.symm i4) (.tail (Ne.symm i5) (.tail (Ne.symm i6) (.head ?_))))))
    intro p hp
    rw [List.mem_singleton.mp hp]
    exact Ne.symm i3
  case k5 => k_asm
  case kK => first | exact rfl | assumption
  case kd => ktr_room
  case ku => ktr_units
  intro g8 v9 h9 tk9 ps9 hps9 F0 K9 hv F9 N9
  subst hv
  exact LCg.CompEnd.intro F9 N9 _ (fun p hp => hp) (off ps9) (.inr ⟨_, .tail _ (.head _), rfl, _, rfl⟩) (hR ps9 hps9)
/-- [_law_fits(glob, place) for glob in globs] -/
theorem comp_fits {w : World} {mean : ExcName → Option Value} {mg mb : Str → Option Value} {dp un : Nat} {gd : Option (List Code)} {outer : List Env} {A₀ : Around} {base g : Heap} {L' l G I : Addr} {lo oP oI : Obj} {its : List Value} {bs : List Bool} {ps : Array Value} {nn : Nat} {place : Str} {tp : Tok} {s : Shared} {Q : Value → Shared → Prop} {rest : Str → Option Value}
    (B' : Below A₀ base outer g) (F' : Fr g L' s.heap (fun y => if y = Str.ofString "globs" then some (.ref G) else rest y))
    (N' : News g L' s.heap (turnLed l lo G (listOf its.toArray nn) (L' + 1) oP ps I oI))
    (X' : (KK w.params).In g) (T' : Top q0 (looseW q0 loose0) mean mg mb g) (hP : oP.data = .cell (some (.str place tp))) (hps : TabOk ps) (hn : its.length = bs.length) (hlen : its.length ≤ 1000)
    (hc : ∀ (i : Nat) (v : Value), its[i]? = some v → ∃ glob tg b, v = .str glob tg ∧ bs[i]? = some b ∧ ∀ t u, ConT 12 213 [.str glob t, .str place u] (fun _ _ v => v = .bool b))
    (hd : dp + 14 < recursionLimit) (hu : un + 112 < cLine) (i3 : @Ne Nat 64 I) (i4 : @Ne Nat 64 l) (i5 : @Ne Nat 64 G) (i6 : @Ne Nat 64 (L' + 1))
    (h : ∀ D h' tk' ps', TabOk ps' → Fr g L' h' (fun y => if y = Str.ofString "globs" then some (.ref G) else rest y) →
      News g L' h' ((D, listOf (bs.map Value.bool).toArray bs.length) :: turnLed l lo G (listOf its.toArray nn) (L' + 1) oP ps' I oI) → Q (.ref D) { s with heap := h', toks := tk' }) :
    wpAny (model (OpenLaw.prog PySem.Challenge.rw_rt0055_01) w) (ktrTop dp un gd (Str.ofString "law") lawScope L' 225 (.ref 224) (cellsFrom (L' + 1) lawScope.names []) outer) (eval lawComp (envOfC (Str.ofString "law") lawScope L' 225 (.ref 224))) Q (fun _ _ => False) s := by
  have key : ∀ (s₂ : Shared) (Fin : List Value → List (Addr × Obj) → Prop), (∀ ps', TabOk ps' → Fin (bs.map Value.bool) (turnLed l lo G (listOf its.toArray nn) (L' + 1) oP ps' I oI)) → ∀ (j i : Nat) (ps : Array Value), TabOk ps → i + j = its.length →
      LCg.CompRest (OpenLaw.prog PySem.Challenge.rw_rt0055_01) w (ktrTop dp un gd (Str.ofString "law") lawScope L' 225 (.ref 224) (cellsFrom (L' + 1) lawScope.names []) outer) g L' (fun y => if y = Str.ofString "globs" then some (.ref G) else rest y) (envOfC (Str.ofString "law") lawScope L' 225 (.ref 224)) lawElt (Str.ofString "glob") lawEltSc [(Str.ofString "place", L' + 1)]
        s₂ (LCg.SrcAt g G its.toArray) (fun i v => its.toArray[i]? = some v) Fin j i ((bs.take i).map Value.bool) (turnLed l lo G (listOf its.toArray nn) (L' + 1) oP ps I oI) := by
    intro s₂ Fin hF j
    induction j with
    | zero =>
      intro i ps hps hi
      have e : bs.take i = bs := List.take_of_length_le (by omega)
      rw [e]
      exact LCg.CompRest.zero (hF ps hps)
    | succ j ih =>
      intro i ps hps hi
      refine LCg.CompRest.succ ?_
      intro v I' oI' C' oC' D' m₂ h2 tk E' hv hC' hx' F2 N2 off ne
      obtain ⟨glob, tg, b, rfl, hb, hct⟩ := hc i v (by simpa using hv)
      refine fits_elt hct B' F2 N2 X' T' hP hps rfl hd hu i3 i4 i5 i6 hC' hx' (fun _ => off) fun ps' hps' => ?_
      have z := ih (i + 1) ps' hps' (by omega)
      rw [List.take_add_one, hb, List.map_append] at z
      exact z
  revert X'
  k_fill
  intro X'
  have N'' := N'
  unfold turnLed at N'
  unfold lawScope lawComp
  dsimp only
  w_on
  refine' LCg.ListComp_U (cl := [(Str.ofString "place", L' + 1)]) (F₀ := F') ?a ?b ?c ?d ?e ?_ ?hs
  case a => rfl
  case b => decide
  case c => rfl
  case d => decide
  case e => rfl
  case hs => intro _; rfl
  (try k_fold)
  k_steps
  refine Stop.go ?_
  refine LCg.CompSrc.ledger rfl F' N'' (.tail _ (.head _)) (by rw [List.size_toArray, sizeLine_eq]; omega) fun gg => ?_
  have z := key { s with heap := gg } (LCg.FinE g L' (fun y => if y = Str.ofString "globs" then some (.ref G) else rest y) { s with heap := gg } Q) (fun ps' hps' => ?_) its.length 0 ps hps (by omega)
  · rw [List.size_toArray]
    exact z
  · intro D h' tk' F3 N3 _
    exact h D h' tk' ps' hps' F3 (by have e : LCg.lst (bs.map Value.bool) = listOf (bs.map Value.bool).toArray bs.length := by rw [LCg.lst, List.length_map]
                                     rw [← e]; exact N3)
end
end Mine
namespace Mine
section
open PySem PySem.W PyProof.Rows PySem.Calls PyProof
set_option maxRecDepth 100000
def fitsAll (place : Str) : List Bool := [fitsOf place ds1, fitsOf place ds2, fitsOf place ds3, fitsOf place ds4, fitsOf place ds5]
/-- What the plain law gives of one number. -/
structure GoodX (x : Int) : Prop where
  len : (wayOf x).length ≤ 1000
  cps : ∀ k ∈ (Str.ofString "\uFEFF" ++ wayOf x).cps.toList, k < 65536
  size : (tapeOf (wayOf x) (x.fmod 2 == 1)).size = ((wayOf x).length + 1) * 2
  turn : turnOf (tapeOf (wayOf x) (x.fmod 2 == 1)) ((wayOf x).length + 1) = tapeOf (wayOf x) false
  read : readOf (tapeOf (wayOf x) false) ((wayOf x).length + 1) = wayOf x
  ones : swOut (tapeOf (wayOf x) (x.fmod 2 == 1)) 1 (tapeOf (wayOf x) (x.fmod 2 == 1)).size = tapeOf (wayOf x) (x.fmod 2 == 1)
  all : swOut (tapeOf (wayOf x) (x.fmod 2 == 1)) (tapeOf (wayOf x) (x.fmod 2 == 1)).size 1 = revB (tapeOf (wayOf x) (x.fmod 2 == 1))
  j1 : (joinR (wayOf x)).length ≤ 1000
  j2 : (Txt.slice (joinR (wayOf x)) none (some 1) != Str.ofString "/") = false
  j3 : ((joinR (wayOf x)).length : Int) ≠ 0
  j4 : ((rootOf (joinR (wayOf x))).length : Int) ≠ 0
  j5 : (restOf (joinR (wayOf x))).length ≤ 1000
  j6 : (rootOf (joinR (wayOf x))).length ≤ 2
  norm : normOf (joinR (wayOf x)) = placeOf (wayOf x)
  p1 : (placeOf (wayOf x)).length ≤ 1000
  p2 : 1 ≤ (placeOf (wayOf x)).length
  fits : saidOf (placeOf (wayOf x)) = fitsAll (placeOf (wayOf x))
theorem hits5 {place g1 g2 g3 g4 g5 : Str} {t1 t2 t3 t4 t5 : Tok} (hl : place.length ≤ 1000)
    (e1 : g1 = Str.ofString "/r/a*") (e2 : g2 = Str.ofString "*/b?c") (e3 : g3 = Str.ofString "/r/*/*") (e4 : g4 = Str.ofString "*[é€]") (e5 : g5 = Str.ofString "*") :
    ∀ (i : Nat) (v : Value), [Value.str g1 t1, Value.str g2 t2, Value.str g3 t3, Value.str g4 t4, Value.str g5 t5][i]? = some v → ∃ glob tg b, v = Value.str glob tg ∧ (fitsAll place)[i]? = some b ∧ ∀ t u, ConT 12 213 [.str glob t, .str place u] (fun _ _ v => v = .bool b) := by
  intro i v h
  match i, h with
  | 0, h => exact ⟨g1, t1, _, (Option.some.inj h).symm, rfl, fun t u => con_f1 place t u hl e1⟩
  | 1, h => exact ⟨g2, t2, _, (Option.some.inj h).symm, rfl, fun t u => con_f2 place t u hl e2⟩
  | 2, h => exact ⟨g3, t3, _, (Option.some.inj h).symm, rfl, fun t u => con_f3 place t u hl e3⟩
  | 3, h => exact ⟨g4, t4, _, (Option.some.inj h).symm, rfl, fun t u => con_f4 place t u hl e4⟩
  | 4, h => exact ⟨g5, t5, _, (Option.some.inj h).symm, rfl, fun t u => con_f5 place t u hl e5⟩
  | n + 5, h => simp at h
end
end Mine
namespace Mine
section
open PySem PySem.W PyProof.Rows PySem.Calls PyProof
set_option maxRecDepth 100000
set_option maxHeartbeats 8000000
local macro_rules | `(tactic| walk_at "call ref") => `(tactic| refine stop ?_)
local macro_rules | `(tactic| walk_at "compareOp NotEq ref ref") => `(tactic| refine stop ?_)
local macro_rules | `(tactic| walk_at "eval ListComp") => `(tactic| refine stop ?_)
/-- the frame at the end of a turn -/
def endM (t1 t2 : Tok) (G : Addr) (way : Str) (rest : Str → Option Value) : Str → Option Value := fun y => if y = Str.ofString "read" then some (.str way t1) else if y = Str.ofString "way" then some (.str way t2) else if y = Str.ofString "globs" then some (.ref G) else rest y
theorem turnB {w : World} {mean : ExcName → Option Value} {mg mb : Str → Option Value} {dp un : Nat} {gd : Option (List Code)} {outer : List Env} {A₀ : Around} {base g : Heap} {L' l G I : Addr} {lo oP oI : Obj} {ps : Array Value} {g1 g2 g3 g4 g5 : Str} {r1 r2 r3 r4 r5 : Tok} {nn : Nat} {x : Int} {t1 t2 : Tok} {vp : Option Value} {s : Shared} {Q : Flow → Shared → Prop} {rest : Str → Option Value}
    (hx : GoodX x) (B' : Below A₀ base outer g) (F' : Fr g L' s.heap (endM t1 t2 G (wayOf x) rest))
    (N' : News g L' s.heap (turnLed l lo G (listOf [Value.str g1 r1, Value.str g2 r2, Value.str g3 r3, Value.str g4 r4, Value.str g5 r5].toArray nn) (L' + 1) oP ps I oI))
    (X' : (KK w.params).In g) (T' : Top q0 (looseW q0 loose0) mean mg mb g) (hP : oP.data = .cell vp) (hps : TabOk ps)
    (e1 : g1 = Str.ofString "/r/a*") (e2 : g2 = Str.ofString "*/b?c") (e3 : g3 = Str.ofString "/r/*/*") (e4 : g4 = Str.ofString "*[é€]") (e5 : g5 = Str.ofString "*")
    (hd : dp + 20 < recursionLimit) (hu : un + 160 < cLine) (i2 : @Ne Nat (L' + 1) I) (i3 : @Ne Nat 64 I) (i4 : @Ne Nat 64 l) (i5 : @Ne Nat 64 G) (i6 : @Ne Nat 64 (L' + 1)) (i7 : @Ne Nat l (L' + 1)) (i8 : @Ne Nat G (L' + 1))
    (h : ∀ h' tk' ps' oP', TabOk ps' → (∃ v, oP'.data = .cell v) → Fr g L' h' (endM t1 t2 G (wayOf x) rest) →
      News g L' h' (turnLed l lo G (listOf [Value.str g1 r1, Value.str g2 r2, Value.str g3 r3, Value.str g4 r4, Value.str g5 r5].toArray nn) (L' + 1) oP' ps' I oI) → Q .next { s with heap := h', toks := tk' }) :
    wpAny (model (OpenLaw.prog PySem.Challenge.rw_rt0055_01) w) (ktrTop dp un gd (Str.ofString "law") lawScope L' 225 (.ref 224) (cellsFrom (L' + 1) lawScope.names []) outer) (execs lawTail (envOfC (Str.ofString "law") lawScope L' 225 (.ref 224))) Q (fun _ _ => False) s := by
  revert X'
  k_fill
  intro X'
  have q1 := hx.len
  have q2 := hx.p1
  have q3 := hx.p2
  have cn := fun t => con_norm (joinR (wayOf x)) t hx.j1 hx.j2 hx.j3 hx.j4 hx.j5 hx.j6
  rw [hx.norm] at cn
  have hsame : SameVs ((fitsAll (placeOf (wayOf x))).map Value.bool) ((saidOf (placeOf (wayOf x))).map Value.bool) := by rw [hx.fits]; exact SameVs.bools _
  clear hx
  generalize wayOf x = way at *
  generalize hpl : placeOf way = place at *
  unfold turnLed at N'
  unfold endM at F' h
  unfold lawScope lawTail
  dsimp only
  w_on
  (try k_fold)
  k_steps
  refine Stop.go ?_
  refine' use_con (con_join way _ _ q1) ?k1 ?k2 ?k3 ?k4 ?k5 ?kK ?kd ?ku ?_
  case k1 => k_asm
  case k2 => k_asm
  case k3 => k_asm
  case k4 => k_asm
  case k5 => k_asm
  case kK => first | exact rfl | assumption
  case kd => ktr_room
  case ku => ktr_units
  intro t9 h9 tk9 F9 N9
  (try dsimp only)
  (try k_fold)
  k_steps
  refine Stop.go ?_
  refine' use_con (cn _) ?k1 ?k2 ?k3 ?k4 ?k5 ?kK ?kd ?ku ?_
  case k1 => k_asm
  case k2 => k_asm
  case k3 => k_asm
  case k4 => k_asm
  case k5 => k_asm
  case kK => first | exact rfl | assumption
  case kd => ktr_room
  case ku => ktr_units
  intro t9 h9 tk9 F9 N9
  (try dsimp only)
  (try k_fold)
  clear cn
  k_steps
  refine Stop.go ?_
  refine' use_con (con_place way _ q1) ?k1 ?k2 ?k3 ?k4 ?k5 ?kK ?kd ?ku ?_
  case k1 => k_asm
  case k2 => k_asm
  case k3 => k_asm
  case k4 => k_asm
  case k5 => k_asm
  case kK => first | exact rfl | assumption
  case kd => ktr_room
  case ku => ktr_units
  intro t9 h9 tk9 F9 N9
  rw [hpl]
  (try dsimp only)
  (try k_fold)
  k_steps
  · (rename (_ != _) = true => hbad)
    rw [bne_self_eq_false] at hbad
    cases hbad
  · (rename (_ != _) = false => hgood; clear hgood)
    refine Stop.go ?_
    with_reducible rename Fr _ _ _ _ => F0
    with_reducible rename News _ _ _ _ => N0
    refine comp_fits (s := ⟨_, _, _, _, _⟩) (bs := fitsAll place) (its := [Value.str g1 r1, Value.str g2 r2, Value.str g3 r3, Value.str g4 r4, Value.str g5 r5]) (nn := nn) (G := G) B' (fr_fold F0 rfl) N0 X' T' (by assumption) hps rfl (Nat.le_of_ble_eq_true rfl) (hits5 q2 e1 e2 e3 e4 e5) (by omega) (by omega) i3 i4 i5 i6 ?_
    clear F0 N0 hps
    intro D h8 tk8 ps8 hps8 F8 N8
    have F7 := fr_unfold F8 rfl
    clear F8
    unfold turnLed at N8
    (try dsimp only)
    (try k_fold)
    k_steps
    refine Stop.go ?_
    refine' use_conV (con_said place _ q2 q3) ?k1 ?k2 ?k3 ?k4 ?k5 ?kK ?kd ?ku ?_
    case k1 => k_asm
    case k2 => k_asm
    case k3 => k_asm
    case k4 => k_asm
    case k5 => k_asm
    case kK => first | exact rfl | assumption
    case kd => ktr_room
    case ku => ktr_units
    with_reducible rename Fr _ _ _ _ => F0
    with_reducible rename News _ _ _ _ => N0
    intro v9 h9 tk9 K9 hv F9 N9
    obtain ⟨a9, n9, rfl, hn9, hl9⟩ := hv
    have N6 := news_add F0 N9 hn9 hl9
    clear N9 F0 N0 K9 hn9 hl9
    (try dsimp only)
    (try k_fold)
    k_steps
    refine Stop.go ?_
    refine ne_same (N6.isList (.tail _ (.head _))) (N6.isList (.head _)) hsame (by show un < cLine; omega) ?_
    (try dsimp only)
    (try k_fold)
    k_steps
    exact h _ _ ps8 _ hps8 ⟨_, by assumption⟩ F9 (fun p hp => N6 p (.tail _ (.tail _ hp)))
end
end Mine
namespace Mine
section
open PySem PySem.W PyProof.Rows PySem.Calls PyProof
set_option maxRecDepth 100000
set_option maxHeartbeats 8000000
local macro_rules | `(tactic| walk_at "call ref") => `(tactic| refine stop ?_)
local macro_rules | `(tactic| walk_at "compareOp NotEq ref ref") => `(tactic| refine stop ?_)
local macro_rules | `(tactic| walk_at "newList") => `(tactic| (k_here; k_dflt (refine' newList_K ?k1 ?k2 ?_; (case k1 => k_asm); (case k2 => k_asm); k_whole); intro l' h' F' N' l1; (try k_lt l1); (try k_sweep)))
section
variable {M : Model} {A : Around} {s : Shared} {env : Env} {E : Value → Shared → Prop}
theorem wpS_items {pos : Pos} {e : Expr} {rest : List Expr} {Q : List Value → Shared → Prop}
    (h : wpS M A (eval e env) (fun v s₁ => wpS M A (spliced (backTo pos (starEach rest env))) (fun vs s₂ => Q (v :: vs) s₂) E s₁) E s)
    (he : starEach (e :: rest) env = (false, eval e env) :: starEach rest env := by rfl) : wpS M A (spliced (backTo pos (starEach (e :: rest) env))) Q E s := by
  rw [he]; exact wpS_spliced_cons h
theorem wpS_items_nil {pos : Pos} {Q : List Value → Shared → Prop} (h : Q [] s) : wpS M A (spliced (backTo pos (starEach [] env))) Q E s := wpS_spliced_nil h
end
theorem turnA {w : World} {mean : ExcName → Option Value} {mg mb : Str → Option Value} {dp un : Nat} {gd : Option (List Code)} {outer : List Env} {A₀ : Around} {base g : Heap} {L' l G I : Addr} {lo oP oI : Obj} {ps : Array Value} {g1 g2 g3 g4 g5 : Str} {r1 r2 r3 r4 r5 : Tok} {nn : Nat} {x : Int} {tx : Tok} {vp : Option Value} {s : Shared} {Q : Flow → Shared → Prop} {rest : Str → Option Value}
    (hx : GoodX x) (B' : Below A₀ base outer g) (F' : Fr g L' s.heap (fun y => if y = Str.ofString "x" then some (.int x tx) else if y = Str.ofString "globs" then some (.ref G) else rest y))
    (N' : News g L' s.heap (turnLed l lo G (listOf [Value.str g1 r1, Value.str g2 r2, Value.str g3 r3, Value.str g4 r4, Value.str g5 r5].toArray nn) (L' + 1) oP ps I oI))
    (X' : (KK w.params).In g) (T' : Top q0 (looseW q0 loose0) mean mg mb g) (hP : oP.data = .cell vp) (hps : TabOk ps)
    (e1 : g1 = Str.ofString "/r/a*") (e2 : g2 = Str.ofString "*/b?c") (e3 : g3 = Str.ofString "/r/*/*") (e4 : g4 = Str.ofString "*[é€]") (e5 : g5 = Str.ofString "*")
    (hd : dp + 20 < recursionLimit) (hu : un + 160 < cLine) (i2 : @Ne Nat (L' + 1) I) (i3 : @Ne Nat 64 I) (i4 : @Ne Nat 64 l) (i5 : @Ne Nat 64 G) (i6 : @Ne Nat 64 (L' + 1)) (i7 : @Ne Nat l (L' + 1)) (i8 : @Ne Nat G (L' + 1))
    (h : ∀ m' h' tk' ps' oP', TabOk ps' → (∃ v, oP'.data = .cell v) → Fr g L' h' m' → m' (Str.ofString "globs") = some (.ref G) →
      News g L' h' (turnLed l lo G (listOf [Value.str g1 r1, Value.str g2 r2, Value.str g3 r3, Value.str g4 r4, Value.str g5 r5].toArray nn) (L' + 1) oP' ps' I oI) → Q .next { s with heap := h', toks := tk' }) :
    wpS (model (OpenLaw.prog PySem.Challenge.rw_rt0055_01) w) (ktrTop dp un gd (Str.ofString "law") lawScope L' 225 (.ref 224) (cellsFrom (L' + 1) lawScope.names []) outer) (execs lawFor (envOfC (Str.ofString "law") lawScope L' 225 (.ref 224))) Q (fun _ _ => False) s := by
  revert X'
  k_fill
  intro X'
  unfold turnLed at N'
  unfold lawScope lawFor
  dsimp only
  w_on
  (try k_fold)
  refine wpS_execs_cons (wpS_of ?_)
  k_steps
  refine Stop.go ?_
  refine' use_con (con_way x _) ?k1 ?k2 ?k3 ?k4 ?k5 ?kK ?kd ?ku ?_
  case k1 => k_asm
  case k2 => k_asm
  case k3 => k_asm
  case k4 => k_asm
  case k5 => k_asm
  case kK => first | exact rfl | assumption
  case kd => ktr_room
  case ku => ktr_units
  intro t9 h9 tk9 F9 N9
  (try dsimp only)
  (try k_fold)
  k_steps
  have q1 := hx.len
  refine wpS_execs_cons (wpS_of ?_)
  k_steps
  refine Stop.go ?_
  refine' use_con (con_tape (wayOf x) _ _ hx.len hx.cps) ?k1 ?k2 ?k3 ?k4 ?k5 ?kK ?kd ?ku ?_
  case k1 => k_asm
  case k2 => k_asm
  case k3 => k_asm
  case k4 => k_asm
  case k5 => k_asm
  case kK => first | exact rfl | assumption
  case kd => ktr_room
  case ku => ktr_units
  intro t9 h9 tk9 F9 N9
  (try dsimp only)
  (try k_fold)
  k_steps
  have hsz := hx.size
  have hsz3 : (tapeOf (wayOf x) (x.fmod 2 == 1)).size ≤ 3000 := by omega
  generalize hn : (wayOf x).length + 1 = n at hsz
  have hn1 : 1 ≤ n := by omega
  have cr := fun t => con_read (tapeOf (wayOf x) (x.fmod 2 == 1)) n t hsz3 hsz hn1
  have eT := hx.turn
  have eR := hx.read
  rw [hn] at eT eR
  rw [eT, eR] at cr
  have c1 := fun t u => con_swap (tapeOf (wayOf x) (x.fmod 2 == 1)) 1 (tapeOf (wayOf x) (x.fmod 2 == 1)).size t u hsz3 (by omega) (by omega) (by omega)
  have c2 := fun t u => con_swap (tapeOf (wayOf x) (x.fmod 2 == 1)) (tapeOf (wayOf x) (x.fmod 2 == 1)).size 1 t u hsz3 (by omega) (by omega) (by omega)
  rw [hx.ones] at c1
  rw [hx.all] at c2
  clear eT eR
  refine wpS_execs_cons (wpS_Assign_Tuple (wpS_Call_Name (wpS_of ?_)))
  k_steps
  refine wpS_callFn ?_
  k_steps
  · exact IsFn.of (s := ⟨_, _, _, _, _⟩) X' (by k_asm) (by exact rfl)
  with_reducible rename Fr _ _ _ _ => F0
  with_reducible rename News _ _ _ _ => N0
  refine' use_conVS (cr _) ?k1 ?k2 ?k3 ?k4 ?k5 ?kK ?kd ?ku ?_
  case k1 => k_asm
  case k2 => k_asm
  case k3 => k_asm
  case k4 => k_asm
  case k5 => k_asm
  case kK => first | exact rfl | assumption
  case kd => ktr_room
  case ku => ktr_units
  intro v9 h9 tk9 K9 hv F9 N9
  obtain ⟨a9, t1, t2, n9, rfl, hn9, ha9⟩ := hv
  have N8 := news_add F0 N9 hn9 ha9
  clear N9 K9 hn9 ha9 F0 N0
  (try dsimp only)
  (try k_fold)
  k_steps
  refine wpS_execs_cons (wpS_Assign_Name (wpS_List (wpS_items (wpS_of ?_))))
  k_steps
  refine wpS_items (wpS_of ?_)
  k_steps
  refine wpS_items (wpS_Call_Name (wpS_of ?_))
  k_steps
  refine wpS_callFn ?_
  k_steps
  · exact IsFn.of (s := ⟨_, _, _, _, _⟩) X' (by k_asm) (by exact rfl)
  with_reducible rename Fr _ _ _ _ => F0
  with_reducible rename News _ _ _ _ => N0
  refine' use_conS (c1 _ _) ?k1 ?k2 ?k3 ?k4 ?k5 ?kK ?kd ?ku ?_
  case k1 => k_asm
  case k2 => k_asm
  case k3 => k_asm
  case k4 => k_asm
  case k5 => k_asm
  case kK => first | exact rfl | assumption
  case kd => ktr_room
  case ku => ktr_units
  intro t9 h9 tk9 F9 N9
  clear F0 N0
  (try dsimp only)
  (try k_fold)
  refine wpS_items (wpS_Call_Name (wpS_of ?_))
  k_steps
  refine wpS_callFn ?_
  k_steps
  · exact IsFn.of (s := ⟨_, _, _, _, _⟩) X' (by k_asm) (by exact rfl)
  with_reducible rename Fr _ _ _ _ => F0
  with_reducible rename News _ _ _ _ => N0
  refine' use_conS (c2 _ _) ?k1 ?k2 ?k3 ?k4 ?k5 ?kK ?kd ?ku ?_
  case k1 => k_asm
  case k2 => k_asm
  case k3 => k_asm
  case k4 => k_asm
  case k5 => k_asm
  case kK => first | exact rfl | assumption
  case kd => ktr_room
  case ku => ktr_units
  intro t9 h9 tk9 F9 N9
  clear F0 N0
  (try dsimp only)
  (try k_fold)
  refine wpS_items_nil ?_
  k_steps
  refine wpS_of ?_
  k_steps
  refine wpS_execs_cons (wpS_of ?_)
  k_steps
  refine Stop.go ?_
  refine' use_con (con_tape (wayOf x) _ _ hx.len hx.cps) ?k1 ?k2 ?k3 ?k4 ?k5 ?kK ?kd ?ku ?_
  case k1 => k_asm
  case k2 => k_asm
  case k3 => k_asm
  case k4 => k_asm
  case k5 => k_asm
  case kK => first | exact rfl | assumption
  case kd => ktr_room
  case ku => ktr_units
  intro t9 h9 tk9 F9 N9
  (try dsimp only)
  (try k_fold)
  k_steps
  with_reducible rename Fr _ _ _ _ => F0
  with_reducible rename News _ _ _ _ => N0
  refine rev_K (s := ⟨_, _, _, _, _⟩) F0 N0 (by omega) ?_
  intro h8 t8 k8 F8 N8
  clear F0 N0
  (try dsimp only)
  (try k_fold)
  k_steps
  refine Stop.go ?_
  with_reducible rename News _ _ _ _ => N0
  refine ne_same (N0.isList (by k_mem)) (N0.isList (.head _)) (.cons (.bytes _ _ _) (.cons (.str _ _ _) (.cons (.bytes _ _ _) (.cons (.bytes _ _ _) .nil)))) (by show un < cLine; omega) ?_
  clear cr c1 c2
  (try dsimp only)
  (try k_fold)
  k_steps
  with_reducible rename Fr _ _ _ _ => F0
  dsimp only
  refine wpS_of ?_
  refine turnB (t1 := t2) (x := x) (s := ⟨_, _, _, _, _⟩) (vp := vp) (oP := oP) (ps := ps) (l := l) (lo := lo) (G := G) (nn := nn) (g1 := g1) (g2 := g2) (g3 := g3) (g4 := g4) (g5 := g5) hx B' (fr_fold (fr_fold (fr_fold F0 (y := Str.ofString "globs") rfl) (y := Str.ofString "way") rfl) (y := Str.ofString "read") rfl) (fun p hp => N0 p (.tail _ (.tail _ (.tail _ hp)))) X' T' hP hps e1 e2 e3 e4 e5 hd hu i2 i3 i4 i5 i6 i7 i8 ?_
  intro h' tk' ps' oP' a b c d
  exact h _ h' tk' ps' oP' a b c rfl d
end
end Mine
namespace Mine
section
open PySem PySem.W PyProof.Rows PySem.Calls PyProof
set_option maxRecDepth 100000
set_option maxHeartbeats 8000000
local macro_rules | `(tactic| walk_at "pyIter ref") => `(tactic| refine stop ?_)
local macro_rules | `(tactic| walk_at "newList") => `(tactic| (k_here; k_dflt (refine' newList_K ?k1 ?k2 ?_; (case k1 => k_asm); (case k2 => k_asm); k_whole); intro l' h' F' N' l1; (try k_lt l1); (try k_sweep)))
structure LSt where
  oP : Obj
  ps : Array Value
  rest : Str → Option Value
def lawLed (l : Addr) (lo : Obj) (G : Addr) (oG : Obj) (C : Addr) (c : LSt) : List (Addr × Obj) := [(l, lo), (G, oG), (C, c.oP), (64, tabObj c.ps)]
def lawM (y : Str) (G : Addr) (c : LSt) (z : Str) : Option Value := if z = y then some (.ref G) else c.rest z
def lawP (_ : Nat) (c : LSt) : Prop := TabOk c.ps ∧ ∃ v, c.oP.data = .cell v
section
variable {prog : Program} {w : World} {A : Around} {s : Shared} {env : Env} {h₀ : Heap} {x : Str} {px : Pos} {body : List Stmt} {Q : Flow → Shared → Prop}
theorem loop_law {l a1 a2 G C : Addr} {o1 o2 oG oP : Obj} {vs : List Value} {nn : Nat} {vp : Option Value} {ps : Array Value} {m₀ : Str → Option Value} (y : Str)
    (hh : A.handled = none) (hx : env.kindOf x = some .local) (hpc : (env.scope.kind == .class || (env.scope.kind == .module && env.locals != env.globals)) = false)
    (F : Fr h₀ env.locals s.heap m₀) (N : News h₀ env.locals s.heap [(l, listOf vs.toArray nn), (a1, o1), (a2, o2), (G, oG), (C, oP), (64, tabObj ps)]) (hy : m₀ y = some (.ref G)) (hps : TabOk ps) (hP : oP.data = .cell vp)
    (turn : ∀ (i : Nat) (v : Value) (oP : Obj) (ps : Array Value) (rest : Str → Option Value) (vp : Option Value) (h : Heap) (tk : Nat) (I : Addr) (oI : Obj), oI.cls ≠ .type "list" → (∀ v, oI.data ≠ .cell v) → vs[i]? = some v → (@Ne Nat l I ∧ @Ne Nat G I ∧ @Ne Nat C I ∧ @Ne Nat 64 I) → TabOk ps → oP.data = .cell vp → Fr h₀ env.locals h (fun z => if z = x then some v else if z = y then some (.ref G) else rest z) →
      News h₀ env.locals h [(l, listOf vs.toArray nn), (G, oG), (C, oP), (64, tabObj ps), (I, oI)] →
      wpS (model prog w) A (execs body env) (PostM h₀ env.locals (lawLed l (listOf vs.toArray nn) G oG C) (lawM y G) x lawP (i + 1) I oI { s with heap := h, toks := tk } Q) (fun _ _ => False) { s with heap := h, toks := tk })
    (done : ∀ (ps : Array Value) (oP : Obj) (m : Str → Option Value) (h : Heap) (tk : Nat), TabOk ps → Fr h₀ env.locals h m → News h₀ env.locals h [(l, listOf vs.toArray nn), (G, oG), (C, oP), (64, tabObj ps)] → Q .next { s with heap := h, toks := tk }) :
    wpAny (model prog w) A (pyIter (.ref l)) (fun it s₂ => codeS (model prog w) A (.forLoop (.Name x px) it body [] env) (fun r s' => match r with | .ok f => Q f s' | .error _ => False) s₂) (fun _ _ => False) s := by
  refine loop_S (σ := LSt) (lawLed l (listOf vs.toArray nn) G oG C) (lawM y G) lawP ⟨oP, ps, m₀⟩ hh hx hpc (fun c => .head _) F
    (List.forall_mem_cons.mpr ⟨N _ (.head _), List.forall_mem_cons.mpr ⟨N _ (.tail _ (.tail _ (.tail _ (.head _)))), List.forall_mem_cons.mpr ⟨N _ (.tail _ (.tail _ (.tail _ (.tail _ (.head _))))), List.forall_mem_cons.mpr ⟨N _ (.tail _ (.tail _ (.tail _ (.tail _ (.tail _ (.head _)))))), List.forall_mem_nil _⟩⟩⟩⟩)
    (hm_of hy) ⟨hps, _, hP⟩ ?_ ?_
  · rintro i v ⟨oP, ps, rest⟩ h tk I oI hc hd hv ho ⟨p1, vp, p2⟩ F' N'
    exact turn i v oP ps rest vp h tk I oI hc hd hv ⟨ho _ (.head _), ho _ (.tail _ (.head _)), ho _ (.tail _ (.tail _ (.head _))), ho _ (.tail _ (.tail _ (.tail _ (.head _))))⟩ p1 p2 F' N'
  · rintro ⟨oP, ps, rest⟩ m h tk ⟨p1, vp, p2⟩ F' N'
    exact done ps oP m h tk p1 F' N'
end
theorem led_sub {l G C I : Addr} {lo oG oI : Obj} {c : LSt} : ∀ p ∈ lawLed l lo G oG C c, p ∈ turnLed l lo G oG C c.oP c.ps I oI := fun p hp => by
  rcases List.mem_cons.mp hp with rfl | hp
  · exact .head _
  rcases List.mem_cons.mp hp with rfl | hp
  · exact .tail _ (.head _)
  rcases List.mem_cons.mp hp with rfl | hp
  · exact .tail _ (.tail _ (.head _))
  rw [List.mem_singleton.mp hp]
  exact .tail _ (.tail _ (.tail _ (.head _)))
theorem led_off {l G C I : Addr} {lo oG : Obj} {c : LSt} (i0 : @Ne Nat l I) (i1 : @Ne Nat G I) (i2 : @Ne Nat C I) (i3 : @Ne Nat 64 I) : ∀ p ∈ lawLed l lo G oG C c, p.1 ≠ I :=
  List.forall_mem_cons.mpr ⟨i0, List.forall_mem_cons.mpr ⟨i1, List.forall_mem_cons.mpr ⟨i2, List.forall_mem_cons.mpr ⟨i3, List.forall_mem_nil _⟩⟩⟩⟩
theorem ints_at {vs : List Value} {ns : List Int} {i : Nat} {v : Value} (hi : IntsAre vs ns) (h : vs[i]? = some v) : ∃ x t, v = Value.int x t := by
  obtain ⟨x, t, e, _⟩ := IntsAre.at hi i v h
  exact ⟨x, t, e⟩
theorem law_body {its : List Value} {ks : List Int} {l : Addr} {Q E : Value → Shared → Prop} {s : Shared} {mean : ExcName → Option Value} {mg mb : Str → Option Value}
    (hG : ∀ x, GoodX x) (hi : IntsAre its ks) (hlen : its.length ≤ 63)
    (w : World) (X : (KK w.params).In s.heap) (T : Top q0 (looseW q0 loose0) mean mg mb s.heap) (h64 : s.heap.get? 64 = some (tabObj #[])) (hl : s.heap.IsList l its.toArray)
    (hret : ∀ v h' tk' ps', h'.get? 64 = some (tabObj ps') → (∀ b o, (hideAll s.heap [64]).get? b = some o → h'.get? b = some o) → v = .bool true → Q v { s with heap := h', toks := tk' }) :
    wpS (model (OpenLaw.prog PySem.Challenge.rw_rt0055_01) w) callerA (call (.ref 225) [.ref l] []) Q E s := by
  w_on
  refine' enterTop (D := 20) (RV := fun _ _ v => v = .bool true) ?ho ?hcd ?hb ?hk ?hnd ?c1 ?c2 ?c3 ?_ w X T h64 hl (by decide) (by decide) (fun v h' tk' ps' a b c => hret v h' tk' ps' a b c)
  case ho => intro P; exact rfl
  case hcd => intro P; exact rfl
  case hb => exact rfl
  case hk => exact rfl
  case hnd => decide +kernel
  case c1 => exact rfl
  case c2 => exact rfl
  case c3 => exact rfl
  k_fill
  clear hret X T h64 hl s mean mg mb w Q E
  intro w mean mg mb dp un gd outer A₀ base g h₁ L' s tk ps cells' hps B' F' N' g64 Y' X' T' hd hu hl
  k_cells Y'
  (try simp only [List.cons_append, List.nil_append, List.append_nil] at N')
  (try k_fold)
  refine wpS_execs_cons (wpS_of ?_)
  k_steps
  refine wpS_execs_cons (wpS_For ?_)
  k_steps
  refine Stop.go ?_
  with_reducible rename Fr _ _ _ _ => F0
  with_reducible rename News _ _ _ _ => N0
  rename IntsAre _ ([96, 55, 193, 294, 368, 42] ++ List.take 2 ks) => hI
  have q64 := g64 _ (.head _)
  refine' loop_law (Str.ofString "globs") ?hh ?hx ?hpc F0 N0 ?hy hps ?hP ?turn ?done
  case hh => rfl
  case hx => rfl
  case hpc => rfl
  case hy => exact if_pos rfl
  case hP => assumption
  case turn =>
    clear F0 N0 hps hl
    intro i v oP ps2 rest vp h2 tk2 I oI hcI hdI hvi hoff hps2 hP2 F2 N2
    have h9 := ints_at hI hvi
    clear hI hvi
    obtain ⟨x, tx, rfl⟩ := h9
    obtain ⟨i0, i1, i2, i3⟩ := hoff
    refine turnA (s := ⟨_, _, _, _, _⟩) (ps := ps2) (vp := vp) (hG x) B' F2 N2 X' T' hP2 hps2 ?e1 ?e2 ?e3 ?e4 ?e5 hd hu i2 i3 ?i4 ?i5 ?i6 ?i7 ?i8 ?_
    case e1 => rfl
    case e2 => rfl
    case e3 => rfl
    case e4 => decide +kernel
    case e5 => rfl
    case i4 => show @Ne Nat _ _; omega
    case i5 => show @Ne Nat _ _; omega
    case i6 => exact Ne.symm q64
    case i7 => show @Ne Nat _ _; omega
    case i8 => show @Ne Nat _ _; omega
    intro m' h' tk' ps' oP' a b c d N3
    exact endM_in ⟨oP', ps', m'⟩ c N3 led_sub (.tail _ (.tail _ (.tail _ (.tail _ (.head _))))) (led_off i0 i1 i2 i3) (hm_of d) ⟨a, b⟩
  case done =>
    intro ps3 oP3 m3 h3 tk3 hp3 F3 N3
    dsimp only
    refine wpS_execs_one ?_
    k_steps
    with_reducible rename Fr _ _ _ _ => F0
    with_reducible rename News _ _ _ _ => N0
    exact retT_in F0 N0 (by k_mem) hp3 rfl
end
end Mine
namespace Mine
section
open PySem PySem.W PyProof.Rows PySem.Calls PyProof
set_option maxRecDepth 100000
/-! The plain law: what the walk computes answers as the statement says, for each of the 216 ways and both parities. -/
/-- what hangs on the way alone -/
def goodB (way : Str) : Bool :=
  (decide (way.length ≤ 1000) && ((Str.ofString "\uFEFF" ++ way).cps.toList.all (fun k => decide (k < 65536)) && (decide (readOf (tapeOf way false) (way.length + 1) = way) &&
   (decide ((joinR way).length ≤ 1000) && (decide ((Txt.slice (joinR way) none (some 1) != Str.ofString "/") = false) && (decide (((joinR way).length : Int) ≠ 0) &&
   (decide (((rootOf (joinR way)).length : Int) ≠ 0) && (decide ((restOf (joinR way)).length ≤ 1000) && (decide ((rootOf (joinR way)).length ≤ 2) && (decide (normOf (joinR way) = placeOf way) && (decide ((placeOf way).length ≤ 1000) && (decide (1 ≤ (placeOf way).length) && decide (saidOf (placeOf way) = fitsAll (placeOf way))))))))))))))
/-- what hangs on the way and on which octet is first -/
def goodL (way : Str) (low : Bool) : Bool := decide ((tapeOf way low).size = (way.length + 1) * 2) && decide (turnOf (tapeOf way low) (way.length + 1) = tapeOf way false)
def wayD (a b c : Nat) : Str := Txt.join (Str.ofString "/") [menuW.getD a Str.empty, menuW.getD b Str.empty, menuW.getD c Str.empty]
def goodRow (a b : Nat) : Bool := (List.range 6).all fun c => goodB (wayD a b c) && (goodL (wayD a b c) false && goodL (wayD a b c) true)
theorem row00 : goodRow 0 0 = true := by decide +kernel
theorem row01 : goodRow 0 1 = true := by decide +kernel
theorem row02 : goodRow 0 2 = true := by decide +kernel
theorem row03 : goodRow 0 3 = true := by decide +kernel
theorem row04 : goodRow 0 4 = true := by decide +kernel
theorem row05 : goodRow 0 5 = true := by decide +kernel
theorem row10 : goodRow 1 0 = true := by decide +kernel
theorem row11 : goodRow 1 1 = true := by decide +kernel
theorem row12 : goodRow 1 2 = true := by decide +kernel
theorem row13 : goodRow 1 3 = true := by decide +kernel
theorem row14 : goodRow 1 4 = true := by decide +kernel
theorem row15 : goodRow 1 5 = true := by decide +kernel
theorem row20 : goodRow 2 0 = true := by decide +kernel
theorem row21 : goodRow 2 1 = true := by decide +kernel
theorem row22 : goodRow 2 2 = true := by decide +kernel
theorem row23 : goodRow 2 3 = true := by decide +kernel
theorem row24 : goodRow 2 4 = true := by decide +kernel
theorem row25 : goodRow 2 5 = true := by decide +kernel
theorem row30 : goodRow 3 0 = true := by decide +kernel
theorem row31 : goodRow 3 1 = true := by decide +kernel
theorem row32 : goodRow 3 2 = true := by decide +kernel
theorem row33 : goodRow 3 3 = true := by decide +kernel
theorem row34 : goodRow 3 4 = true := by decide +kernel
theorem row35 : goodRow 3 5 = true := by decide +kernel
theorem row40 : goodRow 4 0 = true := by decide +kernel
theorem row41 : goodRow 4 1 = true := by decide +kernel
theorem row42 : goodRow 4 2 = true := by decide +kernel
theorem row43 : goodRow 4 3 = true := by decide +kernel
theorem row44 : goodRow 4 4 = true := by decide +kernel
theorem row45 : goodRow 4 5 = true := by decide +kernel
theorem row50 : goodRow 5 0 = true := by decide +kernel
theorem row51 : goodRow 5 1 = true := by decide +kernel
theorem row52 : goodRow 5 2 = true := by decide +kernel
theorem row53 : goodRow 5 3 = true := by decide +kernel
theorem row54 : goodRow 5 4 = true := by decide +kernel
theorem row55 : goodRow 5 5 = true := by decide +kernel
theorem row_all (a b : Nat) (h : a < 6) (h' : b < 6) : goodRow a b = true := by
  match a, b, h, h' with
  | 0, 0, _, _ => exact row00
  | 0, 1, _, _ => exact row01
  | 0, 2, _, _ => exact row02
  | 0, 3, _, _ => exact row03
  | 0, 4, _, _ => exact row04
  | 0, 5, _, _ => exact row05
  | 1, 0, _, _ => exact row10
  | 1, 1, _, _ => exact row11
  | 1, 2, _, _ => exact row12
  | 1, 3, _, _ => exact row13
  | 1, 4, _, _ => exact row14
  | 1, 5, _, _ => exact row15
  | 2, 0, _, _ => exact row20
  | 2, 1, _, _ => exact row21
  | 2, 2, _, _ => exact row22
  | 2, 3, _, _ => exact row23
  | 2, 4, _, _ => exact row24
  | 2, 5, _, _ => exact row25
  | 3, 0, _, _ => exact row30
  | 3, 1, _, _ => exact row31
  | 3, 2, _, _ => exact row32
  | 3, 3, _, _ => exact row33
  | 3, 4, _, _ => exact row34
  | 3, 5, _, _ => exact row35
  | 4, 0, _, _ => exact row40
  | 4, 1, _, _ => exact row41
  | 4, 2, _, _ => exact row42
  | 4, 3, _, _ => exact row43
  | 4, 4, _, _ => exact row44
  | 4, 5, _, _ => exact row45
  | 5, 0, _, _ => exact row50
  | 5, 1, _, _ => exact row51
  | 5, 2, _, _ => exact row52
  | 5, 3, _, _ => exact row53
  | 5, 4, _, _ => exact row54
  | 5, 5, _, _ => exact row55
theorem good_way (a b c : Nat) (low : Bool) (ha : a < 6) (hb : b < 6) (hc : c < 6) : goodB (wayD a b c) = true ∧ goodL (wayD a b c) low = true := by
  have h3 := List.all_eq_true.mp (row_all a b ha hb) c (List.mem_range.mpr hc)
  obtain ⟨h4, h5⟩ := Bool.and_eq_true_iff.mp h3
  obtain ⟨h5, h6⟩ := Bool.and_eq_true_iff.mp h5
  refine ⟨h4, ?_⟩
  cases low
  · exact h5
  · exact h6
theorem digit_lt (x : Int) : (x.fmod 6).toNat < 6 := by
  have h1 := Int.fmod_lt_of_pos x (show (0 : Int) < 6 by decide)
  omega
theorem way_is (x : Int) : ∃ a b c, a < 6 ∧ b < 6 ∧ c < 6 ∧ wayOf x = wayD a b c := ⟨_, _, _, digit_lt _, digit_lt _, digit_lt _, rfl⟩
theorem goodX_of {x : Int} (h : goodB (wayOf x) = true) (hl : goodL (wayOf x) (x.fmod 2 == 1) = true) : GoodX x := by
  unfold goodB at h
  unfold goodL at hl
  simp only [Bool.and_eq_true, decide_eq_true_eq, List.all_eq_true] at h hl
  obtain ⟨a1, a2, a5, a8, a9, a10, a11, a12, a13, a14, a15, a16, a17⟩ := h
  exact ⟨a1, a2, hl.1, hl.2, a5, sw_ones _, sw_all _, a8, a9, a10, a11, a12, a13, a14, a15, a16, a17⟩
theorem plain (x : Int) : GoodX x := by
  obtain ⟨a, b, c, ha, hb, hc, e⟩ := way_is x
  exact goodX_of (by rw [e]; exact (good_way a b c true ha hb hc).1) (by rw [e]; exact (good_way a b c _ ha hb hc).2)
end
end Mine
namespace Mine
section
open PySem PySem.W PyProof.Rows PySem.Calls
set_option maxRecDepth 100000
set_option maxHeartbeats 8000000
theorem top0 : PySem.Challenge.rw_rt0055_01.Holds := by
  w_on
  o_law
  refine holds_S (q := q0) (loose := loose0) (Xt := fun s => xlAt q0 [] s && recOk [] s) (XP := XL q0 []) (Yf := (kmHook KK asK (fun _ => by kernel_rfl) [64]).obs) (Ya := (kmHook KK asK (fun _ => by kernel_rfl) [64]).val) (YP := (kmHook KK asK (fun _ => by kernel_rfl) [64]).says) (N := 5300) left1 (Hook.of (kmHook KK asK (fun _ => by kernel_rfl) [64])) (Hook.keeps (kmHook KK asK (fun _ => by kernel_rfl) [64])) (fun s e => xl_of s (Bool.and_eq_true_iff.mp e).1) XL.keeps (by rfl) (by rfl) (by rfl) (fun s e => recFacts_of (Bool.and_eq_true_iff.mp e).2) (by rfl) (by first | assumption | decide +kernel) (by decide +kernel) ⟨rfl, rfl, rfl, rfl, rfl, by decide +kernel⟩ ?hw ?hc
  case hw => w_witness2
  case hc =>
    intro w s₀ s₁ mg mb G Y a hmg hg args vals as hpre hlay hrd hwl hlo
    have X := km_in_of Y
    have h64 := km_tabs_of Y 64 (.head _)
    have T := G.T
    have e225 : mg (Str.ofString "law") = some (.ref 225) := mg_of X T.g (n := Str.ofString "law") (v := .ref 225) (by rfl)
    obtain rfl : a = 225 := by
      have hmg : mg (Str.ofString "law") = some (.ref a) := hmg
      rw [e225] at hmg
      cases hmg; rfl
    clear e225 hmg
    wrow_args hpre hlay hrd hwl hlo
    rename IntsAre _ _ => hI
    rename Heap.IsList _ _ _ => hL
    rename ¬ _ < _ => hc
    have hlen := hI.length
    refine law_body plain hI (by omega) w X T h64 hL (fun v h' tk' ps' h64' keep hv => ?_)
    subst hv
    refine ⟨.inl ⟨_, .bool true, [], rfl, fun _ => rfl, ?_, ?_, ?_⟩, old_tab X h64 h64' keep, rfl, .of_eq hg⟩
    · constructor
    · wrow_post
    · intro _
      exact ⟨List.nodup_nil, fun _ h => nomatch h⟩
end
end Mine
theorem PySem.Challenge.cw_rt0055_01_holds : PySem.Challenge.rw_rt0055_01.Holds :=
  Mine.top0
