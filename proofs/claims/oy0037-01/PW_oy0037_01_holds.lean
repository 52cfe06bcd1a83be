import PyProof.Rows.All
import Wide.All
import OpenK.AllK
import Wide.FinOn
import Lean
import PySem.Challenge.RW_oy0037_01
set_option Elab.async false
set_option maxRecDepth 100000
set_option maxHeartbeats 8000000
set_option linter.all false
namespace Mine
open PySem PySem.W PyProof.Rows PySem.Calls
/-- the text's rows that stand as they are written: all but seven -/
noncomputable def qrows : List Nat → Nat → List Stmt → List Stmt
  | _, _, [] => []
  | ks, i, s :: r => if ks.contains i then qrows ks (i + 1) r else s :: qrows ks (i + 1) r
noncomputable def qv : Program := { PySem.Challenge.pw_oy0037_01 with main := { PySem.Challenge.pw_oy0037_01.main with body := qrows [1, 4, 8, 9, 10, 11, 34] 0 PySem.Challenge.pw_oy0037_01.main.body } }
noncomputable def qloose : List Str := [Str.ofString "b2a_base64", Str.ofString "b64encode", Str.ofString "_filemode_table"]
/-- the heap of the start as a tree -/
noncomputable def bt0 (P : Params) : BT := (.node (boot_o_0 P) (.node (boot_o_1 P) (.node (boot_o_3 P) (.node (boot_o_7 P) .nil .nil) .nil) (.node (boot_o_5 P) (.node (boot_o_9 P) .nil .nil) .nil)) (.node (boot_o_2 P) (.node (boot_o_4 P) (.node (boot_o_8 P) .nil .nil) .nil) (.node (boot_o_6 P) (.node (boot_o_10 P) .nil .nil) .nil)))
theorem bt0_abs (P : Params) : boot_heap P = absHeap (bt0 P) 11 {} := by kernel_rfl
/-- the run of the top on a tree's heap -/
noncomputable def runT (tb : String → Option Builtin) (p : Program) (w : World) (n₀ : Nat) (ann : Option Value) : Nat → SharedT → Thread → Option SharedT
  | 0, _, _ => none
  | n + 1, s, t => match through t with
    | true => some s
    | false => match stepOk n₀ ann t with
      | false => none
      | true => match stepT (denote tb) p w s t with
        | some (s', t') => runT tb p w n₀ ann n s' t'
        | none => none
theorem runT_of {tb : String → Option Builtin} {p : Program} {w : World} {n₀ : Nat} {ann : Option Value} : ∀ {n : Nat} {s s' : SharedT} {t : Thread}, runT tb p w n₀ ann n s t = some s' → topRun tb p w n₀ ann n s.abs t = some s'.abs
  | 0, _, _, _, h => by cases h
  | n + 1, s, s', t, h => by
    unfold runT at h
    unfold topRun
    cases ht : through t with
    | true => rw [ht] at h; cases h; rfl
    | false =>
      rw [ht] at h
      cases hk : stepOk n₀ ann t with
      | false => rw [hk] at h; cases h
      | true =>
        rw [hk] at h
        cases hs : stepT (denote tb) p w s t with
        | none => rw [hs] at h; cases h
        | some r => obtain ⟨s₂, t₂⟩ := r; rw [hs] at h; rw [stepT_spec hs]; exact runT_of h
/-- a def's object: all that is its own stands in the program -/
noncomputable def fo (i : Nat) (dv kv pm : Value) (code : Nat) : Obj := match PySem.Challenge.pw_oy0037_01.main.body.drop i with
  | .FunctionDef n args body _ _ _ scope _ _ _ :: _ => { cls := .type "function", data := .func { name := n, qualname := n, params := args, body := .stmts body, scope := scope, globals := 3, closure := [], defaults := dv, kwdefaults := kv, pyModule := pm, code := .ref code } }
  | _ => default
/-- a def's text, as it lies beside its code -/
noncomputable def kf (o : Obj) : Obj := match o.data with
  | .func f => { cls := .none, data := .func { name := f.name, qualname := f.qualname, params := f.params, body := f.body, scope := f.scope, globals := 0, closure := [], defaults := .none, kwdefaults := .none } }
  | _ => default
noncomputable def o3 (P : Params) : Obj := { cls := Value.type "dict", data := Data.dict #[{ hash := PyData.keyHash P (Str.ofString "__name__"), key := Value.str (Str.ofString "__name__") 165, val := Value.str (Str.ofString "law_oy0037_01") 341 }, { hash := PyData.keyHash P (Str.ofString "__doc__"), key := Value.str (Str.ofString "__doc__") 166, val := Value.none }, { hash := PyData.keyHash P (Str.ofString "__package__"), key := Value.str (Str.ofString "__package__") 167, val := Value.none }, { hash := PyData.keyHash P (Str.ofString "__loader__"), key := Value.str (Str.ofString "__loader__") 168, val := Value.builtin "__main__.__loader__#opaque" }, { hash := PyData.keyHash P (Str.ofString "__spec__"), key := Value.str (Str.ofString "__spec__") 169, val := Value.none }, { hash := PyData.keyHash P (Str.ofString "__annotations__"), key := Value.str (Str.ofString "__annotations__") 170, val := Value.ref 6 }, { hash := PyData.keyHash P (Str.ofString "__builtins__"), key := Value.str (Str.ofString "__builtins__") 171, val := Value.ref 4 }, { hash := PyData.keyHash P (Str.ofString "__file__"), key := Value.str (Str.ofString "__file__") 173, val := Value.str (Str.ofString "/claim/cut.py") 172 }, { hash := PyData.keyHash P (Str.ofString "__cached__"), key := Value.str (Str.ofString "__cached__") 174, val := Value.none }, { hash := PyData.keyHash P (Str.ofString "_wall"), key := Value.str (Str.ofString "_wall") 193, val := Value.ref 21 }, { hash := PyData.keyHash P (Str.ofString "_strcoll"), key := Value.str (Str.ofString "_strcoll") 203, val := Value.ref 28 }, { hash := PyData.keyHash P (Str.ofString "_strxfrm"), key := Value.str (Str.ofString "_strxfrm") 210, val := Value.ref 35 }, { hash := PyData.keyHash P (Str.ofString "_buffer"), key := Value.str (Str.ofString "_buffer") 220, val := Value.ref 42 }, { hash := PyData.keyHash P (Str.ofString "_truth"), key := Value.str (Str.ofString "_truth") 228, val := Value.ref 49 }, { hash := PyData.keyHash P (Str.ofString "_B64"), key := Value.str (Str.ofString "_B64") 230, val := Value.bytes #[65, 66, 67, 68, 69, 70, 71, 72, 73, 74, 75, 76, 77, 78, 79, 80, 81, 82, 83, 84, 85, 86, 87, 88, 89, 90, 97, 98, 99, 100, 101, 102, 103, 104, 105, 106, 107, 108, 109, 110, 111, 112, 113, 114, 115, 116, 117, 118, 119, 120, 121, 122, 48, 49, 50, 51, 52, 53, 54, 55, 56, 57, 43, 47] 229 }, { hash := PyData.keyHash P (Str.ofString "b2a_base64"), key := Value.str (Str.ofString "b2a_base64") 244, val := Value.ref 57 }, { hash := PyData.keyHash P (Str.ofString "b64encode"), key := Value.str (Str.ofString "b64encode") 255, val := Value.ref 65 }, { hash := PyData.keyHash P (Str.ofString "S_IFMT"), key := Value.str (Str.ofString "S_IFMT") 264, val := Value.ref 72 }, { hash := PyData.keyHash P (Str.ofString "S_IFDIR"), key := Value.str (Str.ofString "S_IFDIR") 266, val := Value.int 16384 265 }, { hash := PyData.keyHash P (Str.ofString "S_IFCHR"), key := Value.str (Str.ofString "S_IFCHR") 268, val := Value.int 8192 267 }, { hash := PyData.keyHash P (Str.ofString "S_IFBLK"), key := Value.str (Str.ofString "S_IFBLK") 270, val := Value.int 24576 269 }, { hash := PyData.keyHash P (Str.ofString "S_IFREG"), key := Value.str (Str.ofString "S_IFREG") 272, val := Value.int 32768 271 }, { hash := PyData.keyHash P (Str.ofString "S_IFIFO"), key := Value.str (Str.ofString "S_IFIFO") 274, val := Value.int 4096 273 }, { hash := PyData.keyHash P (Str.ofString "S_IFLNK"), key := Value.str (Str.ofString "S_IFLNK") 276, val := Value.int 40960 275 }, { hash := PyData.keyHash P (Str.ofString "S_IFSOCK"), key := Value.str (Str.ofString "S_IFSOCK") 278, val := Value.int 49152 277 }, { hash := PyData.keyHash P (Str.ofString "S_ISUID"), key := Value.str (Str.ofString "S_ISUID") 280, val := Value.int 2048 279 }, { hash := PyData.keyHash P (Str.ofString "S_ISGID"), key := Value.str (Str.ofString "S_ISGID") 282, val := Value.int 1024 281 }, { hash := PyData.keyHash P (Str.ofString "S_ISVTX"), key := Value.str (Str.ofString "S_ISVTX") 284, val := Value.int 512 283 }, { hash := PyData.keyHash P (Str.ofString "S_IRUSR"), key := Value.str (Str.ofString "S_IRUSR") 286, val := Value.int 256 285 }, { hash := PyData.keyHash P (Str.ofString "S_IWUSR"), key := Value.str (Str.ofString "S_IWUSR") 288, val := Value.int 128 287 }, { hash := PyData.keyHash P (Str.ofString "S_IXUSR"), key := Value.str (Str.ofString "S_IXUSR") 290, val := Value.int 64 289 }, { hash := PyData.keyHash P (Str.ofString "S_IRGRP"), key := Value.str (Str.ofString "S_IRGRP") 292, val := Value.int 32 291 }, { hash := PyData.keyHash P (Str.ofString "S_IWGRP"), key := Value.str (Str.ofString "S_IWGRP") 294, val := Value.int 16 293 }, { hash := PyData.keyHash P (Str.ofString "S_IXGRP"), key := Value.str (Str.ofString "S_IXGRP") 296, val := Value.int 8 295 }, { hash := PyData.keyHash P (Str.ofString "S_IROTH"), key := Value.str (Str.ofString "S_IROTH") 298, val := Value.int 4 297 }, { hash := PyData.keyHash P (Str.ofString "S_IWOTH"), key := Value.str (Str.ofString "S_IWOTH") 300, val := Value.int 2 299 }, { hash := PyData.keyHash P (Str.ofString "S_IXOTH"), key := Value.str (Str.ofString "S_IXOTH") 302, val := Value.int 1 301 }, { hash := PyData.keyHash P (Str.ofString "_filemode_table"), key := Value.str (Str.ofString "_filemode_table") 328, val := Value.ref 105 }, { hash := PyData.keyHash P (Str.ofString "filemode"), key := Value.str (Str.ofString "filemode") 340, val := Value.ref 112 }, { hash := PyData.keyHash P (Str.ofString "_law_number"), key := Value.str (Str.ofString "_law_number") 353, val := Value.ref 119 }, { hash := PyData.keyHash P (Str.ofString "_law_card"), key := Value.str (Str.ofString "_law_card") 359, val := Value.ref 124 }, { hash := PyData.keyHash P (Str.ofString "_law_order"), key := Value.str (Str.ofString "_law_order") 367, val := Value.ref 131 }, { hash := PyData.keyHash P (Str.ofString "_law_above"), key := Value.str (Str.ofString "_law_above") 373, val := Value.ref 136 }, { hash := PyData.keyHash P (Str.ofString "_law_lines"), key := Value.str (Str.ofString "_law_lines") 379, val := Value.ref 141 }, { hash := PyData.keyHash P (Str.ofString "_law_most"), key := Value.str (Str.ofString "_law_most") 385, val := Value.ref 146 }, { hash := PyData.keyHash P (Str.ofString "law"), key := Value.str (Str.ofString "law") 391, val := Value.ref 151 }] 46 }
noncomputable def o12 : Obj := { cls := Value.none, data := Data.fields #[Value.int 1 0, Value.int 0 0, Value.ref 20, Value.int 5 0, Value.int 0 0, Value.ref 27, Value.int 7 0, Value.int 0 0, Value.ref 34, Value.int 10 0, Value.int 0 0, Value.ref 41, Value.int 17 0, Value.int 0 0, Value.ref 48, Value.int 23 0, Value.int 0 0, Value.ref 56, Value.int 46 0, Value.int 0 0, Value.ref 64, Value.int 53 0, Value.int 0 0, Value.ref 71, Value.int 75 0, Value.int 0 0, Value.ref 111, Value.int 93 0, Value.int 0 0, Value.ref 118, Value.int 100 0, Value.int 0 0, Value.ref 123, Value.int 103 0, Value.int 0 0, Value.ref 130, Value.int 105 0, Value.int 0 0, Value.ref 135, Value.int 111 0, Value.int 0 0, Value.ref 140, Value.int 129 0, Value.int 0 0, Value.ref 145, Value.int 139 0, Value.int 0 0, Value.ref 150] }
noncomputable def o13 : Obj := { cls := Value.type "code", data := Data.fields #[Value.str (Str.ofString "<module>") 182, Value.str (Str.ofString "<module>") 183, Value.str (Str.ofString "/claim/cut.py") 184, Value.int 1 0, Value.int 0 0, Value.int 0 0, Value.int 0 0, Value.int 0 0, Value.ref 11, Value.bool false, Value.int 181 0, Value.ref 12, Value.none, Value.none, Value.none, Value.none, Value.int 185 0, Value.int 1 0, Value.str (Str.ofString "/claim/cut.py") 186] }
noncomputable def o14 : Obj := { cls := Value.type "frame", slots := #[some (Value.ref 13), some (Value.ref 3), some (Value.ref 3), none, some (Value.str (Str.ofString "__main__") 164), none, some (Value.ref 0)] }
noncomputable def o17 : Obj := { cls := Value.type "tuple", data := Data.seq #[Value.str (Str.ofString "k") 190] }
noncomputable def o20 : Obj := { cls := Value.type "code", data := Data.fields #[Value.str (Str.ofString "_wall") 187, Value.str (Str.ofString "_wall") 188, Value.str (Str.ofString "/claim/cut.py") 189, Value.int 1 0, Value.int 1 0, Value.int 0 0, Value.int 0 0, Value.int 3 0, Value.ref 15, Value.bool true, Value.int 181 0, Value.ref 16, Value.none, Value.ref 17, Value.ref 18, Value.ref 19, Value.int 191 0, Value.int 1 0, Value.str (Str.ofString "/claim/cut.py") 192] }
noncomputable def o21 : Obj := fo 0 (Value.none) (Value.none) (Value.str (Str.ofString "__main__") 164) 20
noncomputable def o24 : Obj := { cls := Value.type "tuple", data := Data.seq #[Value.str (Str.ofString "a") 199, Value.str (Str.ofString "b") 200] }
noncomputable def o27 : Obj := { cls := Value.type "code", data := Data.fields #[Value.str (Str.ofString "_strcoll") 196, Value.str (Str.ofString "_strcoll") 197, Value.str (Str.ofString "/claim/cut.py") 198, Value.int 5 0, Value.int 2 0, Value.int 0 0, Value.int 0 0, Value.int 3 0, Value.ref 22, Value.bool true, Value.int 181 0, Value.ref 23, Value.none, Value.ref 24, Value.ref 25, Value.ref 26, Value.int 201 0, Value.int 5 0, Value.str (Str.ofString "/claim/cut.py") 202] }
noncomputable def o28 : Obj := fo 2 (Value.none) (Value.none) (Value.str (Str.ofString "cpy313.locale") 194) 27
noncomputable def o31 : Obj := { cls := Value.type "tuple", data := Data.seq #[Value.str (Str.ofString "s") 207] }
noncomputable def o34 : Obj := { cls := Value.type "code", data := Data.fields #[Value.str (Str.ofString "_strxfrm") 204, Value.str (Str.ofString "_strxfrm") 205, Value.str (Str.ofString "/claim/cut.py") 206, Value.int 7 0, Value.int 1 0, Value.int 0 0, Value.int 0 0, Value.int 3 0, Value.ref 29, Value.bool true, Value.int 181 0, Value.ref 30, Value.none, Value.ref 31, Value.ref 32, Value.ref 33, Value.int 208 0, Value.int 7 0, Value.str (Str.ofString "/claim/cut.py") 209] }
noncomputable def o35 : Obj := fo 3 (Value.none) (Value.none) (Value.str (Str.ofString "cpy313.locale") 194) 34
noncomputable def o38 : Obj := { cls := Value.type "tuple", data := Data.seq #[Value.str (Str.ofString "data") 216, Value.str (Str.ofString "t") 217] }
noncomputable def o41 : Obj := { cls := Value.type "code", data := Data.fields #[Value.str (Str.ofString "_buffer") 213, Value.str (Str.ofString "_buffer") 214, Value.str (Str.ofString "/claim/cut.py") 215, Value.int 10 0, Value.int 1 0, Value.int 0 0, Value.int 0 0, Value.int 3 0, Value.ref 36, Value.bool true, Value.int 181 0, Value.ref 37, Value.none, Value.ref 38, Value.ref 39, Value.ref 40, Value.int 218 0, Value.int 10 0, Value.str (Str.ofString "/claim/cut.py") 219] }
noncomputable def o42 : Obj := fo 5 (Value.none) (Value.none) (Value.str (Str.ofString "binascii") 211) 41
noncomputable def o45 : Obj := { cls := Value.type "tuple", data := Data.seq #[Value.str (Str.ofString "x") 224, Value.str (Str.ofString "t") 225] }
noncomputable def o48 : Obj := { cls := Value.type "code", data := Data.fields #[Value.str (Str.ofString "_truth") 221, Value.str (Str.ofString "_truth") 222, Value.str (Str.ofString "/claim/cut.py") 223, Value.int 17 0, Value.int 1 0, Value.int 0 0, Value.int 0 0, Value.int 3 0, Value.ref 43, Value.bool true, Value.int 181 0, Value.ref 44, Value.none, Value.ref 45, Value.ref 46, Value.ref 47, Value.int 226 0, Value.int 17 0, Value.str (Str.ofString "/claim/cut.py") 227] }
noncomputable def o49 : Obj := fo 6 (Value.none) (Value.none) (Value.str (Str.ofString "binascii") 211) 48
noncomputable def o50 (P : Params) : Obj := { cls := Value.type "dict", data := Data.dict #[{ hash := PyData.keyHash P (Str.ofString "newline"), key := Value.str (Str.ofString "newline") 231, val := Value.bool true }] 1 }
noncomputable def o53 : Obj := { cls := Value.type "tuple", data := Data.seq #[Value.str (Str.ofString "data") 235, Value.str (Str.ofString "newline") 236, Value.str (Str.ofString "bin_data") 237, Value.str (Str.ofString "out") 238, Value.str (Str.ofString "leftbits") 239, Value.str (Str.ofString "leftchar") 240, Value.str (Str.ofString "b") 241] }
noncomputable def o56 : Obj := { cls := Value.type "code", data := Data.fields #[Value.str (Str.ofString "b2a_base64") 232, Value.str (Str.ofString "b2a_base64") 233, Value.str (Str.ofString "/claim/cut.py") 234, Value.int 23 0, Value.int 1 0, Value.int 1 0, Value.int 1 0, Value.int 3 0, Value.ref 51, Value.bool true, Value.int 181 0, Value.ref 52, Value.none, Value.ref 53, Value.ref 54, Value.ref 55, Value.int 242 0, Value.int 23 0, Value.str (Str.ofString "/claim/cut.py") 243] }
noncomputable def o57 : Obj := fo 8 (Value.none) (Value.ref 50) (Value.str (Str.ofString "binascii") 211) 56
noncomputable def o58 : Obj := { cls := Value.type "tuple", data := Data.seq #[Value.none] }
noncomputable def o61 : Obj := { cls := Value.type "tuple", data := Data.seq #[Value.str (Str.ofString "s") 250, Value.str (Str.ofString "altchars") 251, Value.str (Str.ofString "encoded") 252] }
noncomputable def o64 : Obj := { cls := Value.type "code", data := Data.fields #[Value.str (Str.ofString "b64encode") 247, Value.str (Str.ofString "b64encode") 248, Value.str (Str.ofString "/claim/cut.py") 249, Value.int 46 0, Value.int 2 0, Value.int 0 0, Value.int 0 0, Value.int 3 0, Value.ref 59, Value.bool true, Value.int 181 0, Value.ref 60, Value.none, Value.ref 61, Value.ref 62, Value.ref 63, Value.int 253 0, Value.int 46 0, Value.str (Str.ofString "/claim/cut.py") 254] }
noncomputable def o65 : Obj := fo 10 (Value.ref 58) (Value.none) (Value.str (Str.ofString "cpy313.base64") 245) 64
noncomputable def o68 : Obj := { cls := Value.type "tuple", data := Data.seq #[Value.str (Str.ofString "mode") 261] }
noncomputable def o71 : Obj := { cls := Value.type "code", data := Data.fields #[Value.str (Str.ofString "S_IFMT") 258, Value.str (Str.ofString "S_IFMT") 259, Value.str (Str.ofString "/claim/cut.py") 260, Value.int 53 0, Value.int 1 0, Value.int 0 0, Value.int 0 0, Value.int 3 0, Value.ref 66, Value.bool true, Value.int 181 0, Value.ref 67, Value.none, Value.ref 68, Value.ref 69, Value.ref 70, Value.int 262 0, Value.int 53 0, Value.str (Str.ofString "/claim/cut.py") 263] }
noncomputable def o72 : Obj := fo 12 (Value.none) (Value.none) (Value.str (Str.ofString "cpy313.stat") 256) 71
noncomputable def o73 : Obj := { cls := Value.type "tuple", data := Data.seq #[Value.int 40960 275, Value.str (Str.ofString "l") 303] }
noncomputable def o74 : Obj := { cls := Value.type "tuple", data := Data.seq #[Value.int 49152 277, Value.str (Str.ofString "s") 304] }
noncomputable def o75 : Obj := { cls := Value.type "tuple", data := Data.seq #[Value.int 32768 271, Value.str (Str.ofString "-") 305] }
noncomputable def o76 : Obj := { cls := Value.type "tuple", data := Data.seq #[Value.int 24576 269, Value.str (Str.ofString "b") 306] }
noncomputable def o77 : Obj := { cls := Value.type "tuple", data := Data.seq #[Value.int 16384 265, Value.str (Str.ofString "d") 307] }
noncomputable def o78 : Obj := { cls := Value.type "tuple", data := Data.seq #[Value.int 8192 267, Value.str (Str.ofString "c") 308] }
noncomputable def o79 : Obj := { cls := Value.type "tuple", data := Data.seq #[Value.int 4096 273, Value.str (Str.ofString "p") 309] }
noncomputable def o80 : Obj := { cls := Value.type "tuple", data := Data.seq #[Value.ref 73, Value.ref 74, Value.ref 75, Value.ref 76, Value.ref 77, Value.ref 78, Value.ref 79] }
noncomputable def o81 : Obj := { cls := Value.type "tuple", data := Data.seq #[Value.int 256 285, Value.str (Str.ofString "r") 310] }
noncomputable def o82 : Obj := { cls := Value.type "tuple", data := Data.seq #[Value.ref 81] }
noncomputable def o83 : Obj := { cls := Value.type "tuple", data := Data.seq #[Value.int 128 287, Value.str (Str.ofString "w") 311] }
noncomputable def o84 : Obj := { cls := Value.type "tuple", data := Data.seq #[Value.ref 83] }
noncomputable def o85 : Obj := { cls := Value.type "tuple", data := Data.seq #[Value.int 2112 312, Value.str (Str.ofString "s") 313] }
noncomputable def o86 : Obj := { cls := Value.type "tuple", data := Data.seq #[Value.int 2048 279, Value.str (Str.ofString "S") 314] }
noncomputable def o87 : Obj := { cls := Value.type "tuple", data := Data.seq #[Value.int 64 289, Value.str (Str.ofString "x") 315] }
noncomputable def o88 : Obj := { cls := Value.type "tuple", data := Data.seq #[Value.ref 85, Value.ref 86, Value.ref 87] }
noncomputable def o89 : Obj := { cls := Value.type "tuple", data := Data.seq #[Value.int 32 291, Value.str (Str.ofString "r") 316] }
noncomputable def o90 : Obj := { cls := Value.type "tuple", data := Data.seq #[Value.ref 89] }
noncomputable def o91 : Obj := { cls := Value.type "tuple", data := Data.seq #[Value.int 16 293, Value.str (Str.ofString "w") 317] }
noncomputable def o92 : Obj := { cls := Value.type "tuple", data := Data.seq #[Value.ref 91] }
noncomputable def o93 : Obj := { cls := Value.type "tuple", data := Data.seq #[Value.int 1032 318, Value.str (Str.ofString "s") 319] }
noncomputable def o94 : Obj := { cls := Value.type "tuple", data := Data.seq #[Value.int 1024 281, Value.str (Str.ofString "S") 320] }
noncomputable def o95 : Obj := { cls := Value.type "tuple", data := Data.seq #[Value.int 8 295, Value.str (Str.ofString "x") 321] }
noncomputable def o96 : Obj := { cls := Value.type "tuple", data := Data.seq #[Value.ref 93, Value.ref 94, Value.ref 95] }
noncomputable def o97 : Obj := { cls := Value.type "tuple", data := Data.seq #[Value.int 4 297, Value.str (Str.ofString "r") 322] }
noncomputable def o98 : Obj := { cls := Value.type "tuple", data := Data.seq #[Value.ref 97] }
noncomputable def o99 : Obj := { cls := Value.type "tuple", data := Data.seq #[Value.int 2 299, Value.str (Str.ofString "w") 323] }
noncomputable def o100 : Obj := { cls := Value.type "tuple", data := Data.seq #[Value.ref 99] }
noncomputable def o101 : Obj := { cls := Value.type "tuple", data := Data.seq #[Value.int 513 324, Value.str (Str.ofString "t") 325] }
noncomputable def o102 : Obj := { cls := Value.type "tuple", data := Data.seq #[Value.int 512 283, Value.str (Str.ofString "T") 326] }
noncomputable def o103 : Obj := { cls := Value.type "tuple", data := Data.seq #[Value.int 1 301, Value.str (Str.ofString "x") 327] }
noncomputable def o104 : Obj := { cls := Value.type "tuple", data := Data.seq #[Value.ref 101, Value.ref 102, Value.ref 103] }
noncomputable def o105 : Obj := { cls := Value.type "tuple", data := Data.seq #[Value.ref 80, Value.ref 82, Value.ref 84, Value.ref 88, Value.ref 90, Value.ref 92, Value.ref 96, Value.ref 98, Value.ref 100, Value.ref 104] }
noncomputable def o108 : Obj := { cls := Value.type "tuple", data := Data.seq #[Value.str (Str.ofString "mode") 332, Value.str (Str.ofString "perm") 333, Value.str (Str.ofString "index") 334, Value.str (Str.ofString "table") 335, Value.str (Str.ofString "bit") 336, Value.str (Str.ofString "char") 337] }
noncomputable def o111 : Obj := { cls := Value.type "code", data := Data.fields #[Value.str (Str.ofString "filemode") 329, Value.str (Str.ofString "filemode") 330, Value.str (Str.ofString "/claim/cut.py") 331, Value.int 75 0, Value.int 1 0, Value.int 0 0, Value.int 0 0, Value.int 3 0, Value.ref 106, Value.bool true, Value.int 181 0, Value.ref 107, Value.none, Value.ref 108, Value.ref 109, Value.ref 110, Value.int 338 0, Value.int 75 0, Value.str (Str.ofString "/claim/cut.py") 339] }
noncomputable def o112 : Obj := fo 33 (Value.none) (Value.none) (Value.str (Str.ofString "cpy313.stat") 256) 111
noncomputable def o115 : Obj := { cls := Value.type "tuple", data := Data.seq #[Value.str (Str.ofString "mode") 346, Value.str (Str.ofString "number") 347, Value.str (Str.ofString "place") 348, Value.str (Str.ofString "rights") 349, Value.str (Str.ofString "above") 350] }
noncomputable def o118 : Obj := { cls := Value.type "code", data := Data.fields #[Value.str (Str.ofString "_law_number") 343, Value.str (Str.ofString "_law_number") 344, Value.str (Str.ofString "/claim/cut.py") 345, Value.int 93 0, Value.int 1 0, Value.int 0 0, Value.int 0 0, Value.int 3 0, Value.ref 113, Value.bool true, Value.int 181 0, Value.ref 114, Value.none, Value.ref 115, Value.ref 116, Value.ref 117, Value.int 351 0, Value.int 93 0, Value.str (Str.ofString "/claim/cut.py") 352] }
noncomputable def o119 : Obj := fo 35 (Value.none) (Value.none) (Value.str (Str.ofString "law_oy0037_01") 341) 118
noncomputable def o123 : Obj := { cls := Value.type "code", data := Data.fields #[Value.str (Str.ofString "_law_card") 354, Value.str (Str.ofString "_law_card") 355, Value.str (Str.ofString "/claim/cut.py") 356, Value.int 100 0, Value.int 1 0, Value.int 0 0, Value.int 0 0, Value.int 3 0, Value.ref 120, Value.bool true, Value.int 181 0, Value.ref 121, Value.none, Value.none, Value.none, Value.ref 122, Value.int 357 0, Value.int 100 0, Value.str (Str.ofString "/claim/cut.py") 358] }
noncomputable def o124 : Obj := fo 36 (Value.none) (Value.none) (Value.str (Str.ofString "law_oy0037_01") 341) 123
noncomputable def o127 : Obj := { cls := Value.type "tuple", data := Data.seq #[Value.str (Str.ofString "texts") 363] }
noncomputable def o128 : Obj := { cls := Value.type "tuple", data := Data.seq #[Value.str (Str.ofString "texts") 364] }
noncomputable def o130 : Obj := { cls := Value.type "code", data := Data.fields #[Value.str (Str.ofString "_law_order") 360, Value.str (Str.ofString "_law_order") 361, Value.str (Str.ofString "/claim/cut.py") 362, Value.int 103 0, Value.int 1 0, Value.int 0 0, Value.int 0 0, Value.int 3 0, Value.ref 125, Value.bool true, Value.int 181 0, Value.ref 126, Value.none, Value.ref 127, Value.ref 128, Value.ref 129, Value.int 365 0, Value.int 103 0, Value.str (Str.ofString "/claim/cut.py") 366] }
noncomputable def o131 : Obj := fo 37 (Value.none) (Value.none) (Value.str (Str.ofString "law_oy0037_01") 341) 130
noncomputable def o135 : Obj := { cls := Value.type "code", data := Data.fields #[Value.str (Str.ofString "_law_above") 368, Value.str (Str.ofString "_law_above") 369, Value.str (Str.ofString "/claim/cut.py") 370, Value.int 105 0, Value.int 2 0, Value.int 0 0, Value.int 0 0, Value.int 3 0, Value.ref 132, Value.bool true, Value.int 181 0, Value.ref 133, Value.none, Value.none, Value.none, Value.ref 134, Value.int 371 0, Value.int 105 0, Value.str (Str.ofString "/claim/cut.py") 372] }
noncomputable def o136 : Obj := fo 38 (Value.none) (Value.none) (Value.str (Str.ofString "law_oy0037_01") 341) 135
noncomputable def o140 : Obj := { cls := Value.type "code", data := Data.fields #[Value.str (Str.ofString "_law_lines") 374, Value.str (Str.ofString "_law_lines") 375, Value.str (Str.ofString "/claim/cut.py") 376, Value.int 111 0, Value.int 2 0, Value.int 0 0, Value.int 0 0, Value.int 3 0, Value.ref 137, Value.bool true, Value.int 181 0, Value.ref 138, Value.none, Value.none, Value.none, Value.ref 139, Value.int 377 0, Value.int 111 0, Value.str (Str.ofString "/claim/cut.py") 378] }
noncomputable def o141 : Obj := fo 39 (Value.none) (Value.none) (Value.str (Str.ofString "law_oy0037_01") 341) 140
noncomputable def o145 : Obj := { cls := Value.type "code", data := Data.fields #[Value.str (Str.ofString "_law_most") 380, Value.str (Str.ofString "_law_most") 381, Value.str (Str.ofString "/claim/cut.py") 382, Value.int 129 0, Value.int 1 0, Value.int 0 0, Value.int 0 0, Value.int 3 0, Value.ref 142, Value.bool true, Value.int 181 0, Value.ref 143, Value.none, Value.none, Value.none, Value.ref 144, Value.int 383 0, Value.int 129 0, Value.str (Str.ofString "/claim/cut.py") 384] }
noncomputable def o146 : Obj := fo 40 (Value.none) (Value.none) (Value.str (Str.ofString "law_oy0037_01") 341) 145
noncomputable def o150 : Obj := { cls := Value.type "code", data := Data.fields #[Value.str (Str.ofString "law") 386, Value.str (Str.ofString "law") 387, Value.str (Str.ofString "/claim/cut.py") 388, Value.int 139 0, Value.int 1 0, Value.int 0 0, Value.int 0 0, Value.int 3 0, Value.ref 147, Value.bool true, Value.int 181 0, Value.ref 148, Value.none, Value.none, Value.none, Value.ref 149, Value.int 389 0, Value.int 139 0, Value.str (Str.ofString "/claim/cut.py") 390] }
noncomputable def o151 : Obj := fo 41 (Value.none) (Value.none) (Value.str (Str.ofString "law_oy0037_01") 341) 150
/-- the heap behind the top as a tree -/
noncomputable def bt1 (P : Params) : BT := (.node (boot_o_0 P) (.node (boot_o_1 P) (.node (o3 P) (.node (boot_o_7 P) (.node (boot_o_7 P) (.node o31 (.node (kf o65) (.node o127 .nil .nil) .nil) (.node o95 .nil .nil)) (.node (kf o49) (.node o79 (.node (boot_o_8 P) .nil .nil) .nil) (.node o111 .nil .nil))) (.node (boot_o_8 P) (.node (boot_o_7 P) (.node o71 (.node o135 .nil .nil) .nil) (.node o103 .nil .nil)) (.node (kf o57) (.node o87 (.node o151 .nil .nil) .nil) (.node o119 .nil .nil)))) (.node (boot_o_7 P) (.node (kf o21) (.node o35 (.node (boot_o_8 P) (.node o131 .nil .nil) .nil) (.node o99 .nil .nil)) (.node (boot_o_7 P) (.node o83 (.node (boot_o_7 P) .nil .nil) .nil) (.node o115 .nil .nil))) (.node o27 (.node (boot_o_7 P) (.node o75 (.node (kf o141) .nil .nil) .nil) (.node (boot_o_8 P) .nil .nil)) (.node (boot_o_7 P) (.node o91 .nil .nil) (.node o123 .nil .nil))))) (.node (boot_o_5 P) (.node (boot_o_9 P) (.node o17 (.node (kf o35) (.node o65 (.node (kf o131) .nil .nil) .nil) (.node o97 .nil .nil)) (.node o49 (.node o81 (.node o145 .nil .nil) .nil) (.node (boot_o_7 P) .nil .nil))) (.node (boot_o_7 P) (.node o41 (.node o73 (.node (boot_o_7 P) .nil .nil) .nil) (.node o105 .nil .nil)) (.node o57 (.node o89 .nil .nil) (.node (boot_o_8 P) .nil .nil)))) (.node o13 (.node o21 (.node (boot_o_8 P) (.node (boot_o_7 P) (.node (boot_o_8 P) .nil .nil) .nil) (.node o101 .nil .nil)) (.node o53 (.node o85 (.node (kf o151) .nil .nil) .nil) (.node (kf o119) .nil .nil))) (.node (boot_o_7 P) (.node o45 (.node o77 (.node o141 .nil .nil) .nil) (.node (boot_o_7 P) .nil .nil)) (.node o61 (.node o93 .nil .nil) (.node (boot_o_7 P) .nil .nil)))))) (.node (boot_o_2 P) (.node (boot_o_4 P) (.node (boot_o_8 P) (.node (boot_o_8 P) (.node (boot_o_7 P) (.node o64 (.node o128 .nil .nil) .nil) (.node o96 .nil .nil)) (.node o48 (.node o80 (.node (kf o146) .nil .nil) .nil) (.node o112 .nil .nil))) (.node o24 (.node (kf o42) (.node o72 (.node o136 .nil .nil) .nil) (.node o104 .nil .nil)) (.node o56 (.node o88 .nil .nil) (.node (boot_o_7 P) .nil .nil)))) (.node o12 (.node o20 (.node (boot_o_7 P) (.node o68 (.node (boot_o_7 P) .nil .nil) .nil) (.node o100 .nil .nil)) (.node (boot_o_8 P) (.node o84 (.node (boot_o_8 P) .nil .nil) .nil) (.node (boot_o_7 P) .nil .nil))) (.node o28 (.node (boot_o_8 P) (.node o76 (.node o140 .nil .nil) .nil) (.node o108 .nil .nil)) (.node (boot_o_8 P) (.node o92 .nil .nil) (.node o124 .nil .nil))))) (.node (boot_o_6 P) (.node (boot_o_10 P) (.node (boot_o_7 P) (.node o34 (.node (boot_o_7 P) (.node o130 .nil .nil) .nil) (.node o98 .nil .nil)) (.node (o50 P) (.node o82 (.node o146 .nil .nil) .nil) (.node (boot_o_8 P) .nil .nil))) (.node (kf o28) (.node o42 (.node o74 (.node (boot_o_8 P) .nil .nil) .nil) (.node (boot_o_7 P) .nil .nil)) (.node o58 (.node o90 .nil .nil) (.node (kf o124) .nil .nil)))) (.node o14 (.node (boot_o_7 P) (.node o38 (.node (kf o72) (.node (kf o136) .nil .nil) .nil) (.node o102 .nil .nil)) (.node (boot_o_7 P) (.node o86 (.node o150 .nil .nil) .nil) (.node o118 .nil .nil))) (.node (boot_o_8 P) (.node (boot_o_7 P) (.node o78 (.node (boot_o_7 P) .nil .nil) .nil) (.node (kf o112) .nil .nil)) (.node (boot_o_7 P) (.node o94 .nil .nil) (.node (boot_o_8 P) .nil .nil)))))))
noncomputable def hd_end (w : World) (os : OsState) : SharedT := ⟨bt1 w.params, 152, {}, Array.mk [], {}, 392, os⟩
theorem hd_run : ∀ (w : World) (os : OsState), runT treeTable PySem.Challenge.rw_oy0037_01.row.prog w 11 (some (.ref 6)) 1850 ⟨bt0 w.params, 11, {}, Array.mk [], boot_drawn, boot_toks, os⟩ (topStub PySem.Challenge.rw_oy0037_01.row.prog) = some (hd_end w os) := by intros; kernel_rfl
theorem hd_size : ∀ w : World, ((boot_heap w.params).isNs mainGlobals && (Array.mk [] : Array GenState).size == 0, (boot_heap w.params).objs.size, (boot_heap w.params).nsMap mainGlobals "__annotations__") = (true, 11, some (.ref 6)) := by intros; kernel_rfl
theorem hd_laid : ∀ (w : World) (os : OsState), (staticsOk (importedModules PySem.Challenge.rw_oy0037_01.row.prog.main.body) (boot_heap w.params) (hd_end w os).abs.heap && namesBound PySem.Challenge.rw_oy0037_01.row.prog (hd_end w os).abs.heap && gensDone (hd_end w os).abs && laidKept (boot_heap w.params) (hd_end w os).abs.heap) = true := by intros; kernel_rfl
theorem hd_l1 : ∀ (w : World) (os : OsState), seen ((recsOf qv).map (·.name)) (ownsOf qv) [] { (hd_end w os).abs with gens := #[] } = expectedOf qv := by intros; kernel_rfl
theorem hd_l2 : ∀ (w : World) (os : OsState), (hd_end w os).abs.heap.bltView = bltViewBooted := by intros; kernel_rfl
theorem hd_l3 : ∀ (w : World) (os : OsState), (hd_end w os).abs.heap.keysOk (looseW qv qloose) ((recsOf qv).map (·.name)) ((litsOf qv).map (·.1)) ((clssOf qv (looseW qv qloose)).map (·.name)) = true := by intros; kernel_rfl
theorem hd_l4 : ∀ (w : World) (os : OsState), (hd_end w os).abs.heap.accountedOkI (importedModules PySem.Challenge.rw_oy0037_01.row.prog.main.body) = true := by intros; kernel_rfl
theorem hd_l5 : ∀ (w : World) (os : OsState), ((hd_end w os).abs.heap.isNs mainGlobals && (hd_end w os).abs.heap.isNs builtinsNs && tablesOk qv (hd_end w os).abs.heap && (fun s => xlAt qv [] s && recOk [] s) (hd_end w os).abs && (hd_end w os).abs.gens.size == 0) = true := by intros; kernel_rfl
theorem hd_l6 : ∀ (w : World) (os : OsState), tabsOk qv (hd_end w os).abs = true := by intros; kernel_rfl
theorem hd_l7 : ∀ (w : World) (os : OsState), pinSeenD qv (drecsOf qv) (hd_end w os).abs = pinGoodD (drecsOf qv) := by intros; kernel_rfl
theorem hd_l8 : ∀ (w : World) (os : OsState), plainSeenE qv (looseW qv qloose) (hd_end w os).abs = plainGoodE qv (looseW qv qloose) := by intros; kernel_rfl
theorem hd_l9 : ∀ (w : World) (os : OsState), plainSeenD qv qloose (hd_end w os).abs = plainGoodD qv qloose := by intros; kernel_rfl
theorem hd_l10 : ∀ (w : World) (os : OsState), wideSeen qv (hd_end w os).abs = wideGood qv := by intros; kernel_rfl
theorem hd_l11 : ∀ (w : World) (os : OsState), clsSeenW qv qloose (hd_end w os).abs = clsGoodW qv qloose := by intros; kernel_rfl
theorem hd_open : opening PySem.Challenge.rw_oy0037_01.row.prog = plainProg PySem.Challenge.rw_oy0037_01.row.prog.main.scope.names := by kernel_rfl
theorem hd_fence : ∀ s, fenceModules? PySem.Challenge.rw_oy0037_01.row.prog s = some s := by intros; kernel_rfl
theorem seen_all {q : Program} {loose mods : List Str} {Xt : Shared → Bool} {s : Shared} (h1 : seen ((recsOf q).map (·.name)) (ownsOf q) [] { s with gens := #[] } = expectedOf q) (h2 : s.heap.bltView = bltViewBooted)
    (h3 : s.heap.keysOk (looseW q loose) ((recsOf q).map (·.name)) ((litsOf q).map (·.1)) ((clssOf q (looseW q loose)).map (·.name)) = true) (h4 : s.heap.accountedOkI mods = true)
    (h5 : (s.heap.isNs mainGlobals && s.heap.isNs builtinsNs && tablesOk q s.heap && Xt s && s.gens.size == 0) = true) (h6 : tabsOk q s = true)
    (h7 : pinSeenD q (drecsOf q) s = pinGoodD (drecsOf q)) (h8 : plainSeenE q (looseW q loose) s = plainGoodE q (looseW q loose)) (h9 : plainSeenD q loose s = plainGoodD q loose) (h10 : wideSeen q s = wideGood q) (h11 : clsSeenW q loose s = clsGoodW q loose) :
    openSeen q loose mods Xt true s = openGood q loose := by
  simp only [Bool.and_eq_true] at h5
  obtain ⟨⟨⟨⟨a1, a2⟩, a3⟩, a4⟩, a5⟩ := h5
  unfold openSeen openGood
  rw [h1, h2, h3, h4, h6, h7, h8, h9, h10, h11, a1, a2, a3, a4, if_pos rfl, a5]
  rfl
theorem hd_seen (w : World) (os : OsState) : openSeen qv qloose (importedModules PySem.Challenge.rw_oy0037_01.row.prog.main.body) (fun s => xlAt qv [] s && recOk [] s) true (hd_end w os).abs = openGood qv qloose :=
  seen_all (hd_l1 w os) (hd_l2 w os) (hd_l3 w os) (hd_l4 w os) (hd_l5 w os) (hd_l6 w os) (hd_l7 w os) (hd_l8 w os) (hd_l9 w os) (hd_l10 w os) (hd_l11 w os)
theorem hd_left {α : Type} {Yf : Shared → α} {Ya : World → α} (hy : ∀ (w : World) (os : OsState), Yf (hd_end w os).abs = Ya w) : LeftO PySem.Challenge.rw_oy0037_01.row.prog qv qloose (fun s => xlAt qv [] s && recOk [] s) Yf Ya 1850 :=
  LeftO.of_pieces (H₀ := boot_heap) (H₁ := fun P => absHeap (bt1 P) 152 {}) (gs₁ := Array.mk []) (d₁ := {}) (k₁ := 392) (M := 1850) (boot_open hd_open rfl hd_fence) hd_size
    (fun w os => by rw [bt0_abs]; exact runT_of (hd_run w os)) rfl (fun w => funext fun os => Prod.ext (hd_laid w os) (Prod.ext (hd_seen w os) (hy w os)))
theorem hd_head (H : Hook) {d : DefRec} {kwd : List (Str × Expr)} (hdef : defOf qv PySem.Challenge.rw_oy0037_01.row.name = some (d, kwd)) (hp : PySem.Challenge.rw_oy0037_01.row.prog.theDef PySem.Challenge.rw_oy0037_01.row.name = some (d.params, d.body, d.scope)) (hk : kwWritten? d.params.kwonlyargs d.params.kw_defaults = some kwd)
    (k1 : PySem.Challenge.rw_oy0037_01.row.wellSaid = true)
    (ok : (chainsOk qv && opensWell PySem.Challenge.rw_oy0037_01.row.prog && (frees PySem.Challenge.rw_oy0037_01.row.toRowW && PySem.Challenge.rw_oy0037_01.row.within.isEmpty)) = true) (hb : PySem.Challenge.rw_oy0037_01.row.prog.bare)
    (hl : LeftO PySem.Challenge.rw_oy0037_01.row.prog qv qloose (fun s => xlAt qv [] s && recOk [] s) (Hook.obs H) (Hook.val H) 1850) (hw : PySem.Challenge.rw_oy0037_01.row.promised)
    (hc : WalkO qv qloose (XL qv []) (Hook.says H) PySem.Challenge.rw_oy0037_01.row.toRowW d kwd fun f vs => call f vs) : PySem.Challenge.rw_oy0037_01.row.Holds :=
  holds_open (q := qv) (loose := qloose) hl (Hook.of H) (Hook.keeps H) (fun _ e => xl_of _ (Bool.and_eq_true_iff.mp e).1) XL.keeps hdef hp hk (fun _ e => recFacts_of (Bool.and_eq_true_iff.mp e).2) rfl k1 ok hb hw hc
theorem hd_said : OpenLaw.wellSaid PySem.Challenge.rw_oy0037_01 = true := by
  simp only [OpenLaw.wellSaid, OpenRow.wellSaid, OpenRow.partSaid, looksOpen]
  repeat' (with_reducible refine look_both ?_ ?_)
  all_goals decide +kernel
theorem hd_looks : (chainsOk qv && opensWell PySem.Challenge.rw_oy0037_01.row.prog && (frees PySem.Challenge.rw_oy0037_01.row.toRowW && PySem.Challenge.rw_oy0037_01.row.within.isEmpty)) = true := by
  simp only [opensWell]
  repeat' (with_reducible refine look_both ?_ ?_)
  all_goals decide +kernel
theorem hd_bare : PySem.Challenge.rw_oy0037_01.row.prog.bare := ⟨rfl, rfl, rfl, rfl, rfl, by decide +kernel⟩
local macro_rules | `(tactic| o_law) => `(tactic| refine holds_law hd_said fun _ => ?_)
local macro_rules | `(tactic| o_head $H) => `(tactic| refine hd_head $H (by rfl) (by rfl) (by rfl) (by assumption) hd_looks hd_bare (hd_left (fun w os => by kernel_rfl)) ?hw ?hc)
open_top hd for PySem.Challenge.rw_oy0037_01
end Mine
namespace Mine
/-- places of the row where what lies there is above the guest -/
noncomputable def rowSpots (ab : Int → Int → Bool) (r : List Int) (g : Int) : List Nat := (List.range r.length).filter (fun t => ab (r.getD t 0) g)
noncomputable def insG (ab : Int → Int → Bool) : List (List Int) → Int → List (List Int)
  | [], g => [[g]]
  | r :: rs, g => match rowSpots ab r g with
    | [] => (r ++ [g]) :: rs
    | i :: _ => r.set i g :: insG ab rs (r.getD i 0)
noncomputable def depG (ab : Int → Int → Bool) : List (List Int) → Int → Nat
  | [], _ => 0
  | r :: rs, g => match rowSpots ab r g with
    | [] => 0
    | i :: _ => 1 + depG ab rs (r.getD i 0)
noncomputable def addAt (q : List (List Int)) (j : Nat) (x : Int) : List (List Int) := if j < q.length then q.set j (q.getD j [] ++ [x]) else q ++ [[x]]
noncomputable def stepL (ab : Int → Int → Bool) (st : List (List Int) × List (List Int)) (x : Int) : List (List Int) × List (List Int) := (insG ab st.1 x, addAt st.2 (depG ab st.1 x) x)
noncomputable def linesOf (ab : Int → Int → Bool) (ord : List Int) : List (List Int) × List (List Int) := ord.foldl (stepL ab) ([], [])

theorem rowSpots_nil (ab : Int → Int → Bool) (g : Int) : rowSpots ab [] g = [] := rfl
theorem rowSpots_lt {ab : Int → Int → Bool} {r : List Int} {g : Int} {i : Nat} (h : i ∈ rowSpots ab r g) : i < r.length := by
  simp only [rowSpots, List.mem_filter, List.mem_range] at h; exact h.1

/-- the inner loop between its turns: j lines are done, the guest g is at the next one -/
structure InnerOk (ab : Int → Int → Bool) (P0 : List (List Int)) (x : Int) (P : List (List Int)) (g : Int) (j : Nat) : Prop where
  len : P.length = P0.length
  le : j ≤ P0.length
  ins : insG ab P0 x = P.take j ++ insG ab (P.drop j) g
  dep : depG ab P0 x = j + depG ab (P.drop j) g
theorem InnerOk.start (ab : Int → Int → Bool) (P0 : List (List Int)) (x : Int) : InnerOk ab P0 x P0 x 0 := ⟨rfl, Nat.zero_le _, by simp, by simp⟩
theorem InnerOk.bump {ab : Int → Int → Bool} {P0 P : List (List Int)} {x g : Int} {j i : Nat} {r : List Int} {rest : List Nat} (h : InnerOk ab P0 x P g j) (hj : P[j]? = some r) (hs : rowSpots ab r g = i :: rest) :
    InnerOk ab P0 x (P.set j (r.set i g)) (r.getD i 0) (j + 1) := by
  have hlt : j < P.length := by
    rcases Nat.lt_or_ge j P.length with h' | h'
    · exact h'
    · rw [List.getElem?_eq_none h'] at hj; cases hj
  have hr : P[j] = r := by rw [List.getElem?_eq_getElem hlt] at hj; exact Option.some.inj hj
  have hd : P.drop j = r :: P.drop (j + 1) := by rw [List.drop_eq_getElem_cons hlt, hr]
  have ht : (P.set j (r.set i g)).take (j + 1) = P.take j ++ [r.set i g] := by
    rw [List.take_set, List.take_add_one, hj]
    simp [List.set_append, List.length_take, Nat.min_eq_left (Nat.le_of_lt hlt)]
  have hd' : (P.set j (r.set i g)).drop (j + 1) = P.drop (j + 1) := by
    rw [List.drop_set]; simp
  refine ⟨by rw [List.length_set]; exact h.len, by rw [← h.len]; exact hlt, ?_, ?_⟩
  · rw [h.ins, hd, ht, hd']
    simp [insG, hs]
  · rw [h.dep, hd, hd']
    simp [depG, hs]; omega
theorem InnerOk.stop {ab : Int → Int → Bool} {P0 P : List (List Int)} {x g : Int} {j : Nat} {r : List Int} (h : InnerOk ab P0 x P g j) (hj : P[j]? = some r) (hs : rowSpots ab r g = []) :
    insG ab P0 x = P.set j (r ++ [g]) ∧ depG ab P0 x = j := by
  have hlt : j < P.length := by
    rcases Nat.lt_or_ge j P.length with h' | h'
    · exact h'
    · rw [List.getElem?_eq_none h'] at hj; cases hj
  have hr : P[j] = r := by rw [List.getElem?_eq_getElem hlt] at hj; exact Option.some.inj hj
  have hd : P.drop j = r :: P.drop (j + 1) := by rw [List.drop_eq_getElem_cons hlt, hr]
  refine ⟨?_, ?_⟩
  · rw [h.ins, hd]
    simp only [insG, hs]
    rw [List.set_eq_take_append_cons_drop, if_pos hlt]
  · rw [h.dep, hd]; simp [depG, hs]
theorem InnerOk.new {ab : Int → Int → Bool} {P0 P : List (List Int)} {x g : Int} (h : InnerOk ab P0 x P g P.length) :
    insG ab P0 x = (P ++ [[]]).set P.length ([] ++ [g]) ∧ depG ab P0 x = P.length := by
  refine ⟨?_, ?_⟩
  · rw [h.ins]; simp [insG]
  · rw [h.dep]; simp [depG]
theorem insG_len {ab : Int → Int → Bool} : ∀ {P : List (List Int)} {g : Int}, (insG ab P g).length = if depG ab P g < P.length then P.length else P.length + 1
  | [], g => by simp [insG, depG]
  | r :: rs, g => by
    cases hsp : rowSpots ab r g with
    | nil => simp [insG, depG, hsp]
    | cons i rest =>
      have := @insG_len ab rs (r.getD i 0)
      simp only [insG, depG, hsp, List.length_cons, this]
      by_cases h : depG ab rs (r.getD i 0) < rs.length
      · rw [if_pos h, if_pos (by omega)]
      · rw [if_neg h, if_neg (by omega)]
theorem addAt_len (q : List (List Int)) (j : Nat) (x : Int) : (addAt q j x).length = if j < q.length then q.length else q.length + 1 := by
  unfold addAt; split <;> simp
end Mine
namespace Mine
theorem InnerOk.finish {ab : Int → Int → Bool} {P0 Q0 P1 P2 Q2 : List (List Int)} {x g : Int} {j : Nat} {r q : List Int} (h : InnerOk ab P0 x P1 g j) (hq : Q0.length = P0.length)
    (hc : (P2 = P1 ∧ Q2 = Q0 ∧ j < P1.length) ∨ (j = P1.length ∧ P2 = P1 ++ [[]] ∧ Q2 = Q0 ++ [[]])) (hr : P2[j]? = some r) (hq2 : Q2[j]? = some q) (hs : rowSpots ab r g = []) :
    (P2.set j (r ++ [g]), Q2.set j (q ++ [x])) = stepL ab (P0, Q0) x := by
  unfold stepL
  rcases hc with ⟨rfl, rfl, hlt⟩ | ⟨rfl, rfl, rfl⟩
  · obtain ⟨e1, e2⟩ := h.stop hr hs
    rw [e1, e2]
    have hl : j < Q2.length := by rw [hq, ← h.len]; exact hlt
    unfold addAt
    rw [if_pos hl]
    have : Q2.getD j [] = q := by simp [List.getD, hq2]
    rw [this]
  · obtain ⟨e1, e2⟩ := h.new
    have hl : Q0.length = P1.length := by rw [hq, h.len]
    have er : r = [] := by simpa using hr.symm
    have eq : q = [] := by
      rw [← hl] at hq2
      simpa using hq2.symm
    subst er; subst eq
    rw [e1, e2]
    unfold addAt
    rw [if_neg (by show ¬ P1.length < Q0.length; omega)]
    rw [← hl]
    simp
theorem InnerOk.notNew {ab : Int → Int → Bool} {P0 Q0 P1 P2 Q2 : List (List Int)} {x g : Int} {j i : Nat} {r : List Int} {rest : List Nat} (_h : InnerOk ab P0 x P1 g j)
    (hc : (P2 = P1 ∧ Q2 = Q0 ∧ j < P1.length) ∨ (j = P1.length ∧ P2 = P1 ++ [[]] ∧ Q2 = Q0 ++ [[]])) (hr : P2[j]? = some r) (hs : rowSpots ab r g = i :: rest) : P2 = P1 ∧ Q2 = Q0 := by
  rcases hc with ⟨e1, e2, _⟩ | ⟨rfl, rfl, rfl⟩
  · exact ⟨e1, e2⟩
  · have er : r = [] := by simpa using hr.symm
    subst er
    rw [rowSpots_nil] at hs; cases hs
theorem InnerOk.rowLe {ab : Int → Int → Bool} {P0 Q0 P1 P2 Q2 : List (List Int)} {x g : Int} {j b : Nat} {r : List Int} (_h : InnerOk ab P0 x P1 g j)
    (hc : (P2 = P1 ∧ Q2 = Q0 ∧ j < P1.length) ∨ (j = P1.length ∧ P2 = P1 ++ [[]] ∧ Q2 = Q0 ++ [[]])) (hr : P2[j]? = some r) (hb : ∀ r ∈ P1, r.length ≤ b) : r.length ≤ b := by
  rcases hc with ⟨rfl, _, _⟩ | ⟨rfl, rfl, rfl⟩
  · exact hb r (List.mem_of_getElem? hr)
  · have er : r = [] := by simpa using hr.symm
    subst er; exact Nat.zero_le _
theorem InnerOk.markLe {ab : Int → Int → Bool} {P0 Q0 P1 P2 Q2 : List (List Int)} {x g : Int} {j b : Nat} {q : List Int} (h : InnerOk ab P0 x P1 g j) (hq : Q0.length = P0.length)
    (hc : (P2 = P1 ∧ Q2 = Q0 ∧ j < P1.length) ∨ (j = P1.length ∧ P2 = P1 ++ [[]] ∧ Q2 = Q0 ++ [[]])) (hq2 : Q2[j]? = some q) (hb : ∀ r ∈ Q0, r.length ≤ b) : q.length ≤ b := by
  rcases hc with ⟨_, rfl, _⟩ | ⟨rfl, rfl, rfl⟩
  · exact hb q (List.mem_of_getElem? hq2)
  · have hl : Q0.length = P1.length := by rw [hq, h.len]
    rw [← hl] at hq2
    have eq : q = [] := by simpa using hq2.symm
    subst eq; exact Nat.zero_le _
end Mine
namespace Mine
/-- the greatest of 0 and the items -/
noncomputable def mx (l : List Int) : Int := l.foldl max 0
theorem mx_snoc (l : List Int) (x : Int) : mx (l ++ [x]) = max (mx l) x := by simp [mx]
theorem foldl_max_ge (l : List Int) : ∀ a, a ≤ l.foldl max a ∧ ∀ x ∈ l, x ≤ l.foldl max a := by
  induction l with
  | nil => intro a; exact ⟨Int.le_refl _, fun x hx => nomatch hx⟩
  | cons y r ih =>
    intro a
    obtain ⟨h1, h2⟩ := ih (max a y)
    simp only [List.foldl_cons]
    refine ⟨by omega, fun x hx => ?_⟩
    rcases List.mem_cons.mp hx with rfl | hx
    · omega
    · exact h2 x hx
theorem foldl_max_mem (l : List Int) : ∀ a, l.foldl max a = a ∨ l.foldl max a ∈ l := by
  induction l with
  | nil => intro a; exact .inl rfl
  | cons y r ih =>
    intro a
    simp only [List.foldl_cons]
    rcases ih (max a y) with h | h
    · rw [h]
      by_cases h' : a ≤ y
      · right; rw [show max a y = y from by omega]; exact List.mem_cons_self ..
      · left; omega
    · right; exact List.mem_cons_of_mem _ h
theorem mx_nonneg (l : List Int) : 0 ≤ mx l := (foldl_max_ge l 0).1
theorem mx_ge {l : List Int} {x : Int} (h : x ∈ l) : x ≤ mx l := (foldl_max_ge l 0).2 x h
theorem mx_mem (l : List Int) : mx l = 0 ∨ mx l ∈ l := foldl_max_mem l 0
theorem mx_le {l : List Int} {b : Int} (h0 : 0 ≤ b) (h : ∀ x ∈ l, x ≤ b) : mx l ≤ b := by
  rcases mx_mem l with e | e
  · rw [e]; exact h0
  · exact h _ e
/-- what max(..) says of a list with a nought at its head -/
theorem mx_of {l : List Int} {M : Int} (h : M ∈ ([0] : List Int) ++ l) (hb : ∀ a, a ∈ ([0] : List Int) ++ l → a ≤ M) : M = mx l := by
  have h0 : 0 ≤ M := hb 0 (by simp)
  have h1 : mx l ≤ M := mx_le h0 fun x hx => hb x (by simp [hx])
  have h2 : M ≤ mx l := by
    rcases List.mem_append.mp h with h | h
    · rw [List.mem_singleton.mp h]; exact mx_nonneg l
    · exact mx_ge h
  omega
theorem mx_of' {l : List Int} {M : Int} (h : M ∈ l) (hb : ∀ a, a ∈ l → a ≤ M) (hn : ∀ a ∈ l, 0 ≤ a) : M = mx l := by
  have h1 : mx l ≤ M := mx_le (hn _ h) hb
  have h2 := mx_ge h
  omega
noncomputable def bitOn (c : Int) (k : Nat) : Bool := ((c.fdiv (2 ^ k)).fmod 2) == 1
noncomputable def partUpto (ns : List Int) (c : Int) (t : Nat) : List Int := ((List.range t).filter (bitOn c)).map (fun k => ns.getD k 0)
noncomputable def partOf (ns : List Int) (c : Int) : List Int := partUpto ns c ns.length
/-- the falls that end above place k, of those before -/
noncomputable def fallsAt (part falls : List Int) (k t : Nat) : List Int := ((List.range t).filter (fun j => decide (part.getD k 0 < part.getD j 0))).map (fun j => falls.getD j 0)
noncomputable def fallsUpto (part : List Int) : Nat → List Int
  | 0 => []
  | k + 1 => fallsUpto part k ++ [1 + mx (fallsAt part (fallsUpto part k) k k)]
noncomputable def fallsOf (part : List Int) : List Int := fallsUpto part part.length
noncomputable def bestStep (ns : List Int) (best : List Int) (c : Nat) : List Int :=
  best.set (mx (fallsOf (partOf ns c))).toNat (max (best.getD (mx (fallsOf (partOf ns c))).toNat 0) ((partOf ns c).length : Int))
noncomputable def bestUpto (ns : List Int) (c : Nat) : List Int := (List.range c).foldl (bestStep ns) (List.replicate (ns.length + 1) 0)
noncomputable def mostOf (ns : List Int) : List Int := (List.range ns.length).map (fun k => mx ((bestUpto ns (2 ^ ns.length)).take (k + 2)))

theorem range_snoc_filter (p : Nat → Bool) (t : Nat) : (List.range (t + 1)).filter p = if p t then (List.range t).filter p ++ [t] else (List.range t).filter p := by
  rw [List.range_succ, List.filter_append, List.filter_cons, List.filter_nil]
  cases p t <;> simp
theorem partUpto_succ (ns : List Int) (c : Int) (t : Nat) : partUpto ns c (t + 1) = if bitOn c t then partUpto ns c t ++ [ns.getD t 0] else partUpto ns c t := by
  unfold partUpto; rw [range_snoc_filter]; split <;> simp
theorem fallsAt_succ (part falls : List Int) (k t : Nat) : fallsAt part falls k (t + 1) = if part.getD k 0 < part.getD t 0 then fallsAt part falls k t ++ [falls.getD t 0] else fallsAt part falls k t := by
  unfold fallsAt; rw [range_snoc_filter]
  by_cases h : part.getD k 0 < part.getD t 0
  · rw [if_pos h, if_pos (by simpa using h)]; simp
  · rw [if_neg h, if_neg (by simpa using h)]
theorem partUpto_len (ns : List Int) (c : Int) (t : Nat) : (partUpto ns c t).length ≤ t := by
  unfold partUpto; rw [List.length_map]; exact Nat.le_trans (List.length_filter_le ..) (by simp)
theorem partOf_len (ns : List Int) (c : Int) : (partOf ns c).length ≤ ns.length := partUpto_len ns c _
theorem fallsAt_len (part falls : List Int) (k t : Nat) : (fallsAt part falls k t).length ≤ t := by
  unfold fallsAt; rw [List.length_map]; exact Nat.le_trans (List.length_filter_le ..) (by simp)
theorem fallsUpto_len (part : List Int) : ∀ k, (fallsUpto part k).length = k
  | 0 => rfl
  | k + 1 => by simp [fallsUpto, fallsUpto_len part k]
theorem fallsUpto_rng (part : List Int) : ∀ k, ∀ x ∈ fallsUpto part k, 1 ≤ x ∧ x ≤ (k : Int)
  | 0 => fun x hx => nomatch hx
  | k + 1 => fun x hx => by
    have ih := fallsUpto_rng part k
    rcases List.mem_append.mp hx with h | h
    · have := ih x h; omega
    · rw [List.mem_singleton.mp h]
      have h0 := mx_nonneg (fallsAt part (fallsUpto part k) k k)
      have h1 : mx (fallsAt part (fallsUpto part k) k k) ≤ (k : Int) := mx_le (by omega) fun y hy => by
        unfold fallsAt at hy
        obtain ⟨j, hj, rfl⟩ := List.mem_map.mp hy
        have hj' : j < k := by simpa using (List.mem_filter.mp hj).1
        have hl : j < (fallsUpto part k).length := by rw [fallsUpto_len]; exact hj'
        have : (fallsUpto part k).getD j 0 = (fallsUpto part k)[j] := by simp [List.getD, List.getElem?_eq_getElem hl]
        rw [this]
        exact (ih _ (List.getElem_mem hl)).2
      omega
theorem longest_rng (part : List Int) : 0 ≤ mx (fallsOf part) ∧ mx (fallsOf part) ≤ (part.length : Int) :=
  ⟨mx_nonneg _, mx_le (by omega) fun x hx => (fallsUpto_rng part _ x hx).2⟩
theorem bestUpto_succ (ns : List Int) (c : Nat) : bestUpto ns (c + 1) = bestStep ns (bestUpto ns c) c := by
  simp [bestUpto, List.range_succ, List.foldl_append]
theorem bestUpto_len (ns : List Int) : ∀ c, (bestUpto ns c).length = ns.length + 1
  | 0 => by simp [bestUpto]
  | c + 1 => by rw [bestUpto_succ, bestStep, List.length_set, bestUpto_len ns c]
theorem bestUpto_nonneg (ns : List Int) : ∀ c, ∀ x ∈ bestUpto ns c, 0 ≤ x
  | 0 => fun x hx => by
    have := List.eq_of_mem_replicate hx
    omega
  | c + 1 => fun x hx => by
    rw [bestUpto_succ, bestStep] at hx
    rcases List.mem_or_eq_of_mem_set hx with h | h
    · exact bestUpto_nonneg ns c x h
    · rw [h]; omega
end Mine
namespace Mine
noncomputable def Kr (k : Nat) (p q : Int × Nat) : Prop := p.2 = q.2 → p.2 < k → p.1 ≤ q.1
noncomputable def cnt (k : Nat) : List (Int × Nat) → Nat
  | [] => 0
  | p :: l => (if p.2 < k then 1 else 0) + cnt k l
noncomputable def Col (k n : Nat) (w : List Int) : Prop := ∃ cw : List (Int × Nat), cw.map (·.1) = w ∧ cw.Pairwise (Kr k) ∧ n ≤ cnt k cw
theorem cnt_append (k : Nat) (a b : List (Int × Nat)) : cnt k (a ++ b) = cnt k a + cnt k b := by
  induction a with
  | nil => simp [cnt]
  | cons p l ih => simp [cnt, ih]; omega
noncomputable def sw (a b c : Nat) : Nat := if c = a then b else if c = b then a else c
theorem cnt_sw (k a b : Nat) (ha : a < k) (hb : b < k) (l : List (Int × Nat)) : cnt k (l.map fun p => (p.1, sw a b p.2)) = cnt k l := by
  induction l with
  | nil => rfl
  | cons p l ih =>
    simp only [List.map_cons, cnt, ih]
    have : (sw a b p.2 < k) ↔ p.2 < k := by unfold sw; grind
    simp [this]
theorem pw_sw (k a b : Nat) (ha : a < k) (hb : b < k) (l : List (Int × Nat)) (h : l.Pairwise (Kr k)) : (l.map fun p => (p.1, sw a b p.2)).Pairwise (Kr k) := by
  rw [List.pairwise_map]
  refine h.imp ?_
  intro p q hpq h1 h2
  refine hpq ?_ ?_
  · simp only at h1; unfold sw at h1; grind
  · simp only at h2; unfold sw at h2; grind
inductive Kn : List Int → List Int → Prop where
  | refl (w : List Int) : Kn w w
  | symm {a b : List Int} : Kn a b → Kn b a
  | trans {a b c : List Int} : Kn a b → Kn b c → Kn a c
  | k1 (u v : List Int) (x y z : Int) : x < y → y ≤ z → Kn (u ++ y :: z :: x :: v) (u ++ y :: x :: z :: v)
  | k2 (u v : List Int) (x y z : Int) : x ≤ y → y < z → Kn (u ++ x :: z :: y :: v) (u ++ z :: x :: y :: v)
theorem three {f : Int × Nat → Int} {cw : List (Int × Nat)} {u v : List Int} {x y z : Int} (hf : f = (·.1)) (h : cw.map f = u ++ x :: y :: z :: v) :
    ∃ U V a b c, cw = U ++ (x, a) :: (y, b) :: (z, c) :: V ∧ U.map f = u ∧ V.map f = v := by
  rw [List.map_eq_append_iff] at h
  obtain ⟨U, r, rfl, hU, hr⟩ := h
  rw [List.map_eq_cons_iff] at hr
  obtain ⟨p, r, rfl, hp, hr⟩ := hr
  rw [List.map_eq_cons_iff] at hr
  obtain ⟨q, r, rfl, hq, hr⟩ := hr
  rw [List.map_eq_cons_iff] at hr
  obtain ⟨s, r, rfl, hs, hr⟩ := hr
  subst hf
  obtain ⟨p1, p2⟩ := p
  obtain ⟨q1, q2⟩ := q
  obtain ⟨s1, s2⟩ := s
  simp only at hp hq hs
  subst hp hq hs
  exact ⟨U, r, p2, q2, s2, rfl, hU, hr⟩
structure P3 (k : Nat) (U V : List (Int × Nat)) (a b c : Int × Nat) : Prop where
  pu : U.Pairwise (Kr k)
  ua : ∀ u ∈ U, Kr k u a
  ub : ∀ u ∈ U, Kr k u b
  uc : ∀ u ∈ U, Kr k u c
  uv : ∀ u ∈ U, ∀ v ∈ V, Kr k u v
  ab : Kr k a b
  ac : Kr k a c
  bc : Kr k b c
  av : ∀ v ∈ V, Kr k a v
  bv : ∀ v ∈ V, Kr k b v
  cv : ∀ v ∈ V, Kr k c v
  pv : V.Pairwise (Kr k)
theorem P3.of {k : Nat} {U V : List (Int × Nat)} {a b c : Int × Nat} (h : (U ++ a :: b :: c :: V).Pairwise (Kr k)) : P3 k U V a b c := by
  obtain ⟨h1, h2, h3⟩ := List.pairwise_append.mp h
  obtain ⟨h4, h5⟩ := List.pairwise_cons.mp h2
  obtain ⟨h6, h7⟩ := List.pairwise_cons.mp h5
  obtain ⟨h8, h9⟩ := List.pairwise_cons.mp h7
  exact ⟨h1, fun u hu => h3 u hu _ (.head _), fun u hu => h3 u hu _ (.tail _ (.head _)), fun u hu => h3 u hu _ (.tail _ (.tail _ (.head _))), fun u hu v hv => h3 u hu _ (.tail _ (.tail _ (.tail _ hv))), h4 _ (.head _), h4 _ (.tail _ (.head _)), h6 _ (.head _),
    fun v hv => h4 _ (.tail _ (.tail _ hv)), fun v hv => h6 _ (.tail _ hv), fun v hv => h8 _ hv, h9⟩
theorem P3.to {k : Nat} {U V : List (Int × Nat)} {a b c : Int × Nat} (h : P3 k U V a b c) : (U ++ a :: b :: c :: V).Pairwise (Kr k) := by
  refine List.pairwise_append.mpr ⟨h.pu, List.pairwise_cons.mpr ⟨fun x hx => ?_, List.pairwise_cons.mpr ⟨fun x hx => ?_, List.pairwise_cons.mpr ⟨h.cv, h.pv⟩⟩⟩, fun u hu x hx => ?_⟩
  · rcases List.mem_cons.mp hx with rfl | hx
    · exact h.ab
    · rcases List.mem_cons.mp hx with rfl | hx
      · exact h.ac
      · exact h.av x hx
  · rcases List.mem_cons.mp hx with rfl | hx
    · exact h.bc
    · exact h.bv x hx
  · rcases List.mem_cons.mp hx with rfl | hx
    · exact h.ua u hu
    · rcases List.mem_cons.mp hx with rfl | hx
      · exact h.ub u hu
      · rcases List.mem_cons.mp hx with rfl | hx
        · exact h.uc u hu
        · exact h.uv u hu x hx
theorem cnt_three (k : Nat) (U V : List (Int × Nat)) (a b c : Int × Nat) : cnt k (U ++ a :: b :: c :: V) = cnt k U + ((if a.2 < k then 1 else 0) + ((if b.2 < k then 1 else 0) + ((if c.2 < k then 1 else 0) + cnt k V))) := cnt_append k U _
theorem le_kr {k : Nat} {p q : Int × Nat} (h : p.1 ≤ q.1) : Kr k p q := fun _ _ => h
theorem ne_kr {k : Nat} {p q : Int × Nat} (h : p.2 < k → p.2 ≠ q.2) : Kr k p q := fun e l => absurd e (h l)
theorem map_three (U V : List (Int × Nat)) (a b c : Int × Nat) : (U ++ a :: b :: c :: V).map (·.1) = U.map (·.1) ++ a.1 :: b.1 :: c.1 :: V.map (·.1) := List.map_append
theorem k1_fwd {k n : Nat} {u v : List Int} {x y z : Int} (h1 : x < y) (h2 : y ≤ z) (h : Col k n (u ++ y :: z :: x :: v)) : Col k n (u ++ y :: x :: z :: v) := by
  obtain ⟨cw, e, hp, hn⟩ := h
  obtain ⟨U, V, a, b, c, rfl, rfl, rfl⟩ := three rfl e
  have p := P3.of hp
  refine ⟨U ++ (y, a) :: (x, c) :: (z, b) :: V, map_three .., P3.to ⟨p.pu, p.ua, p.uc, p.ub, p.uv, p.ac, p.ab, le_kr (Int.le_trans (Int.le_of_lt h1) h2), p.av, p.cv, p.bv, p.pv⟩, ?_⟩
  rw [cnt_three] at hn ⊢
  clear p hp e
  omega
theorem k2_fwd {k n : Nat} {u v : List Int} {x y z : Int} (h1 : x ≤ y) (h2 : y < z) (h : Col k n (u ++ z :: x :: y :: v)) : Col k n (u ++ x :: z :: y :: v) := by
  obtain ⟨cw, e, hp, hn⟩ := h
  obtain ⟨U, V, a, b, c, rfl, rfl, rfl⟩ := three rfl e
  have p := P3.of hp
  refine ⟨U ++ (x, b) :: (z, a) :: (y, c) :: V, map_three .., P3.to ⟨p.pu, p.ub, p.ua, p.uc, p.uv, le_kr (Int.le_of_lt (Int.lt_of_le_of_lt h1 h2)), p.bc, p.ac, p.bv, p.av, p.cv, p.pv⟩, ?_⟩
  rw [cnt_three] at hn ⊢
  clear p hp e
  omega
theorem sw_self (a b : Nat) : sw a b a = b := if_pos rfl
theorem sw_mem {a b c d : Nat} (e : d = sw a b c) : (c = a ∧ d = b) ∨ (c ≠ a ∧ c = b ∧ d = a) ∨ (c ≠ a ∧ c ≠ b ∧ d = c) := by
  unfold sw at e
  split at e
  · exact .inl ⟨by assumption, e⟩
  · split at e
    · exact .inr (.inl ⟨by assumption, by assumption, e⟩)
    · exact .inr (.inr ⟨by assumption, by assumption, e⟩)
/-- behind the swap of two colours -/
theorem kr_sw {k a b : Nat} {p v : Int × Nat} (ha : a < k) (hb : b < k) (h1 : p.2 = b → p.1 ≤ v.1 ∨ v.2 ≠ a) (h2 : p.2 = a → p.1 ≤ v.1 ∨ v.2 ≠ b) (h3 : Kr k p v) : Kr k p (v.1, sw a b v.2) := by
  intro e l
  rcases sw_mem e with ⟨c1, c2⟩ | ⟨_, c1, c2⟩ | ⟨_, _, c2⟩
  · exact (h1 c2).resolve_right fun q => q c1
  · exact (h2 c2).resolve_right fun q => q c1
  · exact h3 c2 l
theorem all_sw {a b : Nat} {V : List (Int × Nat)} {P : Int × Nat → Prop} (h : ∀ v ∈ V, P (v.1, sw a b v.2)) : ∀ q ∈ V.map (fun p => (p.1, sw a b p.2)), P q := by
  intro q hq
  obtain ⟨p, hp, rfl⟩ := List.mem_map.mp hq
  exact h p hp
theorem map_sw (a b : Nat) (V : List (Int × Nat)) : (V.map fun p => (p.1, sw a b p.2)).map (·.1) = V.map (·.1) := by rw [List.map_map]; rfl
theorem k1_back {k n : Nat} {u v : List Int} {x y z : Int} (h1 : x < y) (h2 : y ≤ z) (h : Col k n (u ++ y :: x :: z :: v)) : Col k n (u ++ y :: z :: x :: v) := by
  obtain ⟨cw, e, hp, hn⟩ := h
  obtain ⟨U, V, cy, cx, cz, rfl, rfl, rfl⟩ := three rfl e
  have p := P3.of hp
  have hxz : x ≤ z := Int.le_trans (Int.le_of_lt h1) h2
  by_cases hc : cx = cz ∧ cx < k
  · obtain ⟨rfl, hk⟩ := hc
    have hyx : cy ≠ cx := fun q => by have w : y ≤ x := p.ab q (by show cy < k; omega); omega
    by_cases hy : cy < k
    · refine ⟨U ++ (y, cy) :: (z, cy) :: (x, cx) :: V.map (fun p => (p.1, sw cx cy p.2)), by rw [map_three, map_sw], P3.to ⟨p.pu, p.ua, fun u hu e l => Int.le_trans (p.ua u hu e l) h2, p.ub, fun u hu => all_sw fun v hv => ?_, le_kr h2, ne_kr fun _ => hyx, ne_kr fun _ => hyx, all_sw fun v hv => ?_, all_sw fun v hv => ?_, all_sw fun v hv => ?_, pw_sw k cx cy hk hy V p.pv⟩, ?_⟩
      · refine kr_sw hk hy (fun q => ?_) (fun q => ?_) (p.uv u hu v hv)
        · by_cases w : v.2 = cx
          · exact .inl (Int.le_trans (Int.le_trans (p.ua u hu q (by rw [q]; exact hy)) h2) (p.cv v hv w.symm hk))
          · exact .inr w
        · by_cases w : v.2 = cy
          · exact .inl (Int.le_trans (Int.le_trans (p.ub u hu q (by rw [q]; exact hk)) (Int.le_of_lt h1)) (p.av v hv w.symm hy))
          · exact .inr w
      · refine kr_sw hk hy (fun _ => ?_) (fun q => absurd q hyx) (p.av v hv)
        by_cases w : v.2 = cx
        · exact .inl (Int.le_trans h2 (p.cv v hv w.symm hk))
        · exact .inr w
      · intro e l
        rcases sw_mem e with ⟨c1, c2⟩ | ⟨_, c1, c2⟩ | ⟨_, c3, c2⟩
        · exact p.cv v hv c1.symm hk
        · exact absurd c2 hyx
        · exact absurd c2.symm c3
      · intro e l
        rcases sw_mem e with ⟨c1, c2⟩ | ⟨_, c1, c2⟩ | ⟨c3, _, c2⟩
        · exact absurd c2.symm hyx
        · exact Int.le_trans (Int.le_of_lt h1) (p.av v hv c1.symm hy)
        · exact absurd c2.symm c3
      · rw [cnt_three] at hn ⊢
        rw [cnt_sw k cx cy hk hy V]
        simp only [hk, hy, if_true] at hn ⊢
        exact hn
    · refine ⟨U ++ (y, cx) :: (z, cx) :: (x, cy) :: V, map_three .., P3.to ⟨p.pu, fun u hu e l => Int.le_trans (p.ub u hu e l) (Int.le_of_lt h1), p.uc, ?_, p.uv, le_kr h2, ne_kr fun _ => fun q => hyx q.symm, ne_kr fun _ => fun q => hyx q.symm, fun v hv e l => Int.le_trans h2 (p.cv v hv e l), p.cv, fun v hv => ne_kr fun l => absurd l hy, p.pv⟩, ?_⟩
      · intro u hu e l
        have e' : u.2 = cy := e
        exact absurd (by rw [← e']; exact l) hy
      · rw [cnt_three] at hn ⊢
        simp only [hk, hy, if_true, if_false] at hn ⊢
        omega
  · refine ⟨U ++ (y, cy) :: (z, cz) :: (x, cx) :: V, map_three .., P3.to ⟨p.pu, p.ua, p.uc, p.ub, p.uv, p.ac, p.ab, ?_, p.av, p.cv, p.bv, p.pv⟩, ?_⟩
    · intro e l
      have e' : cz = cx := e
      exact absurd ⟨e'.symm, by rw [← e']; exact l⟩ hc
    · rw [cnt_three] at hn ⊢
      clear p hp e hc
      omega
theorem k2_back {k n : Nat} {u v : List Int} {x y z : Int} (h1 : x ≤ y) (h2 : y < z) (h : Col k n (u ++ x :: z :: y :: v)) : Col k n (u ++ z :: x :: y :: v) := by
  obtain ⟨cw, e, hp, hn⟩ := h
  obtain ⟨U, V, cx, cz, cy, rfl, rfl, rfl⟩ := three rfl e
  have p := P3.of hp
  by_cases hc : cx = cz ∧ cx < k
  · obtain ⟨rfl, hk⟩ := hc
    have hyx : cx ≠ cy := fun q => by have w : z ≤ y := p.bc q hk; omega
    by_cases hy : cy < k
    · refine ⟨U ++ (z, cy) :: (x, cx) :: (y, cx) :: V.map (fun p => (p.1, sw cx cy p.2)), by rw [map_three, map_sw], P3.to ⟨p.pu, fun u hu e l => Int.le_trans (p.uc u hu e l) (Int.le_of_lt h2), p.ua, fun u hu e l => Int.le_trans (p.ua u hu e l) h1, fun u hu => all_sw fun v hv => ?_, ne_kr fun _ => fun q => hyx q.symm, ne_kr fun _ => fun q => hyx q.symm, le_kr h1, all_sw fun v hv => ?_, all_sw fun v hv => ?_, all_sw fun v hv => ?_, pw_sw k cx cy hk hy V p.pv⟩, ?_⟩
      · refine kr_sw hk hy (fun q => ?_) (fun q => ?_) (p.uv u hu v hv)
        · by_cases w : v.2 = cx
          · exact .inl (Int.le_trans (Int.le_trans (p.uc u hu q (by rw [q]; exact hy)) (Int.le_of_lt h2)) (p.bv v hv w.symm hk))
          · exact .inr w
        · by_cases w : v.2 = cy
          · exact .inl (Int.le_trans (Int.le_trans (p.ua u hu q (by rw [q]; exact hk)) h1) (p.cv v hv w.symm hy))
          · exact .inr w
      · intro e l
        rcases sw_mem e with ⟨c1, c2⟩ | ⟨_, c1, c2⟩ | ⟨_, c3, c2⟩
        · exact p.bv v hv c1.symm hk
        · exact absurd c2.symm hyx
        · exact absurd c2.symm c3
      · intro e l
        rcases sw_mem e with ⟨c1, c2⟩ | ⟨_, c1, c2⟩ | ⟨c3, _, c2⟩
        · exact absurd c2 hyx
        · exact Int.le_trans h1 (p.cv v hv c1.symm hy)
        · exact absurd c2.symm c3
      · intro e l
        rcases sw_mem e with ⟨c1, c2⟩ | ⟨_, c1, c2⟩ | ⟨c3, _, c2⟩
        · exact absurd c2 hyx
        · exact p.cv v hv c1.symm hy
        · exact absurd c2.symm c3
      · rw [cnt_three] at hn ⊢
        rw [cnt_sw k cx cy hk hy V]
        simp only [hk, hy, if_true] at hn ⊢
        exact hn
    · refine ⟨U ++ (z, cy) :: (x, cx) :: (y, cx) :: V, map_three .., P3.to ⟨p.pu, ?_, p.ua, fun u hu e l => Int.le_trans (p.ua u hu e l) h1, p.uv, ne_kr fun _ => fun q => hyx q.symm, ne_kr fun _ => fun q => hyx q.symm, le_kr h1, fun v hv => ne_kr fun l => absurd l hy, p.av, fun v hv e l => Int.le_trans (Int.le_of_lt h2) (p.bv v hv e l), p.pv⟩, ?_⟩
      · intro u hu e l
        have e' : u.2 = cy := e
        exact absurd (by rw [← e']; exact l) hy
      · rw [cnt_three] at hn ⊢
        simp only [hk, hy, if_true, if_false] at hn ⊢
        omega
  · refine ⟨U ++ (z, cz) :: (x, cx) :: (y, cy) :: V, map_three .., P3.to ⟨p.pu, p.ub, p.ua, p.uc, p.uv, ?_, p.bc, p.ac, p.bv, p.av, p.cv, p.pv⟩, ?_⟩
    · intro e l
      have e' : cz = cx := e
      exact absurd ⟨e'.symm, by rw [← e']; exact l⟩ hc
    · rw [cnt_three] at hn ⊢
      clear p hp e hc
      omega
theorem Kn.col {a b : List Int} (h : Kn a b) (k n : Nat) : Col k n a ↔ Col k n b := by
  induction h with
  | refl => exact Iff.rfl
  | symm _ ih => exact ih.symm
  | trans _ _ ih1 ih2 => exact ih1.trans ih2
  | k1 u v x y z h1 h2 => exact ⟨k1_fwd h1 h2, k1_back h1 h2⟩
  | k2 u v x y z h1 h2 => exact ⟨k2_back h1 h2, k2_fwd h1 h2⟩
theorem Kn.app {a b : List Int} (h : Kn a b) (s t : List Int) : Kn (s ++ a ++ t) (s ++ b ++ t) := by
  induction h with
  | refl => exact .refl _
  | symm _ ih => exact ih.symm
  | trans _ _ ih1 ih2 => exact ih1.trans ih2
  | k1 u v x y z h1 h2 => simpa using Kn.k1 (s ++ u) (v ++ t) x y z h1 h2
  | k2 u v x y z h1 h2 => simpa using Kn.k2 (s ++ u) (v ++ t) x y z h1 h2
end Mine
namespace Mine
theorem snoc_ind {α : Type} {P : List α → Prop} (h0 : P []) (h1 : ∀ l x, P l → P (l ++ [x])) (l : List α) : P l := by
  have : ∀ l : List α, P l.reverse := by
    intro l
    induction l with
    | nil => exact h0
    | cons x l ih => rw [List.reverse_cons]; exact h1 _ _ ih
  have := this l.reverse
  rwa [List.reverse_reverse] at this
noncomputable abbrev Srt (l : List Int) : Prop := l.Pairwise (· ≤ ·)
noncomputable def place : List Int → Int → List Int × Option Int
  | [], g => ([g], none)
  | a :: r, g => if g < a then (g :: r, some a) else (a :: (place r g).1, (place r g).2)
theorem place_lt {a g : Int} {r : List Int} (h : g < a) : place (a :: r) g = (g :: r, some a) := by
  rw [place, if_pos h]
theorem place_ge {a g : Int} {r : List Int} (h : ¬ g < a) : place (a :: r) g = (a :: (place r g).1, (place r g).2) := by
  rw [place, if_neg h]
theorem place_mem {r : List Int} {g x : Int} (h : x ∈ (place r g).1) : x = g ∨ x ∈ r := by
  induction r with
  | nil => simpa [place] using h
  | cons a r ih =>
    unfold place at h
    split at h
    · simp at h; grind
    · simp at h; grind
theorem place_some {r : List Int} {g a : Int} (h : (place r g).2 = some a) : a ∈ r ∧ g < a ∧ (place r g).1.length = r.length := by
  induction r with
  | nil => simp [place] at h
  | cons b r ih =>
    unfold place at h ⊢
    split at h
    · simp at h; subst h; simp [*]
    · simp only at h
      obtain ⟨h1, h2, h3⟩ := ih h
      simp [*]
theorem place_none {r : List Int} {g : Int} (h : (place r g).2 = none) : (place r g).1 = r ++ [g] ∧ ∀ x ∈ r, x ≤ g := by
  induction r with
  | nil => simp [place]
  | cons b r ih =>
    unfold place at h ⊢
    split at h
    · cases h
    · simp only at h
      obtain ⟨h1, h2⟩ := ih h
      rename_i hg
      rw [if_neg hg]
      refine ⟨by simp [h1], fun x hx => ?_⟩
      rcases List.mem_cons.mp hx with rfl | hx
      · omega
      · exact h2 x hx
theorem place_srt {r : List Int} (h : Srt r) (g : Int) : Srt (place r g).1 := by
  induction r with
  | nil => simp [place]
  | cons b r ih =>
    unfold Srt at h ih ⊢
    rw [List.pairwise_cons] at h
    unfold place
    split
    · rw [List.pairwise_cons]
      exact ⟨fun x hx => by have := h.1 x hx; omega, h.2⟩
    · rw [List.pairwise_cons]
      refine ⟨fun x hx => ?_, ih h.2⟩
      rcases place_mem hx with rfl | hx
      · omega
      · exact h.1 x hx
theorem kn_left {g : Int} : ∀ (r : List Int) (a : Int), Srt (a :: r) → g < a → Kn (a :: r ++ [g]) (a :: g :: r)
  | [], a, _, _ => .refl _
  | b :: s, a, h, hg => by
    unfold Srt at h
    have hab : a ≤ b := (List.pairwise_cons.mp h).1 b (.head _)
    have ih := (kn_left (g := g) s b (List.pairwise_cons.mp h).2 (by omega)).app [a] []
    have k := Kn.k1 [] s g a b hg hab
    simp only [List.append_nil, List.nil_append, List.cons_append, List.singleton_append] at ih k ⊢
    exact ih.trans k
theorem place_head {r : List Int} {g b : Int} (h : (place r g).2 = some b) : ∃ y t, (place r g).1 = y :: t ∧ y < b ∧ (y = g ∨ y ∈ r) := by
  cases r with
  | nil => simp [place] at h
  | cons a r =>
    unfold place at h ⊢
    split at h
    · simp only [Option.some.injEq] at h; subst h
      exact ⟨g, r, by simp [*], by assumption, .inl rfl⟩
    · simp only at h
      have := (place_some h).2.1
      exact ⟨a, (place r g).1, by simp [*], by omega, .inr (.head _)⟩
theorem place_kn {r : List Int} {g a : Int} (hs : Srt r) (h : (place r g).2 = some a) : Kn (r ++ [g]) (a :: (place r g).1) := by
  induction r with
  | nil => simp [place] at h
  | cons b r ih =>
    unfold Srt at hs ih
    have hs' := List.pairwise_cons.mp hs
    unfold place at h ⊢
    split at h
    · rename_i hg
      simp only [Option.some.injEq] at h
      subst h
      rw [if_pos hg]
      exact kn_left r b hs hg
    · rename_i hg
      simp only at h
      rw [if_neg hg]
      have k := (ih hs'.2 h).app [b] []
      obtain ⟨y, t, e, hy, hm⟩ := place_head h
      simp only [e] at k ⊢
      have hby : b ≤ y := by
        rcases hm with rfl | hm
        · omega
        · exact hs'.1 y hm
      have k2 := Kn.k2 [] t b y a hby hy
      simp only [List.append_nil, List.nil_append, List.cons_append, List.singleton_append] at k k2 ⊢
      exact k.trans k2
/-- one row, its marks, and what it hands on -/
noncomputable def rowStep (st : List Int × List Int × List (Int × Int)) (p : Int × Int) : List Int × List Int × List (Int × Int) :=
  match (place st.1 p.1).2 with
  | none => ((place st.1 p.1).1, st.2.1 ++ [p.2], st.2.2)
  | some a => ((place st.1 p.1).1, st.2.1, st.2.2 ++ [(a, p.2)])
noncomputable def rowOf (W : List (Int × Int)) : List Int × List Int × List (Int × Int) := W.foldl rowStep ([], [], [])
noncomputable abbrev Rw (W : List (Int × Int)) : List Int := (rowOf W).1
noncomputable abbrev Mw (W : List (Int × Int)) : List Int := (rowOf W).2.1
noncomputable abbrev Bw (W : List (Int × Int)) : List (Int × Int) := (rowOf W).2.2
theorem rowOf_snoc (W : List (Int × Int)) (p : Int × Int) : rowOf (W ++ [p]) = rowStep (rowOf W) p := by simp [rowOf, List.foldl_append]
theorem Rw_snoc (W : List (Int × Int)) (p : Int × Int) : Rw (W ++ [p]) = (place (Rw W) p.1).1 := by
  unfold Rw; rw [rowOf_snoc]; unfold rowStep; split <;> rfl
theorem Mw_none {W : List (Int × Int)} {p : Int × Int} (h : (place (Rw W) p.1).2 = none) : Mw (W ++ [p]) = Mw W ++ [p.2] := by
  unfold Mw; rw [rowOf_snoc]; unfold rowStep; rw [h]
theorem Mw_some {W : List (Int × Int)} {p : Int × Int} {a : Int} (h : (place (Rw W) p.1).2 = some a) : Mw (W ++ [p]) = Mw W := by
  unfold Mw; rw [rowOf_snoc]; unfold rowStep; rw [h]
theorem Bw_none {W : List (Int × Int)} {p : Int × Int} (h : (place (Rw W) p.1).2 = none) : Bw (W ++ [p]) = Bw W := by
  unfold Bw; rw [rowOf_snoc]; unfold rowStep; rw [h]
theorem Bw_some {W : List (Int × Int)} {p : Int × Int} {a : Int} (h : (place (Rw W) p.1).2 = some a) : Bw (W ++ [p]) = Bw W ++ [(a, p.2)] := by
  unfold Bw; rw [rowOf_snoc]; unfold rowStep; rw [h]
theorem Rw_srt (W : List (Int × Int)) : Srt (Rw W) := by
  induction W using snoc_ind with
  | h0 => exact List.Pairwise.nil
  | h1 W p ih => rw [Rw_snoc]; exact place_srt ih _
theorem len_MR (W : List (Int × Int)) : (Mw W).length = (Rw W).length := by
  induction W using snoc_ind with
  | h0 => rfl
  | h1 W p ih =>
    rw [Rw_snoc]
    cases h : (place (Rw W) p.1).2 with
    | none => rw [Mw_none h, (place_none h).1]; simp [ih]
    | some a => rw [Mw_some h, (place_some h).2.2]; exact ih
theorem len_RB (W : List (Int × Int)) : (Rw W).length + (Bw W).length = W.length := by
  induction W using snoc_ind with
  | h0 => rfl
  | h1 W p ih =>
    rw [Rw_snoc]
    cases h : (place (Rw W) p.1).2 with
    | none => rw [Bw_none h, (place_none h).1]; simp; omega
    | some a => rw [Bw_some h, (place_some h).2.2]; simp; omega
theorem Rw_ne {W : List (Int × Int)} (h : W ≠ []) : Rw W ≠ [] := by
  induction W using snoc_ind with
  | h0 => exact absurd rfl h
  | h1 W p ih =>
    rw [Rw_snoc]
    cases h' : (place (Rw W) p.1).2 with
    | none => rw [(place_none h').1]; simp
    | some a =>
      obtain ⟨y, t, e, _⟩ := place_head h'
      rw [e]; simp
noncomputable abbrev vals (W : List (Int × Int)) : List Int := W.map (·.1)
theorem Kn_row (W : List (Int × Int)) : Kn (vals W) (vals (Bw W) ++ Rw W) := by
  induction W using snoc_ind with
  | h0 => exact .refl _
  | h1 W p ih =>
    have k := ih.app [] [p.1]
    rw [Rw_snoc]
    cases h : (place (Rw W) p.1).2 with
    | none =>
      rw [Bw_none h, (place_none h).1]
      simpa using k
    | some a =>
      rw [Bw_some h]
      have k2 := (place_kn (Rw_srt W) h).app (vals (Bw W)) []
      simp only [List.nil_append, List.append_nil, List.append_assoc, List.map_append, List.map_cons, List.map_nil, List.cons_append] at k k2 ⊢
      exact k.trans k2
/-- the rows -/
noncomputable def Bn : Nat → List (Int × Int) → List (Int × Int)
  | 0, W => W
  | i + 1, W => Bn i (Bw W)
noncomputable abbrev Prow (W : List (Int × Int)) (i : Nat) : List Int := Rw (Bn i W)
noncomputable abbrev Qrow (W : List (Int × Int)) (i : Nat) : List Int := Mw (Bn i W)
noncomputable def rd : Nat → List (Int × Int) → List Int
  | 0, W => vals W
  | m + 1, W => rd m (Bw W) ++ Rw W
theorem Kn_rd : ∀ (m : Nat) (W : List (Int × Int)), Kn (vals W) (rd m W)
  | 0, _ => .refl _
  | m + 1, W => by
    have h := (Kn_rd m (Bw W)).app [] (Rw W)
    simp only [List.nil_append] at h
    exact (Kn_row W).trans h
theorem Bn_len : ∀ (m : Nat) (W : List (Int × Int)), W.length ≤ m → Bn m W = []
  | 0, W, h => List.length_eq_zero_iff.mp (Nat.le_zero.mp h)
  | m + 1, W, h => by
    rw [Bn]
    refine Bn_len m _ ?_
    have e := len_RB W
    cases hW : W with
    | nil => exact Nat.zero_le _
    | cons p t =>
      have : Rw W ≠ [] := Rw_ne (by rw [hW]; simp)
      have := List.length_pos_iff.mpr this
      rw [← hW]; omega
theorem Bn_succ' : ∀ (i : Nat) (W : List (Int × Int)), Bn (i + 1) W = Bw (Bn i W)
  | 0, _ => rfl
  | i + 1, W => Bn_succ' i (Bw W)
/-- a row lies above the next one -/
inductive Dom : List Int → List Int → Prop where
  | nil (r : List Int) : Dom [] r
  | cons {a b : Int} {s r : List Int} : a < b → Dom s r → Dom (b :: s) (a :: r)
theorem Dom.snoc {s r : List Int} (h : Dom s r) (g : Int) : Dom s (r ++ [g]) := by
  induction h with
  | nil r => exact .nil _
  | cons h _ ih => exact .cons h ih
theorem Dom.place_up {s r : List Int} (h : Dom s r) {g a : Int} (hp : (place r g).2 = some a) : Dom s (place r g).1 := by
  induction h with
  | nil r => exact .nil _
  | cons h hd ih =>
    unfold place at hp ⊢
    split at hp
    · rename_i hg
      rw [if_pos hg]
      exact .cons (by omega) hd
    · rename_i hg
      rw [if_neg hg]
      exact .cons h (ih hp)
theorem Dom.both {s r : List Int} (h : Dom s r) {g a : Int} (hp : (place r g).2 = some a) : Dom (place s a).1 (place r g).1 := by
  induction r generalizing s with
  | nil => simp [place] at hp
  | cons c t ih =>
    unfold place at hp
    split at hp
    · rename_i hg
      simp only [Option.some.injEq] at hp
      subst hp
      have e : (place (c :: t) g).1 = g :: t := by unfold place; rw [if_pos hg]
      rw [e]
      cases h with
      | nil => exact .cons hg (.nil _)
      | cons hcb hd =>
        unfold place
        rw [if_pos hcb]
        exact .cons hg hd
    · rename_i hg
      simp only at hp
      have e : (place (c :: t) g).1 = c :: (place t g).1 := by
        conv => lhs; unfold place
        rw [if_neg hg]
      rw [e]
      have hga := (place_some hp).2.1
      cases h with
      | nil => exact .cons (by omega) (.nil _)
      | @cons _ b s _ hcb hd =>
        by_cases hb : a < b
        · rw [place_lt hb]; exact .cons (by omega) (hd.place_up hp)
        · rw [place_ge hb]; exact .cons hcb (ih hd hp)
theorem Dom_rows (W : List (Int × Int)) : Dom (Rw (Bw W)) (Rw W) := by
  induction W using snoc_ind with
  | h0 => exact .nil _
  | h1 W p ih =>
    cases h : (place (Rw W) p.1).2 with
    | none => rw [Bw_none h, Rw_snoc, (place_none h).1]; exact ih.snoc _
    | some a => rw [Bw_some h, Rw_snoc, Rw_snoc]; exact ih.both h
-- restriction of the values
theorem place_filter_out {r : List Int} {g v : Int} (hs : Srt r) (h : v < g) : (place r g).1.filter (fun x => decide (x ≤ v)) = r.filter (fun x => decide (x ≤ v)) ∧ ∀ a, (place r g).2 = some a → v < a := by
  induction r with
  | nil => simp [place]; omega
  | cons c t ih =>
    unfold Srt at hs ih
    have hs' := List.pairwise_cons.mp hs
    obtain ⟨i1, i2⟩ := ih hs'.2
    unfold place
    split
    · refine ⟨?_, fun a ha => ?_⟩
      · simp only [List.filter_cons]
        rw [if_neg (by simp; omega), if_neg (by simp; omega)]
      · simp only [Option.some.injEq] at ha; omega
    · refine ⟨?_, i2⟩
      simp only [List.filter_cons, i1]
theorem filter_none {r : List Int} {c v : Int} (hs : Srt (c :: r)) (h : v < c) : r.filter (fun x => decide (x ≤ v)) = [] := by
  rw [List.filter_eq_nil_iff]
  intro x hx
  have := (List.pairwise_cons.mp hs).1 x hx
  simp; omega
theorem place_filter_in {r : List Int} {g v : Int} (hs : Srt r) (h : g ≤ v) :
    (place (r.filter (fun x => decide (x ≤ v))) g).1 = (place r g).1.filter (fun x => decide (x ≤ v)) ∧
    (place (r.filter (fun x => decide (x ≤ v))) g).2 = (place r g).2.bind (fun a => if a ≤ v then some a else none) := by
  induction r with
  | nil => simp [place, h]
  | cons c t ih =>
    have hs2 : Srt t := (List.pairwise_cons.mp hs).2
    obtain ⟨i1, i2⟩ := ih hs2
    by_cases hc : c ≤ v
    · rw [List.filter_cons_of_pos (by simpa using hc)]
      by_cases hg : g < c
      · rw [place_lt hg, place_lt hg]
        simp [h, hc]
      · rw [place_ge hg, place_ge hg]
        simp only [i1, i2]
        rw [List.filter_cons_of_pos (by simpa using hc)]
        exact ⟨rfl, trivial⟩
    · rw [List.filter_cons_of_neg (by simpa using hc), filter_none hs (by omega)]
      have hg : g < c := by omega
      rw [place_lt hg]
      have e := filter_none hs (show v < c by omega)
      refine ⟨?_, ?_⟩
      · show [g] = _
        rw [List.filter_cons_of_pos (by simpa using h), e]
      · show none = _
        simp [hc]
theorem row_vals (W : List (Int × Int)) (v : Int) : Rw (W.filter (fun p => decide (p.1 ≤ v))) = (Rw W).filter (fun x => decide (x ≤ v)) ∧ Bw (W.filter (fun p => decide (p.1 ≤ v))) = (Bw W).filter (fun p => decide (p.1 ≤ v)) := by
  induction W using snoc_ind with
  | h0 => exact ⟨rfl, rfl⟩
  | h1 W p ih =>
    obtain ⟨i1, i2⟩ := ih
    rw [List.filter_append]
    by_cases hp : p.1 ≤ v
    · have e : [p].filter (fun p => decide (p.1 ≤ v)) = [p] := by simp [hp]
      rw [e, Rw_snoc, Rw_snoc, i1]
      obtain ⟨j1, j2⟩ := place_filter_in (Rw_srt W) hp
      refine ⟨j1, ?_⟩
      rw [← i1] at j2
      cases h : (place (Rw W) p.1).2 with
      | none =>
        rw [h] at j2
        rw [Bw_none j2, Bw_none h, i2]
      | some a =>
        rw [h] at j2
        simp only [Option.bind_some] at j2
        rw [Bw_some h, List.filter_append]
        by_cases ha : a ≤ v
        · rw [if_pos ha] at j2
          rw [Bw_some j2, i2]; simp [ha]
        · rw [if_neg ha] at j2
          rw [Bw_none j2, i2]; simp [ha]
    · have e : [p].filter (fun p => decide (p.1 ≤ v)) = [] := by simp [hp]
      rw [e, List.append_nil, Rw_snoc, i1, i2]
      obtain ⟨j1, j2⟩ := place_filter_out (Rw_srt W) (show v < p.1 by omega)
      refine ⟨j1.symm, ?_⟩
      cases h : (place (Rw W) p.1).2 with
      | none => rw [Bw_none h]
      | some a =>
        have := j2 a h
        rw [Bw_some h, List.filter_append]; simp; omega
theorem Bn_vals (v : Int) : ∀ (i : Nat) (W : List (Int × Int)), Bn i (W.filter (fun p => decide (p.1 ≤ v))) = (Bn i W).filter (fun p => decide (p.1 ≤ v))
  | 0, _ => rfl
  | i + 1, W => by rw [Bn, Bn, (row_vals W v).2, Bn_vals v i]
theorem Prow_vals (v : Int) (i : Nat) (W : List (Int × Int)) : Prow (W.filter (fun p => decide (p.1 ≤ v))) i = (Prow W i).filter (fun x => decide (x ≤ v)) := by
  unfold Prow; rw [Bn_vals, (row_vals _ v).1]
-- restriction of the marks
noncomputable abbrev MSrt (W : List (Int × Int)) : Prop := W.Pairwise (fun p q => p.2 ≤ q.2)
theorem mark_of (W : List (Int × Int)) : (∀ x ∈ Mw W, ∃ p ∈ W, p.2 = x) ∧ ∀ q ∈ Bw W, ∃ p ∈ W, p.2 = q.2 := by
  induction W using snoc_ind with
  | h0 => exact ⟨fun x hx => (nomatch hx), fun x hx => (nomatch hx)⟩
  | h1 W p ih =>
    have up : ∀ y, (∃ q ∈ W, q.2 = y) → ∃ q ∈ W ++ [p], q.2 = y := fun y ⟨q, hq, e⟩ => ⟨q, List.mem_append_left _ hq, e⟩
    have new : ∃ q ∈ W ++ [p], q.2 = p.2 := ⟨p, by simp, rfl⟩
    cases h : (place (Rw W) p.1).2 with
    | none =>
      rw [Mw_none h, Bw_none h]
      refine ⟨fun x hx => ?_, fun q hq => up _ (ih.2 q hq)⟩
      rcases List.mem_append.mp hx with hx | hx
      · exact up _ (ih.1 x hx)
      · rw [List.mem_singleton.mp hx]; exact new
    | some a =>
      rw [Mw_some h, Bw_some h]
      refine ⟨fun x hx => up _ (ih.1 x hx), fun q hq => ?_⟩
      rcases List.mem_append.mp hq with hq | hq
      · exact up _ (ih.2 q hq)
      · rw [List.mem_singleton.mp hq]; exact new
theorem row_msrt {W : List (Int × Int)} (hs : MSrt W) : Srt (Mw W) ∧ MSrt (Bw W) := by
  induction W using snoc_ind with
  | h0 => exact ⟨List.Pairwise.nil, List.Pairwise.nil⟩
  | h1 W p ih =>
    unfold MSrt at hs
    rw [List.pairwise_append] at hs
    obtain ⟨i1, i2⟩ := ih hs.1
    have hm := mark_of W
    have hle : ∀ q ∈ W, q.2 ≤ p.2 := fun q hq => hs.2.2 q hq p (.head _)
    cases h : (place (Rw W) p.1).2 with
    | none =>
      rw [Mw_none h, Bw_none h]
      refine ⟨?_, i2⟩
      unfold Srt
      rw [List.pairwise_append]
      refine ⟨i1, by simp, fun x hx y hy => ?_⟩
      rw [List.mem_singleton.mp hy]
      obtain ⟨q, hq, rfl⟩ := hm.1 x hx
      exact hle q hq
    | some a =>
      rw [Mw_some h, Bw_some h]
      refine ⟨i1, ?_⟩
      unfold MSrt
      rw [List.pairwise_append]
      refine ⟨i2, by simp, fun x hx y hy => ?_⟩
      rw [List.mem_singleton.mp hy]
      obtain ⟨q, hq, e⟩ := hm.2 x hx
      rw [← e]
      exact hle q hq
theorem row_marks {W : List (Int × Int)} (hs : MSrt W) (v : Int) : Mw (W.filter (fun p => decide (p.2 ≤ v))) = (Mw W).filter (fun x => decide (x ≤ v)) ∧ Bw (W.filter (fun p => decide (p.2 ≤ v))) = (Bw W).filter (fun p => decide (p.2 ≤ v)) := by
  induction W using snoc_ind with
  | h0 => exact ⟨rfl, rfl⟩
  | h1 W p ih =>
    have hs0 := hs
    unfold MSrt at hs
    rw [List.pairwise_append] at hs
    obtain ⟨i1, i2⟩ := ih hs.1
    have hm := mark_of (W ++ [p])
    have hle : ∀ q ∈ W, q.2 ≤ p.2 := fun q hq => hs.2.2 q hq p (.head _)
    by_cases hp : p.2 ≤ v
    · have hall : ∀ q ∈ W ++ [p], q.2 ≤ v := fun q hq => by
        rcases List.mem_append.mp hq with hq | hq
        · have := hle q hq; omega
        · rw [List.mem_singleton.mp hq]; exact hp
      have e1 : (W ++ [p]).filter (fun p => decide (p.2 ≤ v)) = W ++ [p] := by
        rw [List.filter_eq_self]; intro q hq; simpa using hall q hq
      rw [e1]
      refine ⟨?_, ?_⟩
      · symm; rw [List.filter_eq_self]
        intro x hx
        obtain ⟨q, hq, rfl⟩ := hm.1 x hx
        simpa using hall q hq
      · symm; rw [List.filter_eq_self]
        intro x hx
        obtain ⟨q, hq, e⟩ := hm.2 x hx
        simpa [← e] using hall q hq
    · rw [List.filter_append]
      have e : [p].filter (fun p => decide (p.2 ≤ v)) = [] := by simp [hp]
      rw [e, List.append_nil, i1, i2]
      cases h : (place (Rw W) p.1).2 with
      | none => rw [Mw_none h, Bw_none h, List.filter_append]; simp [hp]
      | some a => rw [Mw_some h, Bw_some h, List.filter_append]; simp [hp]
theorem Bn_msrt : ∀ (i : Nat) {W : List (Int × Int)}, MSrt W → MSrt (Bn i W)
  | 0, _, h => h
  | i + 1, _, h => Bn_msrt i (row_msrt h).2
theorem Bn_marks (v : Int) : ∀ (i : Nat) {W : List (Int × Int)}, MSrt W → Bn i (W.filter (fun p => decide (p.2 ≤ v))) = (Bn i W).filter (fun p => decide (p.2 ≤ v))
  | 0, _, _ => rfl
  | i + 1, W, h => by rw [Bn, Bn, (row_marks h v).2, Bn_marks v i (row_msrt h).2]
theorem Qrow_marks (v : Int) (i : Nat) {W : List (Int × Int)} (h : MSrt W) : Qrow (W.filter (fun p => decide (p.2 ≤ v))) i = (Qrow W i).filter (fun x => decide (x ≤ v)) := by
  unfold Qrow; rw [Bn_marks v i h, (row_marks (Bn_msrt i h) v).1]
end Mine
namespace Mine
/-- the first k rows' size -/
noncomputable def rowSum : Nat → List (Int × Int) → Nat
  | 0, _ => 0
  | k + 1, W => (Rw W).length + rowSum k (Bw W)
theorem rowSum_succ : ∀ (k : Nat) (W : List (Int × Int)), rowSum (k + 1) W = rowSum k W + (Prow W k).length
  | 0, W => by show (Rw W).length + 0 = 0 + (Rw W).length; omega
  | k + 1, W => by
    have := rowSum_succ k (Bw W)
    rw [rowSum, this]
    show _ = (Rw W).length + rowSum k (Bw W) + (Prow (Bw W) k).length
    omega
theorem col_lower : ∀ (k : Nat) (W : List (Int × Int)), Col k (rowSum k W) (vals W)
  | 0, W => ⟨(vals W).map (fun x => (x, 0)), by simp [Function.comp_def], by
      rw [List.pairwise_iff_forall_sublist]
      intro a b _ _ h
      exact absurd h (Nat.not_lt_zero _), Nat.zero_le _⟩
  | k + 1, W => by
    rw [(Kn_row W).col]
    obtain ⟨cw, e, hp, hn⟩ := col_lower k (Bw W)
    refine ⟨cw.map (fun p => (p.1, if p.2 < k then p.2 else k + 1)) ++ (Rw W).map (fun x => (x, k)), ?_, ?_, ?_⟩
    · simp [Function.comp_def, e]
    · rw [List.pairwise_append]
      refine ⟨?_, ?_, ?_⟩
      · rw [List.pairwise_map]
        refine hp.imp ?_
        intro p q h h1 h2
        simp only at h1 h2
        refine h ?_ ?_ <;> grind
      · rw [List.pairwise_map]
        exact (Rw_srt W).imp fun h _ _ => h
      · intro p hp q hq h1 h2
        rw [List.mem_map] at hp hq
        obtain ⟨p', _, rfl⟩ := hp
        obtain ⟨q', _, rfl⟩ := hq
        simp only at h1 h2
        grind
    · rw [cnt_append, rowSum]
      have e1 : cnt (k + 1) (cw.map (fun p => (p.1, if p.2 < k then p.2 else k + 1))) = cnt k cw := by
        clear e hp hn
        induction cw with
        | nil => rfl
        | cons p t ih =>
          simp only [List.map_cons, cnt, ih]
          have : ((if p.2 < k then p.2 else k + 1) < k + 1) ↔ p.2 < k := by grind
          simp [this]
      have e2 : ∀ r : List Int, cnt (k + 1) (r.map (fun x => (x, k))) = r.length := by
        intro r
        induction r with
        | nil => rfl
        | cons p t ih => simp [cnt, ih]; omega
      rw [e1, e2]; omega
-- the tableau's other bound
noncomputable def wd {α : Type} : List (List α) → List α
  | [] => []
  | r :: T => wd T ++ r
noncomputable def heads {α : Type} : List (List α) → List α
  | [] => []
  | [] :: T => heads T
  | (a :: _) :: T => a :: heads T
noncomputable def tails {α : Type} (T : List (List α)) : List (List α) := T.map List.tail
noncomputable def TabOk : List (List Int) → Prop
  | [] => True
  | [_] => True
  | r :: s :: T => Dom s r ∧ TabOk (s :: T)
theorem TabOk.tl {r : List Int} {T : List (List Int)} (h : TabOk (r :: T)) : TabOk T := by
  cases T with
  | nil => trivial
  | cons s T => exact h.2
theorem Dom.tail {s r : List Int} (h : Dom s r) : Dom s.tail r.tail := by
  cases h with
  | nil => exact .nil _
  | cons _ h => exact h
theorem TabOk.tails : ∀ {T : List (List Int)}, TabOk T → TabOk (tails T)
  | [], _ => trivial
  | [_], _ => trivial
  | _ :: s :: T, h => ⟨h.1.tail, TabOk.tails (T := s :: T) h.2⟩
theorem TabOk.empty : ∀ {T : List (List Int)}, TabOk ([] :: T) → heads T = []
  | [], _ => rfl
  | s :: T, h => by
    cases h.1
    exact TabOk.empty (T := T) h.2
theorem TabOk.head_lt : ∀ {T : List (List Int)} {a : Int} {r : List Int}, TabOk ((a :: r) :: T) → ∀ x ∈ heads T, a < x
  | [], _, _, _, x, hx => nomatch hx
  | s :: T, a, r, h, x, hx => by
    have h1 := h.1
    have h2 := h.2
    cases h1 with
    | nil =>
      have e : heads ([] :: T) = heads T := rfl
      rw [e, TabOk.empty h2] at hx
      cases hx
    | @cons _ b s' _ hab _ =>
      have e : heads ((b :: s') :: T) = b :: heads T := rfl
      rw [e] at hx
      rcases List.mem_cons.mp hx with rfl | hx
      · exact hab
      · have := TabOk.head_lt h2 x hx; omega
theorem TabOk.heads_lt : ∀ {T : List (List Int)}, TabOk T → (heads T).Pairwise (· < ·)
  | [], _ => List.Pairwise.nil
  | [] :: T, h => TabOk.heads_lt (T := T) h.tl
  | (a :: r) :: T, h => by
    show (a :: heads T).Pairwise _
    rw [List.pairwise_cons]
    exact ⟨TabOk.head_lt h, TabOk.heads_lt (T := T) h.tl⟩
noncomputable def lsum {α : Type} : Nat → List (List α) → Nat
  | 0, _ => 0
  | _ + 1, [] => 0
  | k + 1, r :: T => r.length + lsum k T
theorem lsum_nil {α : Type} (k : Nat) : lsum k ([] : List (List α)) = 0 := by cases k <;> rfl
theorem heads_map {α β : Type} (f : α → β) : ∀ T : List (List α), heads (T.map (List.map f)) = (heads T).map f
  | [] => rfl
  | [] :: T => heads_map f T
  | (a :: r) :: T => by simp [heads, heads_map f T]
theorem tails_map {α β : Type} (f : α → β) (T : List (List α)) : tails (T.map (List.map f)) = (tails T).map (List.map f) := by
  simp [tails, Function.comp_def, List.map_tail]
theorem lsum_split {T : List (List (Int × Nat))} (h : TabOk (T.map (List.map (·.1)))) : ∀ k : Nat, lsum k T = min k (heads T).length + lsum k (tails T) := by
  induction T with
  | nil => intro k; simp [lsum_nil, heads, tails]
  | cons r T ih =>
    intro k
    cases k with
    | zero => simp [lsum]
    | succ k =>
      have i := ih h.tl k
      cases r with
      | nil =>
        have e : heads (T.map (List.map (·.1))) = [] := TabOk.empty h
        rw [heads_map, List.map_eq_nil_iff] at e
        simp only [lsum, heads, tails, List.map_cons, List.tail_nil, List.length_nil, e] at i ⊢
        omega
      | cons a r =>
        simp only [lsum, heads, tails, List.map_cons, List.tail_cons, List.length_cons] at i ⊢
        omega
theorem cnt_split (k : Nat) : ∀ T : List (List (Int × Nat)), cnt k (wd T) = cnt k (heads T) + cnt k (wd (tails T))
  | [] => rfl
  | [] :: T => by
    have := cnt_split k T
    simp only [wd, heads, tails, List.map_cons, List.tail_nil, List.append_nil] at this ⊢
    exact this
  | (a :: r) :: T => by
    have := cnt_split k T
    simp only [wd, heads, tails, List.map_cons, List.tail_cons, cnt_append, cnt] at this ⊢
    omega
theorem wd_tails {α : Type} : ∀ T : List (List α), List.Sublist (wd (tails T)) (wd T)
  | [] => .slnil
  | r :: T => (wd_tails T).append (List.tail_sublist r)
theorem wd_heads {α : Type} : ∀ T : List (List α), List.Sublist (heads T).reverse (wd T)
  | [] => .slnil
  | [] :: T => by simpa [heads, wd] using wd_heads T
  | (a :: r) :: T => by
    simp only [heads, wd, List.reverse_cons]
    exact (wd_heads T).append (List.singleton_sublist.mpr (.head _))
theorem pigeon : ∀ (k : Nat) (l : List Nat), l.Nodup → (∀ x ∈ l, x < k) → l.length ≤ k
  | 0, l, _, h => by
    cases l with
    | nil => simp
    | cons x _ => exact absurd (h x (.head _)) (Nat.not_lt_zero _)
  | k + 1, l, hn, h => by
    have i := pigeon k (l.erase k) (hn.erase k) (fun x hx => by
      rw [hn.mem_erase_iff] at hx
      have := h x hx.2
      have := hx.1
      omega)
    rw [List.length_erase] at i
    split at i <;> omega
theorem cnt_heads {k : Nat} {l : List (Int × Nat)} (h1 : l.Pairwise (fun p q => p.1 < q.1)) (h2 : l.reverse.Pairwise (Kr k)) : cnt k l ≤ min k l.length := by
  rw [List.pairwise_reverse] at h2
  have h3 : l.Pairwise (fun p q => p.2 = q.2 → p.2 < k → False) := (h1.and h2).imp fun ⟨a, b⟩ e hk => by
    have := b e.symm (e ▸ hk)
    omega
  have e : ∀ l : List (Int × Nat), cnt k l = ((l.filter (fun p => decide (p.2 < k))).map (·.2)).length := by
    intro l
    induction l with
    | nil => rfl
    | cons p t ih =>
      simp only [cnt, ih, List.filter_cons]
      split <;> simp [*]; omega
  have b1 : cnt k l ≤ k := by
    rw [e]
    refine pigeon k _ ?_ ?_
    · unfold List.Nodup
      rw [List.pairwise_map]
      have := (h3.filter (fun p => decide (p.2 < k)))
      rw [List.pairwise_iff_forall_sublist] at this ⊢
      intro a b hs he
      have hm : a ∈ l.filter (fun p => decide (p.2 < k)) := hs.subset (by simp)
      have hk : a.2 < k := by simpa using (List.mem_filter.mp hm).2
      exact this hs he hk
    · intro x hx
      obtain ⟨p, hp, rfl⟩ := List.mem_map.mp hx
      simpa using (List.mem_filter.mp hp).2
  have b2 : cnt k l ≤ l.length := by
    rw [e, List.length_map]; exact List.length_filter_le ..
  omega
theorem tab_upper (k : Nat) : ∀ (n : Nat) (T : List (List (Int × Nat))), (∀ r ∈ T, r.length ≤ n) → TabOk (T.map (List.map (·.1))) → (wd T).Pairwise (Kr k) → cnt k (wd T) ≤ lsum k T
  | 0, T, hl, _, _ => by
    have e : wd T = [] := by
      induction T with
      | nil => rfl
      | cons r T ih =>
        rw [wd, ih (fun r hr => hl r (List.mem_cons_of_mem _ hr)), List.length_eq_zero_iff.mp (Nat.le_zero.mp (hl r (.head _)))]
        · rfl
        · exact TabOk.tl (by assumption)
        · rename_i hp
          exact hp.sublist (List.sublist_append_left ..)
    rw [e]; exact Nat.zero_le _
  | n + 1, T, hl, ht, hp => by
    have i := tab_upper k n (tails T) (fun r hr => by
      obtain ⟨r', hr', rfl⟩ := List.mem_map.mp hr
      have := hl r' hr'
      rw [List.length_tail]; omega) (by rw [← tails_map]; exact ht.tails) (hp.sublist (wd_tails T))
    rw [cnt_split, lsum_split ht]
    have hh : (heads T).Pairwise (fun p q => p.1 < q.1) := by
      have := ht.heads_lt
      rw [heads_map, List.pairwise_map] at this
      exact this
    have := cnt_heads hh (hp.sublist (wd_heads T))
    omega
noncomputable def rowsL : Nat → List (Int × Int) → List (List Int)
  | 0, _ => []
  | m + 1, W => Rw W :: rowsL m (Bw W)
theorem rd_rows : ∀ (m : Nat) (W : List (Int × Int)), rd m W = vals (Bn m W) ++ wd (rowsL m W)
  | 0, W => by simp [rd, Bn, rowsL, wd]
  | m + 1, W => by rw [rd, rd_rows m, rowsL, wd, Bn, List.append_assoc]
theorem rowsL_ok : ∀ (m : Nat) (W : List (Int × Int)), TabOk (rowsL m W)
  | 0, _ => trivial
  | 1, _ => trivial
  | m + 2, W => ⟨Dom_rows W, rowsL_ok (m + 1) (Bw W)⟩
theorem rowsL_sum : ∀ (k m : Nat) (W : List (Int × Int)), lsum k (rowsL m W) ≤ rowSum k W
  | 0, _, _ => Nat.zero_le _
  | k + 1, 0, _ => Nat.zero_le _
  | k + 1, m + 1, W => by
    have := rowsL_sum k m (Bw W)
    simp only [rowsL, lsum, rowSum]; omega
theorem lsum_map {α β : Type} (f : α → β) : ∀ (k : Nat) (T : List (List α)), lsum k (T.map (List.map f)) = lsum k T
  | 0, _ => rfl
  | k + 1, [] => rfl
  | k + 1, r :: T => by simp [lsum, lsum_map f k T]
theorem wd_lift {α β : Type} (f : α → β) : ∀ (T : List (List β)) (w : List α), w.map f = wd T → ∃ T' : List (List α), T'.map (List.map f) = T ∧ wd T' = w
  | [], w, h => ⟨[], rfl, by rw [wd, List.map_eq_nil_iff] at h; rw [h]; rfl⟩
  | r :: T, w, h => by
    rw [wd, List.map_eq_append_iff] at h
    obtain ⟨a, b, rfl, ha, hb⟩ := h
    obtain ⟨T', h1, h2⟩ := wd_lift f T a ha
    exact ⟨b :: T', by simp [h1, hb], by rw [wd, h2]⟩
theorem le_maxLen : ∀ (T : List (List (Int × Nat))), ∃ n : Nat, ∀ r ∈ T, r.length ≤ n
  | [] => ⟨0, fun r hr => nomatch hr⟩
  | r :: T => by
    obtain ⟨n, hn⟩ := le_maxLen T
    refine ⟨n + r.length, fun s hs => ?_⟩
    rcases List.mem_cons.mp hs with rfl | hs
    · omega
    · have := hn s hs; omega
theorem col_upper {k n : Nat} {W : List (Int × Int)} (h : Col k n (vals W)) : n ≤ rowSum k W := by
  rw [(Kn_rd W.length W).col, rd_rows, Bn_len _ _ (Nat.le_refl _)] at h
  obtain ⟨cw, e, hp, hn⟩ := h
  simp only [List.map_nil, List.nil_append] at e
  obtain ⟨T, h1, rfl⟩ := wd_lift _ _ _ e
  obtain ⟨m, hm⟩ := le_maxLen T
  have u := tab_upper k m T hm (by rw [h1]; exact rowsL_ok _ _) hp
  have v := rowsL_sum k W.length W
  rw [← h1, lsum_map] at v
  omega
/-- Greene -/
theorem greene (k n : Nat) (W : List (Int × Int)) : Col k n (vals W) ↔ n ≤ rowSum k W := by
  refine ⟨col_upper, fun h => ?_⟩
  obtain ⟨cw, e, hp, hn⟩ := col_lower k W
  exact ⟨cw, e, hp, Nat.le_trans h hn⟩
end Mine
namespace Mine
theorem lift_zip {α : Type} (f : α → Int) : ∀ (A : List α) (cw : List (Int × Nat)), cw.map (·.1) = A.map f → ∃ C : List (α × Nat), C.map (·.1) = A ∧ C.map (fun x => (f x.1, x.2)) = cw
  | [], cw, h => ⟨[], rfl, by rw [List.map_nil, List.map_eq_nil_iff] at h; rw [h]; rfl⟩
  | a :: A, cw, h => by
    rw [List.map_cons, List.map_eq_cons_iff] at h
    obtain ⟨p, t, rfl, h1, h2⟩ := h
    obtain ⟨C, e1, e2⟩ := lift_zip f A t h2
    exact ⟨(a, p.2) :: C, by simp [e1], by simp [e2, ← h1]⟩
theorem lift_perm {α β : Type} {f : α → β} {A B : List β} (h : A.Perm B) : ∀ C : List α, C.map f = A → ∃ D : List α, D.Perm C ∧ D.map f = B := by
  induction h with
  | nil => exact fun C hC => ⟨C, .refl _, hC⟩
  | cons x _ ih =>
    intro C hC
    rw [List.map_eq_cons_iff] at hC
    obtain ⟨p, t, rfl, h1, h2⟩ := hC
    obtain ⟨D, d1, d2⟩ := ih t h2
    exact ⟨p :: D, d1.cons _, by simp [h1, d2]⟩
  | swap x y l =>
    intro C hC
    rw [List.map_eq_cons_iff] at hC
    obtain ⟨p, t, rfl, h1, h2⟩ := hC
    rw [List.map_eq_cons_iff] at h2
    obtain ⟨q, t, rfl, h2, h3⟩ := h2
    exact ⟨q :: p :: t, .swap .., by simp [h1, h2, h3]⟩
  | trans _ _ ih1 ih2 =>
    intro C hC
    obtain ⟨D, d1, d2⟩ := ih1 C hC
    obtain ⟨D', e1, e2⟩ := ih2 D d2
    exact ⟨D', e1.trans d1, e2⟩
theorem cnt_map {α : Type} (k : Nat) (f : α × Nat → Int) (C : List (α × Nat)) : cnt k (C.map (fun x => (f x, x.2))) = (C.filter (fun x => decide (x.2 < k))).length := by
  induction C with
  | nil => rfl
  | cons p t ih => simp only [List.map_cons, cnt, ih, List.filter_cons]; split <;> simp [*]; omega
noncomputable abbrev ByMark (A : List (Int × Int)) : Prop := A.Pairwise (fun p q => p.2 < q.2 ∨ (p.2 = q.2 ∧ p.1 ≤ q.1))
noncomputable abbrev swp (A : List (Int × Int)) : List (Int × Int) := A.map (fun p => (p.2, p.1))
/-- the counts are the same from both sides -/
theorem col_sym {k n : Nat} {A B : List (Int × Int)} (hp : A.Perm (swp B)) (hA : ByMark A) (hB : ByMark B) (h : Col k n (vals A)) : Col k n (vals B) := by
  obtain ⟨cw, e, hc, hn⟩ := h
  obtain ⟨C, e1, rfl⟩ := lift_zip (·.1) A cw e
  obtain ⟨D, d1, d2⟩ := lift_perm hp C e1
  have hC : C.Pairwise (fun x y => x.2 = y.2 → x.2 < k → (x.1.1 ≤ y.1.1 ∧ x.1.2 ≤ y.1.2) ∨ (y.1.1 ≤ x.1.1 ∧ y.1.2 ≤ x.1.2)) := by
    rw [List.pairwise_map] at hc
    rw [← e1, ByMark, List.pairwise_map] at hA
    refine (hc.and hA).imp ?_
    rintro x y ⟨h1, h2⟩ h3 h4
    have := h1 h3 h4
    left
    simp only at this
    omega
  have hD : D.Pairwise (fun x y => x.2 = y.2 → x.2 < k → (x.1.1 ≤ y.1.1 ∧ x.1.2 ≤ y.1.2) ∨ (y.1.1 ≤ x.1.1 ∧ y.1.2 ≤ x.1.2)) :=
    (List.Perm.pairwise_iff (by intro x y h h1 h2; exact (h h1.symm (h1 ▸ h2)).symm) d1).mpr hC
  have hB' : D.Pairwise (fun x y => x.1.1 < y.1.1 ∨ (x.1.1 = y.1.1 ∧ x.1.2 ≤ y.1.2)) := by
    have : (swp B).Pairwise (fun x y => x.1 < y.1 ∨ (x.1 = y.1 ∧ x.2 ≤ y.2)) := by
      rw [List.pairwise_map]; exact hB
    rw [← d2, List.pairwise_map] at this
    exact this
  refine ⟨D.map (fun x => (x.1.2, x.2)), ?_, ?_, ?_⟩
  · have : D.map (fun x => x.1.2) = (D.map (·.1)).map (·.2) := by simp [Function.comp_def]
    simp only [List.map_map, Function.comp_def]
    rw [this, d2]; simp [Function.comp_def]
  · rw [List.pairwise_map]
    refine (hD.and hB').imp ?_
    rintro x y ⟨h1, h2⟩ h3 h4
    have := h1 h3 h4
    show x.1.2 ≤ y.1.2
    omega
  · rw [cnt_map k (fun x : (Int × Int) × Nat => x.1.1)] at hn
    rw [cnt_map k (fun x : (Int × Int) × Nat => x.1.2), (d1.filter _).length_eq]
    exact hn
theorem swp_swp (A : List (Int × Int)) : swp (swp A) = A := by simp [swp, Function.comp_def]
theorem rowSum_sym {A B : List (Int × Int)} (hp : A.Perm (swp B)) (hA : ByMark A) (hB : ByMark B) (k : Nat) : rowSum k A = rowSum k B := by
  have hp' : B.Perm (swp A) := by
    have := hp.symm.map (fun p : Int × Int => (p.2, p.1))
    rwa [show (swp B).map (fun p : Int × Int => (p.2, p.1)) = B from swp_swp B] at this
  have h1 := (greene k _ A).mpr (Nat.le_refl _)
  have h2 := (greene k _ B).mpr (Nat.le_refl _)
  have h3 := (greene k _ B).mp (col_sym hp hA hB h1)
  have h4 := (greene k _ A).mp (col_sym hp' hB hA h2)
  omega
theorem srt_eq : ∀ {a b : List Int}, Srt a → Srt b → (∀ v : Int, (a.filter (fun x => decide (x ≤ v))).length = (b.filter (fun x => decide (x ≤ v))).length) → a = b
  | [], [], _, _, _ => rfl
  | [], y :: s, _, _, h => by have := h y; simp at this
  | x :: t, [], _, _, h => by have := h x; simp at this
  | x :: t, y :: s, ha, hb, h => by
    have key : ∀ {x y : Int} {t s : List Int}, Srt (y :: s) → ((x :: t).filter (fun z => decide (z ≤ x))).length = ((y :: s).filter (fun z => decide (z ≤ x))).length → y ≤ x := by
      intro x y t s hb h
      by_cases hxy : y ≤ x
      · exact hxy
      · rw [List.filter_cons_of_pos (by simp), List.filter_cons_of_neg (by simpa using hxy), filter_none hb (by omega)] at h
        simp at h
    have e1 := key hb (h x)
    have e2 := key ha (h y).symm
    have e : x = y := by omega
    subst e
    rw [srt_eq (List.pairwise_cons.mp ha).2 (List.pairwise_cons.mp hb).2 (fun v => by
      have := h v
      by_cases hv : x ≤ v
      · rw [List.filter_cons_of_pos (by simpa using hv), List.filter_cons_of_pos (by simpa using hv)] at this
        simpa using this
      · rw [filter_none ha (by omega), filter_none hb (by omega)])]
theorem ByMark.msrt {A : List (Int × Int)} (h : ByMark A) : MSrt A := h.imp (by intro p q h; omega)
/-- Schuetzenberger -/
theorem schuetz {A B : List (Int × Int)} (hp : A.Perm (swp B)) (hA : ByMark A) (hB : ByMark B) (i : Nat) : Prow A i = Qrow B i := by
  refine srt_eq (Rw_srt _) (row_msrt (Bn_msrt i hB.msrt)).1 fun v => ?_
  rw [← Prow_vals, ← Qrow_marks v i hB.msrt]
  have hp' : (A.filter (fun p => decide (p.1 ≤ v))).Perm (swp (B.filter (fun p => decide (p.2 ≤ v)))) := by
    have := hp.filter (fun p => decide (p.1 ≤ v))
    rw [show (swp B).filter (fun p => decide (p.1 ≤ v)) = swp (B.filter (fun p => decide (p.2 ≤ v))) by
      rw [List.filter_map]; rfl] at this
    exact this
  have s := rowSum_sym hp' (hA.filter _) (hB.filter _)
  have s1 := s i
  have s2 := s (i + 1)
  rw [rowSum_succ, rowSum_succ] at s2
  have e := len_MR (Bn i (B.filter (fun p => decide (p.2 ≤ v))))
  have e' : (Qrow (B.filter (fun p => decide (p.2 ≤ v))) i).length = (Prow (B.filter (fun p => decide (p.2 ≤ v))) i).length := e
  omega
end Mine
namespace Mine
theorem rowSpots_cons (ab : Int → Int → Bool) (a g : Int) (r : List Int) : rowSpots ab (a :: r) g = if ab a g then 0 :: (rowSpots ab r g).map Nat.succ else (rowSpots ab r g).map Nat.succ := by
  unfold rowSpots
  rw [List.length_cons, List.range_succ_eq_map, List.filter_cons, List.filter_map]
  simp only [List.getD_cons_zero]
  have e : ((fun t => ab ((a :: r).getD t 0) g) ∘ Nat.succ) = fun t => ab (r.getD t 0) g := by funext t; simp
  rw [e]
noncomputable abbrev abK (f : Int → Int) : Int → Int → Bool := fun x y => decide (f y < f x)
theorem place_spots (f : Int → Int) : ∀ (r : List Int) (g : Int), place (r.map f) (f g) = match rowSpots (abK f) r g with
    | [] => ((r ++ [g]).map f, none)
    | i :: _ => ((r.set i g).map f, some (f (r.getD i 0)))
  | [], g => rfl
  | a :: r, g => by
    have ih := place_spots f r g
    rw [rowSpots_cons, List.map_cons]
    by_cases h : f g < f a
    · rw [place_lt h, if_pos (by simpa using h)]
      simp
    · rw [place_ge h, if_neg (by simpa using h), ih]
      cases rowSpots (abK f) r g with
      | nil => simp
      | cons i t => simp
/-- one row, of places -/
noncomputable def irow (ab : Int → Int → Bool) (st : List Int × List Int × List (Int × Int)) (p : Int × Int) : List Int × List Int × List (Int × Int) :=
  match rowSpots ab st.1 p.1 with
  | [] => (st.1 ++ [p.1], st.2.1 ++ [p.2], st.2.2)
  | i :: _ => (st.1.set i p.1, st.2.1, st.2.2 ++ [(st.1.getD i 0, p.2)])
noncomputable def irows (ab : Int → Int → Bool) (W : List (Int × Int)) : List Int × List Int × List (Int × Int) := W.foldl (irow ab) ([], [], [])
noncomputable def stepP (ab : Int → Int → Bool) (st : List (List Int) × List (List Int)) (p : Int × Int) : List (List Int) × List (List Int) := (insG ab st.1 p.1, addAt st.2 (depG ab st.1 p.1) p.2)
noncomputable def linesP (ab : Int → Int → Bool) (W : List (Int × Int)) : List (List Int) × List (List Int) := W.foldl (stepP ab) ([], [])
theorem linesOf_P (ab : Int → Int → Bool) (ord : List Int) : linesOf ab ord = linesP ab (ord.map (fun x => (x, x))) := by
  unfold linesOf linesP
  rw [List.foldl_map]; rfl
theorem addAt_zero (q : List Int) (Q : List (List Int)) (x : Int) : addAt (q :: Q) 0 x = (q ++ [x]) :: Q := by simp [addAt]
theorem addAt_succ (q : List Int) (Q : List (List Int)) (d : Nat) (x : Int) : addAt (q :: Q) (1 + d) x = q :: addAt Q d x := by
  unfold addAt
  by_cases h : d < Q.length
  · rw [if_pos h, if_pos (by simp; omega)]
    rw [Nat.add_comm 1 d]; simp
  · rw [if_neg h, if_neg (by simp; omega)]; simp
theorem foldl_rows (ab : Int → Int → Bool) (W : List (Int × Int)) : W.foldl (stepP ab) ([[]], [[]]) =
    ((irows ab W).1 :: (linesP ab (irows ab W).2.2).1, (irows ab W).2.1 :: (linesP ab (irows ab W).2.2).2) := by
  induction W using snoc_ind with
  | h0 => rfl
  | h1 W p ih =>
    rw [List.foldl_append, ih]
    have e : irows ab (W ++ [p]) = irow ab (irows ab W) p := by simp [irows, List.foldl_append]
    rw [e]
    generalize irows ab W = st
    simp only [List.foldl_cons, List.foldl_nil, stepP]
    unfold irow
    cases h : rowSpots ab st.1 p.1 with
    | nil => simp [insG, depG, h, addAt_zero]
    | cons i t =>
      have e2 : linesP ab (st.2.2 ++ [(st.1.getD i 0, p.2)]) = stepP ab (linesP ab st.2.2) (st.1.getD i 0, p.2) := by simp [linesP, List.foldl_append]
      simp only [insG, depG, h, addAt_succ, e2, stepP]
theorem linesP_ne (ab : Int → Int → Bool) {W : List (Int × Int)} (h : W ≠ []) : linesP ab W = ((irows ab W).1 :: (linesP ab (irows ab W).2.2).1, (irows ab W).2.1 :: (linesP ab (irows ab W).2.2).2) := by
  rw [← foldl_rows]
  cases W with
  | nil => exact absurd rfl h
  | cons p t => rfl
noncomputable abbrev keyed (f c : Int → Int) (W : List (Int × Int)) : List (Int × Int) := W.map (fun p => (f p.1, c p.2))
theorem irows_keyed (f c : Int → Int) (W : List (Int × Int)) :
    rowOf (keyed f c W) = ((irows (abK f) W).1.map f, (irows (abK f) W).2.1.map c, keyed f c (irows (abK f) W).2.2) := by
  induction W using snoc_ind with
  | h0 => rfl
  | h1 W p ih =>
    have e : irows (abK f) (W ++ [p]) = irow (abK f) (irows (abK f) W) p := by simp [irows, List.foldl_append]
    have e2 : keyed f c (W ++ [p]) = keyed f c W ++ [(f p.1, c p.2)] := by simp [keyed]
    rw [e, e2, rowOf_snoc, ih]
    generalize irows (abK f) W = st
    unfold rowStep irow
    simp only [place_spots]
    cases h : rowSpots (abK f) st.1 p.1 with
    | nil => simp
    | cons i t => simp [keyed]
/-- the lines, by their keys -/
theorem linesP_keys (f c : Int → Int) : ∀ (n : Nat) (W : List (Int × Int)), W.length ≤ n →
    (∀ i, ((linesP (abK f) W).1.getD i []).map f = Prow (keyed f c W) i ∧ ((linesP (abK f) W).2.getD i []).map c = Qrow (keyed f c W) i) ∧
    (∀ r ∈ (linesP (abK f) W).1, r ≠ []) ∧ (∀ r ∈ (linesP (abK f) W).2, r ≠ []) := by
  intro n
  induction n with
  | zero =>
    intro W h
    have : W = [] := List.length_eq_zero_iff.mp (Nat.le_zero.mp h)
    subst this
    refine ⟨fun i => ?_, fun r hr => (nomatch hr), fun r hr => (nomatch hr)⟩
    have e : Bn i (keyed f c []) = [] := Bn_len _ _ (Nat.zero_le _)
    unfold Prow Qrow
    rw [e]
    exact ⟨rfl, rfl⟩
  | succ n ih =>
    intro W h
    by_cases hW : W = []
    · subst hW; exact ih [] (Nat.zero_le _)
    have k := irows_keyed f c W
    have k1 : Rw (keyed f c W) = (irows (abK f) W).1.map f := by unfold Rw; rw [k]
    have k2 : Mw (keyed f c W) = (irows (abK f) W).2.1.map c := by unfold Mw; rw [k]
    have k3 : Bw (keyed f c W) = keyed f c (irows (abK f) W).2.2 := by unfold Bw; rw [k]
    have hne : Rw (keyed f c W) ≠ [] := Rw_ne (by simpa [keyed] using hW)
    have hl := len_RB (keyed f c W)
    have hm := len_MR (keyed f c W)
    have hp := List.length_pos_iff.mpr hne
    obtain ⟨i1, i2, i3⟩ := ih (irows (abK f) W).2.2 (by
      have e1 : (keyed f c (irows (abK f) W).2.2).length = (irows (abK f) W).2.2.length := List.length_map ..
      have e2 : (keyed f c W).length = W.length := List.length_map ..
      rw [k3, e1, e2] at hl
      omega)
    rw [linesP_ne _ hW]
    refine ⟨fun i => ?_, ?_, ?_⟩
    · cases i with
      | zero => exact ⟨k1.symm, k2.symm⟩
      | succ i =>
        have := i1 i
        rw [← k3] at this
        exact this
    · intro r hr
      rcases List.mem_cons.mp hr with rfl | hr
      · intro e; rw [e] at k1; exact hne k1
      · exact i2 r hr
    · intro r hr
      rcases List.mem_cons.mp hr with rfl | hr
      · intro e; rw [e] at k2
        rw [k2] at hm; simp at hm
        rw [← hm] at hp; exact absurd hp (Nat.lt_irrefl _)
      · exact i3 r hr
theorem rows_eq (f : Int → Int) {X Y : List (List Int)} (h : ∀ i : Nat, (X.getD i []).map f = (Y.getD i []).map f) (hX : ∀ r ∈ X, r ≠ []) (hY : ∀ r ∈ Y, r ≠ []) : X.map (List.map f) = Y.map (List.map f) := by
  induction X generalizing Y with
  | nil =>
    cases Y with
    | nil => rfl
    | cons y t =>
      have := h 0
      simp at this
      exact absurd this (hY y (.head _))
  | cons x s ih =>
    cases Y with
    | nil =>
      have := h 0
      simp at this
      exact absurd this (hX x (.head _))
    | cons y t =>
      have h0 := h 0
      simp at h0
      rw [List.map_cons, List.map_cons, h0, ih (fun i => by simpa using h (i + 1)) (fun r hr => hX r (.tail _ hr)) (fun r hr => hY r (.tail _ hr))]
theorem map_via {α β : Type} {f : Int → α} {g : Int → β} (h : ∀ a b, f a = f b → g a = g b) : ∀ {X Y : List Int}, X.map f = Y.map f → X.map g = Y.map g
  | [], [], _ => rfl
  | [], _ :: _, e => by simp at e
  | _ :: _, [], e => by simp at e
  | x :: s, y :: t, e => by
    simp only [List.map_cons, List.cons.injEq] at e ⊢
    exact ⟨h _ _ e.1, map_via h e.2⟩
theorem map_via2 {α β : Type} {f : Int → α} {g : Int → β} (h : ∀ a b, f a = f b → g a = g b) : ∀ {X Y : List (List Int)}, X.map (List.map f) = Y.map (List.map f) → X.map (List.map g) = Y.map (List.map g)
  | [], [], _ => rfl
  | [], _ :: _, e => by simp at e
  | _ :: _, [], e => by simp at e
  | x :: s, y :: t, e => by
    simp only [List.map_cons, List.cons.injEq] at e ⊢
    exact ⟨map_via h e.1, map_via2 h e.2⟩
/-- the two layings: one's lines are the other one's marks -/
theorem lines_sym {α : Type} (f c : Int → Int) (g : Int → α) (hg : ∀ a b, f a = f b → g a = g b) {o1 o2 : List Int} (hp : o1.Perm o2)
    (h1 : o1.Pairwise (fun x y => c x < c y ∨ (c x = c y ∧ f x ≤ f y))) (h2 : o2.Pairwise (fun x y => f x < f y ∨ (f x = f y ∧ c x ≤ c y))) :
    (linesOf (abK f) o1).1.map (List.map g) = (linesOf (abK c) o2).2.map (List.map g) := by
  refine map_via2 hg (rows_eq f ?_ ?_ ?_)
  · intro i
    rw [linesOf_P, linesOf_P]
    rw [((linesP_keys f c _ _ (Nat.le_refl _)).1 i).1, ((linesP_keys c f _ _ (Nat.le_refl _)).1 i).2]
    refine schuetz ?_ ?_ ?_ i
    · simp only [keyed, swp, List.map_map, Function.comp_def]
      exact hp.map _
    · simp only [ByMark, keyed, List.map_map, Function.comp_def]
      rw [List.pairwise_map]; exact h1
    · simp only [ByMark, keyed, List.map_map, Function.comp_def]
      rw [List.pairwise_map]; exact h2
  · rw [linesOf_P]; exact (linesP_keys f c _ _ (Nat.le_refl _)).2.1
  · rw [linesOf_P]; exact (linesP_keys c f _ _ (Nat.le_refl _)).2.2
theorem sum_take_getD : ∀ (k : Nat) (X : List (List Int)), ((X.take (k + 1)).map List.length).sum = ((X.take k).map List.length).sum + (X.getD k []).length
  | 0, [] => by simp
  | 0, x :: X => by simp
  | k + 1, [] => by simp
  | k + 1, x :: X => by
    have := sum_take_getD k X
    simp only [List.take_succ_cons, List.map_cons, List.sum_cons, List.getD_cons_succ] at this ⊢
    omega
/-- the first k lines' size -/
theorem lines_sum (f c : Int → Int) (o : List Int) : ∀ k : Nat, (((linesOf (abK f) o).1.take k).map List.length).sum = rowSum k (o.map fun x => (f x, c x))
  | 0 => by simp [rowSum]
  | k + 1 => by
    rw [sum_take_getD, lines_sum f c o k, rowSum_succ]
    have := ((linesP_keys f c _ (o.map fun x => (x, x)) (Nat.le_refl _)).1 k).1
    rw [← linesOf_P] at this
    have e := congrArg List.length this
    rw [List.length_map] at e
    rw [e]
    simp only [keyed, List.map_map, Function.comp_def]
end Mine
namespace Mine
theorem getD_lt {l : List Int} {i : Nat} (h : i < l.length) : l.getD i 0 = l[i] := by simp [List.getD, List.getElem?_eq_getElem h]
theorem fallsUpto_get (part : List Int) : ∀ (k j : Nat), j < k → (fallsUpto part k).getD j 0 = 1 + mx (fallsAt part (fallsUpto part j) j j)
  | 0, j, h => absurd h (Nat.not_lt_zero _)
  | k + 1, j, h => by
    rw [fallsUpto]
    by_cases e : j < k
    · have ih := fallsUpto_get part k j e
      rw [← ih]
      simp only [List.getD]
      rw [List.getElem?_append_left (by rw [fallsUpto_len]; exact e)]
    · have : j = k := by omega
      subst this
      simp only [List.getD]
      rw [List.getElem?_append_right (by rw [fallsUpto_len]; exact Nat.le_refl _), fallsUpto_len]
      simp
/-- label of place j -/
noncomputable def lab (part : List Int) (j : Nat) : Int := 1 + mx (fallsAt part (fallsUpto part j) j j)
theorem lab_lt {part : List Int} {i j : Nat} (h : i < j) (hv : part.getD j 0 < part.getD i 0) : lab part i < lab part j := by
  have : lab part i ∈ fallsAt part (fallsUpto part j) j j := by
    unfold fallsAt
    rw [List.mem_map]
    refine ⟨i, ?_, fallsUpto_get part j i h⟩
    rw [List.mem_filter]
    exact ⟨List.mem_range.mpr h, by simpa using hv⟩
  have := mx_ge this
  unfold lab at *
  omega
theorem lab_pos (part : List Int) (j : Nat) : 1 ≤ lab part j := by
  have := mx_nonneg (fallsAt part (fallsUpto part j) j j)
  unfold lab; omega
theorem lab_from {part : List Int} {j : Nat} (h : 1 < lab part j) : ∃ i, i < j ∧ part.getD j 0 < part.getD i 0 ∧ lab part j = 1 + lab part i := by
  unfold lab at h
  rcases mx_mem (fallsAt part (fallsUpto part j) j j) with e | e
  · omega
  · unfold fallsAt at e
    rw [List.mem_map] at e
    obtain ⟨i, hi, e⟩ := e
    rw [List.mem_filter] at hi
    have hij := List.mem_range.mp hi.1
    refine ⟨i, hij, by simpa using hi.2, ?_⟩
    rw [fallsUpto_get part j i hij] at e
    unfold lab
    rw [show mx (fallsAt part (fallsUpto part j) j j) = _ from e.symm]
theorem lab_le_mx {part : List Int} {j : Nat} (h : j < part.length) : lab part j ≤ mx (fallsOf part) := by
  refine mx_ge ?_
  unfold fallsOf
  have hl : j < (fallsUpto part part.length).length := by rw [fallsUpto_len]; exact h
  have e : lab part j = (fallsUpto part part.length)[j] := by
    rw [← getD_lt hl, fallsUpto_get part _ j h]; rfl
  rw [e]; exact List.getElem_mem hl
theorem mx_lab {part : List Int} {k : Int} (h0 : 0 ≤ k) (h : ∀ j, j < part.length → lab part j ≤ k) : mx (fallsOf part) ≤ k := by
  refine mx_le h0 fun x hx => ?_
  unfold fallsOf at hx
  obtain ⟨j, hj, rfl⟩ := List.mem_iff_getElem.mp hx
  rw [fallsUpto_len] at hj
  have e := fallsUpto_get part _ j hj
  rw [getD_lt (by rw [fallsUpto_len]; exact hj)] at e
  rw [e]; exact h j hj
/-- a fall that ends at place j -/
theorem chain_to {part : List Int} {cp : List (Int × Nat)} (hc : cp.map (·.1) = part) : ∀ (n j : Nat), j < part.length → lab part j = ((n : Nat) : Int) →
    ∃ ch : List (Int × Nat), ch.Sublist (cp.take (j + 1)) ∧ ch.Pairwise (fun p q => q.1 < p.1) ∧ (∀ p ∈ ch, part.getD j 0 ≤ p.1) ∧ ch.length = n := by
  have hl : cp.length = part.length := by rw [← hc, List.length_map]
  intro n
  induction n with
  | zero => intro j _ h; have := lab_pos part j; omega
  | succ n ih =>
    intro j hj h
    have hj' : j < cp.length := by omega
    have hv : cp[j].1 = part.getD j 0 := by rw [getD_lt hj]; simp [← hc]
    have ht : cp.take (j + 1) = cp.take j ++ [cp[j]] := by rw [List.take_add_one, List.getElem?_eq_getElem hj']; rfl
    by_cases h1 : 1 < lab part j
    · obtain ⟨i, hij, hlt, e⟩ := lab_from h1
      obtain ⟨ch, c1, c2, c3, c4⟩ := ih i (by omega) (by omega)
      refine ⟨ch ++ [cp[j]], ?_, ?_, ?_, by simp [c4]⟩
      · rw [ht]
        refine List.Sublist.append (c1.trans ?_) (List.Sublist.refl _)
        exact List.take_sublist_take_left (by omega)
      · rw [List.pairwise_append]
        refine ⟨c2, by simp, fun p hp q hq => ?_⟩
        rw [List.mem_singleton.mp hq, hv]
        have := c3 p hp; omega
      · intro p hp
        rcases List.mem_append.mp hp with hp | hp
        · have := c3 p hp; omega
        · rw [List.mem_singleton.mp hp, hv]; omega
    · have hn : n = 0 := by have := lab_pos part j; omega
      subst hn
      refine ⟨[cp[j]], ?_, by simp, ?_, rfl⟩
      · rw [ht]; exact List.sublist_append_right ..
      · intro p hp
        rw [List.mem_singleton.mp hp, hv]; omega
/-- k colours: no fall of k + 1 -/
theorem falls_of_col {k : Nat} {cp : List (Int × Nat)} (hp : cp.Pairwise (Kr k)) (ha : ∀ p ∈ cp, p.2 < k) : mx (fallsOf (cp.map (·.1))) ≤ (k : Int) := by
  refine mx_lab (by omega) fun j hj => ?_
  have h1 := lab_pos (cp.map (·.1)) j
  obtain ⟨n, hn⟩ : ∃ n : Nat, lab (cp.map (·.1)) j = (n : Int) := ⟨(lab (cp.map (·.1)) j).toNat, by omega⟩
  obtain ⟨ch, c1, c2, _, c4⟩ := chain_to rfl n j hj hn
  have hs : ch.Sublist cp := c1.trans (List.take_sublist ..)
  have hb : cnt k ch.reverse ≤ min k ch.reverse.length := cnt_heads (by rw [List.pairwise_reverse]; exact c2) (by rw [List.reverse_reverse]; exact hp.sublist hs)
  have hc : ∀ l : List (Int × Nat), (∀ p ∈ l, p.2 < k) → cnt k l = l.length := by
    intro l
    induction l with
    | nil => intro _; rfl
    | cons p t ih =>
      intro h
      rw [cnt, ih (fun q hq => h q (.tail _ hq)), if_pos (h p (.head _)), List.length_cons]; omega
  rw [hc _ (fun p hp => ha p (hs.subset (List.mem_reverse.mp hp))), List.length_reverse, c4] at hb
  omega
theorem cnt_all {k : Nat} : ∀ {l : List (Int × Nat)}, (∀ p ∈ l, p.2 < k) → cnt k l = l.length
  | [], _ => rfl
  | p :: t, h => by rw [cnt, cnt_all (fun q hq => h q (.tail _ hq)), if_pos (h p (.head _)), List.length_cons]; omega
/-- a part's colours are the whole's -/
theorem col_sub {k n : Nat} {part ns : List Int} (hs : part.Sublist ns) (h : Col k n part) : Col k n ns := by
  induction hs generalizing n with
  | slnil => exact h
  | @cons l1 l2 a hs ih =>
    obtain ⟨cw, e, hp, hn⟩ := ih h
    refine ⟨(a, k) :: cw, by simp [e], ?_, ?_⟩
    · rw [List.pairwise_cons]
      exact ⟨fun q _ _ h2 => absurd h2 (Nat.lt_irrefl _), hp⟩
    · rw [cnt]; omega
  | @cons_cons l1 l2 a hs ih =>
    obtain ⟨cw, e, hp, hn⟩ := h
    rw [List.map_eq_cons_iff] at e
    obtain ⟨p, t, rfl, h1, h2⟩ := e
    -- colour the rest as the part's rest, keeping which colours stand where
    have key : ∀ {l1 l2 : List Int}, l1.Sublist l2 → ∀ t : List (Int × Nat), t.map (·.1) = l1 → ∃ T : List (Int × Nat), T.map (·.1) = l2 ∧ t.Sublist T ∧ (∀ q ∈ T, q.2 < k → q ∈ t) ∧ (t.Pairwise (Kr k) → T.Pairwise (Kr k)) ∧ cnt k t ≤ cnt k T := by
      intro l1 l2 hs
      induction hs with
      | slnil => intro t ht; exact ⟨t, ht, .refl _, fun q hq _ => hq, id, Nat.le_refl _⟩
      | @cons l1 l2 a hs ih =>
        intro t ht
        obtain ⟨T, e1, e2, e3, e4, e5⟩ := ih t ht
        refine ⟨(a, k) :: T, by simp [e1], .cons _ e2, ?_, ?_, ?_⟩
        · intro q hq hk
          rcases List.mem_cons.mp hq with rfl | hq
          · exact absurd hk (Nat.lt_irrefl _)
          · exact e3 q hq hk
        · intro h
          rw [List.pairwise_cons]
          exact ⟨fun q _ _ h2 => absurd h2 (Nat.lt_irrefl _), e4 h⟩
        · rw [cnt]; omega
      | @cons_cons l1 l2 a hs ih =>
        intro t ht
        rw [List.map_eq_cons_iff] at ht
        obtain ⟨p, t, rfl, h1, h2⟩ := ht
        obtain ⟨T, e1, e2, e3, e4, e5⟩ := ih t h2
        refine ⟨p :: T, by simp [e1, h1], .cons_cons _ e2, ?_, ?_, ?_⟩
        · intro q hq hk
          rcases List.mem_cons.mp hq with rfl | hq
          · exact .head _
          · exact .tail _ (e3 q hq hk)
        · intro h
          rw [List.pairwise_cons] at h ⊢
          refine ⟨fun q hq h1 h2 => ?_, e4 h.2⟩
          exact h.1 q (e3 q hq (h1 ▸ h2)) h1 h2
        · rw [cnt, cnt]; omega
    obtain ⟨T, e1, _, _, e4, e5⟩ := key (hs.cons_cons a) (p :: t) (by simp [h1, h2])
    exact ⟨T, e1, e4 hp, Nat.le_trans hn e5⟩
theorem zipIdx_lab (part : List Int) : ∀ (i : Nat) (l : List Int), l = part.drop i → (l.zipIdx i).Pairwise (fun p q => p.2 < q.2 ∧ p.1 = part.getD p.2 0 ∧ q.1 = part.getD q.2 0)
  | _, [], _ => List.Pairwise.nil
  | i, x :: l, h => by
    rw [List.zipIdx_cons, List.pairwise_cons]
    have hi : i < part.length := by
      rcases Nat.lt_or_ge i part.length with h' | h'
      · exact h'
      · rw [List.drop_eq_nil_of_le h'] at h; cases h
    rw [List.drop_eq_getElem_cons hi] at h
    simp only [List.cons.injEq] at h
    refine ⟨fun q hq => ?_, zipIdx_lab part (i + 1) l h.2⟩
    have hm := List.mem_zipIdx hq
    refine ⟨by simp only; omega, by rw [getD_lt hi]; exact h.1, ?_⟩
    have hq2 : q.2 < part.length := by
      have e := congrArg List.length h.2
      rw [List.length_drop] at e; omega
    rw [getD_lt hq2, hm.2.2]
    simp only [h.2, List.getElem_drop]
    congr 1; omega
/-- no fall of k + 1: k colours -/
theorem col_of_falls {k : Nat} {part : List Int} (h : mx (fallsOf part) ≤ (k : Int)) : Col k part.length part := by
  refine ⟨part.zipIdx.map (fun p => (p.1, (lab part p.2 - 1).toNat)), ?_, ?_, ?_⟩
  · simp only [List.map_map, Function.comp_def]
    exact List.zipIdx_map_fst 0 part
  · rw [List.pairwise_map]
    refine (zipIdx_lab part 0 part (by simp)).imp ?_
    rintro p q ⟨h1, h2, h3⟩ h4 _
    simp only at h4 ⊢
    by_cases hv : part.getD q.2 0 < part.getD p.2 0
    · have := lab_lt h1 hv
      have := lab_pos part p.2
      omega
    · omega
  · rw [cnt_all, List.length_map, List.length_zipIdx]
    · exact Nat.le_refl _
    · intro p hp
      obtain ⟨q, hq, rfl⟩ := List.mem_map.mp hp
      have hm := List.mem_zipIdx hq
      have := lab_le_mx (part := part) (j := q.2) (by omega)
      have := lab_pos part q.2
      simp only; omega
theorem range_getD : ∀ l : List Int, (List.range l.length).map (fun k => l.getD k 0) = l
  | [] => rfl
  | x :: l => by
    rw [List.length_cons, List.range_succ_eq_map, List.map_cons, List.map_map]
    have := range_getD l
    simp only [Function.comp_def, List.getD_cons_succ, List.getD_cons_zero, this]
theorem part_sub (ns : List Int) (c : Int) : (partOf ns c).Sublist ns := by
  have : ((List.range ns.length).map (fun k => ns.getD k 0)).Sublist ns := by rw [range_getD]; exact .refl _
  exact ((List.filter_sublist).map _).trans this
noncomputable def num : List Bool → Nat
  | [] => 0
  | b :: t => (if b then 1 else 0) + 2 * num t
theorem num_lt : ∀ l : List Bool, num l < 2 ^ l.length
  | [] => by simp [num]
  | b :: t => by
    have := num_lt t
    rw [num, List.length_cons, Nat.pow_succ]
    split <;> omega
theorem num_bit : ∀ (l : List Bool) (k : Nat), bitOn ((num l : Nat) : Int) k = l.getD k false
  | [], k => by
    unfold bitOn num
    simp
  | b :: t, 0 => by
    unfold bitOn num
    simp only [Int.pow_zero, List.getD_cons_zero]
    cases b <;> simp [Int.fdiv_one] <;> omega
  | b :: t, k + 1 => by
    have ih := num_bit t k
    rw [List.getD_cons_succ, ← ih]
    unfold bitOn
    have e : (((num (b :: t) : Nat) : Int)).fdiv (2 ^ (k + 1)) = ((num t : Nat) : Int).fdiv (2 ^ k) := by
      rw [Int.fdiv_eq_ediv_of_nonneg _ (Int.le_of_lt (Int.pow_pos (by decide))), Int.fdiv_eq_ediv_of_nonneg _ (Int.le_of_lt (Int.pow_pos (by decide)))]
      rw [Int.pow_succ, Int.mul_comm, ← Int.ediv_ediv_of_nonneg (by decide)]
      congr 1
      rw [num]
      split <;> omega
    rw [e]
theorem part_of_col (k : Nat) : ∀ cw : List (Int × Nat), ((List.range cw.length).filter (fun i => (cw.map (fun p => decide (p.2 < k))).getD i false)).map (fun i => (cw.map (·.1)).getD i 0) = (cw.filter (fun p => decide (p.2 < k))).map (·.1)
  | [] => rfl
  | p :: t => by
    have ih := part_of_col k t
    rw [List.length_cons, List.range_succ_eq_map, List.filter_cons, List.filter_map, List.filter_cons]
    simp only [List.map_cons, List.getD_cons_zero, Function.comp_def, List.getD_cons_succ]
    by_cases h : p.2 < k
    · simp only [h, decide_true, if_true, List.map_cons, List.map_map, Function.comp_def, List.getD_cons_zero, List.getD_cons_succ, ih]
    · simp only [h, decide_false, Bool.false_eq_true, if_false, List.map_map, Function.comp_def, List.getD_cons_succ, ih]
theorem best_upper {ns : List Int} {G : Nat → Nat} (hG : ∀ k n, Col k n ns → n ≤ G k) : ∀ (c j : Nat), (bestUpto ns c).getD j 0 ≤ (G j : Int)
  | 0, j => by
    have : (bestUpto ns 0).getD j 0 = 0 := by
      simp only [bestUpto, List.range_zero, List.foldl_nil, List.getD]
      rw [List.getElem?_replicate]; split <;> rfl
    omega
  | c + 1, j => by
    have ih := best_upper hG c
    rw [bestUpto_succ, bestStep]
    generalize hL : mx (fallsOf (partOf ns c)) = L
    have hr := longest_rng (partOf ns c)
    rw [hL] at hr
    have hcol : (partOf ns c).length ≤ G L.toNat := by
      refine hG _ _ (col_sub (part_sub ns c) (col_of_falls ?_))
      rw [hL]; omega
    by_cases e : L.toNat = j
    · subst e
      simp only [List.getD]
      rw [List.getElem?_set]
      split
      · split
        · have := ih L.toNat
          simp only [Option.getD_some]
          simp only [List.getD] at this
          omega
        · simp
      · exact ih _
    · simp only [List.getD]
      rw [List.getElem?_set_ne e]
      exact ih j
theorem best_lower (ns : List Int) : ∀ (c d : Nat), d < c → ((partOf ns d).length : Int) ≤ (bestUpto ns c).getD (mx (fallsOf (partOf ns d))).toNat 0
  | 0, d, h => absurd h (Nat.not_lt_zero _)
  | c + 1, d, h => by
    rw [bestUpto_succ, bestStep]
    have hr := longest_rng (partOf ns d)
    have hr2 := longest_rng (partOf ns c)
    have hl := partOf_len ns d
    have hl2 := partOf_len ns c
    have hb := bestUpto_len ns c
    simp only [List.getD]
    rw [List.getElem?_set]
    by_cases e : d = c
    · subst e
      rw [if_pos rfl, if_pos (by omega)]
      simp only [Option.getD_some]; omega
    · have ih := best_lower ns c d (by omega)
      simp only [List.getD] at ih
      split
      · rename_i e2
        rw [if_pos (by omega)]
        simp only [Option.getD_some]
        rw [e2]; omega
      · exact ih
/-- the told numbers are the greatest -/
theorem most_eq (W : List (Int × Int)) : mostOf (vals W) = (List.range W.length).map (fun k => ((rowSum (k + 1) W : Nat) : Int)) := by
  unfold mostOf
  have hlen : (vals W).length = W.length := List.length_map ..
  rw [hlen]
  refine List.map_congr_left fun k hk => ?_
  have hk := List.mem_range.mp hk
  have hmono : ∀ {j : Nat}, j ≤ k + 1 → rowSum j W ≤ rowSum (k + 1) W := by
    intro j hj
    obtain ⟨d, e⟩ : ∃ d, k + 1 = j + d := ⟨k + 1 - j, by omega⟩
    rw [e]
    clear e hj
    induction d with
    | zero => exact Nat.le_refl _
    | succ d ih => rw [← Nat.add_assoc, rowSum_succ]; omega
  have up : mx ((bestUpto (vals W) (2 ^ W.length)).take (k + 2)) ≤ ((rowSum (k + 1) W : Nat) : Int) := by
    refine mx_le (by omega) fun x hx => ?_
    obtain ⟨j, hj, rfl⟩ := List.mem_iff_getElem.mp hx
    rw [List.length_take] at hj
    have hb := best_upper (ns := vals W) (G := fun k => rowSum k W) (fun k n h => (greene k n W).mp h) (2 ^ W.length) j
    rw [getD_lt (by omega)] at hb
    rw [List.getElem_take]
    have := hmono (show j ≤ k + 1 by omega)
    omega
  have low : ((rowSum (k + 1) W : Nat) : Int) ≤ mx ((bestUpto (vals W) (2 ^ W.length)).take (k + 2)) := by
    obtain ⟨cw, e, hp, hn⟩ := (greene (k + 1) _ W).mpr (Nat.le_refl _)
    have hcl : cw.length = W.length := by rw [← hlen, ← e, List.length_map]
    have hpart : partOf (vals W) ((num (cw.map (fun p => decide (p.2 < k + 1))) : Nat) : Int) = (cw.filter (fun p => decide (p.2 < k + 1))).map (·.1) := by
      rw [← part_of_col, ← e]
      unfold partOf partUpto
      rw [List.length_map]
      congr 2
      funext i
      rw [num_bit]
    have hlt := num_lt (cw.map (fun p => decide (p.2 < k + 1)))
    rw [List.length_map, hcl] at hlt
    have b := best_lower (vals W) _ _ hlt
    rw [hpart] at b
    have hf := falls_of_col (k := k + 1) (hp.filter (fun p => decide (p.2 < k + 1))) (fun p hp => by simpa using (List.mem_filter.mp hp).2)
    have hr := longest_rng ((cw.filter (fun p => decide (p.2 < k + 1))).map (·.1))
    have hcnt : cnt (k + 1) cw = (cw.filter (fun p => decide (p.2 < k + 1))).length := by
      have := cnt_map (k + 1) (fun x : Int × Nat => x.1) cw
      simpa using this
    generalize mx (fallsOf ((cw.filter (fun p => decide (p.2 < k + 1))).map (·.1))) = L at b hf hr
    have hbl := bestUpto_len (vals W) (2 ^ W.length)
    rw [hlen] at hbl
    rw [getD_lt (by rw [hbl]; omega)] at b
    have hm : (bestUpto (vals W) (2 ^ W.length))[L.toNat]'(by rw [hbl]; omega) ∈ (bestUpto (vals W) (2 ^ W.length)).take (k + 2) := by
      rw [List.mem_take_iff_getElem]
      exact ⟨L.toNat, by omega, rfl⟩
    have := mx_ge hm
    rw [List.length_map] at b
    omega
  omega
end Mine
namespace Mine
open PySem PySem.W PyProof.Rows PySem.Calls PySem.Spec
set_option maxRecDepth 100000
set_option maxHeartbeats 8000000
noncomputable abbrev PG := PySem.Challenge.rw_oy0037_01.row.prog
noncomputable abbrev KK (w : World) : Frag := hd.heap_1 w.params
theorem fillF (w : World) : PySem.Challenge.rw_oy0037_01.row.prog = PySem.Challenge.rw_oy0037_01.row.prog ∧ hd.heap_1 w.params = hd.heap_1 w.params := by
  k_fill
  exact ⟨rfl, rfl⟩
theorem gen_post {α : Type} {M : Model} {A : Around} {t : Sem α} {Q : α → Shared → Prop} {E : Value → Shared → Prop} {s : Shared} (h : ∀ Q' : α → Shared → Prop, (∀ a s', Q a s' → Q' a s') → wpAny M A t Q' E s) : wpAny M A t Q E s := h Q fun _ _ x => x
theorem gen_both {α : Type} {M : Model} {A : Around} {t : Sem α} {Q : α → Shared → Prop} {E : Value → Shared → Prop} {s : Shared} (h : ∀ (Q' : α → Shared → Prop) (E' : Value → Shared → Prop), (∀ a s', Q a s' → Q' a s') → (∀ e s', E e s' → E' e s') → wpAny M A t Q' E' s) : wpAny M A t Q E s := h Q E (fun _ _ x => x) fun _ _ x => x
theorem gen_goal {g : Prop} (h : ∀ G : Prop, (g → G) → G) : g := h g id
theorem gen_turn {M : Model} {A : Around} {target : PySem.Expr} {body : List Stmt} {env : Env} {v : Value} {FT : Flow → Shared → Prop} {E : Value → Shared → Prop} {s : Shared}
    (h : ∀ Q' : Flow → Shared → Prop, (∀ f s', FT f s' → Q' f s') → wpAny M A (assign target env v) (fun _ s₂ => wpAny M A (execs body env) Q' (fun _ _ => False) s₂) E s) :
    wpAny M A (assign target env v) (fun _ s₂ => wpAny M A (execs body env) FT (fun _ _ => False) s₂) E s := h FT fun _ _ x => x
noncomputable def Ext (h h' : Heap) : Prop := ∀ b o, h.get? b = some o → h'.get? b = some o
/-- the post of a pure call -/
noncomputable def PR (s : Shared) (P : Value → Heap → Prop) (f : Flow) (s' : Shared) : Prop :=
  ∃ v h' tk', f = .ret v ∧ s' = { s with heap := h', toks := tk' } ∧ Ext s.heap h' ∧ P v h'
theorem PR.intro {s : Shared} {P : Value → Heap → Prop} {v : Value} {L : Addr} {h' : Heap} {m} {tk' : Nat} (F : Fr s.heap L h' m) (hp : P v h') : PR s P (.ret v) { s with heap := h', toks := tk' } := ⟨v, h', tk', rfl, rfl, F.keep, hp⟩

structure Gd (w : World) (A : Around) (p : Program) (loose : List Str) (mean : ExcName → Option Value) (mg mb : Str → Option Value) (h : Heap) (d u : Nat) : Prop where
  X : (KK w).In h
  T : Top p loose mean mg mb h
  hd : A.depth + d < recursionLimit
  hu : A.units + u < cLine
  hh : A.handled = none

section
variable {w : World} {A : Around} {s : Shared} {p : Program} {loose : List Str} {mean : ExcName → Option Value} {mg mb : Str → Option Value}

theorem enter {K : Frag} {name qual : Str} {params : Arguments} {body : List Stmt} {scope : Scope} {dV kV doc pm cdv ct oc : Value} {an od : Option Addr} {osl : Array (Option Value)} {f : Addr} {args : Args} {binds : List (Str × Value)} {prog : Program} {P : Value → Heap → Prop}
    {Q : Value → Shared → Prop} {E : Value → Shared → Prop}
    (X₀ : K.In s.heap) (hlim : s.heap.NoLimit)
    (ho : K.lookup f = some ⟨oc, od, .func (fnOf name qual params body scope dV kV doc pm an cdv ct), osl⟩) (hcd : codeIn K cdv qual = true) (hroom : A.depth < recursionLimit)
    (hbind : BindsTo s (fnOf name qual params body scope dV kV doc pm an cdv ct) args binds) (hloc : ∀ y ∈ binds, scope.names.lookup y.1 = some .local)
    (hcell : ∀ x ∈ scope.names, x.2 ≠ .cell)
    (hb : ∀ h₁ tk, Fr s.heap s.heap.objs.size h₁ (fun y => binds.reverse.lookup y) →
      wpAny (model prog w) (A.deeper (envOf qual scope s.heap.objs.size f cdv)) (execs body (envOf qual scope s.heap.objs.size f cdv)) (PR s P) (fun _ _ => False) { s with heap := h₁, toks := tk })
    (hq : ∀ v h' tk', Ext s.heap h' → P v h' → Q v { s with heap := h', toks := tk' })
    (hco : scope.isCoroutine = false := by rfl) (hgen : scope.isGenerator = false := by rfl) (hk : scope.kind = .function := by rfl)
     : wpAny (model prog w) A (call (.ref f) args.pos args.kw) Q E s := by
  refine wpAny_call ?_
  refine codeAny_call_def (fd := fnOf name qual params body scope dV kV doc pm an cdv ct) (body := body) (binds := binds) hroom (X₀ _ _ ho) rfl hlim (codeRec_of X₀ hcd) rfl hbind hcell hloc (fun h₁ hns hk₁ => ?_) hco hgen hk
  refine wpAny_mono (hb h₁ _ ⟨hns, hk₁, Nat.le_refl _⟩) (fun f s' hp => ?_) (fun _ _ hf => hf.elim)
  obtain ⟨v, h', tk', rfl, rfl, hx, hp⟩ := hp
  exact hq v h' tk' hx hp
end


theorem Gd.sub {w : World} {A : Around} {p : Program} {loose : List Str} {mean : ExcName → Option Value} {mg mb : Str → Option Value} {h h' : Heap} {d u d' u' : Nat} {L : Addr} {m : Str → Option Value} {env : Env}
    (G : Gd w A p loose mean mg mb h d u) (F : Fr h L h' m) (hd : d' + 2 ≤ d := by decide) (hu : u' + 100 ≤ u := by decide) : Gd w (A.deeper env) p loose mean mg mb h' d' u' := by
  refine ⟨G.X.keeps F.keep, G.T.keeps F.keep, ?_, ?_, G.hh⟩
  · have := G.hd
    simp only [depth_deeper]
    omega
  · have := G.hu
    simp only [units_deeper]
    omega
noncomputable def cmpI (a b : Str) : Int := b2i (decide (b.cps.toList < a.cps.toList)) - b2i (decide (a.cps.toList < b.cps.toList))

theorem c_strcoll (w : World) {A : Around} {s : Shared} {p : Program} {loose : List Str} {mean : ExcName → Option Value} {mg mb : Str → Option Value} (G : Gd w A p loose mean mg mb s.heap 3 100)
  {a b : Str} {t u : Tok} {Q E : Value → Shared → Prop} (hq : ∀ tr h' tk', Ext s.heap h' → Q (.int (cmpI a b) tr) { s with heap := h', toks := tk' }) :
  wpAny (model PySem.Challenge.rw_oy0037_01.row.prog w) A (call (.ref 28) [.str a t, .str b u]) Q E s := by
  have X : (hd.heap_1 w.params).In s.heap := G.X
  have T := G.T
  have hdp := G.hd
  refine enter (K := hd.heap_1 w.params) (args := ⟨[.str a t, .str b u], []⟩) (P := fun v h' => ∃ tr, v = .int (cmpI a b) tr) X T.nolimit (by k_dflt k_is) (by k_dflt k_is) (by omega) (BindsTo.of_eq rfl) (locs rfl) (by decide) ?_ ?_
  · intro h₁ tk F
    have N : News s.heap s.heap.objs.size h₁ [] := News.nil
    k_steps
    exact PR.intro (by assumption) ⟨_, rfl⟩
  · rintro v h' tk' hx ⟨tr, rfl⟩
    exact hq tr h' tk' hx
end Mine
namespace Mine
open PySem PySem.W PyProof.Rows PySem.Calls PySem.Spec
set_option maxRecDepth 100000
set_option maxHeartbeats 8000000
section
variable {w : World} {A : Around} {s : Shared}

theorem enterC {K : Frag} {name qual : Str} {params : Arguments} {body : List Stmt} {scope : Scope} {dV kV doc pm cdv ct oc : Value} {an od : Option Addr} {osl : Array (Option Value)} {f : Addr} {args : Args} {binds : List (Str × Value)} {prog : Program} {P : Value → Heap → Prop}
    {Q : Value → Shared → Prop} {E : Value → Shared → Prop}
    (X₀ : K.In s.heap) (hlim : s.heap.NoLimit)
    (ho : K.lookup f = some ⟨oc, od, .func (fnOf name qual params body scope dV kV doc pm an cdv ct), osl⟩) (hcd : codeIn K cdv qual = true) (hroom : A.depth < recursionLimit)
    (hbind : BindsTo s (fnOf name qual params body scope dV kV doc pm an cdv ct) args binds) (hkind : (binds.all fun y => scope.names.lookup y.1 == some .local || scope.names.lookup y.1 == some .cell) = true)
    (hnd : ((cellsFrom 0 scope.names []).map (·.1)).Nodup)
    (hb : ∀ L h₁ tk cells, Fr s.heap L h₁ (bindL (envOfC qual scope L f cdv).kindOf binds fun _ => none) → News s.heap L h₁ cells →
      CellsAre (bindC (envOfC qual scope L f cdv).kindOf binds fun _ => none) (cellsFrom (L + 1) scope.names []) cells →
      wpAny (model prog w) (A.deeper (envOfC qual scope L f cdv)) (execs body (envOfC qual scope L f cdv)) (PR s P) (fun _ _ => False) { s with heap := h₁, toks := tk })
    (hq : ∀ v h' tk', Ext s.heap h' → P v h' → Q v { s with heap := h', toks := tk' })
    (hco : scope.isCoroutine = false := by rfl) (hgen : scope.isGenerator = false := by rfl) (hk : scope.kind = .function := by rfl)
     : wpAny (model prog w) A (call (.ref f) args.pos args.kw) Q E s := by
  refine wpAny_call ?_
  refine codeAny_call_function hroom (X₀ _ _ ho) rfl hco hgen rfl (codeRec_of X₀ hcd) (hbind _ _ _ _ ?_)
  refine wpAny_newFunctionEnv_cells hk (kindsX hkind _) fun env' he s' x => ?_
  subst he
  refine ⟨hlim.keeps x.toInCall.keep, codeAny_func ?_⟩
  obtain ⟨h₁, tk, rfl, _⟩ := x.done
  have hk₁ := x.toInCall.keep
  obtain ⟨cells, NC, Y⟩ := Cl.news (h₀ := s.heap) (Nat.le_refl _) fun n c hm => ⟨x.cell n c (lookup_of_mem_nodup (cellsFrom_names scope.names 0 (s.heap.objs.size + 1) [] [] rfl ▸ hnd) hm), x.above n c hm⟩
  refine wpAny_mono (hb s.heap.objs.size h₁ tk cells ⟨x.toInCall.ns, hk₁, Nat.le_refl _⟩ NC Y) (fun f s' hp => ?_) (fun _ _ hf => hf.elim)
  obtain ⟨v, h', tk', rfl, rfl, hx, hp⟩ := hp
  exact hq v h' tk' hx hp
end
end Mine
namespace Mine
open PySem PySem.W PyProof.Rows PySem.Calls PySem.Spec
set_option maxRecDepth 100000
set_option maxHeartbeats 8000000
/-- a halt of the walk -/
noncomputable def Halt (P : Prop) : Prop := P
theorem halt {P : Prop} (h : Halt P) : P := h
theorem Halt.mk {P : Prop} (h : P) : Halt P := h

section
variable {prog : Program} {w : World} {A : Around} {E : Value → Shared → Prop} {s : Shared} {h₀ : Heap} {L : Addr} {m : Str → Option Value} {env : Env}

/-- what a turn of a loop leaves -/
noncomputable def FTurn (h₀ : Heap) (L : Addr) (s : Shared) (I : Addr) (oI : Obj) (J : (Str → Option Value) → List (Addr × Obj) → Prop) (Q : Flow → Shared → Prop) (f : Flow) (s₃ : Shared) : Prop :=
  match f with
  | .brk => Q .next s₃
  | .ret v => Q (.ret v) s₃
  | _ => ∃ h' tk' m' led', s₃ = { s with heap := h', toks := tk' } ∧ Fr h₀ L h' m' ∧ News h₀ L h' ((I, oI) :: led') ∧ (∀ p ∈ led', p.1 ≠ I) ∧ J m' led'
theorem FTurn.next {I : Addr} {oI : Obj} {J : (Str → Option Value) → List (Addr × Obj) → Prop} {Q : Flow → Shared → Prop} {h' : Heap} {tk' : Nat} {m' : Str → Option Value} {led' all : List (Addr × Obj)}
    (F : Fr h₀ L h' m') (N : News h₀ L h' all) (sub : ∀ p ∈ (I, oI) :: led', p ∈ all) (off : ∀ p ∈ led', p.1 ≠ I) (hJ : J m' led') : FTurn h₀ L s I oI J Q .next { s with heap := h', toks := tk' } :=
  ⟨h', tk', m', led', rfl, F, fun p hp => N p (sub p hp), off, hJ⟩
theorem FTurn.brk {I : Addr} {oI : Obj} {J : (Str → Option Value) → List (Addr × Obj) → Prop} {Q : Flow → Shared → Prop} {s₃ : Shared} (h : Q .next s₃) : FTurn h₀ L s I oI J Q .brk s₃ := h
theorem FTurn.ret {I : Addr} {oI : Obj} {J : (Str → Option Value) → List (Addr × Obj) → Prop} {Q : Flow → Shared → Prop} {v : Value} {s₃ : Shared} (h : Q (.ret v) s₃) : FTurn h₀ L s I oI J Q (.ret v) s₃ := h

/-- a for between two turns -/
inductive FWI (h₀ : Heap) (L : Addr) (s : Shared) (I : Addr) (n : Nat) (St : Nat → Heap → Prop) (J : Nat → (Str → Option Value) → List (Addr × Obj) → Prop) : Nat → Shared → Prop
  | mk (i : Nat) (h : Heap) (tk : Nat) (m₁ : Str → Option Value) (led₁ : List (Addr × Obj)) (hi : i ≤ n) (hst : St i h) (F : Fr h₀ L h m₁) (N : News h₀ L h led₁) (off : ∀ p ∈ led₁, p.1 ≠ I) (hJ : J i m₁ led₁) : FWI h₀ L s I n St J (n + 1 - i) { s with heap := h, toks := tk }

theorem for_walk {target : PySem.Expr} {body : List Stmt} {I : Addr} {fp : List Addr} {n : Nat} {P : Nat → Value → Prop} {St : Nat → Heap → Prop} {Q : Flow → Shared → Prop} {led : List (Addr × Obj)}
    (J : Nat → (Str → Option Value) → List (Addr × Obj) → Prop)
    (W : Walks prog w A I fp [I] n P St) (hIo : ∀ i h, St i h → ∃ o, h.get? I = some o)
    (hSt : ∀ i h h' o m' led', St i h → h.get? I = some o → h'.get? I = some o → Fr h₀ L h' m' → News h₀ L h' led' → J i m' led' → St i h')
    (hst : St 0 s.heap) (F : Fr h₀ L s.heap m) (N : News h₀ L s.heap led) (hIL : I ≠ L) (hI₀ : h₀.get? I = none) (off : ∀ p ∈ led, p.1 ≠ I) (hJ : J 0 m led)
    (turn : ∀ i v m₁ led₁ h tk oI, i < n → P i v → J i m₁ led₁ → Fr h₀ L h m₁ → News h₀ L h ((I, oI) :: led₁) → (∀ p ∈ led₁, p.1 ≠ I) →
      wpAny (model prog w) A (assign target env v) (fun _ s₂ => wpAny (model prog w) A (execs body env) (FTurn h₀ L s I oI (J (i + 1)) Q) (fun _ _ => False) s₂) (fun _ _ => False) { s with heap := h, toks := tk })
    (done : ∀ m₁ led₁ h tk, J n m₁ led₁ → Fr h₀ L h m₁ → News h₀ L h led₁ → Q .next { s with heap := h, toks := tk })
    {R : Result → Shared → Prop} (hR : ∀ f s', Q f s' → R (.ok f) s')
    (ht : ∀ v, letOwnedTupleGo target (.ref I) v = pure () := by intro _; rfl) :
    codeAny (model prog w) A (.forLoop target (.ref I) body [] env) R s := by
  refine codeAny_forLoop (FWI h₀ L s I n St J) (fun k s' hK => ?_) (n + 1) (.mk 0 s.heap s.toks m led (Nat.zero_le _) hst F N off hJ) ht
  clear hst F N off hJ
  obtain ⟨i, h, tk, m₁, led₁, hi, hst', F', N', off', hJ'⟩ := hK
  by_cases hlt : i < n
  · refine W.item i _ _ _ hlt hst' fun v h₂ tk₂ hPv hst₂ hk₂ => ?_
    refine (hIo _ _ hst₂).elim fun oI heI => ?_
    have N₂ : News h₀ L h₂ ((I, oI) :: led₁) := fun p hp => (List.mem_cons.mp hp).elim (fun e => e ▸ ⟨heI, hIL, hI₀⟩) fun hp => LCg.news_but N' hk₂ off' p hp
    refine wpAny_mono (turn i v m₁ led₁ h₂ tk₂ oI hlt hPv hJ' (LCg.fr_but F' hk₂ (Ne.symm hIL) hI₀) N₂ off') (fun _ s₂ h₂' => ?_) (fun _ _ hf => hf.elim)
    clear turn done F' N' N₂ hk₂ hst' hPv off' hJ'
    refine wpAny_mono h₂' (fun f s₃ h₃ => ?_) (fun _ _ hf => hf.elim)
    have nx : FTurn h₀ L s I oI (J (i + 1)) Q .next s₃ → ∃ k', k' < n + 1 - i ∧ FWI h₀ L s I n St J k' s₃ := by
      rintro ⟨h', tk', m', led', rfl, F₃, N₃, off₃, hJ₃⟩
      have N₃' : News h₀ L h' led' := fun p hp => N₃ p (List.mem_cons_of_mem _ hp)
      exact ⟨n + 1 - (i + 1), Nat.sub_lt_sub_left (Nat.lt_succ_of_lt hlt) (Nat.lt_succ_self _), .mk (i + 1) h' tk' m' led' hlt (hSt _ _ _ _ _ _ hst₂ heI (N₃ (I, oI) List.mem_cons_self).1 F₃ N₃' hJ₃) F₃ N₃' off₃ hJ₃⟩
    cases f with
    | next => exact nx h₃
    | cont => exact nx h₃
    | brk => exact hR _ _ h₃
    | ret v => exact hR _ _ h₃
  · obtain rfl : i = n := Nat.le_antisymm hi (Nat.not_lt.mp hlt)
    refine W.done _ _ _ hst' fun h₂ tk₂ hk₂ => ?_
    exact wpAny_execs_nil (hR _ _ (done m₁ led₁ h₂ tk₂ hJ' (LCg.fr_but F' hk₂ (Ne.symm hIL) hI₀) (LCg.news_but N' hk₂ off')))
end
end Mine
namespace Mine
open PySem PySem.W PyProof.Rows PySem.Calls PySem.Spec
set_option maxRecDepth 100000
set_option maxHeartbeats 8000000
section
variable {prog : Program} {w : World} {A : Around} {E : Value → Shared → Prop} {s : Shared} {h₀ : Heap} {L : Addr} {m : Str → Option Value} {env : Env}
open LCg (NsObj lst Off3 Off1)

noncomputable def LcE (h₀ : Heap) (L : Addr) (m : Str → Option Value) (s : Shared) (I : Addr) (oI : Obj) (C : Addr) (oC : Obj) (D : Addr) (oD : Obj) (J : Value → List (Addr × Obj) → Prop) (y : Value) (s₄ : Shared) : Prop :=
  ∃ h' tk' led', s₄ = { s with heap := h', toks := tk' } ∧ Fr h₀ L h' m ∧ News h₀ L h' ((I, oI) :: (C, oC) :: (D, oD) :: led') ∧ Off3 I C D led' ∧ J y led'
theorem LcE.intro {I C D : Addr} {oI oC oD : Obj} {J : Value → List (Addr × Obj) → Prop} {y : Value} {h' : Heap} {tk' : Nat} {all : List (Addr × Obj)}
    (F : Fr h₀ L h' m) (N : News h₀ L h' all) (led' : List (Addr × Obj)) (sub : ∀ p ∈ (I, oI) :: (C, oC) :: (D, oD) :: led', p ∈ all) (off : Off3 I C D led') (hJ : J y led') :
    LcE h₀ L m s I oI C oC D oD J y { s with heap := h', toks := tk' } := ⟨h', tk', led', rfl, F, fun p hp => N p (sub p hp), off, hJ⟩
theorem lc_elim {I C D : Addr} {oI oC oD : Obj} {J : Value → List (Addr × Obj) → Prop} {y : Value} {s₄ : Shared} {G : Shared → Prop} (h : LcE h₀ L m s I oI C oC D oD J y s₄)
    (k : ∀ h' tk' led', Fr h₀ L h' m → News h₀ L h' ((I, oI) :: (C, oC) :: (D, oD) :: led') → Off3 I C D led' → J y led' → G { s with heap := h', toks := tk' }) : G s₄ := by
  obtain ⟨h', tk', led', rfl, F, N, off, hJ⟩ := h
  exact k h' tk' led' F N off hJ
noncomputable def LcT (prog : Program) (w : World) (A : Around) (h₀ : Heap) (L : Addr) (m : Str → Option Value) (s : Shared) (I : Addr) (oI : Obj) (C : Addr) (oC : Obj) (D : Addr) (oD : Obj) (elt : PySem.Expr) (cenv : Env)
    (J0 : List (Addr × Obj) → Prop) (J1 : Value → List (Addr × Obj) → Prop) (ok : Bool) (s₃ : Shared) : Prop :=
  match ok with
  | true => wpAny (model prog w) A (eval elt cenv) (LcE h₀ L m s I oI C oC D oD J1) (fun _ _ => False) s₃
  | false => LcE h₀ L m s I oI C oC D oD (fun _ led => J0 led) .none s₃

/-- a comprehension is opened: its list and its namespace made -/
theorem comp_open {elt target iter : PySem.Expr} {ifs : List PySem.Expr} {rest : List Comprehension} {scope : Scope} {cl : List (Str × Addr)} {pos : Pos} {I : Addr} {fp : List Addr} {n : Nat} {P : Nat → Value → Prop} {St : Nat → Heap → Prop} {led : List (Addr × Obj)}
    {RR : Value → Addr → Result → Shared → Prop} (W : Walks prog w A I fp [I] n P St)
    (hcell : ∀ y ∈ scope.names, y.2 ≠ .cell) (hkind : scope.kind = .function) (hst : St 0 s.heap) (hfp : ∀ b ∈ fp, b < s.heap.objs.size)
    (F : Fr h₀ L s.heap m) (N : News h₀ L s.heap led) (off : ∀ p ∈ led, p.1 ≠ I)
    (loop : ∀ h₁ tk C D m', C ∉ fp → D ∉ fp → h₀.get? D = none → h₀.get? C = none → D ≠ L → C ≠ L → I ≠ C → I ≠ D → C ≠ D → Off3 I C D led → St 0 h₁ → Fr h₀ L h₁ m → h₁.Ns C m' → News h₀ L h₁ ((D, lst []) :: led) →
      codeAny (model prog w) A (.compLoop (.ListComp elt (⟨target, iter, ifs, 0⟩ :: rest) scope pos) 0 (.ref I) (.ref D) (compEnvC scope cl C env)) (RR (.ref D) C) { s with heap := h₁, toks := tk }) :
    wpAny (model prog w) A (newList []) (fun acc s₃ => wpAny (model prog w) A (newFunctionEnv scope env.globals cl [] env.qual none .none (some env)) (fun cenv s₄ =>
      codeAny (model prog w) A (.compStart (.ListComp elt (⟨target, iter, ifs, 0⟩ :: rest) scope pos) 0 (.ref I) acc { cenv with scope := relabel scope env }) (RR acc cenv.locals) s₄) E s₃) E s := by
  refine wpAny_newObj_type (wpAny_newFunctionEnv hcell (by intro y hy; simp at hy) (fun h₁ hns₁ hsb₁ => ?_) hkind)
  dsimp only at hns₁ hsb₁ ⊢
  generalize hH2 : s.heap.push { cls := .type "list", dict := none, data := .seq ([] : List Value).toArray } = H2 at hns₁ hsb₁ ⊢
  have hC : H2.objs.size = s.heap.objs.size + 1 := by rw [← hH2, Heap.size_push]
  have hDC : s.heap.objs.size ≠ H2.objs.size := by rw [hC]; exact Nat.ne_of_lt (Nat.lt_succ_self _)
  have below : ∀ b, b < s.heap.objs.size → b ≠ H2.objs.size ∧ b ≠ s.heap.objs.size := fun b hb => ⟨by rw [hC]; exact Nat.ne_of_lt (Nat.lt_succ_of_lt hb), Nat.ne_of_lt hb⟩
  have hDf : s.heap.objs.size ∉ fp := fun hm => Nat.lt_irrefl _ (hfp _ hm)
  have hCf : H2.objs.size ∉ fp := fun hm => by have := hfp _ hm; rw [hC] at this; exact Nat.lt_irrefl _ (Nat.lt_of_succ_lt this)
  have hIf : I ∈ fp := W.sub I (List.mem_singleton.mpr rfl)
  have hIlt : I < s.heap.objs.size := hfp I hIf
  have old : ∀ b o, s.heap.get? b = some o → h₁.get? b = some o := fun b o e => hsb₁.extBut b o (below b (Heap.lt_size e)).1 (Heap.get?_push_of_some _ (hH2 ▸ Heap.get?_push_of_some _ e))
  have hacc : h₁.get? s.heap.objs.size = some (lst []) := hsb₁.extBut _ _ hDC (Heap.get?_push_of_some _ (hH2 ▸ Heap.get?_push_size _ rfl))
  have hst₁ : St 0 h₁ := W.frame _ _ _ hst fun b _ o e => old b o e
  have fresh : ∀ a, s.heap.objs.size ≤ a → s.heap.get? a = none := fun a ha => by
    cases e : s.heap.get? a with
    | none => rfl
    | some o' => exact absurd (Heap.lt_size e) (Nat.not_lt.mpr ha)
  have fresh₀ : ∀ a, s.heap.objs.size ≤ a → h₀.get? a = none := fun a ha => by
    cases e : h₀.get? a with
    | none => rfl
    | some o' => have := F.keep a o' e; rw [fresh a ha] at this; cases this
  have hD₀ : h₀.get? s.heap.objs.size = none := fresh₀ _ (Nat.le_refl _)
  have hC₀ : h₀.get? H2.objs.size = none := fresh₀ _ (by rw [hC]; exact Nat.le_succ _)
  have hLlt : L < s.heap.objs.size := F.ns.lt
  have hDL : s.heap.objs.size ≠ L := Ne.symm (below L hLlt).2
  have hCL : H2.objs.size ≠ L := Ne.symm (below L hLlt).1
  have hCI : I ≠ H2.objs.size := (below I hIlt).1
  have hDI : I ≠ s.heap.objs.size := (below I hIlt).2
  have off₀ : Off3 I H2.objs.size s.heap.objs.size led := Off3.of fun p hp => ⟨off p hp, (below _ (Heap.lt_size (N p hp).1)).1, (below _ (Heap.lt_size (N p hp).1)).2⟩
  have loop' := loop h₁ (s.toks + ([] : List (Str × Value)).length) _ _ _ hCf hDf hD₀ hC₀ hDL hCL hCI hDI (Ne.symm hDC) off₀ hst₁ (F.keeps old) hns₁ fun p hp => by
    rcases List.mem_cons.mp hp with rfl | hp
    · exact ⟨hacc, hDL, hD₀⟩
    · exact ⟨old _ _ (N p hp).1, (N p hp).2⟩
  exact codeAny_compStart_list loop' (W.self 0 _ _ _ hst₁ loop')
/-- a comprehension between two turns -/
inductive LcI (h₀ : Heap) (L : Addr) (m : Str → Option Value) (s : Shared) (I C D : Addr) (n : Nat) (St : Nat → Heap → Prop) (J : Nat → List Value → List (Addr × Obj) → Prop) : Nat → Shared → Prop
  | mk (h' : Heap) (tk i : Nat) (ys : List Value) (m' : Str → Option Value) (led' : List (Addr × Obj)) (hi : i ≤ n) (hst : St i h') (F : Fr h₀ L h' m) (hn : h'.Ns C m') (N : News h₀ L h' ((D, lst ys) :: led')) (off : Off3 I C D led') (hJ : J i ys led') (hyl : ys.length ≤ i) :
    LcI h₀ L m s I C D n St J (n + 1 - i) { s with heap := h', toks := tk }
theorem LcI.next {I C D : Addr} {n i : Nat} {St : Nat → Heap → Prop} {J : Nat → List Value → List (Addr × Obj) → Prop} {h' : Heap} {tk : Nat} {ys : List Value} {m' : Str → Option Value} {led' : List (Addr × Obj)} (hi : i < n) (hst : St (i + 1) h') (F : Fr h₀ L h' m) (hn : h'.Ns C m') (N : News h₀ L h' ((D, lst ys) :: led')) (off : Off3 I C D led') (hJ : J (i + 1) ys led') (hyl : ys.length ≤ i + 1) :
    ∃ k, k < n + 1 - i ∧ LcI h₀ L m s I C D n St J k { s with heap := h', toks := tk } := ⟨n + 1 - (i + 1), by omega, .mk h' tk (i + 1) ys m' led' hi hst F hn N off hJ hyl⟩

theorem lc_block {elt iter : PySem.Expr} {x : Str} {px : Pos} {ifs : List PySem.Expr} {scope : Scope} {cl : List (Str × Addr)} {pos : Pos} {I : Addr} {fp : List Addr} {n : Nat} {P : Nat → Value → Prop} {St : Nat → Heap → Prop} {led : List (Addr × Obj)}
    {RR : Value → Addr → Result → Shared → Prop} (J : Nat → List Value → List (Addr × Obj) → Prop)
    (W : Walks prog w A I fp [I] n P St) (hsz : n ≤ sizeLine) (hIo : ∀ i h, St i h → ∃ o, h.get? I = some o)
    (hSt : ∀ i h h' o ys led', St i h → h.get? I = some o → h'.get? I = some o → Fr h₀ L h' m → News h₀ L h' led' → J i ys led' → St i h')
    (hcell : ∀ y ∈ scope.names, y.2 ≠ .cell) (hkind : scope.kind = .function) (hx : scope.names.lookup x = some .local) (hst : St 0 s.heap) (hfp : ∀ b ∈ fp, b < s.heap.objs.size)
    (F : Fr h₀ L s.heap m) (N : News h₀ L s.heap led) (hIL : I ≠ L) (hI₀ : h₀.get? I = none) (off : ∀ p ∈ led, p.1 ≠ I) (hJ : J 0 [] led)
    (turn : ∀ i v ys led₁ oI C oC D m₂ h tk, i < n → P i v → J i ys led₁ → NsObj oC m₂ → m₂ x = some v → Fr h₀ L h m → News h₀ L h ((I, oI) :: (C, oC) :: (D, lst ys) :: led₁) → Off3 I C D led₁ →
      ((@Ne Nat I C) ∧ (@Ne Nat I D) ∧ (@Ne Nat C D)) →
      wpAny (model prog w) A (forIn ifs true fun c r => if r = true then do let ok ← isTrue c (compEnvC scope cl C env) (eval c (compEnvC scope cl C env)); pure (ForInStep.yield ok) else pure (ForInStep.yield r))
        (LcT prog w A h₀ L m s I oI C oC D (lst ys) elt (compEnvC scope cl C env) (J (i + 1) ys) (fun y => J (i + 1) (ys ++ [y]))) (fun _ _ => False) { s with heap := h, toks := tk })
    (hRR : ∀ D C h tk m' ys led', Fr h₀ L h m → News h₀ L h ((D, lst ys) :: led') → Off1 D led' → h.Ns C m' → h₀.get? C = none → h₀.get? D = none → C ≠ L → D ≠ L → C ≠ D → (∀ p ∈ led', p.1 ≠ C) → J n ys led' → RR (.ref D) C (.ok .next) { s with heap := h, toks := tk }) :
    wpAny (model prog w) A (newList []) (fun acc s₃ => wpAny (model prog w) A (newFunctionEnv scope env.globals cl [] env.qual none .none (some env)) (fun cenv s₄ =>
      codeAny (model prog w) A (.compStart (.ListComp elt [⟨.Name x px, iter, ifs, 0⟩] scope pos) 0 (.ref I) acc { cenv with scope := relabel scope env }) (RR acc cenv.locals) s₄) E s₃) E s := by
  refine comp_open W hcell hkind hst hfp F N off fun h₁ tk C D m' hCf hDf hD₀ hC₀ hDL hCL hCI hDI hCD off₀ hst₁ F₁ hns₁ N₁ => ?_
  refine codeAny_compLoop_tests (LcI h₀ L m s I C D n St J) (fun k s' hK => ?_) (n + 1) (.mk h₁ tk 0 [] m' led (Nat.zero_le _) hst₁ F₁ hns₁ N₁ off₀ hJ (Nat.le_refl _))
  clear F N off off₀ hst hst₁ F₁ hns₁ N₁ hJ hcell hfp
  obtain ⟨h', tk, i, ys, m', led', hi, hst', F', hn', N', off', hJ', hyl⟩ := hK
  have off3 := off'.mem
  by_cases hlt : i < n
  · refine W.item i _ _ _ hlt hst' fun v h₂ tk₂ hPv hst₂ hk₂ => ?_
    refine wpAny_assign_Name (wpAny_storeName_local (lookup_relabel_local hx) (hn'.at' fun o e => hk₂ _ o (fun q => hCI (List.mem_singleton.mp q).symm) e) (fun h₃ hn₃ hs₃ => ?_) (by simp [compEnvC, relabel, hkind]))
    have hst₃ : St (i + 1) h₃ := W.frame _ _ _ hst₂ fun b hb o e => hs₃.extBut b o (fun q => hCf (by have q' : b = C := q; rw [← q']; exact hb)) e
    have F₃ : Fr h₀ L h₃ m := (LCg.fr_but F' hk₂ (Ne.symm hIL) hI₀).change hs₃ hCL hC₀
    have N₂ : News h₀ L h₂ ((D, lst ys) :: led') := LCg.news_but N' hk₂ (fun p hp => (List.mem_cons.mp hp).elim (fun e => e ▸ Ne.symm hDI) fun hp => (off3 p hp).1)
    have N₂' : News h₀ L h₃ ((D, lst ys) :: led') := fun p hp => ⟨hs₃.extBut _ _ ((List.mem_cons.mp hp).elim (fun e => e ▸ Ne.symm hCD) fun hp => (off3 p hp).2.1) (N₂ p hp).1, (N₂ p hp).2⟩
    refine (hIo _ _ hst₃).elim fun oI heI => (LCg.ns_obj hn₃).elim fun oC hC => ?_
    have heC := hC.1
    have hoC := hC.2
    have N₃ : News h₀ L h₃ ((I, oI) :: (C, oC) :: (D, lst ys) :: led') := fun p hp => (List.mem_cons.mp hp).elim (fun e => e ▸ ⟨heI, hIL, hI₀⟩) fun hp => (List.mem_cons.mp hp).elim (fun e => e ▸ ⟨heC, hCL, hC₀⟩) fun hp => N₂' p hp
    refine wpAny_mono (turn i v ys led' oI C oC D _ h₃ _ hlt hPv hJ' hoC (by simp) F₃ N₃ off' ⟨hCI, hDI, hCD⟩) (fun ok s₄ h₄ => ?_) (fun _ _ hf => hf.elim)
    clear turn hRR N₃ N₂ N₂' F₃ hPv hst₂ hk₂ hst' F' hn' N' hJ' off' off3 hn₃ hs₃ heC hC
    cases ok with
    | false =>
      simp only [Bool.false_eq_true, if_false]
      replace h₄ : LcE h₀ L m s I oI C oC D (lst ys) (fun _ led => J (i + 1) ys led) .none s₄ := h₄
      refine lc_elim (G := fun s₄ => ∃ k, k < n + 1 - i ∧ LcI h₀ L m s I C D n St J k s₄) h₄ fun h₄ tk₄ led₄ F₄ N₄ off₄ hJ₄ => ?_
      have zI := (N₄ (I, oI) List.mem_cons_self).1
      have zC := (N₄ (C, oC) (List.mem_cons_of_mem _ List.mem_cons_self)).1
      have N₄' : News h₀ L h₄ ((D, lst ys) :: led₄) := fun p hp => N₄ p (List.mem_cons_of_mem _ (List.mem_cons_of_mem _ hp))
      exact LcI.next hlt (hSt _ _ _ _ _ _ hst₃ heI zI F₄ (fun p hp => N₄' p (List.mem_cons_of_mem _ hp)) hJ₄) F₄ (hoC.ns zC) N₄' off₄ hJ₄ (Nat.le_succ_of_le hyl)
    | true =>
      simp only [if_true]
      refine wpAny_mono h₄ (fun y s₅ h₅ => ?_) (fun _ _ hf => hf.elim)
      refine lc_elim (G := fun s₅ => wpAny (model prog w) A (call (.builtin "list.append") [.ref D, y]) (fun _ s₄ => ∃ k, k < n + 1 - i ∧ LcI h₀ L m s I C D n St J k s₄) _ s₅) h₅ fun h₄ tk₄ led₄ F₄ N₄ off₄ hJ₄ => ?_
      have zI := (N₄ (I, oI) List.mem_cons_self).1
      have zC := (N₄ (C, oC) (List.mem_cons_of_mem _ List.mem_cons_self)).1
      have zD := (N₄ (D, lst ys) (List.mem_cons_of_mem _ (List.mem_cons_of_mem _ List.mem_cons_self))).1
      have N₄' : News h₀ L h₄ led₄ := fun p hp => N₄ p (List.mem_cons_of_mem _ (List.mem_cons_of_mem _ (List.mem_cons_of_mem _ hp)))
      have hst₄ : St (i + 1) h₄ := hSt _ _ _ _ _ _ hst₃ heI zI F₄ N₄' hJ₄
      refine append_at (hsz := by show ys.toArray.size ≤ sizeLine; rw [List.size_toArray]; exact Nat.le_trans (Nat.le_trans hyl hi) hsz) zD fun h₅ hs₅ hD₅ => ?_
      have off4 := off₄.mem
      exact LcI.next hlt (W.frame _ _ _ hst₄ fun b hb o e => hs₅.extBut b o (fun q => hDf (q ▸ hb)) e) (F₄.change hs₅ hDL hD₀) ((hoC.ns zC).sameBut hs₅ hCD)
        (fun p hp => (List.mem_cons.mp hp).elim (fun e => e ▸ ⟨hD₅.trans (congrArg some (LCg.lst_snoc ys y)), hDL, hD₀⟩) fun hp => ⟨hs₅.extBut _ _ (off4 p hp).2.2 (N₄' p hp).1, (N₄' p hp).2⟩) off₄ hJ₄ (by rw [List.length_append]; exact Nat.succ_le_succ hyl)
  · obtain rfl : i = n := Nat.le_antisymm hi (Nat.not_lt.mp hlt)
    refine W.done _ _ _ hst' fun h₂ tk₂ hk₂ => ?_
    exact hRR _ _ h₂ tk₂ _ ys led' (LCg.fr_but F' hk₂ (Ne.symm hIL) hI₀) (LCg.news_but N' hk₂ fun p hp => (List.mem_cons.mp hp).elim (fun e => e ▸ Ne.symm hDI) fun hp => (off3 p hp).1) off'.one (hn'.at' fun o e => hk₂ _ o (fun q => hCI (List.mem_singleton.mp q).symm) e) hC₀ hD₀ hCL hDL hCD (fun p hp => (off3 p hp).2.1) hJ'
end
end Mine
namespace Mine
open PySem PySem.W PyProof.Rows PySem.Calls PySem.Spec
set_option maxRecDepth 100000
set_option maxHeartbeats 8000000
open LCg (NsObj lst Off3 Off1)

/-- something to be iterated over: n items, the i-th bears P i; keep: what must stand for it to go on -/
noncomputable def Source (prog : Program) (w : World) (A : Around) (xv : Value) (s : Shared) (n : Nat) (P : Nat → Value → Prop) (keep : Heap → Prop) : Prop :=
  ∀ (Q : Value → Shared → Prop) (E : Value → Shared → Prop),
    (∀ fp St h₂, Walks prog w A s.heap.objs.size fp [s.heap.objs.size] n P St → (∀ i h, St i h → ∃ o, h.get? s.heap.objs.size = some o) →
      (∀ i h h' o, St i h → h.get? s.heap.objs.size = some o → h'.get? s.heap.objs.size = some o → keep h' → St i h') → St 0 h₂ → (∀ b ∈ fp, b < h₂.objs.size) → Ext s.heap h₂ → Q (.ref s.heap.objs.size) { s with heap := h₂ }) →
    wpAny (model prog w) A (pyIter xv) Q E s

section
variable {prog : Program} {w : World} {A : Around} {s : Shared}
theorem Source.list {ax : Addr} {its : Array Value} (hh : A.handled = none) (hl : s.heap.IsList ax its) : Source prog w A (.ref ax) s its.size (fun i v => its[i]? = some v) (fun h => h.IsList ax its) := by
  intro Q E hq
  have hlt : ax < s.heap.objs.size := by obtain ⟨_, e, _⟩ := hl; exact Heap.lt_size e
  refine wpAny_pyIter_list hl (hq _ _ _ (Walks.list hh s.heap.objs.size ax (Nat.ne_of_lt hlt) its) (fun i h st => by obtain ⟨o, e, _⟩ := st.1; exact ⟨o, e⟩) ?_ ⟨⟨_, Heap.get?_push_size _ rfl, rfl, rfl⟩, hl.push _⟩ ?_ (fun b o e => Heap.get?_push_of_some _ e))
  · exact fun i h h' o st e e' k => ⟨by obtain ⟨o', q, r⟩ := st.1; rw [e] at q; cases q; exact ⟨o, e', r⟩, k⟩
  · intro b hb
    rw [Heap.size_push]
    rcases List.mem_cons.mp hb with rfl | hb
    · exact Nat.lt_succ_self _
    · rw [List.mem_singleton.mp hb]; exact Nat.lt_succ_of_lt hlt
theorem Source.tuple {ax : Addr} {its : Array Value} (hh : A.handled = none) (hl : s.heap.IsTuple ax its) : Source prog w A (.ref ax) s its.size (fun i v => its[i]? = some v) (fun h => h.IsTuple ax its) := by
  intro Q E hq
  have hlt : ax < s.heap.objs.size := by obtain ⟨_, e, _⟩ := hl; exact Heap.lt_size e
  refine wpAny_pyIter_tuple hl (hq _ _ _ (Walks.tuple hh s.heap.objs.size ax (Nat.ne_of_lt hlt) its) (fun i h st => by obtain ⟨o, e, _⟩ := st.1; exact ⟨o, e⟩) ?_ ⟨⟨_, Heap.get?_push_size _ rfl, rfl, rfl⟩, hl.at fun o e => Heap.get?_push_of_some _ e⟩ ?_ (fun b o e => Heap.get?_push_of_some _ e))
  · exact fun i h h' o st e e' k => ⟨by obtain ⟨o', q, r⟩ := st.1; rw [e] at q; cases q; exact ⟨o, e', r⟩, k⟩
  · intro b hb
    rw [Heap.size_push]
    rcases List.mem_cons.mp hb with rfl | hb
    · exact Nat.lt_succ_self _
    · rw [List.mem_singleton.mp hb]; exact Nat.lt_succ_of_lt hlt
theorem Source.range {r : Addr} {a b : Int} {t u v : Tok} {n : Nat} (hh : A.handled = none) (hr : IsRange s.heap r a b 1 t u v) (hsm : Builtin.Range.small a b 1 = true) (hn : Builtin.Range.rangeSize a b 1 = ((n : Nat) : Int)) :
    Source prog w A (.ref r) s n (fun i v => ∃ t, v = .int (a + (i : Int)) t) (fun _ => True) := by
  intro Q E hq
  refine wpAny_pyIter_range hr hsm (hq _ _ _ (LCg.range_walks hh a n) (fun i h st => ⟨_, st⟩) ?_ (by show IsRangeIter _ _ _ _ _; rw [hn]; simpa using Heap.get?_push_size _ rfl) ?_ (fun b o e => Heap.get?_push_of_some _ e))
  · intro i h h' o st e e' _
    have st' : h.get? s.heap.objs.size = some _ := st
    show h'.get? s.heap.objs.size = some _
    rw [e', ← e]; exact st'
  · intro b hb
    rw [List.mem_singleton.mp hb, Heap.size_push]; exact Nat.lt_succ_self _
end

theorem Source.upto {prog : Program} {w : World} {A : Around} {s : Shared} {r : Addr} {b : Int} {t u v : Tok} {n : Nat} (hh : A.handled = none) (hr : IsRange s.heap r 0 b 1 t u v) (hb : b = (n : Int)) (hn : n < 2 ^ 62) :
    Source prog w A (.ref r) s n (fun i v => ∃ t, v = .int (i : Int) t) (fun _ => True) := by
  subst hb
  have h1 : Builtin.Range.rangeSize 0 (n : Int) 1 = (n : Int) := by
    rw [rangeSize_one]
    split
    · omega
    · omega
  have h := Source.range (prog := prog) (w := w) hh hr (small_one (by decide) (by decide) (by omega) (by omega)) h1
  simpa using h
section
variable {prog : Program} {w : World} {A : Around} {E : Value → Shared → Prop} {s : Shared} {h₀ : Heap} {L : Addr} {m : Str → Option Value} {env : Env}

/-- a for, its iterable got -/
noncomputable def ForAt (prog : Program) (w : World) (A : Around) (target : PySem.Expr) (body orelse : List Stmt) (env : Env) (Q : Flow → Shared → Prop) (E : Value → Shared → Prop) (xv : Value) (s : Shared) : Prop :=
  wpAny (model prog w) A (pyIter xv) (fun it s₂ => codeAny (model prog w) A (.forLoop target it body orelse env) (fun r s' => match r with | .ok f => Q f s' | .error e => cameBackBy (model prog w) A env E e s') s₂) E s
theorem for_start {target iter : PySem.Expr} {body orelse : List Stmt} {pos : Pos} {Q : Flow → Shared → Prop}
    (h : wpAny (model prog w) A (eval iter env) (ForAt prog w A target body orelse env Q E) E s) (hs : ∀ x, foldedSetIterable iter env x = pure x := by intro _; rfl) :
    wpAny (model prog w) A (exec (.For target iter body orelse pos) env) Q E s := wpAny_For h hs

theorem for_inv {target : PySem.Expr} {body : List Stmt} {n : Nat} {P : Nat → Value → Prop} {keep : Heap → Prop} {Q : Flow → Shared → Prop} {led : List (Addr × Obj)} {xv : Value}
    (J : Nat → (Str → Option Value) → List (Addr × Obj) → Prop)
    (S : Source prog w A xv s n P keep) (F : Fr h₀ L s.heap m) (N : News h₀ L s.heap led) (hJ : J 0 m led)
    (hkeep : ∀ i h' m' led', Fr h₀ L h' m' → News h₀ L h' led' → J i m' led' → keep h')
    (turn : ∀ i v m₁ led₁ h tk I oI, i < n → P i v → J i m₁ led₁ → Fr h₀ L h m₁ → News h₀ L h ((I, oI) :: led₁) → (∀ p ∈ led₁, p.1 ≠ I) →
      wpAny (model prog w) A (assign target env v) (fun _ s₂ => wpAny (model prog w) A (execs body env) (FTurn h₀ L s I oI (J (i + 1)) Q) (fun _ _ => False) s₂) (fun _ _ => False) { s with heap := h, toks := tk })
    (done : ∀ m₁ led₁ h tk, J n m₁ led₁ → Fr h₀ L h m₁ → News h₀ L h led₁ → Q .next { s with heap := h, toks := tk })
    (ht : ∀ I v, letOwnedTupleGo target (.ref I) v = pure () := by intro _ _; rfl) :
    ForAt prog w A target body [] env Q E xv s := by
  refine S _ _ fun fp St h₂ W hIo hSt hst hfp hx => ?_
  refine for_walk (s := { s with heap := h₂ }) (h₀ := h₀) (L := L) (m := m) (Q := Q) (led := led) J W hIo (fun i h h' o m' led' st e e' F' N' hJ' => hSt i h h' o st e e' (hkeep i h' m' led' F' N' hJ')) hst (F.keeps hx) (N.grown hx) (Nat.ne_of_gt F.ns.lt) (next_is_new F)
    (fun p hp => Nat.ne_of_lt (Heap.lt_size (N p hp).1)) hJ (fun i v m₁ led₁ h tk oI hi hP hJ' F' N' off' => turn i v m₁ led₁ h tk _ oI hi hP hJ' F' N' off') done (fun f s' hq => hq) (ht _)

/-- a comprehension, its iterable got -/
noncomputable def LcAt (prog : Program) (w : World) (A : Around) (elt : PySem.Expr) (x : Str) (px : Pos) (iter : PySem.Expr) (ifs : List PySem.Expr) (scope : Scope) (cl : List (Str × Addr)) (pos : Pos) (env : Env) (use : Option (Value → Sem Unit)) (Q : Value → Shared → Prop) (E : Value → Shared → Prop) (xv : Value) (s : Shared) : Prop :=
  wpAny (model prog w) A (pyIter xv) (fun it s₂ => wpAny (model prog w) A (newList []) (fun acc s₃ => wpAny (model prog w) A (newFunctionEnv scope env.globals cl [] env.qual none .none (some env)) (fun cenv s₄ =>
      codeAny (model prog w) A (.compStart (.ListComp elt [⟨.Name x px, iter, ifs, 0⟩] scope pos) 0 it acc { cenv with scope := relabel scope env }) (compPost (model prog w) A E use Q acc cenv.locals) s₄) E s₃) E s₂) E s
theorem lc_start {elt iter : PySem.Expr} {x : Str} {px : Pos} {ifs : List PySem.Expr} {scope : Scope} {cl : List (Str × Addr)} {pos : Pos} {Q : Value → Shared → Prop}
    (hclos : closureFor scope env = pure cl) (hkind : scope.kind = .function) (hnames : ∀ y ∈ scope.names, y.2 = .local → scope.names.lookup y.1 = some .local)
    (h : wpAny (model prog w) A (eval iter env) (LcAt prog w A elt x px iter ifs scope cl pos env none Q E) E s)
    (hs : ∀ x, foldedSetIterable iter env x = pure x := by intro _; rfl) :
    wpAny (model prog w) A (eval (.ListComp elt [⟨.Name x px, iter, ifs, 0⟩] scope pos) env) Q E s := by
  rw [eval_ListComp]
  exact wpAny_comprehension_free (use := none) rfl hs hclos hkind hnames h
theorem lc_startA {elt iter : PySem.Expr} {x y : Str} {px py : Pos} {ifs : List PySem.Expr} {scope : Scope} {cl : List (Str × Addr)} {pos spos : Pos} {Q : Flow → Shared → Prop}
    (hsw : swapsWith (.ListComp elt [⟨.Name x px, iter, ifs, 0⟩] scope pos) (some (.Name y py)) spos.line env = pure true)
    (hclos : closureFor scope env = pure cl) (hkind : scope.kind = .function) (hnames : ∀ y ∈ scope.names, y.2 = .local → scope.names.lookup y.1 = some .local)
    (h : wpAny (model prog w) A (eval iter env) (LcAt prog w A elt x px iter ifs scope cl pos env (some (assign (.Name y py) env)) (fun _ s' => Q .next s') E) E s)
    (hs : ∀ x, foldedSetIterable iter env x = pure x := by intro _; rfl) :
    wpAny (model prog w) A (exec (.Assign [.Name y py] (.ListComp elt [⟨.Name x px, iter, ifs, 0⟩] scope pos) spos) env) Q E s := by
  rw [exec_Assign_Name_used _ _ _ _ hsw]
  refine wpAny_bind (wpAny_standAt (wpAny_bind ?_))
  show wpAny _ A (do let _ ← comprehension (.ListComp elt [⟨.Name x px, iter, ifs, 0⟩] scope pos) scope env _ (newList []) false (eval iter env) (some (assign (.Name y py) env))) _ _ s
  exact wpAny_bind (wpAny_mono (wpAny_comprehension_free (use := some (assign (.Name y py) env)) (Q := fun _ s' => Q .next s') rfl hs hclos hkind hnames h) (fun _ s' hq => wpAny_pure (wpAny_pure hq)) fun _ _ e => e)

theorem lc_inv {elt iter : PySem.Expr} {x : Str} {px : Pos} {ifs : List PySem.Expr} {scope : Scope} {cl : List (Str × Addr)} {pos : Pos} {n : Nat} {P : Nat → Value → Prop} {keep : Heap → Prop} {led : List (Addr × Obj)} {xv : Value} {Q : Value → Shared → Prop}
    (J : Nat → List Value → List (Addr × Obj) → Prop)
    (S : Source prog w A xv s n P keep) (hsz : n ≤ sizeLine) (hcell : ∀ y ∈ scope.names, y.2 ≠ .cell) (hkind : scope.kind = .function) (hx : scope.names.lookup x = some .local)
    (F : Fr h₀ L s.heap m) (N : News h₀ L s.heap led) (hJ : J 0 [] led)
    (hkeep : ∀ i h' ys led', Fr h₀ L h' m → News h₀ L h' led' → J i ys led' → keep h')
    (turn : ∀ i v ys led₁ I oI C oC D m₂ h tk, i < n → P i v → J i ys led₁ → NsObj oC m₂ → m₂ x = some v → Fr h₀ L h m → News h₀ L h ((I, oI) :: (C, oC) :: (D, lst ys) :: led₁) → Off3 I C D led₁ →
      ((@Ne Nat I C) ∧ (@Ne Nat I D) ∧ (@Ne Nat C D)) →
      wpAny (model prog w) A (forIn ifs true fun c r => if r = true then do let ok ← isTrue c (compEnvC scope cl C env) (eval c (compEnvC scope cl C env)); pure (ForInStep.yield ok) else pure (ForInStep.yield r))
        (LcT prog w A h₀ L m s I oI C oC D (lst ys) elt (compEnvC scope cl C env) (J (i + 1) ys) (fun y => J (i + 1) (ys ++ [y]))) (fun _ _ => False) { s with heap := h, toks := tk })
    (fin : ∀ D h tk ys led', Fr h₀ L h m → News h₀ L h ((D, lst ys) :: led') → Off1 D led' → J n ys led' → Q (.ref D) { s with heap := h, toks := tk }) :
    LcAt prog w A elt x px iter ifs scope cl pos env none Q E xv s := by
  refine S _ _ fun fp St h₂ W hIo hSt hst hfp hx₂ => ?_
  refine lc_block (s := { s with heap := h₂ }) (h₀ := h₀) (L := L) (m := m) (led := led) (RR := compPost (model prog w) A E none Q) J W hsz hIo (fun i h h' o ys led' st e e' F' N' hJ' => hSt i h h' o st e e' (hkeep i h' ys led' F' N' hJ')) hcell hkind hx hst hfp (F.keeps hx₂) (N.grown hx₂)
    (Nat.ne_of_gt F.ns.lt) (next_is_new F) (fun p hp => Nat.ne_of_lt (Heap.lt_size (N p hp).1)) hJ (fun i v ys led₁ oI C oC D m₂ h tk => turn i v ys led₁ _ oI C oC D m₂ h tk) ?_
  intro D C h tk m' ys led' F' N' o1 hn hC₀ hD₀ hCL hDL hCD offC hJ'
  refine ⟨m', hn, fun h'' hs'' => fin D h'' tk ys led' (F'.change hs'' hCL hC₀) (fun p hp => ?_) o1 hJ'⟩
  refine ⟨hs''.extBut _ _ ?_ (N' p hp).1, (N' p hp).2⟩
  rcases List.mem_cons.mp hp with rfl | hp
  · exact Ne.symm hCD
  · exact offC p hp

/-- a comprehension without a test that leaves the ledger as it stands -/
theorem lc_map {elt iter : PySem.Expr} {x : Str} {px : Pos} {scope : Scope} {cl : List (Str × Addr)} {pos : Pos} {n : Nat} {P : Nat → Value → Prop} {keep : Heap → Prop} {led : List (Addr × Obj)} {xv : Value} {Q : Value → Shared → Prop}
    (J : Nat → List Value → Prop)
    (S : Source prog w A xv s n P keep) (hsz : n ≤ sizeLine) (hcell : ∀ y ∈ scope.names, y.2 ≠ .cell) (hkind : scope.kind = .function) (hx : scope.names.lookup x = some .local)
    (F : Fr h₀ L s.heap m) (N : News h₀ L s.heap led) (hJ : J 0 [])
    (hkeep : ∀ h', Fr h₀ L h' m → News h₀ L h' led → keep h')
    (turn : ∀ i v ys I oI C oC D m₂ h tk (Q1 : Value → Shared → Prop), i < n → P i v → J i ys → NsObj oC m₂ → m₂ x = some v → Fr h₀ L h m → News h₀ L h ((I, oI) :: (C, oC) :: (D, lst ys) :: led) → Off3 I C D led →
      ((@Ne Nat I C) ∧ (@Ne Nat I D) ∧ (@Ne Nat C D)) →
      (∀ y h' tk' all, Fr h₀ L h' m → News h₀ L h' all → (∀ p ∈ (I, oI) :: (C, oC) :: (D, lst ys) :: led, p ∈ all) → J (i + 1) (ys ++ [y]) → Q1 y { s with heap := h', toks := tk' }) →
      wpAny (model prog w) A (eval elt (compEnvC scope cl C env)) Q1 (fun _ _ => False) { s with heap := h, toks := tk })
    (fin : ∀ D h tk ys, Fr h₀ L h m → News h₀ L h ((D, lst ys) :: led) → Off1 D led → J n ys → Q (.ref D) { s with heap := h, toks := tk }) :
    LcAt prog w A elt x px iter [] scope cl pos env none Q E xv s :=
  lc_inv (fun i ys led' => led' = led ∧ J i ys) S hsz hcell hkind hx F N ⟨rfl, hJ⟩ (fun _ h' _ _ F' N' hj => hkeep h' F' (hj.1 ▸ N'))
    (fun i v ys led₁ I oI C oC D m₂ h tk hi hP hj hoC hx F2 N2 off ne => by
      obtain ⟨rfl, hys⟩ := hj
      exact wpAny_tests_nil (turn i v ys I oI C oC D m₂ h tk _ hi hP hys hoC hx F2 N2 off ne fun y h' tk' all F' N' sub hJ' => LcE.intro F' N' _ sub off ⟨rfl, hJ'⟩))
    fun D h tk ys led' F' N' o1 hj => by
      obtain ⟨rfl, hys⟩ := hj
      exact fin D h tk ys F' N' o1 hys

theorem lc_invA {elt iter : PySem.Expr} {x y : Str} {px py : Pos} {ifs : List PySem.Expr} {scope : Scope} {cl : List (Str × Addr)} {pos : Pos} {n : Nat} {P : Nat → Value → Prop} {keep : Heap → Prop} {led : List (Addr × Obj)} {xv : Value} {Q : Value → Shared → Prop}
    (J : Nat → List Value → List (Addr × Obj) → Prop)
    (hL : env.locals = L) (hy : env.kindOf y = some .local) (hp : (env.scope.kind == .class || (env.scope.kind == .module && env.locals != env.globals)) = false)
    (S : Source prog w A xv s n P keep) (hsz : n ≤ sizeLine) (hcell : ∀ y ∈ scope.names, y.2 ≠ .cell) (hkind : scope.kind = .function) (hx : scope.names.lookup x = some .local)
    (F : Fr h₀ L s.heap m) (N : News h₀ L s.heap led) (hJ : J 0 [] led)
    (hkeep : ∀ i h' ys led', Fr h₀ L h' m → News h₀ L h' led' → J i ys led' → keep h')
    (turn : ∀ i v ys led₁ I oI C oC D m₂ h tk, i < n → P i v → J i ys led₁ → NsObj oC m₂ → m₂ x = some v → Fr h₀ L h m → News h₀ L h ((I, oI) :: (C, oC) :: (D, lst ys) :: led₁) → Off3 I C D led₁ →
      ((@Ne Nat I C) ∧ (@Ne Nat I D) ∧ (@Ne Nat C D)) →
      wpAny (model prog w) A (forIn ifs true fun c r => if r = true then do let ok ← isTrue c (compEnvC scope cl C env) (eval c (compEnvC scope cl C env)); pure (ForInStep.yield ok) else pure (ForInStep.yield r))
        (LcT prog w A h₀ L m s I oI C oC D (lst ys) elt (compEnvC scope cl C env) (J (i + 1) ys) (fun y => J (i + 1) (ys ++ [y]))) (fun _ _ => False) { s with heap := h, toks := tk })
    (fin : ∀ D h tk ys led', Fr h₀ L h (fun z => if z = y then some (.ref D) else m z) → News h₀ L h ((D, lst ys) :: led') → Off1 D led' → J n ys led' → Q .none { s with heap := h, toks := tk }) :
    LcAt prog w A elt x px iter ifs scope cl pos env (some (assign (.Name y py) env)) Q E xv s := by
  subst hL
  refine S _ _ fun fp St h₂ W hIo hSt hst hfp hx₂ => ?_
  refine lc_block (s := { s with heap := h₂ }) (h₀ := h₀) (L := env.locals) (m := m) (led := led) (RR := compPost (model prog w) A E (some (assign (.Name y py) env)) Q) J W hsz hIo (fun i h h' o ys led' st e e' F' N' hJ' => hSt i h h' o st e e' (hkeep i h' ys led' F' N' hJ')) hcell hkind hx hst hfp (F.keeps hx₂) (N.grown hx₂)
    (Nat.ne_of_gt F.ns.lt) (next_is_new F) (fun p hp => Nat.ne_of_lt (Heap.lt_size (N p hp).1)) hJ (fun i v ys led₁ oI C oC D m₂ h tk => turn i v ys led₁ _ oI C oC D m₂ h tk) ?_
  intro D C h tk m' ys led' F' N' o1 hn hC₀ hD₀ hCL hDL hCD offC hJ'
  show wpAny _ A (assign (.Name y py) env (.ref D)) _ _ _
  refine wpAny_assign_Name (wpAny_storeName_local hy F'.ns (fun h₂ hn₂ hs₂ => ?_) hp)
  have hL₀ : h₀.get? env.locals = none := Heap.get?_none_of_le F'.above
  have F₂ : Fr h₀ env.locals h₂ (fun z => if z = y then some (.ref D) else m z) := ⟨hn₂, fun b o e => hs₂.extBut b o (fun q => by rw [q, hL₀] at e; cases e) (F'.keep b o e), F'.above⟩
  refine ⟨m', hn.sameBut hs₂ hCL, fun h'' hs'' => fin D h'' _ ys led' (F₂.change hs'' hCL hC₀) (fun p hp => ?_) o1 hJ'⟩
  have z : h₂.get? p.1 = some p.2 := hs₂.extBut _ _ (N' p hp).2.1 (N' p hp).1
  refine ⟨hs''.extBut _ _ ?_ z, (N' p hp).2⟩
  rcases List.mem_cons.mp hp with rfl | hp
  · exact Ne.symm hCD
  · exact offC p hp
end
end Mine
namespace Mine
open PySem PySem.W PyProof.Rows PySem.Calls PySem.Spec
set_option maxRecDepth 100000
set_option maxHeartbeats 8000000
structure NeF (a b : Nat) : Prop where
  mk ::
  out : a ≠ b
theorem NeF.symm {a b : Nat} (h : NeF a b) : b ≠ a := Ne.symm h.out
theorem upd_split {d : Addr} {o o' : Obj} : ∀ {pre post : List (Addr × Obj)}, (∀ p ∈ pre, p.1 ≠ d) → (∀ p ∈ post, p.1 ≠ d) → Upd d o o' (pre ++ (d, o) :: post) (pre ++ (d, o') :: post)
  | [], _, _, h => .head h
  | p :: pre, _, h1, h2 => .tail (h1 p (.head _)) (upd_split (fun q hq => h1 q (.tail _ hq)) h2)
theorem upd_heads {d : Addr} {o o' : Obj} {l l' : List (Addr × Obj)} : ∀ (H : List (Addr × Obj)), (∀ p ∈ H, p.1 ≠ d) → Upd d o o' l l' → Upd d o o' (H ++ l) (H ++ l')
  | [], _, h => h
  | p :: H, h1, h => .tail (h1 p (.head _)) (upd_heads H (fun q hq => h1 q (.tail _ hq)) h)
theorem get_split {α : Type} {R : List α} {j : Nat} {x : α} (hj : R[j]? = some x) : j < R.length ∧ R = R.take j ++ x :: R.drop (j + 1) ∧ ∀ y, R.set j y = R.take j ++ y :: R.drop (j + 1) := by
  have hlt : j < R.length := by
    rcases Nat.lt_or_ge j R.length with h' | h'
    · exact h'
    · rw [List.getElem?_eq_none h'] at hj; cases hj
  have hr : R[j] = x := by rw [List.getElem?_eq_getElem hlt] at hj; exact Option.some.inj hj
  have e : ∀ y, R.set j y = R.take j ++ y :: R.drop (j + 1) := fun y => by rw [List.set_eq_take_append_cons_drop, if_pos hlt]
  refine ⟨hlt, ?_, e⟩
  rw [← hr, ← e R[j], List.set_getElem_self]
theorem upd_row {R R' : List (Addr × Obj)} {j : Nat} {d : Addr} {o o' : Obj} (hj : R[j]? = some (d, o)) (hnd : ((R ++ R').map (·.1)).Nodup) : Upd d o o' (R ++ R') (R.set j (d, o') ++ R') := by
  obtain ⟨hlt, e1, e2⟩ := get_split hj
  rw [e2]
  have e3 : R ++ R' = R.take j ++ (d, o) :: (R.drop (j + 1) ++ R') := by
    conv => lhs; rw [e1]
    simp
  have e4 : (R.take j ++ (d, o') :: R.drop (j + 1)) ++ R' = R.take j ++ (d, o') :: (R.drop (j + 1) ++ R') := by simp
  rw [e4, e3]
  rw [e3] at hnd
  simp only [List.map_append, List.map_cons] at hnd
  rw [List.nodup_append] at hnd
  obtain ⟨_, h2, h3⟩ := hnd
  rw [List.nodup_cons] at h2
  refine upd_split (fun p hp q => ?_) (fun p hp q => ?_)
  · exact h3 p.1 (List.mem_map_of_mem hp) d (List.mem_cons_self ..) q
  · exact h2.1 (by rw [← q, ← List.map_append]; exact List.mem_map_of_mem hp)
theorem upd_row2 {R R' : List (Addr × Obj)} {j : Nat} {d : Addr} {o o' : Obj} (hj : R'[j]? = some (d, o)) (hnd : ((R ++ R').map (·.1)).Nodup) : Upd d o o' (R ++ R') (R ++ R'.set j (d, o')) := by
  obtain ⟨hlt, e1, e2⟩ := get_split hj
  rw [e2]
  have e3 : R ++ R' = (R ++ R'.take j) ++ (d, o) :: R'.drop (j + 1) := by
    conv => lhs; rw [e1]
    simp
  have e4 : R ++ (R'.take j ++ (d, o') :: R'.drop (j + 1)) = (R ++ R'.take j) ++ (d, o') :: R'.drop (j + 1) := by simp
  rw [e4, e3]
  rw [e3] at hnd
  simp only [List.map_append, List.map_cons] at hnd
  rw [List.nodup_append] at hnd
  obtain ⟨_, h2, h3⟩ := hnd
  rw [List.nodup_cons] at h2
  refine upd_split (fun p hp q => ?_) (fun p hp q => ?_)
  · exact h3 p.1 (by rw [← List.map_append]; exact List.mem_map_of_mem hp) d (List.mem_cons_self ..) q
  · exact h2.1 (by rw [← q]; exact List.mem_map_of_mem hp)

noncomputable def RowsAt (R : List (Addr × Obj)) (P : List (List Int)) : Prop := R.length = P.length ∧ ∀ (i : Nat) p r, R[i]? = some p → P[i]? = some r → ∃ vs n, p.2 = W.listOf vs.toArray n ∧ IntsAre vs r
noncomputable def refsOf (R : List (Addr × Obj)) : List Value := R.map fun p => .ref p.1
theorem refs_set {R : List (Addr × Obj)} {j : Nat} {d : Addr} {o o' : Obj} (hj : R[j]? = some (d, o)) : refsOf (R.set j (d, o')) = refsOf R := by
  obtain ⟨hlt, e1, e2⟩ := get_split hj
  rw [e2]
  conv => rhs; rw [e1]
  simp [refsOf]
theorem fst_set {R : List (Addr × Obj)} {j : Nat} {d : Addr} {o o' : Obj} (hj : R[j]? = some (d, o)) : (R.set j (d, o')).map (·.1) = R.map (·.1) := by
  obtain ⟨hlt, e1, e2⟩ := get_split hj
  rw [e2]
  conv => rhs; rw [e1]
  simp
theorem RowsAt.set {R : List (Addr × Obj)} {P : List (List Int)} {j : Nat} {d : Addr} {vs : List Value} {n : Nat} {r : List Int} (h : RowsAt R P) (hi : IntsAre vs r) : RowsAt (R.set j (d, W.listOf vs.toArray n)) (P.set j r) := by
  refine ⟨by simp [h.1], fun i p q h1 h2 => ?_⟩
  by_cases e : j = i
  · subst e
    have hlt : j < R.length := by
      rcases Nat.lt_or_ge j R.length with h' | h'
      · exact h'
      · rw [List.getElem?_eq_none (by simpa using h')] at h1; cases h1
    rw [List.getElem?_set_self hlt] at h1
    rw [List.getElem?_set_self (by rw [← h.1]; exact hlt)] at h2
    cases h1; cases h2
    exact ⟨vs, n, rfl, hi⟩
  · rw [List.getElem?_set_ne e] at h1 h2
    exact h.2 i p q h1 h2
theorem RowsAt.snoc {R : List (Addr × Obj)} {P : List (List Int)} {d : Addr} {n : Nat} (h : RowsAt R P) : RowsAt (R ++ [(d, W.listOf #[] n)]) (P ++ [[]]) := by
  refine ⟨by simp [h.1], fun i p q h1 h2 => ?_⟩
  rcases Nat.lt_trichotomy i R.length with hi | hi | hi
  · rw [List.getElem?_append_left hi] at h1
    rw [List.getElem?_append_left (by rw [← h.1]; exact hi)] at h2
    exact h.2 i p q h1 h2
  · subst hi
    rw [List.getElem?_append_right (Nat.le_refl _)] at h1
    rw [List.getElem?_append_right (by rw [h.1]; exact Nat.le_refl _)] at h2
    simp at h1
    rw [h.1] at h2
    simp at h2
    subst h1; subst h2
    exact ⟨[], n, rfl, .nil⟩
  · rw [List.getElem?_eq_none (by simp; omega)] at h1; cases h1
theorem RowsAt.get {R : List (Addr × Obj)} {P : List (List Int)} {j : Nat} {r : List Int} (h : RowsAt R P) (hj : P[j]? = some r) : ∃ d vs n, R[j]? = some (d, W.listOf vs.toArray n) ∧ IntsAre vs r ∧ (refsOf R)[j]? = some (.ref d) := by
  have hlt : j < P.length := by
    rcases Nat.lt_or_ge j P.length with h' | h'
    · exact h'
    · rw [List.getElem?_eq_none h'] at hj; cases hj
  have hlt' : j < R.length := by rw [h.1]; exact hlt
  obtain ⟨vs, n, e, hi⟩ := h.2 j _ r (List.getElem?_eq_getElem hlt') hj
  refine ⟨R[j].1, vs, n, by rw [List.getElem?_eq_getElem hlt', ← e], hi, ?_⟩
  simp [refsOf, List.getElem?_map, List.getElem?_eq_getElem hlt']

section
variable {prog : Program} {w : World} {A : Around} {E : Value → Shared → Prop} {s : Shared} {h₀ : Heap} {L : Addr} {m : Str → Option Value} {led : List (Addr × Obj)}
theorem len_led {l : Addr} {its : Array Value} {n k : Nat} {Q : Value → Shared → Prop} (N : News h₀ L s.heap led) (hm : (l, W.listOf its n) ∈ led) (hk : its.size = k) (hfit : k < 2 ^ 63)
    (h : Q (.int (k : Int) (s.toks + 1)) { s with toks := s.toks + 1 + 1 }) : wpAny (model prog w) A (call (.builtin "len") [.ref l]) Q E s := by
  subst hk
  exact len_list ⟨_, (N _ hm).1, rfl, n, rfl⟩ (by omega) h
theorem item_led {value slice : PySem.Expr} {l : Addr} {its : Array Value} {n : Nat} {k : Int} {u : Tok} {x : Value} {Q : Value → Shared → Prop} (N : News h₀ L s.heap led) (hm : (l, W.listOf its n) ∈ led)
    (h0 : 0 ≤ k) (hfit : k < 2 ^ 63) (hx : its[k.toNat]? = some x) (h : Q x s)
    (hs : subscripted slice false (.ref l) (.int k u) = operate [.ref l, .int k u] (getItem (.ref l) (.int k u)) := by with_unfolding_all rfl) :
    wpAny (model prog w) A (subscriptTail value slice (.ref l) (.int k u)) Q E s :=
  tail_any (⟨_, (N _ hm).1, rfl⟩ : s.TypeIs (.ref l) "list") slot_list_getitem.lookup (wpAny_getItem_list ⟨_, (N _ hm).1, rfl, n, rfl⟩ h0 hfit hx h) hs
theorem item_base {value slice : PySem.Expr} {l : Addr} {its : Array Value} {k : Int} {u : Tok} {x : Value} {Q : Value → Shared → Prop} (F : Fr h₀ L s.heap m) (hl : h₀.IsList l its)
    (h0 : 0 ≤ k) (hfit : k < 2 ^ 63) (hx : its[k.toNat]? = some x) (h : Q x s)
    (hs : subscripted slice false (.ref l) (.int k u) = operate [.ref l, .int k u] (getItem (.ref l) (.int k u)) := by with_unfolding_all rfl) :
    wpAny (model prog w) A (subscriptTail value slice (.ref l) (.int k u)) Q E s := by
  have hl' : s.heap.IsList l its := hl.at fun o e => F.keep _ o e
  exact tail_any hl'.typeIs slot_list_getitem.lookup (wpAny_getItem_list hl' h0 hfit hx h) hs
end
end Mine
namespace Mine
open PySem PySem.W PyProof.Rows PySem.Calls PySem.Spec
set_option maxRecDepth 100000
set_option maxHeartbeats 8000000
theorem allLt_all {d : Nat} (l : List (Addr × Obj)) : AllLt d l → ∀ p ∈ l, @LT.lt Nat _ p.1 d := by
  induction l with
  | nil => intro _ p hp; cases hp
  | cons q r ih =>
    intro h p hp
    rcases List.mem_cons.mp hp with e | hp
    · rw [e]; exact h.1
    · exact ih h.2 p hp
noncomputable def abT (xs : List Str) (x y : Int) : Bool := decide ((xs.getD y.toNat ⟨#[]⟩).cps.toList < (xs.getD x.toNat ⟨#[]⟩).cps.toList)
/-- the ledger's symbolic part -/
structure TailOk (L al am : Addr) (b n : Nat) (R R' : List (Addr × Obj)) (P Q : List (List Int)) : Prop where
  rows : RowsAt R P
  marks : RowsAt R' Q
  len : Q.length = P.length
  nodup : ((R ++ R').map (·.1)).Nodup
  off : OwnOff (R ++ R') [am, al, L + 1 + 1 + 1 + 1, L + 1 + 1 + 1, L + 1 + 1, L + 1]
  le : P.length ≤ b
  inP : ∀ r ∈ P, r.length ≤ b ∧ ∀ x ∈ r, 0 ≤ x ∧ x < (n : Int)
  inQ : ∀ r ∈ Q, r.length ≤ b
theorem TailOk.more {L al am : Addr} {b n : Nat} {R R' : List (Addr × Obj)} {P Q : List (List Int)} (T : TailOk L al am b n R R' P Q) : TailOk L al am (b + 1) n R R' P Q :=
  ⟨T.rows, T.marks, T.len, T.nodup, T.off, Nat.le_succ_of_le T.le, fun r hr => ⟨Nat.le_succ_of_le (T.inP r hr).1, (T.inP r hr).2⟩, fun r hr => Nat.le_succ_of_le (T.inQ r hr)⟩
theorem TailOk.snoc {L al am a c : Addr} {b n : Nat} {R R' : List (Addr × Obj)} {P Q : List (List Int)} (T : TailOk L al am b n R R' P Q)
    (h1 : @LT.lt Nat _ am a ∧ @LT.lt Nat _ al a ∧ @LT.lt Nat _ (L + 1 + 1 + 1 + 1) a ∧ @LT.lt Nat _ (L + 1 + 1 + 1) a ∧ @LT.lt Nat _ (L + 1 + 1) a ∧ @LT.lt Nat _ (L + 1) a ∧ AllLt a (R ++ R')) (hac : @LT.lt Nat _ a c) :
    TailOk L al am (b + 1) n (R ++ [(a, W.listOf #[] 0)]) (R' ++ [(c, W.listOf #[] 0)]) (P ++ [[]]) (Q ++ [[]]) := by
  obtain ⟨e1, e2, e3, e4, e5, e6, e7⟩ := h1
  have e8 := allLt_all _ e7
  have key : ∀ p ∈ (R ++ [(a, W.listOf #[] 0)]) ++ (R' ++ [(c, W.listOf #[] 0)]), p ∈ R ++ R' ∨ p.1 = a ∨ p.1 = c := by
    intro p hp
    rcases List.mem_append.mp hp with hp | hp
    · rcases List.mem_append.mp hp with hp | hp
      · exact .inl (List.mem_append_left _ hp)
      · rw [List.mem_singleton.mp hp]; exact .inr (.inl rfl)
    · rcases List.mem_append.mp hp with hp | hp
      · exact .inl (List.mem_append_right _ hp)
      · rw [List.mem_singleton.mp hp]; exact .inr (.inr rfl)
  refine ⟨T.rows.snoc, T.marks.snoc, by simp [T.len], ?_, ?_, by simp; exact T.le, ?_, ?_⟩
  · have nd := T.nodup
    have lt1 : ∀ x ∈ R.map (·.1), @LT.lt Nat _ x a := fun x hx => by
      obtain ⟨p, hp, rfl⟩ := List.mem_map.mp hx
      exact e8 p (List.mem_append_left _ hp)
    have lt2 : ∀ x ∈ R'.map (·.1), @LT.lt Nat _ x a := fun x hx => by
      obtain ⟨p, hp, rfl⟩ := List.mem_map.mp hx
      exact e8 p (List.mem_append_right _ hp)
    simp only [List.map_append, List.map_cons, List.map_nil, List.nodup_append] at nd ⊢
    obtain ⟨n1, n2, n3⟩ := nd
    refine ⟨⟨n1, by simp, fun x hx y hy => ?_⟩, ⟨n2, by simp, fun x hx y hy => ?_⟩, fun x hx y hy => ?_⟩
    · rw [List.mem_singleton.mp hy]; exact Nat.ne_of_lt (lt1 x hx)
    · rw [List.mem_singleton.mp hy]; exact Nat.ne_of_lt (Nat.lt_trans (lt2 x hx) hac)
    · rcases List.mem_append.mp hx with hx | hx
      · rcases List.mem_append.mp hy with hy | hy
        · exact n3 x hx y hy
        · rw [List.mem_singleton.mp hy]; exact Nat.ne_of_lt (Nat.lt_trans (lt1 x hx) hac)
      · rw [List.mem_singleton.mp hx]
        rcases List.mem_append.mp hy with hy | hy
        · exact Nat.ne_of_gt (lt2 y hy)
        · rw [List.mem_singleton.mp hy]; exact Nat.ne_of_lt hac
  · intro p hp q hq
    rcases key p hp with h | h | h
    · exact T.off p h q hq
    · rw [h]
      simp only [List.mem_cons, List.not_mem_nil, or_false] at hq
      rcases hq with rfl | rfl | rfl | rfl | rfl | rfl
      · exact Nat.ne_of_gt e1
      · exact Nat.ne_of_gt e2
      · exact Nat.ne_of_gt e3
      · exact Nat.ne_of_gt e4
      · exact Nat.ne_of_gt e5
      · exact Nat.ne_of_gt e6
    · rw [h]
      simp only [List.mem_cons, List.not_mem_nil, or_false] at hq
      rcases hq with rfl | rfl | rfl | rfl | rfl | rfl
      · exact Nat.ne_of_gt (Nat.lt_trans e1 hac)
      · exact Nat.ne_of_gt (Nat.lt_trans e2 hac)
      · exact Nat.ne_of_gt (Nat.lt_trans e3 hac)
      · exact Nat.ne_of_gt (Nat.lt_trans e4 hac)
      · exact Nat.ne_of_gt (Nat.lt_trans e5 hac)
      · exact Nat.ne_of_gt (Nat.lt_trans e6 hac)
  · intro r hr
    rcases List.mem_append.mp hr with hr | hr
    · exact ⟨Nat.le_succ_of_le (T.inP r hr).1, (T.inP r hr).2⟩
    · rw [List.mem_singleton.mp hr]; exact ⟨Nat.zero_le _, fun x hx => nomatch hx⟩
  · intro r hr
    rcases List.mem_append.mp hr with hr | hr
    · exact Nat.le_succ_of_le (T.inQ r hr)
    · rw [List.mem_singleton.mp hr]; exact Nat.zero_le _
/-- one row turned -/
theorem TailOk.setP {L al am : Addr} {b n : Nat} {R R' : List (Addr × Obj)} {P Q : List (List Int)} {j : Nat} {d : Addr} {vs vs' : List Value} {k k' : Nat} {r' : List Int} (T : TailOk L al am b n R R' P Q)
    (hj : R[j]? = some (d, W.listOf vs.toArray k)) (hi : IntsAre vs' r') (hb : r'.length ≤ b ∧ ∀ x ∈ r', 0 ≤ x ∧ x < (n : Int)) : TailOk L al am b n (R.set j (d, W.listOf vs'.toArray k')) R' (P.set j r') Q := by
  have ef : (R.set j (d, W.listOf vs'.toArray k') ++ R').map (·.1) = (R ++ R').map (·.1) := by rw [List.map_append, List.map_append, fst_set hj]
  refine ⟨T.rows.set hi, T.marks, by rw [List.length_set]; exact T.len, by rw [ef]; exact T.nodup, ?_, by rw [List.length_set]; exact T.le, ?_, T.inQ⟩
  · intro p hp q hq
    have : p.1 ∈ (R ++ R').map (·.1) := by rw [← ef]; exact List.mem_map_of_mem hp
    obtain ⟨p', hp', e⟩ := List.mem_map.mp this
    rw [← e]; exact T.off p' hp' q hq
  · intro r hr
    rcases List.mem_or_eq_of_mem_set hr with h | h
    · exact T.inP r h
    · rw [h]; exact hb
theorem TailOk.setQ {L al am : Addr} {b n : Nat} {R R' : List (Addr × Obj)} {P Q : List (List Int)} {j : Nat} {d : Addr} {vs vs' : List Value} {k k' : Nat} {r' : List Int} (T : TailOk L al am b n R R' P Q)
    (hj : R'[j]? = some (d, W.listOf vs.toArray k)) (hi : IntsAre vs' r') (hb : r'.length ≤ b) : TailOk L al am b n R (R'.set j (d, W.listOf vs'.toArray k')) P (Q.set j r') := by
  have ef : (R ++ R'.set j (d, W.listOf vs'.toArray k')).map (·.1) = (R ++ R').map (·.1) := by rw [List.map_append, List.map_append, fst_set hj]
  refine ⟨T.rows, T.marks.set hi, by rw [List.length_set]; exact T.len, by rw [ef]; exact T.nodup, ?_, T.le, T.inP, ?_⟩
  · intro p hp q hq
    have : p.1 ∈ (R ++ R').map (·.1) := by rw [← ef]; exact List.mem_map_of_mem hp
    obtain ⟨p', hp', e⟩ := List.mem_map.mp this
    rw [← e]; exact T.off p' hp' q hq
  · intro r hr
    rcases List.mem_or_eq_of_mem_set hr with h | h
    · exact T.inQ r h
    · rw [h]; exact hb
theorem own_set {R R' : List (Addr × Obj)} {l : List Addr} {j : Nat} {d : Addr} {o o' : Obj} (h : OwnOff (R ++ R') l) (hj : R[j]? = some (d, o)) : OwnOff (R.set j (d, o') ++ R') l := by
  have ef : (R.set j (d, o') ++ R').map (·.1) = (R ++ R').map (·.1) := by rw [List.map_append, List.map_append, fst_set hj]
  intro p hp q hq
  have : p.1 ∈ (R ++ R').map (·.1) := by rw [← ef]; exact List.mem_map_of_mem hp
  obtain ⟨p', hp', e⟩ := List.mem_map.mp this
  rw [← e]; exact h p' hp' q hq
theorem own_set2 {R R' : List (Addr × Obj)} {l : List Addr} {j : Nat} {d : Addr} {o o' : Obj} (h : OwnOff (R ++ R') l) (hj : R'[j]? = some (d, o)) : OwnOff (R ++ R'.set j (d, o')) l := by
  have ef : (R ++ R'.set j (d, o')).map (·.1) = (R ++ R').map (·.1) := by rw [List.map_append, List.map_append, fst_set hj]
  intro p hp q hq
  have : p.1 ∈ (R ++ R').map (·.1) := by rw [← ef]; exact List.mem_map_of_mem hp
  obtain ⟨p', hp', e⟩ := List.mem_map.mp this
  rw [← e]; exact h p' hp' q hq
theorem own_snoc {R R' : List (Addr × Obj)} {x y a c : Addr} {o o' : Obj} (h : OwnOff (R ++ R') [x, y]) (h1 : @LT.lt Nat _ x a) (h2 : @LT.lt Nat _ y a) (hac : @LT.lt Nat _ a c) : OwnOff ((R ++ [(a, o)]) ++ (R' ++ [(c, o')])) [x, y] := by
  intro p hp q hq
  have hq' : q = x ∨ q = y := by simpa using hq
  have lt : @LT.lt Nat _ q a := by rcases hq' with rfl | rfl; exact h1; exact h2
  rcases List.mem_append.mp hp with hp | hp
  · rcases List.mem_append.mp hp with hp | hp
    · exact h p (List.mem_append_left _ hp) q hq
    · rw [List.mem_singleton.mp hp]; exact Nat.ne_of_gt lt
  · rcases List.mem_append.mp hp with hp | hp
    · exact h p (List.mem_append_right _ hp) q hq
    · rw [List.mem_singleton.mp hp]; exact Nat.ne_of_gt (Nat.lt_trans lt hac)
theorem refs_snoc (R : List (Addr × Obj)) (a : Addr) (o : Obj) : (refsOf R).toArray.push (.ref a) = (refsOf (R ++ [(a, o)])).toArray := by simp [refsOf]
end Mine
namespace Mine
open PySem PySem.W PyProof.Rows PySem.Calls PySem.Spec
set_option maxRecDepth 100000
set_option maxHeartbeats 8000000
open LCg (NsObj lst Off3 Off1)
noncomputable abbrev two (elt t1 i1 t2 i2 : PySem.Expr) (scope : Scope) (pos : Pos) : PySem.Expr := .ListComp elt [⟨t1, i1, [], 0⟩, ⟨t2, i2, [], 0⟩] scope pos
theorem turn_two0 (elt t1 i1 t2 i2 : PySem.Expr) (scope : Scope) (pos : Pos) (it acc : Value) (env : Env) :
    compTurn (two elt t1 i1 t2 i2 scope pos) 0 it acc env = (do
      standAt i1.pos
      match ← pyNext it with
      | none => pure (.done .next)
      | some v =>
        letOwnedTupleGo t1 it v
        assign t1 env v
        let mut ok := true
        for c in ([] : List PySem.Expr) do
          if ok then ok ← isTrue c env (eval c env)
        if ok then
          let x ← eval i2 env
          standAt i2.pos
          let x ← foldedSetIterable i2 env x
          let _ ← runOwn (.compStart (two elt t1 i1 t2 i2 scope pos) 1 (← holding [x] (pyIter x)) acc env) env
        again (.compLoop (two elt t1 i1 t2 i2 scope pos) 0 it acc env)) := by rfl
theorem turn_two1 (elt t1 i1 t2 i2 : PySem.Expr) (scope : Scope) (pos : Pos) (it acc : Value) (env : Env) :
    compTurn (two elt t1 i1 t2 i2 scope pos) 1 it acc env = (do
      standAt i2.pos
      match ← pyNext it with
      | none => pure (.done .next)
      | some v =>
        letOwnedTupleGo t2 it v
        assign t2 env v
        let mut ok := true
        for c in ([] : List PySem.Expr) do
          if ok then ok ← isTrue c env (eval c env)
        if ok then
          (do let _ ← call (.builtin "list.append") [acc, ← eval elt env])
        again (.compLoop (two elt t1 i1 t2 i2 scope pos) 1 it acc env)) := by rfl
section
variable {prog : Program} {w : World} {A : Around} {R : Result → Shared → Prop} {s : Shared} {elt t1 i1 t2 i2 : PySem.Expr} {scope : Scope} {pos : Pos} {it acc : Value} {env : Env}
theorem loop_two0 (I : Nat → Shared → Prop)
    (turn : ∀ n s, I n s → wpAny (model prog w) A (pyNext it) (fun r s₁ => match r with
      | none => R (.ok .next) s₁
      | some v => wpAny (model prog w) A (assign t1 env v) (fun _ s₂ => wpAny (model prog w) A (eval i2 env) (fun x s₃ => wpAny (model prog w) A (pyIter x) (fun it2 s₄ =>
          codeAny (model prog w) A (.compStart (two elt t1 i1 t2 i2 scope pos) 1 it2 acc env) (fun r s' => match r with | .ok _ => ∃ m, m < n ∧ I m s' | .error _ => False) s₄) (fun _ _ => False) s₃) (fun _ _ => False) s₂) (fun _ _ => False) s₁) (fun _ _ => False) s)
    (n : Nat) (h : I n s) (ht : ∀ v, letOwnedTupleGo t1 it v = pure () := by intro _; rfl) (hs : ∀ x, foldedSetIterable i2 env x = pure x := by intro _; rfl) :
    codeAny (model prog w) A (.compLoop (two elt t1 i1 t2 i2 scope pos) 0 it acc env) R s := by
  refine codeAny_loop rfl I (fun n s hI => ?_) n h
  show wpAny _ A ((compTurn (two elt t1 i1 t2 i2 scope pos) 0 it acc env).onRaise (fun x => do noteFrame x env; theTreesLotGoes x)) _ _ s
  refine wpAny_noted ?_
  rw [turn_two0]
  refine wpAny_bind (wpAny_standAt (wpAny_bind (wpAny_mono (turn n s hI) (fun r s₁ h₁ => ?_) fun _ _ h' => h'.elim)))
  cases r with
  | none => exact wpAny_pure h₁
  | some v =>
    refine wpAny_bind (wpAny_of_eq (ht v) ?_)
    refine wpAny_bind (wpAny_mono h₁ (fun _ s₂ h₂ => ?_) fun _ _ h' => h'.elim)
    refine wpAny_bind (wpAny_pure ?_)
    simp only [if_true]
    refine wpAny_bind (wpAny_mono h₂ (fun x s₃ h₃ => ?_) fun _ _ h' => h'.elim)
    refine wpAny_bind (wpAny_standAt (wpAny_bind (wpAny_of_eq (hs x) ?_)))
    refine wpAny_bind (wpAny_holding (wpAny_mono h₃ (fun it2 s₄ h₄ => ?_) fun _ _ h' => h'.elim))
    refine wpAny_bind (wpAny_runOwn (codeAny_mono h₄ fun r s' hr => ?_))
    cases r with
    | error e => exact hr.elim
    | ok f => exact wpAny_pure ⟨rfl, hr⟩
theorem loop_two1 (I : Nat → Shared → Prop)
    (turn : ∀ n s, I n s → wpAny (model prog w) A (pyNext it) (fun r s₁ => match r with
      | none => R (.ok .next) s₁
      | some v => wpAny (model prog w) A (assign t2 env v) (fun _ s₂ => wpAny (model prog w) A (eval elt env) (fun x s₄ =>
              wpAny (model prog w) A (call (.builtin "list.append") [acc, x]) (fun _ s₅ => ∃ m, m < n ∧ I m s₅) (fun _ _ => False) s₄) (fun _ _ => False) s₂) (fun _ _ => False) s₁) (fun _ _ => False) s)
    (n : Nat) (h : I n s) (ht : ∀ v, letOwnedTupleGo t2 it v = pure () := by intro _; rfl) :
    codeAny (model prog w) A (.compLoop (two elt t1 i1 t2 i2 scope pos) 1 it acc env) R s := by
  refine codeAny_loop rfl I (fun n s hI => ?_) n h
  show wpAny _ A ((compTurn (two elt t1 i1 t2 i2 scope pos) 1 it acc env).onRaise (fun x => do noteFrame x env; theTreesLotGoes x)) _ _ s
  refine wpAny_noted ?_
  rw [turn_two1]
  refine wpAny_bind (wpAny_standAt (wpAny_bind (wpAny_mono (turn n s hI) (fun r s₁ h₁ => ?_) fun _ _ h' => h'.elim)))
  cases r with
  | none => exact wpAny_pure h₁
  | some v =>
    refine wpAny_bind (wpAny_of_eq (ht v) ?_)
    refine wpAny_bind (wpAny_mono h₁ (fun _ s₂ h₂ => ?_) fun _ _ h' => h'.elim)
    refine wpAny_bind (wpAny_pure ?_)
    simp only [if_true]
    exact wpAny_bind (wpAny_bind (wpAny_mono h₂ (fun x s₄ h₄ => wpAny_bind (wpAny_mono h₄ (fun _ s₅ h₅ => wpAny_pure (wpAny_pure ⟨rfl, h₅⟩)) fun _ _ h' => h'.elim)) fun _ _ h' => h'.elim))
theorem start_two1 (h0 : codeAny (model prog w) A (.compLoop (two elt t1 i1 t2 i2 scope pos) 1 it acc env) R s)
    (h : wpAny (model prog w) A (pyIter it) (fun it' s' => codeAny (model prog w) A (.compLoop (two elt t1 i1 t2 i2 scope pos) 1 it' acc env) R s') (fun _ _ => False) s) :
    codeAny (model prog w) A (.compStart (two elt t1 i1 t2 i2 scope pos) 1 it acc env) R s := by
  refine codeAny_of_tree ?_
  show wpAny _ _ ((compStart (two elt t1 i1 t2 i2 scope pos) 1 it acc env).onRaise (fun x => do noteFrame x env; standAt theWindowsPlace)) _ _ s
  refine wpAny_notedAt ?_
  unfold compStart
  show wpAny _ _ (ask >>= _) _ _ s
  refine wpAny_bind (wpAny_askSetting (wpAny_ite ?_))
  split
  · first
      | exact wpAny_bind (wpAny_pure (wpAny_pure (And.intro rfl h0)))
      | exact wpAny_pure (And.intro rfl h0)
  · first
      | exact wpAny_bind (wpAny_rule (wpAny_bind (wpAny_standAt (wpAny_bind (wpAny_mono h (fun it' s' h' => wpAny_pure (And.intro rfl h')) fun _ _ x => x.elim)))))
      | (refine wpAny_bind (wpAny_rule ?_); show wpAny _ _ (standAt i2.pos >>= _) _ _ s; exact wpAny_bind (wpAny_standAt (wpAny_bind (wpAny_mono h (fun it' s' h' => wpAny_pure (And.intro rfl h')) fun _ _ x => x.elim))))
end
section
variable {prog : Program} {w : World} {A : Around} {E : Value → Shared → Prop} {R : Result → Shared → Prop} {s : Shared} {h₀ : Heap} {L : Addr} {m : Str → Option Value} {env : Env} {elt i1 i2 : PySem.Expr} {x1 x2 : Str} {p1 p2 : Pos} {scope : Scope} {pos : Pos} {cl : List (Str × Addr)}
/-- the inner for of a comprehension between two turns -/
inductive LcI2 (h₀ : Heap) (L : Addr) (m : Str → Option Value) (s : Shared) (I C D : Addr) (n : Nat) (St : Nat → Heap → Prop) (led : List (Addr × Obj)) (ys : List Value) (K : Nat → List Value → Prop) : Nat → Shared → Prop
  | mk (h' : Heap) (tk j : Nat) (zs : List Value) (m' : Str → Option Value) (hj : j ≤ n) (hzl : zs.length ≤ j) (hst : St j h') (F : Fr h₀ L h' m) (hn : h'.Ns C m') (N : News h₀ L h' ((D, lst (ys ++ zs)) :: led)) (hK : K j zs) :
    LcI2 h₀ L m s I C D n St led ys K (n + 1 - j) { s with heap := h', toks := tk }
theorem two_inner {t1 : PySem.Expr} {ax D C I2 : Addr} {its ys : List Value} {c : Nat} {led : List (Addr × Obj)} {m' : Str → Option Value} (K : Nat → List Value → Prop) (hh : A.handled = none) (hkind : scope.kind = .function) (hx2 : scope.names.lookup x2 = some .local)
    (F : Fr h₀ L s.heap m) (hit : s.heap.IsListIter I2 ax 0) (hn : s.heap.Ns C m') (N : News h₀ L s.heap ((D, lst ys) :: led)) (hax : (ax, W.listOf its.toArray c) ∈ led)
    (off : Off3 I2 C D led) (hI2L : I2 ≠ L) (hI20 : h₀.get? I2 = none) (hCL : C ≠ L) (hC0 : h₀.get? C = none) (hDL : D ≠ L) (hD0 : h₀.get? D = none) (hCI : I2 ≠ C) (hDI : I2 ≠ D) (hCD : C ≠ D) (hsz : ys.length + its.length ≤ sizeLine)
    (turn : ∀ j v zs oI2 oC m₃ h tk, its[j]? = some v → K j zs → NsObj oC m₃ → m₃ x2 = some v → Fr h₀ L h m → News h₀ L h ((I2, oI2) :: (C, oC) :: (D, lst (ys ++ zs)) :: led) → Off3 I2 C D led →
      wpAny (model prog w) A (eval elt (compEnvC scope cl C env)) (LcE h₀ L m s I2 oI2 C oC D (lst (ys ++ zs)) (fun y led'' => led'' = led ∧ K (j + 1) (zs ++ [y]))) (fun _ _ => False) { s with heap := h, toks := tk })
    (h0 : K 0 [])
    (done : ∀ h tk m'' zs, Fr h₀ L h m → h.Ns C m'' → News h₀ L h ((D, lst (ys ++ zs)) :: led) → K its.length zs → R (.ok .next) { s with heap := h, toks := tk }) :
    codeAny (model prog w) A (.compLoop (two elt t1 i1 (.Name x2 p2) i2 scope pos) 1 (.ref I2) (.ref D) (compEnvC scope cl C env)) R s := by
  have off3 := off.mem
  have haxI : ax ≠ I2 := (off3 _ hax).1
  have haxC : ax ≠ C := (off3 _ hax).2.1
  have haxD : ax ≠ D := (off3 _ hax).2.2
  have W := Walks.list (prog := prog) (w := w) hh I2 ax haxI its.toArray
  have hlist : ∀ {h : Heap}, News h₀ L h ((D, lst ys) :: led) → h.IsList ax its.toArray := fun N => ⟨_, (N _ (List.mem_cons_of_mem _ hax)).1, rfl, _, rfl⟩
  refine loop_two1 (LcI2 h₀ L m s I2 C D its.length (fun j h => h.IsListIter I2 ax j ∧ h.IsList ax its.toArray) led ys K) (fun k s' hK => ?_) (its.length + 1)
    (.mk s.heap s.toks 0 [] m' (Nat.zero_le _) (Nat.le_refl _) ⟨hit, hlist N⟩ F hn (by rw [List.append_nil]; exact N) h0)
  clear F hn h0 hit N hlist
  obtain ⟨h', tk, j, zs, m', hj, hzl, hst', F', hn', N', hK⟩ := hK
  by_cases hlt : j < its.length
  · refine W.item j _ _ _ (by simpa using hlt) hst' fun v h₂ tk₂ hPv hst₂ hk₂ => ?_
    have hPv' : its[j]? = some v := by simpa using hPv
    refine wpAny_assign_Name (wpAny_storeName_local (lookup_relabel_local hx2) (hn'.at' fun o e => hk₂ _ o (fun q => hCI (List.mem_singleton.mp q).symm) e) (fun h₃ hn₃ hs₃ => ?_) (by simp [compEnvC, relabel, hkind]))
    have hst₃ : h₃.IsListIter I2 ax (j + 1) ∧ h₃.IsList ax its.toArray := W.frame _ _ _ hst₂ fun b hb o e => hs₃.extBut b o (fun q => by
      have q' : b = C := q
      rcases List.mem_cons.mp hb with hb | hb
      · exact hCI (hb ▸ q')
      · rw [List.mem_singleton.mp hb] at q'; exact haxC q') e
    have F₃ : Fr h₀ L h₃ m := (LCg.fr_but F' hk₂ (Ne.symm hI2L) hI20).change hs₃ hCL hC0
    have N₂ : News h₀ L h₂ ((D, lst (ys ++ zs)) :: led) := LCg.news_but N' hk₂ (fun p hp => (List.mem_cons.mp hp).elim (fun e => e ▸ Ne.symm hDI) fun hp => (off3 p hp).1)
    have N₂' : News h₀ L h₃ ((D, lst (ys ++ zs)) :: led) := fun p hp => ⟨hs₃.extBut _ _ ((List.mem_cons.mp hp).elim (fun e => e ▸ Ne.symm hCD) fun hp => (off3 p hp).2.1) (N₂ p hp).1, (N₂ p hp).2⟩
    refine hst₃.1.elim fun oI hI => (LCg.ns_obj hn₃).elim fun oC hC => ?_
    have heI := hI.1
    have hdI := hI.2
    have heC := hC.1
    have hoC := hC.2
    have N₃ : News h₀ L h₃ ((I2, oI) :: (C, oC) :: (D, lst (ys ++ zs)) :: led) := fun p hp => (List.mem_cons.mp hp).elim (fun e => e ▸ ⟨heI, hI2L, hI20⟩) fun hp => (List.mem_cons.mp hp).elim (fun e => e ▸ ⟨heC, hCL, hC0⟩) fun hp => N₂' p hp
    refine wpAny_mono (turn j v zs oI oC _ h₃ _ hPv' hK hoC (by simp) F₃ N₃ off) (fun y s₄ h₄ => ?_) (fun _ _ hf => hf.elim)
    clear turn done N₃ N₂ N₂' F₃ hPv hPv' hst₂ hk₂ hst' F' hn' N' hn₃ hs₃ heC hC hI heI
    refine lc_elim (G := fun s₄ => wpAny (model prog w) A (call (.builtin "list.append") [.ref D, y]) (fun _ s₅ => ∃ k, k < its.length + 1 - j ∧ LcI2 h₀ L m s I2 C D its.length (fun j h => h.IsListIter I2 ax j ∧ h.IsList ax its.toArray) led ys K k s₅) _ s₄) h₄ fun hp₄ tk₄ led₄ F₄ N₄ off₄ hJ₄ => ?_
    obtain ⟨rfl, hK₄⟩ := hJ₄
    have zI := (N₄ (I2, oI) List.mem_cons_self).1
    have zC := (N₄ (C, oC) (List.mem_cons_of_mem _ List.mem_cons_self)).1
    have zD := (N₄ (D, lst (ys ++ zs)) (List.mem_cons_of_mem _ (List.mem_cons_of_mem _ List.mem_cons_self))).1
    have N₄' : News h₀ L hp₄ led₄ := fun p hp => N₄ p (List.mem_cons_of_mem _ (List.mem_cons_of_mem _ (List.mem_cons_of_mem _ hp)))
    have hst₄ : hp₄.IsListIter I2 ax (j + 1) ∧ hp₄.IsList ax its.toArray := ⟨⟨oI, zI, hdI⟩, ⟨_, (N₄' _ hax).1, rfl, _, rfl⟩⟩
    refine append_at (hsz := by show (ys ++ zs).toArray.size ≤ sizeLine; rw [List.size_toArray, List.length_append]; omega) zD fun h₅ hs₅ hD₅ => ?_
    refine ⟨its.length + 1 - (j + 1), Nat.sub_lt_sub_left (Nat.lt_succ_of_lt hlt) (Nat.lt_succ_self _), .mk h₅ tk₄ (j + 1) (zs ++ [y]) _ hlt (by rw [List.length_append]; exact Nat.succ_le_succ hzl) (W.frame _ _ _ hst₄ fun b hb o e => hs₅.extBut b o (fun q => by
        have q' : b = D := q
        rcases List.mem_cons.mp hb with hb | hb
        · exact hDI (hb ▸ q')
        · rw [List.mem_singleton.mp hb] at q'; exact haxD q') e) (F₄.change hs₅ hDL hD0)
      ((hoC.ns zC).sameBut hs₅ hCD) (fun p hp => (List.mem_cons.mp hp).elim (fun e => e ▸ ⟨hD₅.trans (congrArg some ?_), hDL, hD0⟩) fun hp => ⟨hs₅.extBut _ _ (off3 p hp).2.2 (N₄' p hp).1, (N₄' p hp).2⟩) hK₄⟩
    rw [← List.append_assoc]; exact LCg.lst_snoc (ys ++ zs) y
  · obtain rfl : j = its.length := Nat.le_antisymm hj (Nat.not_lt.mp hlt)
    refine W.done _ _ _ (by simpa using hst') fun h₂ tk₂ hk₂ => ?_
    exact done h₂ tk₂ _ zs (LCg.fr_but F' hk₂ (Ne.symm hI2L) hI20) (hn'.at' fun o e => hk₂ _ o (fun q => hCI (List.mem_singleton.mp q).symm) e) (LCg.news_but N' hk₂ fun p hp => (List.mem_cons.mp hp).elim (fun e => e ▸ Ne.symm hDI) fun hp => (off3 p hp).1) hK
/-- a comprehension of two fors, its outer iterable got -/
noncomputable def Lc2At (prog : Program) (w : World) (A : Around) (elt : PySem.Expr) (x1 : Str) (p1 : Pos) (i1 : PySem.Expr) (x2 : Str) (p2 : Pos) (i2 : PySem.Expr) (scope : Scope) (cl : List (Str × Addr)) (pos : Pos) (env : Env) (Q : Value → Shared → Prop) (E : Value → Shared → Prop) (xv : Value) (s : Shared) : Prop :=
  wpAny (model prog w) A (pyIter xv) (fun it s₂ => wpAny (model prog w) A (newList []) (fun acc s₃ => wpAny (model prog w) A (newFunctionEnv scope env.globals cl [] env.qual none .none (some env)) (fun cenv s₄ =>
      codeAny (model prog w) A (.compStart (two elt (.Name x1 p1) i1 (.Name x2 p2) i2 scope pos) 0 it acc { cenv with scope := relabel scope env }) (compPost (model prog w) A E none Q acc cenv.locals) s₄) E s₃) E s₂) E s
theorem lc2_start {Q : Value → Shared → Prop}
    (hclos : closureFor scope env = pure cl) (hkind : scope.kind = .function) (hnames : ∀ y ∈ scope.names, y.2 = .local → scope.names.lookup y.1 = some .local)
    (h : wpAny (model prog w) A (eval i1 env) (Lc2At prog w A elt x1 p1 i1 x2 p2 i2 scope cl pos env Q E) E s)
    (hs : ∀ x, foldedSetIterable i1 env x = pure x := by intro _; rfl) :
    wpAny (model prog w) A (eval (two elt (.Name x1 p1) i1 (.Name x2 p2) i2 scope pos) env) Q E s := by
  rw [eval_ListComp]
  exact wpAny_comprehension_free (use := none) rfl hs hclos hkind hnames h
/-- what the inner for's iterable leaves: a list, and how its turns go -/
inductive InnerC (prog : Program) (w : World) (A : Around) (h₀ : Heap) (L : Addr) (m : Str → Option Value) (g : Array GenState) (d : Drawn) (os : OsState) (I : Addr) (oI : Obj) (C : Addr) (oC : Obj) (D : Addr) (ys : List Value) (x2 : Str) (elt : PySem.Expr) (cenv : Env) (J1 : List Value → List (Addr × Obj) → Prop) : Value → Shared → Prop
  | mk (ax : Addr) (its : List Value) (c : Nat) (h' : Heap) (tk' : Nat) (led' : List (Addr × Obj)) (K : Nat → List Value → Prop) (F : Fr h₀ L h' m) (N : News h₀ L h' ((I, oI) :: (C, oC) :: (D, lst ys) :: led')) (off : Off3 I C D led') (hax : (ax, W.listOf (List.toArray its) c) ∈ led') (hsz : ys.length + its.length ≤ sizeLine)
    (turn : ∀ j v zs I2 oI2 oC m₃ h tk, its[j]? = some v → K j zs → NsObj oC m₃ → m₃ x2 = some v → Fr h₀ L h m → News h₀ L h ((I2, oI2) :: (C, oC) :: (D, lst (ys ++ zs)) :: (I, oI) :: led') → Off3 I2 C D ((I, oI) :: led') →
      wpAny (model prog w) A (eval elt cenv) (LcE h₀ L m ⟨h₀, g, d, 0, os⟩ I2 oI2 C oC D (lst (ys ++ zs)) (fun y led'' => led'' = (I, oI) :: led' ∧ K (j + 1) (zs ++ [y]))) (fun _ _ => False) ⟨h, g, d, tk, os⟩)
    (h0 : K 0 []) (h1 : ∀ zs, K its.length zs → J1 (ys ++ zs) led') : InnerC prog w A h₀ L m g d os I oI C oC D ys x2 elt cenv J1 (.ref ax) ⟨h', g, d, tk', os⟩
noncomputable abbrev Inner (prog : Program) (w : World) (A : Around) (h₀ : Heap) (L : Addr) (m : Str → Option Value) (s : Shared) (I : Addr) (oI : Obj) (C : Addr) (oC : Obj) (D : Addr) (ys : List Value) (x2 : Str) (elt : PySem.Expr) (cenv : Env) (J1 : List Value → List (Addr × Obj) → Prop) : Value → Shared → Prop :=
  InnerC prog w A h₀ L m s.gens s.drawn s.os I oI C oC D ys x2 elt cenv J1
/-- a comprehension of two fors between two outer turns -/
inductive LcI3 (h₀ : Heap) (L : Addr) (m : Str → Option Value) (s : Shared) (I C D : Addr) (n : Nat) (St : Nat → Heap → Prop) (J : Nat → List Value → List (Addr × Obj) → Prop) : Nat → Shared → Prop
  | mk (h' : Heap) (tk i : Nat) (ys : List Value) (m' : Str → Option Value) (led' : List (Addr × Obj)) (hi : i ≤ n) (hst : St i h') (F : Fr h₀ L h' m) (hn : h'.Ns C m') (N : News h₀ L h' ((D, lst ys) :: led')) (off : Off3 I C D led') (hJ : J i ys led') :
    LcI3 h₀ L m s I C D n St J (n + 1 - i) { s with heap := h', toks := tk }
theorem two_block {I : Addr} {fp : List Addr} {n : Nat} {P : Nat → Value → Prop} {St : Nat → Heap → Prop} {led : List (Addr × Obj)} {RR : Value → Addr → Result → Shared → Prop} (J : Nat → List Value → List (Addr × Obj) → Prop)
    (hh : A.handled = none) (W : Walks prog w A I fp [I] n P St) (hIo : ∀ i h, St i h → ∃ o, h.get? I = some o)
    (hSt : ∀ i h h' o ys led', St i h → h.get? I = some o → h'.get? I = some o → Fr h₀ L h' m → News h₀ L h' led' → J i ys led' → St i h')
    (hcell : ∀ y ∈ scope.names, y.2 ≠ .cell) (hkind : scope.kind = .function) (hx : scope.names.lookup x1 = some .local) (hx2 : scope.names.lookup x2 = some .local) (hst : St 0 s.heap) (hfp : ∀ b ∈ fp, b < s.heap.objs.size)
    (F : Fr h₀ L s.heap m) (N : News h₀ L s.heap led) (hIL : I ≠ L) (hI₀ : h₀.get? I = none) (off : ∀ p ∈ led, p.1 ≠ I) (hJ : J 0 [] led)
    (turn : ∀ i v ys led₁ oI C oC D m₂ h tk, i < n → P i v → J i ys led₁ → NsObj oC m₂ → m₂ x1 = some v → Fr h₀ L h m → News h₀ L h ((I, oI) :: (C, oC) :: (D, lst ys) :: led₁) → Off3 I C D led₁ →
      ((@Ne Nat I C) ∧ (@Ne Nat I D) ∧ (@Ne Nat C D)) →
      wpAny (model prog w) A (eval i2 (compEnvC scope cl C env)) (Inner prog w A h₀ L m s I oI C oC D ys x2 elt (compEnvC scope cl C env) (J (i + 1))) (fun _ _ => False) { s with heap := h, toks := tk })
    (hRR : ∀ D C h tk m' ys led', Fr h₀ L h m → News h₀ L h ((D, lst ys) :: led') → Off1 D led' → h.Ns C m' → h₀.get? C = none → h₀.get? D = none → C ≠ L → D ≠ L → C ≠ D → (∀ p ∈ led', p.1 ≠ C) → J n ys led' → RR (.ref D) C (.ok .next) { s with heap := h, toks := tk })
    (hs2 : ∀ (env : Env) x, foldedSetIterable i2 env x = pure x := by intro _ _; rfl) :
    wpAny (model prog w) A (newList []) (fun acc s₃ => wpAny (model prog w) A (newFunctionEnv scope env.globals cl [] env.qual none .none (some env)) (fun cenv s₄ =>
      codeAny (model prog w) A (.compStart (two elt (.Name x1 p1) i1 (.Name x2 p2) i2 scope pos) 0 (.ref I) acc { cenv with scope := relabel scope env }) (RR acc cenv.locals) s₄) E s₃) E s := by
  refine comp_open W hcell hkind hst hfp F N off fun h₁ tk C D m' hCf hDf hD₀ hC₀ hDL hCL hCI hDI hCD off₀ hst₁ F₁ hns₁ N₁ => ?_
  refine loop_two0 (LcI3 h₀ L m s I C D n St J) (fun k s' hK => ?_) (n + 1) (.mk h₁ tk 0 [] m' led (Nat.zero_le _) hst₁ F₁ hns₁ N₁ off₀ hJ) (hs := hs2 _)
  clear F N off off₀ hst hst₁ F₁ hns₁ N₁ hJ hcell hfp
  obtain ⟨h', tk, i, ys, m', led', hi, hst', F', hn', N', off', hJ'⟩ := hK
  have off3 := off'.mem
  by_cases hlt : i < n
  · refine W.item i _ _ _ hlt hst' fun v h₂ tk₂ hPv hst₂ hk₂ => ?_
    refine wpAny_assign_Name (wpAny_storeName_local (lookup_relabel_local hx) (hn'.at' fun o e => hk₂ _ o (fun q => hCI (List.mem_singleton.mp q).symm) e) (fun h₃ hn₃ hs₃ => ?_) (by simp [compEnvC, relabel, hkind]))
    have hst₃ : St (i + 1) h₃ := W.frame _ _ _ hst₂ fun b hb o e => hs₃.extBut b o (fun q => hCf (by have q' : b = C := q; rw [← q']; exact hb)) e
    have F₃ : Fr h₀ L h₃ m := (LCg.fr_but F' hk₂ (Ne.symm hIL) hI₀).change hs₃ hCL hC₀
    have N₂ : News h₀ L h₂ ((D, lst ys) :: led') := LCg.news_but N' hk₂ (fun p hp => (List.mem_cons.mp hp).elim (fun e => e ▸ Ne.symm hDI) fun hp => (off3 p hp).1)
    have N₂' : News h₀ L h₃ ((D, lst ys) :: led') := fun p hp => ⟨hs₃.extBut _ _ ((List.mem_cons.mp hp).elim (fun e => e ▸ Ne.symm hCD) fun hp => (off3 p hp).2.1) (N₂ p hp).1, (N₂ p hp).2⟩
    refine (hIo _ _ hst₃).elim fun oI heI => (LCg.ns_obj hn₃).elim fun oC hC => ?_
    have heC := hC.1
    have hoC := hC.2
    have N₃ : News h₀ L h₃ ((I, oI) :: (C, oC) :: (D, lst ys) :: led') := fun p hp => (List.mem_cons.mp hp).elim (fun e => e ▸ ⟨heI, hIL, hI₀⟩) fun hp => (List.mem_cons.mp hp).elim (fun e => e ▸ ⟨heC, hCL, hC₀⟩) fun hp => N₂' p hp
    refine wpAny_mono (turn i v ys led' oI C oC D _ h₃ _ hlt hPv hJ' hoC (by simp) F₃ N₃ off' ⟨hCI, hDI, hCD⟩) (fun xv s₄ h₄ => ?_) (fun _ _ hf => hf.elim)
    clear turn hRR N₃ N₂ N₂' F₃ hPv hst₂ hk₂ hst' F' hn' N' hJ' off' off3 hn₃ hs₃ heC hC
    obtain ⟨ax, its, c, h₄, tk₄, led₄, K, F₄, N₄, off₄, hax, hsz, hturn, hK0, hK1⟩ := h₄
    have zI := (N₄ (I, oI) List.mem_cons_self).1
    have zC := (N₄ (C, oC) (List.mem_cons_of_mem _ List.mem_cons_self)).1
    have N₄' : News h₀ L h₄ ((D, lst ys) :: (I, oI) :: led₄) := fun p hp => N₄ p ((List.mem_cons.mp hp).elim (fun e => e ▸ List.mem_cons_of_mem _ (List.mem_cons_of_mem _ List.mem_cons_self)) fun hp => (List.mem_cons.mp hp).elim (fun e => e ▸ List.mem_cons_self) fun hp => List.mem_cons_of_mem _ (List.mem_cons_of_mem _ (List.mem_cons_of_mem _ hp)))
    have off4 := off₄.mem
    have zl : h₄.IsList ax its.toArray := ⟨_, (N₄' _ (List.mem_cons_of_mem _ (List.mem_cons_of_mem _ hax))).1, rfl, _, rfl⟩
    refine wpAny_pyIter_list zl ?_
    have up : ∀ b o, h₄.get? b = some o → (h₄.push { cls := .type "list_iterator", data := .fields #[.ref ax, .int 0 0] }).get? b = some o := fun b o e => Heap.get?_push_of_some _ e
    have nI2 : ∀ b o, h₄.get? b = some o → b ≠ h₄.objs.size := fun b o e => Nat.ne_of_lt (Heap.lt_size e)
    have O5 : Off3 h₄.objs.size C D ((I, oI) :: led₄) := Off3.of fun p hp => ⟨nI2 _ _ (N₄' p (List.mem_cons_of_mem _ hp)).1, (List.mem_cons.mp hp).elim (fun e => e ▸ ⟨hCI, hDI⟩) fun hp => (off4 p hp).2⟩
    have inner : codeAny (model prog w) A (.compLoop (two elt (.Name x1 p1) i1 (.Name x2 p2) i2 scope pos) 1 (.ref h₄.objs.size) (.ref D) (compEnvC scope cl C env))
        (fun r s' => match r with | .ok _ => ∃ k, k < n + 1 - i ∧ LcI3 h₀ L m s I C D n St J k s' | .error _ => False) { s with heap := h₄.push { cls := .type "list_iterator", data := .fields #[.ref ax, .int 0 0] }, toks := tk₄ } := by
      refine two_inner (s := { s with heap := h₄.push _, toks := tk₄ }) (h₀ := h₀) (L := L) (m := m) (led := (I, oI) :: led₄) (ys := ys) (its := its) (c := c) K hh hkind hx2 (F₄.keeps up) ⟨_, Heap.get?_push_size _ rfl, rfl, rfl⟩ (hoC.ns (up _ _ zC)) (N₄'.grown up) (List.mem_cons_of_mem _ hax) O5 (Ne.symm (Nat.ne_of_lt F₄.ns.lt)) (next_is_new F₄) hCL hC₀ hDL hD₀ (Ne.symm (nI2 _ _ zC)) (Ne.symm (nI2 _ _ (N₄' _ List.mem_cons_self).1)) hCD hsz
        (fun j v zs oI2 oC' m₃ h tk hv hK hoC' hm F N O => hturn j v zs _ oI2 oC' m₃ h tk hv hK hoC' hm F N O) hK0 fun h₆ tk₆ m'' zs F₆ hn₆ N₆ hKn => ?_
      have zI6 := (N₆ (I, oI) (List.mem_cons_of_mem _ List.mem_cons_self)).1
      have N₆' : News h₀ L h₆ ((D, lst (ys ++ zs)) :: led₄) := fun p hp => N₆ p ((List.mem_cons.mp hp).elim (fun e => e ▸ List.mem_cons_self) fun hp => List.mem_cons_of_mem _ (List.mem_cons_of_mem _ hp))
      have hJ6 := hK1 zs hKn
      exact ⟨n + 1 - (i + 1), Nat.sub_lt_sub_left (Nat.lt_succ_of_lt hlt) (Nat.lt_succ_self _), .mk h₆ tk₆ (i + 1) (ys ++ zs) m'' led₄ hlt (hSt _ _ _ _ _ _ hst₃ heI zI6 F₆ (fun p hp => N₆' p (List.mem_cons_of_mem _ hp)) hJ6) F₆ hn₆ N₆' off₄ hJ6⟩
    exact start_two1 inner (wpAny_pyIter_listiter ⟨_, Heap.get?_push_size _ rfl, rfl, rfl⟩ inner)
  · obtain rfl : i = n := Nat.le_antisymm hi (Nat.not_lt.mp hlt)
    refine W.done _ _ _ hst' fun h₂ tk₂ hk₂ => ?_
    exact hRR _ _ h₂ tk₂ _ ys led' (LCg.fr_but F' hk₂ (Ne.symm hIL) hI₀) (LCg.news_but N' hk₂ fun p hp => (List.mem_cons.mp hp).elim (fun e => e ▸ Ne.symm hDI) fun hp => (off3 p hp).1) off'.one (hn'.at' fun o e => hk₂ _ o (fun q => hCI (List.mem_singleton.mp q).symm) e) hC₀ hD₀ hCL hDL hCD (fun p hp => (off3 p hp).2.1) hJ'
theorem lc2_inv {n : Nat} {P : Nat → Value → Prop} {keep : Heap → Prop} {led : List (Addr × Obj)} {xv : Value} {Q : Value → Shared → Prop}
    (J : Nat → List Value → List (Addr × Obj) → Prop) (hh : A.handled = none)
    (S : Source prog w A xv s n P keep) (hcell : ∀ y ∈ scope.names, y.2 ≠ .cell) (hkind : scope.kind = .function) (hx : scope.names.lookup x1 = some .local) (hx2 : scope.names.lookup x2 = some .local)
    (F : Fr h₀ L s.heap m) (N : News h₀ L s.heap led) (hJ : J 0 [] led)
    (hkeep : ∀ i h' ys led', Fr h₀ L h' m → News h₀ L h' led' → J i ys led' → keep h')
    (turn : ∀ i v ys led₁ I oI C oC D m₂ h tk, i < n → P i v → J i ys led₁ → NsObj oC m₂ → m₂ x1 = some v → Fr h₀ L h m → News h₀ L h ((I, oI) :: (C, oC) :: (D, lst ys) :: led₁) → Off3 I C D led₁ →
      ((@Ne Nat I C) ∧ (@Ne Nat I D) ∧ (@Ne Nat C D)) →
      wpAny (model prog w) A (eval i2 (compEnvC scope cl C env)) (Inner prog w A h₀ L m s I oI C oC D ys x2 elt (compEnvC scope cl C env) (J (i + 1))) (fun _ _ => False) { s with heap := h, toks := tk })
    (fin : ∀ D h tk ys led', Fr h₀ L h m → News h₀ L h ((D, lst ys) :: led') → Off1 D led' → J n ys led' → Q (.ref D) { s with heap := h, toks := tk })
    (hs2 : ∀ (env : Env) x, foldedSetIterable i2 env x = pure x := by intro _ _; rfl) :
    Lc2At prog w A elt x1 p1 i1 x2 p2 i2 scope cl pos env Q E xv s := by
  refine S _ _ fun fp St h₂ W hIo hSt hst hfp hx₂ => ?_
  refine two_block (s := { s with heap := h₂ }) (h₀ := h₀) (L := L) (m := m) (led := led) (RR := compPost (model prog w) A E none Q) (hs2 := hs2) J hh W hIo (fun i h h' o ys led' st e e' F' N' hJ' => hSt i h h' o st e e' (hkeep i h' ys led' F' N' hJ')) hcell hkind hx hx2 hst hfp (F.keeps hx₂) (N.grown hx₂)
    (Nat.ne_of_gt F.ns.lt) (next_is_new F) (fun p hp => Nat.ne_of_lt (Heap.lt_size (N p hp).1)) hJ (fun i v ys led₁ oI C oC D m₂ h tk => turn i v ys led₁ _ oI C oC D m₂ h tk) ?_
  intro D C h tk m' ys led' F' N' o1 hn hC₀ hD₀ hCL hDL hCD offC hJ'
  refine ⟨m', hn, fun h'' hs'' => fin D h'' tk ys led' (F'.change hs'' hCL hC₀) (fun p hp => ?_) o1 hJ'⟩
  refine ⟨hs''.extBut _ _ ?_ (N' p hp).1, (N' p hp).2⟩
  rcases List.mem_cons.mp hp with rfl | hp
  · exact Ne.symm hCD
  · exact offC p hp
end
end Mine
namespace Mine
open PySem PySem.W PyProof.Rows PySem.Calls PySem.Spec
set_option maxHeartbeats 8000000
-- MAC1
local macro_rules | `(tactic| units_room) => `(tactic| (have q9 := Gd.hu (by assumption); simp only [units_deeper, units_in1] at *; omega))
local macro_rules | `(tactic| k_units) => `(tactic| units_room)
local macro_rules
  | `(tactic| walk_at "call ref") => `(tactic| refine halt ?_)
  | `(tactic| walk_at "execs cons") => `(tactic| ((try dsimp only); refine wpAny_execs_cons ?_))
-- END
section TC1
set_option maxRecDepth 100000
set_option maxHeartbeats 8000000
theorem fillF1 (w : World) : PySem.Challenge.rw_oy0037_01.row.prog = PySem.Challenge.rw_oy0037_01.row.prog ∧ hd.heap_1 w.params = hd.heap_1 w.params := by
  k_fill
  exact ⟨rfl, rfl⟩

theorem above_eq {a b : Str} (h : (a == b) = true) : (!decide ([cmpI a b, cmpI b a] = [0, 0])) = decide (b.cps.toList < a.cps.toList) := by
  have e : a = b := eq_of_beq h
  subst e
  have : ¬ a.cps.toList < a.cps.toList := List.lt_irrefl _
  simp [cmpI, this, b2i]
theorem above_ne {a b : Str} (h : (a == b) = false) : decide ([cmpI a b, cmpI b a] = [1, -1]) = decide (b.cps.toList < a.cps.toList) := by
  by_cases h1 : b.cps.toList < a.cps.toList
  · have h2 : ¬ a.cps.toList < b.cps.toList := fun h2 => List.lt_irrefl _ (List.lt_trans h1 h2)
    simp [cmpI, h1, h2, b2i]
  · simp [cmpI, h1, b2i]
    intro h2
    split at h2 <;> simp at h2
theorem c_above (w : World) {A : Around} {s : Shared} {p : Program} {loose : List Str} {mean : ExcName → Option Value} {mg mb : Str → Option Value} (G : Gd w A p loose mean mg mb s.heap 8 300)
  {a b : Str} {t u : Tok} {Q E : Value → Shared → Prop} (hq : ∀ h' tk', Ext s.heap h' → Q (.bool (decide (b.cps.toList < a.cps.toList))) { s with heap := h', toks := tk' }) :
  wpAny (model PySem.Challenge.rw_oy0037_01.row.prog w) A (call (.ref 136) [.str a t, .str b u]) Q E s := by
  obtain ⟨hh, dp, fr, gd, un⟩ := A
  have hh0 : hh = none := G.hh
  subst hh0
  have X : (hd.heap_1 w.params).In s.heap := G.X
  have T := G.T
  have hdp := G.hd
  refine enter (K := hd.heap_1 w.params) (args := ⟨[.str a t, .str b u], []⟩) (P := fun v h' => v = .bool (decide (b.cps.toList < a.cps.toList))) X T.nolimit (by k_dflt k_is) (by k_dflt k_is) (by first | omega | (show dp < _; have q : dp + _ < _ := hdp; omega)) (BindsTo.of_eq rfl) (locs rfl) (by decide) ?_ ?_
  · intro h₁ tk F
    have N : News s.heap s.heap.objs.size h₁ [] := News.nil
    k_steps
    (rename Fr _ _ _ _ => fX); (rename News _ _ _ _ => nX)
    unfold Halt
    refine c_strcoll w (G.sub fX) ?_
    intro tr' h' tk' hx'
    have F' := Fr.keeps fX hx'
    have N' := News.grown nX hx'
    clear hx' fX nX
    k_steps
    (rename Fr _ _ _ _ => fX); (rename News _ _ _ _ => nX)
    unfold Halt
    refine c_strcoll w (G.sub fX) ?_
    intro tr2' h2' tk2' hx'
    have F' := Fr.keeps fX hx'
    have N' := News.grown nX hx'
    clear hx' fX nX
    k_steps
    · exact PR.intro (by assumption) (congrArg Value.bool (above_eq (by assumption)))
    · exact PR.intro (by assumption) (congrArg Value.bool (above_ne (by assumption)))
  · rintro v h' tk' hx rfl
    exact hq h' tk' hx
end TC1
section TC2
set_option maxRecDepth 100000
set_option maxHeartbeats 8000000
set_option rowWalk.seconds 0
theorem fillF_C2 (w : World) : PySem.Challenge.rw_oy0037_01.row.prog = PySem.Challenge.rw_oy0037_01.row.prog ∧ hd.heap_1 w.params = hd.heap_1 w.params := by
  k_fill
  exact ⟨rfl, rfl⟩
local macro_rules
  | `(tactic| walk_at "exec For Name Tuple cons nil") => `(tactic| k_dflt (refine for_start ?_))
  | `(tactic| walk_at "binaryOp FloorDiv int int") => `(tactic| refine floordiv_int (by first | decide | assumption) ?_ (Or.inl (PyProof.noPylong_small (by first | decide | assumption))))

theorem fr_one {h₀ h : Heap} {L : Addr} {m : Str → Option Value} {a : Str} {v : Value} (F : Fr h₀ L h m) (hm : ∀ y, m y = List.lookup y [(a, v)]) : Fr h₀ L h (fun y => if y = a then some v else none) := by
  have e : m = (fun y => if y = a then some v else none) := by
    funext y
    rw [hm, List.lookup_cons, List.lookup_nil]
    by_cases q : y = a
    · rw [if_pos q, q, beq_self_eq_true]
    · rw [if_neg q, beq_eq_false_iff_ne.mpr q]
  exact e ▸ F
theorem news_one {h₀ h : Heap} {L : Addr} {p : Addr × Obj} {r : List (Addr × Obj)} (N : News h₀ L h (p :: r)) : News h₀ L h [p] := fun q hq => N q (List.mem_singleton.mp hq ▸ .head _)
theorem news_led {h₀ h : Heap} {L : Addr} {p : Addr × Obj} {r : List (Addr × Obj)} {g : Prop} (N : News h₀ L h (p :: r)) (k : ∀ l, p ∈ l → News h₀ L h l → g) : g := k [p] (.head _) (news_one N)
noncomputable def IntPost (s : Shared) (x : Int) (v : Value) (s₂ : Shared) : Prop := (∃ t, v = .int x t) ∧ ∃ tk, s₂ = { s with toks := tk }
noncomputable def IfPost (M : Model) (A : Around) (body orelse : PySem.Expr) (env : Env) (s : Shared) (c : Bool) (x y : Int) (b : Bool) (s₁ : Shared) : Prop :=
  b = c ∧ (∃ tk, s₁ = { s with toks := tk }) ∧ wpAny M A (eval body env) (IntPost s x) (fun _ _ => False) s₁ ∧ wpAny M A (eval orelse env) (IntPost s y) (fun _ _ => False) s₁
theorem IfPost.mk {M : Model} {A : Around} {body orelse : PySem.Expr} {env : Env} {s : Shared} {c : Bool} {x y : Int} {tk : Nat}
    (h1 : wpAny M A (eval body env) (IntPost s x) (fun _ _ => False) { s with toks := tk }) (h2 : wpAny M A (eval orelse env) (IntPost s y) (fun _ _ => False) { s with toks := tk }) : IfPost M A body orelse env s c x y c { s with toks := tk } :=
  ⟨rfl, ⟨_, rfl⟩, h1, h2⟩
theorem IntPost.mk {s : Shared} {x : Int} {t : Tok} {tk : Nat} : IntPost s x (.int x t) { s with toks := tk } := ⟨⟨_, rfl⟩, _, rfl⟩
theorem ifexp_join {M : Model} {A : Around} {s : Shared} {test body orelse : PySem.Expr} {pos : Pos} {env : Env} {Q E : Value → Shared → Prop} {c : Bool} {x y : Int}
    (ht : wpAny M A (isTrue test env (eval test env)) (IfPost M A body orelse env s c x y) (fun _ _ => False) s)
    (h : ∀ t tk, Q (.int (if c then x else y) t) { s with toks := tk }) : wpAny M A (eval (.IfExp test body orelse pos) env) Q E s := by
  refine wpAny_IfExp ?_
  refine wpAny_mono ht ?_ (fun _ _ hf => hf.elim)
  rintro b s₁ ⟨rfl, ⟨tk, rfl⟩, h1, h2⟩
  cases b with
  | true =>
    simp only [if_true] at h ⊢
    refine wpAny_mono h1 ?_ (fun _ _ hf => hf.elim)
    rintro v s₂ ⟨⟨t, rfl⟩, tk2, rfl⟩
    exact h t tk2
  | false =>
    simp only [Bool.false_eq_true, if_false] at h ⊢
    refine wpAny_mono h2 ?_ (fun _ _ hf => hf.elim)
    rintro v s₂ ⟨⟨t, rfl⟩, tk2, rfl⟩
    exact h t tk2
local macro_rules | `(tactic| walk_at "eval IfExp") => `(tactic| k_dflt ((refine' ifexp_join ?ht ?_); (case ht => (k_steps; (refine' IfPost.mk ?h1 ?h2); (case h1 => (k_steps; exact IntPost.mk)); (case h2 => (k_steps; exact IntPost.mk)))); (intro t9 tk9; (try dsimp only))))

noncomputable def kindTab : List Int := [1, 6, 3, 1, 4, 1, 2, 1, 0, 1, 5, 1, 7, 1, 1, 1]
noncomputable def numStep (m n : Int) (place : Int) : Int :=
  n * 16 + ((m.fdiv (8 ^ place.toNat)).fmod 8).fdiv 2 * 4 + (if (((m.fdiv (8 ^ place.toNat)).fmod 8).fmod 2 == 1) = true then 3 - ((m.fdiv 512).fdiv (2 ^ place.toNat)).fmod 2 else ((m.fdiv 512).fdiv (2 ^ place.toNat)).fmod 2)
noncomputable def numberOf (m : Int) : Int := numStep m (numStep m (numStep m (kindTab.getD ((m.fdiv 4096).fmod 16).toNat 0) 2) 1) 0
/-- the number after so many places -/
noncomputable def numAt (m : Int) : Nat → Int
  | 0 => kindTab.getD ((m.fdiv 4096).fmod 16).toNat 0
  | i + 1 => numStep m (numAt m i) (2 - (i : Int))
theorem numAt_three (m : Int) : numAt m 3 = numberOf m := rfl
inductive NT (m : Int) (t : Tok) (led0 : List (Addr × Obj)) (i : Nat) (m' : Str → Option Value) (led : List (Addr × Obj)) : Prop
  | mk (tn : Tok) (vA vR vP : Option Value) (hl : led = led0) (hm : m' = (fun y => if y = Str.ofString "number" then some (.int (numAt m i) tn) else if y = Str.ofString "above" then vA else if y = Str.ofString "rights" then vR else if y = Str.ofString "place" then vP else if y = Str.ofString "mode" then some (.int m t) else none)) : NT m t led0 i m' led
theorem map_nt (n n' a a' r r' p p' : Option Value) (z : Str → Option Value) : (fun y => if y = Str.ofString "number" then n else if y = Str.ofString "above" then a else if y = Str.ofString "rights" then r else if y = Str.ofString "place" then p else if y = Str.ofString "number" then n' else if y = Str.ofString "above" then a' else if y = Str.ofString "rights" then r' else if y = Str.ofString "place" then p' else z y) =
    (fun y => if y = Str.ofString "number" then n else if y = Str.ofString "above" then a else if y = Str.ofString "rights" then r else if y = Str.ofString "place" then p else z y) := by
  funext y
  by_cases e1 : y = Str.ofString "number"
  · simp only [if_pos e1]
  · by_cases e2 : y = Str.ofString "above"
    · simp only [if_neg e1, if_pos e2]
    · by_cases e3 : y = Str.ofString "rights"
      · simp only [if_neg e1, if_neg e2, if_pos e3]
      · by_cases e4 : y = Str.ofString "place"
        · simp only [if_neg e1, if_neg e2, if_neg e3, if_pos e4]
        · simp only [if_neg e1, if_neg e2, if_neg e3, if_neg e4]
theorem map_n0 (n v : Option Value) : (fun y => if y = Str.ofString "number" then n else if y = Str.ofString "mode" then v else none) =
    (fun y => if y = Str.ofString "number" then n else if y = Str.ofString "above" then none else if y = Str.ofString "rights" then none else if y = Str.ofString "place" then none else if y = Str.ofString "mode" then v else none) := by
  funext y
  by_cases e2 : y = Str.ofString "above"
  · subst e2; rfl
  · by_cases e3 : y = Str.ofString "rights"
    · subst e3; rfl
    · by_cases e4 : y = Str.ofString "place"
      · subst e4; rfl
      · simp only [if_neg e2, if_neg e3, if_neg e4]
theorem pow_small {b : Int} (hb : b = 2 ∨ b = 8) {p : Int} (h0 : 0 ≤ p) (h2 : p ≤ 2) : (b ^ p.toNat).natAbs < 1073741824 ∧ b ^ p.toNat ≠ 0 := by
  have : p = 0 ∨ p = 1 ∨ p = 2 := by omega
  rcases hb with rfl | rfl <;> rcases this with rfl | rfl | rfl <;> decide
theorem place_at {a b c : Tok} {i : Nat} {v : Value} (h : (#[Value.int 2 a, Value.int 1 b, Value.int 0 c] : Array Value)[i]? = some v) : ∃ t, v = .int (2 - (i : Int)) t ∧ i < 3 := by
  match i, h with
  | 0, h => exact ⟨a, (Option.some.inj h).symm, by decide⟩
  | 1, h => exact ⟨b, (Option.some.inj h).symm, by decide⟩
  | 2, h => exact ⟨c, (Option.some.inj h).symm, by decide⟩
  | _ + 3, h => simp at h
theorem c_number (w : World) {A : Around} {s : Shared} {p : Program} {loose : List Str} {mean : ExcName → Option Value} {mg mb : Str → Option Value} (G : Gd w A p loose mean mg mb s.heap 8 300)
  {m : Int} (h0 : 0 ≤ m) (h1 : m < 16777216) {t : Tok} {Q E : Value → Shared → Prop} (hq : ∀ tr h' tk', Ext s.heap h' → Q (.int (numberOf m) tr) { s with heap := h', toks := tk' }) :
  wpAny (model PySem.Challenge.rw_oy0037_01.row.prog w) A (call (.ref 119) [.int m t]) Q E s := by
  obtain ⟨hh, dp, fr, gd, un⟩ := A
  have hh0 : hh = none := G.hh
  subst hh0
  have X : (hd.heap_1 w.params).In s.heap := G.X
  have T := G.T
  have hdp := G.hd
  refine enter (K := hd.heap_1 w.params) (args := ⟨[.int m t], []⟩) (P := fun v h' => ∃ tr, v = .int (numberOf m) tr) X T.nolimit (by k_dflt k_is) (by k_dflt k_is) (by show dp < _; have q : dp + _ < _ := hdp; omega) (BindsTo.of_eq rfl) (locs rfl) (by decide) ?_ ?_
  · intro h₁ tk F
    have N : News s.heap s.heap.objs.size h₁ [] := News.nil
    replace F := fr_one (a := Str.ofString "mode") (v := .int m t) F (fun _ => rfl)
    k_steps
    (rename Fr _ _ _ _ => FX); (rename News _ _ _ _ => NX)
    refine news_led NX fun l0 hmem N1 => ?_
    clear NX
    refine for_inv (NT m t l0) (Source.tuple rfl ⟨_, (N1 _ hmem).1, rfl, _, rfl⟩) FX N1 ?_ ?_ ?_ ?_
    · exact ⟨_, none, none, none, rfl, map_n0 _ _⟩
    · rintro i h' m' led' F' N' ⟨tn, vA, vR, vP, rfl, _⟩
      exact ⟨_, (N' _ hmem).1, rfl, _, rfl⟩
    · intro i v m₁ led₁ h tk I oI hi hv hJJ F2 N2 off
      refine gen_turn fun QQ hQQ => ?_
      obtain ⟨tp, rfl, hi3⟩ := place_at hv
      refine gen_goal fun GG hGG => ?_
      obtain ⟨tn, vA, vR, vP, rfl, rfl⟩ := hJJ
      clear FX N1
      refine hGG ?_
      clear hGG
      obtain ⟨p, hp⟩ : ∃ p : Int, p = 2 - (i : Int) := ⟨_, rfl⟩
      have e : numStep m (numAt m i) p = numAt m (i + 1) := by rw [hp]; rfl
      rw [← hp]
      have hp0 : 0 ≤ p := by omega
      have hp2 : p ≤ 2 := by omega
      have h8a := (pow_small (b := 8) (.inr rfl) hp0 hp2).1
      have h8b := (pow_small (b := 8) (.inr rfl) hp0 hp2).2
      have h2a := (pow_small (b := 2) (.inl rfl) hp0 hp2).1
      have h2b := (pow_small (b := 2) (.inl rfl) hp0 hp2).2
      clear hi hi3
      k_steps
      (rename Fr _ _ _ _ => FE); (rename News _ _ _ _ => NE)
      rw [map_nt] at FE
      exact hQQ _ _ (FTurn.next FE NE (fun _ hp => hp) off ⟨_, _, _, _, rfl, by rw [← e]; rfl⟩)
    · rintro m₁ led₁ h tk ⟨tn, vA, vR, vP, rfl, rfl⟩ F2 N2
      clear FX N1
      dsimp only
      k_steps
      exact PR.intro (by assumption) ⟨_, rfl⟩
  · rintro v h' tk' hx ⟨tr, rfl⟩
    exact hq tr h' tk' hx
end TC2
set_option maxHeartbeats 8000000
-- MAC2
local macro_rules
  | `(tactic| walk_at "eval ListComp") => `(tactic| k_dflt (refine lc_start (by with_unfolding_all rfl) (by rfl) (by decide) ?_))
  | `(tactic| walk_at "exec Assign cons ListComp") => `(tactic| k_dflt (refine lc_startA (by with_unfolding_all rfl) (by with_unfolding_all rfl) (by rfl) (by decide) ?_))
  | `(tactic| walk_at "exec For Name Name cons nil") => `(tactic| k_dflt (refine for_start ?_))
  | `(tactic| walk_at "exec For Name Call cons nil") => `(tactic| k_dflt (refine for_start ?_))
  | `(tactic| walk_at "exec For Tuple Call cons nil") => `(tactic| k_dflt (refine for_start ?_))
  | `(tactic| walk_at "call builtin:len") => `(tactic| k_dflt (refine len_led (by k_asm) (by k_mem) (by assumption) (by omega) ?_))
local macro_rules | `(tactic| k_ne) => `(tactic| (refine neN ?_; (try dsimp only); first | exact NeF.out (by assumption) | exact NeF.symm (by assumption) | fail "k_ne"))
-- END
section TC3
set_option maxRecDepth 100000
set_option maxHeartbeats 8000000
set_option rowWalk.seconds 0
open LCg (NsObj lst Off3 Off1)
theorem fillF_C3 (w : World) : PySem.Challenge.rw_oy0037_01.row.prog = PySem.Challenge.rw_oy0037_01.row.prog ∧ hd.heap_1 w.params = hd.heap_1 w.params := by
  k_fill
  exact ⟨rfl, rfl⟩

local macro_rules | `(tactic| walk_at "binaryOp FloorDiv int int") => `(tactic| refine floordiv_int (by first | decide | assumption) ?_ (Or.inl (PyProof.noPylong_small (by first | omega | assumption))))
noncomputable def b64L : List UInt8 := [65, 66, 67, 68, 69, 70, 71, 72, 73, 74, 75, 76, 77, 78, 79, 80, 81, 82, 83, 84, 85, 86, 87, 88, 89, 90, 97, 98, 99, 100, 101, 102, 103, 104, 105, 106, 107, 108, 109, 110, 111, 112, 113, 114, 115, 116, 117, 118, 119, 120, 121, 122, 48, 49, 50, 51, 52, 53, 54, 55, 56, 57, 43, 47]
noncomputable def signAt (k : Int) : Int := ((b64L.getD k.toNat 0).toNat : Int)
noncomputable def cardAt (m : Int) (pl : Int) : Int := signAt ((m.fdiv (64 ^ pl.toNat)).fmod 64)
noncomputable def cardInts (m : Int) : List Int := [cardAt m 3, cardAt m 2, cardAt m 1, cardAt m 0]

theorem c_card (w : World) {A : Around} {s : Shared} {p : Program} {loose : List Str} {mean : ExcName → Option Value} {mg mb : Str → Option Value} (G : Gd w A p loose mean mg mb s.heap 8 300)
  {m : Int} (h0 : 0 ≤ m) (h1 : m < 16777216) {t : Tok} {Q E : Value → Shared → Prop}
  (hq : ∀ D ys h' tk', Ext s.heap h' → s.heap.get? D = none → h'.get? D = some (lst ys) → IntsAre ys (cardInts m) → Q (.ref D) { s with heap := h', toks := tk' }) :
  wpAny (model PySem.Challenge.rw_oy0037_01.row.prog w) A (call (.ref 124) [.int m t]) Q E s := by
  obtain ⟨hh, dp, fr, gd, un⟩ := A
  have hh0 : hh = none := G.hh
  subst hh0
  have X : (hd.heap_1 w.params).In s.heap := G.X
  have T := G.T
  have hdp := G.hd
  refine enterC (K := hd.heap_1 w.params) (args := ⟨[.int m t], []⟩) (P := fun v h' => ∃ D ys, v = .ref D ∧ s.heap.get? D = none ∧ h'.get? D = some (lst ys) ∧ IntsAre ys (cardInts m)) X T.nolimit (by k_dflt k_is) (by k_dflt k_is) (by show dp < _; have q : dp + _ < _ := hdp; omega) (BindsTo.of_eq rfl) (by rfl) (by decide +kernel) ?_ ?_
  · intro L h₁ tk cells F N Y
    k_cells Y
    k_steps
    rename_i F' N' _
    refine lc_map (fun i ys => IntsAre ys ((cardInts m).take i)) (Source.tuple rfl ⟨_, News.get N' (by k_mem), rfl, _, rfl⟩) (by simp [sizeLine]) (by decide) rfl rfl F' N' .nil ?_ ?_ ?_
    · intro h' F2 N2
      exact ⟨_, News.get N2 (by k_mem), rfl, _, rfl⟩
    · intro i v ys I oI C oC D m₂ h tk Q1 hi hP hys hoC hx F2 N2 off ne hQ1
      clear N' F'
      obtain ⟨pl, t9, rfl, hpl0, hpl3, hpl⟩ : ∃ pl t9, v = Value.int pl t9 ∧ 0 ≤ pl ∧ pl ≤ 3 ∧ (cardInts m)[i]? = some (cardAt m pl) := by
        rcases i with _ | _ | _ | _ | i
        · cases hP; exact ⟨_, _, rfl, by decide, by decide, rfl⟩
        · cases hP; exact ⟨_, _, rfl, by decide, by decide, rfl⟩
        · cases hP; exact ⟨_, _, rfl, by decide, by decide, rfl⟩
        · cases hP; exact ⟨_, _, rfl, by decide, by decide, rfl⟩
        · exact absurd hi (by simp)
      have hz2 : ((64 : Int) ^ pl.toNat).natAbs < 1073741824 := by
        have : pl = 0 ∨ pl = 1 ∨ pl = 2 ∨ pl = 3 := by omega
        rcases this with rfl | rfl | rfl | rfl <;> decide
      have hz : (64 : Int) ^ pl.toNat ≠ 0 := Int.ne_of_gt (Int.pow_pos (by decide))
      k_steps
      refine hQ1 _ _ _ _ F2 N2 (fun _ hp => hp) ?_
      rw [List.take_add_one, hpl]
      exact ksk_snoc hys
    · intro D h tk ys F2 N2 _ hys
      exact PR.intro F2 ⟨D, ys, rfl, (N2 _ (.head _)).2.2, (N2 _ (.head _)).1, hys⟩
  · rintro v h' tk' hx ⟨D, ys, rfl, h1, h2, h3⟩
    exact hq D ys h' tk' hx h1 h2 h3
end TC3
section TC4
set_option maxRecDepth 100000
set_option maxHeartbeats 8000000
set_option rowWalk.seconds 0
open LCg (NsObj lst Off3 Off1)
theorem fillF_T8 (w : World) : PySem.Challenge.rw_oy0037_01.row.prog = PySem.Challenge.rw_oy0037_01.row.prog ∧ hd.heap_1 w.params = hd.heap_1 w.params := by
  k_fill
  exact ⟨rfl, rfl⟩

inductive JOut (L al am : Addr) (oL oT : Obj) (xs : List Str) (ord : List Int) (m0 : Str → Option Value) (i : Nat) (m : Str → Option Value) (led : List (Addr × Obj)) : Prop
  | mk (P Q : List (List Int)) (R R' : List (Addr × Obj)) (nl nm : Nat) (oK oG : Obj) (vK vG u1 u2 u3 : Option Value) (hl : led = (am, W.listOf (refsOf R').toArray nm) :: (al, W.listOf (refsOf R).toArray nl) :: (L + 1 + 1 + 1 + 1, oK) :: (L + 1 + 1 + 1, oG) :: (L + 1 + 1, oL) :: (L + 1, oT) :: (R ++ R'))
    (dK : oK.data = .cell vK) (dG : oG.data = .cell vG) (TO : TailOk L al am i xs.length R R' P Q) (hPQ : (P, Q) = linesOf (abT xs) (ord.take i))
    (hm : m = (fun y => if y = Str.ofString "newest" then u1 else if y = Str.ofString "spots" then u2 else if y = Str.ofString "there" then u3 else m0 y)) : JOut L al am oL oT xs ord m0 i m led
inductive JIn (L al am : Addr) (oL oT : Obj) (xs : List Str) (b : Nat) (P0 Q0 : List (List Int)) (x : Int) (Io : Addr) (oIo : Obj) (m0 : Str → Option Value) (j : Nat) (m : Str → Option Value) (led : List (Addr × Obj)) : Prop
  | mk (P : List (List Int)) (g : Int) (tg : Tok) (R R' : List (Addr × Obj)) (nl nm : Nat) (oK oG : Obj) (vK u2 u3 : Option Value) (hl : led = (Io, oIo) :: (am, W.listOf (refsOf R').toArray nm) :: (al, W.listOf (refsOf R).toArray nl) :: (L + 1 + 1 + 1 + 1, oK) :: (L + 1 + 1 + 1, oG) :: (L + 1 + 1, oL) :: (L + 1, oT) :: (R ++ R'))
    (dK : oK.data = .cell vK) (dG : oG.data = .cell (some (.int g tg))) (TO : TailOk L al am b xs.length R R' P Q0) (off : OwnOff (R ++ R') [Io]) (hg : 0 ≤ g ∧ g < (xs.length : Int)) (ok : InnerOk (abT xs) P0 x P g j)
    (hm : m = (fun y => if y = Str.ofString "spots" then u2 else if y = Str.ofString "there" then u3 else m0 y)) : JIn L al am oL oT xs b P0 Q0 x Io oIo m0 j m led
local macro_rules | `(tactic| walk_at "exec If") => `(tactic| refine halt ?_)
inductive MidP (s : Shared) (h₀ : Heap) (L al am Io Ii : Addr) (oIo oIi oL oT oK oG : Obj) (b n j : Nat) (P Q : List (List Int)) (m : Str → Option Value) (f : Flow) (s' : Shared) : Prop
  | mk (hf : f = .next) (h : Heap) (tk : Nat) (P1 Q1 : List (List Int)) (R R' : List (Addr × Obj)) (nl nm : Nat) (hs : s' = { s with heap := h, toks := tk }) (F : Fr h₀ L h m)
    (N : News h₀ L h ((Ii, oIi) :: (Io, oIo) :: (am, W.listOf (refsOf R').toArray nm) :: (al, W.listOf (refsOf R).toArray nl) :: (L + 1 + 1 + 1 + 1, oK) :: (L + 1 + 1 + 1, oG) :: (L + 1 + 1, oL) :: (L + 1, oT) :: (R ++ R')))
    (TO : TailOk L al am (b + 1) n R R' P1 Q1) (off : OwnOff (R ++ R') [Io, Ii]) (hc : (P1 = P ∧ Q1 = Q ∧ j < P.length) ∨ (j = P.length ∧ P1 = P ++ [[]] ∧ Q1 = Q ++ [[]])) : MidP s h₀ L al am Io Ii oIo oIi oL oT oK oG b n j P Q m f s'
theorem item_text {prog : Program} {w : World} {A : Around} {E : Value → Shared → Prop} {s : Shared} {h₀ : Heap} {L : Addr} {m : Str → Option Value} {value slice : PySem.Expr} {l : Addr} {vt : List Value} {xs : List Str} {k : Int} {u : Tok} {Q : Value → Shared → Prop}
    (F : Fr h₀ L s.heap m) (hl : h₀.IsList l vt.toArray) (hi : StrsAre vt xs) (h0 : 0 ≤ k) (h1 : k < (xs.length : Int)) (hb : xs.length ≤ 64) (h : ∀ t, Q (.str (xs.getD k.toNat ⟨#[]⟩) t) s)
    (hs : subscripted slice false (.ref l) (.int k u) = operate [.ref l, .int k u] (getItem (.ref l) (.int k u)) := by with_unfolding_all rfl) :
    wpAny (model prog w) A (subscriptTail value slice (.ref l) (.int k u)) Q E s := by
  have hk : k.toNat < xs.length := by omega
  obtain ⟨t, ht⟩ := hi.get k.toNat xs[k.toNat] (List.getElem?_eq_getElem hk)
  have e : xs.getD k.toNat ⟨#[]⟩ = xs[k.toNat] := by simp [List.getD, List.getElem?_eq_getElem hk]
  refine item_base F hl h0 (by omega) (x := .str xs[k.toNat] t) (by simpa using ht) ?_ hs
  rw [← e]; exact h t
local macro_rules | `(tactic| k_mem) => `(tactic| assumption)
local macro_rules | `(tactic| walk_at "subscriptTail Name Name ref int") => `(tactic| k_dflt (refine item_led (by k_asm) (by k_mem) (by omega) (by omega) (by assumption) ?_))
local macro_rules | `(tactic| walk_at "subscriptTail Name Name ref int") => `(tactic| (k_dflt (refine item_text (by k_asm) (by assumption) (by assumption) (by omega) (by omega) (by assumption) ?_); intro _))
local macro_rules | `(tactic| walk_at "subscriptTail Name Subscript") => `(tactic| (k_dflt (refine item_text (by k_asm) (by assumption) (by assumption) (by omega) (by omega) (by assumption) ?_); intro _))
local macro_rules | `(tactic| walk_at "subscriptTail Subscript") => `(tactic| (k_dflt (refine ksa_sub (by k_asm) (by k_mem) (by assumption) (by omega) (by omega) (by omega) ?_); intro _))
noncomputable def spotI (xs : List Str) (r : List Int) (g : Int) (t : Nat) : List Int := ((List.range t).filter (fun q => abT xs (r.getD q 0) g)).map (fun n : Nat => (n : Int))
theorem spotI_succ (xs : List Str) (r : List Int) (g : Int) (t : Nat) : spotI xs r g (t + 1) = if abT xs (r.getD t 0) g then spotI xs r g t ++ [(t : Int)] else spotI xs r g t := by
  unfold spotI
  rw [List.range_succ, List.filter_append, List.map_append]
  have e : List.filter (fun q => abT xs (r.getD q 0) g) [t] = if abT xs (r.getD t 0) g then [t] else [] := by
    rw [List.filter_cons, List.filter_nil]
  rw [e]
  cases h : abT xs (r.getD t 0) g
  · simp
  · simp
theorem LcT.by {prog : Program} {w : World} {A : Around} {h₀ : Heap} {L : Addr} {m : Str → Option Value} {s : Shared} {I : Addr} {oI : Obj} {C : Addr} {oC : Obj} {D : Addr} {oD : Obj} {elt : PySem.Expr} {cenv : Env} {J0 : List (Addr × Obj) → Prop} {J1 : Value → List (Addr × Obj) → Prop} (b : Bool) {s₃ : Shared}
    (h0 : b = false → LcE h₀ L m s I oI C oC D oD (fun _ led => J0 led) .none s₃) (h1 : b = true → wpAny (model prog w) A (eval elt cenv) (LcE h₀ L m s I oI C oC D oD J1) (fun _ _ => False) s₃) :
    LcT prog w A h₀ L m s I oI C oC D oD elt cenv J0 J1 b s₃ := by
  cases b with
  | false => exact h0 rfl
  | true => exact h1 rfl
local macro_rules | `(tactic| walk_at "ite") => `(tactic| k_dflt (first | refine PySem.W.ite_neg (by simp; done) ?_ | refine PySem.W.ite_pos (by simp; done) ?_))
local macro_rules | `(tactic| walk_at "subscriptTail Name Constant ref int") => `(tactic| k_dflt (refine item_led (by k_asm) (by k_mem) (by decide) (by decide) (by rfl) ?_))
theorem off1_mem {D : Addr} : ∀ {l : List (Addr × Obj)}, Off1 D l → ∀ p ∈ l, @Ne Nat p.1 D
  | [], _, _, h => nomatch h
  | _ :: _, x, p, h => by
    rcases List.mem_cons.mp h with rfl | h
    · exact x.1
    · exact off1_mem x.2 p h
theorem ne10 {r a1 a2 a3 a4 a5 a6 a7 a8 a9 a10 : Addr} {o1 o2 o3 o4 o5 o6 o7 o8 o9 o10 : Obj} (h1 : @Ne Nat r a1) (h2 : @Ne Nat r a2) (h3 : @Ne Nat r a3) (h4 : @Ne Nat r a4) (h5 : @Ne Nat r a5) (h6 : @Ne Nat r a6) (h7 : @Ne Nat r a7) (h8 : @Ne Nat r a8) (h9 : @Ne Nat r a9) (h10 : @Ne Nat r a10) :
    ∀ p ∈ [(a1, o1), (a2, o2), (a3, o3), (a4, o4), (a5, o5), (a6, o6), (a7, o7), (a8, o8), (a9, o9), (a10, o10)], p.1 ≠ r := by
  intro p hp
  simp only [List.mem_cons, List.not_mem_nil, or_false] at hp
  rcases hp with rfl | rfl | rfl | rfl | rfl | rfl | rfl | rfl | rfl | rfl
  · exact Ne.symm h1
  · exact Ne.symm h2
  · exact Ne.symm h3
  · exact Ne.symm h4
  · exact Ne.symm h5
  · exact Ne.symm h6
  · exact Ne.symm h7
  · exact Ne.symm h8
  · exact Ne.symm h9
  · exact Ne.symm h10
structure Hid9 (p : Prop) : Prop where
  mk ::
  out : p
theorem neOfs {R : List (Addr × Obj)} (r lX : Addr) {o : Obj} {a b c d e f g h i : Prop} (l1 : a ∧ b ∧ c ∧ d ∧ e ∧ f ∧ g ∧ h ∧ i ∧ AllLt lX R) (hm : (r, o) ∈ R) : @Ne Nat r lX ∧ True :=
  ⟨Nat.ne_of_lt (allLt_all _ l1.2.2.2.2.2.2.2.2.2 _ hm), trivial⟩
/-- what _law_lines leaves -/
inductive LinesPost (h₀ h' : Heap) (v : Value) (P Q : List (List Int)) : Prop
  | mk (a al am : Addr) (R R' : List (Addr × Obj)) (nl nm : Nat) (hv : v = .ref a) (hR : RowsAt R P) (hR' : RowsAt R' Q) (hn : ∀ p ∈ (a, W.listOf #[.ref al, .ref am] 0) :: (am, W.listOf (refsOf R').toArray nm) :: (al, W.listOf (refsOf R).toArray nl) :: (R ++ R'), h'.get? p.1 = some p.2 ∧ h₀.get? p.1 = none) : LinesPost h₀ h' v P Q
theorem c_lines (w : World) {A : Around} {s : Shared} {p : Program} {loose : List Str} {mean : ExcName → Option Value} {mg mb : Str → Option Value} (G : Gd w A p loose mean mg mb s.heap 12 500)
  {ao att : Addr} {vo vt : List Value} {ord : List Int} {xs : List Str} (ho : s.heap.IsList ao vo.toArray) (hio : IntsAre vo ord) (htx : s.heap.IsList att vt.toArray) (hit : StrsAre vt xs)
  (hr : ∀ o ∈ ord, 0 ≤ o ∧ o < xs.length) (ho6 : ord.length ≤ 6) (hx6 : xs.length ≤ 64)
   {Q E : Value → Shared → Prop} (hq : ∀ v h' tk', Ext s.heap h' → LinesPost s.heap h' v (linesOf (abT xs) ord).1 (linesOf (abT xs) ord).2 → Q v { s with heap := h', toks := tk' }) :
  wpAny (model PySem.Challenge.rw_oy0037_01.row.prog w) A (call (.ref 141) [.ref ao, .ref att]) Q E s := by
  obtain ⟨hh, dp, fr, gd, un⟩ := A
  have hh0 : hh = none := G.hh
  subst hh0
  have X : (hd.heap_1 w.params).In s.heap := G.X
  have T := G.T
  have hdp := G.hd
  refine enterC (K := hd.heap_1 w.params) (args := ⟨[.ref ao, .ref att], []⟩) (P := fun v h' => LinesPost s.heap h' v (linesOf (abT xs) ord).1 (linesOf (abT xs) ord).2) X T.nolimit (by k_dflt k_is) (by k_dflt k_is) (by show dp < _; have q : dp + _ < _ := hdp; omega) (BindsTo.of_eq rfl) (by rfl) (by decide +kernel) ?_ ?_
  · intro L h₁ tk cells F N Y
    obtain ⟨o1, o2, o3, o4, hE, d1, d2, d3, d4⟩ := CellsAre.four Y
    subst hE
    clear Y
    replace d1 : o1.data = .cell none := d1
    replace d2 : o2.data = .cell none := d2
    replace d3 : o3.data = .cell none := d3
    replace d4 : o4.data = .cell (some (.ref att)) := d4
    have F0 : Fr s.heap L h₁ (fun y => if y = Str.ofString "order" then some (.ref ao) else none) := by
      exact F
    clear F
    k_steps
    rename_i al _ l1 _ oL dL am _ l2 h5 F' N'
    refine for_inv (JOut L al am oL o4 xs ord (fun y => if y = Str.ofString "marks" then some (Value.ref am) else if y = Str.ofString "order" then some (Value.ref ao) else none)) (Source.list rfl (ho.at fun o e => F'.keep _ o e)) F' N' ?_ ?_ ?_ ?_
    · refine ⟨[], [], [], [], 0, 0, o1, o2, _, _, none, none, none, rfl, d1, d2, ⟨⟨rfl, fun i p r h => nomatch h⟩, ⟨rfl, fun i p r h => nomatch h⟩, rfl, List.nodup_nil, fun p hp => (nomatch hp), Nat.zero_le _, fun r hr => (nomatch hr), fun r hr => (nomatch hr)⟩, rfl, ?_⟩
      funext y
      by_cases e1 : y = Str.ofString "newest"
      · subst e1; rfl
      · by_cases e2 : y = Str.ofString "spots"
        · subst e2; rfl
        · by_cases e3 : y = Str.ofString "there"
          · subst e3; rfl
          · rw [if_neg e1, if_neg e2, if_neg e3]
    · intro i h' m' led' F2 N2 _
      exact ho.at fun o e => F2.keep _ o e
    · rintro i v m₁ led₁ h tk I oI hi hP hJJ F2 N2 off
      refine gen_turn fun QQ hQQ => ?_
      refine gen_goal fun GG hGG => ?_
      obtain ⟨P, Qm, R, R', nl, nm, oK, oG, vK, vG, u1, u2, u3, rfl, dK, dG, TO, hPQ, rfl⟩ := hJJ
      clear F' N'
      obtain ⟨x, t9, rfl, hx⟩ : ∃ x t9, v = Value.int x t9 ∧ ord[i]? = some x := by
        have hlen := hio.length
        have hi' : i < ord.length := by rw [← hlen]; simpa using hi
        obtain ⟨t, ht⟩ := hio.get i ord[i] (List.getElem?_eq_getElem hi')
        have hP' : vo[i]? = some v := by simpa using hP
        rw [ht] at hP'
        exact ⟨_, t, (Option.some.inj hP').symm, List.getElem?_eq_getElem hi'⟩
      have hi6 : i < 6 := by
        have hlen := hio.length
        have : i < vo.length := by simpa using hi
        omega
      have hPl := TO.le
      have hQP := TO.len
      have hRl : (refsOf R).toArray.size = P.length := by simp [refsOf, TO.rows.1]
      have offI1 : NeF am I := NeF.mk (off (am, _) (.head _))
      have offI2 : NeF al I := NeF.mk (off (al, _) (.tail _ (.head _)))
      have offI3 : NeF (L + 1 + 1 + 1 + 1) I := NeF.mk (off (L + 1 + 1 + 1 + 1, _) (.tail _ (.tail _ (.head _))))
      have offI4 : NeF (L + 1 + 1 + 1) I := NeF.mk (off (L + 1 + 1 + 1, _) (.tail _ (.tail _ (.tail _ (.head _)))))
      have offI5 : NeF (L + 1 + 1) I := NeF.mk (off (L + 1 + 1, _) (.tail _ (.tail _ (.tail _ (.tail _ (.head _))))))
      have offI6 : NeF (L + 1) I := NeF.mk (off (L + 1, _) (.tail _ (.tail _ (.tail _ (.tail _ (.tail _ (.head _)))))))
      have offT := TO.off
      refine hGG ?_
      clear hGG
      k_steps
      rename_i hA hB oG2 FB NB dG2 hC tkC tr1 tr2 tr3 hR FC NC hExt
      clear FB NB hExt
      refine for_inv (JIn L al am oL o4 xs i P Qm x I oI (fun y => if y = Str.ofString "newest" then some (Value.int x t9) else if y = Str.ofString "marks" then some (Value.ref am) else if y = Str.ofString "order" then some (Value.ref ao) else none)) (Source.upto (n := P.length + 1) rfl hR (by simp) (by omega)) FC NC ?_ ?_ ?_ ?_
      · refine ⟨P, x, t9, R, R', nl, nm, oK, oG2, vK, u2, u3, rfl, dK, dG2, TO, ?_, hr x (List.mem_of_getElem? hx), InnerOk.start _ _ _, ?_⟩
        · intro p hp b hb
          rw [List.mem_singleton.mp hb]
          exact off p (.tail _ (.tail _ (.tail _ (.tail _ (.tail _ (.tail _ hp))))))
        · funext y
          by_cases e1 : y = Str.ofString "spots"
          · subst e1; rfl
          · by_cases e2 : y = Str.ofString "there"
            · subst e2; rfl
            · by_cases e3 : y = Str.ofString "newest"
              · subst e3; rfl
              · simp only [if_neg e1, if_neg e2, if_neg e3]
      · intros; trivial
      · rintro j v m₂ led₂ h2 tk2 Ii oIi hj ⟨tj, rfl⟩ hJJ F3 N3 off3
        refine gen_turn fun QI hQI => ?_
        refine gen_goal fun GG hGG => ?_
        obtain ⟨P1, g, tg, R1, R1', nl1, nm1, oK1, oG1, vK1, v2, v3, rfl, dK1, dG1, TO1, offIo, hg, IOk, rfl⟩ := hJJ
        clear FC NC hR
        have offT1 := TO1.off
        have hRl1 : (refsOf R1).toArray.size = P1.length := by simp [refsOf, TO1.rows.1]
        have hRl2 : (refsOf R1').toArray.size = P1.length := by simp [refsOf, TO1.marks.1, TO1.len]
        have hPl1 := TO1.le
        have offJ1 : NeF I Ii := NeF.mk (off3 (I, _) (.head _))
        have offJ2 : NeF am Ii := NeF.mk (off3 (am, _) (.tail _ (.head _)))
        have offJ3 : NeF al Ii := NeF.mk (off3 (al, _) (.tail _ (.tail _ (.head _))))
        have offJ4 : NeF (L + 1 + 1 + 1 + 1) Ii := NeF.mk (off3 (L + 1 + 1 + 1 + 1, _) (.tail _ (.tail _ (.tail _ (.head _)))))
        have offJ5 : NeF (L + 1 + 1 + 1) Ii := NeF.mk (off3 (L + 1 + 1 + 1, _) (.tail _ (.tail _ (.tail _ (.tail _ (.head _))))))
        have offJ6 : NeF (L + 1 + 1) Ii := NeF.mk (off3 (L + 1 + 1, _) (.tail _ (.tail _ (.tail _ (.tail _ (.tail _ (.head _)))))))
        have offJ7 : NeF (L + 1) Ii := NeF.mk (off3 (L + 1, _) (.tail _ (.tail _ (.tail _ (.tail _ (.tail _ (.tail _ (.head _))))))))
        refine hGG ?_
        clear hGG
        k_steps
        rename_i hD oK2 FD ND dK2
        refine Halt.mk (wpAny_mono (Q := MidP s s.heap L al am I Ii oI oIi oL o4 oK2 oG1 i xs.length j P1 Qm (fun y => if y = Str.ofString "spots" then v2 else if y = Str.ofString "there" then v3 else if y = Str.ofString "newest" then some (Value.int x t9) else if y = Str.ofString "marks" then some (Value.ref am) else if y = Str.ofString "order" then some (Value.ref ao) else none)) ?_ ?_ (fun _ _ h => h))
        · refine wpAny_If ?_
          k_steps
          all_goals
            have offII : OwnOff (R1 ++ R1') [I, Ii] := by
              intro p hp q hq
              rcases List.mem_cons.mp hq with rfl | hq
              · exact offIo p hp _ (List.mem_singleton.mpr rfl)
              · rw [List.mem_singleton.mp hq]
                exact off3 p (.tail _ (.tail _ (.tail _ (.tail _ (.tail _ (.tail _ (.tail _ hp)))))))
          · rename_i hjP lA hF1 l1A hF2 lB hF3 l1B hF4 FF NF
            rw [refs_snoc R1 lA (W.listOf #[] 0), refs_snoc R1' lB (W.listOf #[] 0)] at NF
            refine ⟨rfl, _, _, P1 ++ [[]], Qm ++ [[]], R1 ++ [(lA, W.listOf #[] 0)], R1' ++ [(lB, W.listOf #[] 0)], nl1 + 1, nm1 + 1, rfl, FF, ?_, TO1.snoc l1A.2.2 l1B.1, own_snoc offII l1A.2.1 l1A.1 l1B.1, .inr ⟨by omega, rfl, rfl⟩⟩
            intro p hp
            refine NF p ?_
            simp only [List.mem_cons, List.mem_append, List.not_mem_nil, or_false] at hp ⊢
            grind
          · rename_i hjP
            refine ⟨rfl, _, _, P1, Qm, R1, R1', nl1, nm1, rfl, FD, ND, TO1.more, offII, .inl ⟨rfl, rfl, ?_⟩⟩
            have := IOk.len
            omega
        · rintro f s' ⟨rfl, hE, tkE, P2, Q2, R2, R2', nl2, nm2, rfl, FE, NE, TO2, off2, hcase⟩
          clear FD ND
          dsimp only
          obtain ⟨r, hr2⟩ : ∃ r, P2[j]? = some r := by
            have hlt : j < P2.length := by
              rcases hcase with ⟨e, _, h⟩ | ⟨h, e, _⟩
              · rw [e]; exact h
              · rw [e, h]; simp
            exact ⟨_, List.getElem?_eq_getElem hlt⟩
          obtain ⟨q, hq2⟩ : ∃ q, Q2[j]? = some q := by
            have hlt : j < Q2.length := by
              rw [TO2.len]
              rcases Nat.lt_or_ge j P2.length with h | h
              · exact h
              · rw [List.getElem?_eq_none h] at hr2; cases hr2
            exact ⟨_, List.getElem?_eq_getElem hlt⟩
          obtain ⟨rk, vs, nk, hRk, hIr, hrefk⟩ := TO2.rows.get hr2
          obtain ⟨mk, ms, nmk, hRm, hIm, hrefm⟩ := TO2.marks.get hq2
          have hmemk : (rk, W.listOf vs.toArray nk) ∈ R2 ++ R2' := List.mem_append_left _ (List.mem_of_getElem? hRk)
          have hmemm : (mk, W.listOf ms.toArray nmk) ∈ R2 ++ R2' := List.mem_append_right _ (List.mem_of_getElem? hRm)
          have hrl := (TO2.inP r (List.mem_of_getElem? hr2)).1
          have hql := TO2.inQ q (List.mem_of_getElem? hq2)
          have hrs : vs.toArray.size = r.length := by simp [hIr.length]
          have hk2 : (refsOf R2).toArray[((j : Nat) : Int).toNat]? = some (.ref rk) := by simpa using hrefk
          have hjle : j ≤ 6 := by have := IOk.le; have := IOk.len; omega
          k_steps
          rename_i hG tkG tg1 tg2 tg3 hRg FG NG hExtG
          clear hExtG
          have hsl : r.length ≤ sizeLine := by rw [sizeLine_eq]; omega
          refine lc_invA (L := L) (fun t ys led' => led' = _ ∧ IntsAre ys (spotI xs r g t)) rfl rfl rfl (Source.upto rfl hRg rfl (by omega)) hsl (by decide) rfl rfl FG NG ⟨rfl, .nil⟩ ?_ ?_ ?_
          · intros; trivial
          · rintro t v ys led₁ Ic oIc C oC D m₃ h3 tk3 ht ⟨tv, rfl⟩ ⟨rfl, hys⟩ hoC hxC F4 N4 off4 ne4
            clear FG NG hRg
            have hz : 0 ≤ r.getD ((t : Int)).toNat 0 ∧ r.getD ((t : Int)).toNat 0 < (xs.length : Int) := by
              have ht' : t < r.length := ht
              have e : r.getD ((t : Int)).toNat 0 = r[t] := by simp [List.getD, List.getElem?_eq_getElem ht']
              rw [e]
              exact (TO2.inP r (List.mem_of_getElem? hr2)).2 _ (List.getElem_mem ht')
            have ht2 : (t : Int) < (r.length : Int) := by exact_mod_cast ht
            refine wpAny_tests_one ?_
            dsimp only
            k_steps
            (rename Fr _ _ _ _ => fX); (rename News _ _ _ _ => nX)
            unfold Halt
            refine c_above w (G.sub fX) ?_
            intro h' tk' hx'
            have F' := Fr.keeps fX hx'
            have N' := News.grown nX hx'
            clear hx' fX nX
            k_steps
            (rename Fr _ _ _ _ => F6); (rename News _ _ _ _ => N6)
            refine LcT.by (abT xs (r.getD t 0) g) (fun hb => ?_) (fun hb => ?_)
            · exact LcE.intro F6 N6 _ (fun _ hp => hp) off4 ⟨rfl, by rw [spotI_succ, hb]; exact hys⟩
            · k_steps
              exact LcE.intro (by assumption) (by assumption) _ (fun _ hp => hp) off4 ⟨rfl, by rw [spotI_succ, hb]; exact ksk_snoc hys⟩
          · rintro D h tk ys led' F5 N5 o1 ⟨rfl, hys⟩
            clear FG NG hRg
            dsimp only
            have offT2 := TO2.off
            have nerk : @Ne Nat rk Ii ∧ @Ne Nat rk I ∧ @Ne Nat rk am ∧ @Ne Nat rk al ∧ @Ne Nat rk (L + 1 + 1 + 1 + 1) ∧ @Ne Nat rk (L + 1 + 1 + 1) ∧ @Ne Nat rk (L + 1 + 1) ∧ @Ne Nat rk (L + 1) :=
              ⟨off2 _ hmemk _ (.tail _ (.head _)), off2 _ hmemk _ (.head _), offT2 _ hmemk _ (.head _), offT2 _ hmemk _ (.tail _ (.head _)), offT2 _ hmemk _ (.tail _ (.tail _ (.head _))), offT2 _ hmemk _ (.tail _ (.tail _ (.tail _ (.head _)))),
                offT2 _ hmemk _ (.tail _ (.tail _ (.tail _ (.tail _ (.head _))))), offT2 _ hmemk _ (.tail _ (.tail _ (.tail _ (.tail _ (.tail _ (.head _))))))⟩
            have nemk : @Ne Nat mk Ii ∧ @Ne Nat mk I ∧ @Ne Nat mk am ∧ @Ne Nat mk al ∧ @Ne Nat mk (L + 1 + 1 + 1 + 1) ∧ @Ne Nat mk (L + 1 + 1 + 1) ∧ @Ne Nat mk (L + 1 + 1) ∧ @Ne Nat mk (L + 1) :=
              ⟨off2 _ hmemm _ (.tail _ (.head _)), off2 _ hmemm _ (.head _), offT2 _ hmemm _ (.head _), offT2 _ hmemm _ (.tail _ (.head _)), offT2 _ hmemm _ (.tail _ (.tail _ (.head _))), offT2 _ hmemm _ (.tail _ (.tail _ (.tail _ (.head _)))),
                offT2 _ hmemm _ (.tail _ (.tail _ (.tail _ (.tail _ (.head _))))), offT2 _ hmemm _ (.tail _ (.tail _ (.tail _ (.tail _ (.tail _ (.head _))))))⟩
            have o1m := off1_mem o1
            have neD : @Ne Nat rk D := o1m _ (.tail _ (.tail _ (.tail _ (.tail _ (.tail _ (.tail _ (.tail _ (.tail _ hmemk))))))))
            have neDm : @Ne Nat mk D := o1m _ (.tail _ (.tail _ (.tail _ (.tail _ (.tail _ (.tail _ (.tail _ (.tail _ hmemm))))))))
            have hrli := IOk.rowLe hcase hr2 (fun r hr => (TO1.inP r hr).1)
            have hqli := IOk.markLe hQP hcase hq2 TO1.inQ
            clear o1
            k_steps
            have hfull : spotI xs r g r.length = (rowSpots (abT xs) r g).map (fun n : Nat => (n : Int)) := rfl
            rw [hfull] at hys
            cases hsp : rowSpots (abT xs) r g with
            | nil =>
              rw [hsp] at hys
              cases hys
              refine Halt.mk (wpAny_If ?_)
              k_steps
              rename_i lX hX FX NX l1X
              have hneX := neOfs rk lX l1X hmemk
              refine append_K FX NX (upd_heads [_, _, _, _, _, _, _, _, _, _] (ne10 hneX.1 neD nerk.1 nerk.2.1 nerk.2.2.1 nerk.2.2.2.1 nerk.2.2.2.2.1 nerk.2.2.2.2.2.1 nerk.2.2.2.2.2.2.1 nerk.2.2.2.2.2.2.2) (upd_row hRk TO2.nodup)) ?_ (by rw [hrs, sizeLine_eq]; omega)
              intro h7 F7 N7
              simp only [List.cons_append, List.nil_append, List.push_toArray] at N7
              clear FX NX
              have TO3 := TO2.setP (k' := nk + 1) hRk (ksk_snoc (t := tg) (n := g) hIr) ⟨by simp; omega, fun z hz => by
                rcases List.mem_append.mp hz with hz | hz
                · exact (TO2.inP r (List.mem_of_getElem? hr2)).2 z hz
                · rw [List.mem_singleton.mp hz]; exact hg⟩
              clear offT2
              have offT3 := TO3.off
              have hk3 : (refsOf R2').toArray[((j : Nat) : Int).toNat]? = some (.ref mk) := by simpa using hrefm
              have hmemm3 : (mk, W.listOf ms.toArray nmk) ∈ R2.set j (rk, W.listOf (vs ++ [Value.int g tg]).toArray (nk + 1)) ++ R2' := List.mem_append_right _ (List.mem_of_getElem? hRm)
              k_steps
              have hneXm := neOfs mk lX l1X hmemm
              have hqs : ms.toArray.size = q.length := by simp [hIm.length]
              refine append_K F7 N7 (upd_heads [_, _, _, _, _, _, _, _, _, _] (ne10 hneXm.1 neDm nemk.1 nemk.2.1 nemk.2.2.1 nemk.2.2.2.1 nemk.2.2.2.2.1 nemk.2.2.2.2.2.1 nemk.2.2.2.2.2.2.1 nemk.2.2.2.2.2.2.2) (upd_row2 hRm TO3.nodup)) ?_ (by rw [hqs, sizeLine_eq]; omega)
              intro h8 F8 N8
              simp only [List.cons_append, List.nil_append, List.push_toArray] at N8
              clear F7 N7
              have TO4 := TO3.setQ (k' := nmk + 1) hRm (ksk_snoc (t := t9) (n := x) hIm) (by simp; omega)
              k_steps
              refine hQI _ _ (FTurn.brk ?_)
              k_steps
              refine hQQ _ _ ?_
              refine FTurn.next (by assumption) (by assumption) (led' := (am, W.listOf (refsOf (R2'.set j (mk, W.listOf (ms ++ [Value.int x t9]).toArray (nmk + 1)))).toArray nm2) :: (al, W.listOf (refsOf (R2.set j (rk, W.listOf (vs ++ [Value.int g tg]).toArray (nk + 1)))).toArray nl2) :: (L + 1 + 1 + 1 + 1, oK2) :: (L + 1 + 1 + 1, oG1) :: (L + 1 + 1, oL) :: (L + 1, o4) :: (R2.set j (rk, W.listOf (vs ++ [Value.int g tg]).toArray (nk + 1)) ++ R2'.set j (mk, W.listOf (ms ++ [Value.int x t9]).toArray (nmk + 1)))) ?_ ?_ ?_
              · intro p hp
                rw [refs_set hRm, refs_set hRk] at hp
                simp only [List.mem_cons, List.mem_append] at hp ⊢
                grind
              · intro p hp
                have ho4 := own_set2 (o' := W.listOf (ms ++ [Value.int x t9]).toArray (nmk + 1)) (own_set (o' := W.listOf (vs ++ [Value.int g tg]).toArray (nk + 1)) off2 hRk) hRm
                simp only [List.mem_cons] at hp
                rcases hp with rfl | rfl | rfl | rfl | rfl | rfl | hp
                · exact offI1.out
                · exact offI2.out
                · exact offI3.out
                · exact offI4.out
                · exact offI5.out
                · exact offI6.out
                · exact ho4 p hp _ (.head _)
              · refine ⟨_, _, _, _, _, _, _, _, _, _, some (Value.int x t9), some (Value.ref D), v3, rfl, dK2, dG1, TO4, ?_, ?_⟩
                · rw [IOk.finish hQP hcase hr2 hq2 hsp, hPQ, List.take_add_one, hx]
                  simp [linesOf, List.foldl_append]
                · funext y
                  by_cases e1 : y = Str.ofString "newest"
                  · subst e1; rfl
                  · by_cases e2 : y = Str.ofString "spots"
                    · subst e2; rfl
                    · by_cases e3 : y = Str.ofString "there"
                      · subst e3; rfl
                      · simp only [if_neg e1, if_neg e2, if_neg e3]
            | cons i0 rest =>
              rw [hsp] at hys
              simp only [List.map_cons] at hys
              cases hys with
              | cons _ ti hys' =>
              have hi0 : i0 < r.length := rowSpots_lt (by rw [hsp]; exact .head _)
              refine Halt.mk (wpAny_If ?_)
              k_steps
              rename_i vsr _ _ _ _ _ lX hX l1X tth hX2 FX NX
              show wpAny _ _ (setItem (Value.ref rk) (Value.int (i0 : Int) ti) (Value.int g tg)) _ _ _
              have hneX := neOfs rk lX l1X hmemk
              refine ksa_set FX NX (upd_heads [_, _, _, _, _, _, _, _, _, _] (ne10 hneX.1 neD nerk.1 nerk.2.1 nerk.2.2.1 nerk.2.2.2.1 nerk.2.2.2.2.1 nerk.2.2.2.2.2.1 nerk.2.2.2.2.2.2.1 nerk.2.2.2.2.2.2.2) (upd_row hRk TO2.nodup)) hIr (by omega) (by omega) (by omega) ?_
              intro h7 F7 N7 hI7 hl7 _
              simp only [List.cons_append, List.nil_append, Int.toNat_natCast] at N7 hI7 hl7
              clear FX NX
              have hnew := IOk.notNew hcase hr2 hsp
              obtain ⟨eP2, eQ2⟩ := hnew
              have hgd : 0 ≤ r.getD i0 0 ∧ r.getD i0 0 < (xs.length : Int) := by
                have e : r.getD i0 0 = r[i0] := by simp [List.getD, List.getElem?_eq_getElem hi0]
                rw [e]
                exact (TO2.inP r (List.mem_of_getElem? hr2)).2 _ (List.getElem_mem hi0)
              subst eP2 eQ2
              have TO2' : TailOk L al am i xs.length R2 R2' P2 Q2 := ⟨TO2.rows, TO2.marks, TO2.len, TO2.nodup, TO2.off, hPl1, TO1.inP, TO1.inQ⟩
              have TO3 := TO2'.setP (k' := nk) hRk hI7 ⟨by rw [hl7]; omega, fun z hz => by
                rcases List.mem_or_eq_of_mem_set hz with hz | hz
                · exact (TO2.inP r (List.mem_of_getElem? hr2)).2 z hz
                · rw [hz]; exact hg⟩
              clear offT2
              have offT3 := TO3.off
              have hn3 : @Ne Nat D (L + 1 + 1 + 1) ∧ @Ne Nat Ii (L + 1 + 1 + 1) ∧ @Ne Nat I (L + 1 + 1 + 1) :=
                ⟨Ne.symm (o1m (L + 1 + 1 + 1, _) (.tail _ (.tail _ (.tail _ (.tail _ (.tail _ (.head _))))))), Ne.symm offJ5.out, Ne.symm offI4.out⟩
              clear nerk nemk neD neDm hneX
              k_steps
              rename_i h8 o8 F8 N8 d8
              refine hQI _ _ ?_
              refine FTurn.next F8 N8 (led' := (I, oI) :: (am, W.listOf (refsOf R2').toArray nm2) :: (al, W.listOf (refsOf (R2.set j (rk, W.listOf (vs.set i0 (Value.int g tg)).toArray nk))).toArray nl2) :: (L + 1 + 1 + 1 + 1, oK2) :: (L + 1 + 1 + 1, o8) :: (L + 1 + 1, oL) :: (L + 1, o4) :: (R2.set j (rk, W.listOf (vs.set i0 (Value.int g tg)).toArray nk) ++ R2')) ?_ ?_ ?_
              · intro p hp
                rw [refs_set hRk] at hp
                simp only [List.mem_cons, List.mem_append] at hp ⊢
                grind
              · intro p hp
                have ho4 := own_set (o' := W.listOf (vs.set i0 (Value.int g tg)).toArray nk) off2 hRk
                simp only [List.mem_cons] at hp
                rcases hp with rfl | rfl | rfl | rfl | rfl | rfl | rfl | hp
                · exact offJ1.out
                · exact offJ2.out
                · exact offJ3.out
                · exact offJ4.out
                · exact offJ5.out
                · exact offJ6.out
                · exact offJ7.out
                · exact ho4 p hp _ (.tail _ (.head _))
              · refine ⟨P2.set j (r.set i0 g), r.getD i0 0, tth, _, _, _, _, _, _, _, some (Value.ref D), some (Value.int (r.getD i0 0) tth), rfl, dK2, ?_, TO3, ?_, hgd, IOk.bump hr2 hsp, ?_⟩
                · simpa using d8
                · intro p hp q hq
                  exact own_set (o' := W.listOf (vs.set i0 (Value.int g tg)).toArray nk) off2 hRk p hp q (by rw [List.mem_singleton.mp hq]; exact .head _)
                · funext y
                  by_cases e1 : y = Str.ofString "spots"
                  · subst e1; rfl
                  · by_cases e2 : y = Str.ofString "there"
                    · subst e2; rfl
                    · simp only [if_neg e1, if_neg e2]
      · rintro m₁ led₁ h tk ⟨P1, g, tg, R1, R1', nl1, nm1, oK1, oG1, vK1, v2, v3, rfl, dK1, dG1, TO1, offIo, hg, IOk, rfl⟩ F3 N3
        exfalso
        have h1 := IOk.le
        omega
    · rintro m₁ led₁ h tk ⟨P, Qm, R, R', nl, nm, oK, oG, vK, vG, u1, u2, u3, rfl, dK, dG, TO, hPQ, rfl⟩ F2 N2
      clear F' N'
      dsimp only
      k_steps
      rename_i a h9 F9 N9 l9
      refine PR.intro F9 ⟨a, al, am, R, R', nl, nm, rfl, ?_, ?_, ?_⟩
      · have e : vo.toArray.size = ord.length := by simp [hio.length]
        rw [e, List.take_length] at hPQ
        rw [← hPQ]; exact TO.rows
      · have e : vo.toArray.size = ord.length := by simp [hio.length]
        rw [e, List.take_length] at hPQ
        rw [← hPQ]; exact TO.marks
      · intro p hp
        have z := N9 p (by
          simp only [List.mem_cons, List.mem_append] at hp ⊢
          grind)
        exact ⟨z.1, z.2.2⟩
  · rintro v h' tk' hx hp
    exact hq v h' tk' hx hp
end TC4
section TS0
/-- the key that stands at place t -/
noncomputable def pk (K : Nat → Int) (p : Array Nat) (t : Nat) : Int := K (p.getD t 0)
theorem pk_of {K : Nat → Int} {p q : Array Nat} {t u : Nat} (h : p[t]? = q[u]?) : pk K p t = pk K q u := by
  unfold pk; rw [Array.getD_eq_getD_getElem?, Array.getD_eq_getD_getElem?, h]
theorem pk_rev (K : Nat → Int) {p : Array Nat} {i j : Nat} (hj : j ≤ p.size) (t : Nat) : pk K (kas_rev p i j) t = if i ≤ t ∧ t < j then pk K p (i + j - 1 - t) else pk K p t := by
  have e := getElem?_mirror_all (xs := p) (i := i) hj t
  unfold kas_rev
  split
  · rename_i h; rw [if_pos h] at e; exact pk_of e
  · rename_i h; rw [if_neg h] at e; exact pk_of e
theorem pk_bubble (K : Nat → Int) {p : Array Nat} {k l : Nat} (hk : k < p.size) (hl : l ≤ k) (t : Nat) : pk K (bubble p k (k - l)) t = if t = l then pk K p k else if l < t ∧ t ≤ k then pk K p (t - 1) else pk K p t := by
  have e := getElem?_bubble (xs := p) hk (k - l) (by omega) t
  rw [show k - (k - l) = l by omega] at e
  split
  · rename_i h; rw [if_pos h] at e; exact pk_of e
  · rename_i h; rw [if_neg h] at e
    split
    · rename_i h2; rw [if_pos h2] at e; exact pk_of e
    · rename_i h2; rw [if_neg h2] at e; exact pk_of e
noncomputable def PermN (N : Nat) (p : Array Nat) : Prop := p.Perm (List.range N).toArray
theorem PermN.size {N : Nat} {p : Array Nat} (h : PermN N p) : p.size = N := by have := Array.Perm.size_eq h; simpa using this
theorem PermN.lt {N : Nat} {p : Array Nat} (h : PermN N p) (hN : 0 < N) (t : Nat) : p.getD t 0 < N := by
  rw [Array.getD_eq_getD_getElem?]
  cases e : p[t]? with
  | none => exact hN
  | some x =>
    have hm : x ∈ p := Array.mem_of_getElem? e
    have := (Array.Perm.mem_iff h).mp hm
    simpa using this
theorem PermN.rev {N : Nat} {p : Array Nat} (h : PermN N p) (i j : Nat) : PermN N (kas_rev p i j) := (mirror_perm p i j _).trans h
theorem PermN.bub {N : Nat} {p : Array Nat} (h : PermN N p) (i j : Nat) : PermN N (bubble p i j) := (bubble_perm p i j).trans h
section
variable {cmp : Nat → Nat → (Bool → Shared → Prop) → Shared → Prop} {K : Nat → Int} {N : Nat}
/-- a comparison without effect -/
noncomputable def PureCmp (cmp : Nat → Nat → (Bool → Shared → Prop) → Shared → Prop) (K : Nat → Int) (N : Nat) (s : Shared) : Prop := ∀ (i j : Nat) (C : Bool → Shared → Prop), i < N → j < N → C (decide (K i < K j)) s → cmp i j C s
variable {s : Shared}
theorem tr_asc (hc : PureCmp cmp K N s) (hN : 0 < N) {p : Array Nat} (hp : PermN N p) : ∀ (f n : Nat) (Q : Nat → Shared → Prop),
    (∀ m, n ≤ m → m ≤ n + f → (∀ t, n ≤ t → t < m → pk K p (t - 1) ≤ pk K p t) → (m < n + f → pk K p m < pk K p (m - 1)) → Q m s) → (kas_asc p f n).kasWp cmp Q s
  | 0, n, Q, h => h n (Nat.le_refl _) (Nat.le_refl _) (fun t h1 h2 => absurd h2 (by omega)) (fun h => absurd h (by omega))
  | f + 1, n, Q, h => by
    refine hc _ _ _ (hp.lt hN _) (hp.lt hN _) ?_
    by_cases hlt : pk K p n < pk K p (n - 1)
    · have e : decide (K (p.getD n 0) < K (p.getD (n - 1) 0)) = true := decide_eq_true hlt
      rw [e]
      show (if true = true then KasT.ret n else kas_asc p f (n + 1)).kasWp cmp Q s
      rw [if_pos rfl]
      exact h n (Nat.le_refl _) (by omega) (fun t h1 h2 => absurd h2 (by omega)) (fun _ => hlt)
    · have e : decide (K (p.getD n 0) < K (p.getD (n - 1) 0)) = false := decide_eq_false hlt
      rw [e]
      show (if false = true then KasT.ret n else kas_asc p f (n + 1)).kasWp cmp Q s
      rw [if_neg (by simp)]
      refine tr_asc hc hN hp f (n + 1) Q fun m h1 h2 h3 h4 => h m (by omega) (by omega) (fun t ht1 ht2 => ?_) (fun hm => h4 (by omega))
      by_cases ht : t = n
      · subst ht; omega
      · exact h3 t (by omega) ht2
/-- falling, its last places like -/
structure Fall (K : Nat → Int) (p : Array Nat) (n q : Nat) : Prop where
  le : q + 1 ≤ n
  fall : ∀ t, 1 ≤ t → t < n → pk K p t ≤ pk K p (t - 1)
  like : ∀ t, n ≤ t + (q + 1) → t < n → pk K p t = pk K p (n - 1)
theorem Fall.rev {p : Array Nat} {n q : Nat} (h : Fall K p n q) (hz : n ≤ p.size) (t : Nat) : pk K (kas_rev p (n - (q + 1)) n) t = pk K p t := by
  have hle := h.le
  rw [pk_rev K hz]
  split
  · rw [h.like t (by omega) (by omega), h.like _ (by omega) (by omega)]
  · rfl
theorem tr_desc (hc : PureCmp cmp K N s) (hN : 0 < N) : ∀ (f : Nat) (p : Array Nat) (n q : Nat) (Q : Array Nat × Nat × Nat → Shared → Prop), PermN N p → n + f ≤ N → Fall K p n q →
    (∀ p' n' q', PermN N p' → n' ≤ n + f → Fall K p' n' q' → Q (p', n', q') s) → (kas_desc f p n q).kasWp cmp Q s
  | 0, p, n, q, Q, hp, hn, hF, h => h p n q hp (by omega) hF
  | f + 1, p, n, q, Q, hp, hn, hF, h => by
    have hsz := hp.size
    refine hc _ _ _ (hp.lt hN _) (hp.lt hN _) ?_
    by_cases hlt : pk K p n < pk K p (n - 1)
    · have e : decide (K (p.getD n 0) < K (p.getD (n - 1) 0)) = true := decide_eq_true hlt
      rw [e]
      by_cases hq : q > 0
      · show (if true = true then (if q > 0 then kas_desc f (kas_rev p (n - (q + 1)) n) (n + 1) 0 else kas_desc f p (n + 1) 0) else _).kasWp cmp Q s
        rw [if_pos rfl, if_pos hq]
        have er := hF.rev (by omega)
        refine tr_desc hc hN f _ (n + 1) 0 Q (hp.rev _ _) (by omega) ⟨by omega, fun t h1 h2 => ?_, fun t h1 h2 => ?_⟩ fun p' n' q' a b c => h p' n' q' a (by omega) c
        · rw [er, er]
          by_cases ht : t = n
          · subst ht; omega
          · exact hF.fall t h1 (by omega)
        · rw [show t = n + 1 - 1 by omega]
      · show (if true = true then (if q > 0 then kas_desc f (kas_rev p (n - (q + 1)) n) (n + 1) 0 else kas_desc f p (n + 1) 0) else _).kasWp cmp Q s
        rw [if_pos rfl, if_neg hq]
        refine tr_desc hc hN f _ (n + 1) 0 Q hp (by omega) ⟨by omega, fun t h1 h2 => ?_, fun t h1 h2 => ?_⟩ fun p' n' q' a b c => h p' n' q' a (by omega) c
        · by_cases ht : t = n
          · subst ht; omega
          · exact hF.fall t h1 (by omega)
        · rw [show t = n + 1 - 1 by omega]
    · have e : decide (K (p.getD n 0) < K (p.getD (n - 1) 0)) = false := decide_eq_false hlt
      rw [e]
      show (if false = true then _ else KasT.ask (p.getD (n - 1) 0) (p.getD n 0) fun d => if d = true then .ret (p, n, q) else kas_desc f p (n + 1) (q + 1)).kasWp cmp Q s
      rw [if_neg (by simp)]
      refine hc _ _ _ (hp.lt hN _) (hp.lt hN _) ?_
      by_cases hlt2 : pk K p (n - 1) < pk K p n
      · have e : decide (K (p.getD (n - 1) 0) < K (p.getD n 0)) = true := decide_eq_true hlt2
        rw [e]
        show (if true = true then KasT.ret (p, n, q) else kas_desc f p (n + 1) (q + 1)).kasWp cmp Q s
        rw [if_pos rfl]
        exact h p n q hp (by omega) hF
      · have e : decide (K (p.getD (n - 1) 0) < K (p.getD n 0)) = false := decide_eq_false hlt2
        rw [e]
        show (if false = true then KasT.ret (p, n, q) else kas_desc f p (n + 1) (q + 1)).kasWp cmp Q s
        rw [if_neg (by simp)]
        have hle := hF.le
        refine tr_desc hc hN f _ (n + 1) (q + 1) Q hp (by omega) ⟨by omega, fun t h1 h2 => ?_, fun t h1 h2 => ?_⟩ fun p' n' q' a b c => h p' n' q' a (by omega) c
        · by_cases ht : t = n
          · subst ht; omega
          · exact hF.fall t h1 (by omega)
        · show pk K p t = pk K p n
          by_cases ht : t = n
          · rw [ht]
          · rw [hF.like t (by omega) (by omega)]; omega
noncomputable def Rise (K : Nat → Int) (p : Array Nat) (n : Nat) : Prop := ∀ t, 1 ≤ t → t < n → pk K p (t - 1) ≤ pk K p t
theorem tr_tail (hc : PureCmp cmp K N s) (hN : 0 < N) {p : Array Nat} {n q : Nat} {Q : Nat × Array Nat → Shared → Prop} (hp : PermN N p) (hn : n ≤ N) (hF : ∀ t, 1 ≤ t → t < n → pk K p t ≤ pk K p (t - 1)) (h1 : 1 ≤ n)
    (h : ∀ m p', PermN N p' → 1 ≤ m → m ≤ N → Rise K p' m → Q (m, p') s) : (kas_tail3 n N p).kasWp cmp Q s := by
  have hsz := hp.size
  unfold kas_tail3
  rw [KasT.kasWp_bind]
  refine tr_asc hc hN (hp.rev 0 n) _ _ _ fun m a b c _ => ?_
  refine h m _ (hp.rev 0 n) (by omega) (by omega) fun t ht1 ht2 => ?_
  by_cases ht : n ≤ t
  · exact c t ht ht2
  · rw [pk_rev K (by omega), pk_rev K (by omega), if_pos (by omega), if_pos (by omega)]
    have := hF (0 + n - 1 - (t - 1)) (by omega) (by omega)
    rw [show 0 + n - 1 - t = 0 + n - 1 - (t - 1) - 1 by omega]
    exact this
theorem tr_descPart (hc : PureCmp cmp K N s) (hN : 0 < N) {p : Array Nat} {n : Nat} {Q : Nat × Array Nat → Shared → Prop} (hp : PermN N p) (hn : n + 1 ≤ N) (hF : ∀ t, 1 ≤ t → t < n + 1 → pk K p t ≤ pk K p (t - 1))
    (h : ∀ m p', PermN N p' → 1 ≤ m → m ≤ N → Rise K p' m → Q (m, p') s) : (kas_descPart n N p).kasWp cmp Q s := by
  unfold kas_descPart
  rw [KasT.kasWp_bind]
  refine tr_desc hc hN _ p (n + 1) 0 _ hp (by omega) ⟨by omega, hF, fun t h1 h2 => by rw [show t = n + 1 - 1 by omega]⟩ fun p' n' q' a b c => ?_
  have hsz := a.size
  have hle := c.le
  dsimp only
  split
  · refine tr_tail (q := q') hc hN (a.rev _ _) (by omega) (fun t h1 h2 => ?_) (by omega) h
    rw [c.rev (by omega), c.rev (by omega)]
    exact c.fall t h1 h2
  · exact tr_tail (q := q') hc hN a (by omega) c.fall (by omega) h
theorem tr_count (hc : PureCmp cmp K N s) (hN : 2 ≤ N) {p : Array Nat} {Q : Nat × Array Nat → Shared → Prop} (hp : PermN N p)
    (h : ∀ m p', PermN N p' → 1 ≤ m → m ≤ N → Rise K p' m → Q (m, p') s) : (kas_count N p).kasWp cmp Q s := by
  have hN0 : 0 < N := by omega
  have hsz := hp.size
  unfold kas_count
  rw [KasT.kasWp_bind]
  refine tr_asc hc hN0 hp _ _ _ fun n a b c d => ?_
  have hR : Rise K p n := c
  by_cases e : n = N
  · subst e
    simp only [BEq.rfl, if_true]
    exact h n p hp (by omega) (by omega) hR
  · have ef : (n == N) = false := by simpa using e
    simp only [ef, Bool.false_eq_true, if_false]
    have hd := d (by omega)
    by_cases h1 : n > 1
    · rw [if_pos h1]
      refine hc _ _ _ (hp.lt hN0 _) (hp.lt hN0 _) ?_
      by_cases hlt : pk K p 0 < pk K p (n - 1)
      · have e : decide (K (p.getD 0 0) < K (p.getD (n - 1) 0)) = true := decide_eq_true hlt
        rw [e]
        show (if true = true then KasT.ret (n, p) else _).kasWp cmp Q s
        rw [if_pos rfl]
        exact h n p hp (by omega) (by omega) hR
      · have e : decide (K (p.getD 0 0) < K (p.getD (n - 1) 0)) = false := decide_eq_false hlt
        rw [e]
        show (if false = true then KasT.ret (n, p) else kas_descPart n N (kas_rev p 0 n)).kasWp cmp Q s
        rw [if_neg (by simp)]
        -- all alike below n
        have up : ∀ t u, t ≤ u → u < n → pk K p t ≤ pk K p u := by
          intro t u htu hu
          induction u with
          | zero => rw [show t = 0 by omega]; exact Int.le_refl _
          | succ u ih =>
            by_cases e : t = u + 1
            · rw [e]; exact Int.le_refl _
            · have i := ih (by omega) (by omega)
              have := c (u + 1) (by omega) hu
              simp only [Nat.add_sub_cancel] at this
              omega
        have like : ∀ t, t < n → pk K p t = pk K p (n - 1) := fun t ht => by
          have x := up 0 t (by omega) ht
          have y := up t (n - 1) (by omega) (by omega)
          omega
        have er : ∀ t, pk K (kas_rev p 0 n) t = pk K p t := fun t => by
          rw [pk_rev K (by omega)]
          split
          · rw [like t (by omega), like _ (by omega)]
          · rfl
        refine tr_descPart hc hN0 (hp.rev 0 n) (by omega) (fun t h1 h2 => ?_) h
        rw [er, er]
        by_cases ht : t = n
        · subst ht; omega
        · rw [like t (by omega), like (t - 1) (by omega)]; exact Int.le_refl _
    · rw [if_neg h1]
      have : n = 1 := by omega
      subst this
      refine tr_descPart hc hN0 hp (by omega) (fun t h1 h2 => ?_) h
      have : t = 1 := by omega
      subst this; omega
theorem tr_place (hc : PureCmp cmp K N s) (hN : 0 < N) {p : Array Nat} (hp : PermN N p) {k : Nat} (hR : Rise K p k) : ∀ (f l r : Nat) (Q : Nat → Shared → Prop), r ≤ k → l ≤ r → r ≤ l + f →
    (∀ t, t < l → pk K p t ≤ pk K p k) → (∀ t, r ≤ t → t < k → pk K p k < pk K p t) →
    (∀ l', l' ≤ k → (∀ t, t < l' → pk K p t ≤ pk K p k) → (∀ t, l' ≤ t → t < k → pk K p k < pk K p t) → Q l' s) → (kas_place p k f l r).kasWp cmp Q s := by
  have up : ∀ t u, t ≤ u → u < k → pk K p t ≤ pk K p u := by
    intro t u htu hu
    induction u with
    | zero => rw [show t = 0 by omega]; exact Int.le_refl _
    | succ u ih =>
      by_cases e : t = u + 1
      · rw [e]; exact Int.le_refl _
      · have i := ih (by omega) (by omega)
        have := hR (u + 1) (by omega) hu
        simp only [Nat.add_sub_cancel] at this
        omega
  intro f
  induction f with
  | zero => exact fun l r Q h1 h2 h3 ha hb h => h l (by omega) ha (fun t x y => hb t (by omega) y)
  | succ f ih =>
    intro l r Q h1 h2 h3 ha hb h
    unfold kas_place
    by_cases hlr : l ≥ r
    · rw [if_pos hlr]
      exact h l (by omega) ha (fun t x y => hb t (by omega) y)
    · rw [if_neg hlr]
      refine hc _ _ _ (hp.lt hN _) (hp.lt hN _) ?_
      have hm1 : l ≤ (l + r) / 2 := by omega
      have hm2 : (l + r) / 2 < r := by omega
      generalize (l + r) / 2 = mid at hm1 hm2
      by_cases hlt : pk K p k < pk K p mid
      · have e : decide (K (p.getD k 0) < K (p.getD mid 0)) = true := decide_eq_true hlt
        rw [e]
        show (if true = true then kas_place p k f l mid else kas_place p k f (mid + 1) r).kasWp cmp Q s
        rw [if_pos rfl]
        refine ih l mid Q (by omega) hm1 (by omega) ha (fun t x y => ?_) h
        have := up mid t x y
        omega
      · have e : decide (K (p.getD k 0) < K (p.getD mid 0)) = false := decide_eq_false hlt
        rw [e]
        show (if false = true then kas_place p k f l mid else kas_place p k f (mid + 1) r).kasWp cmp Q s
        rw [if_neg (by simp)]
        refine ih (mid + 1) r Q h1 (by omega) (by omega) (fun t x => ?_) hb h
        have := up t mid (by omega) (by omega)
        omega
theorem tr_bin (hc : PureCmp cmp K N s) (hN : 0 < N) : ∀ (f : Nat) (p : Array Nat) (k : Nat) (Q : Array Nat → Shared → Prop), PermN N p → k + f = N → Rise K p k → (∀ p', PermN N p' → Rise K p' N → Q p' s) → (kas_bin f p k).kasWp cmp Q s
  | 0, p, k, Q, hp, hk, hR, h => h p hp (by rw [← hk]; exact hR)
  | f + 1, p, k, Q, hp, hk, hR, h => by
    unfold kas_bin
    rw [KasT.kasWp_bind]
    have hsz := hp.size
    refine tr_place hc hN hp hR k 0 k _ (Nat.le_refl _) (Nat.zero_le _) (by omega) (fun t ht => absurd ht (Nat.not_lt_zero _)) (fun t h1 h2 => absurd h2 (by omega)) fun l a b c => ?_
    refine tr_bin hc hN f _ (k + 1) Q (hp.bub _ _) (by omega) (fun t h1 h2 => ?_) h
    rw [pk_bubble K (by omega) a, pk_bubble K (by omega) a]
    have hb := b (t - 1)
    have hcc := c t
    have hr := hR t h1
    have hr1 := hR (t - 1)
    by_cases e1 : t = l
    · rw [if_pos e1, if_neg (by omega), if_neg (by omega)]
      exact hb (by omega)
    · rw [if_neg e1]
      by_cases e2 : t - 1 = l
      · rw [if_pos e2, if_pos (by omega)]
        rw [e2]
        have := c l (Nat.le_refl _) (by omega)
        omega
      · rw [if_neg e2]
        by_cases e3 : l < t ∧ t ≤ k
        · rw [if_pos e3, if_pos (by omega)]
          exact hr1 (by omega) (by omega)
        · rw [if_neg e3, if_neg (by omega)]
          exact hr (by omega)
/-- the sort's tree, asked without effect -/
theorem tr_sort (hc : PureCmp cmp K N s) (hN : 2 ≤ N) {Q : Array Nat → Shared → Prop} (h : ∀ p', PermN N p' → Rise K p' N → Q p' s) : (kas_sort N).kasWp cmp Q s := by
  unfold kas_sort
  rw [KasT.kasWp_bind]
  refine tr_count hc hN (show PermN N (List.toArray (List.range N)) from Array.Perm.refl _) fun m p' a b c d => ?_
  dsimp only
  split
  · refine tr_bin hc (by omega) _ p' (max m 1) Q a (by omega) ?_ h
    rw [show max m 1 = m by omega]; exact d
  · have : m = N := by omega
    subst this
    exact h p' a d
end
theorem rise_pairwise {K : Nat → Int} {N : Nat} {p : Array Nat} (hp : PermN N p) (hR : Rise K p N) : p.toList.Pairwise (fun i j => K i ≤ K j) := by
  have hsz := hp.size
  rw [List.pairwise_iff_getElem]
  intro i j hi hj hij
  have up : ∀ u, i ≤ u → u < N → pk K p i ≤ pk K p u := by
    intro u
    induction u with
    | zero => intro h _; rw [show i = 0 by omega]; exact Int.le_refl _
    | succ u ih =>
      intro h1 h2
      by_cases e : i = u + 1
      · rw [e]; exact Int.le_refl _
      · have := ih (by omega) (by omega)
        have := hR (u + 1) (by omega) h2
        simp only [Nat.add_sub_cancel] at this
        omega
  have hj' : j < N := by rw [← hsz]; simpa using hj
  have hi' : i < p.size := by simpa using hi
  have := up j (by omega) hj'
  unfold pk at this
  rw [Array.getD_eq_getD_getElem?, Array.getD_eq_getD_getElem?, getElem?_pos p i hi', getElem?_pos p j (by omega)] at this
  simpa using this
end TS0
section TS1
set_option maxRecDepth 100000
set_option maxHeartbeats 4000000
theorem Ext.same {hb h h' : Heap} {a : Addr} (x : Ext hb h) (hs : Heap.SameBut a h h') (h0 : hb.get? a = none) : Ext hb h' :=
  fun b o e => (hs.2 b (fun q => by rw [q, h0] at e; cases e)).trans (x b o e)
theorem Ext.trans {h1 h2 h3 : Heap} (x : Ext h1 h2) (y : Ext h2 h3) : Ext h1 h3 := fun b o e => y b o (x b o e)
theorem Ext.push {hb h : Heap} (x : Ext hb h) (o' : Obj) : Ext hb (h.push o') := fun b o e => Heap.get?_push_of_some _ (x b o e)
theorem Ext.fresh {hb h : Heap} (x : Ext hb h) {a : Addr} (ha : h.objs.size ≤ a) : hb.get? a = none := by
  cases e : hb.get? a with
  | none => rfl
  | some o => exact absurd (Heap.lt_size (x a o e)) (Nat.not_lt.mpr ha)
section
variable {prog : Program} {w : World} {A : Around} {E : Value → Shared → Prop} {s : Shared} {hb : Heap} {vs : List Value} {a kS : Addr} {e e1 : Nat} {P : PySem.Fin → Shared → Prop}
/-- what the keys are -/
structure KeyBook (prog : Program) (w : World) (A : Around) (G : Nat → Value → List (Addr × Obj) → Prop) (K : Nat → Int) (T : Value) : Prop where
  looks : ∀ (i : Nat) kv nd (h : Heap), G i kv nd → (∀ p ∈ nd, h.get? p.1 = some p.2) → Looks (model prog w) h (typeOf kv) T
  t1 : (T != Value.type "tuple") = true
  t2 : (T == T) = true
  cmp : ∀ (i j : Nat) kv kv' nd nd' (s' : Shared) (Q' : Bool → Shared → Prop), G i kv nd → G j kv' nd' → (∀ p ∈ nd, s'.heap.get? p.1 = some p.2) → (∀ p ∈ nd', s'.heap.get? p.1 = some p.2) → Q' (decide (K i < K j)) s' →
    wpAny (model prog w) A (keyLt' oneType' kv kv') Q' (fun _ _ => False) s'
variable {G : Nat → Value → List (Addr × Obj) → Prop} {K : Nat → Int} {T : Value}
/-- the keys that are made so far -/
noncomputable def KeysAt (G : Nat → Value → List (Addr × Obj) → Prop) (kS a : Addr) (h : Heap) (kA : Array Value) : Prop :=
  ∀ (j : Nat), j < kA.size → ∃ kv nd, kA[j]? = some kv ∧ G j kv nd ∧ ∀ p ∈ nd, h.get? p.1 = some p.2 ∧ p.1 ≠ kS ∧ p.1 ≠ a
theorem kas_item_zip (keys : Array Value) (vs : List Value) (hz : keys.size = vs.length) {i : Nat} (hi : i < vs.length) : kas_item (keys.zip vs.toArray) i = (keys.getD i .none, vs.getD i .none) := by
  unfold kas_item
  have h1 : i < (keys.zip vs.toArray).size := by rw [Array.size_zip, hz, List.size_toArray, Nat.min_self]; exact hi
  have e : (keys.zip vs.toArray).getD i (Value.none, Value.none) = (keys.zip vs.toArray)[i] := by
    have h3 : i < min keys.size vs.length := by omega
    simp [Array.getD, h3]
  rw [e, Array.getElem_zip]
  have h2 : i < keys.size := by omega
  simp [Array.getD, h2, List.getD, hi]
theorem gs_end (B : KeyBook prog w A G K T) {keys : Array Value} (hx : Ext hb s.heap) (hk : s.heap.get? kS = some (seqObj "list" keys e)) (ha : s.heap.get? a = some (seqObj "list" #[] e1)) (hka : kS ≠ a) (hk0 : hb.get? kS = none) (ha0 : hb.get? a = none)
    (hK : KeysAt G kS a s.heap keys) (hsz : keys.size = vs.length) (h2 : 2 ≤ vs.length) (h64 : vs.length < 64)
    (h : ∀ h' tk (p : List Nat) c, Ext hb h' → h'.get? a = some (seqObj "list" (p.map fun i => vs.getD i .none).toArray c) → p.Perm (List.range vs.length) → p.Pairwise (fun i j => K i ≤ K j) → P (.done (.ret .none)) { s with heap := h', toks := tk }) :
    wpAny (model prog w) A (ksk_end a false vs.toArray e1 (.ref kS) keys) P E s := by
  unfold ksk_end
  simp only [Bool.false_eq_true, if_false]
  have hn2 : ¬ vs.toArray.size < 2 := by rw [List.size_toArray]; omega
  rw [if_neg hn2, if_neg hn2]
  have hkeys : keys = keys.toList.toArray := by simp
  have kl : ∀ kv ∈ keys.toList, ∃ i nd, G i kv nd ∧ ∀ p ∈ nd, s.heap.get? p.1 = some p.2 := by
    intro kv hm
    obtain ⟨i, hi, e⟩ := List.mem_iff_getElem.mp hm
    have hi' : i < keys.size := by simpa using hi
    obtain ⟨kv', nd, e2, hG, hn⟩ := hK i hi'
    rw [getElem?_pos keys i hi'] at e2
    have : kv' = kv := by rw [← e]; simpa using (Option.some.inj e2).symm
    subst this
    exact ⟨i, nd, hG, fun p hp => (hn p hp).1⟩
  have kk : wpAny (model prog w) A (keyKind' keys) (fun k s' => k = oneType' ∧ s' = s) E s := by
    rw [hkeys]
    refine kas_kind (T := T) (by rw [Array.length_toList]; omega) (fun v hv => ?_) B.t1 B.t2 ⟨rfl, rfl⟩
    obtain ⟨i, nd, hG, hn⟩ := kl v hv
    exact B.looks i v nd _ hG hn
  refine wpAny_bind (wpAny_mono kk ?_ fun _ _ e => e)
  rintro _ _ ⟨rfl, rfl⟩
  have hzs : (keys.zip vs.toArray).size = vs.length := by rw [Array.size_zip, hsz, List.size_toArray, Nat.min_self]
  have est : SortSt.mk' oneType' (keys.zip vs.toArray) #[] 7 none = kas_st oneType' (keys.zip vs.toArray) (List.toArray (List.range vs.length)) := by
    have e := kas_range (keys.zip vs.toArray)
    rw [hzs] at e
    show _ = SortSt.mk' oneType' ((List.toArray (List.range vs.length)).map (kas_item (keys.zip vs.toArray))) #[] 7 none
    rw [e]
  rename_i s
  have hpure : PureCmp (kas_cmp prog w A oneType' (keys.zip vs.toArray)) K vs.length s := by
    intro i j C hi hj hC
    unfold kas_cmp
    rw [kas_item_zip keys vs hsz hi, kas_item_zip keys vs hsz hj]
    obtain ⟨kv, nd, q1, hG, hn⟩ := hK i (by omega)
    obtain ⟨kv', nd', q2, hG', hn'⟩ := hK j (by omega)
    have g1 : keys.getD i .none = kv := by rw [Array.getD_eq_getD_getElem?, q1]; rfl
    have g2 : keys.getD j .none = kv' := by rw [Array.getD_eq_getD_getElem?, q2]; rfl
    show wpAny (model prog w) A (keyLt' oneType' (keys.getD i .none) (keys.getD j .none)) C _ s
    rw [g1, g2]
    exact B.cmp i j kv kv' nd nd' s C hG hG' (fun p hp => (hn p hp).1) (fun p hp => (hn' p hp).1) hC
  have run := kas_runs (E := E) (Q := fun _ st' s' => s' = s ∧ ∃ p : Array Nat, PermN vs.length p ∧ Rise K p vs.length ∧ arrOf st' = p.map (kas_item (keys.zip vs.toArray)) ∧ failedOf st' = none)
    (G := fun p s' => s' = s ∧ PermN vs.length p ∧ Rise K p vs.length)
    h2 h64 (fun p' st' s' a1 a2 a3 a4 => ⟨a4.1, p', a4.2.1, a4.2.2, a2, a3⟩) (tr_sort hpure h2 fun p' a b => ⟨rfl, a, b⟩)
  rw [← est] at run
  refine wpAny_bind (wpAny_mono run ?_ fun _ _ e => e)
  rintro ⟨⟨⟩, st'⟩ s' ⟨es, p, hp, hR, har, hf⟩
  rw [es]
  clear es
  dsimp only
  have hout : (arrOf st').map (·.2) = List.toArray (p.toList.map fun i => vs.getD i Value.none) := by
    apply Array.toList_inj.mp
    rw [har, Array.map_map, Array.toList_map]
    refine List.map_congr_left fun i hi => ?_
    have hi' : i < vs.length := by
      have := (Array.Perm.mem_iff hp).mp (Array.mem_toList_iff.mp hi)
      simpa using this
    show (kas_item (keys.zip vs.toArray) i).2 = _
    rw [kas_item_zip keys vs hsz hi']
  have hpl : (p.toList.map fun i => vs.getD i Value.none).length = vs.length := by rw [List.length_map, Array.length_toList, hp.size]
  unfold ksk_tail
  dsimp only
  rw [hout]
  have s1 := Heap.SameBut.update s.heap kS (Obj.mapSeq fun _ => (#[] : Array Value))
  have na1 : (s.heap.update kS (Obj.mapSeq fun _ => (#[] : Array Value))).get? a = some (seqObj "list" #[] e1) := (s1.2 a hka.symm).trans ha
  have s2 := Heap.SameBut.update (s.heap.update kS (Obj.mapSeq fun _ => (#[] : Array Value))) a (Obj.mapSeq fun _ => List.toArray (p.toList.map fun i => vs.getD i Value.none))
  obtain ⟨c2, hc2⟩ : ∃ c2, ((s.heap.update kS (Obj.mapSeq fun _ => (#[] : Array Value))).update a (Obj.mapSeq fun _ => List.toArray (p.toList.map fun i => vs.getD i Value.none))).get? a = some (seqObj "list" (List.toArray (p.toList.map fun i => vs.getD i Value.none)) c2) :=
    ⟨_, get?_update_seq na1 fun _ => List.toArray (p.toList.map fun i => vs.getD i Value.none)⟩
  refine wpAny_bind (listUpdate_at hk rfl ?_ (by rw [hsz, sizeLine_eq]; omega) (Nat.zero_le _))
  refine wpAny_bind (wpAny_letGo ?_)
  refine wpAny_bind (seqEpoch_at na1 rfl ?_)
  refine wpAny_bind (listUpdate_at na1 rfl ?_ (Nat.zero_le _) (by simp only [Bool.false_eq_true, if_false]; rw [List.size_toArray, hpl, sizeLine_eq]; omega))
  rw [hf]
  simp only [bne_self_eq_false, Bool.false_eq_true, if_false]
  refine wpAny_pure (h _ _ p.toList c2 ((hx.same s1 hk0).same s2 ha0) hc2 ?_ (rise_pairwise hp hR))
  have := Array.perm_iff_toList_perm.mp hp
  simpa using this
theorem gs_rest (B : KeyBook prog w A G K T) {f : Value} (hx : Ext hb s.heap) (hk : s.heap.get? kS = some (seqObj "list" #[] 0)) (ha : s.heap.get? a = some (seqObj "list" #[] e1)) (hka : kS ≠ a) (hk0 : hb.get? kS = none) (ha0 : hb.get? a = none)
    (h2 : 2 ≤ vs.length) (h64 : vs.length < 64)
    (turn : ∀ (i : Nat) (v : Value) (h : Heap) (tk : Nat), vs[i]? = some v → Ext hb h → wpAny (model prog w) A (call f [v])
      (fun kv s' => ∃ h' tk' nd, s' = { s with heap := h', toks := tk' } ∧ Ext h h' ∧ (∀ p ∈ nd, h.get? p.1 = none ∧ h'.get? p.1 = some p.2) ∧ G i kv nd) (fun _ _ => False) { s with heap := h, toks := tk })
    (h : ∀ h' tk (p : List Nat) c, Ext hb h' → h'.get? a = some (seqObj "list" (p.map fun i => vs.getD i .none).toArray c) → p.Perm (List.range vs.length) → p.Pairwise (fun i j => K i ≤ K j) → P (.done (.ret .none)) { s with heap := h', toks := tk }) :
    wpAny (model prog w) A (ksk_rest a f false vs.toArray e1 (.ref kS)) P E s := by
  unfold ksk_rest
  refine wpAny_bind (wpAny_rule ?_)
  first
    | rw [List.forIn_toArray]
    | (rw [← Array.forIn_toList]; simp only [List.toList_toArray])
    | rw [← Array.forIn_toList]
  refine wpAny_bind (ksk_fold (fun i s' => ∃ h' tk kA e, s' = { s with heap := h', toks := tk } ∧ Ext hb h' ∧ h'.get? kS = some (seqObj "list" kA e) ∧ h'.get? a = some (seqObj "list" #[] e1) ∧ kA.size = i ∧ KeysAt G kS a h' kA) vs 0 s
    ⟨s.heap, s.toks, #[], 0, rfl, hx, hk, ha, rfl, fun j hj => absurd hj (Nat.not_lt_zero _)⟩ ?step ?done)
  case step =>
    rintro j x s' hxj ⟨h', tk, kA, e, rfl, hx', hk', ha', hsz, hK⟩
    simp only [Nat.zero_add] at hsz ⊢
    have hj : j < vs.length := (List.getElem?_eq_some_iff.mp hxj).1
    refine wpAny_bind (wpAny_attempt (wpAny_mono (turn j x h' tk hxj hx') (fun kv s'' he => ?_) fun _ _ hF => hF.elim))
    obtain ⟨g, tk2, nd, rfl, hg, hnd, hG⟩ := he
    dsimp only
    have nk := hg _ _ hk'
    have na := hg _ _ ha'
    have s1 := Heap.SameBut.update g kS (Obj.mapSeq (·.push kv))
    obtain ⟨c2, hc2⟩ : ∃ c2, (g.update kS (Obj.mapSeq (·.push kv))).get? kS = some (seqObj "list" (kA.push kv) c2) := ⟨_, get?_update_seq nk (·.push kv)⟩
    refine wpAny_bind (listUpdate_at nk rfl ?_ (by rw [sizeLine_eq]; omega) (Nat.le_trans (Nat.le_of_eq (Array.size_push ..)) (by rw [sizeLine_eq]; omega)))
    refine wpAny_pure ⟨rfl, _, _, kA.push kv, c2, rfl, (hx'.trans hg).same s1 hk0, hc2, (s1.2 a hka.symm).trans na, by rw [Array.size_push, hsz], fun i hi => ?_⟩
    rw [Array.size_push] at hi
    by_cases e : i = kA.size
    · subst e
      refine ⟨kv, nd, by simp, by rw [hsz]; exact hG, fun p hp => ?_⟩
      obtain ⟨q1, q2⟩ := hnd p hp
      have n1 : p.1 ≠ kS := fun q => by rw [q, hk'] at q1; cases q1
      have n2 : p.1 ≠ a := fun q => by rw [q, ha'] at q1; cases q1
      exact ⟨(s1.2 _ n1).trans q2, n1, n2⟩
    · obtain ⟨kv', nd', q1, hG', hn⟩ := hK i (by omega)
      refine ⟨kv', nd', ?_, hG', fun p hp => ?_⟩
      · rw [Array.getElem?_push_lt (by omega)]; rw [← q1]; exact (getElem?_pos kA i (by omega)).symm
      · obtain ⟨r1, r2, r3⟩ := hn p hp
        exact ⟨(s1.2 _ r2).trans (hg _ _ r1), r2, r3⟩
  case done =>
    rintro s' ⟨h', tk, kA, e, rfl, hx', hk', ha', hsz, hK⟩
    simp only [Nat.zero_add] at hsz
    refine wpAny_bind (listItems_at hk' rfl ?_)
    exact gs_end (s := { s with heap := h', toks := tk }) B hx' hk' ha' hka hk0 ha0 hK hsz h2 h64 fun h3 tk3 p c x1 x2 x3 x4 => h h3 tk3 p c x1 x2 x3 x4
theorem gs_tree {f : Value} {n : Nat} (B : KeyBook prog w A G K T) (hx : Ext hb s.heap) (ho : s.heap.get? a = some (seqObj "list" vs.toArray n)) (ha0 : hb.get? a = none) (h2 : 2 ≤ vs.length) (h64 : vs.length < 64)
    (turn : ∀ (i : Nat) (v : Value) (h : Heap) (tk : Nat), vs[i]? = some v → Ext hb h → wpAny (model prog w) A (call f [v])
      (fun kv s' => ∃ h' tk' nd, s' = { s with heap := h', toks := tk' } ∧ Ext h h' ∧ (∀ p ∈ nd, h.get? p.1 = none ∧ h'.get? p.1 = some p.2) ∧ G i kv nd) (fun _ _ => False) { s with heap := h, toks := tk })
    (h : ∀ h' tk (p : List Nat) c, Ext hb h' → h'.get? a = some (seqObj "list" (p.map fun i => vs.getD i .none).toArray c) → p.Perm (List.range vs.length) → p.Pairwise (fun i j => K i ≤ K j) → P (.done (.ret .none)) { s with heap := h', toks := tk }) :
    wpAny (model prog w) A (ksk_tree a f false) P E s := by
  have ha : a < s.heap.objs.size := Heap.lt_size ho
  have s1 := Heap.SameBut.update s.heap a (Obj.mapSeq fun _ => (#[] : Array Value))
  obtain ⟨e1, ho1⟩ : ∃ e1, (s.heap.update a (Obj.mapSeq fun _ => (#[] : Array Value))).get? a = some (seqObj "list" #[] e1) := ⟨_, get?_update_seq ho fun _ => #[]⟩
  have hkS : ((s.heap.update a (Obj.mapSeq fun _ => (#[] : Array Value))).push (seqObj "tuple" vs.toArray 0)).objs.size = s.heap.objs.size + 1 := by rw [size_push', Heap.size_update]
  unfold ksk_tree
  refine wpAny_bind (listItems_at ho rfl ?_)
  refine wpAny_bind (listUpdate_at ho rfl ?_ (by rw [List.size_toArray, sizeLine_eq]; omega) (Nat.zero_le _))
  refine wpAny_bind (seqEpoch_at ho1 rfl ?_)
  refine wpAny_bind (wpAny_newTuple ?_ (by show vs.length ≤ _; rw [sizeLine_eq]; omega))
  refine wpAny_bind (wpAny_newList ?_ (Nat.zero_le _))
  refine wpAny_holding ?_
  exact gs_rest (s := { s with heap := ((s.heap.update a (Obj.mapSeq fun _ => (#[] : Array Value))).push (seqObj "tuple" vs.toArray 0)).push (seqObj "list" #[] 0) }) (kS := ((s.heap.update a (Obj.mapSeq fun _ => (#[] : Array Value))).push (seqObj "tuple" vs.toArray 0)).objs.size)
    B (((hx.same s1 ha0).push _).push _) (Heap.get?_push_size _ rfl) (Heap.get?_push_of_some _ (Heap.get?_push_of_some _ ho1)) (by rw [hkS]; exact Nat.ne_of_gt (Nat.lt_succ_of_lt ha)) (((hx.same s1 ha0).push _).fresh (Nat.le_refl _)) ha0 h2 h64 turn h
end
section
variable {prog : Program} {w : World} {A : Around} {E : Value → Shared → Prop} {s : Shared} {vs : List Value} {l : Addr} {Q : Value → Shared → Prop} {G : Nat → Value → List (Addr × Obj) → Prop} {T : Value}
/-- what sorted takes its items from -/
noncomputable def Collects (prog : Program) (w : World) (A : Around) (xv : Value) (Pv : List Value → Prop) (s : Shared) : Prop :=
  ∀ (Q' : List Value → Shared → Prop) (E : Value → Shared → Prop), (∀ h' tk vs, Ext s.heap h' → Pv vs → Q' vs { s with heap := h', toks := tk }) → wpAny (model prog w) A (collect xv) Q' E s
theorem Collects.list (hl : s.heap.IsList l vs.toArray) (h64 : vs.length < 64) : Collects prog w A (.ref l) (fun us => us = vs) s := fun Q' E h => by
  refine collect_list hl (h _ _ _ (fun b o q => ?_) rfl) (by rw [sizeLine_eq]; omega)
  have hlt : b < s.heap.objs.size := Heap.lt_size q
  rw [Heap.get?_update_ne _ _ _ _ (Nat.ne_of_lt hlt), Heap.get?_push_ne _ _ _ (Nat.ne_of_lt hlt)]
  exact q
theorem proto_collect_range {R : Result → Shared → Prop} {r : Addr} {b : Int} {t u v : Tok} {n : Nat} (hh : A.handled = none) (hr : IsRange s.heap r 0 b 1 t u v) (hb : b = (n : Int)) (hlen : n ≤ 2 ^ 24)
    (h : ∀ h' tk acc c, Ext s.heap h' → h'.get? s.heap.objs.size = some { cls := .type "list", dict := none, data := .seq acc c, slots := #[] } → ItemsOf (fun i v => ∃ t, v = .int (0 + i * 1) t) acc n → R (.ok (.ret (.ref s.heap.objs.size))) { s with heap := h', toks := tk }) :
    codeAny (model prog w) A (.builtin "proto.collect" ⟨[.ref r], []⟩) R s := by
  subst hb
  have h1 : Builtin.Range.rangeSize 0 (n : Int) 1 = ((n : Nat) : Int) := by
    rw [rangeSize_one]; split <;> omega
  refine codeAny_builtin F.entry_proto_collect ?_
  rw [Around.under_plainId F.plain_proto_collect _]
  show wpAny _ A.in1 (newList [] >>= fun l => again (.builtin "list.__iadd__" ⟨[l, .ref r], []⟩)) _ _ s
  refine wpAny_bind (wpAny_newObj_type ?_)
  refine wpAny_pure ⟨plainId_quiet F.plain_list_iadd _, codeAny_builtin F.entry_list_iadd ?_⟩
  rw [Around.under_plainId F.plain_list_iadd _]
  show wpAny _ A.in1 (Builtin.List.listExtendWith (.ref s.heap.objs.size) (.ref r) (.ref s.heap.objs.size)) _ _ _
  exact wpAny_extend_range (R := R) (s := { s with heap := s.heap.push { cls := .type "list", data := .seq #[] } }) (A := A) (n := n) hh (Heap.get?_push_of_some _ hr) (small_one (by decide) (by decide) (by omega) (by omega)) h1 hlen _ _ 0 (Heap.get?_push_size _ rfl) fun h' tk acc' c' hk hS hacc =>
    h h' tk acc' c' (fun b o e => hk b o (Nat.ne_of_lt (Heap.lt_size e)) (Heap.get?_push_of_some _ e)) hS hacc
theorem Collects.range {r : Addr} {b : Int} {t u v : Tok} {n : Nat} (hh : A.handled = none) (hr : IsRange s.heap r 0 b 1 t u v) (hb : b = (n : Int)) (hlen : n ≤ 2 ^ 24) :
    Collects prog w A (.ref r) (fun us => us.length = n ∧ ∀ i, i < n → ∃ t, us[i]? = some (.int (i : Int) t)) s := fun Q' E h => by
  unfold collect
  refine wpAny_bind (wpAny_runValue (proto_collect_range hh hr hb hlen fun h' tk acc' c' hk hS hacc => ?_))
  show wpAny _ A (load s.heap.objs.size >>= _) _ _ _
  refine wpAny_bind (wpAny_load hS ?_)
  refine wpAny_pure (h h' tk acc'.toList hk ⟨by rw [Array.length_toList]; exact hacc.1, fun i hi => ?_⟩)
  have hi' : i < acc'.size := by rw [hacc.1]; exact hi
  obtain ⟨t, ht⟩ := hacc.2 i acc'[i] (getElem?_pos acc' i hi')
  refine ⟨t, ?_⟩
  rw [Array.getElem?_toList, getElem?_pos acc' i hi', ht]
  simp
/-- sorted(xs, key=f), the keys' order told by K -/
theorem gsorted (K : Nat → Int) {Pv : List Value → Prop} {xv : Value} {f : Value} {kw : List (Str × Value)} (hl : Collects prog w A.in1 xv Pv s) (h2 : ∀ vs, Pv vs → 2 ≤ vs.length ∧ vs.length < 64)
    (ha1 : argsOk "sorted" ⟨[xv], kw⟩) (ha2 : ∀ x, argsOk "list.sort" ⟨[.ref x], kw⟩) (ht : ∀ x, Builtin.«list.sort» ⟨[.ref x], kw⟩ = ksk_tree x f false)
    (B : KeyBook prog w A.in1.in1 G K T)
    (turn : ∀ vs, Pv vs → ∀ (i : Nat) (v : Value) (h : Heap) (tk : Nat), vs[i]? = some v → Ext s.heap h → wpAny (model prog w) A.in1.in1 (call f [v])
      (fun kv s' => ∃ h' tk' nd, s' = { s with heap := h', toks := tk' } ∧ Ext h h' ∧ (∀ p ∈ nd, h.get? p.1 = none ∧ h'.get? p.1 = some p.2) ∧ G i kv nd) (fun _ _ => False) { s with heap := h, toks := tk })
    (h : ∀ vs, Pv vs → ∀ D h' tk (p : List Nat) c, Ext s.heap h' → s.heap.get? D = none → h'.get? D = some (W.listOf (p.map fun i => vs.getD i .none).toArray c) → p.Perm (List.range vs.length) → p.Pairwise (fun i j => K i ≤ K j) → Q (.ref D) { s with heap := h', toks := tk }) :
    wpAny (model prog w) A (call (.builtin "sorted") [xv] kw) Q E s := by
  refine call_function_entry_kw kind_sorted plain_sorted entry_sorted ha1 ?_
  unfold Builtin.«sorted»
  refine wpAny_bind (m := checkCount "sorted" 1 1 _) (wpAny_pure ?_)
  refine wpAny_bind (hl _ _ fun h1 tk1 vs hx1 hv => ?_)
  have hsz := h2 vs hv
  refine wpAny_bind (wpAny_newList ?_ (by rw [sizeLine_eq]; omega))
  have hoL : (h1.push (seqObj "list" vs.toArray 0)).get? h1.objs.size = some (seqObj "list" vs.toArray 0) := Heap.get?_push_size _ rfl
  have keep : Ext s.heap (h1.push (seqObj "list" vs.toArray 0)) := hx1.push _
  have hn : s.heap.get? h1.objs.size = none := hx1.fresh (Nat.le_refl _)
  show wpAny _ _ _ _ _ { s with heap := h1.push (seqObj "list" vs.toArray 0), toks := tk1 }
  refine wpAny_bind (wpAny_holding (wpAny_call_entry_kw slot_list_sort ⟨_, hoL, rfl⟩ entry_list_sort ?body (ha2 _)))
  case body =>
    have ht' := ht h1.objs.size
    show wpAny (model prog w) A.in1.in1 (Builtin.«list.sort» ⟨[.ref h1.objs.size], kw⟩) _ _ _
    rw [ht']
    refine gs_tree (s := { s with heap := h1.push (seqObj "list" vs.toArray 0), toks := tk1 }) B keep hoL hn hsz.1 hsz.2 (turn vs hv) fun h' tk p c x1 x2 x3 x4 => ⟨_, rfl, ?_⟩
    exact wpAny_pure ⟨_, rfl, h vs hv _ h' tk p c x1 hn x2 x3 x4⟩
end
end TS1
section TS2
set_option maxRecDepth 100000
set_option maxHeartbeats 4000000
open AutoSeq1 (wpAny_loadPart')
open MeetsSeq MeetsSeq2 MeetsSeq3 PySem.F
theorem intsAt {vs : List Value} {ns : List Int} (h : IntsAre vs ns) {i : Nat} (hi : i < ns.length) : ∃ t, vs[i]? = some (.int (ns.getD i 0) t) := by
  obtain ⟨t, ht⟩ := h.get i ns[i] (List.getElem?_eq_getElem hi)
  exact ⟨t, by rw [ht]; simp [List.getD, List.getElem?_eq_getElem hi]⟩
theorem lt_loop (l b : Addr) (vs us : List Value) (ns ms : List Int) (n n2 : Nat) (hv : IntsAre vs ns) (hu : IntsAre us ms) (hsz : ns.length = ms.length) (k : Nat) :
    ∀ i : Nat, ns.length - i = k → Meets (Builtin.«list.__eq__.loop» ⟨[.ref l, .ref b, rawInt i, rawInt 0], []⟩)
      (fun _ R s => s.heap.get? l = some { cls := .type "list", dict := none, data := .seq vs.toArray n, slots := #[] } ∧ s.heap.get? b = some { cls := .type "list", dict := none, data := .seq us.toArray n2, slots := #[] } ∧
        R (.ok (.ret (.bool (decide (ns.drop i < ms.drop i))))) s) := by
  have l1 := hv.length
  have l2 := hu.length
  induction k with
  | zero =>
    intro i hk prog w A R s h
    obtain ⟨hp, g, d, tk, os⟩ := s; obtain ⟨hl, hb, h⟩ := h
    wp_walk using wpAny_loadPart' hl, wpAny_loadPart' hb
    have hi1 : vs.toArray[((i : Nat) : Int).toNat]? = none := by simp; omega
    have hi2 : us.toArray[((i : Nat) : Int).toNat]? = none := by simp; omega
    have hd : ns.drop i = [] := List.drop_eq_nil_of_le (by omega)
    have hd2 : ms.drop i = [] := List.drop_eq_nil_of_le (by omega)
    rw [hd, hd2] at h
    rw [hi1, hi2]
    wp_walk using wpAny_loadPart' hl, wpAny_loadPart' hb
    show R (.ok (.ret (.bool (decide (vs.toArray.size < us.toArray.size))))) _
    have e : decide (vs.toArray.size < us.toArray.size) = decide (([] : List Int) < []) := by simp; omega
    rw [e]; exact h
  | succ k ih =>
    intro i hk prog w A R s h
    obtain ⟨hp, g, d, tk, os⟩ := s; obtain ⟨hl, hb, h⟩ := h
    wp_walk using wpAny_loadPart' hl, wpAny_loadPart' hb
    have hlt : i < ns.length := by omega
    have hlt2 : i < ms.length := by omega
    obtain ⟨t1, e1⟩ := intsAt hv hlt
    obtain ⟨t2, e2⟩ := intsAt hu hlt2
    have hi1 : vs.toArray[((i : Nat) : Int).toNat]? = some (.int (ns.getD i 0) t1) := by simpa using e1
    have hi2 : us.toArray[((i : Nat) : Int).toNat]? = some (.int (ms.getD i 0) t2) := by simpa using e2
    have hd : ns.drop i = ns.getD i 0 :: ns.drop (i + 1) := by rw [List.drop_eq_getElem_cons hlt]; simp [List.getD, List.getElem?_eq_getElem hlt]
    have hd2 : ms.drop i = ms.getD i 0 :: ms.drop (i + 1) := by rw [List.drop_eq_getElem_cons hlt2]; simp [List.getD, List.getElem?_eq_getElem hlt2]
    have hc : ((i : Int) + 1) = ((i + 1 : Nat) : Int) := by push_cast; rfl
    rw [hd, hd2] at h
    rw [hi1, hi2]
    generalize ns.getD i 0 = x at *
    generalize ms.getD i 0 = y at *
    refine wpAny_bind (EqGives.int x y t1 t2 prog w _ _ _ _ ?_)
    by_cases hxy : x = y
    · subst hxy
      have hb' : (x == x) = true := by simp
      rw [hb']
      have h' : R (.ok (.ret (.bool (decide (ns.drop (i + 1) < ms.drop (i + 1)))))) { heap := hp, gens := g, drawn := d, toks := tk, os := os } := by
        have e : decide (x :: ns.drop (i + 1) < x :: ms.drop (i + 1)) = decide (ns.drop (i + 1) < ms.drop (i + 1)) := by
          simp [List.cons_lt_cons_iff]
        rw [e] at h; exact h
      wp_walk
      rw [hc]
      exact ⟨plainId_quiet plain_eq_loop _, codeAny_builtin entry_eq_loop (by
        rw [Around.under_plainId plain_eq_loop _]
        exact ih (i + 1) (by omega) prog w A R _ ⟨hl, hb, h'⟩)⟩
    · have hb' : (x == y) = false := by simpa using hxy
      rw [hb']
      have h' : R (.ok (.ret (.bool (decide (x < y))))) { heap := hp, gens := g, drawn := d, toks := tk, os := os } := by
        have e : decide (x :: ns.drop (i + 1) < y :: ms.drop (i + 1)) = decide (x < y) := by
          simp [List.cons_lt_cons_iff, hxy]
        rw [e] at h; exact h
      wp_walk using wpAny_loadPart' hl, wpAny_loadPart' hb
      rw [hi1, hi2]
      dsimp only
      refine wpAny_bind ?_
      show wpAny _ _ (compareOp .Lt (.int x t1) (.int y t2)) _ _ _
      refine lt_int ?_
      wp_walk
      exact h'
theorem list_lt_meets (l b : Addr) (vs us : List Value) (ns ms : List Int) (n n2 : Nat) (hv : IntsAre vs ns) (hu : IntsAre us ms) (hsz : ns.length = ms.length) :
    Meets (Builtin.«list.__lt__» ⟨[.ref l, .ref b], []⟩)
      (fun _ R s => s.heap.get? l = some { cls := .type "list", dict := none, data := .seq vs.toArray n, slots := #[] } ∧ s.heap.get? b = some { cls := .type "list", dict := none, data := .seq us.toArray n2, slots := #[] } ∧
        R (.ok (.ret (.bool (decide (ns < ms))))) s) := by
  intro prog w A R s h
  obtain ⟨hp, g, d, tk, os⟩ := s; obtain ⟨hl, hb, h⟩ := h
  have f3 := AutoSeq1.sub_list_list
  wp_walk using wpAny_loadPart' hl, wpAny_loadPart' hb
  exact ⟨plainId_quiet plain_eq_loop _, codeAny_builtin entry_eq_loop (by
    rw [Around.under_plainId plain_eq_loop _]
    exact lt_loop l b vs us ns ms n n2 hv hu hsz _ 0 rfl prog w A R _ ⟨hl, hb, by simpa using h⟩)⟩
section
variable {prog : Program} {w : World} {A : Around} {E : Value → Shared → Prop} {s : Shared}
theorem keyLt_lists {l b : Addr} {vs us : List Value} {ns ms : List Int} {n n2 : Nat} (hv : IntsAre vs ns) (hu : IntsAre us ms) (hsz : ns.length = ms.length) (hr : A.units < cLine)
    (hl : s.heap.get? l = some (W.listOf vs.toArray n)) (hb : s.heap.get? b = some (W.listOf us.toArray n2)) {Q : Bool → Shared → Prop} (h : Q (decide (ns < ms)) s) :
    wpAny (model prog w) A (keyLt' oneType' (.ref l) (.ref b)) Q E s := by
  rw [keyLt'_oneType, oneLt'_eq]
  simp only [if_true]
  refine wpAny_bind (wpAny_cRoomFor hr ?_)
  refine wpAny_bind (wpAny_callSpecialIfBound?_slot (T := "list") ⟨_, hl, rfl⟩ slot_list_lt ?_)
  refine call_meetsIn slot_list_lt ⟨_, hl, rfl⟩ entry_list_lt (args_list_lt_2 _ _) ((list_lt_meets l b vs us ns ms n n2 hv hu hsz).inModel prog w) ⟨hl, hb, ?_⟩
  show wpAny _ _ _ _ _ _
  exact wpAny_truthy_bool h
end
end TS2
section TC5
set_option maxRecDepth 100000
set_option maxHeartbeats 8000000
set_option rowWalk.seconds 0
open LCg (NsObj lst Off3 Off1)
theorem fillF_C5 (w : World) : PySem.Challenge.rw_oy0037_01.row.prog = PySem.Challenge.rw_oy0037_01.row.prog ∧ hd.heap_1 w.params = hd.heap_1 w.params := by
  k_fill
  exact ⟨rfl, rfl⟩
section
variable {w : World} {A : Around} {s : Shared}
theorem enterG {K : Frag} {name qual : Str} {params : Arguments} {body : List Stmt} {scope : Scope} {dV kV doc pm cdv ct oc : Value} {an od : Option Addr} {osl : Array (Option Value)} {f : Addr} {args : Args} {binds : List (Str × Value)} {prog : Program}
    {Q : Value → Shared → Prop} {E : Value → Shared → Prop}
    (X₀ : K.In s.heap) (hlim : s.heap.NoLimit)
    (ho : K.lookup f = some ⟨oc, od, .func (fnOf name qual params body scope dV kV doc pm an cdv ct), osl⟩) (hcd : codeIn K cdv qual = true) (hroom : A.depth < recursionLimit)
    (hbind : BindsTo s (fnOf name qual params body scope dV kV doc pm an cdv ct) args binds) (hkind : (binds.all fun y => scope.names.lookup y.1 == some .local || scope.names.lookup y.1 == some .cell) = true)
    (hnd : ((cellsFrom 0 scope.names []).map (·.1)).Nodup)
    (hb : ∀ L h₁ tk cells, Fr s.heap L h₁ (bindL (envOfC qual scope L f cdv).kindOf binds fun _ => none) → News s.heap L h₁ cells →
      CellsAre (bindC (envOfC qual scope L f cdv).kindOf binds fun _ => none) (cellsFrom (L + 1) scope.names []) cells →
      wpAny (model prog w) (A.deeper (envOfC qual scope L f cdv)) (execs body (envOfC qual scope L f cdv)) (fun g s' => ∃ v, g = .ret v ∧ Q v s') (fun _ _ => False) { s with heap := h₁, toks := tk })
    (hco : scope.isCoroutine = false := by rfl) (hgen : scope.isGenerator = false := by rfl) (hk : scope.kind = .function := by rfl)
     : wpAny (model prog w) A (call (.ref f) args.pos args.kw) Q E s := by
  refine wpAny_call ?_
  refine codeAny_call_function hroom (X₀ _ _ ho) rfl hco hgen rfl (codeRec_of X₀ hcd) (hbind _ _ _ _ ?_)
  refine wpAny_newFunctionEnv_cells hk (kindsX hkind _) fun env' he s' x => ?_
  subst he
  refine ⟨hlim.keeps x.toInCall.keep, codeAny_func ?_⟩
  obtain ⟨h₁, tk, rfl, _⟩ := x.done
  have hk₁ := x.toInCall.keep
  obtain ⟨cells, NC, Y⟩ := Cl.news (h₀ := s.heap) (Nat.le_refl _) fun n c hm => ⟨x.cell n c (lookup_of_mem_nodup (cellsFrom_names scope.names 0 (s.heap.objs.size + 1) [] [] rfl ▸ hnd) hm), x.above n c hm⟩
  refine wpAny_mono (hb s.heap.objs.size h₁ tk cells ⟨x.toInCall.ns, hk₁, Nat.le_refl _⟩ NC Y) (fun f s' hp => ?_) (fun _ _ hf => hf.elim)
  obtain ⟨v, rfl, hp⟩ := hp
  exact hp
end
noncomputable abbrev lamQ : Str := Str.ofString "_law_order" ++ ".<locals>." ++ "<lambda>"
/-- the table of _law_order's own code: empty, or its lambda's -/
noncomputable def LamTab (h : Heap) (ps : Array Value) : Prop := ps = #[] ∨ ∃ c', ps = #[rawInt 104, rawInt 41, .ref c'] ∧ h.CodeRec (.ref c') lamQ
section
variable {w : World} {A : Around} {s : Shared} {prog : Program}
/-- what stands when one object is hidden -/
noncomputable def LPost (hb : Heap) (ca : Addr) (oc : Obj) (s : Shared) (P : Value → Heap → Prop) (v : Value) (s' : Shared) : Prop :=
  ∃ h' tk', s' = { s with heap := h', toks := tk' } ∧ Ext hb h' ∧ h'.get? ca = some oc ∧ P v h'
theorem LPost.intro {h₀ h' : Heap} {L ca : Addr} {oc : Obj} {m : Str → Option Value} {P : Value → Heap → Prop} {v : Value} {tk' : Nat} {led : List (Addr × Obj)} (F : Fr h₀ L h' m) (N : News h₀ L h' led) (hm : (ca, oc) ∈ led) (hp : P v h') :
    LPost h₀ ca oc s P v { s with heap := h', toks := tk' } := ⟨h', tk', rfl, F.keep, (N _ hm).1, hp⟩
theorem hide_ext {h h' : Heap} {ca : Addr} {oc : Obj} (h1 : h.get? ca = some oc) (x : Ext (hideAll h [ca]) h') (h2 : h'.get? ca = some oc) : Ext h h' := fun b o e => by
  by_cases hb : b = ca
  · subst hb; rw [h1] at e; cases e; exact h2
  · exact x b o (hideAll_get _ e (by simpa using hb))
theorem hide_sub {hg h : Heap} {ca : Addr} (x : Ext hg h) (h0 : hg.get? ca = none) : Ext hg (hideAll h [ca]) := fun b o e => hideAll_get _ (x b o e) (by
  intro q; rw [List.mem_singleton.mp q, h0] at e; cases e)
theorem enterL {name qual : Str} {params : Arguments} {body : PySem.Expr} {scope : Scope} {cl : List (Str × Addr)} {pm ct : Value} {f c' ca : Addr} {args : Args} {binds : List (Str × Value)} {oc : Obj} {P : Value → Heap → Prop} {Q : Value → Shared → Prop} {E : Value → Shared → Prop}
    {p : Program} {loose : List Str} {mean : ExcName → Option Value} {mg mb : Str → Option Value} {hg : Heap} {d u : Nat} (G : Gd w A p loose mean mg mb hg d u) (hxg : Ext hg s.heap) (hgL : hg.get? ca = none)
    (ho : s.heap.get? f = some (kla_obj name qual params body scope cl pm c' ct)) (hcd : s.heap.CodeRec (.ref c') qual)
    (hbind : bindArgs (kla_fn name qual params body scope cl pm (.ref c') ct) args = pure binds) (hloc : ∀ y ∈ binds, scope.names.lookup y.1 = some .local) (hcell : ∀ x ∈ scope.names, x.2 ≠ .cell)
    (hc0 : s.heap.get? ca = some oc)
    (hb : ∀ L h₁ tk, Gd w A p loose mean mg mb (hideAll s.heap [ca]) d u → Fr (hideAll s.heap [ca]) L h₁ (fun y => binds.reverse.lookup y) → News (hideAll s.heap [ca]) L h₁ [(ca, oc)] →
      wpAny (model prog w) (A.deeper (envX qual scope L f (.ref c') cl)) (eval body (envX qual scope L f (.ref c') cl)) (LPost (hideAll s.heap [ca]) ca oc s P) (fun _ _ => False) { s with heap := h₁, toks := tk })
    (hq : ∀ v h' tk', Ext s.heap h' → P v h' → Q v { s with heap := h', toks := tk' })
    (hco : scope.isCoroutine = false := by rfl) (hgen : scope.isGenerator = false := by rfl) (hk : scope.kind = .function := by rfl) :
    wpAny (model prog w) A (call (.ref f) args.pos args.kw) Q E s := by
  refine wpAny_call ?_
  have hroom : A.depth < recursionLimit := by have := G.hd; omega
  have hlim := (G.T.keeps hxg).nolimit
  refine kla_callFunE hroom ho rfl hco hgen rfl hcd ?_
  rw [hbind]
  refine wpAny_pure (wpAny_newFunctionEnv hcell hloc (fun h₁ hns hsb => ⟨hlim.fresh _ hsb, ?_⟩) hk)
  show codeAny _ _ (.expr body (envX qual scope s.heap.objs.size f (.ref c') cl)) _ _
  have hk₁ : Ext s.heap h₁ := fun b o e => hsb.extBut b o (Nat.ne_of_lt (Heap.lt_size e)) (Heap.get?_push_of_some _ e)
  refine kla_codeExpr (wpAny_mono (hb s.heap.objs.size h₁ _ ⟨G.X.keeps (hide_sub hxg hgL), G.T.keeps (hide_sub hxg hgL), G.hd, G.hu, G.hh⟩ ⟨hns, fun b o e => hk₁ b o (of_hideAll _ e), Nat.le_of_eq (hideAll_size _ _)⟩ (fun p hp => ?_)) (fun v s' hl => ?_) fun _ _ hf => hf.elim)
  · rw [List.mem_singleton.mp hp]
    exact ⟨hk₁ _ _ hc0, Nat.ne_of_lt (Heap.lt_size hc0), hideAll_none _ (by simp)⟩
  · obtain ⟨h', tk', rfl, hx, hc, hp⟩ := hl
    exact hq v h' tk' (hide_ext hc0 hx hc) hp
end
theorem c_strxfrm (w : World) {A : Around} {s : Shared} {p : Program} {loose : List Str} {mean : ExcName → Option Value} {mg mb : Str → Option Value} (G : Gd w A p loose mean mg mb s.heap 3 100)
  {a : Str} {t : Tok} {Q E : Value → Shared → Prop} (hq : ∀ tr h' tk', Ext s.heap h' → Q (.str a tr) { s with heap := h', toks := tk' }) :
  wpAny (model PySem.Challenge.rw_oy0037_01.row.prog w) A (call (.ref 35) [.str a t]) Q E s := by
  have X : (hd.heap_1 w.params).In s.heap := G.X
  have T := G.T
  have hdp := G.hd
  refine enter (K := hd.heap_1 w.params) (args := ⟨[.str a t], []⟩) (P := fun v h' => ∃ tr, v = .str a tr) X T.nolimit (by k_dflt k_is) (by k_dflt k_is) (by omega) (BindsTo.of_eq rfl) (locs rfl) (by decide) ?_ ?_
  · intro h₁ tk F
    have N : News s.heap s.heap.objs.size h₁ [] := News.nil
    k_steps
    exact PR.intro (by assumption) ⟨_, rfl⟩
  · rintro v h' tk' hx ⟨tr, rfl⟩
    exact hq tr h' tk' hx
theorem Gd.keeps {w : World} {A : Around} {p : Program} {loose : List Str} {mean : ExcName → Option Value} {mg mb : Str → Option Value} {h h' : Heap} {d u : Nat}
    (G : Gd w A p loose mean mg mb h d u) (x : Ext h h') : Gd w A p loose mean mg mb h' d u := ⟨G.X.keeps x, G.T.keeps x, G.hd, G.hu, G.hh⟩
theorem Gd.in1 {w : World} {A : Around} {p : Program} {loose : List Str} {mean : ExcName → Option Value} {mg mb : Str → Option Value} {h : Heap} {d u u' : Nat}
    (G : Gd w A p loose mean mg mb h d u) (hu : u' + 1 ≤ u) : Gd w A.in1 p loose mean mg mb h d u' := ⟨G.X, G.T, G.hd, by have := G.hu; rw [units_in1]; omega, G.hh⟩
theorem Gd.deep {w : World} {A : Around} {p : Program} {loose : List Str} {mean : ExcName → Option Value} {mg mb : Str → Option Value} {h : Heap} {d u d' u' : Nat} {env : Env}
    (G : Gd w A p loose mean mg mb h d u) (hd : d' + 1 ≤ d) (hu : u' + 3 ≤ u) : Gd w (A.deeper env) p loose mean mg mb h d' u' :=
  ⟨G.X, G.T, by have := G.hd; rw [depth_deeper]; omega, by have := G.hu; rw [units_deeper]; omega, G.hh⟩
/-- the keys of _law_order -/
noncomputable def OrdKey (xs : List Str) (i : Nat) (kv : Value) (nd : List (Addr × Obj)) : Prop := nd = [] ∧ i < 6 ∧ ∃ t, kv = .str (xs.getD i ⟨#[]⟩) t
theorem ordBook {prog : Program} {w : World} {A : Around} {xs : List Str} {K : Nat → Int} (hK : ∀ i j, i < 6 → j < 6 → (K i < K j ↔ (xs.getD i ⟨#[]⟩).cps.toList < (xs.getD j ⟨#[]⟩).cps.toList)) :
    KeyBook prog w A (OrdKey xs) K (.type "str") where
  looks := by
    rintro i kv nd h ⟨_, _, t, rfl⟩ _
    exact Looks.of_pure rfl
  t1 := by decide
  t2 := by decide
  cmp := by
    rintro i j kv kv' nd nd' s' Q' ⟨_, hi, t, rfl⟩ ⟨_, hj, t', rfl⟩ _ _ hq
    refine kas_lt_str ?_
    rw [← decide_eq_decide.mpr (hK i j hi hj)]
    exact hq
noncomputable def ExtB (h h' : Heap) : Prop := ∀ b o, b ≠ 126 → h.get? b = some o → h'.get? b = some o
set_option pp.deepTerms.threshold 3
set_option pp.proofs false
theorem codeRec_at {h : Heap} {c' : Addr} {q : Str} {i j : Int} {v : Value} (hc : h.CodeRec (.ref c') q) (hP : h.get? 126 = some (tabObj #[rawInt i, rawInt j, v])) {h' : Heap} (x : ∀ b o, b ≠ 126 → h.get? b = some o → h'.get? b = some o) : h'.CodeRec (.ref c') q := by
  obtain ⟨c₂, oc, vs2, t2, e2, hoc, hd2, hv2⟩ := hc
  refine ⟨c₂, oc, vs2, t2, e2, x _ _ (fun q => ?_) hoc, hd2, hv2⟩
  rw [q, hP] at hoc
  cases hoc
  cases hd2
  simp [rawInt] at hv2
theorem lam_mk {M : Model} {A : Around} {E : Value → Shared → Prop} {s : Shared} {h₀ : Heap} {L a : Addr} {m mg mb : Str → Option Value} {cn : Str} {cs : Scope} {cl : List (Str × Addr)} {oT oR : Obj} {r : Addr}
    {p : Program} {loose : List Str} {mean : ExcName → Option Value} {name qual : Str} {params : Arguments} {body : PySem.Expr} {scope : Scope} {ps : Array Value} {firstLine : Nat} {clos : List (Str × Addr)} {Q : Value → Shared → Prop}
    (F : Fr h₀ L s.heap m) (N : News h₀ L s.heap [(r, oR), (L + 1, oT), (126, tabObj ps)]) (T : Top p loose mean mg mb h₀) (C : CodeHd h₀ 130 126) (hL : @Ne Nat (L + 1) 126) (hr : @Ne Nat r 126)
    (hps : ps = #[] ∨ ∃ c', ps = #[rawInt 104, rawInt 41, .ref c'] ∧ ∀ {h' : Heap} {led : List (Addr × Obj)}, Fr h₀ L h' m → News h₀ L h' led → h'.CodeRec (.ref c') qual) (hcl : closureFor scope (envX cn cs L a (.ref 130) cl) = pure clos)
    (h : ∀ f c' ctv h2 tk2, Fr h₀ L h2 m → News h₀ L h2 [(f, kla_obj name qual params body scope clos ((mg "__name__").getD .none) c' ctv), (r, oR), (L + 1, oT), (126, tabObj #[rawInt 104, rawInt 41, .ref c'])] → h2.CodeRec (.ref c') qual → @Ne Nat f (L + 1) → Q (.ref f) { s with heap := h2, toks := tk2 }) :
    wpAny M A (makeFunction name qual params (.expr body) scope (envX cn cs L a (.ref 130) cl) [] [] [] ⟨104, 41, 104, 69⟩ firstLine) Q E s := by
  rcases hps with hps | ⟨c', hps, hc'⟩
  · refine' kla_nest F N T C rfl (ps := ps) (g := fun o => [(r, oR), (L + 1, oT), (126, o)]) ?U ?t ?n hcl ?_
    case U => k_updF
    case t => rw [hps]; kn_triples
    case n => rw [hps]; kn_among
    intro f' c' oc' vs' t' ct' h' tk' F2 N2 d1 d2 l1 l2
    dsimp only at N2
    rw [hps] at N2
    refine h f' c' ct' h' tk' F2 (fun p hp => N2 p ?_) (codeRec_news N2 (.tail _ (.head _)) d1 d2) (Nat.ne_of_gt (Nat.lt_trans (l1 _ (.tail _ (.head _))) l2))
    simp only [List.mem_cons, List.not_mem_nil, or_false] at hp ⊢
    rcases hp with h | h | h | h
    · exact .inl h
    · exact .inr (.inr (.inl h))
    · exact .inr (.inr (.inr (.inl h)))
    · exact .inr (.inr (.inr (.inr h)))
  · have hm9 : (126, tabObj ps) ∈ [(r, oR), (L + 1, oT), (126, tabObj ps)] := .tail _ (.tail _ (.head _))
    refine' kla_hit F N T C rfl hm9 (c' := c') ?t ?n hcl ?_
    case t => rw [hps]; kn_triples
    case n => rw [hps]; kn_hit
    intro f' ct' h' tk' F2 N2 l1
    rw [hps] at N2
    exact h f' c' ct' h' tk' F2 N2 (hc' F2 N2) (Nat.ne_of_gt (l1 _ (.tail _ (.head _))))
theorem c_order (w : World) {A : Around} {s : Shared} {p : Program} {loose : List Str} {mean : ExcName → Option Value} {mg mb : Str → Option Value} {hg : Heap} (G : Gd w A p loose mean mg mb hg 8 300)
  (hx : Ext hg s.heap) (h0 : hg.get? 126 = none) (C : CodeHd hg 130 126) {ps : Array Value} (hP : s.heap.get? 126 = some (tabObj ps)) (hps : LamTab s.heap ps)
  {ax : Addr} {vx : List Value} {xs : List Str} (hl : s.heap.IsList ax vx.toArray) (hxs : StrsAre vx xs) (hx6 : xs.length = 6) (K : Nat → Int) (hK : ∀ i j, i < 6 → j < 6 → (K i < K j ↔ (xs.getD i ⟨#[]⟩).cps.toList < (xs.getD j ⟨#[]⟩).cps.toList)) {Q E : Value → Shared → Prop}
  (hq : ∀ D h' tk' ps' (p : List Nat) vs c, ExtB s.heap h' → h'.get? 126 = some (tabObj ps') → LamTab h' ps' → s.heap.get? D = none → h'.get? D = some (W.listOf vs.toArray c) → IntsAre vs (p.map fun i : Nat => (i : Int)) → p.Perm (List.range 6) → p.Pairwise (fun i j => K i ≤ K j) →
    Q (.ref D) { s with heap := h', toks := tk' }) :
  wpAny (model PySem.Challenge.rw_oy0037_01.row.prog w) A (call (.ref 131) [.ref ax]) Q E s := by
  obtain ⟨hh, dp, fr, gd, un⟩ := A
  have hh0 : hh = none := G.hh
  subst hh0
  have X : (hd.heap_1 w.params).In s.heap := G.X.keeps hx
  have T := G.T.keeps hx
  have hdp := G.hd
  refine enterG (K := hd.heap_1 w.params) (args := ⟨[.ref ax], []⟩) X T.nolimit (by k_dflt k_is) (by k_dflt k_is) (by show dp < _; have q : dp + _ < _ := hdp; omega) (BindsTo.of_eq rfl) (by rfl) (by decide +kernel) ?_
  intro L h₁ tk cells F0 N0 Y
  k_cells Y
  clear X T
  rename_i oT dT
  have hxb : Ext hg (hideAll s.heap [126]) := hide_sub hx h0
  have gX : Gd w { handled := none, depth := dp, frames := fr, guards := gd, units := un } p loose mean mg mb (hideAll s.heap [126]) 8 300 := G.keeps hxb
  have X : (hd.heap_1 w.params).In (hideAll s.heap [126]) := gX.X
  have T := gX.T
  have C' := C.keeps hxb
  have F : Fr (hideAll s.heap [126]) L h₁ _ := ⟨F0.ns, fun b o e => F0.keep b o (of_hideAll _ e), Nat.le_trans (Nat.le_of_eq (hideAll_size _ _)) F0.above⟩
  have N : News (hideAll s.heap [126]) L h₁ [(L + 1, oT), (126, tabObj ps)] := fun p hp => by
    rcases List.mem_cons.mp hp with rfl | hp
    · have z := N0 _ (.head _)
      exact ⟨z.1, z.2.1, Heap.get?_none_of_le (by rw [hideAll_size]; exact Nat.le_succ_of_le F0.above)⟩
    · rw [List.mem_singleton.mp hp]
      refine ⟨F0.keep _ _ hP, ?_, hideAll_none _ (by simp)⟩
      intro q
      have h9 := Nat.lt_of_lt_of_le (Heap.lt_size hP) F0.above
      have q' : (126 : Nat) = L := q
      rw [← q'] at h9
      exact Nat.lt_irrefl _ h9
  have hlb : (hideAll s.heap [126]).IsList ax vx.toArray := by
    obtain ⟨o, e, hc, r⟩ := hl
    exact ⟨o, hideAll_get _ e (by intro q; rw [List.mem_singleton.mp q, hP] at e; cases e; cases hc), hc, r⟩
  have hLn : @Ne Nat (L + 1) 126 := Nat.ne_of_gt (Nat.lt_succ_of_le (Nat.le_trans (Nat.le_of_lt (Heap.lt_size hP)) F0.above))
  have hLlt : L < h₁.objs.size := F0.ns.lt
  have hLs : s.heap.objs.size ≤ L := F0.above
  clear F0 N0
  k_steps
  rename_i hR F1 N1 hE1
  refine kla_eval (by rfl) ?_
  have hrL := hLlt
  have hR9 : h₁.objs.size ≠ 126 := Nat.ne_of_gt (Nat.lt_of_le_of_lt (Nat.le_of_lt (Nat.lt_of_lt_of_le (Heap.lt_size hP) hLs)) hrL)
  have N1r : News (hideAll s.heap [126]) L _ [(h₁.objs.size, _), (L + 1, oT), (126, tabObj ps)] := fun p hp => by
    rcases List.mem_cons.mp hp with rfl | hp
    · exact ⟨hR, Nat.ne_of_gt hrL, Heap.get?_none_of_le (by rw [hideAll_size]; exact Nat.le_trans hLs (Nat.le_of_lt hrL))⟩
    · exact N1 p hp
  refine lam_mk F1 N1r T C' hLn hR9 ?_ (by rfl) ?_
  · rcases hps with e | ⟨c', e, hc⟩
    · exact .inl e
    · refine .inr ⟨c', e, fun F2 _ => codeRec_at hc (by rw [← e]; exact hP) fun b o hb q => F2.keep _ _ (hideAll_get _ q (by simpa using hb))⟩
  · intro f c' ctv h2 tk2 F2 N2 hc2 hfL
    clear F1 N1 N1r hE1 hR
    k_steps
    refine gsorted (f := .ref f) (kw := [(Str.ofString "key", .ref f)]) (G := OrdKey xs) K (Collects.range (n := 6) rfl (N2 _ (.tail _ (.head _))).1 (by rw [hx6]) (by decide)) ?_ (ksk_s1 _ _) (fun x => ksk_l1 _ _) (fun x => ksk_t1 _ _) (ordBook hK) ?_ ?_
    · rintro us ⟨h1, _⟩; omega
    · rintro us ⟨h1, h2'⟩ i v h tk9 hi hxh
      have hi6 : i < 6 := by
        have := (List.getElem?_eq_some_iff.mp hi).1
        omega
      obtain ⟨ti, hti⟩ := h2' i hi6
      rw [hti] at hi
      cases hi
      have hxg : Ext hg h := (hxb.trans F2.keep).trans hxh
      have hgL : hg.get? (L + 1) = none := hx.fresh (Nat.le_succ_of_le hLs)
      obtain ⟨c₂, oc, vs2, t2, e2, hoc, hd2, hv2⟩ := hc2
      have hcell := hxh _ _ (N2 _ (.tail _ (.tail _ (.head _)))).1
      have haxL : ax ≠ L + 1 := fun q => by
        obtain ⟨o, e, _⟩ := hl
        have h9 := Nat.lt_of_lt_of_le (Heap.lt_size e) (Nat.le_trans hLs (Nat.le_succ L))
        rw [q] at h9
        exact Nat.lt_irrefl _ h9
      have hlx : (hideAll h [L + 1]).IsList ax vx.toArray := by
        obtain ⟨o, e, r⟩ := hlb
        exact ⟨o, hideAll_get _ (hxh _ _ (F2.keep _ _ e)) (by simpa using haxL), r⟩
      refine enterL (s := { s with heap := h, toks := tk9 }) (args := ⟨[.int (i : Int) ti], []⟩) (ca := L + 1) (oc := oT) (P := fun v _ => ∃ t, v = .str (xs.getD i ⟨#[]⟩) t) (((G.deep (d' := 7) (u' := 290) (by decide) (by decide)).in1 (u' := 280) (by decide)).in1 (u' := 270) (by decide)) hxg hgL (hxh _ _ (N2 _ (.head _)).1) ⟨c₂, oc, vs2, t2, e2, hxh _ _ hoc, hd2, hv2⟩ (by rfl) (locs rfl) (by decide) hcell ?_ ?_
      · intro L' h3 tk3 gX3 F3 N3
        clear F2 N2 T C' gX hlb hl X G
        rename Gd _ _ _ _ _ _ _ _ _ _ => gX
        have X : (hd.heap_1 w.params).In (hideAll h [L + 1]) := gX.X
        have T := gX.T
        k_steps
        (rename Fr _ _ _ _ => fX); (rename News _ _ _ _ => nX)
        unfold Halt
        refine c_strxfrm w (gX.sub fX) ?_
        intro tr' h' tk' hx'
        have F' := Fr.keeps fX hx'
        have N' := News.grown nX hx'
        clear hx' fX nX
        k_steps
        exact LPost.intro (by assumption) (by assumption) (.head _) ⟨_, rfl⟩
      · rintro v h' tk' hx' ⟨t, rfl⟩
        exact ⟨h', tk', [], rfl, hx', fun p hp => (nomatch hp), rfl, hi6, t, rfl⟩
    · rintro us ⟨h1, h2'⟩ D h' tk' p c hxh hD hD2 hp hs
      have h6 : us.length = 6 := h1
      rw [h6] at hp
      refine ⟨_, rfl, ?_⟩
      refine hq D h' tk' _ p (p.map fun i => us.getD i .none) c ?_ (hxh _ _ (N2 _ (.tail _ (.tail _ (.tail _ (.head _))))).1) (.inr ⟨c', rfl, ?_⟩) ?_ hD2 ?_ hp hs
      · intro b o hb e
        exact hxh _ _ (F2.keep _ _ (hideAll_get _ e (by simpa using hb)))
      · obtain ⟨c₂, oc, vs2, t2, e2, hoc, hd2, hv2⟩ := hc2
        exact ⟨c₂, oc, vs2, t2, e2, hxh _ _ hoc, hd2, hv2⟩
      · cases e : s.heap.get? D with
        | none => rfl
        | some o =>
          by_cases hb : D = 126
          · rw [hb, (N2 _ (.tail _ (.tail _ (.tail _ (.head _))))).1] at hD; cases hD
          · rw [F2.keep _ _ (hideAll_get _ e (by simpa using hb))] at hD; cases hD
      · have hm : ∀ i ∈ p, i < 6 := fun i hi => by simpa using hp.mem_iff.mp hi
        clear hp hs hD2
        induction p with
        | nil => exact .nil
        | cons i p ih =>
          obtain ⟨t, ht⟩ := h2' i (hm i (.head _))
          have e : us.getD i Value.none = .int (i : Int) t := by simp [List.getD, ht]
          simp only [List.map_cons, e]
          exact .cons _ _ (ih fun j hj => hm j (.tail _ hj))
end TC5
section TC6
set_option maxRecDepth 100000
set_option maxHeartbeats 8000000
set_option rowWalk.seconds 0
open LCg (NsObj lst Off3 Off1)
theorem fillF_C6 (w : World) : PySem.Challenge.rw_oy0037_01.row.prog = PySem.Challenge.rw_oy0037_01.row.prog ∧ hd.heap_1 w.params = hd.heap_1 w.params := by
  k_fill
  exact ⟨rfl, rfl⟩
local macro_rules | `(tactic| walk_at "binaryOp FloorDiv int int") => `(tactic| refine floordiv_int (by first | decide | assumption) ?_ (Or.inl (PyProof.noPylong_small (by first | omega | assumption))))
set_option pp.deepTerms.threshold 3
set_option pp.proofs false
theorem news_drop2 {h₀ h : Heap} {L : Addr} {p q : Addr × Obj} {r : List (Addr × Obj)} (N : News h₀ L h (p :: q :: r)) : News h₀ L h (p :: r) := fun x hx => N x (by
  rcases List.mem_cons.mp hx with h | h
  · rw [h]; exact .head _
  · exact .tail _ (.tail _ h))
theorem news_drop4 {h₀ h : Heap} {L : Addr} {p q u v : Addr × Obj} {r : List (Addr × Obj)} (N : News h₀ L h (p :: q :: u :: v :: r)) : News h₀ L h r := fun x hx => N x (.tail _ (.tail _ (.tail _ (.tail _ hx))))
inductive JM (L D ax : Addr) (ns : List Int) (i : Nat) (m : Str → Option Value) (led : List (Addr × Obj)) : Prop
  | mk (bvs : List Value) (n : Nat) (oF oP oK oC oB oR : Obj) (vF vP vK vC u : Option Value) (hl : led = [(D, W.listOf bvs.toArray n), (L + 1 + 1 + 1 + 1 + 1 + 1, oF), (L + 1 + 1 + 1 + 1 + 1, oP), (L + 1 + 1 + 1 + 1, oK), (L + 1 + 1 + 1, oC), (L + 1 + 1, oB), (L + 1, oR)])
    (dF : oF.data = .cell vF) (dP : oP.data = .cell vP) (dK : oK.data = .cell vK) (dC : oC.data = .cell vC) (dB : oB.data = .cell (some (.ref D))) (dR : oR.data = .cell (some (.ref ax))) (hb : IntsAre bvs (bestUpto ns i)) (hm : m = (fun y => if y = Str.ofString "longest" then u else none)) : JM L D ax ns i m led
inductive JF (L Dp I D lF : Addr) (ys bvs : List Value) (oI : Obj) (nb : Nat) (oF2 oP2 oC2 oB oR : Obj) (u : Option Value) (ps : List Int) (k : Nat) (m : Str → Option Value) (led : List (Addr × Obj)) : Prop
  | mk (fvs : List Value) (nf : Nat) (oK : Obj) (vK : Option Value) (hl : led = [(lF, W.listOf fvs.toArray nf), (Dp, lst ys), (I, oI), (D, W.listOf bvs.toArray nb), (L + 1 + 1 + 1 + 1 + 1 + 1, oF2), (L + 1 + 1 + 1 + 1 + 1, oP2), (L + 1 + 1 + 1 + 1, oK), (L + 1 + 1 + 1, oC2), (L + 1 + 1, oB), (L + 1, oR)])
    (dK : oK.data = .cell vK) (hf : IntsAre fvs (fallsUpto ps k)) (hm : m = (fun y => if y = Str.ofString "longest" then u else none)) : JF L Dp I D lF ys bvs oI nb oF2 oP2 oC2 oB oR u ps k m led
theorem c_most (w : World) {A : Around} {s : Shared} {p : Program} {loose : List Str} {mean : ExcName → Option Value} {mg mb : Str → Option Value} (G : Gd w A p loose mean mg mb s.heap 8 300)
  {ax : Addr} {vx : List Value} {ns : List Int} (hl : s.heap.IsList ax vx.toArray) (hi : IntsAre vx ns) (h6 : ns.length = 6) {Q E : Value → Shared → Prop}
  (hq : ∀ D vs c h' tk', Ext s.heap h' → s.heap.get? D = none → h'.get? D = some (W.listOf vs.toArray c) → IntsAre vs (mostOf ns) → Q (.ref D) { s with heap := h', toks := tk' }) :
  wpAny (model PySem.Challenge.rw_oy0037_01.row.prog w) A (call (.ref 146) [.ref ax]) Q E s := by
  obtain ⟨hh, dp, fr, gd, un⟩ := A
  have hh0 : hh = none := G.hh
  subst hh0
  have X : (hd.heap_1 w.params).In s.heap := G.X
  have T := G.T
  have hdp := G.hd
  refine enterC (K := hd.heap_1 w.params) (args := ⟨[.ref ax], []⟩) (P := fun v h' => ∃ D vs c, v = .ref D ∧ s.heap.get? D = none ∧ h'.get? D = some (W.listOf vs.toArray c) ∧ IntsAre vs (mostOf ns)) X T.nolimit (by k_dflt k_is) (by k_dflt k_is) (by show dp < _; have q : dp + _ < _ := hdp; omega) (BindsTo.of_eq rfl) (by rfl) (by decide +kernel) ?_ ?_
  · intro L h₁ tk cells F N Y
    obtain ⟨oF, oP, oK, oC, oB, oR, hE, d1, d2, d3, d4, d5, d6⟩ := PyProof.Rows.kc_six Y
    subst hE
    clear Y
    replace d1 : oF.data = .cell none := d1
    replace d2 : oP.data = .cell none := d2
    replace d3 : oK.data = .cell none := d3
    replace d4 : oC.data = .cell none := d4
    replace d5 : oB.data = .cell none := d5
    replace d6 : oR.data = .cell (some (.ref ax)) := d6
    have F0 : Fr s.heap L h₁ (fun _ => none) := by
      exact F
    clear F
    have hvl := hi.length
    have h6v : vx.toArray.size = 6 := by simp; omega
    k_steps
    rename_i l' hB1 l1 D hB2 iB n1 sB eB e2B e3B lD hB3 oB2 F1 N1 dB2 hC tkC tr1 tr2 tr3 hR FC NC hExt
    clear F1 N1 hExt
    refine for_inv (JM L D ax ns) (Source.upto (n := 64) rfl hR (by first | (rw [h6v]; rfl) | (rw [h6]; rfl) | (rw [hvl, h6]; rfl)) (by decide)) FC (news_drop2 NC) ?_ ?_ ?_ ?_
    · refine ⟨_, _, oF, oP, oK, oC, oB2, oR, none, none, none, none, none, rfl, d1, d2, d3, d4, dB2, d6, ?_, ?_⟩
      · try rw [hvl]
        rw [h6]
        unfold bestUpto
        rw [h6]
        repeat' constructor
      · funext y; split <;> rfl
    · intros; trivial
    · rintro i v m₁ led₁ h tk I oI hiL ⟨tv, rfl⟩ hJJ F2 N2 off
      refine gen_turn fun QQ hQQ => ?_
      refine gen_goal fun GG hGG => ?_
      obtain ⟨bvs, nb, oF, oP, oK, oC, oB, oR, vF, vP, vK, vC, u, rfl, dF, dP, dK, dC, dB, dR, hbest, rfl⟩ := hJJ
      clear FC NC hR iB sB eB e2B e3B d1 d2 d3 d4 d5 d6 dB2
      have offI1 : NeF D I := NeF.mk (off (D, _) (.head _))
      have offI2 : NeF (L + 1 + 1 + 1 + 1 + 1 + 1) I := NeF.mk (off (L + 1 + 1 + 1 + 1 + 1 + 1, _) (.tail _ (.head _)))
      have offI3 : NeF (L + 1 + 1 + 1 + 1 + 1) I := NeF.mk (off (L + 1 + 1 + 1 + 1 + 1, _) (.tail _ (.tail _ (.head _))))
      have offI4 : NeF (L + 1 + 1 + 1 + 1) I := NeF.mk (off (L + 1 + 1 + 1 + 1, _) (.tail _ (.tail _ (.tail _ (.head _)))))
      have offI5 : NeF (L + 1 + 1 + 1) I := NeF.mk (off (L + 1 + 1 + 1, _) (.tail _ (.tail _ (.tail _ (.tail _ (.head _))))))
      have offI6 : NeF (L + 1 + 1) I := NeF.mk (off (L + 1 + 1, _) (.tail _ (.tail _ (.tail _ (.tail _ (.tail _ (.head _)))))))
      have offI7 : NeF (L + 1) I := NeF.mk (off (L + 1, _) (.tail _ (.tail _ (.tail _ (.tail _ (.tail _ (.tail _ (.head _))))))))
      refine hGG ?_
      clear hGG
      k_steps
      rename_i hA oC2 FA NA dC2 hP tkP tp1 tp2 tp3 hRp FP NP hxP
      clear FA NA hxP dC
      have hi64 : (i : Int) < 64 := by omega
      refine lc_inv (fun t ys led' => led' = _ ∧ IntsAre ys (partUpto ns (i : Int) t)) (Source.upto (n := 6) rfl hRp (by rw [h6]) (by decide)) (by rw [sizeLine_eq]; decide) (by decide) rfl rfl FP NP ⟨rfl, .nil⟩ ?_ ?_ ?_
      · intros; trivial
      · rintro t v ys led₁ Ic oIc Cc oCc Dc m₃ h3 tk3 ht ⟨tv3, rfl⟩ ⟨rfl, hys⟩ hoC hxC F4 N4 off4 ne4
        clear FP NP hRp
        have hz2 : ((2 : Int) ^ ((t : Int)).toNat).natAbs < 1073741824 := by
          have : t = 0 ∨ t = 1 ∨ t = 2 ∨ t = 3 ∨ t = 4 ∨ t = 5 := by omega
          rcases this with rfl | rfl | rfl | rfl | rfl | rfl <;> decide
        have hz : (2 : Int) ^ ((t : Int)).toNat ≠ 0 := Int.ne_of_gt (Int.pow_pos (by decide))
        refine wpAny_tests_one ?_
        dsimp only
        k_steps
        refine LcT.by (bitOn (i : Int) t) (fun hb => ?_) (fun hb => ?_)
        · exact LcE.intro (by assumption) (by assumption) _ (fun _ hp => hp) off4 ⟨rfl, by rw [partUpto_succ, hb]; exact hys⟩
        · k_steps
          exact LcE.intro (by assumption) (by assumption) _ (fun _ hp => hp) off4 ⟨rfl, by rw [partUpto_succ, hb]; exact ksk_snoc hys⟩
      · rintro Dp h3 tk3 ys led' F5 N5 o1 ⟨rfl, hys⟩
        clear FP NP hRp
        have oP11 : NeF I Dp := NeF.mk o1.1
        have oP12 : NeF D Dp := NeF.mk o1.2.1
        have oP13 : NeF (L + 1 + 1 + 1 + 1 + 1 + 1) Dp := NeF.mk o1.2.2.1
        have oP14 : NeF (L + 1 + 1 + 1 + 1 + 1) Dp := NeF.mk o1.2.2.2.1
        have oP15 : NeF (L + 1 + 1 + 1 + 1) Dp := NeF.mk o1.2.2.2.2.1
        have oP16 : NeF (L + 1 + 1 + 1) Dp := NeF.mk o1.2.2.2.2.2.1
        have oP17 : NeF (L + 1 + 1) Dp := NeF.mk o1.2.2.2.2.2.2.1
        have oP18 : NeF (L + 1) Dp := NeF.mk o1.2.2.2.2.2.2.2.1
        clear o1
        have hpe : partUpto ns (i : Int) 6 = partOf ns (i : Int) := by unfold partOf; rw [h6]
        rw [hpe] at hys
        clear hpe
        have hpl : (partOf ns (i : Int)).length ≤ 6 := by have := partOf_len ns (i : Int); omega
        have hpsz : ys.toArray.size = (partOf ns (i : Int)).length := by simp [hys.length]
        dsimp only
        k_steps
        rename_i hB4 oP2 dP2 lF hB5 l1F hB6 oF2 FB NB dF2 hR6 tkR tq1 tq2 tq3 hRk FK NK hxK
        clear FB NB hxK dP
        refine for_inv (JF L Dp I D lF ys bvs oI nb oF2 oP2 oC2 oB oR u (partOf ns (i : Int))) (Source.upto (n := (partOf ns (i : Int)).length) rfl hRk rfl (by omega)) FK NK ?_ ?_ ?_ ?_
        · exact ⟨[], 0, oK, vK, rfl, dK, .nil, rfl⟩
        · intros; trivial
        · rintro k v m₂ led₂ h4 tk4 Ik oIk hkL ⟨tk9, rfl⟩ hJJ F7 N7 off7
          refine gen_turn fun QK hQK => ?_
          refine gen_goal fun GG hGG => ?_
          obtain ⟨fvs, nf, oK, vK, rfl, dK, hfv, rfl⟩ := hJJ
          clear FK NK hRk
          have hk6 : k < 6 := by omega
          have offK1 : NeF lF Ik := NeF.mk (off7 (lF, _) (.head _))
          have offK2 : NeF Dp Ik := NeF.mk (off7 (Dp, _) (.tail _ (.head _)))
          have offK3 : NeF I Ik := NeF.mk (off7 (I, _) (.tail _ (.tail _ (.head _))))
          have offK4 : NeF D Ik := NeF.mk (off7 (D, _) (.tail _ (.tail _ (.tail _ (.head _)))))
          have offK5 : NeF (L + 1 + 1 + 1 + 1 + 1 + 1) Ik := NeF.mk (off7 (L + 1 + 1 + 1 + 1 + 1 + 1, _) (.tail _ (.tail _ (.tail _ (.tail _ (.head _))))))
          have offK6 : NeF (L + 1 + 1 + 1 + 1 + 1) Ik := NeF.mk (off7 (L + 1 + 1 + 1 + 1 + 1, _) (.tail _ (.tail _ (.tail _ (.tail _ (.tail _ (.head _)))))))
          have offK7 : NeF (L + 1 + 1 + 1 + 1) Ik := NeF.mk (off7 (L + 1 + 1 + 1 + 1, _) (.tail _ (.tail _ (.tail _ (.tail _ (.tail _ (.tail _ (.head _))))))))
          have offK8 : NeF (L + 1 + 1 + 1) Ik := NeF.mk (off7 (L + 1 + 1 + 1, _) (.tail _ (.tail _ (.tail _ (.tail _ (.tail _ (.tail _ (.tail _ (.head _)))))))))
          have offK9 : NeF (L + 1 + 1) Ik := NeF.mk (off7 (L + 1 + 1, _) (.tail _ (.tail _ (.tail _ (.tail _ (.tail _ (.tail _ (.tail _ (.tail _ (.head _))))))))))
          have offK10 : NeF (L + 1) Ik := NeF.mk (off7 (L + 1, _) (.tail _ (.tail _ (.tail _ (.tail _ (.tail _ (.tail _ (.tail _ (.tail _ (.tail _ (.head _)))))))))))
          refine hGG ?_
          clear hGG
          k_steps
          rename_i hB7 oK2 dK2 lZ hB8 F8 N8 l1Z hR7 tkR7 ts1 ts2 ts3 hRj FJ NJ hxJ
          clear F8 N8 hxJ dK
          have hfl : (fallsUpto (partOf ns (i : Int)) k).length = k := fallsUpto_len _ _
          refine lc_inv (fun j zs led' => led' = _ ∧ IntsAre zs (fallsAt (partOf ns (i : Int)) (fallsUpto (partOf ns (i : Int)) k) k j)) (Source.upto (n := k) rfl hRj rfl (by omega)) (by rw [sizeLine_eq]; omega) (by decide) rfl rfl FJ NJ ⟨rfl, .nil⟩ ?_ ?_ ?_
          · intros; trivial
          · rintro j v zs led₃ Ij oIj Cj oCj Dj m₃ h5 tk5 hjk ⟨tv3, rfl⟩ ⟨rfl, hzs⟩ hoC hxC F4 N4 off4 ne4
            clear FJ NJ hRj
            have hjk' : (j : Int) < (k : Int) := by omega
            have hkl' : (k : Int) < ((partOf ns (i : Int)).length : Int) := by omega
            refine wpAny_tests_one ?_
            dsimp only
            k_steps
            refine LcT.by (decide ((partOf ns (i : Int)).getD k 0 < (partOf ns (i : Int)).getD j 0)) (fun hb => ?_) (fun hb => ?_)
            · exact LcE.intro (by assumption) (by assumption) _ (fun _ hp => hp) off4 ⟨rfl, by rw [fallsAt_succ, if_neg (by simpa using hb)]; exact hzs⟩
            · k_steps
              exact LcE.intro (by assumption) (by assumption) _ (fun _ hp => hp) off4 ⟨rfl, by rw [fallsAt_succ, if_pos (by simpa using hb)]; exact ksk_snoc hzs⟩
          · rintro Dj h5 tk5 zs led' F5 N5 o1 ⟨rfl, hzs⟩
            clear FJ NJ hRj
            dsimp only
            have oJ11 : NeF lZ Dj := NeF.mk o1.1
            have oJ12 : NeF Ik Dj := NeF.mk o1.2.1
            have oJ13 : NeF lF Dj := NeF.mk o1.2.2.1
            have oJ14 : NeF Dp Dj := NeF.mk o1.2.2.2.1
            have oJ15 : NeF I Dj := NeF.mk o1.2.2.2.2.1
            have oJ16 : NeF D Dj := NeF.mk o1.2.2.2.2.2.1
            clear o1
            have hzl := fallsAt_len (partOf ns (i : Int)) (fallsUpto (partOf ns (i : Int)) k) k k
            k_steps
            rename_i Da wsA hA1 hIA l1A hA2 Mx tMx kMx aMx bMx hA3 FA NA
            have eM : Mx = mx (fallsAt (partOf ns (i : Int)) (fallsUpto (partOf ns (i : Int)) k) k k) := mx_of aMx bMx
            refine hQK _ _ ?_
            refine FTurn.next FA NA (led' := [(lF, W.listOf (fvs ++ [Value.int (1 + Mx) kMx]).toArray (nf + 1)), (Dp, lst ys), (I, oI), (D, W.listOf bvs.toArray nb), (L + 1 + 1 + 1 + 1 + 1 + 1, oF2), (L + 1 + 1 + 1 + 1 + 1, oP2), (L + 1 + 1 + 1 + 1, oK2), (L + 1 + 1 + 1, oC2), (L + 1 + 1, oB), (L + 1, oR)]) ?_ ?_ ?_
            · intro p hp
              rw [← List.push_toArray] at hp
              simp only [List.mem_cons, List.not_mem_nil, or_false] at hp ⊢
              grind
            · intro p hp
              simp only [List.mem_cons, List.not_mem_nil, or_false] at hp
              rcases hp with rfl | rfl | rfl | rfl | rfl | rfl | rfl | rfl | rfl | rfl
              · exact offK1.out
              · exact offK2.out
              · exact offK3.out
              · exact offK4.out
              · exact offK5.out
              · exact offK6.out
              · exact offK7.out
              · exact offK8.out
              · exact offK9.out
              · exact offK10.out
            · refine ⟨_, _, _, _, rfl, dK2, ?_, rfl⟩
              rw [fallsUpto, eM]
              exact ksk_snoc hfv
        · rintro m₂ led₂ h4 tk4 ⟨fvs, nf, oK, vK, rfl, dK, hfv, rfl⟩ F7 N7
          clear FK NK hRk
          have hfe : fallsUpto (partOf ns (i : Int)) (partOf ns (i : Int)).length = fallsOf (partOf ns (i : Int)) := rfl
          rw [hfe] at hfv
          have hfl : (fallsOf (partOf ns (i : Int))).length = (partOf ns (i : Int)).length := fallsUpto_len _ _
          dsimp only
          k_steps
          rename_i lZ hZ1 l1Z Da wsA hA1 hIA l1A hA2 Mx tMx kMx aMx bMx hA3 FA NA
          have eM : Mx = mx (fallsOf (partOf ns (i : Int))) := mx_of aMx bMx
          have hrg := longest_rng (partOf ns (i : Int))
          rw [← eM] at hrg
          clear aMx bMx
          have hbl : (bestUpto ns i).length = 7 := by rw [bestUpto_len, h6]
          have hM0 : 0 ≤ Mx := hrg.1
          have hM7 : Mx < ((bestUpto ns i).length : Int) := by omega
          k_steps
          rename_i tL hX1 tkX hX2 FX NX hbi hbl2 hbs
          have ev : ∀ {a b : Int}, (if a > b then a else b) = max b a := by intro a b; split <;> omega
          refine hQQ _ _ ?_
          refine FTurn.next FX (news_drop4 NX) (fun _ hp => hp) ?off ⟨_, nb, oF2, oP2, oK, oC2, oB, oR, _, _, _, _, some (.int Mx tMx), rfl, dF2, dP2, dK, dC2, dB, dR, ?_, ?_⟩
          case off =>
            intro p hp
            simp only [List.mem_cons, List.not_mem_nil, or_false] at hp
            rcases hp with rfl | rfl | rfl | rfl | rfl | rfl | rfl
            · exact offI1.out
            · exact offI2.out
            · exact offI3.out
            · exact offI4.out
            · exact offI5.out
            · exact offI6.out
            · exact offI7.out
          · rw [bestUpto_succ, bestStep, ← eM, ← ev]; exact hbi
          · funext y
            by_cases e1 : y = Str.ofString "longest"
            · subst e1; rfl
            · simp only [if_neg e1]
    · rintro m₁ led₁ h tk ⟨bvs, nb, oF, oP, oK, oC, oB, oR, vF, vP, vK, vC, u, rfl, dF, dP, dK, dC, dB, dR, hbest, rfl⟩ F2 N2
      clear FC NC hR iB sB eB e2B e3B d1 d2 d3 d4 d5 d6 dB2
      have hbl : (bestUpto ns 64).length = 7 := by rw [bestUpto_len, h6]
      have hmo : mostOf ns = (List.range 6).map (fun q => mx ((bestUpto ns 64).take (q + 2))) := by unfold mostOf; rw [h6]
      have hnn := bestUpto_nonneg ns 64
      rw [hmo]
      clear hmo
      generalize bestUpto ns 64 = bst at hbest hbl hnn ⊢
      dsimp only
      k_steps
      rename_i F2 N2 hY tkY ty1 ty2 ty3 hRy FY NY hxY
      clear F2 N2 hxY
      have hb6 : ((ns.length : Int) + 1) = 7 := by omega
      rw [hb6] at hRy
      refine lc_map (fun k ys => IntsAre ys ((List.range k).map (fun q => mx (bst.take (q + 2))))) (Source.range (n := 6) rfl hRy (by rfl) (by rfl)) (by rw [sizeLine_eq]; decide) (by decide) rfl rfl FY NY .nil ?_ ?_ ?_
      · intros; trivial
      · intro k v ys Ic oIc Cc oCc Dc m₃ h3 tk3 Q1 hk hPP hys hoC hxC F4 N4 off4 ne4 hQ1
        obtain ⟨tv3, rfl⟩ := hPP
        clear FY NY hRy
        k_steps
        rename_i Da wsA hA1 hIA hCA hLA l1A hA2 Mx tMx kMx FA NA aMx bMx
        have e2 : (1 + (k : Int) + 1).toNat = k + 2 := by omega
        rw [e2] at aMx bMx
        have eM := mx_of' aMx bMx fun a ha => hnn a (List.mem_of_mem_take ha)
        refine hQ1 _ _ _ _ FA NA (fun _ hp => .tail _ hp) ?_
        rw [List.range_succ, List.map_append, eM]
        exact ksk_snoc hys
      · intro Dr h3 tk3 ys F5 N5 o1 hys
        exact PR.intro F5 ⟨Dr, ys, _, rfl, (N5 _ (.head _)).2.2, (N5 _ (.head _)).1, hys⟩
  · rintro v h' tk' hx ⟨D, vs, c, rfl, h1, h2, h3⟩
    exact hq D vs c h' tk' hx h1 h2 h3
end TC6
section TP3
theorem nat_and_high (a c : Nat) (hc : c < 256) : (a * 2 ^ 8) &&& c = 0 := by
  apply Nat.eq_of_testBit_eq
  intro i
  rw [Nat.testBit_and, Nat.zero_testBit]
  by_cases hi : i < 8
  · rw [Nat.mul_comm, Nat.testBit_two_pow_mul]
    simp; omega
  · have : c.testBit i = false := Nat.testBit_lt_two_pow (Nat.lt_of_lt_of_le hc (by
      calc 256 = 2 ^ 8 := rfl
        _ ≤ 2 ^ i := Nat.pow_le_pow_right (by decide) (by omega)))
    rw [this]; simp
theorem or_octet {lc c : Int} (h0 : 0 ≤ lc) (c0 : 0 ≤ c) (c1 : c < 256) : Builtin.bitOr (lc * 2 ^ Int.toNat 8) c = lc * 256 + c := by
  have e1 := bitXor_and (lc * 2 ^ Int.toNat 8) c
  have e2 : Builtin.bitXor (lc * 2 ^ Int.toNat 8) c = Builtin.bitOr (lc * 2 ^ Int.toNat 8) c - Builtin.bitAnd (lc * 2 ^ Int.toNat 8) c := rfl
  have e3 : Builtin.bitAnd (lc * 2 ^ Int.toNat 8) c = 0 := by
    obtain ⟨a, rfl⟩ := Int.eq_ofNat_of_zero_le h0
    obtain ⟨d, rfl⟩ := Int.eq_ofNat_of_zero_le c0
    have hd : d < 256 := by omega
    have p : (2 : Int) ^ Int.toNat 8 = 256 := by decide
    rw [p]
    unfold Builtin.bitAnd
    rw [decide_eq_true (show (0 : Int) ≤ (a : Int) * 256 by omega), decide_eq_true (show (0 : Int) ≤ (d : Int) by omega)]
    show (((((a : Int) * 256).toNat &&& ((d : Int)).toNat : Nat)) : Int) = 0
    have q : ((a : Int) * 256).toNat = a * 2 ^ 8 := by omega
    rw [q]
    have := nat_and_high a d hd
    simp only [Int.toNat_natCast]
    omega
  have p : (2 : Int) ^ Int.toNat 8 = 256 := by decide
  rw [e2, e3] at e1
  rw [p] at e1 ⊢
  omega
/-- the sixteen bits behind octet c -/
noncomputable def lcNext (lc c : Int) : Int := (lc * 256 + c) % 65536
theorem lc_next {lc c : Int} (h0 : 0 ≤ lc) (c0 : 0 ≤ c) (c1 : c < 256) : Builtin.bitAnd (Builtin.bitOr (lc * 2 ^ Int.toNat 8) c) 65535 = lcNext lc c := by
  rw [or_octet h0 c0 c1, bitAnd_m16]; rfl
theorem shift_mask (x : Int) (k : Nat) : Builtin.bitAnd (x.fdiv (2 ^ k)) 63 = x / 2 ^ k % 64 := by
  rw [bitAnd_m6, Int.fdiv_eq_ediv_of_nonneg _ (Int.le_of_lt (Int.pow_pos (by decide)))]
/-- a mode's three octets -/
noncomputable def octs (m : Int) : List Int := [m.fdiv 65536, (m.fdiv 256).fmod 256, m.fmod 256]
theorem octs_eq {m : Int} : octs m = [m / 65536, m / 256 % 256, m % 256] := by
  unfold octs
  rw [Int.fdiv_eq_ediv_of_nonneg _ (by decide), Int.fdiv_eq_ediv_of_nonneg _ (by decide), Int.fmod_eq_emod_of_nonneg _ (by decide), Int.fmod_eq_emod_of_nonneg _ (by decide)]
theorem card_eq (m : Int) : cardInts m = [signAt (m / 262144 % 64), signAt (m / 4096 % 64), signAt (m / 64 % 64), signAt (m % 64)] := by
  unfold cardInts cardAt
  have f : ∀ a b : Int, 0 ≤ b → a.fdiv b = a / b := fun a b h => Int.fdiv_eq_ediv_of_nonneg _ h
  have g : ∀ a b : Int, 0 ≤ b → a.fmod b = a % b := fun a b h => Int.fmod_eq_emod_of_nonneg _ h
  have p3 : (64 : Int) ^ (Int.toNat 3) = 262144 := by decide
  have p2 : (64 : Int) ^ (Int.toNat 2) = 4096 := by decide
  have p1 : (64 : Int) ^ (Int.toNat 1) = 64 := by decide
  have p0 : (64 : Int) ^ (Int.toNat 0) = 1 := by decide
  rw [p3, p2, p1, p0, f _ _ (by decide), f _ _ (by decide), f _ _ (by decide), f _ _ (by decide), g _ _ (by decide), g _ _ (by decide), g _ _ (by decide), g _ _ (by decide), Int.ediv_one]
theorem octs_len : ∀ ms : List Int, (ms.flatMap octs).length = 3 * ms.length
  | [] => rfl
  | m :: r => by
    have := octs_len r
    rw [List.flatMap_cons, List.length_append, this, List.length_cons]
    simp [octs]; omega
theorem octs_get : ∀ (ms : List Int) (i : Nat), i < 3 * ms.length → (ms.flatMap octs).getD i 0 = (octs (ms.getD (i / 3) 0)).getD (i % 3) 0
  | [], i, h => absurd h (by simp)
  | m :: r, i, h => by
    rw [List.flatMap_cons]
    by_cases hi : i < 3
    · have : i / 3 = 0 ∧ i % 3 = i := by omega
      rw [this.1, this.2]
      simp only [List.getD, List.getElem?_cons_zero, Option.getD_some]
      rw [List.getElem?_append_left (by simp [octs]; omega)]
    · rw [List.length_cons] at h
      have ih := octs_get r (i - 3) (by omega)
      have e1 : i / 3 = (i - 3) / 3 + 1 := by omega
      have e2 : i % 3 = (i - 3) % 3 := by omega
      rw [e1, e2, List.getD_cons_succ, ← ih]
      simp only [List.getD]
      rw [List.getElem?_append_right (by simp [octs]; omega)]
      simp [octs]
theorem octs_rng {ms : List Int} (hm : ∀ m ∈ ms, 0 ≤ m ∧ m < 16777216) : ∀ n ∈ ms.flatMap octs, 0 ≤ n ∧ n < 256 := by
  intro n hn
  obtain ⟨m, h1, h2⟩ := List.mem_flatMap.mp hn
  have := hm m h1
  rw [octs_eq] at h2
  simp only [List.mem_cons, List.not_mem_nil, or_false] at h2
  rcases h2 with rfl | rfl | rfl <;> omega
theorem byte_get {ns : List Int} (hr : ∀ n ∈ ns, 0 ≤ n ∧ n < 256) {i : Nat} {c : UInt8} (hc : (byteArr ns)[i]? = some c) : i < ns.length ∧ ((c.toNat : Nat) : Int) = ns.getD i 0 := by
  have hs := byteArr_size ns
  have hi : i < ns.length := by
    rcases Nat.lt_or_ge i ns.length with h | h
    · exact h
    · rw [Array.getElem?_eq_none (by omega)] at hc; cases hc
  refine ⟨hi, ?_⟩
  have e : (byteArr ns)[i]? = some (ns[i].toNat.toUInt8) := by simp [byteArr, hi]
  rw [e] at hc
  cases hc
  have := hr ns[i] (List.getElem_mem hi)
  rw [byte_back this.1 this.2]
  simp [List.getD, hi]
/-- the loop's state ahead of octet i -/
structure B64At (ms : List Int) (i : Nat) (lc lb : Int) (os : List Int) : Prop where
  lo : 0 ≤ lc
  hi : lc < 65536
  lb : lb = 2 * ((i % 3 : Nat) : Int)
  c1 : i % 3 = 1 → lc % 256 = ms.getD (i / 3) 0 / 65536
  c2 : i % 3 = 2 → lc = ms.getD (i / 3) 0 / 65536 * 256 + ms.getD (i / 3) 0 / 256 % 256
  os : os = (ms.take (i / 3)).flatMap cardInts ++ (cardInts (ms.getD (i / 3) 0)).take (i % 3)
section
variable {ms : List Int} {i : Nat} {lc lb c : Int} {os : List Int}
theorem modeOk (hm : ∀ m ∈ ms, 0 ≤ m ∧ m < 16777216) (hi : i < 3 * ms.length) : 0 ≤ ms.getD (i / 3) 0 ∧ ms.getD (i / 3) 0 < 16777216 := by
  have h : i / 3 < ms.length := by omega
  have e : ms.getD (i / 3) 0 = ms[i / 3] := by simp [List.getD, List.getElem?_eq_getElem h]
  rw [e]; exact hm _ (List.getElem_mem h)
theorem B64At.s0 (B : B64At ms i lc lb os) (hr : i % 3 = 0) (hm : ∀ m ∈ ms, 0 ≤ m ∧ m < 16777216) (hi : i < 3 * ms.length) (hc : c = (ms.flatMap octs).getD i 0) :
    B64At ms (i + 1) (lcNext lc c) 2 (os ++ [signAt (lcNext lc c / 2 ^ 2 % 64)]) := by
  have hb := modeOk hm hi
  rw [octs_get ms i hi, hr, octs_eq] at hc
  have e1 : (i + 1) / 3 = i / 3 := by omega
  have e2 : (i + 1) % 3 = 1 := by omega
  have h0 := B.lo
  have hos := B.os
  obtain ⟨m, hmd⟩ : ∃ m, m = ms.getD (i / 3) 0 := ⟨_, rfl⟩
  rw [← hmd] at hb hc hos
  rw [hr] at hos
  have hc' : c = m / 65536 := by rw [hc]; rfl
  have hx : lcNext lc c / 2 ^ 2 % 64 = m / 262144 % 64 := by
    unfold lcNext
    have : (2 : Int) ^ 2 = 4 := by decide
    rw [this]; omega
  refine ⟨by unfold lcNext; omega, by unfold lcNext; omega, by rw [e2]; rfl, fun _ => ?_, fun h => by omega, ?_⟩
  · rw [e1, ← hmd]; unfold lcNext; omega
  · rw [e1, e2, ← hmd, hos, hx, card_eq]; simp
theorem B64At.s1 (B : B64At ms i lc lb os) (hr : i % 3 = 1) (hm : ∀ m ∈ ms, 0 ≤ m ∧ m < 16777216) (hi : i < 3 * ms.length) (hc : c = (ms.flatMap octs).getD i 0) :
    B64At ms (i + 1) (lcNext lc c) 4 (os ++ [signAt (lcNext lc c / 2 ^ 4 % 64)]) := by
  have hb := modeOk hm hi
  rw [octs_get ms i hi, hr, octs_eq] at hc
  have e1 : (i + 1) / 3 = i / 3 := by omega
  have e2 : (i + 1) % 3 = 2 := by omega
  have h0 := B.lo
  have hos := B.os
  have h1 := B.c1 hr
  obtain ⟨m, hmd⟩ : ∃ m, m = ms.getD (i / 3) 0 := ⟨_, rfl⟩
  rw [← hmd] at hb hc hos h1
  rw [hr] at hos
  have hc' : c = m / 256 % 256 := by rw [hc]; rfl
  have hx : lcNext lc c / 2 ^ 4 % 64 = m / 4096 % 64 := by
    unfold lcNext
    have : (2 : Int) ^ 4 = 16 := by decide
    rw [this]; omega
  refine ⟨by unfold lcNext; omega, by unfold lcNext; omega, by rw [e2]; rfl, fun h => by omega, fun _ => ?_, ?_⟩
  · rw [e1, ← hmd]; unfold lcNext; omega
  · rw [e1, e2, ← hmd, hos, hx, card_eq]; simp
theorem B64At.s2 (B : B64At ms i lc lb os) (hr : i % 3 = 2) (hm : ∀ m ∈ ms, 0 ≤ m ∧ m < 16777216) (hi : i < 3 * ms.length) (hc : c = (ms.flatMap octs).getD i 0) :
    B64At ms (i + 1) (lcNext lc c) 0 (os ++ [signAt (lcNext lc c / 2 ^ 6 % 64)] ++ [signAt (lcNext lc c / 2 ^ 0 % 64)]) := by
  have hb := modeOk hm hi
  rw [octs_get ms i hi, hr, octs_eq] at hc
  have e1 : (i + 1) / 3 = i / 3 + 1 := by omega
  have e2 : (i + 1) % 3 = 0 := by omega
  have h0 := B.lo
  have hos := B.os
  have h1 := B.c2 hr
  have hlt : i / 3 < ms.length := by omega
  obtain ⟨m, hmd⟩ : ∃ m, m = ms.getD (i / 3) 0 := ⟨_, rfl⟩
  have hg : ms[i / 3]? = some m := by rw [hmd]; simp [List.getD, List.getElem?_eq_getElem hlt]
  rw [← hmd] at hb hc hos h1
  rw [hr] at hos
  have hc' : c = m % 256 := by rw [hc]; rfl
  have hx : lcNext lc c / 2 ^ 6 % 64 = m / 64 % 64 := by
    unfold lcNext
    have : (2 : Int) ^ 6 = 64 := by decide
    rw [this]; omega
  have hx0 : lcNext lc c / 2 ^ 0 % 64 = m % 64 := by
    unfold lcNext
    have : (2 : Int) ^ 0 = 1 := by decide
    rw [this]; omega
  refine ⟨by unfold lcNext; omega, by unfold lcNext; omega, by rw [e2]; rfl, fun h => by omega, fun h => by omega, ?_⟩
  have ht : ms.take (i / 3 + 1) = ms.take (i / 3) ++ [m] := by rw [List.take_add_one, hg]; rfl
  rw [e1, e2, hos, hx, hx0, ht, List.flatMap_append]
  simp [card_eq]
end
theorem signAt_rng {k : Int} : 0 ≤ signAt k ∧ signAt k < 256 := by
  unfold signAt
  have := (b64L.getD k.toNat 0).toNat_lt
  omega
theorem cards_rng {ms : List Int} : ∀ n ∈ ms.flatMap cardInts, 0 ≤ n ∧ n < 256 := by
  intro n hn
  obtain ⟨m, _, h2⟩ := List.mem_flatMap.mp hn
  rw [card_eq] at h2
  simp only [List.mem_cons, List.not_mem_nil, or_false] at h2
  rcases h2 with rfl | rfl | rfl | rfl <;> exact signAt_rng
theorem cards_len : ∀ ms : List Int, (ms.flatMap cardInts).length = 4 * ms.length
  | [] => rfl
  | m :: r => by
    have := cards_len r
    rw [List.flatMap_cons, List.length_append, this, List.length_cons]
    simp [cardInts]; omega
end TP3
section TC7
set_option maxRecDepth 100000
set_option maxHeartbeats 4000000
set_option rowWalk.seconds 0
open LCg (NsObj lst Off3 Off1)
theorem fillF_C7 (w : World) : PySem.Challenge.rw_oy0037_01.row.prog = PySem.Challenge.rw_oy0037_01.row.prog ∧ hd.heap_1 w.params = hd.heap_1 w.params := by
  k_fill
  exact ⟨rfl, rfl⟩
local macro_rules | `(tactic| walk_at "call type:type") => `(tactic| refine call_type_of (typeIs_bytes _ _ _) (by decide) ?_)
set_option pp.deepTerms.threshold 3
set_option pp.proofs false
theorem c_buffer (w : World) {A : Around} {s : Shared} {p : Program} {loose : List Str} {mean : ExcName → Option Value} {mg mb : Str → Option Value} (G : Gd w A p loose mean mg mb s.heap 3 100)
  {b : Array UInt8} {t : Tok} {Q E : Value → Shared → Prop} (hq : ∀ tr h' tk', Ext s.heap h' → Q (.bytes b tr) { s with heap := h', toks := tk' }) :
  wpAny (model PySem.Challenge.rw_oy0037_01.row.prog w) A (call (.ref 42) [.bytes b t]) Q E s := by
  obtain ⟨hh, dp, fr, gd, un⟩ := A
  have hh0 : hh = none := G.hh
  subst hh0
  have X : (hd.heap_1 w.params).In s.heap := G.X
  have T := G.T
  have hdp := G.hd
  refine enter (K := hd.heap_1 w.params) (args := ⟨[.bytes b t], []⟩) (P := fun v h' => ∃ tr, v = .bytes b tr) X T.nolimit (by k_dflt k_is) (by k_dflt k_is) (by show dp < _; have q : dp + _ < _ := hdp; omega) (BindsTo.of_eq rfl) (locs rfl) (by decide) ?_ ?_
  · intro h₁ tk F
    have N : News s.heap s.heap.objs.size h₁ [] := News.nil
    k_steps
    exact PR.intro (by assumption) ⟨_, rfl⟩
  · rintro v h' tk' hx ⟨tr, rfl⟩
    exact hq tr h' tk' hx
theorem c_truth (w : World) {A : Around} {s : Shared} {p : Program} {loose : List Str} {mean : ExcName → Option Value} {mg mb : Str → Option Value} (G : Gd w A p loose mean mg mb s.heap 3 100)
  {Q E : Value → Shared → Prop} (hq : ∀ h' tk', Ext s.heap h' → Q (.bool false) { s with heap := h', toks := tk' }) :
  wpAny (model PySem.Challenge.rw_oy0037_01.row.prog w) A (call (.ref 49) [.bool false]) Q E s := by
  obtain ⟨hh, dp, fr, gd, un⟩ := A
  have hh0 : hh = none := G.hh
  subst hh0
  have X : (hd.heap_1 w.params).In s.heap := G.X
  have T := G.T
  have hdp := G.hd
  refine enter (K := hd.heap_1 w.params) (args := ⟨[.bool false], []⟩) (P := fun v h' => v = .bool false) X T.nolimit (by k_dflt k_is) (by k_dflt k_is) (by show dp < _; have q : dp + _ < _ := hdp; omega) (BindsTo.of_eq rfl) (locs rfl) (by decide) ?_ ?_
  · intro h₁ tk F
    have N : News s.heap s.heap.objs.size h₁ [] := News.nil
    k_steps
    exact PR.intro (by assumption) rfl
  · rintro v h' tk' hx rfl
    exact hq h' tk' hx
theorem Source.bytes {prog : Program} {w : World} {A : Around} {s : Shared} {b : Array UInt8} {t : Tok} (hh : A.handled = none) : Source prog w A (.bytes b t) s b.size (fun i v => ∃ c u, b[i]? = some c ∧ v = .int (c.toNat : Int) u) (fun _ => True) := by
  intro Q E hq
  refine KBw.pyIter_bytes (hq _ _ _ (KBw.walks hh s.heap.objs.size b t) (fun i h st => by obtain ⟨o, e, _⟩ := st; exact ⟨o, e⟩) ?_ ⟨_, Heap.get?_push_size _ rfl, rfl, rfl⟩ ?_ (fun b o e => Heap.get?_push_of_some _ e))
  · intro i h h' o st e e' _
    obtain ⟨o', q, r⟩ := st
    rw [e] at q; cases q
    exact ⟨o, e', r⟩
  · intro b hb
    rw [List.mem_singleton.mp hb, Heap.size_push]; exact Nat.lt_succ_self _
theorem b64_item {prog : Program} {w : World} {A : Around} {E : Value → Shared → Prop} {s : Shared} {value slice : PySem.Expr} {i : Int} {t ui : Tok} {Q : Value → Shared → Prop} (h0 : 0 ≤ i) (h1 : i < 64)
    (h : ∀ t' k, Q (.int (signAt i) t') { s with toks := k })
    (hs : subscripted slice false (.bytes b64L.toArray t) (.int i ui) = operate [.bytes b64L.toArray t, .int i ui] (getItem (.bytes b64L.toArray t) (.int i ui)) := by with_unfolding_all rfl)
    (ht : ∀ r, letTemporaryGo value (.bytes b64L.toArray t) r = pure () := by intro _; with_unfolding_all rfl) : wpAny (model prog w) A (subscriptTail value slice (.bytes b64L.toArray t) (.int i ui)) Q E s := by
  have hl : (KBw.bInts b64L.toArray).length = 64 := by decide +kernel
  refine KBw.item_K (ks := KBw.bInts b64L.toArray) rfl (by rw [hl]; decide) h0 (by rw [hl]; exact h1) (fun t' k _ _ => ?_) hs ht
  have e : (KBw.bInts b64L.toArray).getD i.toNat 0 = signAt i := by
    unfold signAt KBw.bInts
    exact (KBw.getD_ints b64L i.toNat).symm
  rw [e]; exact h t' k
inductive JB (l' : Addr) (ms : List Int) (tr0 t : Tok) (i : Nat) (m : Str → Option Value) (led : List (Addr × Obj)) : Prop
  | mk (ovs : List Value) (n : Nat) (lc lb : Int) (tc tb : Tok) (vb : Option Value) (os : List Int) (hl : led = [(l', W.listOf ovs.toArray n)]) (hov : IntsAre ovs os) (B : B64At ms i lc lb os)
    (hm : m = (fun y => if y = Str.ofString "b" then vb else if y = Str.ofString "leftchar" then some (.int lc tc) else if y = Str.ofString "leftbits" then some (.int lb tb) else if y = Str.ofString "out" then some (.ref l') else if y = Str.ofString "newline" then some (.bool false) else if y = Str.ofString "bin_data" then some (.bytes (byteArr (ms.flatMap octs)) tr0) else if y = Str.ofString "data" then some (.bytes (byteArr (ms.flatMap octs)) t) else none)) : JB l' ms tr0 t i m led
theorem c_b2a (w : World) {A : Around} {s : Shared} {p : Program} {loose : List Str} {mean : ExcName → Option Value} {mg mb : Str → Option Value} (G : Gd w A p loose mean mg mb s.heap 6 200)
  {ms : List Int} (hm : ∀ m ∈ ms, 0 ≤ m ∧ m < 16777216) (h6 : ms.length ≤ 6) {t : Tok} {Q E : Value → Shared → Prop} (hq : ∀ tr h' tk', Ext s.heap h' → Q (.bytes (byteArr (ms.flatMap cardInts)) tr) { s with heap := h', toks := tk' }) :
  wpAny (model PySem.Challenge.rw_oy0037_01.row.prog w) A (call (.ref 57) [.bytes (byteArr (ms.flatMap octs)) t] [(Str.ofString "newline", .bool false)]) Q E s := by
  obtain ⟨hh, dp, fr, gd, un⟩ := A
  have hh0 : hh = none := G.hh
  subst hh0
  have X : (hd.heap_1 w.params).In s.heap := G.X
  have T := G.T
  have hdp := G.hd
  refine enter (K := hd.heap_1 w.params) (args := ⟨[.bytes (byteArr (ms.flatMap octs)) t], [(Str.ofString "newline", .bool false)]⟩) (P := fun v h' => ∃ tr, v = .bytes (byteArr (ms.flatMap cardInts)) tr) X T.nolimit (by k_dflt k_is) (by k_dflt k_is) (by show dp < _; have q : dp + _ < _ := hdp; omega) (BindsTo.of_eq rfl) (locs rfl) (by decide) ?_ ?_
  · intro h₁ tk F
    have N : News s.heap s.heap.objs.size h₁ [] := News.nil
    k_steps
    (rename Fr _ _ _ _ => fX); (rename News _ _ _ _ => nX)
    unfold Halt
    refine c_buffer w (G.sub fX) ?_
    intro tr0 hA1 tkA1 hx'
    have F' := Fr.keeps fX hx'
    have N' := News.grown nX hx'
    clear hx' fX nX
    k_steps
    (rename Fr _ _ _ _ => fX); (rename News _ _ _ _ => nX)
    unfold Halt
    refine c_truth w (G.sub fX) ?_
    intro hA3 tkA2 hx'
    have F' := Fr.keeps fX hx'
    have N' := News.grown nX hx'
    clear hx' fX nX
    k_steps
    rename_i hA2 hA4 l' hA5 l1 hA6 hA7 hA8 FA NA
    have hz : (byteArr (ms.flatMap octs)).size = 3 * ms.length := by rw [byteArr_size, octs_len]
    refine for_inv (JB l' ms tr0 t)
      (Source.bytes rfl) FA NA ?_ ?_ ?_ ?_
    · refine ⟨[], 0, 0, 0, ?t1, ?t2, none, [], rfl, .nil, ⟨by decide, by decide, rfl, fun h => absurd h (by decide), fun h => absurd h (by decide), by simp⟩, ?_⟩
      rotate_left
      rotate_left
      · funext y
        by_cases e1 : y = Str.ofString "b"
        · subst e1; rfl
        · rw [if_neg e1]
          by_cases e2 : y = Str.ofString "leftchar"
          · subst e2; rfl
          · rw [if_neg e2, if_neg e2]
            by_cases e3 : y = Str.ofString "leftbits"
            · subst e3; rfl
            · rw [if_neg e3, if_neg e3]
              by_cases e4 : y = Str.ofString "out"
              · subst e4; rfl
              · rw [if_neg e4, if_neg e4]
                by_cases e5 : y = Str.ofString "newline"
                · subst e5; rfl
                · rw [if_neg e5, if_neg e5]
                  by_cases e6 : y = Str.ofString "bin_data"
                  · subst e6; rfl
                  · rw [if_neg e6, if_neg e6]
                    by_cases e7 : y = Str.ofString "data"
                    · subst e7; rfl
                    · rw [if_neg e7]
                      show List.lookup y [(Str.ofString "newline", _), (Str.ofString "data", _)] = none
                      rw [List.lookup_cons, List.lookup_cons, beq_false_of_ne e5, beq_false_of_ne e7]
                      rfl
    · intros; trivial
    · rintro i v m₁ led₁ h tk I oI hiL ⟨c, u, hc, rfl⟩ hJJ F2 N2 off
      clear FA NA
      refine gen_turn fun QQ hQQ => ?_
      refine gen_goal fun GG hGG => ?_
      obtain ⟨ovs, n, lc, lb, tc, tb, vb, os, rfl, hov, B, rfl⟩ := hJJ
      obtain ⟨hci, hcv⟩ := byte_get (octs_rng hm) hc
      rw [octs_len] at hci
      have hr : i % 3 = 0 ∨ i % 3 = 1 ∨ i % 3 = 2 := by omega
      have offI : @Ne Nat l' I := off (l', _) (.head _)
      have hol : os.length ≤ 27 := by
        rw [B.os, List.length_append, cards_len, List.length_take, List.length_take]
        have : (cardInts (ms.getD (i / 3) 0)).length = 4 := rfl
        omega
      have hosz : ovs.toArray.size ≤ 27 := by rw [List.size_toArray, hov.length]; exact hol
      have hlb := B.lb
      have hlo := B.lo
      have hhi := B.hi
      have hc0 : (0 : Int) ≤ (c.toNat : Int) := by omega
      have hc1 : (c.toNat : Int) < 256 := by have := c.toNat_lt; omega
      rcases hr with hr | hr | hr
      · rw [hr] at hlb
        have hlb0 : lb = 0 := hlb
        subst hlb0
        refine hGG ?_
        clear hGG
        k_steps
        have hb := bitAnd_range ((Builtin.bitAnd (Builtin.bitOr (lc * 2 ^ Int.toNat 8) (c.toNat : Int)) 65535).fdiv (2 ^ ((0 : Int) + 8 - 6).toNat)) (y := 63) (by decide)
        refine b64_item hb.1 (Int.lt_of_le_of_lt hb.2 (by decide)) ?_
        intro t9 tk9
        k_steps
        rename_i hE1 hE2 FE NE
        have elc := lc_next (c := (c.toNat : Int)) hlo hc0 hc1
        rw [elc, shift_mask] at NE
        rw [elc] at FE
        rw [List.push_toArray] at NE
        refine hQQ _ _ ?_
        refine' FTurn.next FE NE (fun _ hp => hp) (fun p hp => by rw [List.mem_singleton.mp hp]; exact offI) ⟨_, _, lcNext lc c.toNat, 2, ?tc0, ?tb0, some (.int (c.toNat : Int) u), ?os0, rfl, ?hI0, ?hB0, ?meq0⟩
        case hI0 => exact ksk_snoc hov
        case hB0 => exact B.s0 hr hm hci hcv
        case meq0 =>
          funext y
          by_cases e1 : y = Str.ofString "b"
          · subst e1; rfl
          · by_cases e2 : y = Str.ofString "leftchar"
            · subst e2; rfl
            · by_cases e3 : y = Str.ofString "leftbits"
              · subst e3; rfl
              · simp only [if_neg e1, if_neg e2, if_neg e3]
      · rw [hr] at hlb
        have hlb0 : lb = 2 := hlb
        subst hlb0
        refine hGG ?_
        clear hGG
        k_steps
        have hb := bitAnd_range ((Builtin.bitAnd (Builtin.bitOr (lc * 2 ^ Int.toNat 8) (c.toNat : Int)) 65535).fdiv (2 ^ ((2 : Int) + 8 - 6).toNat)) (y := 63) (by decide)
        refine b64_item hb.1 (Int.lt_of_le_of_lt hb.2 (by decide)) ?_
        intro t9 tk9
        k_steps
        rename_i hE1 hE2 FE NE
        have elc := lc_next (c := (c.toNat : Int)) hlo hc0 hc1
        rw [elc, shift_mask] at NE
        rw [elc] at FE
        rw [List.push_toArray] at NE
        refine hQQ _ _ ?_
        refine' FTurn.next FE NE (fun _ hp => hp) (fun p hp => by rw [List.mem_singleton.mp hp]; exact offI) ⟨_, _, lcNext lc c.toNat, 4, ?tc1, ?tb1, some (.int (c.toNat : Int) u), ?os1, rfl, ?hI1, ?hB1, ?meq1⟩
        case hI1 => exact ksk_snoc hov
        case hB1 => exact B.s1 hr hm hci hcv
        case meq1 =>
          funext y
          by_cases e1 : y = Str.ofString "b"
          · subst e1; rfl
          · by_cases e2 : y = Str.ofString "leftchar"
            · subst e2; rfl
            · by_cases e3 : y = Str.ofString "leftbits"
              · subst e3; rfl
              · simp only [if_neg e1, if_neg e2, if_neg e3]
      · rw [hr] at hlb
        have hlb0 : lb = 4 := hlb
        subst hlb0
        refine hGG ?_
        clear hGG
        k_steps
        have hb := bitAnd_range ((Builtin.bitAnd (Builtin.bitOr (lc * 2 ^ Int.toNat 8) (c.toNat : Int)) 65535).fdiv (2 ^ ((4 : Int) + 8 - 6).toNat)) (y := 63) (by decide)
        refine b64_item hb.1 (Int.lt_of_le_of_lt hb.2 (by decide)) ?_
        intro t9 tk9
        k_steps
        have hb2 := bitAnd_range ((Builtin.bitAnd (Builtin.bitOr (lc * 2 ^ Int.toNat 8) (c.toNat : Int)) 65535).fdiv (2 ^ ((4 : Int) + 8 - 6 - 6).toNat)) (y := 63) (by decide)
        refine b64_item hb2.1 (Int.lt_of_le_of_lt hb2.2 (by decide)) ?_
        intro t10 tk10
        k_steps
        rename_i hE1 hE2 FE NE
        have elc := lc_next (c := (c.toNat : Int)) hlo hc0 hc1
        rw [elc, shift_mask, shift_mask] at NE
        rw [elc] at FE
        simp only [List.push_toArray] at NE
        refine hQQ _ _ ?_
        refine' FTurn.next FE NE (fun _ hp => hp) (fun p hp => by rw [List.mem_singleton.mp hp]; exact offI) ⟨_, _, lcNext lc c.toNat, 0, ?tc2, ?tb2, some (.int (c.toNat : Int) u), ?os2, rfl, ?hI2, ?hB2, ?meq2⟩
        case hI2 => exact ksk_snoc (ksk_snoc hov)
        case hB2 => exact B.s2 hr hm hci hcv
        case meq2 =>
          funext y
          by_cases e1 : y = Str.ofString "b"
          · subst e1; rfl
          · by_cases e2 : y = Str.ofString "leftchar"
            · subst e2; rfl
            · by_cases e3 : y = Str.ofString "leftbits"
              · subst e3; rfl
              · simp only [if_neg e1, if_neg e2, if_neg e3]
    · rintro m₁ led₁ h tk ⟨ovs, n, lc, lb, tc, tb, vb, os, rfl, hov, B, rfl⟩ F2 N2
      clear FA NA
      rw [hz] at B
      have hlb : lb = 0 := by
        have := B.lb
        have e : 3 * ms.length % 3 = 0 := by omega
        rw [e] at this; exact this
      have hos := B.os
      have e1 : 3 * ms.length / 3 = ms.length := by omega
      have e2 : 3 * ms.length % 3 = 0 := by omega
      rw [e1, e2, List.take_length, List.take_zero, List.append_nil] at hos
      subst hos
      subst hlb
      dsimp only
      k_steps
      have hov' : ovs.length ≤ sizeLine := by rw [hov.length, cards_len, sizeLine_eq]; omega
      refine call_bytes_ints ⟨_, (N2 _ (.head _)).1, rfl, _, rfl⟩ hov cards_rng hov' rfl ?_
      intro h9 t9 k9 hx9
      exact PR.intro (F2.keeps hx9) ⟨_, rfl⟩
  · rintro v h' tk' hx ⟨tr, rfl⟩
    exact hq tr h' tk' hx
end TC7
section TC8
set_option maxRecDepth 100000
set_option maxHeartbeats 4000000
set_option rowWalk.seconds 0
open LCg (NsObj lst Off3 Off1)
theorem fillF_C8 (w : World) : PySem.Challenge.rw_oy0037_01.row.prog = PySem.Challenge.rw_oy0037_01.row.prog ∧ hd.heap_1 w.params = hd.heap_1 w.params := by
  k_fill
  exact ⟨rfl, rfl⟩
set_option pp.deepTerms.threshold 3
set_option pp.proofs false
theorem c_b64 (w : World) {A : Around} {s : Shared} {p : Program} {loose : List Str} {mean : ExcName → Option Value} {mg mb : Str → Option Value} (G : Gd w A p loose mean mg mb s.heap 9 400)
  {ms : List Int} (hm : ∀ m ∈ ms, 0 ≤ m ∧ m < 16777216) (h6 : ms.length ≤ 6) {t : Tok} {Q E : Value → Shared → Prop} (hq : ∀ tr h' tk', Ext s.heap h' → Q (.bytes (byteArr (ms.flatMap cardInts)) tr) { s with heap := h', toks := tk' }) :
  wpAny (model PySem.Challenge.rw_oy0037_01.row.prog w) A (call (.ref 65) [.bytes (byteArr (ms.flatMap octs)) t]) Q E s := by
  obtain ⟨hh, dp, fr, gd, un⟩ := A
  have hh0 : hh = none := G.hh
  subst hh0
  have X : (hd.heap_1 w.params).In s.heap := G.X
  have T := G.T
  have hdp := G.hd
  refine' enter (K := hd.heap_1 w.params) (args := ⟨[.bytes (byteArr (ms.flatMap octs)) t], []⟩) (P := fun v h' => ∃ tr, v = .bytes (byteArr (ms.flatMap cardInts)) tr) X T.nolimit ?k6 ?k7 (by show dp < _; have q : dp + _ < _ := hdp; omega) ?k9 ?kB ?c5 ?_ ?_ ?c2 ?c3 ?c4
  case k6 => k_dflt k_is
  case k7 => k_dflt k_is
  case k9 => k_dflt (exact binds_K (by k_in) rfl (by k_is) rfl rfl rfl)
  case kB => exact locs rfl
  case c5 => decide
  case c2 => rfl
  case c3 => rfl
  case c4 => rfl
  · intro h₁ tk F
    have N : News s.heap s.heap.objs.size h₁ [] := News.nil
    k_steps
    (rename Fr _ _ _ _ => fX); (rename News _ _ _ _ => nX)
    unfold Halt
    refine c_b2a w (G.sub fX) hm h6 ?_
    intro tr' h' tk' hx'
    have F' := Fr.keeps fX hx'
    have N' := News.grown nX hx'
    clear hx' fX nX
    k_steps
    exact PR.intro (by assumption) ⟨_, rfl⟩
  · rintro v h' tk' hx ⟨tr, rfl⟩
    exact hq tr h' tk' hx
end TC8
section TS3
set_option maxRecDepth 100000
set_option maxHeartbeats 4000000
open Sem (wp)
open AutoSeq1 (wpAny_loadPart')
/-- enumerate over a tuple: what it makes -/
theorem enum_new_tuple (l : Addr) (items : Array Value) (n : Nat) (dct : Option Addr) (sl : Array (Option Value)) :
    Meets (Builtin.«enumerate.__new__» ⟨[.type "enumerate", .ref l], []⟩) (fun _ R s => s.heap.get? l = some { cls := .type "tuple", dict := dct, data := .seq items n, slots := sl } ∧
      R (.ok (.ret (.ref (s.heap.push { cls := .type "tuple_iterator", data := .fields #[.ref l, .int 0 0] }).objs.size)))
        { s with heap := (s.heap.push { cls := .type "tuple_iterator", data := .fields #[.ref l, .int 0 0] }).push { cls := .type "enumerate", data := .fields #[.none, .bool false, .ref s.heap.objs.size, rawInt 0, .none, .none] } }) :=
  .of_wp fun prog w A R s h => by
    obtain ⟨hp, g, d, tk, os⟩ := s; obtain ⟨hl, h⟩ := h
    have hsub := sub_enumerate
    have hL : Heap.IsTuple (Shared.heap ⟨hp, g, d, tk, os⟩) l items := ⟨_, hl, rfl, n, rfl⟩
    wp_walk using wpAny_loadPart' hl
    refine wpAny_stack_any fun st => wpAny_pure ?_
    split
    · rename_i c _ _ _ _ _
      cases (c == Value.type "enumerate")
      · wp_walk using wpAny_loadPart' hl, wpAny_pyIter_tuple hL
        exact ⟨_, rfl, h⟩
      · wp_walk using wpAny_loadPart' hl, wpAny_pyIter_tuple hL
        exact ⟨_, rfl, h⟩
    · wp_walk using wpAny_loadPart' hl, wpAny_pyIter_tuple hL
      exact ⟨_, rfl, h⟩
section
variable {prog : Program} {w : World} {A : Around} {E : Value → Shared → Prop} {s : Shared}
theorem enum_call_tuple {l : Addr} {items : Array Value} {Q : Value → Shared → Prop} (hL : s.heap.IsTuple l items)
    (h : ∀ h', IsEnum h' (s.heap.objs.size + 1) s.heap.objs.size 0 .none → h'.IsTupleIter s.heap.objs.size l 0 → h'.objs.size = s.heap.objs.size + 2 → Ext s.heap h' → Q (.ref (s.heap.objs.size + 1)) { s with heap := h' }) :
    wpAny (model prog w) A (call (.type "enumerate") [.ref l]) Q E s := by
  obtain ⟨⟨c, dct, dt, sl⟩, hl, hc, n, hd⟩ := hL
  replace hc : c = .type "tuple" := hc
  replace hd : dt = .seq items n := hd
  subst hc hd
  refine callType_new F.called_enumerate (by decide) (F.typeCall_enumerate_1 _) (F.newCall_enumerate_1 _) (fun obj => F.args_object_init_2 obj _) F.entry_enumerate_new
    (enum_new_tuple l items n dct sl) ⟨hl, ?_⟩
  have hz : (s.heap.push { cls := .type "tuple_iterator", data := .fields #[.ref l, .int 0 0] }).objs.size = s.heap.objs.size + 1 := Heap.size_push ..
  show _ ∧ _
  rw [hz]
  have he : IsEnum ((s.heap.push { cls := .type "tuple_iterator", data := .fields #[.ref l, .int 0 0] }).push
      { cls := .type "enumerate", data := .fields #[.none, .bool false, .ref s.heap.objs.size, rawInt 0, .none, .none] }) (s.heap.objs.size + 1) s.heap.objs.size 0 .none := by
    have := Heap.get?_push_size (s.heap.push { cls := .type "tuple_iterator", data := .fields #[.ref l, .int 0 0] })
      (o := { cls := .type "enumerate", data := .fields #[.none, .bool false, .ref s.heap.objs.size, rawInt 0, .none, .none] }) rfl
    rw [hz] at this; exact this
  refine ⟨⟨_, he, rfl⟩, h _ he ⟨_, Heap.get?_push_of_some _ (Heap.get?_push_size _ rfl), rfl, rfl⟩ (by rw [Heap.size_push, hz]) fun b o x => Heap.get?_push_of_some _ (Heap.get?_push_of_some _ x)⟩
theorem tuple_step {it t : Addr} {i : Nat} {items : Array Value} {x : Value} {Q : Value → Shared → Prop} (hit : s.heap.IsTupleIter it t i) (ht : s.heap.IsTuple t items) (hx : items[i]? = some x)
    (hQ : ∀ h', h'.IsTupleIter it t (i + 1) → Heap.SameBut it s.heap h' → Q x { s with heap := h' }) : wpAny (model prog w) A (Builtin.SmallTypes.nextOf (.ref it)) Q E s := by
  obtain ⟨o, ho, hc, hd⟩ := id hit
  obtain ⟨ol, hol, _, nl, hdl⟩ := ht
  unfold Builtin.SmallTypes.nextOf
  refine wpAny_bind (wpAny_callSpecial?_slot (name := Str.ofString "__next__") hit.typeIs F.slot_tuple_iterator_next
    (wpAny_call_entry F.slot_tuple_iterator_next hit.typeIs F.entry_tuple_iterator_next ?_ (F.args_tuple_iterator_next_1 _)))
  show wpAny _ _ (field (.ref it) 0 >>= _) _ _ s
  refine wpAny_bind (wpAny_field ho hd (x := .ref t) rfl ?_)
  show wpAny _ _ (if (Value.ref t == Value.none) = true then _ else _) _ _ s
  rw [if_neg (show ¬ ((Value.ref t == Value.none) = true) from Bool.false_ne_true)]
  show wpAny _ _ (field (.ref it) 1 >>= _) _ _ s
  refine wpAny_bind (wpAny_field ho hd (x := .int i 0) rfl ?_)
  show wpAny _ _ (seqItems? (.ref t) >>= _) _ _ s
  refine wpAny_bind (wpAny_seqItems hol hdl ?_)
  simp only [Int.toNat_natCast, hx]
  refine wpAny_bind (wpAny_setField ho hd (by simp) (wpAny_pure ⟨x, rfl, wpAny_pure (hQ _ ?_ (Heap.SameBut.update ..))⟩))
  exact ⟨_, Heap.get?_update_self _ ho (Obj.isFreed_of_fields (Obj.data_mapFields hd _)), (Obj.cls_mapFields ..).trans hc, by
    rw [Obj.data_mapFields hd]; simp [rawInt]⟩
theorem tuple_over {it t : Addr} {i : Nat} {items : Array Value} {Q : Value → Shared → Prop} (hh : A.handled = none) (hit : s.heap.IsTupleIter it t i) (ht : s.heap.IsTuple t items) (hx : items[i]? = none)
    (hE : ∀ h' e, Heap.ExtBut it s.heap h' → (∃ o, h'.get? e = some o ∧ o.cls = .type "StopIteration") → E (.ref e) { s with heap := h' }) : wpAny (model prog w) A (Builtin.SmallTypes.nextOf (.ref it)) Q E s := by
  obtain ⟨o, ho, hc, hd⟩ := id hit
  obtain ⟨ol, hol, _, nl, hdl⟩ := ht
  unfold Builtin.SmallTypes.nextOf
  refine wpAny_bind (wpAny_callSpecial?_slot (name := Str.ofString "__next__") hit.typeIs F.slot_tuple_iterator_next
    (wpAny_call_entry F.slot_tuple_iterator_next hit.typeIs F.entry_tuple_iterator_next ?_ (F.args_tuple_iterator_next_1 _)))
  show wpAny _ _ (field (.ref it) 0 >>= _) _ _ s
  refine wpAny_bind (wpAny_field ho hd (x := .ref t) rfl ?_)
  show wpAny _ _ (if (Value.ref t == Value.none) = true then _ else _) _ _ s
  rw [if_neg (show ¬ ((Value.ref t == Value.none) = true) from Bool.false_ne_true)]
  show wpAny _ _ (field (.ref it) 1 >>= _) _ _ s
  refine wpAny_bind (wpAny_field ho hd (x := .int i 0) rfl ?_)
  show wpAny _ _ (seqItems? (.ref t) >>= _) _ _ s
  refine wpAny_bind (wpAny_seqItems hol hdl ?_)
  simp only [Int.toNat_natCast, hx]
  refine wpAny_bind (wpAny_rule (wpAny_bind (wpAny_setField ho hd (by simp) ?_)))
  show wpAny _ _ (newExc (.type "StopIteration") [] >>= _) _ _ _
  refine wpAny_bind ?_
  simp only [newExc, newTuple]
  refine wpAny_bind (wpAny_newObj_type ?_ (by size_fits))
  refine wpAny_bind (m := firstArgMember _ _) (wpAny_of_eq (a := Value.none) (by first | rfl | (simp only [firstArgMember]; rfl)) ?_)
  refine wpAny_newObj_type ?_ (by size_fits)
  simp only [raiseNew]
  refine wpAny_bind (wpAny_handled ?_)
  first | rw [show A.in1.handled = none from hh] | rw [hh]
  refine wpAny_bind (wpAny_pure (wpAny_throw ?_))
  exact hE _ _ (((Heap.SameBut.update ..).extBut.push _).push _) ⟨_, Heap.get?_push_size _ rfl, rfl⟩
theorem enum_next {e it l : Addr} {i : Nat} {items : Array Value} {x old : Value} {Q : Option Value → Shared → Prop}
    (he : IsEnum s.heap e it i old) (hit : s.heap.IsTupleIter it l i) (hl : s.heap.IsTuple l items) (hx : items[i]? = some x) (hne : e ≠ it)
    (hQ : ∀ h', IsEnumOut h' e it ((i : Int) + 1) x s.heap.objs.size → h'.IsTupleIter it l (i + 1) →
      h'.get? s.heap.objs.size = some { cls := .type "tuple", data := .seq #[.int i s.toks, x] } → h'.objs.size = s.heap.objs.size + 1 →
      (∀ b o, b ≠ e → b ≠ it → s.heap.get? b = some o → h'.get? b = some o) → Q (some (.ref s.heap.objs.size)) { s with heap := h', toks := s.toks + 1 }) :
    wpAny (model prog w) A (pyNext (.ref e)) Q E s := by
  have hT : s.TypeIs (.ref e) "enumerate" := ⟨_, he, rfl⟩
  unfold pyNext
  refine wpAny_bind (wpAny_attempt (wpAny_callSpecial?_slot (name := Str.ofString "__next__") hT F.slot_enumerate_next
    (wpAny_call_entry F.slot_enumerate_next hT F.entry_enumerate_next ?_ (F.args_enumerate_next_1 _))))
  obtain ⟨hp, g, d, tk, os⟩ := s
  show wpAny _ _ (field (.ref e) 2 >>= _) _ _ _
  refine wpAny_bind (wpAny_field he rfl (x := .ref it) rfl ?_)
  refine wpAny_bind (tuple_step hit hl hx fun h₁ hit₁ hs₁ => ?_)
  replace hs₁ : Heap.SameBut it hp h₁ := hs₁
  have he₁ : IsEnum h₁ e it i old := (hs₁.2 e hne).trans he
  show wpAny _ _ (field (.ref e) 3 >>= _) _ _ ⟨h₁, g, d, tk, os⟩
  refine wpAny_bind (wpAny_field he₁ rfl (x := rawInt i) rfl ?_)
  show wpAny _ _ (field (.ref e) 4 >>= _) _ _ ⟨h₁, g, d, tk, os⟩
  refine wpAny_bind (wpAny_field he₁ rfl (x := .none) rfl ?_)
  show wpAny _ _ (mkInt i >>= _) _ _ ⟨h₁, g, d, tk, os⟩
  refine wpAny_bind (wpAny_mkInt ?_)
  show wpAny _ _ (setField (.ref e) 3 (rawInt ((i : Int) + 1)) >>= _) _ _ ⟨h₁, g, d, tk + 1, os⟩
  refine wpAny_bind (wpAny_setField_rec he₁ (by simp) fun h₂ he₂ hs₂ => ?_)
  replace hs₂ : Heap.SameBut e h₁ h₂ := hs₂
  replace he₂ : IsEnum h₂ e it ((i : Int) + 1) old := he₂
  show wpAny _ _ (setField (.ref e) 4 .none >>= _) _ _ ⟨h₂, g, d, tk + 1, os⟩
  refine wpAny_bind (wpAny_setField_rec he₂ (by simp) fun h₃ he₃ hs₃ => ?_)
  replace hs₃ : Heap.SameBut e h₂ h₃ := hs₃
  replace he₃ : IsEnum h₃ e it ((i : Int) + 1) old := he₃
  show wpAny _ _ (newTuple [.int i tk, x] >>= _) _ _ ⟨h₃, g, d, tk + 1, os⟩
  refine wpAny_bind (wpAny_newTuple ?_)
  have he₄ : IsEnum (h₃.push { cls := .type "tuple", data := .seq #[.int i tk, x] }) e it ((i : Int) + 1) old := Heap.get?_push_of_some _ he₃
  generalize hh₄ : h₃.push { cls := .type "tuple", data := .seq #[.int i tk, x] } = h₄ at he₄
  have hsz : h₃.objs.size = hp.objs.size := by rw [hs₃.1, hs₂.1, hs₁.1]
  have hel : e < hp.objs.size := Heap.lt_size he
  have ht₄ : h₄.get? hp.objs.size = some { cls := .type "tuple", data := .seq #[.int i tk, x] } := by rw [← hh₄, ← hsz]; exact Heap.get?_push_size _ rfl
  have hz₄ : h₄.objs.size = hp.objs.size + 1 := by rw [← hh₄, Heap.size_push, hsz]
  have hk₄ : ∀ b o, b ≠ e → b ≠ it → hp.get? b = some o → h₄.get? b = some o := fun b o hbe hbi hb => by
    rw [← hh₄]; exact Heap.get?_push_of_some _ (hs₃.extBut b o hbe (hs₂.extBut b o hbe (hs₁.extBut b o hbi hb)))
  have hit₄ : h₄.IsTupleIter it l (i + 1) := by
    rw [← hh₄]; obtain ⟨o, ho, r⟩ := (hit₁.extBut hs₂.extBut (Ne.symm hne)).extBut hs₃.extBut (Ne.symm hne); exact ⟨o, Heap.get?_push_of_some _ ho, r⟩
  show wpAny _ _ (Builtin.SmallTypes.ownedTupleIsFree (.ref e) >>= _) _ _ ⟨h₄, g, d, tk + 1, os⟩
  rw [hsz]
  clear hh₄ he₃ hs₃ he₂ hs₂ he₁ hs₁ hit₁ hsz h₃ h₂ h₁
  refine wpAny_bind ?_
  unfold Builtin.SmallTypes.ownedTupleIsFree
  refine wpAny_bind (wpAny_field he₄ rfl (x := .none) rfl (wpAny_pure ?_))
  simp only [if_true]
  refine wpAny_bind (wpAny_rule ?_)
  refine wpAny_bind (wpAny_field he₄ rfl (x := old) rfl ?_)
  refine wpAny_bind (wpAny_setField_rec he₄ (by simp) fun h₅ he₅ hs₅ => ?_)
  replace hs₅ : Heap.SameBut e h₄ h₅ := hs₅
  replace he₅ : IsEnum h₅ e it ((i : Int) + 1) x := he₅
  show wpAny _ _ (Builtin.SmallTypes.ownedTupleHandOut (.ref e) (.ref hp.objs.size) >>= _) _ _ ⟨h₅, g, d, tk + 1, os⟩
  refine wpAny_bind ?_
  unfold Builtin.SmallTypes.ownedTupleHandOut
  refine wpAny_bind (wpAny_setField_rec he₅ (by simp) fun h₆ he₆ hs₆ => ?_)
  replace hs₆ : Heap.SameBut e h₅ h₆ := hs₆
  replace he₆ : IsEnumOut h₆ e it ((i : Int) + 1) x hp.objs.size := he₆
  refine wpAny_setField_rec he₆ (by simp) fun h₇ he₇ hs₇ => ?_
  replace hs₇ : Heap.SameBut e h₆ h₇ := hs₇
  replace he₇ : IsEnumOut h₇ e it ((i : Int) + 1) x hp.objs.size := he₇
  refine wpAny_bind (wpAny_letGo (wpAny_pure ⟨_, rfl, wpAny_pure (hQ h₇ he₇ ?_ ?_ ?_ ?_)⟩))
  · exact ((hit₄.extBut hs₅.extBut (Ne.symm hne)).extBut hs₆.extBut (Ne.symm hne)).extBut hs₇.extBut (Ne.symm hne)
  · exact hs₇.extBut _ _ (Nat.ne_of_gt hel) (hs₆.extBut _ _ (Nat.ne_of_gt hel) (hs₅.extBut _ _ (Nat.ne_of_gt hel) ht₄))
  · rw [hs₇.1, hs₆.1, hs₅.1, hz₄]
  · exact fun b o hbe hbi hb => hs₇.extBut b o hbe (hs₆.extBut b o hbe (hs₅.extBut b o hbe (hk₄ b o hbe hbi hb)))
theorem enum_over {e it l : Addr} {i : Nat} {items : Array Value} {old : Value} {Q : Option Value → Shared → Prop} (hh : A.handled = none)
    (he : IsEnum s.heap e it i old) (hit : s.heap.IsTupleIter it l i) (hl : s.heap.IsTuple l items) (hx : items[i]? = none)
    (hQ : ∀ h', Heap.ExtBut it s.heap h' → Q none { s with heap := h' }) : wpAny (model prog w) A (pyNext (.ref e)) Q E s := by
  have hT : s.TypeIs (.ref e) "enumerate" := ⟨_, he, rfl⟩
  unfold pyNext
  refine wpAny_bind (wpAny_attempt (wpAny_callSpecial?_slot (name := Str.ofString "__next__") hT F.slot_enumerate_next
    (wpAny_call_entry F.slot_enumerate_next hT F.entry_enumerate_next ?_ (F.args_enumerate_next_1 _))))
  show wpAny _ _ (field (.ref e) 2 >>= _) _ _ _
  refine wpAny_bind (wpAny_field he rfl (x := .ref it) rfl ?_)
  refine wpAny_bind (tuple_over hh hit hl hx fun h' x he' hx' => ?_)
  obtain ⟨o, ho, hc⟩ := hx'
  refine wpAny_bind (wpAny_isInstance (T := "StopIteration") (b := true) ⟨o, ho, hc⟩ isSubtype_stop ?_)
  exact wpAny_pure (hQ _ he')
variable {h₀ : Heap} {L : Addr} {m : Str → Option Value} {env : Env}
/-- what a turn of for i, x in enumerate(..) leaves -/
noncomputable def ETurn (h₀ : Heap) (L : Addr) (s : Shared) (e : Addr) (oE : Obj) (it : Addr) (oI : Obj) (J : (Str → Option Value) → List (Addr × Obj) → Prop) (f : Flow) (s₃ : Shared) : Prop :=
  f = .next ∧ ∃ h' tk' m' led', s₃ = { s with heap := h', toks := tk' } ∧ Fr h₀ L h' m' ∧ News h₀ L h' ((e, oE) :: (it, oI) :: led') ∧ (∀ p ∈ led', p.1 < it) ∧ J m' led'
theorem ETurn.intro {e it : Addr} {oE oI : Obj} {J : (Str → Option Value) → List (Addr × Obj) → Prop} {h' : Heap} {m' : Str → Option Value} {tk' : Nat} {led' : List (Addr × Obj)}
    (F : Fr h₀ L h' m') (N : News h₀ L h' ((e, oE) :: (it, oI) :: led')) (lt : ∀ p ∈ led', p.1 < it) (hJ : J m' led') : ETurn h₀ L s e oE it oI J .next { s with heap := h', toks := tk' } :=
  ⟨rfl, h', tk', m', led', rfl, F, N, lt, hJ⟩
inductive EWI (h₀ : Heap) (L : Addr) (s : Shared) (I l : Addr) (n : Nat) (J : Nat → (Str → Option Value) → List (Addr × Obj) → Prop) : Nat → Shared → Prop
  | mk (h' : Heap) (tk : Nat) (m' : Str → Option Value) (led' : List (Addr × Obj)) (i : Nat) (old : Value) (he : IsEnum h' (I + 1) I ((i : Nat) : Int) old) (hit : h'.IsTupleIter I l i) (F : Fr h₀ L h' m') (N : News h₀ L h' led') (lt : ∀ p ∈ led', p.1 < I) (hJ : J i m' led') (hi : i ≤ n) :
    EWI h₀ L s I l n J (n + 1 - i) { s with heap := h', toks := tk }
/-- for i, x in enumerate(a standing tuple), told by what holds between its turns -/
theorem for_enum {xi xv : Str} {pi pv pt : Pos} {x1 : Nat} {body : List Stmt} {l : Addr} {items : Array Value} {Q : Flow → Shared → Prop} {led : List (Addr × Obj)}
    (J : Nat → (Str → Option Value) → List (Addr × Obj) → Prop) (hh : A.handled = none) (hL : env.locals = L) (hxi : env.kindOf xi = some .local) (hxv : env.kindOf xv = some .local)
    (hp : (env.scope.kind == .class || (env.scope.kind == .module && env.locals != env.globals)) = false)
    (hl : h₀.IsTuple l items) (F : Fr h₀ L s.heap m) (N : News h₀ L s.heap led) (hJ : J 0 m led)
    (turn : ∀ i v tk m₁ led₁ h tk' e it oE oI, items[i]? = some v → J i m₁ led₁ → Fr h₀ L h (fun y => if y = xv then some v else if y = xi then some (.int i tk) else m₁ y) → News h₀ L h ((e, oE) :: (it, oI) :: led₁) → (∀ p ∈ led₁, p.1 < it) → it < e →
      wpAny (model prog w) A (execs body env) (ETurn h₀ L s e oE it oI (J (i + 1))) (fun _ _ => False) { s with heap := h, toks := tk' })
    (done : ∀ m₁ led₁ h tk, J items.size m₁ led₁ → Fr h₀ L h m₁ → News h₀ L h led₁ → Q .next { s with heap := h, toks := tk }) :
    wpAny (model prog w) A (call (.type "enumerate") [.ref l]) (ForAt prog w A (.Tuple [.Name xi pi, .Name xv pv] x1 pt) body [] env Q E) E s := by
  subst hL
  have hls : s.heap.IsTuple l items := by obtain ⟨o, e, r⟩ := hl; exact ⟨o, F.keep _ _ e, r⟩
  refine enum_call_tuple hls fun h1 hE hI hsz hx1 => ?_
  show wpAny _ A (pyIter (.ref (s.heap.objs.size + 1))) _ _ _
  refine wpAny_pyIter_enum hE ?_
  have hLlt : env.locals < s.heap.objs.size := F.ns.lt
  have hz0 : h₀.objs.size ≤ s.heap.objs.size := Nat.le_trans F.above (Nat.le_of_lt hLlt)
  refine codeAny_forLoop_any (EWI h₀ env.locals s s.heap.objs.size l items.size J) (fun k s' hK => ?_) (items.size + 1)
    (.mk h1 s.toks m led 0 .none hE hI (F.keeps hx1) (N.grown hx1) (fun p hp => Heap.lt_size (N p hp).1) hJ (Nat.zero_le _))
  clear hE hI hsz hx1 N hJ F hls
  generalize s.heap.objs.size = I at hK hLlt hz0 ⊢
  obtain ⟨H, tk, m', led', i, old, he', hit', F', N', hlt', hJ', hi⟩ := hK
  have eL : I + 1 ≠ env.locals := Nat.ne_of_gt (Nat.lt_succ_of_lt hLlt)
  have iL : I ≠ env.locals := Nat.ne_of_gt hLlt
  have e0 : h₀.get? (I + 1) = none := Heap.get?_none_of_le (Nat.le_succ_of_le hz0)
  have i0 : h₀.get? I = none := Heap.get?_none_of_le hz0
  have hlH : H.IsTuple l items := by obtain ⟨o, e, r⟩ := hl; exact ⟨o, F'.keep _ _ e, r⟩
  cases hv : items[i]? with
  | none =>
    have hsz : i = items.size := Nat.le_antisymm hi (by simpa using hv)
    refine enum_over hh he' hit' hlH hv fun h₁ he₁ => wpAny_execs_nil ?_
    subst hsz
    refine done m' led' h₁ tk hJ' ⟨F'.ns.extBut he₁ iL.symm, fun b o e => he₁ b o (fun q => by rw [q, i0] at e; cases e) (F'.keep b o e), F'.above⟩ fun p hp => ⟨he₁ _ _ (Nat.ne_of_lt (hlt' p hp)) (N' p hp).1, (N' p hp).2⟩
  | some v =>
    have hlt : i < items.size := (Array.getElem?_eq_some_iff.mp hv).1
    have heH : I + 1 < H.objs.size := Heap.lt_size he'
    refine enum_next he' hit' hlH hv (Nat.succ_ne_self _) fun h₁ heo hit₁ ht₁ hz₁ hk₁ => ?_
    refine wpAny_letOwnedTupleGo_enum heo fun h₂ he₂ hs₂ => ?_
    replace hs₂ : Heap.SameBut (I + 1) h₁ h₂ := hs₂
    have ht₂ : h₂.IsTuple H.objs.size #[.int i tk, v] := ⟨_, (hs₂.2 _ (Nat.ne_of_gt heH)).trans ht₁, rfl, _, rfl⟩
    have hz₂ : h₂.objs.size = H.objs.size + 1 := hs₂.1.trans hz₁
    refine wpAny_assign_Tuple hh ht₂ rfl rfl fun h₃ hx₃ => ?_
    replace hx₃ : Heap.ExtBut h₂.objs.size h₂ h₃ := hx₃
    have old₃ : ∀ b o, b < H.objs.size → b ≠ I + 1 → b ≠ I → H.get? b = some o → h₃.get? b = some o := fun b o hb h1 h2 x =>
      hx₃ b o (by rw [hz₂]; exact Nat.ne_of_lt (Nat.lt_succ_of_lt hb)) ((hs₂.2 b h1).trans (hk₁ b o h1 h2 x))
    have keep₃ : ∀ b o, b ≠ I + 1 → b ≠ I → H.get? b = some o → h₃.get? b = some o := fun b o h1 h2 x => old₃ b o (Heap.lt_size x) h1 h2 x
    have he₃ : IsEnum h₃ (I + 1) I ((i : Int) + 1) v := hx₃ _ _ (by rw [hz₂]; exact Nat.ne_of_lt (Nat.lt_succ_of_lt heH)) he₂
    have hit₃ : h₃.IsTupleIter I l (i + 1) := by
      obtain ⟨o, ho, r⟩ := hit₁
      exact ⟨o, hx₃ _ _ (by rw [hz₂]; exact Nat.ne_of_lt (Nat.lt_succ_of_lt (Nat.lt_of_succ_lt heH))) ((hs₂.2 _ (Ne.symm (Nat.succ_ne_self _))).trans ho), r⟩
    have hn₃ : h₃.Ns env.locals m' := F'.ns.at' fun o x => keep₃ _ o eL.symm iL.symm x
    show wpAny _ A (do holding [v] (assign (.Name xi pi) env (.int i tk)); do holding [] (assign (.Name xv pv) env v); pure ()) _ _ _
    refine wpAny_bind (wpAny_holding (wpAny_assign_Name (wpAny_storeName_local hxi hn₃ (fun h₄ hn₄ hs₄ => ?_) hp)))
    replace hs₄ : Heap.SameBut env.locals h₃ h₄ := hs₄
    refine wpAny_bind (wpAny_holding (wpAny_assign_Name (wpAny_storeName_local hxv hn₄ (fun h₅ hn₅ hs₅ => wpAny_pure ?_) hp)))
    replace hs₅ : Heap.SameBut env.locals h₄ h₅ := hs₅
    have hL0 : h₀.get? env.locals = none := Heap.get?_none_of_le F'.above
    have up : ∀ b o, b ≠ env.locals → h₃.get? b = some o → h₅.get? b = some o := fun b o hbL x => hs₅.extBut b o hbL (hs₄.extBut b o hbL x)
    have ne0 : ∀ {b o}, h₀.get? b = some o → b ≠ env.locals ∧ b ≠ I + 1 ∧ b ≠ I := fun {b o} e => ⟨fun q => (by rw [q, hL0] at e; cases e), fun q => (by rw [q, e0] at e; cases e), fun q => (by rw [q, i0] at e; cases e)⟩
    have F5 : Fr h₀ env.locals h₅ (fun y => if y = xv then some v else if y = xi then some (.int i tk) else m' y) :=
      ⟨hn₅, fun b o e => up b o (ne0 e).1 (keep₃ b o (ne0 e).2.1 (ne0 e).2.2 (F'.keep b o e)), F'.above⟩
    have N5 : News h₀ env.locals h₅ led' := fun p hp => ⟨up _ _ (N' p hp).2.1 (keep₃ _ _ (Nat.ne_of_lt (Nat.lt_succ_of_lt (hlt' p hp))) (Nat.ne_of_lt (hlt' p hp)) (N' p hp).1), (N' p hp).2⟩
    refine hit₃.elim fun oI hI => ?_
    have hoI := hI.1
    have hcI := hI.2.1
    have hdI := hI.2.2
    have N6 : News h₀ env.locals h₅ ((I + 1, _) :: (I, oI) :: led') := fun p hp => (List.mem_cons.mp hp).elim (fun e => e ▸ ⟨up _ _ eL he₃, eL, e0⟩) fun hp => (List.mem_cons.mp hp).elim (fun e => e ▸ ⟨up _ _ iL hoI, iL, i0⟩) fun hp => N5 p hp
    refine wpAny_mono (turn i v tk m' led' h₅ _ _ _ _ oI hv hJ' F5 N6 hlt' (Nat.lt_succ_self _)) (fun f s₃ h₆ => ?_) fun _ _ x => x.elim
    clear turn done F5 N6 N5 ne0 up hn₅ hs₅ hn₄ hs₄ hn₃ hit₃ he₃ keep₃ old₃ hx₃ hz₂ ht₂ hs₂ he₂ hk₁ hz₁ ht₁ hit₁ heo hJ' hlt' N' F' hit' he' hoI hI
    obtain ⟨rfl, h₆, tk₆, m₂, led₂, rfl, F₆, N₆, hlt₆, hJ₆⟩ := h₆
    refine ⟨items.size + 1 - (i + 1), Nat.sub_lt_sub_left (Nat.lt_succ_of_lt hlt) (Nat.lt_succ_self _), .mk h₆ tk₆ m₂ led₂ (i + 1) v ?_ ⟨oI, (N₆ _ (.tail _ (.head _))).1, hcI, hdI⟩ F₆ (fun p hp => N₆ p (.tail _ (.tail _ hp))) hlt₆ hJ₆ hlt⟩
    have : ((i + 1 : Nat) : Int) = (i : Int) + 1 := by push_cast; rfl
    rw [this]; exact (N₆ _ (.head _)).1
theorem letGo_tupleiter {elts : List PySem.Expr} {x1 : Nat} {pos : Pos} {I l T : Addr} {i : Nat} {Q : Unit → Shared → Prop} (hit : s.heap.IsTupleIter I l i) (hQ : Q () s) :
    wpAny (model prog w) A (letOwnedTupleGo (.Tuple elts x1 pos) (.ref I) (.ref T)) Q E s := by
  obtain ⟨o, ho, hc, hd⟩ := hit
  unfold letOwnedTupleGo
  refine wpAny_bind (wpAny_load ho ?_)
  rw [hc, hd]
  show wpAny _ A (if (["enumerate", "zip", "dict_itemiterator", "dict_reverseitemiterator", "odict_iterator", "itertools.zip_longest", "itertools.pairwise"].contains "tuple_iterator" &&
      (#[.ref l, .int i 0] : Array Value)[0]? == some (rawInt T)) = true then _ else _) Q E s
  rw [if_neg (by
    intro h
    rw [show (["enumerate", "zip", "dict_itemiterator", "dict_reverseitemiterator", "odict_iterator", "itertools.zip_longest", "itertools.pairwise"].contains "tuple_iterator") = false from by decide, Bool.false_and] at h
    cases h)]
  exact wpAny_pure hQ
/-- what a turn of a search leaves -/
noncomputable def FFirst (h₀ : Heap) (L : Addr) (s : Shared) (I : Addr) (oI : Obj) (m : Str → Option Value) (led : List (Addr × Obj)) (G : Prop) (Q : Flow → Shared → Prop) (f : Flow) (s₃ : Shared) : Prop :=
  match f with
  | .brk => Q .next s₃
  | .ret v => Q (.ret v) s₃
  | _ => ∃ h' tk', s₃ = { s with heap := h', toks := tk' } ∧ Fr h₀ L h' m ∧ News h₀ L h' ((I, oI) :: led) ∧ G
theorem FFirst.brk {I : Addr} {oI : Obj} {led : List (Addr × Obj)} {G : Prop} {Q : Flow → Shared → Prop} {s₃ : Shared} (h : Q .next s₃) : FFirst h₀ L s I oI m led G Q .brk s₃ := h
theorem FFirst.next {I : Addr} {oI : Obj} {led : List (Addr × Obj)} {G : Prop} {Q : Flow → Shared → Prop} {h' : Heap} {tk' : Nat} (F : Fr h₀ L h' m) (N : News h₀ L h' ((I, oI) :: led)) (hG : G) : FFirst h₀ L s I oI m led G Q .next { s with heap := h', toks := tk' } :=
  ⟨h', tk', rfl, F, N, hG⟩
inductive FFI (h₀ : Heap) (L : Addr) (s : Shared) (I l : Addr) (x1 x2 : Str) (m : Str → Option Value) (led : List (Addr × Obj)) (items : List Value) (G : Nat → Prop) : Nat → Shared → Prop
  | mk (h' : Heap) (tk i : Nat) (o1 o2 : Option Value) (hst : h'.IsTupleIter I l i ∧ h'.IsTuple l items.toArray) (F : Fr h₀ L h' (fun z => if z = x2 then o2 else if z = x1 then o1 else m z)) (N : News h₀ L h' led) (hi : i ≤ items.length) (hG : ∀ j, j < i → G j) :
    FFI h₀ L s I l x1 x2 m led items G (items.length + 1 - i) { s with heap := h', toks := tk }
/-- for a, b in (pairs): a search that breaks at the first hit -/
theorem for_first {x1 x2 : Str} {p1 p2 pt : Pos} {k1 : Nat} {body orelse : List Stmt} {l : Addr} {items : List Value} {Q : Flow → Shared → Prop} {led : List (Addr × Obj)} (fv : Nat → Value × Value) (G : Nat → Prop)
    (hh : A.handled = none) (hL : env.locals = L) (hx1 : env.kindOf x1 = some .local) (hx2 : env.kindOf x2 = some .local)
    (hp : (env.scope.kind == .class || (env.scope.kind == .module && env.locals != env.globals)) = false)
    (hl : h₀.IsTuple l items.toArray) (hit : ∀ k v, items[k]? = some v → ∃ a, v = .ref a ∧ h₀.IsTuple a #[(fv k).1, (fv k).2]) (F : Fr h₀ L s.heap m) (N : News h₀ L s.heap led)
    (turn : ∀ k h tk I oI, k < items.length → (∀ j, j < k → G j) → Fr h₀ L h (fun z => if z = x2 then some (fv k).2 else if z = x1 then some (fv k).1 else m z) → News h₀ L h ((I, oI) :: led) → (∀ p ∈ led, p.1 < I) →
      wpAny (model prog w) A (execs body env) (FFirst h₀ L s I oI (fun z => if z = x2 then some (fv k).2 else if z = x1 then some (fv k).1 else m z) led (G k) Q) (fun _ _ => False) { s with heap := h, toks := tk })
    (els : ∀ h tk vx vy, (∀ j, j < items.length → G j) → Fr h₀ L h (fun z => if z = x2 then vx else if z = x1 then vy else m z) → News h₀ L h led →
      wpAny (model prog w) A (execs orelse env) Q (fun _ _ => False) { s with heap := h, toks := tk }) :
    ForAt prog w A (.Tuple [.Name x1 p1, .Name x2 p2] k1 pt) body orelse env Q E (.ref l) s := by
  subst hL
  have hls : s.heap.IsTuple l items.toArray := hl.at fun o e => F.keep _ o e
  show wpAny _ A (pyIter (.ref l)) _ _ _
  refine wpAny_pyIter_tuple hls ?_
  have hLlt : env.locals < s.heap.objs.size := F.ns.lt
  have hlt : l < s.heap.objs.size := by obtain ⟨_, e, _⟩ := hls; exact Heap.lt_size e
  have iL : s.heap.objs.size ≠ env.locals := Nat.ne_of_gt hLlt
  have i0 : h₀.get? s.heap.objs.size = none := next_is_new F
  have hL0 : h₀.get? env.locals = none := Heap.get?_none_of_le F.above
  have W := Walks.tuple (prog := prog) (w := w) hh s.heap.objs.size l (Nat.ne_of_lt hlt) items.toArray
  have up0 : ∀ b o, s.heap.get? b = some o → (s.heap.push { cls := .type "tuple_iterator", data := .fields #[.ref l, .int 0 0] }).get? b = some o := fun b o e => Heap.get?_push_of_some _ e
  refine codeAny_forLoop_any (FFI h₀ env.locals s s.heap.objs.size l x1 x2 m led items G) (fun k s' hK => ?_) (items.length + 1)
    (.mk _ s.toks 0 (m x1) (m x2) ⟨⟨_, Heap.get?_push_size _ rfl, rfl, rfl⟩, hls.at fun o e => up0 _ o e⟩ ?_ (N.grown up0) (Nat.zero_le _) fun j hj => absurd hj (Nat.not_lt_zero _))
  · have ltN : ∀ p ∈ led, p.1 < s.heap.objs.size := fun p hp => Heap.lt_size (N p hp).1
    clear up0 hls hlt N F
    generalize s.heap.objs.size = I at hK hLlt iL i0 W ltN ⊢
    obtain ⟨H, tk, i, o1, o2, hst, F', N', hi, hG⟩ := hK
    by_cases hlt' : i < items.length
    · refine W.item i _ _ _ (by simpa using hlt') hst fun v h₂ tk₂ hPv hst₂ hk₂ => ?_
      have hPv' : items[i]? = some v := by simpa using hPv
      refine (hit i v hPv').elim fun a ha => ?_
      have hta := ha.2
      obtain rfl := ha.1
      have F₂ : Fr h₀ env.locals h₂ _ := LCg.fr_but F' hk₂ (Ne.symm iL) i0
      have N₂ : News h₀ env.locals h₂ led := LCg.news_but N' hk₂ fun p hp => Nat.ne_of_lt (ltN p hp)
      refine letGo_tupleiter hst₂.1 ?_
      have hta₂ : h₂.IsTuple a #[(fv i).1, (fv i).2] := hta.at fun o e => F₂.keep _ o e
      refine wpAny_assign_Tuple hh hta₂ rfl rfl fun h₃ hx₃ => ?_
      replace hx₃ : Heap.ExtBut h₂.objs.size h₂ h₃ := hx₃
      have k₃ : ∀ b o, h₂.get? b = some o → h₃.get? b = some o := fun b o e => hx₃ b o (Nat.ne_of_lt (Heap.lt_size e)) e
      have F₃ := F₂.keeps k₃
      have N₃ := N₂.grown k₃
      refine hst₂.1.elim fun oI hI => ?_
      have hoI := hI.1
      have hcI := hI.2.1
      have hdI := hI.2.2
      show wpAny _ A (do holding [(fv i).2] (assign (.Name x1 p1) env (fv i).1); do holding [] (assign (.Name x2 p2) env (fv i).2); pure ()) _ _ _
      refine wpAny_bind (wpAny_holding (wpAny_assign_Name (wpAny_storeName_local hx1 F₃.ns (fun h₄ hn₄ hs₄ => ?_) hp)))
      replace hs₄ : Heap.SameBut env.locals h₃ h₄ := hs₄
      refine wpAny_bind (wpAny_holding (wpAny_assign_Name (wpAny_storeName_local hx2 hn₄ (fun h₅ hn₅ hs₅ => wpAny_pure ?_) hp)))
      replace hs₅ : Heap.SameBut env.locals h₄ h₅ := hs₅
      have up : ∀ b o, b ≠ env.locals → h₃.get? b = some o → h₅.get? b = some o := fun b o hbL x => hs₅.extBut b o hbL (hs₄.extBut b o hbL x)
      have F5 : Fr h₀ env.locals h₅ (fun z => if z = x2 then some (fv i).2 else if z = x1 then some (fv i).1 else m z) := by
        refine ⟨?_, fun b o e => up b o (fun q => by rw [q, hL0] at e; cases e) (F₃.keep b o e), F₃.above⟩
        refine Eq.mp (congrArg _ ?_) hn₅
        funext z
        by_cases e2 : z = x2
        · simp only [if_pos e2]
        · by_cases e1 : z = x1
          · simp only [if_neg e2, if_pos e1]
          · simp only [if_neg e2, if_neg e1]
      have N5 : News h₀ env.locals h₅ ((I, oI) :: led) := fun p hp => (List.mem_cons.mp hp).elim (fun e => e ▸ ⟨up _ _ iL (k₃ _ _ hoI), iL, i0⟩) fun hp => ⟨up _ _ (N₃ p hp).2.1 (N₃ p hp).1, (N₃ p hp).2⟩
      refine wpAny_mono (turn i h₅ _ _ oI hlt' hG F5 N5 ltN) (fun f s₃ h₆ => ?_) fun _ _ x => x.elim
      clear turn els F5 N5 up hn₅ hs₅ hn₄ hs₄ N₃ F₃ k₃ hx₃ hta₂ N₂ F₂ hta ha hit F' N' hst hst₂ hk₂ hPv hPv' hoI hI
      have nx : FFirst h₀ env.locals s I oI (fun z => if z = x2 then some (fv i).2 else if z = x1 then some (fv i).1 else m z) led (G i) Q .next s₃ → ∃ k', k' < items.length + 1 - i ∧ FFI h₀ env.locals s I l x1 x2 m led items G k' s₃ := by
        rintro ⟨H6, tk₆, rfl, F₆, N₆, hGi⟩
        refine ⟨items.length + 1 - (i + 1), Nat.sub_lt_sub_left (Nat.lt_succ_of_lt hlt') (Nat.lt_succ_self _), .mk H6 tk₆ (i + 1) _ _ ⟨⟨oI, (N₆ _ (.head _)).1, hcI, hdI⟩, hl.at fun o e => F₆.keep _ o e⟩ F₆ (fun p hp => N₆ p (.tail _ hp)) hlt' fun j hj => ?_⟩
        exact (Nat.lt_or_ge j i).elim (hG j) fun h => Nat.le_antisymm (Nat.le_of_lt_succ hj) h ▸ hGi
      cases f with
      | next => exact nx h₆
      | cont => exact nx h₆
      | brk => exact h₆
      | ret v => exact h₆
    · obtain rfl : i = items.length := Nat.le_antisymm hi (Nat.not_lt.mp hlt')
      refine W.done _ _ _ (by simpa using hst) fun h₂ tk₂ hk₂ => ?_
      exact wpAny_mono (els h₂ tk₂ o2 o1 hG (LCg.fr_but F' hk₂ (Ne.symm iL) i0) (LCg.news_but N' hk₂ fun p hp => Nat.ne_of_lt (ltN p hp))) (fun _ _ hq => hq) fun _ _ x => x.elim
  · refine Fr.keeps ?_ up0
    refine Eq.mp (congrArg _ ?_) F
    funext z
    by_cases e2 : z = x2
    · rw [if_pos e2, e2]
    · by_cases e1 : z = x1
      · rw [if_neg e2, if_pos e1, e1]
      · rw [if_neg e2, if_neg e1]
end
end TS3
section TP4
/-- bits and signs, place by place -/
noncomputable def fmT : List (List (Int × Nat)) := [[(40960, 108), (49152, 115), (32768, 45), (24576, 98), (16384, 100), (8192, 99), (4096, 112)], [(256, 114)], [(128, 119)], [(2112, 115), (2048, 83), (64, 120)], [(32, 114)], [(16, 119)], [(1032, 115), (1024, 83), (8, 120)], [(4, 114)], [(2, 119)], [(513, 116), (512, 84), (1, 120)]]
noncomputable def pick (c : Int → Bool) (d : Nat) : List (Int × Nat) → Nat
  | [] => d
  | (b, ch) :: r => if c b then ch else pick c d r
noncomputable def lookCode (m : Int) (i : Nat) : Nat := if i = 0 then pick (fun b => Builtin.bitAnd m 61440 == b) 63 (fmT.getD 0 []) else pick (fun b => Builtin.bitAnd m b == b) 45 (fmT.getD i [])
noncomputable def lookCh (m : Int) (i : Nat) : Str := ⟨#[lookCode m i]⟩
noncomputable def lookOf (m : Int) : Str := ⟨((List.range 10).map (lookCode m)).toArray⟩
theorem strs_snoc {x : Str} {t : Tok} : ∀ {vs : List Value} {ss : List Str}, StrsAre vs ss → StrsAre (vs ++ [.str x t]) (ss ++ [x])
  | _, _, .nil => .cons x t .nil
  | _, _, .cons x' t' h => .cons x' t' (strs_snoc h)
theorem looks_snoc {m : Int} {i : Nat} {vs : List Value} {x : Str} {t : Tok} (h : StrsAre vs ((List.range i).map (lookCh m))) (e : lookCh m i = x) : StrsAre (vs ++ [.str x t]) ((List.range (i + 1)).map (lookCh m)) := by
  rw [List.range_succ, List.map_append, List.map_cons, List.map_nil, e]; exact strs_snoc h
theorem lookCh_of {m : Int} {i c : Nat} {x : Str} (e : lookCode m i = c) (h : (⟨#[c]⟩ : Str) = x) : lookCh m i = x := by unfold lookCh; rw [e]; exact h
end TP4
section TP5
theorem ext_str {a b : Str} (h : a.cps.toList = b.cps.toList) : a = b := by
  cases a; cases b
  congr 1
  exact Array.toList_inj.mp h
theorem app_cps (a b : Str) : (a ++ b).cps.toList = a.cps.toList ++ b.cps.toList := by
  show (a.cps ++ b.cps).toList = _
  simp
theorem join_cps : ∀ l : List Str, (Str.join (Str.ofString "") l).cps.toList = (l.map (fun x : Str => x.cps.toList)).flatten
  | [] => rfl
  | [x] => by simp [Str.join]
  | x :: y :: r => by
    have ih := join_cps (y :: r)
    show ((x ++ Str.ofString "") ++ Str.join (Str.ofString "") (y :: r)).cps.toList = _
    rw [app_cps, app_cps, ih]
    have e : (Str.ofString "").cps.toList = [] := by decide
    rw [e]; simp
theorem join_codes (cs : List Nat) : Txt.join (Str.ofString "") (cs.map fun c => (⟨#[c]⟩ : Str)) = ⟨cs.toArray⟩ := by
  refine ext_str ?_
  have h := join_cps (cs.map fun c => (⟨#[c]⟩ : Str))
  have e : Txt.join (Str.ofString "") (cs.map fun c => (⟨#[c]⟩ : Str)) = Str.join (Str.ofString "") (cs.map fun c => (⟨#[c]⟩ : Str)) := StrLaws.glued_eq_join _ _
  rw [e, h]
  clear h e
  induction cs with
  | nil => rfl
  | cons c r ih => simp at ih ⊢; exact ih
theorem looks_join (m : Int) : Txt.join (Str.ofString "") ((List.range 10).map (lookCh m)) = lookOf m := by
  have h := join_codes ((List.range 10).map (lookCode m))
  rw [List.map_map] at h
  exact h
end TP5
section TC9
set_option maxRecDepth 100000
set_option maxHeartbeats 8000000
set_option rowWalk.seconds 0
open LCg (NsObj lst Off3 Off1)
theorem fillF_C9 (w : World) : PySem.Challenge.rw_oy0037_01.row.prog = PySem.Challenge.rw_oy0037_01.row.prog ∧ hd.heap_1 w.params = hd.heap_1 w.params := by
  k_fill
  exact ⟨rfl, rfl⟩
theorem c_ifmt (w : World) {A : Around} {s : Shared} {p : Program} {loose : List Str} {mean : ExcName → Option Value} {mg mb : Str → Option Value} (G : Gd w A p loose mean mg mb s.heap 3 100)
  {m : Int} {t : Tok} {Q E : Value → Shared → Prop} (hq : ∀ tr h' tk', Ext s.heap h' → Q (.int (Builtin.bitAnd m 61440) tr) { s with heap := h', toks := tk' }) :
  wpAny (model PySem.Challenge.rw_oy0037_01.row.prog w) A (call (.ref 72) [.int m t]) Q E s := by
  obtain ⟨hh, dp, fr, gd, un⟩ := A
  have hh0 : hh = none := G.hh
  subst hh0
  have X : (hd.heap_1 w.params).In s.heap := G.X
  have T := G.T
  have hdp := G.hd
  refine enter (K := hd.heap_1 w.params) (args := ⟨[.int m t], []⟩) (P := fun v h' => ∃ tr, v = .int (Builtin.bitAnd m 61440) tr) X T.nolimit (by k_dflt k_is) (by k_dflt k_is) (by show dp < _; have q : dp + _ < _ := hdp; omega) (BindsTo.of_eq rfl) (locs rfl) (by decide) ?_ ?_
  · intro h₁ tk F
    have N : News s.heap s.heap.objs.size h₁ [] := News.nil
    k_steps
    exact PR.intro (by assumption) ⟨_, rfl⟩
  · rintro v h' tk' hx ⟨tr, rfl⟩
    exact hq tr h' tk' hx
theorem fm_map {a b c d v1 v2 v3 v4 P M : Option Value} :
    (fun z => if z = Str.ofString "char" then a else if z = Str.ofString "bit" then b else (if z = Str.ofString "table" then c else if z = Str.ofString "index" then d else (if z = Str.ofString "char" then v1 else if z = Str.ofString "bit" then v2 else if z = Str.ofString "table" then v3 else if z = Str.ofString "index" then v4 else if z = Str.ofString "perm" then P else if z = Str.ofString "mode" then M else none))) =
    (fun z => if z = Str.ofString "char" then a else if z = Str.ofString "bit" then b else if z = Str.ofString "table" then c else if z = Str.ofString "index" then d else if z = Str.ofString "perm" then P else if z = Str.ofString "mode" then M else none) := by
  funext z
  by_cases e1 : z = Str.ofString "char"
  · simp only [if_pos e1]
  · by_cases e2 : z = Str.ofString "bit"
    · simp only [if_neg e1, if_pos e2]
    · by_cases e3 : z = Str.ofString "table"
      · simp only [if_neg e1, if_neg e2, if_pos e3]
      · by_cases e4 : z = Str.ofString "index"
        · simp only [if_neg e1, if_neg e2, if_neg e3, if_pos e4]
        · simp only [if_neg e1, if_neg e2, if_neg e3, if_neg e4]
theorem tup2 {K : Frag} {h : Heap} {a : Addr} {l : List Value} {dd : Option Addr} {n : Nat} {sl : Array (Option Value)} {x y : Value} (X : K.In h) (hl : K.lookup a = some ⟨.type "tuple", dd, .seq l.toArray n, sl⟩) (e : l = [x, y]) : h.IsTuple a #[x, y] := by
  subst e; exact tupK X hl
inductive Pairs (h : Heap) : List Value → List (Int × Nat) → Prop
  | nil : Pairs h [] []
  | cons {a : Addr} {b : Int} {c : Nat} {t u : Tok} {l : List Value} {tab : List (Int × Nat)} : h.IsTuple a #[.int b t, .str ⟨#[c]⟩ u] → Pairs h l tab → Pairs h (.ref a :: l) ((b, c) :: tab)
theorem Pairs.at {h : Heap} : ∀ {l : List Value} {tab : List (Int × Nat)}, Pairs h l tab → l.length = tab.length ∧ ∃ tf uf : Nat → Tok, ∀ k v, l[k]? = some v → ∃ a, v = .ref a ∧ h.IsTuple a #[.int (tab.getD k (0, 0)).1 (tf k), .str ⟨#[(tab.getD k (0, 0)).2]⟩ (uf k)]
  | _, _, .nil => ⟨rfl, fun _ => 0, fun _ => 0, fun k v hv => by simp at hv⟩
  | _, _, .cons (t := t) (u := u) ht r => by
    obtain ⟨hl, tf, uf, hr⟩ := Pairs.at r
    refine ⟨by simp [hl], fun k => match k with | 0 => t | k + 1 => tf k, fun k => match k with | 0 => u | k + 1 => uf k, fun k v hv => ?_⟩
    cases k with
    | zero => cases hv; exact ⟨_, rfl, ht⟩
    | succ k => exact hr k v (by simpa using hv)
theorem pick_hit {c : Int → Bool} {d : Nat} : ∀ {tab : List (Int × Nat)} {k : Nat}, k < tab.length → c (tab.getD k (0, 0)).1 = true → (∀ j, j < k → c (tab.getD j (0, 0)).1 = false) → pick c d tab = (tab.getD k (0, 0)).2
  | [], k, hk, _, _ => absurd hk (by simp)
  | (b, ch) :: r, 0, _, hc, _ => by
    simp only [List.getD_cons_zero] at hc ⊢
    simp [pick, hc]
  | (b, ch) :: r, k + 1, hk, hc, hn => by
    have h0 := hn 0 (Nat.succ_pos _)
    simp only [List.getD_cons_zero] at h0
    simp only [List.getD_cons_succ] at hc ⊢
    simp only [pick, h0, Bool.false_eq_true, if_false]
    exact pick_hit (by simpa using hk) hc fun j hj => by simpa using hn (j + 1) (Nat.succ_lt_succ hj)
theorem pick_none {c : Int → Bool} {d : Nat} : ∀ {tab : List (Int × Nat)}, (∀ j, j < tab.length → c (tab.getD j (0, 0)).1 = false) → pick c d tab = d
  | [], _ => rfl
  | (b, ch) :: r, hn => by
    have h0 := hn 0 (by simp)
    simp only [List.getD_cons_zero] at h0
    simp only [pick, h0, Bool.false_eq_true, if_false]
    exact pick_none fun j hj => by simpa using hn (j + 1) (by simpa using hj)
theorem kzero {i : Nat} {tk : Tok} : (Value.int ((i : Nat) : Int) tk) = Value.int (i : Int) tk := rfl
set_option pp.deepTerms.threshold 3
set_option pp.proofs false
inductive JE (lP : Addr) (m : Int) (t : Tok) (i : Nat) (m₁ : Str → Option Value) (led : List (Addr × Obj)) : Prop
  | mk (pvs : List Value) (n : Nat) (v1 v2 v3 v4 : Option Value) (hl : led = [(lP, W.listOf (List.toArray pvs) n)]) (hp : StrsAre pvs ((List.range i).map (lookCh m)))
    (hm : m₁ = (fun y => if y = Str.ofString "char" then v1 else if y = Str.ofString "bit" then v2 else if y = Str.ofString "table" then v3 else if y = Str.ofString "index" then v4 else if y = Str.ofString "perm" then some (.ref lP) else if y = Str.ofString "mode" then some (.int m t) else none)) : JE lP m t i m₁ led
theorem c_filemode (w : World) {A : Around} {s : Shared} {p : Program} {loose : List Str} {mean : ExcName → Option Value} {mg mb : Str → Option Value} (G : Gd w A p loose mean mg mb s.heap 9 400)
  {m : Int} {t : Tok} {Q E : Value → Shared → Prop} (hq : ∀ tr h' tk', Ext s.heap h' → Q (.str (lookOf m) tr) { s with heap := h', toks := tk' }) :
  wpAny (model PySem.Challenge.rw_oy0037_01.row.prog w) A (call (.ref 112) [.int m t]) Q E s := by
  obtain ⟨hh, dp, fr, gd, un⟩ := A
  have hh0 : hh = none := G.hh
  subst hh0
  have X : (hd.heap_1 w.params).In s.heap := G.X
  have T := G.T
  have hdp := G.hd
  refine enter (K := hd.heap_1 w.params) (args := ⟨[.int m t], []⟩) (P := fun v h' => ∃ tr, v = .str (lookOf m) tr) X T.nolimit (by k_dflt k_is) (by k_dflt k_is) (by show dp < _; have q : dp + _ < _ := hdp; omega) (BindsTo.of_eq rfl) (locs rfl) (by decide) ?_ ?_
  · intro h₁ tk F
    have N : News s.heap s.heap.objs.size h₁ [] := News.nil
    refine gen_post fun Q0 hQ0 => ?_
    k_steps
    rename_i lP hA1 l1 hA2 FA NA
    refine for_enum (JE lP m t)
      rfl rfl rfl rfl rfl (tupK X (by k_dflt k_is)) FA NA ?_ ?_ ?_
    · refine ⟨[], 0, none, none, none, none, rfl, .nil, ?_⟩
      funext y
      by_cases e1 : y = Str.ofString "char"
      · subst e1; rfl
      · by_cases e2 : y = Str.ofString "bit"
        · subst e2; rfl
        · by_cases e3 : y = Str.ofString "table"
          · subst e3; rfl
          · by_cases e4 : y = Str.ofString "index"
            · subst e4; rfl
            · rw [if_neg e1, if_neg e2, if_neg e3, if_neg e4]
              by_cases e5 : y = Str.ofString "perm"
              · subst e5; rfl
              · rw [if_neg e5, if_neg e5]
                by_cases e6 : y = Str.ofString "mode"
                · subst e6; rfl
                · rw [if_neg e6]
                  show List.lookup y [(Str.ofString "mode", _)] = none
                  rw [List.lookup_cons, beq_false_of_ne e6]
                  rfl
    · rintro i v tk5 m₁ led₁ h tk6 e it oE oI hv hJJ F2 N2 hlt9 hie
      clear FA NA
      refine gen_post fun Q1 hQ1 => ?_
      refine gen_goal fun GG hGG => ?_
      obtain ⟨pvs, n, v1, v2, v3, v4, rfl, hp, rfl⟩ := hJJ
      have hi10 : i < 10 := by
        have := (Array.getElem?_eq_some_iff.mp hv).1
        simpa using this
      have hpl : pvs.toArray.size ≤ 10 := by
        rw [List.size_toArray, hp.length]; simp; omega
      have oQ : @LT.lt Nat _ lP it ∧ @LT.lt Nat _ it e := ⟨hlt9 (lP, _) (.head _), hie⟩
      have htab : ∃ t lt, v = .ref t ∧ s.heap.IsTuple t (List.toArray lt) ∧ Pairs s.heap lt (fmT.getD i []) := by
        clear F2 N2 hlt9 hp hpl oQ hQ0 hGG hQ1
        obtain rfl | rfl | rfl | rfl | rfl | rfl | rfl | rfl | rfl | rfl : i = 0 ∨ i = 1 ∨ i = 2 ∨ i = 3 ∨ i = 4 ∨ i = 5 ∨ i = 6 ∨ i = 7 ∨ i = 8 ∨ i = 9 := by omega
        · cases hv
          refine' ⟨_, _, rfl, tupK X ?a, ?b⟩
          case a => k_dflt k_is
          case b =>
            refine' .cons (tup2 X ?k0 ?e0) (.cons (tup2 X ?k1 ?e1) (.cons (tup2 X ?k2 ?e2) (.cons (tup2 X ?k3 ?e3) (.cons (tup2 X ?k4 ?e4) (.cons (tup2 X ?k5 ?e5) (.cons (tup2 X ?k6 ?e6) .nil))))))
            case k0 => k_dflt k_is
            case e0 => rfl
            case k1 => k_dflt k_is
            case e1 => rfl
            case k2 => k_dflt k_is
            case e2 => rfl
            case k3 => k_dflt k_is
            case e3 => rfl
            case k4 => k_dflt k_is
            case e4 => rfl
            case k5 => k_dflt k_is
            case e5 => rfl
            case k6 => k_dflt k_is
            case e6 => rfl
        · cases hv
          refine' ⟨_, _, rfl, tupK X ?a, ?b⟩
          case a => k_dflt k_is
          case b =>
            refine' .cons (tup2 X ?k0 ?e0) .nil
            case k0 => k_dflt k_is
            case e0 => rfl
        · cases hv
          refine' ⟨_, _, rfl, tupK X ?a, ?b⟩
          case a => k_dflt k_is
          case b =>
            refine' .cons (tup2 X ?k0 ?e0) .nil
            case k0 => k_dflt k_is
            case e0 => rfl
        · cases hv
          refine' ⟨_, _, rfl, tupK X ?a, ?b⟩
          case a => k_dflt k_is
          case b =>
            refine' .cons (tup2 X ?k0 ?e0) (.cons (tup2 X ?k1 ?e1) (.cons (tup2 X ?k2 ?e2) .nil))
            case k0 => k_dflt k_is
            case e0 => rfl
            case k1 => k_dflt k_is
            case e1 => rfl
            case k2 => k_dflt k_is
            case e2 => rfl
        · cases hv
          refine' ⟨_, _, rfl, tupK X ?a, ?b⟩
          case a => k_dflt k_is
          case b =>
            refine' .cons (tup2 X ?k0 ?e0) .nil
            case k0 => k_dflt k_is
            case e0 => rfl
        · cases hv
          refine' ⟨_, _, rfl, tupK X ?a, ?b⟩
          case a => k_dflt k_is
          case b =>
            refine' .cons (tup2 X ?k0 ?e0) .nil
            case k0 => k_dflt k_is
            case e0 => rfl
        · cases hv
          refine' ⟨_, _, rfl, tupK X ?a, ?b⟩
          case a => k_dflt k_is
          case b =>
            refine' .cons (tup2 X ?k0 ?e0) (.cons (tup2 X ?k1 ?e1) (.cons (tup2 X ?k2 ?e2) .nil))
            case k0 => k_dflt k_is
            case e0 => rfl
            case k1 => k_dflt k_is
            case e1 => rfl
            case k2 => k_dflt k_is
            case e2 => rfl
        · cases hv
          refine' ⟨_, _, rfl, tupK X ?a, ?b⟩
          case a => k_dflt k_is
          case b =>
            refine' .cons (tup2 X ?k0 ?e0) .nil
            case k0 => k_dflt k_is
            case e0 => rfl
        · cases hv
          refine' ⟨_, _, rfl, tupK X ?a, ?b⟩
          case a => k_dflt k_is
          case b =>
            refine' .cons (tup2 X ?k0 ?e0) .nil
            case k0 => k_dflt k_is
            case e0 => rfl
        · cases hv
          refine' ⟨_, _, rfl, tupK X ?a, ?b⟩
          case a => k_dflt k_is
          case b =>
            refine' .cons (tup2 X ?k0 ?e0) (.cons (tup2 X ?k1 ?e1) (.cons (tup2 X ?k2 ?e2) .nil))
            case k0 => k_dflt k_is
            case e0 => rfl
            case k1 => k_dflt k_is
            case e1 => rfl
            case k2 => k_dflt k_is
            case e2 => rfl
      obtain ⟨t9, lt9, rfl, hlt, hps⟩ := htab
      obtain ⟨hll, tf, uf, hat⟩ := hps.at
      refine hGG ?_
      clear hGG
      rcases Nat.eq_zero_or_pos i with hi0 | hi0
      · subst hi0
        k_steps
        refine for_start ?_
        k_steps
        refine for_first (fun k => (.int ((fmT.getD 0 []).getD k (0, 0)).1 (tf k), .str ⟨#[((fmT.getD 0 []).getD k (0, 0)).2]⟩ (uf k))) (fun k => (Builtin.bitAnd m 61440 == ((fmT.getD 0 []).getD k (0, 0)).1) = false) rfl rfl rfl rfl rfl hlt hat F2 N2 ?_ ?_
        · rintro k h tk I oI' hk hf F4 N4 hI
          have oP : @LT.lt Nat _ lP I ∧ @LT.lt Nat _ e I ∧ @LT.lt Nat _ it I ∧ @LT.lt Nat _ lP it ∧ @LT.lt Nat _ it e := ⟨hI (lP, _) (.tail _ (.tail _ (.head _))), hI (e, _) (.head _), hI (it, _) (.tail _ (.head _)), oQ.1, oQ.2⟩
          rw [hll] at hk
          have hh := fun c => pick_hit (c := c) (d := 63) (tab := fmT.getD 0 []) hk
          dsimp only at F4 hf ⊢
          generalize ((fmT.getD 0 []).getD k (0, 0)).1 = b at F4 hh ⊢
          generalize ((fmT.getD 0 []).getD k (0, 0)).2 = c at F4 hh ⊢
          refine gen_post fun Q2 hQ2 => ?_
          k_steps
          unfold Halt
          refine c_ifmt w (G.sub F4) ?_
          intro tr h' tk' hx'
          have F5 := Fr.keeps F4 hx'
          have N5 := News.grown N4 hx'
          clear F4 N4 hx'
          k_steps
          · rename_i hYes h9 F9 N9
            refine hQ2 _ _ (FFirst.brk ?_)
            k_steps
            rw [List.push_toArray] at N9
            exact hQ1 _ _ (ETurn.intro F9 (fun p hp => N9 p (.tail _ hp)) (fun p hp => by rw [List.mem_singleton.mp hp]; exact oQ.1) ⟨_, _, _, _, _, _, rfl, looks_snoc hp (lookCh_of (by unfold lookCode; rw [if_pos rfl]; exact hh _ (by simpa using hYes) hf) rfl), fm_map⟩)
          · refine hQ2 _ _ ?_
            exact FFirst.next (by assumption) (by assumption) (by simp_all)
        · intro h tk vx vy hf F4 N4
          k_steps
          rename_i h9 F9 N9
          rw [List.push_toArray] at N9
          exact hQ1 _ _ (ETurn.intro F9 N9 (fun p hp => by rw [List.mem_singleton.mp hp]; exact oQ.1) ⟨_, _, _, _, _, _, rfl, looks_snoc hp (lookCh_of (c := 63) (by unfold lookCode; rw [if_pos rfl]; exact pick_none fun j hj => hf j (by rw [hll]; exact hj)) (by rfl)), fm_map⟩)
      · have hi1 : 0 < (i : Int) := by omega
        have hi2 : (i : Int) ≠ 0 := by omega
        have hi3 : i ≠ 0 := by omega
        k_steps
        refine for_start ?_
        k_steps
        refine for_first (fun k => (.int ((fmT.getD i []).getD k (0, 0)).1 (tf k), .str ⟨#[((fmT.getD i []).getD k (0, 0)).2]⟩ (uf k))) (fun k => (Builtin.bitAnd m ((fmT.getD i []).getD k (0, 0)).1 == ((fmT.getD i []).getD k (0, 0)).1) = false) rfl rfl rfl rfl rfl hlt hat F2 N2 ?_ ?_
        · rintro k h tk I oI' hk hf F4 N4 hI
          have oP : @LT.lt Nat _ lP I ∧ @LT.lt Nat _ e I ∧ @LT.lt Nat _ it I ∧ @LT.lt Nat _ lP it ∧ @LT.lt Nat _ it e := ⟨hI (lP, _) (.tail _ (.tail _ (.head _))), hI (e, _) (.head _), hI (it, _) (.tail _ (.head _)), oQ.1, oQ.2⟩
          rw [hll] at hk
          have hh := fun c => pick_hit (c := c) (d := 45) (tab := fmT.getD i []) hk
          dsimp only at F4 hf ⊢
          generalize ((fmT.getD i []).getD k (0, 0)).1 = b at F4 hh ⊢
          generalize ((fmT.getD i []).getD k (0, 0)).2 = c at F4 hh ⊢
          refine gen_post fun Q2 hQ2 => ?_
          k_steps
          · exfalso; first | omega | (simp_all; done)
          · rename_i hYes h9 F9 N9
            refine hQ2 _ _ (FFirst.brk ?_)
            k_steps
            rw [List.push_toArray] at N9
            exact hQ1 _ _ (ETurn.intro F9 (fun p hp => N9 p (.tail _ hp)) (fun p hp => by rw [List.mem_singleton.mp hp]; exact oQ.1) ⟨_, _, _, _, _, _, rfl, looks_snoc hp (lookCh_of (by unfold lookCode; rw [if_neg hi3]; exact hh _ (by simpa using hYes) hf) rfl), fm_map⟩)
          · refine hQ2 _ _ ?_
            exact FFirst.next (by assumption) (by assumption) (by simp_all)
        · intro h tk vx vy hf F4 N4
          k_steps
          · exfalso; first | omega | (simp_all; done)
          · rename_i h9 F9 N9
            rw [List.push_toArray] at N9
            exact hQ1 _ _ (ETurn.intro F9 N9 (fun p hp => by rw [List.mem_singleton.mp hp]; exact oQ.1) ⟨_, _, _, _, _, _, rfl, looks_snoc hp (lookCh_of (c := 45) (by unfold lookCode; rw [if_neg hi3]; exact pick_none fun j hj => hf j (by rw [hll]; exact hj)) (by rfl)), fm_map⟩)
    · rintro m₁ led₁ h tk ⟨pvs, n, v1, v2, v3, v4, rfl, hp, rfl⟩ F2 N2
      clear FA NA
      dsimp only
      k_steps
      have hw9 : (((List.range 10).map (lookCh m)).map (·.length)).sum + ((List.range 10).map (lookCh m)).length ≤ 1048576 := by
        simp [lookCh, Str.length, List.range, List.range.loop]
      refine join_listW (x := Str.ofString "") (ys := (List.range 10).map (lookCh m)) ⟨_, (N2 _ (.head _)).1, rfl, _, rfl⟩ (by simpa using hp) (by decide) hw9 ?_
      intro t9 k9
      rw [looks_join]
      exact hQ0 _ _ (PR.intro F2 ⟨_, rfl⟩)
  · rintro v h' tk' hx ⟨tr, rfl⟩
    exact hq tr h' tk' hx
end TC9
section TP6
/-- lists of one length: lexical order, block by block -/
theorem lex_app : ∀ {a a' b b' : List Nat}, a.length = a'.length → (a ++ b < a' ++ b' ↔ a < a' ∨ (a = a' ∧ b < b'))
  | [], [], b, b', _ => by simp
  | x :: a, y :: a', b, b', h => by
    have ih := lex_app (a := a) (a' := a') (b := b) (b' := b') (by simpa using h)
    simp only [List.cons_append, List.cons_lt_cons_iff, ih, List.cons.injEq]
    constructor
    · rintro (q | ⟨rfl, q | ⟨rfl, q⟩⟩)
      · exact .inl (.inl q)
      · exact .inl (.inr ⟨rfl, q⟩)
      · exact .inr ⟨⟨rfl, rfl⟩, q⟩
    · rintro ((q | ⟨rfl, q⟩) | ⟨⟨rfl, rfl⟩, q⟩)
      · exact .inl q
      · exact .inr ⟨rfl, .inl q⟩
      · exact .inr ⟨rfl, .inr ⟨rfl, q⟩⟩
noncomputable def kcode (k : Nat) : List Nat := [[45, 63, 98, 99, 100, 108, 112, 115].getD k 0]
noncomputable def blkS (d : Nat) : List Nat := [if d / 8 % 2 = 1 then 114 else 45, if d / 4 % 2 = 1 then 119 else 45, [45, 83, 115, 120].getD (d % 4) 0]
noncomputable def blkT (d : Nat) : List Nat := [if d / 8 % 2 = 1 then 114 else 45, if d / 4 % 2 = 1 then 119 else 45, [45, 84, 116, 120].getD (d % 4) 0]
theorem kcode_lt : ∀ k k' : Fin 8, (kcode k < kcode k' ↔ k < k') ∧ (kcode k = kcode k' ↔ k = k') := by decide
theorem blkS_lt : ∀ d d' : Fin 16, (blkS d < blkS d' ↔ d < d') ∧ (blkS d = blkS d' ↔ d = d') := by decide +kernel
theorem blkT_lt : ∀ d d' : Fin 16, (blkT d < blkT d' ↔ d < d') ∧ (blkT d = blkT d' ↔ d = d') := by decide +kernel
theorem look_lt {k k' a a' b b' c c' : Nat} (hk : k < 8) (hk' : k' < 8) (ha : a < 16) (ha' : a' < 16) (hb : b < 16) (hb' : b' < 16) (hc : c < 16) (hc' : c' < 16) :
    (kcode k ++ (blkS a ++ (blkS b ++ blkT c)) < kcode k' ++ (blkS a' ++ (blkS b' ++ blkT c')) ↔ ((k * 16 + a) * 16 + b) * 16 + c < ((k' * 16 + a') * 16 + b') * 16 + c') := by
  have h1 := kcode_lt ⟨k, hk⟩ ⟨k', hk'⟩
  have h2 := blkS_lt ⟨a, ha⟩ ⟨a', ha'⟩
  have h3 := blkS_lt ⟨b, hb⟩ ⟨b', hb'⟩
  have h4 := blkT_lt ⟨c, hc⟩ ⟨c', hc'⟩
  simp only [Fin.mk_lt_mk, Fin.mk.injEq] at h1 h2 h3 h4
  rw [lex_app (a := kcode k) (a' := kcode k') rfl, lex_app (a := blkS a) (a' := blkS a') rfl, lex_app (a := blkS b) (a' := blkS b') rfl, h1.1, h1.2, h2.1, h2.2, h3.1, h3.2, h4.1]
  clear h1 h2 h3 h4
  omega
/-- a bit of a mode -/
noncomputable abbrev bt (m : Int) (p : Int) : Int := m / p % 2
theorem bt01 (m p : Int) : bt m p = 0 ∨ bt m p = 1 := by unfold bt; omega
theorem DD (m a b : Int) (h : 0 ≤ a) : m / a / b = m / (a * b) := Int.ediv_ediv_of_nonneg h
theorem and_even (x y : Int) : Builtin.bitAnd x (2 * y) = 2 * Builtin.bitAnd (x / 2) y := by
  rw [kbt_halves]
  have h1 : 2 * y / 2 = y := by omega
  have h2 : ¬ (x % 2 = 1 ∧ 2 * y % 2 = 1) := by omega
  rw [h1, if_neg h2, Int.add_zero]
theorem and_odd (x y : Int) : Builtin.bitAnd x (2 * y + 1) = 2 * Builtin.bitAnd (x / 2) y + x % 2 := by
  rw [kbt_halves]
  have h1 : (2 * y + 1) / 2 = y := by omega
  rw [h1]
  split <;> omega
theorem and_pow (m y : Int) : ∀ k : Nat, Builtin.bitAnd m (2 ^ k * y) = 2 ^ k * Builtin.bitAnd (m / 2 ^ k) y
  | 0 => by rw [Int.pow_zero, Int.one_mul, Int.one_mul, Int.ediv_one]
  | k + 1 => by
    rw [Int.pow_succ, Int.mul_assoc, and_pow m (2 * y) k, and_even, DD m (2 ^ k) 2 (Int.le_of_lt (kbt_pos k)), Int.mul_assoc]
theorem and_fmt (m : Int) : Builtin.bitAnd m 61440 = 4096 * (m / 4096 % 16) := by
  have h := and_pow m 15 12
  rw [bitAnd_m4] at h
  exact h
theorem and_p (m : Int) (k : Nat) (p : Int) (hp : p = 2 ^ k) : Builtin.bitAnd m p = bt m p * p := by subst hp; exact kbt_bit m k
/-- two bits at once: a mask of the low one and a high one -/
theorem and_two (m : Int) (k j : Nat) : Builtin.bitAnd m (2 ^ k * (2 * 2 ^ j + 1)) = 2 ^ k * bt m (2 ^ k) + 2 ^ k * (2 * 2 ^ j) * bt m (2 ^ k * (2 * 2 ^ j)) := by
  have e1 : m / 2 ^ k / 2 / 2 ^ j = m / (2 ^ k * (2 * 2 ^ j)) := by
    rw [DD _ 2 _ (by decide), DD m (2 ^ k) _ (Int.le_of_lt (kbt_pos k))]
  rw [and_pow, and_odd, and_p _ j _ rfl]
  unfold bt
  rw [e1]
  generalize m / (2 ^ k * (2 * 2 ^ j)) % 2 = x
  generalize m / 2 ^ k % 2 = y
  rw [Int.mul_add, Int.add_comm, Int.mul_comm x, ← Int.mul_assoc 2, ← Int.mul_assoc (2 ^ k)]
theorem and_2112 (m : Int) : Builtin.bitAnd m 2112 = 64 * bt m 64 + 2048 * bt m 2048 := and_two m 6 4
theorem and_1032 (m : Int) : Builtin.bitAnd m 1032 = 8 * bt m 8 + 1024 * bt m 1024 := and_two m 3 6
theorem and_513 (m : Int) : Builtin.bitAnd m 513 = 1 * bt m 1 + 512 * bt m 512 := and_two m 0 8
noncomputable def kdOf (m : Int) : Nat := (kindTab.getD (m / 4096 % 16).toNat 0).toNat
noncomputable def dig (a b c e : Int) : Nat := (a * 8 + b * 4 + (if c = 1 then 3 - e else e)).toNat
theorem lc_kind (m : Int) : [lookCode m 0] = kcode (kdOf m) ∧ kdOf m < 8 ∧ kindTab.getD (m / 4096 % 16).toNat 0 = ((kdOf m : Nat) : Int) := by
  have e : lookCode m 0 = pick (fun b => 4096 * (m / 4096 % 16) == b) 63 (fmT.getD 0 []) := by
    unfold lookCode; simp only [if_true, and_fmt]
  rw [e]
  unfold kdOf
  have h : 0 ≤ m / 4096 % 16 ∧ m / 4096 % 16 < 16 := by omega
  generalize m / 4096 % 16 = z at h
  clear e
  obtain ⟨n, rfl⟩ : ∃ n : Nat, z = (n : Int) := ⟨z.toNat, by omega⟩
  have hn : n < 16 := by omega
  clear h
  have key : ∀ n : Fin 16, [pick (fun b => 4096 * ((n.val : Nat) : Int) == b) 63 (fmT.getD 0 [])] = kcode (kindTab.getD (((n.val : Nat) : Int)).toNat 0).toNat ∧ (kindTab.getD (((n.val : Nat) : Int)).toNat 0).toNat < 8 ∧ kindTab.getD (((n.val : Nat) : Int)).toNat 0 = (((kindTab.getD (((n.val : Nat) : Int)).toNat 0).toNat : Nat) : Int) := by decide +kernel
  exact key ⟨n, hn⟩
theorem pick1 (m : Int) (i k : Nat) (p : Int) (ch : Nat) (hp : p = 2 ^ k) (hp0 : 0 < p) (hf : fmT.getD i [] = [(p, ch)]) (hi : i ≠ 0) : lookCode m i = if bt m p = 1 then ch else 45 := by
  unfold lookCode
  rw [if_neg hi, hf]
  simp only [pick, and_p m k p hp]
  rcases bt01 m p with h | h
  · rw [h]
    have : ¬ (0 * p == p) = true := by simp; omega
    rw [if_neg this, if_neg (by decide)]
  · rw [h]
    have : (1 * p == p) = true := by simp
    rw [if_pos this, if_pos rfl]
theorem pick3 (m : Int) (i k1 k2 : Nat) (p q : Int) (c1 c2 : Nat) (hp : p = 2 ^ k1) (hq : q = 2 ^ k2) (hp0 : 0 < p) (hq0 : 0 < q) (hm : Builtin.bitAnd m (p + q) = p * bt m p + q * bt m q)
    (hf : fmT.getD i [] = [(p + q, c1), (q, c2), (p, 120)]) (hi : i ≠ 0) : lookCode m i = [45, c2, c1, 120].getD (if bt m p = 1 then 3 - bt m q else bt m q).toNat 0 := by
  unfold lookCode
  rw [if_neg hi, hf]
  simp only [pick, hm, and_p m k1 p hp, and_p m k2 q hq]
  rcases bt01 m p with h | h <;> rcases bt01 m q with h' | h' <;> rw [h, h']
  · have h1 : ¬ (p * 0 + q * 0 == p + q) = true := by simp; omega
    have h2 : ¬ (0 * q == q) = true := by simp; omega
    have h3 : ¬ (0 * p == p) = true := by simp; omega
    rw [if_neg h1, if_neg h2, if_neg h3]; rfl
  · have h1 : ¬ (p * 0 + q * 1 == p + q) = true := by simp; omega
    have h2 : (1 * q == q) = true := by simp
    rw [if_neg h1, if_pos h2]; rfl
  · have h1 : ¬ (p * 1 + q * 0 == p + q) = true := by simp; omega
    have h2 : ¬ (0 * q == q) = true := by simp; omega
    have h3 : (1 * p == p) = true := by simp
    rw [if_neg h1, if_neg h2, if_pos h3]; rfl
  · have h1 : (p * 1 + q * 1 == p + q) = true := by simp
    rw [if_pos h1]; rfl
theorem dig_lt {a b c e : Int} (ha : a = 0 ∨ a = 1) (hb : b = 0 ∨ b = 1) (hc : c = 0 ∨ c = 1) (he : e = 0 ∨ e = 1) : dig a b c e < 16 := by
  unfold dig; split <;> omega
theorem blkS_dig {a b c e : Int} (ha : a = 0 ∨ a = 1) (hb : b = 0 ∨ b = 1) (hc : c = 0 ∨ c = 1) (he : e = 0 ∨ e = 1) :
    [if a = 1 then 114 else 45, if b = 1 then 119 else 45, [45, 83, 115, 120].getD (if c = 1 then 3 - e else e).toNat 0] = blkS (dig a b c e) := by
  rcases ha with rfl | rfl <;> rcases hb with rfl | rfl <;> rcases hc with rfl | rfl <;> rcases he with rfl | rfl <;> decide
theorem blkT_dig {a b c e : Int} (ha : a = 0 ∨ a = 1) (hb : b = 0 ∨ b = 1) (hc : c = 0 ∨ c = 1) (he : e = 0 ∨ e = 1) :
    [if a = 1 then 114 else 45, if b = 1 then 119 else 45, [45, 84, 116, 120].getD (if c = 1 then 3 - e else e).toNat 0] = blkT (dig a b c e) := by
  rcases ha with rfl | rfl <;> rcases hb with rfl | rfl <;> rcases hc with rfl | rfl <;> rcases he with rfl | rfl <;> decide
noncomputable def d2 (m : Int) : Nat := dig (bt m 256) (bt m 128) (bt m 64) (bt m 2048)
noncomputable def d1 (m : Int) : Nat := dig (bt m 32) (bt m 16) (bt m 8) (bt m 1024)
noncomputable def d0 (m : Int) : Nat := dig (bt m 4) (bt m 2) (bt m 1) (bt m 512)
theorem look_codes (m : Int) : (lookOf m).cps.toList = kcode (kdOf m) ++ (blkS (d2 m) ++ (blkS (d1 m) ++ blkT (d0 m))) := by
  unfold lookOf d2 d1 d0
  rw [← blkS_dig (bt01 ..) (bt01 ..) (bt01 ..) (bt01 ..), ← blkS_dig (bt01 ..) (bt01 ..) (bt01 ..) (bt01 ..), ← blkT_dig (bt01 ..) (bt01 ..) (bt01 ..) (bt01 ..)]
  rw [← (lc_kind m).1]
  rw [← pick1 m 1 8 256 114 (by decide) (by decide) rfl (by decide), ← pick1 m 2 7 128 119 (by decide) (by decide) rfl (by decide), ← pick3 m 3 6 11 64 2048 115 83 (by decide) (by decide) (by decide) (by decide) (and_2112 m) rfl (by decide),
    ← pick1 m 4 5 32 114 (by decide) (by decide) rfl (by decide), ← pick1 m 5 4 16 119 (by decide) (by decide) rfl (by decide), ← pick3 m 6 3 10 8 1024 115 83 (by decide) (by decide) (by decide) (by decide) (and_1032 m) rfl (by decide),
    ← pick1 m 7 2 4 114 (by decide) (by decide) rfl (by decide), ← pick1 m 8 1 2 119 (by decide) (by decide) rfl (by decide), ← pick3 m 9 0 9 1 512 116 84 (by decide) (by decide) (by decide) (by decide) (and_513 m) rfl (by decide)]
  rfl
theorem dig_cast {a b c e : Int} (ha : a = 0 ∨ a = 1) (hb : b = 0 ∨ b = 1) (hc : c = 0 ∨ c = 1) (he : e = 0 ∨ e = 1) : ((dig a b c e : Nat) : Int) = a * 8 + b * 4 + (if c = 1 then 3 - e else e) := by
  unfold dig; split <;> omega
theorem numStep_eq (m n pl : Int) (p8 p2 : Int) (h8 : (8 : Int) ^ pl.toNat = p8) (h2 : (2 : Int) ^ pl.toNat = p2) (q8 : 0 ≤ p8) (q2 : 0 ≤ p2) :
    numStep m n pl = n * 16 + (m / p8 % 8) / 2 * 4 + (if (m / p8 % 8) % 2 = 1 then 3 - (m / 512) / p2 % 2 else (m / 512) / p2 % 2) := by
  unfold numStep
  rw [h8, h2, Int.fdiv_eq_ediv_of_nonneg m q8, Int.fmod_eq_emod_of_nonneg _ (by decide), Int.fdiv_eq_ediv_of_nonneg _ (by decide), Int.fmod_eq_emod_of_nonneg _ (by decide), Int.fdiv_eq_ediv_of_nonneg m (by decide), Int.fdiv_eq_ediv_of_nonneg _ q2, Int.fmod_eq_emod_of_nonneg _ (by decide)]
  by_cases h : m / p8 % 8 % 2 = 1
  · rw [if_pos h, if_pos (by simpa using h)]
  · rw [if_neg h, if_neg (by simpa using h)]
theorem blk8 (z : Int) : z % 8 / 2 * 4 = z / 4 % 2 * 8 + z / 2 % 2 * 4 ∧ z % 8 % 2 = z % 2 := by omega
theorem numStep_dig (m n pl p8 p2 p4 p16 e : Int) (h8 : (8 : Int) ^ pl.toNat = p8) (h2 : (2 : Int) ^ pl.toNat = p2) (q8 : 0 ≤ p8) (q2 : 0 ≤ p2) (a2 : p8 * 2 = p4) (a4 : p8 * 4 = p16) (ae : 512 * p2 = e) :
    numStep m n pl = n * 16 + ((dig (bt m p16) (bt m p4) (bt m p8) (bt m e) : Nat) : Int) := by
  rw [numStep_eq m n pl p8 p2 h8 h2 q8 q2, (blk8 _).1, (blk8 _).2, DD m p8 4 q8, DD m p8 2 q8, DD m 512 p2 (by decide), a2, a4, ae, dig_cast (bt01 ..) (bt01 ..) (bt01 ..) (bt01 ..), Int.add_assoc]
theorem join4 (k a b c : Nat) : (((((k * 16 + a) * 16 + b) * 16 + c : Nat) : Nat) : Int) = (((k : Int) * 16 + (a : Int)) * 16 + (b : Int)) * 16 + (c : Int) := by push_cast; rfl
theorem number_eq (m : Int) : numberOf m = ((((kdOf m * 16 + d2 m) * 16 + d1 m) * 16 + d0 m : Nat) : Int) := by
  rw [join4]
  unfold numberOf
  rw [Int.fdiv_eq_ediv_of_nonneg m (by decide), Int.fmod_eq_emod_of_nonneg _ (by decide), (lc_kind m).2.2]
  rw [numStep_dig m _ 2 64 4 128 256 2048 (by decide) (by decide) (by decide) (by decide) (by decide) (by decide) (by decide), numStep_dig m _ 1 8 2 16 32 1024 (by decide) (by decide) (by decide) (by decide) (by decide) (by decide) (by decide),
    numStep_dig m _ 0 1 1 2 4 512 (by decide) (by decide) (by decide) (by decide) (by decide) (by decide) (by decide)]
  rfl
theorem d2_lt (m : Int) : d2 m < 16 := dig_lt (bt01 ..) (bt01 ..) (bt01 ..) (bt01 ..)
theorem d1_lt (m : Int) : d1 m < 16 := dig_lt (bt01 ..) (bt01 ..) (bt01 ..) (bt01 ..)
theorem d0_lt (m : Int) : d0 m < 16 := dig_lt (bt01 ..) (bt01 ..) (bt01 ..) (bt01 ..)
/-- the looks' order is the numbers' -/
theorem look_number (m m' : Int) : (lookOf m).cps.toList < (lookOf m').cps.toList ↔ numberOf m < numberOf m' := by
  rw [look_codes, look_codes, look_lt (lc_kind m).2.1 (lc_kind m').2.1 (d2_lt m) (d2_lt m') (d1_lt m) (d1_lt m') (d0_lt m) (d0_lt m'), number_eq, number_eq]
  exact Int.ofNat_lt.symm
end TP6
section TP7
noncomputable def cardStr (m : Int) : Str := ⟨((cardInts m).map Int.toNat).toArray⟩
noncomputable abbrev sAt (xs : List Str) (x : Int) : List Nat := (xs.getD x.toNat ⟨#[]⟩).cps.toList
theorem tri (a b : List Nat) : a < b ∨ a = b ∨ b < a := by
  by_cases h : a < b
  · exact .inl h
  · by_cases h' : b < a
    · exact .inr (.inr h')
    · exact .inr (.inl (List.le_antisymm (List.not_lt.mp h') (List.not_lt.mp h)))
noncomputable def rkL (l : List (List Nat)) (u : List Nat) : Nat := (l.filter (fun y => decide (y < u))).length
theorem rkL_mono {u v : List Nat} (h : ∀ y, y < u → y < v) : ∀ l, rkL l u ≤ rkL l v
  | [] => Nat.le_refl _
  | y :: l => by
    have ih := rkL_mono h l
    unfold rkL at ih ⊢
    by_cases h1 : y < u
    · rw [List.filter_cons_of_pos (by simpa using h1), List.filter_cons_of_pos (by simpa using h y h1)]
      simpa using ih
    · rw [List.filter_cons_of_neg (by simpa using h1)]
      by_cases h2 : y < v
      · rw [List.filter_cons_of_pos (by simpa using h2)]
        simp only [List.length_cons]; omega
      · rw [List.filter_cons_of_neg (by simpa using h2)]; exact ih
theorem rkL_strict {u v : List Nat} (h : u < v) : ∀ l, u ∈ l → rkL l u < rkL l v
  | [], hm => nomatch hm
  | y :: l, hm => by
    have hm' : ∀ y, y < u → y < v := fun y hy => List.lt_trans hy h
    have mono := rkL_mono hm' l
    rcases List.mem_cons.mp hm with rfl | hm
    · unfold rkL at mono ⊢
      rw [List.filter_cons_of_neg (by simp), List.filter_cons_of_pos (by simpa using h)]
      simp only [List.length_cons]; omega
    · have ih := rkL_strict h l hm
      unfold rkL at ih ⊢
      by_cases h1 : y < u
      · rw [List.filter_cons_of_pos (by simpa using h1), List.filter_cons_of_pos (by simpa using hm' y h1)]
        simpa using ih
      · rw [List.filter_cons_of_neg (by simpa using h1)]
        by_cases h2 : y < v
        · rw [List.filter_cons_of_pos (by simpa using h2)]
          simp only [List.length_cons]; omega
        · rw [List.filter_cons_of_neg (by simpa using h2)]; exact ih
/-- a text's rank among a list's -/
noncomputable def rk (xs : List Str) (x : Int) : Int := ((rkL ([] :: xs.map (fun y => y.cps.toList)) (sAt xs x) : Nat) : Int)
theorem sAt_mem (xs : List Str) (x : Int) : sAt xs x ∈ [] :: xs.map (fun y => y.cps.toList) := by
  unfold sAt
  rw [List.getD_eq_getElem?_getD]
  cases h : xs[x.toNat]? with
  | none => exact .head _
  | some y => exact .tail _ (List.mem_map_of_mem (f := fun y : Str => y.cps.toList) (List.mem_of_getElem? h))
theorem rk_lt (xs : List Str) (x y : Int) : rk xs x < rk xs y ↔ sAt xs x < sAt xs y := by
  unfold rk
  constructor
  · intro h
    rcases tri (sAt xs x) (sAt xs y) with h1 | h1 | h1
    · exact h1
    · rw [h1] at h; exact absurd h (Int.lt_irrefl _)
    · have := rkL_strict h1 _ (sAt_mem xs y)
      omega
  · intro h
    have := rkL_strict h _ (sAt_mem xs x)
    omega
theorem rk_eq {xs : List Str} {x y : Int} (h : rk xs x = rk xs y) : xs.getD x.toNat ⟨#[]⟩ = xs.getD y.toNat ⟨#[]⟩ := by
  refine ext_str ?_
  rcases tri (sAt xs x) (sAt xs y) with h1 | h1 | h1
  · have := (rk_lt xs x y).mpr h1; omega
  · exact h1
  · have := (rk_lt xs y x).mpr h1; omega
theorem abT_rk (xs : List Str) : abT xs = abK (rk xs) := by
  funext x y
  unfold abT abK
  exact decide_eq_decide.mpr (rk_lt xs y x).symm
theorem filter_perm {a b : List Int} (h : a.Perm b) (v : Int) : (a.filter (fun x => decide (x ≤ v))).length = (b.filter (fun x => decide (x ≤ v))).length := (h.filter _).length_eq
theorem sorted_same {α : Type} {K : Nat → Int} {g : Nat → α} {p q : List Nat} (hp : p.Perm q) (sp : p.Pairwise (fun i j => K i ≤ K j)) (sq : q.Pairwise (fun i j => K i ≤ K j)) (hK : ∀ i ∈ p, ∀ j ∈ q, K i = K j → g i = g j) : p.map g = q.map g := by
  have e : p.map K = q.map K := srt_eq (List.pairwise_map.mpr sp) (List.pairwise_map.mpr sq) (filter_perm (hp.map K))
  have hl : p.length = q.length := hp.length_eq
  refine List.ext_getElem (by simpa using hl) fun i h1 h2 => ?_
  simp only [List.length_map] at h1 h2
  have := congrArg (fun l : List Int => l[i]?) e
  simp only [List.getElem?_map, List.getElem?_eq_getElem h1, List.getElem?_eq_getElem h2, Option.map_some, Option.some.injEq] at this
  simp only [List.getElem_map]
  exact hK _ (List.getElem_mem h1) _ (List.getElem_mem h2) this
theorem signAt_inj : ∀ i j : Fin 64, signAt (i.val : Int) = signAt (j.val : Int) → i = j := by decide +kernel
theorem sign_inj {a b : Int} (ha : 0 ≤ a ∧ a < 64) (hb : 0 ≤ b ∧ b < 64) (h : signAt a = signAt b) : a = b := by
  obtain ⟨n, rfl⟩ : ∃ n : Nat, a = (n : Int) := ⟨a.toNat, by omega⟩
  obtain ⟨k, rfl⟩ : ∃ n : Nat, b = (n : Int) := ⟨b.toNat, by omega⟩
  have := signAt_inj ⟨n, by omega⟩ ⟨k, by omega⟩ h
  simp only [Fin.mk.injEq] at this
  rw [this]
theorem toNat_inj {a b : Int} (ha : 0 ≤ a) (hb : 0 ≤ b) (h : a.toNat = b.toNat) : a = b := by omega
theorem card_inj {m m' : Int} (h0 : 0 ≤ m ∧ m < 16777216) (h1 : 0 ≤ m' ∧ m' < 16777216) (h : cardStr m = cardStr m') : m = m' := by
  unfold cardStr at h
  have e : (cardInts m).map Int.toNat = (cardInts m').map Int.toNat := by
    have := congrArg (fun s : Str => s.cps.toList) h
    simpa using this
  rw [card_eq, card_eq] at e
  simp only [List.map_cons, List.map_nil, List.cons.injEq, and_true] at e
  obtain ⟨e1, e2, e3, e4⟩ := e
  have f1 := sign_inj (by omega) (by omega) (toNat_inj signAt_rng.1 signAt_rng.1 e1)
  have f2 := sign_inj (by omega) (by omega) (toNat_inj signAt_rng.1 signAt_rng.1 e2)
  have f3 := sign_inj (by omega) (by omega) (toNat_inj signAt_rng.1 signAt_rng.1 e3)
  have f4 := sign_inj (by omega) (by omega) (toNat_inj signAt_rng.1 signAt_rng.1 e4)
  omega
/-- the cards' order as lists of ints -/
theorem card_lt (m m' : Int) : cardInts m < cardInts m' ↔ (cardStr m).cps.toList < (cardStr m').cps.toList := by
  have key : ∀ {a b : List Int}, (∀ x ∈ a, 0 ≤ x) → (∀ x ∈ b, 0 ≤ x) → (a < b ↔ a.map Int.toNat < b.map Int.toNat) := by
    intro a
    induction a with
    | nil =>
      intro b _ _
      cases b with
      | nil => simp
      | cons y b => simp
    | cons x a ih =>
      intro b ha hb
      cases b with
      | nil => simp
      | cons y b =>
        have hx := ha x (.head _)
        have hy := hb y (.head _)
        have ih' := ih (b := b) (fun z hz => ha z (.tail _ hz)) (fun z hz => hb z (.tail _ hz))
        simp only [List.map_cons, List.cons_lt_cons_iff, ih']
        have e1 : x < y ↔ x.toNat < y.toNat := by omega
        have e2 : x = y ↔ x.toNat = y.toNat := by omega
        rw [e1, e2]
  have nn : ∀ m : Int, ∀ x ∈ cardInts m, 0 ≤ x := by
    intro m x hx
    rw [card_eq] at hx
    simp only [List.mem_cons, List.not_mem_nil, or_false] at hx
    rcases hx with rfl | rfl | rfl | rfl <;> exact signAt_rng.1
  rw [key (nn m) (nn m')]
  show _ ↔ ((cardInts m).map Int.toNat).toArray.toList < ((cardInts m').map Int.toNat).toArray.toList
  rfl
theorem getD_map {f : Int → Str} {ms : List Int} {i : Nat} (hi : i < ms.length) : (ms.map f).getD i ⟨#[]⟩ = f (ms.getD i 0) := by
  simp [List.getD, List.getElem?_eq_getElem hi]
theorem getD_out {f : Int → Str} {ms : List Int} {i : Nat} (hi : ¬ i < ms.length) : (ms.map f).getD i ⟨#[]⟩ = ⟨#[]⟩ := by
  simp [List.getD, List.getElem?_eq_none (Nat.not_lt.mp hi)]
theorem ms_get {ms : List Int} {i : Nat} (hm : ∀ m ∈ ms, 0 ≤ m ∧ m < 16777216) (hi : i < ms.length) : 0 ≤ ms.getD i 0 ∧ ms.getD i 0 < 16777216 := by
  have e : ms.getD i 0 = ms[i] := by simp [List.getD, List.getElem?_eq_getElem hi]
  rw [e]; exact hm _ (List.getElem_mem hi)
noncomputable abbrev toI (p : List Nat) : List Int := p.map fun i : Nat => (i : Int)
theorem app_toList (a b : Str) : (a ++ b).cps.toList = a.cps.toList ++ b.cps.toList := app_cps a b
section
variable {ms : List Int} (hl : ms.length = 6) (hm : ∀ m ∈ ms, 0 ≤ m ∧ m < 16777216) {p1 p2 p3 : List Nat}
include hl hm
theorem ord1 (h1 : p1.Perm (List.range 6)) (s1 : p1.Pairwise (fun i j : Nat => rk (ms.map cardStr) (i : Int) ≤ rk (ms.map cardStr) (j : Int))) :
    (toI p1).Pairwise (fun x y => rk (ms.map cardStr) x < rk (ms.map cardStr) y ∨ (rk (ms.map cardStr) x = rk (ms.map cardStr) y ∧ rk (ms.map lookOf) x ≤ rk (ms.map lookOf) y)) := by
  rw [List.pairwise_map]
  refine List.Pairwise.imp_of_mem (fun {i j} hi hj h => ?_) s1
  have hi' : i < ms.length := by rw [hl]; simpa using h1.mem_iff.mp hi
  have hj' : j < ms.length := by rw [hl]; simpa using h1.mem_iff.mp hj
  rcases Int.lt_or_eq_of_le h with h | h
  · exact .inl h
  · refine .inr ⟨h, ?_⟩
    have e := rk_eq h
    simp only [Int.toNat_natCast] at e
    rw [getD_map hi', getD_map hj'] at e
    have e' := card_inj (ms_get hm hi') (ms_get hm hj') e
    have : ¬ rk (ms.map lookOf) (j : Int) < rk (ms.map lookOf) (i : Int) := by
      rw [rk_lt]
      unfold sAt
      simp only [Int.toNat_natCast]
      rw [getD_map hi', getD_map hj', e']
      exact List.lt_irrefl _
    omega
theorem ord2 (h2 : p2.Perm (List.range 6)) (s2 : p2.Pairwise (fun i j : Nat => rk (ms.map fun m => lookOf m ++ cardStr m) (i : Int) ≤ rk (ms.map fun m => lookOf m ++ cardStr m) (j : Int))) :
    (toI p2).Pairwise (fun x y => rk (ms.map lookOf) x < rk (ms.map lookOf) y ∨ (rk (ms.map lookOf) x = rk (ms.map lookOf) y ∧ rk (ms.map cardStr) x ≤ rk (ms.map cardStr) y)) := by
  rw [List.pairwise_map]
  refine List.Pairwise.imp_of_mem (fun {i j} hi hj h => ?_) s2
  have hi' : i < ms.length := by rw [hl]; simpa using h2.mem_iff.mp hi
  have hj' : j < ms.length := by rw [hl]; simpa using h2.mem_iff.mp hj
  have hn : ¬ rk (ms.map fun m => lookOf m ++ cardStr m) (j : Int) < rk (ms.map fun m => lookOf m ++ cardStr m) (i : Int) := by omega
  rw [rk_lt] at hn
  unfold sAt at hn
  simp only [Int.toNat_natCast] at hn
  rw [getD_map hi', getD_map hj', app_toList, app_toList, lex_app (by simp [lookOf])] at hn
  have l1 := rk_lt (ms.map lookOf) (j : Int) (i : Int)
  have c1 := rk_lt (ms.map cardStr) (j : Int) (i : Int)
  unfold sAt at l1 c1
  simp only [Int.toNat_natCast] at l1 c1
  rw [getD_map hi', getD_map hj'] at l1 c1
  rw [← l1, ← c1] at hn
  rcases Int.lt_trichotomy (rk (ms.map lookOf) (i : Int)) (rk (ms.map lookOf) (j : Int)) with h' | h' | h'
  · exact .inl h'
  · refine .inr ⟨h', ?_⟩
    have e := rk_eq h'
    simp only [Int.toNat_natCast] at e
    rw [getD_map hi', getD_map hj'] at e
    have : ¬ rk (ms.map cardStr) (j : Int) < rk (ms.map cardStr) (i : Int) := fun q => hn (.inr ⟨by rw [e], q⟩)
    omega
  · exact absurd (.inl h') hn
theorem lawA (h1 : p1.Perm (List.range 6)) (h2 : p2.Perm (List.range 6)) (s1 : p1.Pairwise (fun i j : Nat => rk (ms.map cardStr) (i : Int) ≤ rk (ms.map cardStr) (j : Int)))
    (s2 : p2.Pairwise (fun i j : Nat => rk (ms.map fun m => lookOf m ++ cardStr m) (i : Int) ≤ rk (ms.map fun m => lookOf m ++ cardStr m) (j : Int))) :
    (linesOf (abT (ms.map lookOf)) (toI p1)).1.map (List.map fun k => (ms.map lookOf).getD k.toNat ⟨#[]⟩) = (linesOf (abT (ms.map cardStr)) (toI p2)).2.map (List.map fun k => (ms.map lookOf).getD k.toNat ⟨#[]⟩) := by
  rw [abT_rk, abT_rk]
  exact lines_sym _ _ _ (fun a b h => rk_eq h) ((h1.trans h2.symm).map _) (ord1 hl hm h1 s1) (ord2 hl hm h2 s2)
theorem lawB (h1 : p1.Perm (List.range 6)) (h2 : p2.Perm (List.range 6)) (s1 : p1.Pairwise (fun i j : Nat => rk (ms.map cardStr) (i : Int) ≤ rk (ms.map cardStr) (j : Int)))
    (s2 : p2.Pairwise (fun i j : Nat => rk (ms.map fun m => lookOf m ++ cardStr m) (i : Int) ≤ rk (ms.map fun m => lookOf m ++ cardStr m) (j : Int))) :
    (linesOf (abT (ms.map lookOf)) (toI p1)).2.map (List.map fun k => (ms.map cardStr).getD k.toNat ⟨#[]⟩) = (linesOf (abT (ms.map cardStr)) (toI p2)).1.map (List.map fun k => (ms.map cardStr).getD k.toNat ⟨#[]⟩) := by
  rw [abT_rk, abT_rk]
  exact (lines_sym _ _ _ (fun a b h => rk_eq h) ((h2.trans h1.symm).map _) (ord2 hl hm h2 s2) (ord1 hl hm h1 s1)).symm
theorem lawC (h1 : p1.Perm (List.range 6)) (h3 : p3.Perm (List.range 6)) (s1 : p1.Pairwise (fun i j : Nat => rk (ms.map cardStr) (i : Int) ≤ rk (ms.map cardStr) (j : Int)))
    (s3 : p3.Pairwise (fun i j : Nat => rk (ms.map cardStr) (i : Int) ≤ rk (ms.map cardStr) (j : Int))) :
    (List.range 6).map (fun k => (((((linesOf (abT (ms.map lookOf)) (toI p1)).1.take (k + 1)).map List.length).sum : Nat) : Int)) = mostOf (p3.map fun i => numberOf (ms.getD i 0)) := by
  have e : abT (ms.map lookOf) = abK (fun x => if x.toNat < ms.length then numberOf (ms.getD x.toNat 0) else -1) := by
    funext x y
    unfold abT abK
    refine decide_eq_decide.mpr ?_
    dsimp only
    have nn : ∀ m, 0 ≤ numberOf m := fun m => by rw [number_eq]; omega
    by_cases hx : x.toNat < ms.length <;> by_cases hy : y.toNat < ms.length
    · rw [getD_map hx, getD_map hy, if_pos hx, if_pos hy]; exact look_number _ _
    · rw [getD_map hx, getD_out hy, if_pos hx, if_neg hy]
      have q := nn (ms.getD x.toNat 0)
      refine ⟨fun _ => by omega, fun _ => ?_⟩
      rw [look_codes]
      exact List.nil_lt_cons _ _
    · rw [getD_out hx, getD_map hy, if_neg hx, if_pos hy]
      have q := nn (ms.getD y.toNat 0)
      exact ⟨fun h => absurd h (List.not_lt_nil _), fun h => by omega⟩
    · rw [getD_out hx, getD_out hy, if_neg hx, if_neg hy]
      exact ⟨fun h => absurd h (List.lt_irrefl _), fun h => absurd h (Int.lt_irrefl _)⟩
  rw [e]
  have h := most_eq ((toI p1).map fun x => ((if x.toNat < ms.length then numberOf (ms.getD x.toNat 0) else -1 : Int), (0 : Int)))
  have hv : vals ((toI p1).map fun x => ((if x.toNat < ms.length then numberOf (ms.getD x.toNat 0) else -1 : Int), (0 : Int))) = p3.map fun i => numberOf (ms.getD i 0) := by
    rw [← sorted_same (g := fun i => numberOf (ms.getD i 0)) (h1.trans h3.symm) s1 s3 ?_]
    · unfold vals
      rw [List.map_map, List.map_map]
      refine List.map_congr_left fun i hi => ?_
      have hi' : i < ms.length := by rw [hl]; simpa using h1.mem_iff.mp hi
      simp [hi']
    · intro i hi j hj h
      have hi' : i < ms.length := by rw [hl]; simpa using h1.mem_iff.mp hi
      have hj' : j < ms.length := by rw [hl]; simpa using h3.mem_iff.mp hj
      have e := rk_eq h
      simp only [Int.toNat_natCast] at e
      rw [getD_map hi', getD_map hj'] at e
      rw [card_inj (ms_get hm hi') (ms_get hm hj') e]
  rw [hv] at h
  rw [h]
  have hlen : ((toI p1).map fun x => ((if x.toNat < ms.length then numberOf (ms.getD x.toNat 0) else -1 : Int), (0 : Int))).length = 6 := by
    simp [h1.length_eq]
  rw [hlen]
  refine List.map_congr_left fun k _ => ?_
  rw [lines_sum _ (fun _ => 0)]
end
end TP7
section TP8
theorem flat_card : ∀ (ms : List Int) (i : Nat), i < ms.length → (((ms.flatMap cardInts).map Int.toNat).drop (4 * i)).take 4 = (cardInts (ms.getD i 0)).map Int.toNat
  | [], i, h => absurd h (by simp)
  | m :: r, 0, _ => by
    rw [List.flatMap_cons, List.map_append]
    have e : ((cardInts m).map Int.toNat).length = 4 := by simp [cardInts]
    simp only [Nat.mul_zero, List.drop_zero, List.getD_cons_zero]
    rw [List.take_append_of_le_length (by omega), List.take_of_length_le (by omega)]
  | m :: r, i + 1, h => by
    have ih := flat_card r i (by simpa using h)
    rw [List.flatMap_cons, List.map_append, List.getD_cons_succ, ← ih]
    have e : ((cardInts m).map Int.toNat).length = 4 := by simp [cardInts]
    have e2 : 4 * (i + 1) = 4 + 4 * i := by omega
    rw [e2, ← List.drop_drop]
    have e3 : ((cardInts m).map Int.toNat ++ (r.flatMap cardInts).map Int.toNat).drop 4 = (r.flatMap cardInts).map Int.toNat := by
      rw [← e, List.drop_left]
    rw [e3]
theorem text_slice {ms : List Int} {i : Nat} (hl : ms.length = 6) (hi : i < 6) :
    Txt.slice ⟨((ms.flatMap cardInts).map Int.toNat).toArray⟩ (some (4 * (i : Int))) (some (4 * (i : Int) + 4)) = cardStr (ms.getD i 0) := by
  have e1 : (4 * (i : Int)) = ((4 * i : Nat) : Int) := by push_cast; rfl
  have e2 : (((4 * i : Nat) : Int) + 4) = ((4 * i + 4 : Nat) : Int) := by push_cast; rfl
  rw [e1, e2]
  have hlen : ((ms.flatMap cardInts).map Int.toNat).toArray.size = 24 := by
    rw [List.size_toArray, List.length_map, cards_len, hl]
  have hx : (⟨((ms.flatMap cardInts).map Int.toNat).toArray⟩ : Str).length = 24 := hlen
  unfold Txt.slice
  have h := StrLaws.sliced_plain ⟨((ms.flatMap cardInts).map Int.toNat).toArray⟩ (a := 4 * i) (b := 4 * i + 4) (by omega) (by rw [hx]; omega)
  have e3 : 4 * i + 4 - 4 * i = 4 := by omega
  rw [e3] at h
  rw [if_neg, h]
  · refine ext_str ?_
    unfold cardStr
    show ((((ms.flatMap cardInts).map Int.toNat).drop (4 * i)).take 4).toArray.toList = (((cardInts (ms.getD i 0)).map Int.toNat).toArray).toList
    rw [flat_card ms i (by omega)]
  · rw [hx, StrLaws.strSliceIndices_plain (by omega) (by omega)]
    simp
theorem insG_mem {ab : Int → Int → Bool} : ∀ {P : List (List Int)} {g : Int} {r : List Int} {x : Int}, r ∈ insG ab P g → x ∈ r → x = g ∨ ∃ r' ∈ P, x ∈ r'
  | [], g, r, x, hr, hx => by
    simp only [insG, List.mem_singleton] at hr
    rw [hr] at hx
    exact .inl (List.mem_singleton.mp hx)
  | r0 :: rs, g, r, x, hr, hx => by
    cases hsp : rowSpots ab r0 g with
    | nil =>
      simp only [insG, hsp] at hr
      rcases List.mem_cons.mp hr with rfl | hr
      · rcases List.mem_append.mp hx with hx | hx
        · exact .inr ⟨r0, .head _, hx⟩
        · exact .inl (List.mem_singleton.mp hx)
      · exact .inr ⟨r, .tail _ hr, hx⟩
    | cons i t =>
      simp only [insG, hsp] at hr
      have hi := rowSpots_lt (ab := ab) (r := r0) (g := g) (i := i) (by rw [hsp]; exact .head _)
      rcases List.mem_cons.mp hr with rfl | hr
      · rcases List.mem_or_eq_of_mem_set hx with hx | hx
        · exact .inr ⟨r0, .head _, hx⟩
        · exact .inl hx
      · rcases insG_mem hr hx with h | ⟨r', h1, h2⟩
        · refine .inr ⟨r0, .head _, ?_⟩
          rw [h]
          have e : r0.getD i 0 = r0[i] := by simp [List.getD, List.getElem?_eq_getElem hi]
          rw [e]; exact List.getElem_mem hi
        · exact .inr ⟨r', .tail _ h1, h2⟩
theorem addAt_mem {q : List (List Int)} {j : Nat} {x y : Int} {r : List Int} (hr : r ∈ addAt q j x) (hy : y ∈ r) : y = x ∨ ∃ r' ∈ q, y ∈ r' := by
  unfold addAt at hr
  split at hr
  · rename_i hj
    rcases List.mem_or_eq_of_mem_set hr with hr | hr
    · exact .inr ⟨r, hr, hy⟩
    · rw [hr] at hy
      rcases List.mem_append.mp hy with hy | hy
      · refine .inr ⟨q.getD j [], ?_, hy⟩
        have e : q.getD j [] = q[j] := by simp [List.getD, List.getElem?_eq_getElem hj]
        rw [e]; exact List.getElem_mem hj
      · exact .inl (List.mem_singleton.mp hy)
  · rcases List.mem_append.mp hr with hr | hr
    · exact .inr ⟨r, hr, hy⟩
    · rw [List.mem_singleton.mp hr] at hy
      exact .inl (List.mem_singleton.mp hy)
theorem fold_mem {ab : Int → Int → Bool} {o : List Int} : ∀ (l : List Int) (st : List (List Int) × List (List Int)), (∀ x ∈ l, x ∈ o) → (∀ r ∈ st.1, ∀ x ∈ r, x ∈ o) → (∀ r ∈ st.2, ∀ x ∈ r, x ∈ o) →
    (∀ r ∈ (l.foldl (stepL ab) st).1, ∀ x ∈ r, x ∈ o) ∧ (∀ r ∈ (l.foldl (stepL ab) st).2, ∀ x ∈ r, x ∈ o)
  | [], st, _, h1, h2 => ⟨h1, h2⟩
  | g :: l, st, hl, h1, h2 => by
    refine fold_mem l (stepL ab st g) (fun x hx => hl x (.tail _ hx)) ?_ ?_
    · intro r hr x hx
      rcases insG_mem hr hx with h | ⟨r', a, b⟩
      · rw [h]; exact hl g (.head _)
      · exact h1 r' a x b
    · intro r hr x hx
      rcases addAt_mem hr hx with h | ⟨r', a, b⟩
      · rw [h]; exact hl g (.head _)
      · exact h2 r' a x b
theorem lines_rng {ab : Int → Int → Bool} {p : List Nat} (hp : p.Perm (List.range 6)) : (∀ r ∈ (linesOf ab (toI p)).1, ∀ x ∈ r, 0 ≤ x ∧ x < 6) ∧ (∀ r ∈ (linesOf ab (toI p)).2, ∀ x ∈ r, 0 ≤ x ∧ x < 6) := by
  have h := fold_mem (ab := ab) (o := toI p) (toI p) ([], []) (fun _ hx => hx) (fun r hr => nomatch hr) (fun r hr => nomatch hr)
  have key : ∀ x ∈ toI p, 0 ≤ x ∧ x < 6 := by
    intro o ho
    obtain ⟨i, hi, rfl⟩ := List.mem_map.mp ho
    have : i < 6 := by simpa using hp.mem_iff.mp hi
    omega
  exact ⟨fun r hr x hx => key x (h.1 r hr x hx), fun r hr x hx => key x (h.2 r hr x hx)⟩
theorem insG_size {ab : Int → Int → Bool} : ∀ {P : List (List Int)} {g : Int}, ((insG ab P g).map List.length).sum = (P.map List.length).sum + 1
  | [], g => by simp [insG]
  | r0 :: rs, g => by
    cases hsp : rowSpots ab r0 g with
    | nil => simp only [insG, hsp, List.map_cons, List.sum_cons, List.length_append, List.length_singleton]; omega
    | cons i t =>
      have ih := insG_size (ab := ab) (P := rs) (g := r0.getD i 0)
      simp only [insG, hsp, List.map_cons, List.sum_cons, List.length_set, ih]; omega
theorem insG_pos {ab : Int → Int → Bool} {P : List (List Int)} {g : Int} (h : ∀ r ∈ P, 0 < r.length) : ∀ r ∈ insG ab P g, 0 < r.length := by
  induction P generalizing g with
  | nil => intro r hr; simp only [insG, List.mem_singleton] at hr; rw [hr]; exact Nat.one_pos
  | cons r0 rs ih =>
    intro r hr
    cases hsp : rowSpots ab r0 g with
    | nil =>
      simp only [insG, hsp] at hr
      rcases List.mem_cons.mp hr with rfl | hr
      · simp
      · exact h r (.tail _ hr)
    | cons i t =>
      simp only [insG, hsp] at hr
      rcases List.mem_cons.mp hr with rfl | hr
      · rw [List.length_set]; exact h r0 (.head _)
      · exact ih (fun r hr => h r (.tail _ hr)) r hr
theorem fold_size {ab : Int → Int → Bool} : ∀ (l : List Int) (st : List (List Int) × List (List Int)), (∀ r ∈ st.1, 0 < r.length) →
    ((l.foldl (stepL ab) st).1.map List.length).sum = (st.1.map List.length).sum + l.length ∧ ∀ r ∈ (l.foldl (stepL ab) st).1, 0 < r.length
  | [], st, h => ⟨rfl, h⟩
  | g :: l, st, h => by
    have ih := fold_size (ab := ab) l (stepL ab st g) (insG_pos h)
    refine ⟨?_, ih.2⟩
    rw [List.foldl_cons, ih.1]
    show ((insG ab st.1 g).map List.length).sum + l.length = _
    rw [insG_size, List.length_cons]; omega
theorem sum_pos_len : ∀ {P : List (List Int)}, (∀ r ∈ P, 0 < r.length) → P.length ≤ (P.map List.length).sum ∧ ∀ r ∈ P, r.length ≤ (P.map List.length).sum
  | [], _ => ⟨Nat.le_refl _, fun r hr => nomatch hr⟩
  | r0 :: rs, h => by
    have ih := sum_pos_len (P := rs) fun r hr => h r (.tail _ hr)
    have h0 := h r0 (.head _)
    simp only [List.map_cons, List.sum_cons, List.length_cons]
    refine ⟨by omega, fun r hr => ?_⟩
    rcases List.mem_cons.mp hr with rfl | hr
    · omega
    · have := ih.2 r hr; omega
/-- sizes of the lines -/
theorem lines_le {ab : Int → Int → Bool} {p : List Nat} (hp : p.Perm (List.range 6)) : (linesOf ab (toI p)).1.length ≤ 6 ∧ (∀ r ∈ (linesOf ab (toI p)).1, r.length ≤ 6) := by
  have h := fold_size (ab := ab) (toI p) ([], []) (fun r hr => nomatch hr)
  have q := sum_pos_len h.2
  have e : ((linesOf ab (toI p)).1.map List.length).sum = 6 := by
    unfold linesOf
    rw [h.1]
    simp [hp.length_eq]
  unfold linesOf at e ⊢
  rw [e] at q
  exact q
theorem dep_le {ab : Int → Int → Bool} : ∀ {P : List (List Int)} {g : Int}, depG ab P g ≤ P.length
  | [], _ => Nat.le_refl _
  | r0 :: rs, g => by
    have ih := @dep_le ab rs
    cases hsp : rowSpots ab r0 g with
    | nil => simp [depG, hsp]
    | cons i t =>
      have := @ih (r0.getD i 0)
      simp only [depG, hsp, List.length_cons]; omega
theorem fold_len {ab : Int → Int → Bool} : ∀ (l : List Int) (st : List (List Int) × List (List Int)), st.2.length = st.1.length → (l.foldl (stepL ab) st).2.length = (l.foldl (stepL ab) st).1.length
  | [], _, h => h
  | g :: l, st, h => fold_len l (stepL ab st g) (by
    show (addAt st.2 (depG ab st.1 g) g).length = (insG ab st.1 g).length
    rw [addAt_len, insG_len, h])
theorem addAt_rowlen {q : List (List Int)} {j : Nat} {x : Int} {b : Nat} (h : ∀ r ∈ q, r.length ≤ b) : ∀ r ∈ addAt q j x, r.length ≤ b + 1 := by
  intro r hr
  unfold addAt at hr
  split at hr
  · rename_i hj
    rcases List.mem_or_eq_of_mem_set hr with hr | hr
    · have := h r hr; omega
    · have e : q.getD j [] = q[j] := by simp [List.getD, List.getElem?_eq_getElem hj]
      have := h q[j] (List.getElem_mem hj)
      rw [hr, e]; simp; omega
  · rcases List.mem_append.mp hr with hr | hr
    · have := h r hr; omega
    · rw [List.mem_singleton.mp hr]; simp
theorem fold_rowlen {ab : Int → Int → Bool} : ∀ (l : List Int) (st : List (List Int) × List (List Int)) (b : Nat), (∀ r ∈ st.2, r.length ≤ b) → ∀ r ∈ (l.foldl (stepL ab) st).2, r.length ≤ b + l.length
  | [], _, _, h => h
  | g :: l, st, b, h => by
    have ih := fold_rowlen (ab := ab) l (stepL ab st g) (b + 1) (addAt_rowlen h)
    intro r hr
    have := ih r hr
    rw [List.length_cons]; omega
theorem marks_le {ab : Int → Int → Bool} {p : List Nat} (hp : p.Perm (List.range 6)) : (linesOf ab (toI p)).2.length ≤ 6 ∧ (∀ r ∈ (linesOf ab (toI p)).2, r.length ≤ 6) := by
  have h1 := (lines_le (ab := ab) hp).1
  have h2 := fold_len (ab := ab) (toI p) ([], []) rfl
  have h3 := fold_rowlen (ab := ab) (toI p) ([], []) 0 (fun r hr => nomatch hr)
  have hl : (toI p).length = 6 := by simp [hp.length_eq]
  unfold linesOf at h1 ⊢
  refine ⟨by omega, fun r hr => ?_⟩
  have := h3 r hr
  omega
theorem strOk_look (m : Int) : PyData.strOk (lookOf m) = true := by
  have key : ∀ x ∈ (lookOf m).cps.toList, x < 0x110000 := by
    rw [look_codes]
    have k1 : ∀ k : Fin 8, ∀ x ∈ kcode k, x < 0x110000 := by decide
    have k2 : ∀ k : Fin 16, ∀ x ∈ blkS k, x < 0x110000 := by decide
    have k3 : ∀ k : Fin 16, ∀ x ∈ blkT k, x < 0x110000 := by decide
    intro x hx
    simp only [List.mem_append] at hx
    rcases hx with h | h | h | h
    · exact k1 ⟨_, (lc_kind m).2.1⟩ x h
    · exact k2 ⟨_, d2_lt m⟩ x h
    · exact k2 ⟨_, d1_lt m⟩ x h
    · exact k3 ⟨_, d0_lt m⟩ x h
  unfold PyData.strOk
  rw [← Array.all_toList, List.all_eq_true]
  intro x hx
  exact decide_eq_true (key x hx)
theorem strOk_card (m : Int) : PyData.strOk (cardStr m) = true := by
  unfold PyData.strOk
  rw [← Array.all_toList, List.all_eq_true]
  intro x hx
  unfold cardStr at hx
  have hx' : x ∈ (cardInts m).map Int.toNat := by simpa using hx
  obtain ⟨c, hc, rfl⟩ := List.mem_map.mp hx'
  have := cards_rng (ms := [m]) c (by rw [List.flatMap_cons, List.flatMap_nil, List.append_nil]; exact hc)
  exact decide_eq_true (by omega)
theorem strOk_getD {f : Int → Str} (hf : ∀ m, PyData.strOk (f m) = true) (ms : List Int) (k : Nat) : PyData.strOk ((ms.map f).getD k ⟨#[]⟩) = true := by
  by_cases h : k < ms.length
  · rw [getD_map h]; exact hf _
  · rw [getD_out h]; simp [PyData.strOk]
end TP8
section TL0
set_option maxRecDepth 100000
set_option maxHeartbeats 8000000
open LCg (NsObj lst Off3 Off1)
theorem fr_extB {h₀ h h' : Heap} {L : Addr} {m : Str → Option Value} (F : Fr h₀ L h m) (hB : ExtB h h') (h0 : h₀.get? 126 = none) (hL : L ≠ 126) : Fr h₀ L h' m :=
  ⟨F.ns.at' fun o e => hB L o hL e, fun b o e => hB b o (fun q => by rw [q, h0] at e; cases e) (F.keep b o e), F.above⟩
theorem news_extB {h₀ h h' : Heap} {L : Addr} {led : List (Addr × Obj)} (N : News h₀ L h led) (hB : ExtB h h') (off : ∀ p ∈ led, @Ne Nat p.1 126) : News h₀ L h' led :=
  fun p hp => ⟨hB _ _ (off p hp) (N p hp).1, (N p hp).2⟩
/-- what is new over a heap goes onto the ledger -/
theorem news_join {h₀ h h' : Heap} {L : Addr} {m : Str → Option Value} {led nw : List (Addr × Obj)} (F : Fr h₀ L h m) (N : News h₀ L h led) (x : Ext h h') (hn : ∀ p ∈ nw, h'.get? p.1 = some p.2 ∧ h.get? p.1 = none) :
    News h₀ L h' (nw ++ led) ∧ ∀ p ∈ nw, ∀ q ∈ led, @Ne Nat p.1 q.1 := by
  refine ⟨fun p hp => ?_, fun p hp q hq e => ?_⟩
  · rcases List.mem_append.mp hp with hp | hp
    · obtain ⟨h1, h0⟩ := hn p hp
      refine ⟨h1, fun q => ?_, ?_⟩
      · obtain ⟨oL, eL, _⟩ := LCg.ns_obj F.ns
        have q' : p.1 = L := q
        rw [q', eL] at h0; cases h0
      · cases e : h₀.get? p.1 with
        | none => rfl
        | some o' => have := F.keep _ _ e; rw [h0] at this; cases this
    · exact ⟨x _ _ (N p hp).1, (N p hp).2⟩
  · have z := (N q hq).1
    have h0 := (hn p hp).2
    have e' : p.1 = q.1 := e
    rw [e'] at h0
    rw [h0] at z; cases z
theorem rk_ord (xs : List Str) : ∀ i j : Nat, i < 6 → j < 6 → (rk xs (i : Int) < rk xs (j : Int) ↔ (xs.getD i ⟨#[]⟩).cps.toList < (xs.getD j ⟨#[]⟩).cps.toList) := by
  intro i j _ _
  have := rk_lt xs (i : Int) (j : Int)
  unfold sAt at this
  simpa using this
theorem toI_rng {p : List Nat} {n : Nat} (hp : p.Perm (List.range 6)) (hn : n = 6) : ∀ o ∈ toI p, 0 ≤ o ∧ o < (n : Int) := by
  intro o ho
  obtain ⟨i, hi, rfl⟩ := List.mem_map.mp ho
  have : i < 6 := by simpa using hp.mem_iff.mp hi
  omega
theorem toI_len {p : List Nat} (hp : p.Perm (List.range 6)) : (toI p).length ≤ 6 := by
  simp [hp.length_eq]
theorem news_at {h₀ h h' : Heap} {L : Addr} {m : Str → Option Value} {led : List (Addr × Obj)} {D : Addr} {o : Obj} (F : Fr h₀ L h m) (h0 : h.get? D = none) (h1 : h'.get? D = some o) (N : News h₀ L h' led) : News h₀ L h' ((D, o) :: led) := fun p hp => by
  rcases List.mem_cons.mp hp with rfl | hp
  · refine ⟨h1, fun q => ?_, ?_⟩
    · obtain ⟨oL, eL, _⟩ := LCg.ns_obj F.ns
      have q' : D = L := q
      rw [q', eL] at h0; cases h0
    · cases e : h₀.get? D with
      | none => rfl
      | some o' => have := F.keep _ _ e; rw [h0] at this; cases this
  · exact N p hp
section
variable {prog : Program} {w : World} {A : Around} {E : Value → Shared → Prop} {s : Shared} {h₀ : Heap} {L : Addr} {led : List (Addr × Obj)}
theorem item_textN {value slice : PySem.Expr} {l : Addr} {vt : List Value} {c : Nat} {xs : List Str} {k : Int} {u : Tok} {Q : Value → Shared → Prop}
    (N : News h₀ L s.heap led) (hm : (l, W.listOf vt.toArray c) ∈ led) (hi : StrsAre vt xs) (h0 : 0 ≤ k) (h1 : k < (xs.length : Int)) (hb : xs.length ≤ 64) (h : ∀ t, Q (.str (xs.getD k.toNat ⟨#[]⟩) t) s)
    (hs : subscripted slice false (.ref l) (.int k u) = operate [.ref l, .int k u] (getItem (.ref l) (.int k u)) := by with_unfolding_all rfl) :
    wpAny (model prog w) A (subscriptTail value slice (.ref l) (.int k u)) Q E s := by
  have hk : k.toNat < xs.length := by omega
  obtain ⟨t, ht⟩ := hi.get k.toNat xs[k.toNat] (List.getElem?_eq_getElem hk)
  have e : xs.getD k.toNat ⟨#[]⟩ = xs[k.toNat] := by simp [List.getD, List.getElem?_eq_getElem hk]
  refine item_led N hm h0 (by omega) (x := .str xs[k.toNat] t) (by simpa using ht) ?_ hs
  rw [← e]; exact h t
end
theorem look_len (m : Int) : (lookOf m).length = 10 := by
  show Array.size _ = 10
  simp [lookOf]
theorem card_len (m : Int) : (cardStr m).length = 4 := by
  show Array.size _ = 4
  simp [cardStr, cardInts]
theorem lam_keep {h₀ h : Heap} {L : Addr} {m : Str → Option Value} {ps : Array Value} (F : Fr h₀ L h m) (hLT : LamTab h ps) :
    ∃ T0 : List (Addr × Obj), News h₀ L h T0 ∧ (∀ p ∈ T0, ∃ vs t, p.2.data = .fields vs ∧ vs[1]? = some (.str lamQ t)) ∧ (∀ h', Ext h₀ h' → (∀ p ∈ T0, h'.get? p.1 = some p.2) → LamTab h' ps) := by
  rcases hLT with rfl | ⟨c', rfl, hc⟩
  · exact ⟨[], fun p hp => (nomatch hp), fun p hp => (nomatch hp), fun _ _ _ => .inl rfl⟩
  · obtain ⟨c, o, vs, t, e, g, hd, hv⟩ := hc
    cases e
    cases h0 : h₀.get? c' with
    | none =>
      refine ⟨[(c', o)], fun p hp => ?_, fun p hp => ?_, fun h' _ hk => .inr ⟨c', rfl, c', o, vs, t, rfl, hk _ (.head _), hd, hv⟩⟩
      · rw [List.mem_singleton.mp hp]
        refine ⟨g, fun q => ?_, h0⟩
        obtain ⟨oL, eL, es, ep, hdL, _⟩ := LCg.ns_obj F.ns
        have q' : c' = L := q
        rw [q', eL] at g
        cases g
        rw [hdL] at hd; cases hd
      · rw [List.mem_singleton.mp hp]; exact ⟨vs, t, hd, hv⟩
    | some o' =>
      have e := F.keep _ _ h0
      rw [g] at e
      cases e
      exact ⟨[], fun p hp => (nomatch hp), fun p hp => (nomatch hp), fun h' hx _ => .inr ⟨c', rfl, c', o, vs, t, rfl, hx _ _ h0, hd, hv⟩⟩
theorem lam_off {h₀ h : Heap} {L : Addr} {T0 : List (Addr × Obj)} (N : News h₀ L h T0) (hT : ∀ p ∈ T0, ∃ vs t, p.2.data = .fields vs ∧ vs[1]? = some (.str lamQ t)) {q : Addr} {o : Obj} {v : Option Value} (hq : h.get? q = some o) (hd : o.data = .cell v) : ∀ p ∈ T0, @Ne Nat p.1 q := by
  intro p hp e
  obtain ⟨vs, t, h1, _⟩ := hT p hp
  have z := (N p hp).1
  have e' : p.1 = q := e
  rw [e', hq] at z
  cases z
  rw [hd] at h1; cases h1
theorem lam_off126 {h₀ h : Heap} {L : Addr} {T0 : List (Addr × Obj)} (N : News h₀ L h T0) (hT : ∀ p ∈ T0, ∃ vs t, p.2.data = .fields vs ∧ vs[1]? = some (.str lamQ t)) {ps : Array Value} (hq : h.get? 126 = some (tabObj ps)) (hLT : LamTab h ps) : ∀ p ∈ T0, @Ne Nat p.1 126 := by
  intro p hp e
  obtain ⟨vs, t, h1, h2⟩ := hT p hp
  have z := (N p hp).1
  have e' : p.1 = 126 := e
  rw [e', hq] at z
  rw [← Option.some.inj z] at h1
  cases h1
  rcases hLT with rfl | ⟨c', rfl, _⟩
  · simp at h2
  · simp [rawInt] at h2
theorem datAll_strs {news : List (Addr × Obj)} : ∀ {vs : List Value} {r : List Str}, StrsAre vs r → DatAll news vs (r.map Dat.str)
  | _, _, .nil => .nil
  | _, _, .cons x t h => .cons (.str x t) (datAll_strs h)
theorem datAll_snoc {news : List (Addr × Obj)} {v : Value} {d : Dat} (hd : DatIn news v d) : ∀ {vs : List Value} {ds : List Dat}, DatAll news vs ds → DatAll news (vs ++ [v]) (ds ++ [d])
  | _, _, .nil => .cons hd .nil
  | _, _, .cons h r => .cons h (datAll_snoc hd r)
/-- lists of texts, on the ledger -/
noncomputable def TextRows (V : List (Addr × Obj)) (X : List (List Str)) : Prop := DatAll V (refsOf V) (X.map fun r => Dat.list (r.map Dat.str))
theorem TextRows.nil : TextRows [] [] := DatAll.nil
theorem TextRows.snoc {V : List (Addr × Obj)} {X : List (List Str)} {D : Addr} {vs : List Value} {r : List Str} (h : TextRows V X) (hs : StrsAre vs r) : TextRows (V ++ [(D, lst vs)]) (X ++ [r]) := by
  unfold TextRows refsOf at h ⊢
  rw [List.map_append, List.map_append]
  refine datAll_snoc ?_ (DatAll.mono (fun p hp => List.mem_append_left _ hp) h)
  exact .list (n := vs.length) (List.mem_append_right _ (.head _)) (datAll_strs hs)
theorem rows_ok {X : List (List Str)} (h : ∀ r ∈ X, ∀ x ∈ r, PyData.strOk x = true) : ∀ d ∈ (X.map fun r => Dat.list (r.map Dat.str)), kqdOk 8 d = true := by
  intro d hd
  obtain ⟨r, hr, rfl⟩ := List.mem_map.mp hd
  simp only [kqdOk, List.all_map, List.all_eq_true, Function.comp_apply]
  exact fun x hx => h r hr x hx
section
variable {prog : Program} {w : World} {A : Around} {E : Value → Shared → Prop} {s : Shared} {h₀ : Heap} {L : Addr} {led : List (Addr × Obj)}
theorem nest_ne {a b : Addr} {V V' : List (Addr × Obj)} {X Y : List (List Str)} {Q : Value → Shared → Prop} (N : News h₀ L s.heap led) (ma : (a, lst (refsOf V)) ∈ led) (mb : (b, lst (refsOf V')) ∈ led) (hV : TextRows V X) (hV' : TextRows V' Y) (sV : ∀ p ∈ V, p ∈ led) (sV' : ∀ p ∈ V', p ∈ led)
    (hX : ∀ r ∈ X, ∀ x ∈ r, PyData.strOk x = true) (hXY : X = Y) (hu : A.units + 64 < cLine) (h : Q (.bool false) s) : wpAny (model prog w) A (compareOp .NotEq (.ref a) (.ref b)) Q E s := by
  subst hXY
  refine kqd_ne N ma rfl rfl hV sV mb rfl rfl hV' sV' (rows_ok hX) (rows_ok hX) hu ?_
  simpa using h
end
theorem off3_snoc {I C D D' : Addr} {oI oC oD o : Obj} {led led' : List (Addr × Obj)} (off : Off3 I C D led) (o1 : Off1 D' ((I, oI) :: (C, oC) :: (D, oD) :: led)) (hs : ∀ p ∈ led', p ∈ led ∨ p = (D', o)) : Off3 I C D led' :=
  Off3.of fun p hp => by
    rcases hs p hp with h | rfl
    · exact off.mem p h
    · exact ⟨Ne.symm o1.1, Ne.symm o1.2.1, Ne.symm o1.2.2.1⟩
theorem refs_get {R : List (Addr × Obj)} {P : List (List Int)} {i : Nat} {v : Value} (h : RowsAt R P) (hv : (refsOf R).toArray[i]? = some v) :
    ∃ d vs n r, v = .ref d ∧ (d, W.listOf (List.toArray vs) n) ∈ R ∧ P[i]? = some r ∧ IntsAre vs r := by
  have hv' : (refsOf R)[i]? = some v := by simpa using hv
  have hi : i < R.length := by
    have := (List.getElem?_eq_some_iff.mp hv').1
    simpa [refsOf] using this
  have hi' : i < P.length := by rw [← h.1]; exact hi
  obtain ⟨d, vs, n, h1, h2, h3⟩ := h.get (List.getElem?_eq_getElem hi')
  rw [h3] at hv'
  exact ⟨d, vs, n, _, (Option.some.inj hv').symm, List.mem_of_getElem? h1, List.getElem?_eq_getElem hi', h2⟩
theorem sum_exact {prog : Program} {w : World} {A : Around} {E : Value → Shared → Prop} {s : Shared} {l : Addr} {vs : List Value} {ns : List Int} {Q : Value → Shared → Prop} (hh : A.handled = none) (hl : s.heap.IsList l vs.toArray) (hi : IntsAre vs ns)
    (h : ∀ h' tk t', Ext s.heap h' → Q (.int ns.sum t') { s with heap := h', toks := tk }) : wpAny (model prog w) A (call (.builtin "sum") [.ref l]) Q E s := by
  obtain ⟨xs, hx⟩ := hi.allInts.items
  have hn : numsOf vs.toArray.toList = ns := by rw [show vs.toArray.toList = vs from rfl, hi.numsOf]
  rw [hx] at hl hn
  rw [nums_intItems] at hn
  refine sum_intListG hh hl fun h' tk t' hk => ?_
  have := h h' tk t' hk
  rw [preSum_eq, List.take_of_length_le (by simp), hn]; exact this
theorem pick_refs (R : List (Addr × Obj)) (i : Nat) : (slicePick (refsOf R).toArray none (some (1 + (i : Int))) none).toList = refsOf (R.take (i + 1)) := by
  have e : sliceBounds none (some (1 + (i : Int))) none (refsOf R).toArray.size = (((0 : Nat) : Int), ((min (i + 1) (refsOf R).toArray.size : Nat) : Int), 1) := by
    simp only [sliceBounds, Option.getD_none, show (1 : Int) > 0 by decide, if_true, if_neg (show ¬ (1 + (i : Int) < 0) by omega)]
    congr 1
    congr 1
    omega
  rw [kmk_pick_nat _ e]
  show ((refsOf R).drop 0).take (min (i + 1) (refsOf R).toArray.size - 0) = _
  rw [List.drop_zero, Nat.sub_zero, List.size_toArray, kmk_take_min]
  simp [refsOf]
theorem RowsAt.take {R : List (Addr × Obj)} {P : List (List Int)} (h : RowsAt R P) (n : Nat) : RowsAt (R.take n) (P.take n) := by
  refine ⟨by simp [h.1], fun i p r h1 h2 => ?_⟩
  rw [List.getElem?_take] at h1 h2
  split at h1
  · rename_i hi
    rw [if_pos hi] at h2
    exact h.2 i p r h1 h2
  · cases h1
theorem sum_cast : ∀ l : List Nat, (l.map fun n : Nat => (n : Int)).sum = ((l.sum : Nat) : Int)
  | [] => rfl
  | a :: l => by
    have := sum_cast l
    simp only [List.map_cons, List.sum_cons, this]
    push_cast; rfl
/-- the keys of sorted(modes, key=_law_card) -/
noncomputable def CardKey (ms : List Int) (i : Nat) (kv : Value) (nd : List (Addr × Obj)) : Prop := i < 6 ∧ ∃ D ys, kv = .ref D ∧ nd = [(D, lst ys)] ∧ IntsAre ys (cardInts (ms.getD i 0))
theorem cardBook {prog : Program} {w : World} {A : Around} {ms : List Int} (hl : ms.length = 6) (hu : A.units < cLine) : KeyBook prog w A (CardKey ms) (fun i : Nat => rk (ms.map cardStr) (i : Int)) (.type "list") where
  looks := by
    rintro i kv nd h ⟨_, D, ys, rfl, rfl, _⟩ hp
    have ho := hp _ (.head _)
    exact (show Looks (model prog w) h (typeOf (.ref D)) (lst ys).cls from (Looks.ld ho).andThen .now)
  t1 := by decide
  t2 := by decide
  cmp := by
    rintro i j kv kv' nd nd' s' Q' ⟨hi, D, ys, rfl, rfl, h1⟩ ⟨hj, D', ys', rfl, rfl, h2⟩ p1 p2 hq
    refine keyLt_lists h1 h2 (by simp [cardInts]) hu (p1 _ (.head _)) (p2 _ (.head _)) ?_
    have e : decide (cardInts (ms.getD i 0) < cardInts (ms.getD j 0)) = decide (rk (ms.map cardStr) (i : Int) < rk (ms.map cardStr) (j : Int)) := by
      refine decide_eq_decide.mpr ?_
      rw [card_lt, rk_ord _ i j hi hj, getD_map (by omega), getD_map (by omega)]
    rw [e]; exact hq
theorem perm_lt6 {p : List Nat} (hp : p.Perm (List.range 6)) : ∀ i ∈ p, i < 6 := fun i hi => by simpa using hp.mem_iff.mp hi
end TL0
section TN1
set_option maxRecDepth 100000
set_option maxHeartbeats 8000000
set_option rowWalk.seconds 0
open LCg (NsObj lst Off3 Off1)
theorem strs_nextS {ys : List Value} {ss : List Str} {i : Nat} {c : Str} {t : Tok} (h : StrsAre ys (ss.take i)) (hc : ss[i]? = some c) : StrsAre (ys ++ [.str c t]) (ss.take (i + 1)) := by
  have e1 : ss.take (i + 1) = ss.take i ++ [c] := by rw [List.take_add_one, hc]; rfl
  rw [e1]
  exact strs_snoc h
/-- rows of texts made so far, behind what stood -/
inductive NJ (led : List (Addr × Obj)) (rows : List (List Str)) (i : Nat) (ys : List Value) (led' : List (Addr × Obj)) : Prop
  | mk (V : List (Addr × Obj)) (hl : led' = led ++ V) (hy : ys = refsOf V) (hV : TextRows V (rows.take i)) : NJ led rows i ys led'
local macro_rules | `(tactic| walk_at "subscriptTail Name Name ref int") => `(tactic| (k_dflt (refine item_textN (by k_asm) (by k_mem) (by assumption) (by omega) (by assumption) (by assumption) ?_); intro _))
local macro_rules | `(tactic| k_mem) => `(tactic| first | assumption | exact List.mem_append_left _ (by assumption) | fail "k_mem")
theorem nest_looks (w : World) {A : Around} {s : Shared} {h₀ : Heap} {L : Addr} {m : Str → Option Value} {led : List (Addr × Obj)} {env : Env} {ac DT al : Addr} {oc : Obj} {ysT : List Value} {ts : List Str} {R : List (Addr × Obj)} {nl : Nat} {PP : List (List Int)} {Q E : Value → Shared → Prop}
    {p1 p2 p3 p4 p5 px pos2 pos : Pos} {iter : PySem.Expr} {hx0 : Heap} (X : (hd.heap_1 w.params).In hx0) (hh : A.handled = none)
    (hrel : relabel { kind := .function, names := [(Str.ofString ".0", .local), (Str.ofString "line", .local), (Str.ofString "looks", .free)], isGenerator := false, isCoroutine := false, more := [] } env = relabel { kind := .function, names := [(Str.ofString ".0", .local), (Str.ofString "line", .local), (Str.ofString "looks", .free)], isGenerator := false, isCoroutine := false, more := [] } { env with scope := { kind := .function, names := [(Str.ofString "looks", .cell)], isGenerator := false, isCoroutine := false, more := [] } })
    (F : Fr h₀ L s.heap m) (N : News h₀ L s.heap led)
    (hc : (ac, oc) ∈ led) (dc : oc.data = .cell (some (.ref DT))) (hT : (DT, lst ysT) ∈ led) (hTs : StrsAre ysT ts) (hX : (al, W.listOf (refsOf R).toArray nl) ∈ led) (hRl : ∀ p ∈ R, p ∈ led) (hR : RowsAt R PP)
    (hrng : ∀ r ∈ PP, ∀ k ∈ r, 0 ≤ k ∧ k < (ts.length : Int)) (hle : ∀ r ∈ PP, r.length ≤ 6) (hP6 : PP.length ≤ 6) (ht6 : ts.length ≤ 64)
    (fin : ∀ D h tk V, Fr h₀ L h m → News h₀ L h ((D, lst (refsOf V)) :: (led ++ V)) → Off1 D (led ++ V) → TextRows V (PP.map (List.map fun k : Int => ts.getD k.toNat ⟨#[]⟩)) → Q (.ref D) { s with heap := h, toks := tk }) :
    LcAt PySem.Challenge.rw_oy0037_01.row.prog w A (.ListComp (.Subscript (.Name (Str.ofString "looks") p1) (.Name (Str.ofString "k") p2) p3) [⟨.Name (Str.ofString "k") p4, .Name (Str.ofString "line") p5, [], 0⟩]
        { kind := .function, names := [(Str.ofString ".0", .local), (Str.ofString "k", .local), (Str.ofString "looks", .free)], isGenerator := false, isCoroutine := false, more := [] } pos2) (Str.ofString "line") px iter []
      { kind := .function, names := [(Str.ofString ".0", .local), (Str.ofString "line", .local), (Str.ofString "looks", .free)], isGenerator := false, isCoroutine := false, more := [] } [(Str.ofString "looks", ac)] pos env none Q E (.ref al) s := by
  have hsz : (refsOf R).toArray.size = PP.length := by simp only [List.size_toArray, refsOf, List.length_map]; exact hR.1
  refine lc_inv (NJ led (PP.map (List.map fun k : Int => ts.getD k.toNat ⟨#[]⟩))) (Source.list hh ⟨_, (N _ hX).1, rfl, _, rfl⟩) (by rw [hsz, sizeLine_eq]; omega) (by decide) rfl rfl F N ⟨[], (List.append_nil led).symm, rfl, TextRows.nil⟩ ?_ ?_ ?_
  · rintro i h' ys led' F' N' ⟨V, rfl, _, _⟩
    exact ⟨_, (N' _ (List.mem_append_left _ hX)).1, rfl, _, rfl⟩
  · intro i v ys led₁ I oI C oC D m₂ h tk hi hv hJJ hoC hx F2 N2 off ne
    clear F N fin
    have hce : ∀ cl, compEnvC { kind := .function, names := [(Str.ofString ".0", .local), (Str.ofString "line", .local), (Str.ofString "looks", .free)], isGenerator := false, isCoroutine := false, more := [] } cl C env = compEnvC { kind := .function, names := [(Str.ofString ".0", .local), (Str.ofString "line", .local), (Str.ofString "looks", .free)], isGenerator := false, isCoroutine := false, more := [] } cl C { env with scope := { kind := .function, names := [(Str.ofString "looks", .cell)], isGenerator := false, isCoroutine := false, more := [] } } := fun cl => by
      unfold compEnvC
      rw [hrel]
    rw [hce]
    clear hce hrel
    refine wpAny_tests_nil ?_
    refine gen_post fun Q1 hQ1 => ?_
    show wpAny _ _ _ _ _ _
    refine gen_goal fun GG hGG => ?_
    obtain ⟨V, rfl, rfl, hV⟩ := hJJ
    obtain ⟨d, vs, nd, r, rfl, hdm, hPr, hIr⟩ := refs_get hR hv
    refine hGG ?_
    clear hGG
    have hrm := List.mem_of_getElem? hPr
    have hrk := hrng r hrm
    have hrle := hle r hrm
    have hmem : (d, W.listOf vs.toArray nd) ∈ ((I, oI) :: (C, oC) :: (D, lst (refsOf V)) :: (led ++ V) : List (Addr × Obj)) := .tail _ (.tail _ (.tail _ (List.mem_append_left _ (hRl _ hdm))))
    k_steps
    refine lc_map (fun j zs => StrsAre zs ((r.map (fun k : Int => ts.getD k.toNat ⟨#[]⟩)).take j)) (Source.list hh ⟨_, (N2 _ hmem).1, rfl, _, rfl⟩) (by rw [List.size_toArray, hIr.length, sizeLine_eq]; omega) (by decide) rfl rfl F2 N2 .nil ?_ ?_ ?_
    · intro h' F' N'
      exact ⟨_, (N' _ hmem).1, rfl, _, rfl⟩
    · intro j v zs I2 oI2 C2 oC2' D2' m₃ h tk Q2 hj hv2 hzs hoC2 hx2 F3 N3 off3 ne3 hQ2
      clear N2 F2
      obtain ⟨k, tk', rfl, hk⟩ := hIr.at j v (by rw [← hv2, List.getElem?_toArray])
      have hk6 := hrk k (List.mem_of_getElem? hk)
      have hk0 : 0 ≤ k := hk6.1
      have hk5 : k < (ts.length : Int) := hk6.2
      k_steps
      exact hQ2 _ _ _ _ F3 N3 (fun _ hp => hp) (strs_nextS hzs (by rw [List.getElem?_map, hk]; rfl))
    · intro D' h tk zs F3 N3 off' hzs
      clear N2 F2
      rw [List.size_toArray, hIr.length, ← List.length_map (f := (fun k : Int => ts.getD k.toNat ⟨#[]⟩)), List.take_length] at hzs
      refine hQ1 _ _ (LcE.intro F3 N3 (led ++ (V ++ [(D', lst zs)])) ?_ (off3_snoc (o := lst zs) off off' ?_) ⟨V ++ [(D', lst zs)], rfl, by simp [refsOf], ?_⟩)
      · intro p hp
        simp only [List.mem_cons, List.mem_append, List.not_mem_nil, or_false] at hp ⊢
        grind
      · intro p hp
        simp only [List.mem_cons, List.mem_append, List.not_mem_nil, or_false] at hp ⊢
        grind
      · rw [List.take_add_one, List.getElem?_map, hPr]; exact hV.snoc hzs
  · rintro D h tk ys led' F2 N2 off ⟨V, rfl, rfl, hV⟩
    rw [hsz, ← List.length_map (f := List.map fun k : Int => ts.getD k.toNat ⟨#[]⟩), List.take_length] at hV
    exact fin D h tk V F2 N2 off hV
theorem nest_cards (w : World) {A : Around} {s : Shared} {h₀ : Heap} {L : Addr} {m : Str → Option Value} {led : List (Addr × Obj)} {env : Env} {ac DT al : Addr} {oc : Obj} {ysT : List Value} {ts : List Str} {R : List (Addr × Obj)} {nl : Nat} {PP : List (List Int)} {Q E : Value → Shared → Prop}
    {p1 p2 p3 p4 p5 px pos2 pos : Pos} {iter : PySem.Expr} {hx0 : Heap} (X : (hd.heap_1 w.params).In hx0) (hh : A.handled = none)
    (hrel : relabel { kind := .function, names := [(Str.ofString ".0", .local), (Str.ofString "line", .local), (Str.ofString "cards", .free)], isGenerator := false, isCoroutine := false, more := [] } env = relabel { kind := .function, names := [(Str.ofString ".0", .local), (Str.ofString "line", .local), (Str.ofString "cards", .free)], isGenerator := false, isCoroutine := false, more := [] } { env with scope := { kind := .function, names := [(Str.ofString "cards", .cell)], isGenerator := false, isCoroutine := false, more := [] } })
    (F : Fr h₀ L s.heap m) (N : News h₀ L s.heap led)
    (hc : (ac, oc) ∈ led) (dc : oc.data = .cell (some (.ref DT))) (hT : (DT, lst ysT) ∈ led) (hTs : StrsAre ysT ts) (hX : (al, W.listOf (refsOf R).toArray nl) ∈ led) (hRl : ∀ p ∈ R, p ∈ led) (hR : RowsAt R PP)
    (hrng : ∀ r ∈ PP, ∀ k ∈ r, 0 ≤ k ∧ k < (ts.length : Int)) (hle : ∀ r ∈ PP, r.length ≤ 6) (hP6 : PP.length ≤ 6) (ht6 : ts.length ≤ 64)
    (fin : ∀ D h tk V, Fr h₀ L h m → News h₀ L h ((D, lst (refsOf V)) :: (led ++ V)) → Off1 D (led ++ V) → TextRows V (PP.map (List.map fun k : Int => ts.getD k.toNat ⟨#[]⟩)) → Q (.ref D) { s with heap := h, toks := tk }) :
    LcAt PySem.Challenge.rw_oy0037_01.row.prog w A (.ListComp (.Subscript (.Name (Str.ofString "cards") p1) (.Name (Str.ofString "k") p2) p3) [⟨.Name (Str.ofString "k") p4, .Name (Str.ofString "line") p5, [], 0⟩]
        { kind := .function, names := [(Str.ofString ".0", .local), (Str.ofString "k", .local), (Str.ofString "cards", .free)], isGenerator := false, isCoroutine := false, more := [] } pos2) (Str.ofString "line") px iter []
      { kind := .function, names := [(Str.ofString ".0", .local), (Str.ofString "line", .local), (Str.ofString "cards", .free)], isGenerator := false, isCoroutine := false, more := [] } [(Str.ofString "cards", ac)] pos env none Q E (.ref al) s := by
  have hsz : (refsOf R).toArray.size = PP.length := by simp only [List.size_toArray, refsOf, List.length_map]; exact hR.1
  refine lc_inv (NJ led (PP.map (List.map fun k : Int => ts.getD k.toNat ⟨#[]⟩))) (Source.list hh ⟨_, (N _ hX).1, rfl, _, rfl⟩) (by rw [hsz, sizeLine_eq]; omega) (by decide) rfl rfl F N ⟨[], (List.append_nil led).symm, rfl, TextRows.nil⟩ ?_ ?_ ?_
  · rintro i h' ys led' F' N' ⟨V, rfl, _, _⟩
    exact ⟨_, (N' _ (List.mem_append_left _ hX)).1, rfl, _, rfl⟩
  · intro i v ys led₁ I oI C oC D m₂ h tk hi hv hJJ hoC hx F2 N2 off ne
    clear F N fin
    have hce : ∀ cl, compEnvC { kind := .function, names := [(Str.ofString ".0", .local), (Str.ofString "line", .local), (Str.ofString "cards", .free)], isGenerator := false, isCoroutine := false, more := [] } cl C env = compEnvC { kind := .function, names := [(Str.ofString ".0", .local), (Str.ofString "line", .local), (Str.ofString "cards", .free)], isGenerator := false, isCoroutine := false, more := [] } cl C { env with scope := { kind := .function, names := [(Str.ofString "cards", .cell)], isGenerator := false, isCoroutine := false, more := [] } } := fun cl => by
      unfold compEnvC
      rw [hrel]
    rw [hce]
    clear hce hrel
    refine wpAny_tests_nil ?_
    refine gen_post fun Q1 hQ1 => ?_
    show wpAny _ _ _ _ _ _
    refine gen_goal fun GG hGG => ?_
    obtain ⟨V, rfl, rfl, hV⟩ := hJJ
    obtain ⟨d, vs, nd, r, rfl, hdm, hPr, hIr⟩ := refs_get hR hv
    refine hGG ?_
    clear hGG
    have hrm := List.mem_of_getElem? hPr
    have hrk := hrng r hrm
    have hrle := hle r hrm
    have hmem : (d, W.listOf vs.toArray nd) ∈ ((I, oI) :: (C, oC) :: (D, lst (refsOf V)) :: (led ++ V) : List (Addr × Obj)) := .tail _ (.tail _ (.tail _ (List.mem_append_left _ (hRl _ hdm))))
    k_steps
    refine lc_map (fun j zs => StrsAre zs ((r.map (fun k : Int => ts.getD k.toNat ⟨#[]⟩)).take j)) (Source.list hh ⟨_, (N2 _ hmem).1, rfl, _, rfl⟩) (by rw [List.size_toArray, hIr.length, sizeLine_eq]; omega) (by decide) rfl rfl F2 N2 .nil ?_ ?_ ?_
    · intro h' F' N'
      exact ⟨_, (N' _ hmem).1, rfl, _, rfl⟩
    · intro j v zs I2 oI2 C2 oC2' D2' m₃ h tk Q2 hj hv2 hzs hoC2 hx2 F3 N3 off3 ne3 hQ2
      clear N2 F2
      obtain ⟨k, tk', rfl, hk⟩ := hIr.at j v (by rw [← hv2, List.getElem?_toArray])
      have hk6 := hrk k (List.mem_of_getElem? hk)
      have hk0 : 0 ≤ k := hk6.1
      have hk5 : k < (ts.length : Int) := hk6.2
      k_steps
      exact hQ2 _ _ _ _ F3 N3 (fun _ hp => hp) (strs_nextS hzs (by rw [List.getElem?_map, hk]; rfl))
    · intro D' h tk zs F3 N3 off' hzs
      clear N2 F2
      rw [List.size_toArray, hIr.length, ← List.length_map (f := (fun k : Int => ts.getD k.toNat ⟨#[]⟩)), List.take_length] at hzs
      refine hQ1 _ _ (LcE.intro F3 N3 (led ++ (V ++ [(D', lst zs)])) ?_ (off3_snoc (o := lst zs) off off' ?_) ⟨V ++ [(D', lst zs)], rfl, by simp [refsOf], ?_⟩)
      · intro p hp
        simp only [List.mem_cons, List.mem_append, List.not_mem_nil, or_false] at hp ⊢
        grind
      · intro p hp
        simp only [List.mem_cons, List.mem_append, List.not_mem_nil, or_false] at hp ⊢
        grind
      · rw [List.take_add_one, List.getElem?_map, hPr]; exact hV.snoc hzs
  · rintro D h tk ys led' F2 N2 off ⟨V, rfl, rfl, hV⟩
    rw [hsz, ← List.length_map (f := List.map fun k : Int => ts.getD k.toNat ⟨#[]⟩), List.take_length] at hV
    exact fin D h tk V F2 N2 off hV
end TN1
section TL1
set_option maxRecDepth 100000
set_option maxHeartbeats 8000000
set_option rowWalk.seconds 0
open LCg (NsObj lst Off3 Off1)
set_option pp.deepTerms.threshold 4
set_option pp.proofs false
theorem IntsAre.mem {vs : List Value} {ns : List Int} (hi : IntsAre vs ns) : ∀ v ∈ vs, ∃ n t, v = .int n t := by
  induction hi with
  | nil => intro v hv; cases hv
  | cons n t _ ih =>
    intro v hv
    rcases List.mem_cons.mp hv with rfl | hv
    · exact ⟨n, t, rfl⟩
    · exact ih v hv
theorem ints_pick {vs : List Value} {ns : List Int} (hi : IntsAre vs ns) (lo hi' st : Option Int) : IntsAre (slicePick vs.toArray lo hi' st).toList ((slicePick vs.toArray lo hi' st).toList.map numOf) := by
  apply intsAre_map
  intro v hv
  unfold slicePick at hv
  simp only at hv
  obtain ⟨k, _, hk⟩ := List.mem_filterMap.mp hv
  have : v ∈ vs := by
    rw [List.getElem?_toArray] at hk
    exact List.mem_of_getElem? hk
  exact IntsAre.mem hi v this
theorem sum_row {prog : Program} {w : World} {A : Around} {E : Value → Shared → Prop} {s : Shared} {h₀ : Heap} {L : Addr} {m : Str → Option Value} {news : List (Addr × Obj)} {l : Addr} {vs : List Value} {ns : List Int} {Q : Value → Shared → Prop}
    (F : Fr h₀ L s.heap m) (N : News h₀ L s.heap news) (hh : A.handled = none) (hi : IntsAre vs ns) {lo hi' st : Option Int} (hm : (l, ({ cls := Value.type "list", data := .seq (slicePick vs.toArray lo hi' st) } : Obj)) ∈ news)
    (h : ∀ (t : Int) h' tk t', Fr h₀ L h' m → News h₀ L h' news → Q (.int t t') { s with heap := h', toks := tk }) :
    wpAny (model prog w) A (call (.builtin "sum") [.ref l]) Q E s := by
  have hl : s.heap.IsList l (slicePick vs.toArray lo hi' st) := ⟨_, (N _ hm).1, rfl, 0, rfl⟩
  obtain ⟨xs, hx⟩ := (ints_pick hi lo hi' st).allInts.items
  have hx' : slicePick vs.toArray lo hi' st = intItems xs := by rw [← hx]
  rw [hx'] at hl
  exact sum_intListG hh hl fun h' tk t' hk => h _ h' tk t' (F.keeps hk) (N.grown hk)
theorem off_head {a : Addr} {o o' : Obj} {r : List (Addr × Obj)} {I : Addr} (h : ∀ p ∈ (a, o) :: r, p.1 ≠ I) : ∀ p ∈ (a, o') :: r, p.1 ≠ I := by
  intro p hp
  rcases List.mem_cons.mp hp with rfl | hp
  · exact h (a, o) (.head _)
  · exact h p (.tail _ hp)
theorem fm_rng (x : Int) : 0 ≤ x.fmod 16777216 ∧ x.fmod 16777216 < 16777216 := by
  rw [Int.fmod_eq_emod_of_nonneg x (by decide)]
  omega
theorem fm_rng2 (x : Int) {k : Int} (h0 : 0 ≤ k) (h5 : k ≤ 5) : 0 ≤ x.fmod 65536 + 65536 * k ∧ x.fmod 65536 + 65536 * k < 16777216 := by
  rw [Int.fmod_eq_emod_of_nonneg x (by decide)]
  omega
theorem rng_snoc {ms : List Int} {x : Int} (h : ∀ x ∈ ms, 0 ≤ x ∧ x < 16777216) (hx : 0 ≤ x ∧ x < 16777216) : ∀ y ∈ ms ++ [x], 0 ≤ y ∧ y < 16777216 := by
  intro y hy
  rcases List.mem_append.mp hy with hy | hy
  · exact h y hy
  · rw [List.mem_singleton.mp hy]; exact hx
theorem FTurn.next2 {h₀ : Heap} {L : Addr} {s : Shared} {I : Addr} {oI : Obj} {J : (Str → Option Value) → List (Addr × Obj) → Prop} {Q : Flow → Shared → Prop} {h' : Heap} {tk' : Nat} {m' : Str → Option Value} {led' : List (Addr × Obj)} {c d : Addr × Obj}
    (F : Fr h₀ L h' m') (N : News h₀ L h' (c :: d :: (I, oI) :: led')) (off : ∀ p ∈ led', p.1 ≠ I) (hJ : J m' led') : FTurn h₀ L s I oI J Q .next { s with heap := h', toks := tk' } :=
  FTurn.next F N (fun _ hp => .tail _ (.tail _ hp)) off hJ
theorem FTurn.next1 {h₀ : Heap} {L : Addr} {s : Shared} {I : Addr} {oI : Obj} {J : (Str → Option Value) → List (Addr × Obj) → Prop} {Q : Flow → Shared → Prop} {h' : Heap} {tk' : Nat} {m' : Str → Option Value} {led' : List (Addr × Obj)} {c : Addr × Obj}
    (F : Fr h₀ L h' m') (N : News h₀ L h' (c :: (I, oI) :: led')) (off : ∀ p ∈ led', p.1 ≠ I) (hJ : J m' led') : FTurn h₀ L s I oI J Q .next { s with heap := h', toks := tk' } :=
  FTurn.next F N (fun _ hp => .tail _ hp) off hJ
theorem mapNK (v v' vN vK : Option Value) (r : Str → Option Value) : (fun y => if y = Str.ofString "number" then v else if y = Str.ofString "k" then v' else if y = Str.ofString "number" then vN else if y = Str.ofString "k" then vK else r y) =
    (fun y => if y = Str.ofString "number" then v else if y = Str.ofString "k" then v' else r y) := by
  funext y
  by_cases e1 : y = Str.ofString "number"
  · simp only [if_pos e1]
  · by_cases e2 : y = Str.ofString "k"
    · simp only [if_neg e1, if_pos e2]
    · simp only [if_neg e1, if_neg e2]
theorem map1 (a : Str) (v v' : Option Value) (r : Str → Option Value) : (fun y => if y = a then v else if y = a then v' else r y) = (fun y => if y = a then v else r y) := by
  funext y
  by_cases e1 : y = a
  · simp only [if_pos e1]
  · simp only [if_neg e1]
theorem map0 (a : Str) (r : Str → Option Value) (h : r a = none) : r = (fun y => if y = a then none else r y) := by
  funext y
  by_cases e1 : y = a
  · rw [if_pos e1, e1, h]
  · rw [if_neg e1]
theorem octs_snoc {ovs : List Value} {ms : List Int} {i : Nat} {x a b c : Int} {ta tb tc : Tok} (hov : IntsAre ovs ((ms.take i).flatMap octs)) (hx : ms[i]? = some x) (e : [a, b, c] = octs x) :
    IntsAre (ovs ++ [.int a ta, .int b tb, .int c tc]) ((ms.take (i + 1)).flatMap octs) := by
  have e1 : ms.take (i + 1) = ms.take i ++ [x] := by rw [List.take_succ, hx]; rfl
  rw [e1, List.flatMap_append, show [x].flatMap octs = [a, b, c] by rw [e]; simp]
  have := ksk_snoc (t := tc) (n := c) (ksk_snoc (t := tb) (n := b) (ksk_snoc (t := ta) (n := a) hov))
  simpa using this
theorem strs_append {a : List Value} {x : List Str} {b : List Value} {y : List Str} (h : StrsAre a x) (h' : StrsAre b y) : StrsAre (a ++ b) (x ++ y) := by
  induction h with
  | nil => exact h'
  | cons c t _ ih => exact .cons c t ih
theorem off1_sub {D : Addr} {l l' : List (Addr × Obj)} (h : Off1 D l) (hs : ∀ p ∈ l', p ∈ l) : Off1 D l' := by
  induction l' with
  | nil => trivial
  | cons p r ih => exact ⟨off1_mem h p (hs p (.head _)), ih fun q hq => hs q (.tail _ hq)⟩
theorem off3_sub {I C D : Addr} {l l' : List (Addr × Obj)} (h : Off3 I C D l) (hs : ∀ p ∈ l', p ∈ l) : Off3 I C D l' :=
  Off3.of fun p hp => h.mem p (hs p hp)
theorem news_sub3 {h₀ h : Heap} {L : Addr} {a b c : Addr × Obj} {l l' : List (Addr × Obj)} (N : News h₀ L h (a :: b :: c :: l)) (hs : ∀ p ∈ l', p ∈ l) : News h₀ L h (a :: b :: c :: l') := fun p hp => N p (by
  simp only [List.mem_cons] at hp ⊢
  rcases hp with h | h | h | h
  · exact .inl h
  · exact .inr (.inl h)
  · exact .inr (.inr (.inl h))
  · exact .inr (.inr (.inr (hs p h))))
theorem news_add {h₀ h h' : Heap} {L : Addr} {m : Str → Option Value} {led : List (Addr × Obj)} {D : Addr} {o : Obj} (F : Fr h₀ L h m) (N : News h₀ L h led) (x : Ext h h') (h0 : h.get? D = none) (h1 : h'.get? D = some o) :
    News h₀ L h' ((D, o) :: led) ∧ ∀ p ∈ led, @Ne Nat p.1 D := by
  refine ⟨fun p hp => ?_, fun p hp q => ?_⟩
  · rcases List.mem_cons.mp hp with rfl | hp
    · refine ⟨h1, fun q => ?_, ?_⟩
      · obtain ⟨oL, eL, _⟩ := LCg.ns_obj F.ns
        have q' : D = L := q
        rw [q', eL] at h0; cases h0
      · cases e : h₀.get? D with
        | none => rfl
        | some o' => have := F.keep _ _ e; rw [h0] at this; cases this
    · exact ⟨x _ _ (N p hp).1, (N p hp).2⟩
  · have z := (N p hp).1
    have q' : p.1 = D := q
    rw [q', h0] at z; cases z
theorem news_sub1 {h₀ h : Heap} {L : Addr} {a : Addr × Obj} {l l' : List (Addr × Obj)} (N : News h₀ L h (a :: l)) (hs : ∀ p ∈ l', p ∈ l) : News h₀ L h (a :: l') := fun p hp => N p (by
  simp only [List.mem_cons] at hp ⊢
  rcases hp with h | h
  · exact .inl h
  · exact .inr (hs p h))
noncomputable def chrOf (c : Int) : Str := ⟨#[c.toNat]⟩
theorem join_chr (cs : List Int) : Txt.join (Str.ofString "") (cs.map chrOf) = ⟨(cs.map Int.toNat).toArray⟩ := by
  have h := join_codes (cs.map Int.toNat)
  rw [List.map_map] at h
  exact h
theorem chr_w : ∀ cs : List Int, ((cs.map chrOf).map (·.length)).sum = cs.length
  | [] => rfl
  | c :: r => by
    have := chr_w r
    simp only [List.map_cons, List.sum_cons, List.length_cons, this]
    show 1 + _ = _
    omega
theorem strs_next {ys : List Value} {cs : List Int} {i : Nat} {c : Int} {t : Tok} (h : StrsAre ys ((cs.take i).map chrOf)) (hc : cs[i]? = some c) : StrsAre (ys ++ [.str ⟨#[c.toNat]⟩ t]) ((cs.take (i + 1)).map chrOf) := by
  have e1 : cs.take (i + 1) = cs.take i ++ [c] := by rw [List.take_succ, hc]; rfl
  rw [e1, List.map_append]
  exact strs_snoc h
local macro_rules | `(tactic| walk_at "eval ListComp") => `(tactic| ((with_reducible refine' lc2_start ?c1 ?c2 ?c3 ?_ ?c5); (case c1 => k_dflt (with_unfolding_all rfl)); (case c2 => k_dflt rfl); (case c3 => k_dflt decide); (case c5 => k_dflt (intro _; rfl))))
local macro_rules | `(tactic| walk_at "subscriptTail Name Name ref int") => `(tactic| (k_dflt (refine item_textN (by k_asm) (by k_mem) (by assumption) (by omega) (by rw [List.length_map]; omega) (by rw [List.length_map]; omega) ?_); intro _))
local macro_rules
  | `(tactic| walk_at "compareOp NotEq ref ref") => `(tactic| refine halt ?_)
  | `(tactic| walk_at "subscriptTail Subscript") => `(tactic| refine halt ?_)
  | `(tactic| walk_at "subscriptTail List") => `(tactic| refine halt ?_)
  | `(tactic| walk_at "call builtin:len") => `(tactic| refine halt ?_)
  | `(tactic| walk_at "call builtin:sum") => `(tactic| refine halt ?_)
  | `(tactic| walk_at "call builtin:sorted") => `(tactic| refine halt ?_)
  | `(tactic| walk_at "compareOp Eq ref ref") => `(tactic| refine halt ?_)
theorem item_menu {prog : Program} {w : World} {A : Around} {E : Value → Shared → Prop} {s : Shared} {h₀ : Heap} {L : Addr} {led : List (Addr × Obj)} {value slice : PySem.Expr} {l : Addr} {c0 c1 c2 c3 c4 c5 : Int} {t0 t1 t2 t3 t4 t5 : Tok} {n : Nat} {k : Nat} {u : Tok} {Q : Value → Shared → Prop}
    (N : News h₀ L s.heap led) (hm : (l, W.listOf (List.toArray [.int c0 t0, .int c1 t1, .int c2 t2, .int c3 t3, .int c4 t4, .int c5 t5]) n) ∈ led) (hk : k < 6) (h : ∀ c t, Q (.int c t) s)
    (hs : subscripted slice false (.ref l) (.int (k : Int) u) = operate [.ref l, .int (k : Int) u] (getItem (.ref l) (.int (k : Int) u)) := by with_unfolding_all rfl) :
    wpAny (model prog w) A (subscriptTail value slice (.ref l) (.int (k : Int) u)) Q E s := by
  obtain ⟨c, t, e⟩ : ∃ c t, ([.int c0 t0, .int c1 t1, .int c2 t2, .int c3 t3, .int c4 t4, .int c5 t5] : List Value)[k]? = some (.int c t) := by
    match k, hk with
    | 0, _ => exact ⟨_, _, rfl⟩
    | 1, _ => exact ⟨_, _, rfl⟩
    | 2, _ => exact ⟨_, _, rfl⟩
    | 3, _ => exact ⟨_, _, rfl⟩
    | 4, _ => exact ⟨_, _, rfl⟩
    | 5, _ => exact ⟨_, _, rfl⟩
  refine item_led N hm (by omega) (by omega) (x := .int c t) ?_ (h c t) hs
  rw [Int.toNat_natCast, List.getElem?_toArray]
  exact e
theorem lawT : PySem.Challenge.rw_oy0037_01.Holds := hd (by
  w_strict (
    k_go0; (all_goals try k_fold); k_steps
    rename_i w s0 s1 mg mb GG YY fa oo pm cd doc hoo hcd0 hgens XM VV TV BB TEE TWW scr hsh hlay hLy hral hl2 wa8 wa7 asc vsc wa4 hLs ra9 w19 r09 hIs hr9 hc1 hc2 hDf h1 tk1 cB cL cC cT dB dL dC dT hcells XX TT KB l126 lR rvs hR1 hRI hRC hRL l1R hR2 lM hR3 l1M hR4 F0 N0 hR5 tkR ta tb tc hRng F1 N1 hE1
    replace dB : cB.data = .cell none := dB
    replace dL : cL.data = .cell none := dL
    replace dC : cC.data = .cell none := dC
    replace dT : cT.data = .cell none := dT
    clear hcells hDf
    have GD : Gd w callerA topProg _ _ mg mb _ 100 5000 := ⟨XX, TT, by rw [depth_caller]; decide, by rw [units_caller]; decide, rfl⟩
    refine for_inv (fun k m led => ∃ mvs n ms vN vK, led = [(lM, W.listOf (List.toArray mvs) n), (lR, W.listOf rvs.toArray 0), (s1.heap.objs.size + 1 + 1 + 1 + 1, cB), (s1.heap.objs.size + 1 + 1 + 1, cL), (s1.heap.objs.size + 1 + 1, cC), (s1.heap.objs.size + 1, cT), (126, tabObj #[])] ∧ IntsAre mvs ms ∧ ms.length = k ∧ (∀ x ∈ ms, 0 ≤ x ∧ x < 16777216) ∧
      m = (fun y => if y = Str.ofString "number" then vN else if y = Str.ofString "k" then vK else if y = Str.ofString "modes" then some (.ref lM) else if y = Str.ofString "row" then some (.ref lR) else if y = Str.ofString "script" then some (.ref asc) else none)) (Source.upto (n := 6) rfl hRng rfl (by decide)) F1 N1 ?_ ?_ ?_ ?_
    · refine ⟨[], 0, [], none, none, rfl, .nil, rfl, by simp, ?_⟩
      funext y
      by_cases e1 : y = Str.ofString "number"
      · subst e1; rfl
      · rw [if_neg e1]
        by_cases e2 : y = Str.ofString "k"
        · subst e2; rfl
        · rw [if_neg e2]
          by_cases e3 : y = Str.ofString "modes"
          · subst e3; rfl
          · rw [if_neg e3, if_neg e3]
            by_cases e4 : y = Str.ofString "row"
            · subst e4; rfl
            · rw [if_neg e4, if_neg e4]
              by_cases e5 : y = Str.ofString "script"
              · subst e5; rfl
              · rw [if_neg e5]
                show (if y = Str.ofString "script" then some _ else none) = none
                rw [if_neg e5]
    · intros; trivial
    · rintro k v m₁ led₁ h tk I oI hk ⟨tv, rfl⟩ ⟨mvs, n, ms, vN, vK, rfl, hms, hml, hmr, rfl⟩ F2 N2 off
      clear F1 N1 hE1 F0 N0 hRng
      refine gen_turn fun Q1 hQ1 => ?_
      have offI : @Ne Nat lM I := off (lM, _) (.head _)
      have hmz : mvs.toArray.size = k := by rw [List.size_toArray, hms.length]; exact hml
      have hmq : mvs.toArray.size ≤ 5 := by omega
      have hk0 : (0 : Int) ≤ (k : Int) := by omega
      have hk6 : (k : Int) < 6 := by omega
      k_steps
      unfold Halt
      rename_i hS1 FS1 NS1 hS2 FS NS
      have ltM : @LT.lt Nat _ lM hS1.objs.size := Heap.lt_size (NS1 (lM, _) (by k_mem)).1
      refine sum_row FS NS rfl hRI (.head _) ?_
      intro lsum _ _ _ FS3 NS3
      clear FS1 NS1 FS NS
      k_steps
      unfold Halt
      (rename Fr _ _ _ _ => FM); (rename News _ _ _ _ => NM)
      refine item_menu NM (.head _) hk ?_
      intro c tcc
      k_steps
      all_goals (
        (rename Fr _ _ _ _ => FE); (rename News _ _ _ _ => NE)
        rw [List.push_toArray] at NE
        exact hQ1 _ _ (FTurn.next2 FE NE (off_head off) ⟨_, _, _, _, _, rfl, ksk_snoc hms, by rw [List.length_append, hml]; rfl, rng_snoc hmr (by first | exact fm_rng _ | exact fm_rng2 _ (by omega) (by omega)), mapNK _ _ _ _ _⟩))
    · rintro m₁ led₁ h tk ⟨mvs, n, ms, vN, vK, rfl, hms, hml, hmr, rfl⟩ F2 N2
      clear F1 N1 hE1 F0 N0 hRng
      dsimp only
      refine gen_both fun Q0 E0 hQ0 hE0 => ?_
      k_steps
      rename_i lO hO1 l1O hO2 FO NO
      refine for_inv (fun i m led => ∃ ovs no vm, led = [(lO, W.listOf (List.toArray ovs) no), (lM, W.listOf mvs.toArray n), (lR, W.listOf rvs.toArray 0), (s1.heap.objs.size + 1 + 1 + 1 + 1, cB), (s1.heap.objs.size + 1 + 1 + 1, cL), (s1.heap.objs.size + 1 + 1, cC), (s1.heap.objs.size + 1, cT), (126, tabObj #[])] ∧ IntsAre ovs ((ms.take i).flatMap octs) ∧
        m = (fun y => if y = Str.ofString "mode" then vm else if y = Str.ofString "octets" then some (.ref lO) else if y = Str.ofString "number" then vN else if y = Str.ofString "k" then vK else if y = Str.ofString "modes" then some (.ref lM) else if y = Str.ofString "row" then some (.ref lR) else if y = Str.ofString "script" then some (.ref asc) else none)) (Source.list rfl ⟨_, News.get NO (by k_mem), rfl, _, rfl⟩) FO NO ?_ ?_ ?_ ?_
      · exact ⟨[], 0, none, rfl, .nil, map0 _ _ rfl⟩
      · rintro i h' m' led' F' N' ⟨ovs, no, vm, rfl, _, _⟩
        exact ⟨_, News.get N' (by k_mem), rfl, _, rfl⟩
      · rintro i v m₁ led₁ h tk I oI hi hv ⟨ovs, no, vm, rfl, hov, rfl⟩ F2 N2 off
        clear FO NO
        refine gen_turn fun Q1 hQ1 => ?_
        obtain ⟨x, tx, rfl, hx⟩ := hms.at i v (by rw [← hv, List.getElem?_toArray])
        have offI : @Ne Nat lO I := off (lO, _) (.head _)
        have hi6 : i < 6 := by rw [← hml, ← hms.length, ← List.size_toArray]; exact hi
        have hol : ovs.length = 3 * i := by rw [hov.length, octs_len, List.length_take, hml]; omega
        k_steps
        (rename Fr _ _ _ _ => FE); (rename News _ _ _ _ => NE)
        refine kl_extend (l := ovs ++ [_, _, _]) FE NE (.head _) rfl (by simp) (by k_upd) ?_ ?_ ?_ ?_
        · rw [List.size_toArray, hol]
          show ¬(_ && Builtin.List.listTooLong (3 * i + 3)) = true
          rw [show Builtin.List.listTooLong (3 * i + 3) = false from by
            have : i = 0 ∨ i = 1 ∨ i = 2 ∨ i = 3 ∨ i = 4 ∨ i = 5 := by omega
            rcases this with rfl | rfl | rfl | rfl | rfl | rfl <;> rfl, Bool.and_false]
          exact Bool.false_ne_true
        · show ovs.length ≤ _
          rw [sizeLine_eq]; omega
        · show ovs.length + 3 ≤ _
          rw [sizeLine_eq]; omega
        clear FE NE
        intro h9 FE NE
        k_steps
        (rename Fr _ _ _ _ => FE); (rename News _ _ _ _ => NE)
        exact hQ1 _ _ (FTurn.next1 FE NE (off_head off) ⟨_, _, _, rfl, octs_snoc hov hx rfl, map1 _ _ _ _⟩)
      · rintro m₁ led₁ h tk ⟨ovs, no, vm, rfl, hov, rfl⟩ F2 N2
        clear FO NO
        rw [List.size_toArray, hms.length, List.take_length] at hov
        k_steps
        have hmle : ms.length ≤ 6 := Nat.le_of_eq hml
        refine call_bytes_ints ⟨_, News.get N2 (by k_mem), rfl, _, rfl⟩ hov (octs_rng hmr) (by rw [hov.length, octs_len, sizeLine_eq]; omega) rfl ?_
        intro h9 t9 tk9 hx9
        have F3 := Fr.keeps F2 hx9
        have N3 := News.grown N2 hx9
        clear F2 N2 hx9
        k_steps
        unfold Halt
        refine c_b64 w (GD.sub F3) hmr hmle ?_
        intro t8 h8 tk8 hx8
        have F4 := Fr.keeps F3 hx8
        have N4 := News.grown N3 hx8
        clear F3 N3 hx8
        k_steps
        (rename Fr _ _ _ _ => F4); (rename News _ _ _ _ => N4)
        have hcl : (ms.flatMap cardInts).length = 24 := by rw [cards_len, hml]
        refine lc_map (fun i ys => StrsAre ys (((ms.flatMap cardInts).take i).map chrOf)) (Source.bytes rfl) (by rw [byteArr_size, hcl, sizeLine_eq]; decide) (by decide) rfl rfl F4 N4 .nil ?_ ?_ ?_
        · intros; trivial
        · intro i v ys I oI C oC D m₂ h tk Q1 hi hPP hys hoC hx F2 N2 off ne hQ1
          obtain ⟨c, u, hc, rfl⟩ := hPP
          clear N4 F4
          obtain ⟨hci, hcv⟩ := byte_get cards_rng hc
          have hc0 : (0 : Int) ≤ (c.toNat : Int) := by omega
          have hc1 : (c.toNat : Int) ≤ 1114111 := by have := c.toNat_lt; omega
          k_steps
          refine hQ1 _ _ _ _ F2 N2 (fun _ hp => hp) (?_)
          exact strs_next hys (by rw [hcv, List.getD_eq_getElem?_getD, List.getElem?_eq_getElem hci]; rfl)
        · intro D h tk ys F2 N2 offD hys
          clear N4 F4
          rw [byteArr_size, List.take_length] at hys
          have hw : (((ms.flatMap cardInts).map chrOf).map (·.length)).sum + ((ms.flatMap cardInts).map chrOf).length ≤ 1048576 := by rw [chr_w, List.length_map, hcl]; decide
          dsimp only
          k_steps
          refine join_listW (x := Str.ofString "") (ys := (ms.flatMap cardInts).map chrOf) ⟨_, (F2.ns |> fun _ => (N2 _ (.head _)).1), rfl, _, rfl⟩ (by simpa using hys) (by decide) hw ?_
          intro t7 tk7
          rw [join_chr]
          have oD : @Ne Nat (s1.heap.objs.size + 1) D := offD.2.2.2.2.2.2.1
          have oD' : @Ne Nat D (s1.heap.objs.size + 1) := oD.symm
          have oO : @LT.lt Nat _ (s1.heap.objs.size + 1) lO := by first | exact l1O.2.2.2.2.2.1 | (have q := l1O; omega)
          have oM : @LT.lt Nat _ (s1.heap.objs.size + 1) lM := by have q := l1M; omega
          have oR : @LT.lt Nat _ (s1.heap.objs.size + 1) lR := by have q := l1R; omega
          k_steps
          rename_i hA oT2 FA NA dT2 hC tkC tc1 tc2 tc3 hRC6 FC NC hxC
          have NC' : News (ghostOf s1.heap [(130, 126)]) s1.heap.objs.size hC [(lM, W.listOf mvs.toArray n), (s1.heap.objs.size + 1 + 1 + 1 + 1, cB), (s1.heap.objs.size + 1 + 1 + 1, cL), (s1.heap.objs.size + 1 + 1, cC), (s1.heap.objs.size + 1, oT2), (126, tabObj #[])] := fun p hp => NC p (by
            simp only [List.mem_cons, List.not_mem_nil, or_false] at hp ⊢
            grind)
          clear FA NA hxC NC
          refine lc_map (fun i ys => StrsAre ys ((ms.map cardStr).take i)) (Source.upto (n := 6) rfl hRC6 rfl (by decide)) (by rw [sizeLine_eq]; decide) (by decide) rfl rfl FC NC' .nil ?_ ?_ ?_
          · intros; trivial
          · intro i v ys I oI C oC D m₂ h tk Q1 hi hPP hys hoC hx F2 N2 off ne hQ1
            obtain ⟨tv, rfl⟩ := hPP
            clear NC' FC hRC6
            k_steps
            (rename Fr _ _ _ _ => F4); (rename News _ _ _ _ => N4)
            rw [text_slice hml hi]
            exact hQ1 _ _ _ _ F4 N4 (fun _ hp => hp) (strs_nextS hys (by simp [hml, hi]))
          · intro D2 h tk ys2 F2 N2 offD2 hcards
            clear NC' FC hRC6
            dsimp only
            have hlM : ∀ j : Nat, j ≤ 4 → @LT.lt Nat _ (s1.heap.objs.size + j) lM := fun j hj => by have q := l1M; omega
            have ofD2 : @Ne Nat (s1.heap.objs.size + 1 + 1) D2 ∧ @Ne Nat D2 (s1.heap.objs.size + 1 + 1) := ⟨offD2.2.2.2.1, Ne.symm offD2.2.2.2.1⟩
            have oM2 : @LT.lt Nat _ (s1.heap.objs.size + 1 + 1) lM := hlM 2 (by decide)
            k_steps
            rename_i hX oC2 FX NX dC2 tkX
            refine lc2_inv (fun i ys led' => (∀ p ∈ ([(D2, lst ys2), (lM, W.listOf mvs.toArray n), (s1.heap.objs.size + 1 + 1 + 1 + 1, cB), (s1.heap.objs.size + 1 + 1 + 1, cL), (s1.heap.objs.size + 1 + 1, oC2), (s1.heap.objs.size + 1, oT2), (126, tabObj #[])] : List (Addr × Obj)), p ∈ led') ∧ StrsAre ys (((ms.take i).flatMap cardInts).map chrOf)) rfl
              (Source.list rfl ⟨_, News.get NX (by k_mem), rfl, _, rfl⟩) (by decide) rfl rfl rfl FX NX ⟨fun _ hp => hp, .nil⟩ ?_ ?_ ?_
            · rintro i h' ys led' F' N' ⟨hs, _⟩
              exact ⟨_, News.get N' (hs _ (.tail _ (.head _))), rfl, _, rfl⟩
            · rintro i v ys led₁ I oI C oC D m₂ h tk hi hv ⟨hs, hys⟩ hoC hx F2 N2 off ne
              clear FX NX
              obtain ⟨x, tx, rfl, hxm⟩ := hms.at i v (by rw [← hv, List.getElem?_toArray])
              have hxr := hmr x (List.mem_of_getElem? hxm)
              have N3 := news_sub3 N2 hs
              dsimp only
              k_steps
              unfold Halt
              refine c_card w (GD.sub F2) hxr.1 hxr.2 ?_
              intro D' ys' h' tk' hxt hD0 hD1 hI
              obtain ⟨N4, o4⟩ := news_add F2 N2 hxt hD0 hD1
              have hyl : ys.length = 4 * i := by
                rw [hys.length, List.length_map, cards_len, List.length_take]
                have := (List.getElem?_eq_some_iff.mp hxm).1
                omega
              have hi6 : i < 6 := by have := (List.getElem?_eq_some_iff.mp hxm).1; omega
              have hcl4 : (cardInts x).length = 4 := by simp [cardInts]
              refine ⟨D', ys', _, h', tk', (D', lst ys') :: led₁, fun j zs => StrsAre zs (((cardInts x).take j).map chrOf), Fr.keeps F2 hxt, ?_, ?_, .head _, ?_, ?_, .nil, ?_⟩
              · intro p hp
                refine N4 p ?_
                simp only [List.mem_cons] at hp ⊢
                grind
              · exact ⟨⟨Ne.symm (o4 _ (.head _)), Ne.symm (o4 _ (.tail _ (.head _))), Ne.symm (o4 _ (.tail _ (.tail _ (.head _))))⟩, off⟩
              · rw [hI.length, hcl4, sizeLine_eq]; omega
              · rintro j v zs I2 oI2 oC3 m₃ h tk hv3 hK hoC3 hx3 F5 N5 off5
                clear N4 N3 N2 F2
                obtain ⟨c, tc, rfl, hc⟩ := hI.at j v hv3
                have hcr : 0 ≤ c ∧ c < 256 := cards_rng (ms := [x]) c (by rw [List.flatMap_cons, List.flatMap_nil, List.append_nil]; exact List.mem_of_getElem? hc)
                have hc0 : (0 : Int) ≤ c := hcr.1
                have hc1 : c ≤ 1114111 := by omega
                k_steps
                exact LcE.intro F5 N5 _ (fun _ hp => hp) off5 ⟨rfl, strs_next hK hc⟩
              · intro zs hK
                rw [hI.length, List.take_length] at hK
                refine ⟨fun p hp => .tail _ (hs p hp), ?_⟩
                have e1 : ms.take (i + 1) = ms.take i ++ [x] := by rw [List.take_add_one, hxm]; rfl
                rw [e1, List.flatMap_append, List.map_append]
                refine strs_append hys ?_
                rw [List.flatMap_cons, List.flatMap_nil, List.append_nil]
                exact hK
            · rintro D3 h tk ys3 led' F2 N2 offD3 ⟨hs, hys3⟩
              clear FX NX
              have N3 := news_sub1 N2 hs
              have offD3' := off1_sub offD3 hs
              clear N2 offD3
              rw [List.size_toArray, hms.length, List.take_length] at hys3
              dsimp only
              k_steps
              refine join_listW (x := Str.ofString "") (ys := (ms.flatMap cardInts).map chrOf) ⟨_, (N3 _ (.head _)).1, rfl, _, rfl⟩ (by simpa using hys3) (by decide) hw ?_
              intro t6 tk6
              rw [join_chr]
              k_steps
              · exfalso; rename (_ != _) = true => hbad; simp at hbad
              have N4 : News (ghostOf s1.heap [(130, 126)]) s1.heap.objs.size _ [(D2, lst ys2), (lM, W.listOf mvs.toArray n), (s1.heap.objs.size + 1 + 1 + 1 + 1, cB), (s1.heap.objs.size + 1 + 1 + 1, cL), (s1.heap.objs.size + 1 + 1, oC2), (s1.heap.objs.size + 1, oT2), (126, tabObj #[])] := fun p hp => N3 p (.tail _ hp)
              clear N3 offD3' hys3 hs
              refine lc_map (fun i ys => StrsAre ys ((ms.map lookOf).take i)) (Source.list rfl ⟨_, News.get N4 (by k_mem), rfl, _, rfl⟩) (by rw [List.size_toArray, hms.length, hml, sizeLine_eq]; decide) (by decide) rfl rfl F2 N4 .nil ?_ ?_ ?_
              · intro h' F' N'
                exact ⟨_, News.get N' (by k_mem), rfl, _, rfl⟩
              · intro i v ys I oI C oC D m₂ h tk Q1 hi hv hys hoC hx F3 N3 off ne hQ1
                clear N4 F2
                obtain ⟨x, tx, rfl, hxm⟩ := hms.at i v (by rw [← hv, List.getElem?_toArray])
                k_steps
                unfold Halt
                refine c_filemode w (GD.sub F3) ?_
                intro tr h' tk' hxt
                exact hQ1 _ _ _ _ (Fr.keeps F3 hxt) (News.grown N3 hxt) (fun _ hp => hp) (strs_nextS hys (by rw [List.getElem?_map, hxm]; rfl))
              · intro D4 h tk ys4 F3 N3 offD4 hlooks
                clear N4 F2
                rw [List.size_toArray, hms.length, ← List.length_map (f := lookOf), List.take_length] at hlooks
                rw [← hml, ← List.length_map (f := cardStr), List.take_length] at hcards
                dsimp only
                have ofD4 : @Ne Nat (s1.heap.objs.size + 1 + 1 + 1) D4 ∧ @Ne Nat D4 (s1.heap.objs.size + 1 + 1 + 1) := ⟨offD4.2.2.2.1, Ne.symm offD4.2.2.2.1⟩
                have oM4 : @LT.lt Nat _ (s1.heap.objs.size + 1 + 1 + 1) lM := hlM 3 (by decide)
                have ofD2' : @Ne Nat (s1.heap.objs.size + 1 + 1 + 1) D2 := offD2.2.2.1
                k_steps
                unfold Halt
                rename_i hL4 oL4 FL NL dL4
                have l126' : @LT.lt Nat _ 126 s1.heap.objs.size := l126
                have h126 : (ghostOf s1.heap [(130, 126)]).get? 126 = none := (NL (126, _) (by k_mem)).2.2
                refine c_order w (hg := ghostOf s1.heap [(130, 126)]) (GD.deep (d' := 8) (u' := 300) (by decide) (by decide)) (by exact FL.keep) h126 codeHd (by exact (NL (126, _) (by k_mem)).1) (.inl rfl) (by exact ⟨_, (NL (D2, _) (.tail _ (.head _))).1, rfl, _, rfl⟩) hcards (by simp [hml])
                  (fun i => rk (ms.map cardStr) (i : Int)) (rk_ord _) ?_
                intro D5 h5 tk5 ps5 p1 vs5 c5 hB5 hT5 hLT5 hn5 hD5 hI5 hp1 hs1
                have FO := fr_extB FL hB5 h126 (Nat.ne_of_gt l126')
                have oM126 : @Ne Nat lM 126 := by have := hlM 0 (by decide); omega
                have oD2126 : @Ne Nat D2 126 := Ne.symm (off1_mem offD2 (126, _) (by k_mem))
                have oD4126 : @Ne Nat D4 126 := Ne.symm (off1_mem offD4 (126, _) (by k_mem))
                have NO0 : News (ghostOf s1.heap [(130, 126)]) s1.heap.objs.size h5 [(D4, lst ys4), (D2, lst ys2), (lM, W.listOf mvs.toArray n), (s1.heap.objs.size + 1 + 1 + 1 + 1, cB), (s1.heap.objs.size + 1 + 1 + 1, oL4), (s1.heap.objs.size + 1 + 1, oC2), (s1.heap.objs.size + 1, oT2)] :=
                  news_extB (led := [(D4, lst ys4), (D2, lst ys2), (lM, W.listOf mvs.toArray n), (s1.heap.objs.size + 1 + 1 + 1 + 1, cB), (s1.heap.objs.size + 1 + 1 + 1, oL4), (s1.heap.objs.size + 1 + 1, oC2), (s1.heap.objs.size + 1, oT2)]) (fun p hp => NL p (by
                    simp only [List.mem_cons, List.not_mem_nil, or_false] at hp ⊢
                    grind)) hB5 (by
                    intro p hp
                    simp only [List.mem_cons, List.not_mem_nil, or_false] at hp
                    rcases hp with rfl | rfl | rfl | rfl | rfl | rfl | rfl
                    · exact oD4126
                    · exact oD2126
                    · exact oM126
                    · show @Ne Nat (s1.heap.objs.size + 1 + 1 + 1 + 1) 126; omega
                    · show @Ne Nat (s1.heap.objs.size + 1 + 1 + 1) 126; omega
                    · show @Ne Nat (s1.heap.objs.size + 1 + 1) 126; omega
                    · show @Ne Nat (s1.heap.objs.size + 1) 126; omega)
                have NO := news_at FL hn5 hD5 NO0
                obtain ⟨T0, nT0, fT0, kT0⟩ := lam_keep FO hLT5
                have oT0 := lam_off126 nT0 fT0 hT5 hLT5
                have cT0 : ∀ p ∈ T0, @Ne Nat p.1 (s1.heap.objs.size + 1 + 1 + 1 + 1) := lam_off nT0 fT0 (NO0 (s1.heap.objs.size + 1 + 1 + 1 + 1, _) (by k_mem)).1 dB
                have NO1 : News (ghostOf s1.heap [(130, 126)]) s1.heap.objs.size h5 ((D5, W.listOf vs5.toArray c5) :: (D4, lst ys4) :: (D2, lst ys2) :: (lM, W.listOf mvs.toArray n) :: (s1.heap.objs.size + 1 + 1 + 1 + 1, cB) :: (s1.heap.objs.size + 1 + 1 + 1, oL4) :: (s1.heap.objs.size + 1 + 1, oC2) :: (s1.heap.objs.size + 1, oT2) :: (126, tabObj ps5) :: T0) := fun p hp => by
                  by_cases hp' : p ∈ ([(D5, W.listOf vs5.toArray c5), (D4, lst ys4), (D2, lst ys2), (lM, W.listOf mvs.toArray n), (s1.heap.objs.size + 1 + 1 + 1 + 1, cB), (s1.heap.objs.size + 1 + 1 + 1, oL4), (s1.heap.objs.size + 1 + 1, oC2), (s1.heap.objs.size + 1, oT2)] : List (Addr × Obj))
                  · exact NO p hp'
                  · by_cases hp2 : p ∈ T0
                    · exact nT0 p hp2
                    · have e : p = (126, tabObj ps5) := by
                        simp only [List.mem_cons, List.not_mem_nil, or_false] at hp hp'
                        grind
                      rw [e]
                      exact ⟨hT5, Nat.ne_of_lt l126', h126⟩
                clear NO NO0 NL FL
                k_steps
                unfold Halt
                refine c_lines w (GD.sub FO) (by exact ⟨_, (NO1 _ (.head _)).1, rfl, _, rfl⟩) hI5 (by exact ⟨_, (NO1 _ (.tail _ (.head _))).1, rfl, _, rfl⟩) hlooks (toI_rng hp1 (by simp [hml])) (toI_len hp1) (by simp [hml]) ?_
                rintro v h7 tk7' x7 ⟨a, al, am, R, R', nl, nm, rfl, hR, hR', hnew⟩
                obtain ⟨N7, off7⟩ := news_join FO NO1 x7 hnew
                have F8 := Fr.keeps FO x7
                obtain ⟨T, hT⟩ : ∃ T, T = T0 ++ (R ++ R') := ⟨_, rfl⟩
                have hT0 : ∀ p ∈ T0, p ∈ T := fun p hp => by rw [hT]; exact List.mem_append_left _ hp
                have hTR : ∀ p ∈ R, p ∈ T := fun p hp => by rw [hT]; exact List.mem_append_right _ (List.mem_append_left _ hp)
                have hTR' : ∀ p ∈ R', p ∈ T := fun p hp => by rw [hT]; exact List.mem_append_right _ (List.mem_append_right _ hp)
                have N8 : News (ghostOf s1.heap [(130, 126)]) s1.heap.objs.size h7 ((a, W.listOf #[.ref al, .ref am] 0) :: (am, W.listOf (refsOf R').toArray nm) :: (al, W.listOf (refsOf R).toArray nl) :: (D4, lst ys4) :: (D2, lst ys2) :: (lM, W.listOf mvs.toArray n) :: (s1.heap.objs.size + 1 + 1 + 1 + 1, cB) :: (s1.heap.objs.size + 1 + 1 + 1, oL4) :: (s1.heap.objs.size + 1 + 1, oC2) :: (s1.heap.objs.size + 1, oT2) :: (126, tabObj ps5) :: T) := fun p hp => N7 p (by
                  rw [hT] at hp
                  simp only [List.mem_cons, List.mem_append, List.not_mem_nil, or_false] at hp ⊢
                  grind)
                have hcb : (s1.heap.objs.size + 1 + 1 + 1 + 1, cB) ∈ ((D5, W.listOf vs5.toArray c5) :: (D4, lst ys4) :: (D2, lst ys2) :: (lM, W.listOf mvs.toArray n) :: (s1.heap.objs.size + 1 + 1 + 1 + 1, cB) :: (s1.heap.objs.size + 1 + 1 + 1, oL4) :: (s1.heap.objs.size + 1 + 1, oC2) :: (s1.heap.objs.size + 1, oT2) :: (126, tabObj ps5) :: T0 : List (Addr × Obj)) := by k_mem
                have hc126 : (126, tabObj ps5) ∈ ((D5, W.listOf vs5.toArray c5) :: (D4, lst ys4) :: (D2, lst ys2) :: (lM, W.listOf mvs.toArray n) :: (s1.heap.objs.size + 1 + 1 + 1 + 1, cB) :: (s1.heap.objs.size + 1 + 1 + 1, oL4) :: (s1.heap.objs.size + 1 + 1, oC2) :: (s1.heap.objs.size + 1, oT2) :: (126, tabObj ps5) :: T0 : List (Addr × Obj)) := by k_mem
                have ofa : @Ne Nat a (s1.heap.objs.size + 1 + 1 + 1 + 1) ∧ @Ne Nat am (s1.heap.objs.size + 1 + 1 + 1 + 1) ∧ @Ne Nat al (s1.heap.objs.size + 1 + 1 + 1 + 1) := ⟨off7 _ (.head _) _ hcb, off7 _ (.tail _ (.head _)) _ hcb, off7 _ (.tail _ (.tail _ (.head _))) _ hcb⟩
                have ofa126 : @Ne Nat a 126 ∧ @Ne Nat am 126 ∧ @Ne Nat al 126 := ⟨off7 _ (.head _) _ hc126, off7 _ (.tail _ (.head _)) _ hc126, off7 _ (.tail _ (.tail _ (.head _))) _ hc126⟩
                have ofT : OwnOff T [s1.heap.objs.size + 1 + 1 + 1 + 1] := fun p hp b hb => by
                  rw [List.mem_singleton.mp hb]
                  rw [hT] at hp
                  rcases List.mem_append.mp hp with hp | hp
                  · exact cT0 p hp
                  · exact off7 p (.tail _ (.tail _ (.tail _ hp))) _ hcb
                have ofT126 : ∀ p ∈ T, @Ne Nat p.1 126 := fun p hp => by
                  rw [hT] at hp
                  rcases List.mem_append.mp hp with hp | hp
                  · exact oT0 p hp
                  · exact off7 p (.tail _ (.tail _ (.tail _ hp))) _ hc126
                have ofD4b : @Ne Nat D4 (s1.heap.objs.size + 1 + 1 + 1 + 1) ∧ @Ne Nat D2 (s1.heap.objs.size + 1 + 1 + 1 + 1) := ⟨Ne.symm (off1_mem offD4 (s1.heap.objs.size + 1 + 1 + 1 + 1, _) (by k_mem)), Ne.symm (off1_mem offD2 (s1.heap.objs.size + 1 + 1 + 1 + 1, _) (by k_mem))⟩
                have oM4' : @LT.lt Nat _ (s1.heap.objs.size + 1 + 1 + 1 + 1) lM := hlM 4 (by decide)
                clear N7 off7 hnew NO1 FO hcb hc126 hT cT0 oT0 nT0
                k_steps
                rename_i hY oB2 FY0 NY0 dB2 hZ tkZ tz1 tz2 tz3 hRZ FZ NZ hxZ
                clear FY0 NY0 hxZ
                refine lc_map (fun i ys => StrsAre ys ((ms.map fun m => lookOf m ++ cardStr m).take i)) (Source.upto (n := 6) rfl hRZ rfl (by decide)) (by rw [sizeLine_eq]; decide) (by decide) rfl rfl FZ NZ .nil ?_ ?_ ?_
                · intros; trivial
                · intro i v ys I oI C oC D m₂ h tk Q1 hi hPP hys hoC hx F2 N2 off ne hQ1
                  obtain ⟨tv, rfl⟩ := hPP
                  clear NZ FZ hRZ
                  k_steps
                  rw [Int.toNat_natCast, getD_map (by omega), getD_map (by omega)]
                  refine PyProof.Rows.add_str ?_ (by rw [look_len, card_len, sizeLine_eq]; decide)
                  intro t8' tk8'
                  refine hQ1 _ _ _ _ F2 N2 (fun _ hp => hp) (strs_nextS hys ?_)
                  rw [List.getElem?_map, List.getElem?_eq_getElem (by omega), Option.map_some]
                  simp [List.getD, List.getElem?_eq_getElem (show i < ms.length by omega)]
                · intro D6 h tk ys6 F2 N2 offD6 hboth
                  clear NZ FZ hRZ
                  rw [← hml, ← List.length_map (f := fun m => lookOf m ++ cardStr m), List.take_length] at hboth
                  dsimp only
                  k_steps
                  unfold Halt
                  have hLT8 := kT0 _ F2.keep (fun p hp => (N2 p (by
                    have := hT0 p hp
                    simp only [List.mem_cons]
                    grind)).1)
                  have oD6126 : @Ne Nat D6 126 := Ne.symm (off1_mem offD6 (126, _) (by k_mem))
                  refine c_order w (hg := ghostOf s1.heap [(130, 126)]) (GD.deep (d' := 8) (u' := 300) (by decide) (by decide)) (by exact F2.keep) h126 codeHd (by exact (N2 (126, _) (by k_mem)).1) hLT8 (by exact ⟨_, (N2 (D6, _) (.head _)).1, rfl, _, rfl⟩) hboth (by simp [hml])
                    (fun i => rk (ms.map fun m => lookOf m ++ cardStr m) (i : Int)) (rk_ord _) ?_
                  intro D7 h8' tk8' ps8 p2 vs7 c7 hB7 hT7 _ hn7 hD7 hI7 hp2 hs2
                  have FQ := fr_extB F2 hB7 h126 (Nat.ne_of_gt l126')
                  have NQ0 : News (ghostOf s1.heap [(130, 126)]) s1.heap.objs.size h8' ((a, W.listOf #[.ref al, .ref am] 0) :: (am, W.listOf (refsOf R').toArray nm) :: (al, W.listOf (refsOf R).toArray nl) :: (D4, lst ys4) :: (D2, lst ys2) :: (lM, W.listOf mvs.toArray n) :: (s1.heap.objs.size + 1 + 1 + 1 + 1, oB2) :: (s1.heap.objs.size + 1 + 1 + 1, oL4) :: (s1.heap.objs.size + 1 + 1, oC2) :: T) := news_extB (fun p hp => N2 p (by
                    simp only [List.mem_cons] at hp ⊢
                    grind)) hB7 (by
                    intro p hp
                    simp only [List.mem_cons] at hp
                    rcases hp with rfl | rfl | rfl | rfl | rfl | rfl | rfl | rfl | rfl | hp
                    · exact ofa126.1
                    · exact ofa126.2.1
                    · exact ofa126.2.2
                    · exact oD4126
                    · exact oD2126
                    · exact oM126
                    · show @Ne Nat (s1.heap.objs.size + 1 + 1 + 1 + 1) 126; omega
                    · show @Ne Nat (s1.heap.objs.size + 1 + 1 + 1) 126; omega
                    · show @Ne Nat (s1.heap.objs.size + 1 + 1) 126; omega
                    · exact ofT126 p hp)
                  have NQa := news_at F2 hn7 hD7 NQ0
                  have NQ : News (ghostOf s1.heap [(130, 126)]) s1.heap.objs.size h8' ((D7, W.listOf vs7.toArray c7) :: (a, W.listOf #[.ref al, .ref am] 0) :: (am, W.listOf (refsOf R').toArray nm) :: (al, W.listOf (refsOf R).toArray nl) :: (D4, lst ys4) :: (D2, lst ys2) :: (lM, W.listOf mvs.toArray n) :: (s1.heap.objs.size + 1 + 1 + 1 + 1, oB2) :: (s1.heap.objs.size + 1 + 1 + 1, oL4) :: (s1.heap.objs.size + 1 + 1, oC2) :: (126, tabObj ps8) :: T) := fun p hp => by
                    by_cases e : p = (126, tabObj ps8)
                    · rw [e]; exact ⟨hT7, Nat.ne_of_lt l126', h126⟩
                    · exact NQa p (by
                        simp only [List.mem_cons] at hp ⊢
                        grind)
                  clear NQa
                  clear NQ0 F2 N2 offD6 hLT8
                  k_steps
                  unfold Halt
                  refine c_lines w (GD.sub FQ) (by exact ⟨_, (NQ _ (.head _)).1, rfl, _, rfl⟩) hI7 (by exact ⟨_, (NQ (D2, _) (by k_mem)).1, rfl, _, rfl⟩) hcards (toI_rng hp2 (by simp [hml])) (toI_len hp2) (by simp [hml]) ?_
                  rintro v h9' tk9' x9 ⟨a2, al2, am2, S, S', nl2, nm2, rfl, hS, hS', hnew⟩
                  obtain ⟨N9, _⟩ := news_join FQ NQ x9 hnew
                  have FU := Fr.keeps FQ x9
                  obtain ⟨U, hU⟩ : ∃ U, U = (S ++ S') ++ T := ⟨_, rfl⟩
                  have hUS : ∀ p ∈ S, p ∈ U := fun p hp => by rw [hU]; exact List.mem_append_left _ (List.mem_append_left _ hp)
                  have hUS' : ∀ p ∈ S', p ∈ U := fun p hp => by rw [hU]; exact List.mem_append_left _ (List.mem_append_right _ hp)
                  have hUR : ∀ p ∈ R, p ∈ U := fun p hp => by rw [hU]; exact List.mem_append_right _ (hTR p hp)
                  have hUR' : ∀ p ∈ R', p ∈ U := fun p hp => by rw [hU]; exact List.mem_append_right _ (hTR' p hp)
                  have NU : News (ghostOf s1.heap [(130, 126)]) s1.heap.objs.size h9' ((a2, W.listOf #[.ref al2, .ref am2] 0) :: (am2, W.listOf (refsOf S').toArray nm2) :: (al2, W.listOf (refsOf S).toArray nl2) :: (a, W.listOf #[.ref al, .ref am] 0) :: (am, W.listOf (refsOf R').toArray nm) :: (al, W.listOf (refsOf R).toArray nl) :: (D4, lst ys4) :: (D2, lst ys2) :: (lM, W.listOf mvs.toArray n) :: (s1.heap.objs.size + 1 + 1 + 1 + 1, oB2) :: (s1.heap.objs.size + 1 + 1 + 1, oL4) :: (s1.heap.objs.size + 1 + 1, oC2) :: (126, tabObj ps8) :: U) := fun p hp => N9 p (by
                    rw [hU] at hp
                    simp only [List.mem_cons, List.mem_append] at hp ⊢
                    grind)
                  clear N9 NQ FQ hnew
                  k_steps
                  rename_i hW FW NW
                  refine nest_looks w (ts := ms.map lookOf) (R := R) (PP := (linesOf (abT (ms.map lookOf)) (toI p1)).1) XX rfl rfl FW NW (by k_mem) dL4 (by k_mem) hlooks (by k_mem) (fun p hp => .tail _ (.tail _ (.tail _ (.tail _ (.tail _ (.tail _ (.tail _ (.tail _ (.tail _ (.tail _ (.tail _ (.tail _ (.tail _ (hUR p hp)))))))))))))) hR (fun r hr k hk => ⟨((lines_rng hp1).1 r hr k hk).1, by rw [List.length_map, hml]; exact ((lines_rng hp1).1 r hr k hk).2⟩) (lines_le hp1).2 (lines_le hp1).1 (by rw [List.length_map, hml]; decide) ?_
                  · intro D8 h tk V8 FW' NW' offD8 hV8
                    dsimp only [List.cons_append] at NW' offD8
                    clear FW NW
                    dsimp only
                    k_steps
                    refine nest_looks w (ts := ms.map lookOf) (R := S') (PP := (linesOf (abT (ms.map cardStr)) (toI p2)).2) XX rfl rfl FW' NW' (by k_mem) dL4 (by k_mem) hlooks (by k_mem) (fun p hp => .tail _ (.tail _ (.tail _ (.tail _ (.tail _ (.tail _ (.tail _ (.tail _ (.tail _ (.tail _ (.tail _ (.tail _ (.tail _ (.tail _ (List.mem_append_left _ (hUS' p hp)))))))))))))))) hS' (fun r hr k hk => ⟨((lines_rng hp2).2 r hr k hk).1, by rw [List.length_map, hml]; exact ((lines_rng hp2).2 r hr k hk).2⟩) (marks_le hp2).2 (marks_le hp2).1 (by rw [List.length_map, hml]; decide) ?_
                    · intro D9 h tk V9 FW'' NW'' offD9 hV9
                      dsimp only [List.cons_append] at NW'' offD9
                      clear FW' NW'
                      dsimp only
                      k_steps
                      unfold Halt
                      refine nest_ne NW'' (.tail _ (.head _)) (.head _) hV8 hV9 (fun p hp => .tail _ (.tail _ (.tail _ (.tail _ (.tail _ (.tail _ (.tail _ (.tail _ (.tail _ (.tail _ (.tail _ (.tail _ (.tail _ (.tail _ (.tail _ (List.mem_append_left _ (List.mem_append_right _ hp))))))))))))))))) (fun p hp => .tail _ (.tail _ (.tail _ (.tail _ (.tail _ (.tail _ (.tail _ (.tail _ (.tail _ (.tail _ (.tail _ (.tail _ (.tail _ (.tail _ (.tail _ (List.mem_append_right _ hp)))))))))))))))) ?_ (lawA hml hmr hp1 hp2 hs1 hs2) (by rw [units_deeper, units_caller]; decide) ?_
                      · intro r hr x hx
                        obtain ⟨r0, _, rfl⟩ := List.mem_map.mp hr
                        obtain ⟨k, _, rfl⟩ := List.mem_map.mp hx
                        exact strOk_getD strOk_look ms _
                      have NB : News (ghostOf s1.heap [(130, 126)]) s1.heap.objs.size _ ((a2, W.listOf #[.ref al2, .ref am2] 0) :: (am2, W.listOf (refsOf S').toArray nm2) :: (al2, W.listOf (refsOf S).toArray nl2) :: (a, W.listOf #[.ref al, .ref am] 0) :: (am, W.listOf (refsOf R').toArray nm) :: (al, W.listOf (refsOf R).toArray nl) :: (D4, lst ys4) :: (D2, lst ys2) :: (lM, W.listOf mvs.toArray n) :: (s1.heap.objs.size + 1 + 1 + 1 + 1, oB2) :: (s1.heap.objs.size + 1 + 1 + 1, oL4) :: (s1.heap.objs.size + 1 + 1, oC2) :: (126, tabObj ps8) :: U) := fun p hp => NW'' p (by
                        simp only [List.mem_cons, List.mem_append] at hp ⊢
                        grind)
                      clear NW'' hV8 hV9 offD8 offD9
                      k_steps
                      refine nest_cards w (ts := ms.map cardStr) (R := R') (PP := (linesOf (abT (ms.map lookOf)) (toI p1)).2) XX rfl rfl FW'' NB (by k_mem) dC2 (by k_mem) hcards (by k_mem) (fun p hp => .tail _ (.tail _ (.tail _ (.tail _ (.tail _ (.tail _ (.tail _ (.tail _ (.tail _ (.tail _ (.tail _ (.tail _ (.tail _ (hUR' p hp)))))))))))))) hR' (fun r hr k hk => ⟨((lines_rng hp1).2 r hr k hk).1, by rw [List.length_map, hml]; exact ((lines_rng hp1).2 r hr k hk).2⟩) (marks_le hp1).2 (marks_le hp1).1 (by rw [List.length_map, hml]; decide) ?_
                      · intro D10 h tk V10 FW''' NB' offD10 hV10
                        dsimp only [List.cons_append] at NB' offD10
                        clear FW'' NB
                        dsimp only
                        k_steps
                        refine nest_cards w (ts := ms.map cardStr) (R := S) (PP := (linesOf (abT (ms.map cardStr)) (toI p2)).1) XX rfl rfl FW''' NB' (by k_mem) dC2 (by k_mem) hcards (by k_mem) (fun p hp => .tail _ (.tail _ (.tail _ (.tail _ (.tail _ (.tail _ (.tail _ (.tail _ (.tail _ (.tail _ (.tail _ (.tail _ (.tail _ (.tail _ (List.mem_append_left _ (hUS p hp)))))))))))))))) hS (fun r hr k hk => ⟨((lines_rng hp2).1 r hr k hk).1, by rw [List.length_map, hml]; exact ((lines_rng hp2).1 r hr k hk).2⟩) (lines_le hp2).2 (lines_le hp2).1 (by rw [List.length_map, hml]; decide) ?_
                        · intro D11 h tk V11 FW'''' NB'' offD11 hV11
                          dsimp only [List.cons_append] at NB'' offD11
                          clear FW''' NB'
                          dsimp only
                          k_steps
                          unfold Halt
                          refine nest_ne NB'' (.tail _ (.head _)) (.head _) hV10 hV11 (fun p hp => .tail _ (.tail _ (.tail _ (.tail _ (.tail _ (.tail _ (.tail _ (.tail _ (.tail _ (.tail _ (.tail _ (.tail _ (.tail _ (.tail _ (.tail _ (List.mem_append_left _ (List.mem_append_right _ hp))))))))))))))))) (fun p hp => .tail _ (.tail _ (.tail _ (.tail _ (.tail _ (.tail _ (.tail _ (.tail _ (.tail _ (.tail _ (.tail _ (.tail _ (.tail _ (.tail _ (.tail _ (List.mem_append_right _ hp)))))))))))))))) ?_ (lawB hml hmr hp1 hp2 hs1 hs2) (by rw [units_deeper, units_caller]; decide) ?_
                          · intro r hr x hx
                            obtain ⟨r0, _, rfl⟩ := List.mem_map.mp hr
                            obtain ⟨k, _, rfl⟩ := List.mem_map.mp hx
                            exact strOk_getD strOk_card ms _
                          have NC1 : News (ghostOf s1.heap [(130, 126)]) s1.heap.objs.size _ ((a2, W.listOf #[.ref al2, .ref am2] 0) :: (am2, W.listOf (refsOf S').toArray nm2) :: (al2, W.listOf (refsOf S).toArray nl2) :: (a, W.listOf #[.ref al, .ref am] 0) :: (am, W.listOf (refsOf R').toArray nm) :: (al, W.listOf (refsOf R).toArray nl) :: (D4, lst ys4) :: (D2, lst ys2) :: (lM, W.listOf mvs.toArray n) :: (s1.heap.objs.size + 1 + 1 + 1 + 1, oB2) :: (s1.heap.objs.size + 1 + 1 + 1, oL4) :: (s1.heap.objs.size + 1 + 1, oC2) :: (126, tabObj ps8) :: U) := fun p hp => NB'' p (by
                            simp only [List.mem_cons, List.mem_append] at hp ⊢
                            grind)
                          clear NB'' hV10 hV11 offD10 offD11
                          k_steps
                          rename_i hK tkK tk1' tk2' tk3' hRK FK NK hxK
                          clear hxK
                          have hRz : R.length ≤ 6 := by rw [hR.1]; exact (lines_le hp1).1
                          refine lc_invA (L := s1.heap.objs.size) (fun i ys led' => led' = _ ∧ IntsAre ys ((List.range i).map (fun k : Nat => (((((linesOf (abT (ms.map lookOf)) (toI p1)).1.take (k + 1)).map List.length).sum : Nat) : Int)))) rfl rfl rfl (Source.range (n := 6) rfl hRK (by rfl) (by rfl)) (by rw [sizeLine_eq]; decide) (by decide) rfl rfl FK NK ⟨rfl, .nil⟩ ?_ ?_ ?_
                          · intros; trivial
                          · rintro i v ys led₁ I oI C oC D m₂ h tk hi ⟨tv, rfl⟩ ⟨rfl, hys⟩ hoC hx F2 N2 off ne
                            clear FK NK hRK
                            refine wpAny_tests_nil ?_
                            show wpAny _ _ _ _ _ _
                            dsimp only
                            refine gen_post fun Q1 hQ1 => ?_
                            k_steps
                            unfold Halt
                            refine kba_turn (value' := PySem.Expr.Name (PySem.Str.ofString "_") ⟨0, 0, 0, 0⟩) (fun _ => rfl) ?_
                            refine' kmk_slice_lit (lo := none) (hi := some (1 + (i : Int))) F2 N2 ⟨_, (N2 (al, _) (by k_mem)).1, rfl, _, rfl⟩ .none (.int _ _) (pick_refs R i) ?_ ?sl1 ?sl2 ?sl3
                            case sl1 => with_unfolding_all rfl
                            case sl2 => (intro r; rfl)
                            case sl3 => (rw [List.size_toArray, sizeLine_eq]; simp only [refsOf, List.length_map]; omega)
                            intro D5' h5' F3 N3 _
                            have hRt := hR.take (i + 1)
                            refine lc_map (fun j zs => IntsAre zs (((((linesOf (abT (ms.map lookOf)) (toI p1)).1.take (i + 1)).map List.length).map fun n : Nat => (n : Int)).take j)) (Source.list rfl ⟨_, (N3 _ (.head _)).1, rfl, _, rfl⟩) (by rw [List.size_toArray, sizeLine_eq]; simp only [refsOf, List.length_map, List.length_take]; omega) (by decide) rfl rfl F3 N3 .nil ?_ ?_ ?_
                            · intro h' F' N'
                              exact ⟨_, (N' _ (.head _)).1, rfl, _, rfl⟩
                            · intro j v zs I2 oI2 C2 oC2' D2' m₃ h tk Q1 hj hv2 hzs hoC2 hx2 F4 N4 off4 ne4 hQ1
                              clear N3 F3 N2 F2
                              obtain ⟨d, vs, nd, r, rfl, hdm, hPr, hIr⟩ := refs_get hRt hv2
                              have hPr' : (linesOf (abT (ms.map lookOf)) (toI p1)).1[j]? = some r := by
                                rw [List.getElem?_take] at hPr
                                split at hPr
                                · exact hPr
                                · cases hPr
                              have hrle := (lines_le hp1).2 r (List.mem_of_getElem? hPr')
                              have hmem : (d, W.listOf vs.toArray nd) ∈ ((I2, oI2) :: (C2, oC2') :: (D2', lst zs) :: (D5', W.listOf (refsOf (R.take (i + 1))).toArray 0) :: (I, oI) :: (C, oC) :: (D, lst ys) :: (a2, W.listOf #[.ref al2, .ref am2] 0) :: (am2, W.listOf (refsOf S').toArray nm2) :: (al2, W.listOf (refsOf S).toArray nl2) :: (a, W.listOf #[.ref al, .ref am] 0) :: (am, W.listOf (refsOf R').toArray nm) :: (al, W.listOf (refsOf R).toArray nl) :: (D4, lst ys4) :: (D2, lst ys2) :: (lM, W.listOf mvs.toArray n) :: (s1.heap.objs.size + 1 + 1 + 1 + 1, oB2) :: (s1.heap.objs.size + 1 + 1 + 1, oL4) :: (s1.heap.objs.size + 1 + 1, oC2) :: (126, tabObj ps8) :: U : List (Addr × Obj)) := .tail _ (.tail _ (.tail _ (.tail _ (.tail _ (.tail _ (.tail _ (.tail _ (.tail _ (.tail _ (.tail _ (.tail _ (.tail _ (.tail _ (.tail _ (.tail _ (.tail _ (.tail _ (.tail _ (.tail _ (hUR _ (List.mem_of_mem_take hdm)))))))))))))))))))))
                              have hvz : vs.toArray.size = r.length := by rw [List.size_toArray, hIr.length]
                              k_steps
                              unfold Halt
                              refine len_led N4 hmem hvz (by omega) ?_
                              exact hQ1 _ _ _ _ F4 N4 (fun _ hp => hp) (by
                                rw [List.take_add_one, List.getElem?_map, List.getElem?_map, hPr]
                                exact ksk_snoc hzs)
                            · intro D6' h tk zs F4 N4 off' hzs
                              clear N3 F3 N2 F2
                              have hzl : (refsOf (R.take (i + 1))).toArray.size = ((((linesOf (abT (ms.map lookOf)) (toI p1)).1.take (i + 1)).map List.length).map fun n : Nat => (n : Int)).length := by
                                simp only [List.size_toArray, refsOf, List.length_map]; exact hRt.1
                              rw [hzl, List.take_length] at hzs
                              dsimp only
                              k_steps
                              unfold Halt
                              refine sum_exact rfl ⟨_, (N4 _ (.head _)).1, rfl, _, rfl⟩ hzs ?_
                              intro h6' tk6' t6' hx6
                              rw [sum_cast]
                              refine hQ1 _ _ (LcE.intro (Fr.keeps F4 hx6) (News.grown N4 hx6) _ (fun p hp => .tail _ (.tail _ hp)) off ⟨rfl, ?_⟩)
                              rw [List.range_succ, List.map_append]
                              exact ksk_snoc hys
                          · rintro Dt h tk yst led' FT NT offT ⟨rfl, htold⟩
                            clear FK NK hRK
                            k_steps
                            unfold Halt
                            have hsz : mvs.length = 6 := by rw [hms.length]; exact hml
                            refine gsorted (f := .ref 124) (kw := [(Str.ofString "key", .ref 124)]) (G := CardKey ms) (fun i : Nat => rk (ms.map cardStr) (i : Int)) (Collects.list (vs := mvs) ⟨_, (NT (lM, _) (by k_mem)).1, rfl, _, rfl⟩ (by omega)) ?_ (ksk_s1 _ _) (fun x => ksk_l1 _ _) (fun x => ksk_t1 _ _) (cardBook hml ?uCB) ?_ ?_
                            case uCB => (simp only [units_in1, units_deeper, units_caller]; decide)
                            · rintro us rfl; omega
                            · rintro us rfl i v h tk9 hi hxh
                              obtain ⟨x, tx, rfl, hxm⟩ := hms.at i v hi
                              have hxr := hmr x (List.mem_of_getElem? hxm)
                              have hi6 : i < 6 := by have := (List.getElem?_eq_some_iff.mp hxm).1; omega
                              refine c_card w ((((GD.deep (d' := 8) (u' := 320) (by decide) (by decide)).in1 (u' := 310) (by decide)).in1 (u' := 300) (by decide)).keeps (Ext.trans FT.keep hxh)) hxr.1 hxr.2 ?_
                              intro D' ys' h' tk' hxt hD0 hD1 hI
                              have e : ms.getD i 0 = x := by simp [List.getD, hxm]
                              exact ⟨h', tk', [(D', lst ys')], rfl, hxt, fun p hp => by rw [List.mem_singleton.mp hp]; exact ⟨hD0, hD1⟩, hi6, D', ys', rfl, rfl, by rw [e]; exact hI⟩
                            · rintro us hus Ds h' tk' p3 c3 hxs hDs0 hDs1 hp3 hs3
                              have hus' : mvs = us := hus.symm
                              subst hus'
                              rw [hsz] at hp3
                              have F9 := Fr.keeps FT hxs
                              have N9 := news_at FT hDs0 hDs1 (News.grown NT hxs)
                              have hl3 : p3.length = 6 := by simpa using hp3.length_eq
                              clear FT NT hxs
                              refine lc_map (fun j zs => IntsAre zs ((p3.map fun i => numberOf (ms.getD i 0)).take j)) (Source.list rfl ⟨_, (N9 _ (.head _)).1, rfl, _, rfl⟩) (by rw [List.size_toArray, List.length_map, hl3, sizeLine_eq]; decide) (by decide) rfl rfl F9 N9 .nil ?_ ?_ ?_
                              · intro h' F' N'
                                exact ⟨_, (N' _ (.head _)).1, rfl, _, rfl⟩
                              · intro j v zs I2 oI2 C2 oC2' D2' m₃ h tk Q1 hj hv2 hzs hoC2 hx2 F4 N4 off4 ne4 hQ1
                                clear N9 F9
                                have hv3 : (p3.map fun i => mvs.getD i .none)[j]? = some v := by rw [← hv2, List.getElem?_toArray]
                                rw [List.getElem?_map] at hv3
                                obtain ⟨q, hq, rfl⟩ := Option.map_eq_some_iff.mp hv3
                                have hq6 : q < 6 := perm_lt6 hp3 q (List.mem_of_getElem? hq)
                                obtain ⟨tq, htq⟩ := hms.get q (ms.getD q 0) (by simp [List.getD, List.getElem?_eq_getElem (show q < ms.length by omega)])
                                have ev : mvs.getD q .none = .int (ms.getD q 0) tq := by simp [List.getD, htq]
                                rw [ev] at hx2
                                have hqr := ms_get hmr (show q < ms.length by omega)
                                k_steps
                                unfold Halt
                                refine c_number w (GD.sub F4) hqr.1 hqr.2 ?_
                                intro tr h' tk' hxt
                                exact hQ1 _ _ _ _ (Fr.keeps F4 hxt) (News.grown N4 hxt) (fun _ hp => hp) (by
                                  rw [List.take_add_one, List.getElem?_map, hq]
                                  exact ksk_snoc hzs)
                              · intro Dn h tk zsn F10 N10 offn hns
                                clear N9 F9
                                have hzl : (p3.map fun i => mvs.getD i .none).toArray.size = (p3.map fun i => numberOf (ms.getD i 0)).length := by simp
                                rw [hzl, List.take_length] at hns
                                dsimp only
                                k_steps
                                unfold Halt
                                refine c_most w (GD.sub F10) (by exact ⟨_, (N10 _ (.head _)).1, rfl, _, rfl⟩) hns (by simp [hl3]) ?_
                                intro Dm vsm cm h11 tk11 hx11 hDm0 hDm1 hIm
                                have F11 := Fr.keeps F10 hx11
                                have N11 := news_at F10 hDm0 hDm1 (News.grown N10 hx11)
                                clear N10 F10 hx11
                                rw [← lawC hml hmr hp1 hp3 hs1 hs3] at hIm
                                k_steps
                                unfold Halt
                                refine ke_eq_ints ⟨_, (N11 (Dt, _) (by k_mem)).1, rfl, _, rfl⟩ ⟨_, (N11 _ (.head _)).1, rfl, _, rfl⟩ htold hIm (by rw [units_deeper, units_caller]; decide) ?_
                                rw [decide_eq_true rfl]
                                k_steps
                                refine hQ0 _ _ ?_
                                k_steps
    ))
end TL1
end Mine
theorem PySem.Challenge.cw_oy0037_01_holds : PySem.Challenge.rw_oy0037_01.Holds :=
  Mine.lawT
